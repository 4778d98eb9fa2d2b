import JvmDerived
import JvmDerived.Pilot.@@N@@Statement
import JvmDerived.Pilot.@@N@@Code
set_option linter.unusedVariables false
set_option linter.unusedSimpArgs false
@@BLOCK:TracedD.lean.txt@@
namespace Jvm.RoadKit
open Sem ClassFile Op Lib Jvm.Stand Jvm.Free Jvm.LawKit
section New
variable {p : Program} {l : Launch} {e : Env} {R : Room} {s : State} {m : MethodId} {args : Array Value} {below : List Frame} {meth : Method} {c : Code} {T : State} {locs : List Loc} {cells slots : Nat}
theorem retI (X : Stand p l e R s m args below meth c T locs cells slots) (hx : p.tables.exec = Jvm.exec) {pc : Nat} {Ls : Array Slot} {z : Int32} {rest : List Value} (hret : meth.sig.returnType = some .int) (hd : decode c.code pc = .ok (.ireturn, 1)) {fs : List Frame}
    (hl : ∀ (f : JFrame) (acts : List Action), f.method = m → f.locked = none → f.entered = [] → (doReturn e (T.setTop f) acts (some (.int z))).1 = T.setFrames fs) : Steps p.tables e below (T.setTop (mkF m pc Ls (.int z :: rest))) (T.setFrames fs) := by
  have hm' : T.vm.method? m = some meth := X.method'
  have hn : narrow .int (.int z) = .int z := rfl
  show Steps p.tables e below (T.setTop { method := m, pc := pc, locals := Ls, stack := _ :: rest, locked := none }) _
  jvm_step X.here [X.here.top, hx, hd, hm', hret, hn]
  first | (intro acts; rw [hl _ acts rfl rfl rfl]) | rw [hl _ _ rfl rfl rfl]
  exact Steps.refl _
end New
end Jvm.RoadKit
namespace Jvm.Pilot.@@N@@
open Jvm Jvm.ClassFile Sem Op Lib Jvm.Free Jvm.Stand Jvm.LawKit Jvm.RoadKit Bundle Jvm.Pilot.@@N@@.Jvm.D
theorem own_mod (x d : Int32) (D : Int) (hd : d.toInt = D) (h : 0 < D) : 0 ≤ ((x &&& (2147483647 : Int32)) % d).toInt ∧ ((x &&& (2147483647 : Int32)) % d).toInt < D := by
  have h1 := (c_and x 2147483647 (by decide)).1
  have h2 := (c_irem (x &&& 2147483647) d D hd).1 h1
  rw [h2]; exact ⟨Int.emod_nonneg _ (by omega), Int.emod_lt_of_pos _ h⟩
theorem own_nat {k : Int32} (h : 0 ≤ k.toInt) : k = Int32.ofNat k.toNatClampNeg := by
  apply Int32.toInt_inj.mp
  have e : (k.toNatClampNeg : Int) = k.toInt := by simp only [Int32.toNatClampNeg]; omega
  have b : k.toInt < 2147483648 := by have := k.toInt_lt; omega
  rw [Int32.toInt_ofNat_of_lt (by omega)]; omega
theorem own_clamp {k : Int32} (h : 0 ≤ k.toInt) {n : Nat} (hn : k.toInt < n) : k.toNatClampNeg < n := by
  simp only [Int32.toNatClampNeg]; omega
theorem own_clamp_of {j : Nat} (h : j < 2147483648) : (Int32.ofNat j).toNatClampNeg = j := by
  have e : (Int32.ofNat j).toInt = j := Int32.toInt_ofNat_of_lt h
  simp only [Int32.toNatClampNeg, e]; omega
theorem own_nei {x k : Int32} {z : Int} (h : ¬ x = k) (hk : k.toInt = z) : x.toInt ≠ z := fun e => h (Int32.toInt_inj.mp (e.trans hk.symm))
theorem own_eqi {x k : Int32} {z : Int} (h : x.toInt = z) (hk : k.toInt = z) : x = k := Int32.toInt_inj.mp (h.trans hk.symm)
theorem own_sta_keep {Z : State} {h h' : Heap} {C n d : String} {v : Value} {ws : List Addr} (F : Sta Z h C n d v) (K : Keep h h' ws) (q : ∀ a ∈ ws, ∃ c : Cell, h[a]? = some c ∧ c.vm.isStatics = false) : Sta Z h' C n d v := by
  obtain ⟨cf, i, k, f, st, cell, h1, h2, h3, h4, h5, h6, h7⟩ := F
  refine ⟨cf, i, k, f, st, cell, h1, h2, h3, h4, K.2.1 st cell h5 (fun hm => ?_), h6, h7⟩
  obtain ⟨c, e1, e2⟩ := q st hm
  cases h5.symm.trans e1
  rw [e2] at h6; cases h6
theorem own_arr_keep {Z : State} {h h' : Heap} {a : Addr} {c : Cell} {ty : FieldType} {ws : List Addr} (A : Arr Z h a c ty) (K : Keep h h' ws) (q : a ∉ ws) : Arr Z h' a c ty := ⟨K.2.1 a c A.1 q, A.2⟩
theorem own_unt_ext {h h' : Heap} {a : Addr} (E : Ext h h') (U : Unt h a) : Unt h' a := by
  obtain ⟨c, h1, r⟩ := U; exact ⟨c, E.2 _ _ h1, r⟩
theorem own_nst {h : Heap} {ws : List Addr} (q : ∀ a ∈ ws, ∃ c : Cell, h[a]? = some c ∧ c.vm.isStatics = false) : ∀ x ∈ ws, ∀ cell : Cell, h[x]? = some cell → cell.vm.isStatics = false := fun x hx cell hc => by
  obtain ⟨c, e1, e2⟩ := q x hx; cases e1.symm.trans hc; exact e2
theorem own_ns {Z : State} {h : Heap} {C : String} {a : Addr} (E : Exa Z h a C) : ∃ c : Cell, h[a]? = some c ∧ c.vm.isStatics = false := by
  obtain ⟨c, k, h1, -, -, h4, -⟩ := E
  exact ⟨c, h1, h4⟩
def QL (n0 : Nat) (v : Option Value) (h : Heap) (L : List Loc) : Prop := v = some (.int (1 : Int32)) ∧ Fr n0 L
def QR (r : Value) (h0 : Heap) (n0 : Nat) (v : Option Value) (h : Heap) (L : List Loc) : Prop := v = some r ∧ Fr n0 L ∧ h = h0
theorem own_fldI {args : Array Value} {s : State} {t : Term} {C n d : String} {a : Addr} {k : Int32} (ht : t.eval args s none [] s = some (.ref a)) (h : (Jvm.Cond.eq (.field t C n d) (.int k)).value args s none s [] = some true) : Fld s s.heap a C n d (.int k) := by
  obtain ⟨u, w, e1, e2, k1, k2⟩ := cmp_v (Or.inl h)
  obtain rfl : w = .int k := (Option.some.inj (e2.symm.trans (Term.int_eval k)))
  obtain ⟨z, rfl⟩ := k2
  have hz : z = k := by simpa [Cond.value, e1, e2] using h
  subst hz
  rw [fld_at ht] at e1
  exact Fld.start e1
theorem own_fldR {args : Array Value} {s : State} {t u : Term} {C n d : String} {a b : Addr} (ht : t.eval args s none [] s = some (.ref a)) (hu : u.eval args s none [] s = some (.ref b)) (h : (Jvm.Cond.eq (.field t C n d) u).value args s none s [] = some true) : Fld s s.heap a C n d (.ref b) := by
  cases e1 : (Term.field t C n d).eval args s none [] s with
  | none => simp [Cond.value, e1] at h
  | some x =>
    have hx : x = .ref b := by
      cases x <;> simp [Cond.value, e1, hu] at h
      exact congrArg Value.ref h
    subst hx
    rw [fld_at ht] at e1
    exact Fld.start e1
abbrev zU : Slot := .unset
abbrev zS : Slot := .second
abbrev vI (x : Int32) : Slot := .val (.int x)
abbrev vJ (x : Int64) : Slot := .val (.long x)
abbrev vR (x : Addr) : Slot := .val (.ref x)
abbrev vN : Slot := .val .null
theorem wd {Z : State} {a0 : Array Value} (hw : ∀ d ∈ tables_1, d.before a0 Z = true) (i : Nat) {d : Jvm.Cond} (h : tables_1[i]? = some d) : d.before a0 Z = true := hw _ (List.mem_of_getElem? h)
/-- an array as a function: her class, length, components -/
def GA (Z : State) (h : Heap) (a : Addr) (k : ClassId) (ty : FieldType) (N : Nat) (vs : Nat → Value) : Prop := ∃ c : Cell, Arr Z h a c ty ∧ c.cls = k ∧ c.slots.size = N ∧ ∀ i, i < N → c.slots[i]? = some (vs i)
theorem GA.lt {Z : State} {h : Heap} {a : Addr} {k : ClassId} {ty : FieldType} {N : Nat} {vs : Nat → Value} (F : GA Z h a k ty N vs) : a < h.size := by obtain ⟨c, A, -⟩ := F; exact A.lt
theorem GA.ext {Z : State} {h h' : Heap} {a : Addr} {k : ClassId} {ty : FieldType} {N : Nat} {vs : Nat → Value} (F : GA Z h a k ty N vs) (E : Ext h h') : GA Z h' a k ty N vs := by obtain ⟨c, A, r⟩ := F; exact ⟨c, A.ext E, r⟩
theorem GA.other {Z : State} {h h' : Heap} {a b : Addr} {k : ClassId} {ty : FieldType} {N sl : Nat} {v : Value} {vs : Nat → Value} (F : GA Z h b k ty N vs) (W : Wr h h' a sl v) (q : b ≠ a) : GA Z h' b k ty N vs := by obtain ⟨c, A, r⟩ := F; exact ⟨c, A.other W q, r⟩
theorem GA.keep {Z : State} {h h' : Heap} {a : Addr} {k : ClassId} {ty : FieldType} {N : Nat} {vs : Nat → Value} {ws : List Addr} (F : GA Z h a k ty N vs) (K : Keep h h' ws) (q : a ∉ ws) : GA Z h' a k ty N vs := by obtain ⟨c, A, r⟩ := F; exact ⟨c, ⟨K.2.1 a c A.1 q, A.2⟩, r⟩
theorem GA.set {Z : State} {h h' : Heap} {a : Addr} {c : Cell} {k : ClassId} {ty : FieldType} {N j : Nat} {v : Value} {vs : Nat → Value} (A : Arr Z h a c ty) (q1 : c.cls = k) (S : c.slots.size = N) (H : ∀ i, i < N → c.slots[i]? = some (vs i)) (W : Wr h h' a j v) : GA Z h' a k ty N (fun i => if i = j then v else vs i) := by
  refine ⟨_, A.same W, q1, by rw [sz_set]; exact S, fun i hi => ?_⟩
  by_cases u : j = i
  · subst u; simp [Cell.setSlot, S, hi]
  · show _ = some (if i = j then v else vs i)
    rw [if_neg (fun q => u q.symm)]
    have := H i hi; simp only [Cell.setSlot]
    rw [Array.getElem?_setIfInBounds_ne u]; exact this
theorem GA.new {Z : State} {h : Heap} {a : Addr} {k : ClassId} {ty : FieldType} {z : Int32} {N : Nat} (A : Arr Z h a (newA k ty z) ty) (hz : z.toNatClampNeg = N) : GA Z h a k ty N (fun _ => defaultValue ty) :=
  ⟨_, A, rfl, by rw [sz_new]; exact hz, fun i hi => by rw [← hz] at hi; simp [newA, hi]⟩
theorem GA.eqv {Z : State} {h : Heap} {a : Addr} {k : ClassId} {ty : FieldType} {N : Nat} {vs ws : Nat → Value} (F : GA Z h a k ty N vs) (q : ∀ i, i < N → vs i = ws i) : GA Z h a k ty N ws := by
  obtain ⟨c, A, r1, r2, r3⟩ := F; exact ⟨c, A, r1, r2, fun i hi => by rw [r3 i hi, q i hi]⟩
theorem own_inb {c : Cell} {N i : Nat} (S : c.slots.size = N) (hi : i < N) (hN : N < 2147483648) : ¬ ((Int32.ofNat i) < 0 ∨ c.slots.size ≤ (Int32.ofNat i).toNatClampNeg) := by
  have e : (Int32.ofNat i).toInt = i := Int32.toInt_ofNat_of_lt (by omega)
  have e0 : (0 : Int32).toInt = 0 := rfl
  simp only [Int32.lt_iff_toInt_lt, Int32.toNatClampNeg, e, e0, S]; omega
theorem own_i32 {i : Nat} (h : i < 2147483648) : (Int32.ofNat i).toInt = i := Int32.toInt_ofNat_of_lt h
theorem own_i64 {i : Nat} (h : i < 9223372036854775808) : (Int64.ofNat i).toInt = i := Int64.toInt_ofNat_of_lt h
theorem own_cl {j : Nat} (h : j < 2147483648) : (Int32.ofNat j).toNatClampNeg = j := by
  simp only [Int32.toNatClampNeg, own_i32 h]; omega
theorem own_len {c : Cell} {N : Nat} (S : c.slots.size = N) : c.slots.size.toInt32 = Int32.ofNat N := by rw [S]
theorem own_ltI {i j : Nat} (hi : i < 2147483648) (hj : j < 2147483648) : (Int32.ofNat i < Int32.ofNat j) ↔ i < j := by
  rw [Int32.lt_iff_toInt_lt, own_i32 hi, own_i32 hj]; omega
theorem own_oneI (i : Nat) : Int32.ofNat i + (1 : Int32) = Int32.ofNat (i + 1) := (Int32.ofNat_add i 1).symm
theorem own_i2l {i : Nat} (h : i < 2147483648) : (Int32.ofNat i).toInt64 = Int64.ofNat i := by
  apply Int64.toInt_inj.mp; rw [Int32.toInt_toInt64, own_i32 h, own_i64 (by omega)]
theorem own_l2i {i : Nat} (h : i < 2147483648) : (Int64.ofNat i).toInt32 = Int32.ofNat i := by
  apply Int32.toInt_inj.mp
  rw [Int64.toInt_toInt32, own_i64 (by omega), own_i32 h]
  exact Int.bmod_eq_of_le (by omega) (by omega)
def QV (h0 : Heap) (n0 : Nat) (v : Option Value) (h : Heap) (L : List Loc) : Prop := v = none ∧ Fr n0 L ∧ h = h0
/-- a Latin-1 String: object s, its byte[] v of n bytes f -/
def SB (Z : State) (h : Heap) (s v : Addr) (k : ClassId) (n : Nat) (f : Nat → Int32) : Prop := Exa Z h s "java/lang/String" ∧ Fld Z h s "java/lang/String" "coder" "B" (.int (0 : Int32)) ∧ Fld Z h s "java/lang/String" "value" "[B" (.ref v) ∧ GA Z h v k .byte n (fun i => .int (f i))
theorem SB.ext {Z : State} {h h' : Heap} {s v : Addr} {k : ClassId} {n : Nat} {f : Nat → Int32} (S : SB Z h s v k n f) (E : Ext h h') : SB Z h' s v k n f := ⟨S.1.ext E, S.2.1.ext E, S.2.2.1.ext E, S.2.2.2.ext E⟩
theorem SB.keep {Z : State} {h h' : Heap} {s v : Addr} {k : ClassId} {n : Nat} {f : Nat → Int32} {ws : List Addr} (S : SB Z h s v k n f) (K : Keep h h' ws) (q1 : s ∉ ws) (q2 : v ∉ ws) : SB Z h' s v k n f := ⟨S.1.keep K, S.2.1.keep K q1, S.2.2.1.keep K q1, S.2.2.2.keep K q2⟩
theorem SB.wr {Z : State} {h h' : Heap} {s v a : Addr} {k : ClassId} {n sl : Nat} {f : Nat → Int32} {w : Value} (S : SB Z h s v k n f) (W : Wr h h' a sl w) (q1 : s ≠ a) (q2 : v ≠ a) : SB Z h' s v k n f := ⟨S.1.wr W, S.2.1.other W (Or.inl q1), S.2.2.1.other W (Or.inl q1), S.2.2.2.other W q2⟩
def Same (n n' : Nat) (f f' : Nat → Int32) : Prop := n = n' ∧ ∀ i, i < n → f i = f' i
theorem own_ext {h h' : Heap} (K : Keep h h' []) : Ext h h' := ⟨K.1, fun x c q => K.2.1 x c q nin0⟩
theorem GA.same {Z : State} {h : Heap} {a : Addr} {k k' : ClassId} {ty ty' : FieldType} {N N' : Nat} {vs vs' : Nat → Value} (A : GA Z h a k ty N vs) (B : GA Z h a k' ty' N' vs') : N = N' ∧ ∀ i, i < N → vs i = vs' i := by
  obtain ⟨c, A1, -, A3, A4⟩ := A
  obtain ⟨d, B1, -, B3, B4⟩ := B
  cases A1.1.symm.trans B1.1
  have e : N = N' := A3.symm.trans B3
  subst e
  exact ⟨rfl, fun i hi => Option.some.inj ((A4 i hi).symm.trans (B4 i hi))⟩
theorem Fld.same {Z : State} {h : Heap} {a : Addr} {C n d : String} {v v' : Value} (A : Fld Z h a C n d v) (B : Fld Z h a C n d v') : v = v' := by
  obtain ⟨c, cf, k, i, f, h1, h2, h3, h4, h5, h6, h7⟩ := A
  obtain ⟨c', cf', k', i', f', g1, g2, g3, g4, g5, g6, g7⟩ := B
  cases h1.symm.trans g1
  cases h2.symm.trans g2
  exact Option.some.inj (h7.symm.trans g7)
theorem SB.same {Z : State} {h : Heap} {s v v' : Addr} {k k' : ClassId} {n n' : Nat} {f f' : Nat → Int32} (A : SB Z h s v k n f) (B : SB Z h s v' k' n' f') : Same n n' f f' := by
  have e := Value.ref.inj (Fld.same A.2.2.1 B.2.2.1)
  subst e
  obtain ⟨h1, h2⟩ := GA.same A.2.2.2 B.2.2.2
  exact ⟨h1, fun i hi => Value.int.inj (h2 i hi)⟩
/-- bytes as Nats below 128 -/
def Asc (f : Nat → Nat) : Prop := ∀ i, f i < 128
theorem own_chr : ∀ k, k < 128 → nar .char ((Int32.ofNat k &&& (255 : Int32)).toUInt32.toUInt16.toUInt32.toInt32) = Int32.ofNat k := by decide +kernel
theorem own_chr2 : ∀ k, k < 128 → nar .char (Int32.ofNat k) = Int32.ofNat k := by decide +kernel
theorem own_fitb : ∀ k, k < 128 → fits .byte (.int (Int32.ofNat k)) = true := by decide +kernel
theorem own_ov {Z : State} {h : Heap} {a : Addr} {k : ClassId} {ty : FieldType} {N : Nat} {vs : Nat → Value} (A : GA Z h a k ty N vs) : ∃ c : Cell, h[a]? = some c ∧ c.vm.isStatics = false := by
  obtain ⟨c, A1, -⟩ := A
  refine ⟨c, A1.1, ?_⟩
  obtain ⟨hst, -⟩ := A1.2.1
  cases hv : c.vm <;> first | rfl | exact absurd hv (hst _)
/-- System.arraycopy of bytes -/
theorem own_acopy {p : Program} {l : Launch} {e : Env} {R : Room} {s : State} {m : MethodId} {args : Array Value} {below : List Frame} {meth : Method} {c : Code} {T : State} {locs : List Loc} {cells slots : Nat} {Z : State} {a0 : Array Value} {h : Heap} {own : String} {index : Nat}
    (X : Stand p l e R s m args below meth c T locs cells slots) (hx : p.tables.exec = Jvm.exec) (hZ : Z.Warmed39 s.vm) (hown : s.vm.findClass own = some m.cls)
    (w1 : (Cond.methodLink own index Jvm.Stand.acN).before a0 Z = true) (w2 : (Cond.native Jvm.Stand.acN).before a0 Z = true) (w3 : (Cond.static Jvm.Stand.acN).before a0 Z = true) (w4 : (Cond.initialized "java/lang/System").before a0 Z = true) (eT : T.heap = h)
    {a b : Addr} {ka kb : ClassId} {Na Nb : Nat} {f g : Nat → Nat} (A : GA Z h a ka .byte Na (fun i => .int (Int32.ofNat (f i)))) (B : GA Z h b kb .byte Nb (fun i => .int (Int32.ofNat (g i)))) (hf : Asc f) {o q n : Nat} (h4 : o + n ≤ Na) (h5 : q + n ≤ Nb) (hNa : Na < 2147483648) (hNb : Nb < 2147483648)
    {g0 : JFrame} (hg : g0.method = m) (hsize : g0.locals.size = c.maxLocals) {rest : List Value} (hstack : g0.stack = .int (Int32.ofNat n) :: .int (Int32.ofNat q) :: .ref b :: .int (Int32.ofNat o) :: .ref a :: rest)
    (hdg : decode c.code g0.pc = .ok (.invokestatic index, 3)) (hfr : 1 ≤ R.frames) {W : Nat} (hW : 2 * g0.monitorRoom + (rest.map fun v => v.category).sum ≤ W) (hlo : W + 40 ≤ R.locals) :
    ∃ (T' : State) (h' : Heap), Stand p l e R s m args below meth c T' (locs ++ Jvm.Stand.copyLocs b q n) cells slots ∧ T'.heap = h' ∧ Keep h h' [b] ∧ h'.size = h.size ∧ GA Z h' b kb .byte Nb (fun j => .int (Int32.ofNat (if q ≤ j ∧ j < q + n then f (o + (j - q)) else g j))) ∧
      ∀ target, Steps p.tables e below (T'.setTop { g0 with pc := g0.pc + 3, stack := rest }) target → Steps p.tables e below (T.setTop g0) target := by
  subst eT
  obtain ⟨ca, A1, qa, Sa, Ha⟩ := A
  obtain ⟨cb, B1, qb, Sb, Hb⟩ := B
  have hal : Z.vm.Alike T.vm := hZ.alike.trans X.warmed.alike
  have XA : Jvm.Free.XT.Arr .byte a ca T := ⟨A1.1, State.isArrayOf_alike hal A1.2.1, A1.2.2, by rw [Sa]; exact hNa⟩
  have XB : Jvm.Free.XT.Arr .byte b cb T := ⟨B1.1, State.isArrayOf_alike hal B1.2.1, B1.2.2, by rw [Sb]; exact hNb⟩
  have hat : ∀ i, i < n → ca.slots.getD (o + i) .null = .int (Int32.ofNat (f (o + i))) := fun i hi => by
    rw [Array.getD_eq_getD_getElem?, Ha (o + i) (by omega)]; rfl
  have hws : ∀ w ∈ Jvm.Free.XT.acW own index, w.before args s = true := fun w hw => by
    simp only [Jvm.Free.XT.acW, List.mem_cons, List.not_mem_nil, or_false] at hw
    rcases hw with rfl | rfl | rfl | rfl
    · exact mvT hZ w1
    · exact mvT hZ w2
    · exact mvT hZ w3
    · exact mvT hZ w4
  obtain ⟨T', B', X', ⟨P1, P2, P3⟩, f1, f2, f3, f4, st⟩ := X.acopy hx hown hws XA XB (by decide) (o := o) (q := q) (n := n) rfl rfl rfl (by rw [Sa]; exact h4) (by rw [Sb]; exact h5) (fun i hi => ⟨by rw [hat i hi]; exact own_fitb _ (hf _), fun h => by cases h⟩) hg hsize hstack hdg hW hfr hlo
  obtain ⟨u1, u2, u3, u4, u5⟩ := B1.2.1
  refine ⟨T', _, X', rfl, ⟨Nat.le_of_eq P3.symm, fun x cx hx hn => ?_, fun x cx hx => ?_⟩, P3, ⟨B', ⟨P1, ⟨by rw [f2]; exact u1, u2, by rw [f1]; exact u3, u4, u5⟩, by rw [f2]; exact B1.2.2⟩, f1.trans qb, f3.trans Sb, fun j hj => ?_⟩, st⟩
  · exact (P2 x (fun e => hn (List.mem_singleton.mpr e))).trans hx
  · rcases Decidable.em (x = b) with e | e
    · subst e
      exact ⟨B', P1, by rw [f1, Option.some.inj (B1.1.symm.trans hx)], by rw [f2, Option.some.inj (B1.1.symm.trans hx)], by rw [f3, Option.some.inj (B1.1.symm.trans hx)]⟩
    · exact ⟨cx, (P2 x e).trans hx, rfl, rfl, rfl⟩
  · show B'.slots[j]? = some (Value.int (Int32.ofNat (if q ≤ j ∧ j < q + n then f (o + (j - q)) else g j)))
    rw [f4 j]
    split
    · rw [hat (j - q) (by omega)]
    · exact Hb j hj
theorem own_frc {n0 : Nat} {b : Addr} {q n : Nat} (h : n0 ≤ b) : Fr n0 (Jvm.Stand.copyLocs b q n) := fun y hy => by
  obtain ⟨i, -, rfl⟩ := List.mem_map.mp hy; exact h
theorem d8_0 : decode jdk_42_method_152_code 0 = .ok (.getstatic 38, 3) := by decide +kernel
theorem d8_3 : decode jdk_42_method_152_code 3 = .ok (.ifCond .eq 10, 3) := by decide +kernel
theorem d8_6 : decode jdk_42_method_152_code 6 = .ok (.aload_n 0, 1) := by decide +kernel
theorem d8_7 : decode jdk_42_method_152_code 7 = .ok (.getfield 15, 3) := by decide +kernel
theorem d8_10 : decode jdk_42_method_152_code 10 = .ok (.goto 4, 3) := by decide +kernel
theorem d8_14 : decode jdk_42_method_152_code 14 = .ok (.ireturn, 1) := by decide +kernel
theorem pn_8 : plainName "java/lang/String" = true := by first | (simp [plainName, overriddenIn]; done) | decide +kernel
theorem ef_rCod (m : MethodId) (x0 : Addr) : entryFrame m #[(.ref x0)] 1 = mkF m 0 #[.val (.ref x0)] [] := by first | (simp [entryFrame, mkF, argsToLocals, Value.category]; done) | rfl
set_option maxRecDepth 65536 in
set_option maxHeartbeats 40000000 in
theorem rCod (l : Launch) (Z : State) (a0 : Array Value) (hw : ∀ d ∈ tables_1, d.before a0 Z = true) (ws : List Jvm.Cond) (o0 : Addr) (h0 : Heap) (n0 : Nat) (Z0 : n0 ≤ h0.size) (KZ : Keep Z.heap h0 []) (hz : Z.heap.size ≤ n0) (cs : Int32) (hcs : ¬ cs = (0 : Int32)) (S_Cz : Sta Z Z.heap "java/lang/String" "COMPACT_STRINGS" "Z" (.int cs)) (F_c : Fld Z h0 o0 "java/lang/String" "coder" "B" (.int (0 : Int32))) :
    MetFree l (⟨"java/lang/String", "coder", "()B"⟩ : MethodName) (head1 (Jvm.Cond.code (⟨"java/lang/String", "coder", "()B"⟩ : MethodName) jdk_42_method_152_code 1 (some .byte) :: ws) ({ frames := 0, cells := 0, slots := 0, locals := 0 } : Room)) (fun a U => a = #[(.ref o0)] ∧ Z.Warmed39 U.vm ∧ U.heap = h0) (fun _ _ _ _ _ => True) (fun _ U o U' => ∃ v L, o = .returned v ∧ QR (.int (0 : Int32)) h0 n0 v U'.heap L ∧ FrameEnd U o U' L ({ frames := 0, cells := 0, slots := 0, locals := 0 } : Room).cells ({ frames := 0, cells := 0, slots := 0, locals := 0 } : Room).slots) := by
  refine MetFree.of_bodySF (plainFor_of_name pn_8) hisR ?_
  intro p e s m args below meth c s₁ Bd hml0 hP hK
  obtain ⟨rfl, hZ, hh⟩ := hP
  have hx := Bd.exec
  have hby := Bd.bytes
  have hml : c.maxLocals = 1 := hml0
  have hown : s.vm.findClass "java/lang/String" = some m.cls := findClass_of_methodNamed Bd.named
  have hnm := (name_of_methodNamed Bd.named Bd.method).1
  have X0 : Stand p l e ({ frames := 0, cells := 0, slots := 0, locals := 0 } : Room) s m #[(.ref o0)] below meth c s₁ [] 0 0 := Stand.of_body Bd
  have e0 : s₁.heap = h0 := by rw [← hh, Bd.state]; rfl
  have N0 := Fr.nil n0
  have pre0 : ∀ t, Steps p.tables e below (s₁.setTop (mkF m 0 #[vR o0] [])) t → Steps p.tables e below (s₁.setTop (entryFrame m #[(.ref o0)] 1)) t := fun t k => castTop (ef_rCod m o0) k
  have S_C := own_sta_keep S_Cz KZ all0
  obtain ⟨T1, X1, e1, st1⟩ := getS2 X0 hx hZ hown (host := "") (Or.inl (wd hw 59 rfl)) Via.refl e0 S_C (g := (mkF m 0 #[vR o0] [])) rfl (hb hby d8_0)
  obtain ⟨T2, X2, e2, st2⟩ := getF X1 hx hZ hown (host := "") (Or.inl (wd hw 60 rfl)) Via.refl e1 F_c (g := (mkF m 7 #[vR o0] [(.ref o0)])) rfl rfl (hb hby d8_7)
  obtain ⟨fs, hr, hrun, hended, hW, hsame⟩ := X2.leave (v := some (.int (0 : Int32))) (fun h => by rw [Bd.returns] at h; cases h)
  refine ⟨_, _, pre0 _ ?_, hrun, hended, _, _, rfl, ?_, ⟨_, rfl⟩, hW, hsame.mono (by decide) (by decide)⟩
  · skip
    refine st1 _ ?_
    refine XS.ifNo X1.here hx rfl (hb hby d8_3) rfl ((if0 _ _).trans (feq hcs).1) ?_
    refine XS.aloadN X1.here hx rfl (hb hby d8_6) rfl rfl ?_
    show Steps p.tables e below (T1.setTop (mkF m 7 #[vR o0] [(.ref o0)])) _
    refine st2 _ ?_
    refine XS.goto X2.here hx rfl (pc0 := 10) (pc' := 14) rfl (hb hby d8_10) (by decide) (by decide) ?_
    show Steps p.tables e below (T2.setTop (mkF m 14 #[vR o0] [(.int (0 : Int32))])) _
    exact retN X2 hx (t := .byte) Bd.returns (by simp) (hb hby d8_14) hr
  · show QR (.int (0 : Int32)) h0 n0 _ T2.heap _
    rw [e2]
    exact ⟨(by first | rfl | simp []), N0, rfl⟩
theorem d42_0 : decode jdk_42_method_154_code 0 = .ok (.getstatic 38, 3) := by decide +kernel
theorem d42_3 : decode jdk_42_method_154_code 3 = .ok (.ifCond .eq 14, 3) := by decide +kernel
theorem d42_6 : decode jdk_42_method_154_code 6 = .ok (.aload_n 0, 1) := by decide +kernel
theorem d42_7 : decode jdk_42_method_154_code 7 = .ok (.getfield 15, 3) := by decide +kernel
theorem d42_10 : decode jdk_42_method_154_code 10 = .ok (.ifCond .ne 7, 3) := by decide +kernel
theorem d42_13 : decode jdk_42_method_154_code 13 = .ok (.iconst 1, 1) := by decide +kernel
theorem d42_14 : decode jdk_42_method_154_code 14 = .ok (.goto 4, 3) := by decide +kernel
theorem d42_18 : decode jdk_42_method_154_code 18 = .ok (.ireturn, 1) := by decide +kernel
theorem pn_42 : plainName "java/lang/String" = true := by first | (simp [plainName, overriddenIn]; done) | decide +kernel
theorem ef_rLat (m : MethodId) (x0 : Addr) : entryFrame m #[(.ref x0)] 1 = mkF m 0 #[.val (.ref x0)] [] := by first | (simp [entryFrame, mkF, argsToLocals, Value.category]; done) | rfl
set_option maxRecDepth 65536 in
set_option maxHeartbeats 40000000 in
theorem rLat (l : Launch) (Z : State) (a0 : Array Value) (hw : ∀ d ∈ tables_1, d.before a0 Z = true) (ws : List Jvm.Cond) (o0 : Addr) (h0 : Heap) (n0 : Nat) (Z0 : n0 ≤ h0.size) (KZ : Keep Z.heap h0 []) (hz : Z.heap.size ≤ n0) (cs : Int32) (hcs : ¬ cs = (0 : Int32)) (S_Cz : Sta Z Z.heap "java/lang/String" "COMPACT_STRINGS" "Z" (.int cs)) (F_c : Fld Z h0 o0 "java/lang/String" "coder" "B" (.int (0 : Int32))) :
    MetFree l (⟨"java/lang/String", "isLatin1", "()Z"⟩ : MethodName) (head1 (Jvm.Cond.code (⟨"java/lang/String", "isLatin1", "()Z"⟩ : MethodName) jdk_42_method_154_code 1 (some .boolean) :: ws) ({ frames := 0, cells := 0, slots := 0, locals := 0 } : Room)) (fun a U => a = #[(.ref o0)] ∧ Z.Warmed39 U.vm ∧ U.heap = h0) (fun _ _ _ _ _ => True) (fun _ U o U' => ∃ v L, o = .returned v ∧ QR (.int (1 : Int32)) h0 n0 v U'.heap L ∧ FrameEnd U o U' L ({ frames := 0, cells := 0, slots := 0, locals := 0 } : Room).cells ({ frames := 0, cells := 0, slots := 0, locals := 0 } : Room).slots) := by
  refine MetFree.of_bodySF (plainFor_of_name pn_42) hisR ?_
  intro p e s m args below meth c s₁ Bd hml0 hP hK
  obtain ⟨rfl, hZ, hh⟩ := hP
  have hx := Bd.exec
  have hby := Bd.bytes
  have hml : c.maxLocals = 1 := hml0
  have hown : s.vm.findClass "java/lang/String" = some m.cls := findClass_of_methodNamed Bd.named
  have hnm := (name_of_methodNamed Bd.named Bd.method).1
  have X0 : Stand p l e ({ frames := 0, cells := 0, slots := 0, locals := 0 } : Room) s m #[(.ref o0)] below meth c s₁ [] 0 0 := Stand.of_body Bd
  have e0 : s₁.heap = h0 := by rw [← hh, Bd.state]; rfl
  have N0 := Fr.nil n0
  have pre0 : ∀ t, Steps p.tables e below (s₁.setTop (mkF m 0 #[vR o0] [])) t → Steps p.tables e below (s₁.setTop (entryFrame m #[(.ref o0)] 1)) t := fun t k => castTop (ef_rLat m o0) k
  have S_C := own_sta_keep S_Cz KZ all0
  obtain ⟨T1, X1, e1, st1⟩ := getS2 X0 hx hZ hown (host := "") (Or.inl (wd hw 59 rfl)) Via.refl e0 S_C (g := (mkF m 0 #[vR o0] [])) rfl (hb hby d42_0)
  obtain ⟨T2, X2, e2, st2⟩ := getF X1 hx hZ hown (host := "") (Or.inl (wd hw 60 rfl)) Via.refl e1 F_c (g := (mkF m 7 #[vR o0] [(.ref o0)])) rfl rfl (hb hby d42_7)
  obtain ⟨fs, hr, hrun, hended, hW, hsame⟩ := X2.leave (v := some (.int (1 : Int32))) (fun h => by rw [Bd.returns] at h; cases h)
  refine ⟨_, _, pre0 _ ?_, hrun, hended, _, _, rfl, ?_, ⟨_, rfl⟩, hW, hsame.mono (by decide) (by decide)⟩
  · skip
    refine st1 _ ?_
    refine XS.ifNo X1.here hx rfl (hb hby d42_3) rfl ((if0 _ _).trans (feq hcs).1) ?_
    refine XS.aloadN X1.here hx rfl (hb hby d42_6) rfl rfl ?_
    show Steps p.tables e below (T1.setTop (mkF m 7 #[vR o0] [(.ref o0)])) _
    refine st2 _ ?_
    refine XS.ifNo X2.here hx rfl (hb hby d42_10) rfl ((if0 _ _).trans (teq (by decide : (0 : Int32) = (0 : Int32))).2) ?_
    refine XS.iconst X2.here hx rfl (hb hby d42_13) ?_
    refine XS.goto X2.here hx rfl (pc0 := 14) (pc' := 18) rfl (hb hby d42_14) (by decide) (by decide) ?_
    show Steps p.tables e below (T2.setTop (mkF m 18 #[vR o0] [(.int (1 : Int32))])) _
    exact retN X2 hx (t := .boolean) Bd.returns (by simp) (hb hby d42_18) hr
  · show QR (.int (1 : Int32)) h0 n0 _ T2.heap _
    rw [e2]
    exact ⟨(by first | rfl | simp []), N0, rfl⟩
theorem own_shr0 (x : Int32) : x >>> ((0 : Int32) &&& 31) = x := by
  rw [show ((0 : Int32) &&& 31) = 0 from by decide]; simp
theorem own_shl0 (x : Int32) : x <<< ((0 : Int32) &&& 31) = x := by
  rw [show ((0 : Int32) &&& 31) = 0 from by decide]; simp
theorem own_inj {i j : Nat} (hi : i < 2147483648) (hj : j < 2147483648) : Int32.ofNat i = Int32.ofNat j ↔ i = j := by
  constructor
  · intro h; have := congrArg Int32.toInt h; rw [own_i32 hi, own_i32 hj] at this; omega
  · intro h; rw [h]
theorem own_addN (i j : Nat) : Int32.ofNat i + Int32.ofNat j = Int32.ofNat (i + j) := (Int32.ofNat_add i j).symm
theorem own_subN {i j : Nat} (h : j ≤ i) (hi : i < 2147483648) : Int32.ofNat i - Int32.ofNat j = Int32.ofNat (i - j) := Jvm.Free.Str.sub_ofNat h hi
theorem d7_0 : decode jdk_42_method_54_code 0 = .ok (.aload_n 0, 1) := by decide +kernel
theorem d7_1 : decode jdk_42_method_54_code 1 = .ok (.getfield 9, 3) := by decide +kernel
theorem d7_4 : decode jdk_42_method_54_code 4 = .ok (.arraylength, 1) := by decide +kernel
theorem d7_5 : decode jdk_42_method_54_code 5 = .ok (.aload_n 0, 1) := by decide +kernel
theorem d7_6 : decode jdk_42_method_54_code 6 = .ok (.invokevirtual 335, 3) := by decide +kernel
theorem pd___B : parseMethodDescriptor "()B" = some ⟨[], some .byte⟩ := by decide +kernel
theorem d7_9 : decode jdk_42_method_54_code 9 = .ok (.ishr, 1) := by decide +kernel
theorem d7_10 : decode jdk_42_method_54_code 10 = .ok (.ireturn, 1) := by decide +kernel
theorem pn_7 : plainName "java/lang/String" = true := by first | (simp [plainName, overriddenIn]; done) | decide +kernel
theorem ef_rLen (m : MethodId) (x0 : Addr) : entryFrame m #[(.ref x0)] 1 = mkF m 0 #[.val (.ref x0)] [] := by first | (simp [entryFrame, mkF, argsToLocals, Value.category]; done) | rfl
set_option maxRecDepth 65536 in
set_option maxHeartbeats 40000000 in
theorem rLen (l : Launch) (Z : State) (a0 : Array Value) (hw : ∀ d ∈ tables_1, d.before a0 Z = true) (ws : List Jvm.Cond) (o0 : Addr) (v0 : Addr) (k0 : ClassId) (n : Nat) (f : Nat → Nat) (hn : n ≤ 4000) (h0 : Heap) (n0 : Nat) (Z0 : n0 ≤ h0.size) (KZ : Keep Z.heap h0 []) (hz : Z.heap.size ≤ n0) (R_s : SB Z h0 o0 v0 k0 n (fun i => Int32.ofNat (f i))) (cs : Int32) (hcs : ¬ cs = (0 : Int32)) (S_Cz : Sta Z Z.heap "java/lang/String" "COMPACT_STRINGS" "Z" (.int cs)) :
    MetFree l (⟨"java/lang/String", "length", "()I"⟩ : MethodName) (head1 (Jvm.Cond.code (⟨"java/lang/String", "length", "()I"⟩ : MethodName) jdk_42_method_54_code 1 (some .int) :: ws) ({ frames := 1, cells := 0, slots := 0, locals := 13 } : Room)) (fun a U => a = #[(.ref o0)] ∧ Z.Warmed39 U.vm ∧ U.heap = h0) (fun _ _ _ _ _ => True) (fun _ U o U' => ∃ v L, o = .returned v ∧ QR (.int (Int32.ofNat n)) h0 n0 v U'.heap L ∧ FrameEnd U o U' L ({ frames := 1, cells := 0, slots := 0, locals := 13 } : Room).cells ({ frames := 1, cells := 0, slots := 0, locals := 13 } : Room).slots) := by
  refine MetFree.of_bodySF (plainFor_of_name pn_7) hisR ?_
  intro p e s m args below meth c s₁ Bd hml0 hP hK
  obtain ⟨rfl, hZ, hh⟩ := hP
  have hx := Bd.exec
  have hby := Bd.bytes
  have hml : c.maxLocals = 1 := hml0
  have hown : s.vm.findClass "java/lang/String" = some m.cls := findClass_of_methodNamed Bd.named
  have hnm := (name_of_methodNamed Bd.named Bd.method).1
  have X0 : Stand p l e ({ frames := 1, cells := 0, slots := 0, locals := 13 } : Room) s m #[(.ref o0)] below meth c s₁ [] 0 0 := Stand.of_body Bd
  have e0 : s₁.heap = h0 := by rw [← hh, Bd.state]; rfl
  have N0 := Fr.nil n0
  have pre0 : ∀ t, Steps p.tables e below (s₁.setTop (mkF m 0 #[vR o0] [])) t → Steps p.tables e below (s₁.setTop (entryFrame m #[(.ref o0)] 1)) t := fun t k => castTop (ef_rLen m o0) k
  have S_C := own_sta_keep S_Cz KZ all0
  obtain ⟨E, Fc, Fv, Va⟩ := id R_s
  obtain ⟨T1, X1, e1, st1⟩ := getF X0 hx hZ hown (host := "") (Or.inl (wd hw 53 rfl)) Via.refl e0 Fv (g := (mkF m 1 #[vR o0] [(.ref o0)])) rfl rfl (hb hby d7_1)
  obtain ⟨cl2, Ar2, -, Sa2, -⟩ := id Va
  obtain ⟨cq3, kq3, q3a, q3b, q3c⟩ := isOf hZ e1 E
  obtain ⟨_, _, ⟨T3, L3, k3, n3⟩, -, X3, ⟨Lc3, hQ3, l3, y3, z3⟩, st3⟩ := X1.virtualBack hx (y := (⟨"java/lang/String", "coder", "()B"⟩ : MethodName)) (z := (⟨"java/lang/String", "coder", "()B"⟩ : MethodName)) hown (mvT hZ (wd hw 54 rfl)) (mvT hZ (wd hw 55 rfl)) (notFace_of_selects (args := #[]) (mvT hZ (wd hw 57 rfl))) (mvT hZ (wd hw 57 rfl)) (mvT hZ (wd hw 56 rfl)) (by decide) (backOf (W := 1) (rCod l Z a0 hw [] o0 h0 n0 Z0 KZ hz cs hcs S_Cz Fc) hZ (wd hw 58 rfl) (wd hw 26 rfl) (by decide) (by decide)) q3a q3c (g := (mkF m 6 #[vR o0] [(.ref o0), (.int (Int32.ofNat n))])) rfl (by rw [hml]; rfl) (Steps.refl _) (argsL := []) (rest := [(.int (Int32.ofNat n))]) (lenOf pd___B rfl) rfl (by show 2 * 0 + _ ≤ _; exact Nat.le_of_eq rfl) (hb hby d7_6) (fun _ _ => ⟨rfl, e1, (by decide : 0 + 0 ≤ _), (by decide : 0 + 0 ≤ _)⟩)
  dsimp only [Pt.U, Pt.locs, Pt.cells, Pt.slots] at X3 l3 y3 z3 st3 hQ3
  rw [l3, y3, z3] at X3
  obtain ⟨rfl, N3q, e3⟩ := hQ3
  have N3 := Fr.app N0 N3q
  obtain ⟨fs, hr, hrun, hended, hW, hsame⟩ := X3.leave (v := some (.int (Int32.ofNat n))) (fun h => by rw [Bd.returns] at h; cases h)
  refine ⟨_, _, pre0 _ ?_, hrun, hended, _, _, rfl, ?_, ⟨_, rfl⟩, hW, hsame.mono (by decide) (by decide)⟩
  · skip
    refine XS.aloadN X0.here hx rfl (hb hby d7_0) rfl rfl ?_
    refine st1 _ ?_
    refine X1.arraylength hx (by rw [e1]; exact Ar2.1) (State.isArrayOf_alike hZ.alike Ar2.2.1) (g := (mkF m 4 #[vR o0] [(.ref v0)])) rfl rfl (hb hby d7_4) _ ?_
    rw [own_len Sa2]
    show Steps p.tables e below (T1.setTop (mkF m 5 #[vR o0] [(.int (Int32.ofNat n))])) _
    refine XS.aloadN X1.here hx rfl (hb hby d7_5) rfl rfl ?_
    refine st3.trans ?_
    refine XS.ishr X3.here hx rfl (hb hby d7_9) rfl ?_
    show Steps p.tables e below (T3.setTop (mkF m 10 #[vR o0] [(.int ((Int32.ofNat n) >>> ((0 : Int32) &&& 31)))])) _
    rw [own_shr0]
    show Steps p.tables e below (T3.setTop (mkF m 10 #[vR o0] [(.int (Int32.ofNat n))])) _
    exact retI X3 hx Bd.returns (hb hby d7_10) hr
  · show QR (.int (Int32.ofNat n)) h0 n0 _ T3.heap _
    rw [e3]
    exact ⟨(by first | rfl | simp []), N3, rfl⟩
theorem d45_0 : decode jdk_41_method_11_code 0 = .ok (.iload_n 0, 1) := by decide +kernel
theorem d45_1 : decode jdk_41_method_11_code 1 = .ok (.ifCond .lt 8, 3) := by decide +kernel
theorem d45_4 : decode jdk_41_method_11_code 4 = .ok (.iload_n 0, 1) := by decide +kernel
theorem d45_5 : decode jdk_41_method_11_code 5 = .ok (.iload_n 1, 1) := by decide +kernel
theorem d45_6 : decode jdk_41_method_11_code 6 = .ok (.if_icmp .lt 10, 3) := by decide +kernel
theorem d45_16 : decode jdk_41_method_11_code 16 = .ok (.iload_n 0, 1) := by decide +kernel
theorem d45_17 : decode jdk_41_method_11_code 17 = .ok (.ireturn, 1) := by decide +kernel
theorem pn_45 : plainName "jdk/internal/util/Preconditions" = true := by first | (simp [plainName, overriddenIn]; done) | decide +kernel
theorem ef_rPcn (m : MethodId) (x0 : Int32) (x1 : Int32) : entryFrame m #[(.int x0), (.int x1), .null] 3 = mkF m 0 #[.val (.int x0), .val (.int x1), .val .null] [] := by first | (simp [entryFrame, mkF, argsToLocals, Value.category]; done) | rfl
set_option maxRecDepth 65536 in
set_option maxHeartbeats 40000000 in
theorem rPcn (l : Launch) (Z : State) (a0 : Array Value) (hw : ∀ d ∈ tables_1, d.before a0 Z = true) (ws : List Jvm.Cond) (p0 : Int32) (p1 : Int32) (h0 : Heap) (n0 : Nat) (Z0 : n0 ≤ h0.size) (hi0 : ¬ p0 < (0 : Int32)) (hi1 : p0 < p1) :
    MetFree l (⟨"jdk/internal/util/Preconditions", "checkIndex", "(IILjava/util/function/BiFunction;)I"⟩ : MethodName) (head1 (Jvm.Cond.code (⟨"jdk/internal/util/Preconditions", "checkIndex", "(IILjava/util/function/BiFunction;)I"⟩ : MethodName) jdk_41_method_11_code 3 (some .int) :: ws) ({ frames := 0, cells := 0, slots := 0, locals := 0 } : Room)) (fun a U => a = #[(.int p0), (.int p1), .null] ∧ Z.Warmed39 U.vm ∧ U.heap = h0) (fun _ _ _ _ _ => True) (fun _ U o U' => ∃ v L, o = .returned v ∧ QR (.int p0) h0 n0 v U'.heap L ∧ FrameEnd U o U' L ({ frames := 0, cells := 0, slots := 0, locals := 0 } : Room).cells ({ frames := 0, cells := 0, slots := 0, locals := 0 } : Room).slots) := by
  refine MetFree.of_bodySF (plainFor_of_name pn_45) hisR ?_
  intro p e s m args below meth c s₁ Bd hml0 hP hK
  obtain ⟨rfl, hZ, hh⟩ := hP
  have hx := Bd.exec
  have hby := Bd.bytes
  have hml : c.maxLocals = 3 := hml0
  have hown : s.vm.findClass "jdk/internal/util/Preconditions" = some m.cls := findClass_of_methodNamed Bd.named
  have hnm := (name_of_methodNamed Bd.named Bd.method).1
  have X0 : Stand p l e ({ frames := 0, cells := 0, slots := 0, locals := 0 } : Room) s m #[(.int p0), (.int p1), .null] below meth c s₁ [] 0 0 := Stand.of_body Bd
  have e0 : s₁.heap = h0 := by rw [← hh, Bd.state]; rfl
  have N0 := Fr.nil n0
  have pre0 : ∀ t, Steps p.tables e below (s₁.setTop (mkF m 0 #[vI p0, vI p1, vN] [])) t → Steps p.tables e below (s₁.setTop (entryFrame m #[(.int p0), (.int p1), .null] 3)) t := fun t k => castTop (ef_rPcn m p0 p1) k
  obtain ⟨fs, hr, hrun, hended, hW, hsame⟩ := X0.leave (v := some (.int p0)) (fun h => by rw [Bd.returns] at h; cases h)
  refine ⟨_, _, pre0 _ ?_, hrun, hended, _, _, rfl, ?_, ⟨_, rfl⟩, hW, hsame.mono (by decide) (by decide)⟩
  · skip
    refine XS.iloadN X0.here hx rfl (hb hby d45_0) rfl ?_
    refine XS.ifNo X0.here hx rfl (hb hby d45_1) rfl ((if0 _ _).trans (flt hi0).1) ?_
    refine XS.iloadN X0.here hx rfl (hb hby d45_4) rfl ?_
    show Steps p.tables e below (s₁.setTop (mkF m 5 #[vI p0, vI p1, vN] [(.int p0)])) _
    refine XS.iloadN X0.here hx rfl (hb hby d45_5) rfl ?_
    refine XS.icmpYes X0.here hx rfl (pc0 := 6) (pc' := 16) rfl (hb hby d45_6) rfl (tlt hi1).1 (by decide) (by decide) ?_
    refine XS.iloadN X0.here hx rfl (hb hby d45_16) rfl ?_
    show Steps p.tables e below (s₁.setTop (mkF m 17 #[vI p0, vI p1, vN] [(.int p0)])) _
    exact retI X0 hx Bd.returns (hb hby d45_17) hr
  · show QR (.int p0) h0 n0 _ s₁.heap _
    rw [e0]
    exact ⟨(by first | rfl | simp []), N0, rfl⟩
theorem ef_rPcr (m : MethodId) (x0 : Int32) (x1 : Int32) (x2 : Addr) : entryFrame m #[(.int x0), (.int x1), (.ref x2)] 3 = mkF m 0 #[.val (.int x0), .val (.int x1), .val (.ref x2)] [] := by first | (simp [entryFrame, mkF, argsToLocals, Value.category]; done) | rfl
set_option maxRecDepth 65536 in
set_option maxHeartbeats 40000000 in
theorem rPcr (l : Launch) (Z : State) (a0 : Array Value) (hw : ∀ d ∈ tables_1, d.before a0 Z = true) (ws : List Jvm.Cond) (p0 : Int32) (p1 : Int32) (o2 : Addr) (h0 : Heap) (n0 : Nat) (Z0 : n0 ≤ h0.size) (hi0 : ¬ p0 < (0 : Int32)) (hi1 : p0 < p1) :
    MetFree l (⟨"jdk/internal/util/Preconditions", "checkIndex", "(IILjava/util/function/BiFunction;)I"⟩ : MethodName) (head1 (Jvm.Cond.code (⟨"jdk/internal/util/Preconditions", "checkIndex", "(IILjava/util/function/BiFunction;)I"⟩ : MethodName) jdk_41_method_11_code 3 (some .int) :: ws) ({ frames := 0, cells := 0, slots := 0, locals := 0 } : Room)) (fun a U => a = #[(.int p0), (.int p1), (.ref o2)] ∧ Z.Warmed39 U.vm ∧ U.heap = h0) (fun _ _ _ _ _ => True) (fun _ U o U' => ∃ v L, o = .returned v ∧ QR (.int p0) h0 n0 v U'.heap L ∧ FrameEnd U o U' L ({ frames := 0, cells := 0, slots := 0, locals := 0 } : Room).cells ({ frames := 0, cells := 0, slots := 0, locals := 0 } : Room).slots) := by
  refine MetFree.of_bodySF (plainFor_of_name pn_45) hisR ?_
  intro p e s m args below meth c s₁ Bd hml0 hP hK
  obtain ⟨rfl, hZ, hh⟩ := hP
  have hx := Bd.exec
  have hby := Bd.bytes
  have hml : c.maxLocals = 3 := hml0
  have hown : s.vm.findClass "jdk/internal/util/Preconditions" = some m.cls := findClass_of_methodNamed Bd.named
  have hnm := (name_of_methodNamed Bd.named Bd.method).1
  have X0 : Stand p l e ({ frames := 0, cells := 0, slots := 0, locals := 0 } : Room) s m #[(.int p0), (.int p1), (.ref o2)] below meth c s₁ [] 0 0 := Stand.of_body Bd
  have e0 : s₁.heap = h0 := by rw [← hh, Bd.state]; rfl
  have N0 := Fr.nil n0
  have pre0 : ∀ t, Steps p.tables e below (s₁.setTop (mkF m 0 #[vI p0, vI p1, vR o2] [])) t → Steps p.tables e below (s₁.setTop (entryFrame m #[(.int p0), (.int p1), (.ref o2)] 3)) t := fun t k => castTop (ef_rPcr m p0 p1 o2) k
  obtain ⟨fs, hr, hrun, hended, hW, hsame⟩ := X0.leave (v := some (.int p0)) (fun h => by rw [Bd.returns] at h; cases h)
  refine ⟨_, _, pre0 _ ?_, hrun, hended, _, _, rfl, ?_, ⟨_, rfl⟩, hW, hsame.mono (by decide) (by decide)⟩
  · skip
    refine XS.iloadN X0.here hx rfl (hb hby d45_0) rfl ?_
    refine XS.ifNo X0.here hx rfl (hb hby d45_1) rfl ((if0 _ _).trans (flt hi0).1) ?_
    refine XS.iloadN X0.here hx rfl (hb hby d45_4) rfl ?_
    show Steps p.tables e below (s₁.setTop (mkF m 5 #[vI p0, vI p1, vR o2] [(.int p0)])) _
    refine XS.iloadN X0.here hx rfl (hb hby d45_5) rfl ?_
    refine XS.icmpYes X0.here hx rfl (pc0 := 6) (pc' := 16) rfl (hb hby d45_6) rfl (tlt hi1).1 (by decide) (by decide) ?_
    refine XS.iloadN X0.here hx rfl (hb hby d45_16) rfl ?_
    show Steps p.tables e below (s₁.setTop (mkF m 17 #[vI p0, vI p1, vR o2] [(.int p0)])) _
    exact retI X0 hx Bd.returns (hb hby d45_17) hr
  · show QR (.int p0) h0 n0 _ s₁.heap _
    rw [e0]
    exact ⟨(by first | rfl | simp []), N0, rfl⟩
theorem rPc (l : Launch) (Z : State) (a0 : Array Value) (hw : ∀ d ∈ tables_1, d.before a0 Z = true) (ws : List Jvm.Cond) (p0 p1 : Int32) (fm : Value) (hfm : fm.isRef = true) (h0 : Heap) (n0 : Nat) (Z0 : n0 ≤ h0.size) (hi0 : ¬ p0 < (0 : Int32)) (hi1 : p0 < p1) :
    MetFree l (⟨"jdk/internal/util/Preconditions", "checkIndex", "(IILjava/util/function/BiFunction;)I"⟩ : MethodName) (head1 (Jvm.Cond.code (⟨"jdk/internal/util/Preconditions", "checkIndex", "(IILjava/util/function/BiFunction;)I"⟩ : MethodName) jdk_41_method_11_code 3 (some .int) :: ws) ({ frames := 0, cells := 0, slots := 0, locals := 0 } : Room)) (fun a U => a = #[(.int p0), (.int p1), fm] ∧ Z.Warmed39 U.vm ∧ U.heap = h0) (fun _ _ _ _ _ => True) (fun _ U o U' => ∃ v L, o = .returned v ∧ QR (.int p0) h0 n0 v U'.heap L ∧ FrameEnd U o U' L ({ frames := 0, cells := 0, slots := 0, locals := 0 } : Room).cells ({ frames := 0, cells := 0, slots := 0, locals := 0 } : Room).slots) := by
  rcases ref_cases hfm with rfl | ⟨a, rfl⟩
  · exact rPcn l Z a0 hw ws p0 p1 h0 n0 Z0 hi0 hi1
  · exact rPcr l Z a0 hw ws p0 p1 a h0 n0 Z0 hi0 hi1
theorem d44_0 : decode jdk_42_method_155_code 0 = .ok (.iload_n 0, 1) := by decide +kernel
theorem d44_1 : decode jdk_42_method_155_code 1 = .ok (.iload_n 1, 1) := by decide +kernel
theorem d44_2 : decode jdk_42_method_155_code 2 = .ok (.getstatic 1053, 3) := by decide +kernel
theorem d44_5 : decode jdk_42_method_155_code 5 = .ok (.invokestatic 1059, 3) := by decide +kernel
theorem pd__IILjava_util_function_BiFunction__I : parseMethodDescriptor "(IILjava/util/function/BiFunction;)I" = some ⟨[.int, .int, (.object "java/util/function/BiFunction")], some .int⟩ := by decide +kernel
theorem d44_8 : decode jdk_42_method_155_code 8 = .ok (.pop, 1) := by decide +kernel
theorem d44_9 : decode jdk_42_method_155_code 9 = .ok (.return_, 1) := by decide +kernel
theorem pn_44 : plainName "java/lang/String" = true := by first | (simp [plainName, overriddenIn]; done) | decide +kernel
theorem ef_rCk (m : MethodId) (x0 : Int32) (x1 : Int32) : entryFrame m #[(.int x0), (.int x1)] 2 = mkF m 0 #[.val (.int x0), .val (.int x1)] [] := by first | (simp [entryFrame, mkF, argsToLocals, Value.category]; done) | rfl
set_option maxRecDepth 65536 in
set_option maxHeartbeats 40000000 in
theorem rCk (l : Launch) (Z : State) (a0 : Array Value) (hw : ∀ d ∈ tables_1, d.before a0 Z = true) (ws : List Jvm.Cond) (p0 : Int32) (p1 : Int32) (h0 : Heap) (n0 : Nat) (Z0 : n0 ≤ h0.size) (KZ : Keep Z.heap h0 []) (hz : Z.heap.size ≤ n0) (fm : Value) (hfm : fm.isRef = true) (S_Fz : Sta Z Z.heap "jdk/internal/util/Preconditions" "SIOOBE_FORMATTER" "Ljava/util/function/BiFunction;" fm) (hi0 : ¬ p0 < (0 : Int32)) (hi1 : p0 < p1) :
    MetFree l (⟨"java/lang/String", "checkIndex", "(II)V"⟩ : MethodName) (head1 (Jvm.Cond.code (⟨"java/lang/String", "checkIndex", "(II)V"⟩ : MethodName) jdk_42_method_155_code 2 none :: ws) ({ frames := 1, cells := 0, slots := 0, locals := 14 } : Room)) (fun a U => a = #[(.int p0), (.int p1)] ∧ Z.Warmed39 U.vm ∧ U.heap = h0) (fun _ _ _ _ _ => True) (fun _ U o U' => ∃ v L, o = .returned v ∧ QV h0 n0 v U'.heap L ∧ FrameEnd U o U' L ({ frames := 1, cells := 0, slots := 0, locals := 14 } : Room).cells ({ frames := 1, cells := 0, slots := 0, locals := 14 } : Room).slots) := by
  refine MetFree.of_bodySF (plainFor_of_name pn_44) hisR ?_
  intro p e s m args below meth c s₁ Bd hml0 hP hK
  obtain ⟨rfl, hZ, hh⟩ := hP
  have hx := Bd.exec
  have hby := Bd.bytes
  have hml : c.maxLocals = 2 := hml0
  have hown : s.vm.findClass "java/lang/String" = some m.cls := findClass_of_methodNamed Bd.named
  have hnm := (name_of_methodNamed Bd.named Bd.method).1
  have X0 : Stand p l e ({ frames := 1, cells := 0, slots := 0, locals := 14 } : Room) s m #[(.int p0), (.int p1)] below meth c s₁ [] 0 0 := Stand.of_body Bd
  have e0 : s₁.heap = h0 := by rw [← hh, Bd.state]; rfl
  have N0 := Fr.nil n0
  have pre0 : ∀ t, Steps p.tables e below (s₁.setTop (mkF m 0 #[vI p0, vI p1] [])) t → Steps p.tables e below (s₁.setTop (entryFrame m #[(.int p0), (.int p1)] 2)) t := fun t k => castTop (ef_rCk m p0 p1) k
  have S_F := own_sta_keep S_Fz KZ all0
  obtain ⟨T1, X1, e1, st1⟩ := getS2 X0 hx hZ hown (host := "") (Or.inl (wd hw 288 rfl)) Via.refl e0 S_F (g := (mkF m 2 #[vI p0, vI p1] [(.int p1), (.int p0)])) rfl (hb hby d44_2)
  obtain ⟨_, _, ⟨T2, L2, k2, n2⟩, -, X2, ⟨Lc2, hQ2, l2, y2, z2⟩, st2⟩ := Jvm.LawKit.callS X1 hx (y := (⟨"jdk/internal/util/Preconditions", "checkIndex", "(IILjava/util/function/BiFunction;)I"⟩ : MethodName)) hown (mvT hZ (wd hw 290 rfl)) (mvT hZ (wd hw 291 rfl)) (mvT hZ (wd hw 289 rfl)) (mvT hZ (wd hw 292 rfl)) (by decide) (backOf (W := 0) (rPc l Z a0 hw [] p0 p1 fm hfm h0 n0 Z0 hi0 hi1) hZ (wd hw 292 rfl) (wd hw 289 rfl) (by decide) (by decide)) (g := (mkF m 5 #[vI p0, vI p1] [fm, (.int p1), (.int p0)])) rfl (by rw [hml]; rfl) (argsL := [(.int p0), (.int p1), fm]) (rest := []) (lenOf pd__IILjava_util_function_BiFunction__I rfl) rfl (by show 2 * 0 + _ ≤ _; exact Nat.le_of_eq rfl) (hb hby d44_5) (fun _ _ => ⟨rfl, e1, (by decide : 0 + 0 ≤ _), (by decide : 0 + 0 ≤ _)⟩)
  dsimp only [Pt.U, Pt.locs, Pt.cells, Pt.slots] at X2 l2 y2 z2 st2 hQ2
  rw [l2, y2, z2] at X2
  obtain ⟨rfl, N2q, e2⟩ := hQ2
  have N2 := Fr.app N0 N2q
  obtain ⟨fs, hr, hrun, hended, hW, hsame⟩ := X2.leave (v := none) (fun _ => rfl)
  refine ⟨_, _, pre0 _ ?_, hrun, hended, _, _, rfl, ?_, ⟨_, rfl⟩, hW, hsame.mono (by decide) (by decide)⟩
  · skip
    refine XS.iloadN X0.here hx rfl (hb hby d44_0) rfl ?_
    refine XS.iloadN X0.here hx rfl (hb hby d44_1) rfl ?_
    refine st1 _ ?_
    show Steps p.tables e below (T1.setTop (mkF m 5 #[vI p0, vI p1] [fm, (.int p1), (.int p0)])) _
    refine st2 _ ?_
    refine XS.pop X2.here hx rfl (hb hby d44_8) rfl rfl ?_
    show Steps p.tables e below (T2.setTop (mkF m 9 #[vI p0, vI p1] [])) _
    exact X2.returnOut hx Bd.returns (hb hby d44_9) hr
  · show QV h0 n0 _ T2.heap _
    rw [e2]
    exact ⟨(by first | rfl | simp []), N2, rfl⟩
theorem d43_0 : decode jdk_43_method_2_code 0 = .ok (.iload_n 1, 1) := by decide +kernel
theorem d43_1 : decode jdk_43_method_2_code 1 = .ok (.aload_n 0, 1) := by decide +kernel
theorem d43_2 : decode jdk_43_method_2_code 2 = .ok (.arraylength, 1) := by decide +kernel
theorem d43_3 : decode jdk_43_method_2_code 3 = .ok (.invokestatic 9, 3) := by decide +kernel
theorem pd__II_V : parseMethodDescriptor "(II)V" = some ⟨[.int, .int], none⟩ := by decide +kernel
theorem d43_6 : decode jdk_43_method_2_code 6 = .ok (.aload_n 0, 1) := by decide +kernel
theorem d43_7 : decode jdk_43_method_2_code 7 = .ok (.iload_n 1, 1) := by decide +kernel
theorem d43_8 : decode jdk_43_method_2_code 8 = .ok (.baload, 1) := by decide +kernel
theorem d43_9 : decode jdk_43_method_2_code 9 = .ok (.sipush 255, 3) := by decide +kernel
theorem d43_12 : decode jdk_43_method_2_code 12 = .ok (.iand, 1) := by decide +kernel
theorem d43_13 : decode jdk_43_method_2_code 13 = .ok (.i2c, 1) := by decide +kernel
theorem d43_14 : decode jdk_43_method_2_code 14 = .ok (.ireturn, 1) := by decide +kernel
theorem pn_43 : plainName "java/lang/StringLatin1" = true := by first | (simp [plainName, overriddenIn]; done) | decide +kernel
theorem ef_rLch (m : MethodId) (x0 : Addr) (x1 : Int32) : entryFrame m #[(.ref x0), (.int x1)] 2 = mkF m 0 #[.val (.ref x0), .val (.int x1)] [] := by first | (simp [entryFrame, mkF, argsToLocals, Value.category]; done) | rfl
set_option maxRecDepth 65536 in
set_option maxHeartbeats 40000000 in
theorem rLch (l : Launch) (Z : State) (a0 : Array Value) (hw : ∀ d ∈ tables_1, d.before a0 Z = true) (ws : List Jvm.Cond) (o0 : Addr) (k0 : ClassId) (n i : Nat) (f : Nat → Nat) (hn : n ≤ 4000) (hi : i < n) (hf : Asc f) (h0 : Heap) (n0 : Nat) (Z0 : n0 ≤ h0.size) (KZ : Keep Z.heap h0 []) (hz : Z.heap.size ≤ n0) (fm : Value) (hfm : fm.isRef = true) (S_Fz : Sta Z Z.heap "jdk/internal/util/Preconditions" "SIOOBE_FORMATTER" "Ljava/util/function/BiFunction;" fm) (V_a : GA Z h0 o0 k0 .byte n (fun i => .int (Int32.ofNat (f i)))) :
    MetFree l (⟨"java/lang/StringLatin1", "charAt", "([BI)C"⟩ : MethodName) (head1 (Jvm.Cond.code (⟨"java/lang/StringLatin1", "charAt", "([BI)C"⟩ : MethodName) jdk_43_method_2_code 2 (some .char) :: ws) ({ frames := 2, cells := 0, slots := 0, locals := 27 } : Room)) (fun a U => a = #[(.ref o0), (.int (Int32.ofNat i))] ∧ Z.Warmed39 U.vm ∧ U.heap = h0) (fun _ _ _ _ _ => True) (fun _ U o U' => ∃ v L, o = .returned v ∧ QR (.int (Int32.ofNat (f i))) h0 n0 v U'.heap L ∧ FrameEnd U o U' L ({ frames := 2, cells := 0, slots := 0, locals := 27 } : Room).cells ({ frames := 2, cells := 0, slots := 0, locals := 27 } : Room).slots) := by
  refine MetFree.of_bodySF (plainFor_of_name pn_43) hisR ?_
  intro p e s m args below meth c s₁ Bd hml0 hP hK
  obtain ⟨rfl, hZ, hh⟩ := hP
  have hx := Bd.exec
  have hby := Bd.bytes
  have hml : c.maxLocals = 2 := hml0
  have hown : s.vm.findClass "java/lang/StringLatin1" = some m.cls := findClass_of_methodNamed Bd.named
  have hnm := (name_of_methodNamed Bd.named Bd.method).1
  have X0 : Stand p l e ({ frames := 2, cells := 0, slots := 0, locals := 27 } : Room) s m #[(.ref o0), (.int (Int32.ofNat i))] below meth c s₁ [] 0 0 := Stand.of_body Bd
  have e0 : s₁.heap = h0 := by rw [← hh, Bd.state]; rfl
  have N0 := Fr.nil n0
  have pre0 : ∀ t, Steps p.tables e below (s₁.setTop (mkF m 0 #[vR o0, vI (Int32.ofNat i)] [])) t → Steps p.tables e below (s₁.setTop (entryFrame m #[(.ref o0), (.int (Int32.ofNat i))] 2)) t := fun t k => castTop (ef_rLch m o0 (Int32.ofNat i)) k
  obtain ⟨cl1, Ar1, -, Sa1, -⟩ := id V_a
  obtain ⟨_, _, ⟨T2, L2, k2, n2⟩, -, X2, ⟨Lc2, hQ2, l2, y2, z2⟩, st2⟩ := Jvm.LawKit.callS X0 hx (y := (⟨"java/lang/String", "checkIndex", "(II)V"⟩ : MethodName)) hown (mvT hZ (wd hw 285 rfl)) (mvT hZ (wd hw 286 rfl)) (mvT hZ (wd hw 26 rfl)) (mvT hZ (wd hw 287 rfl)) (by decide) (backOf (W := 0) (rCk l Z a0 hw [] (Int32.ofNat i) (Int32.ofNat n) h0 n0 Z0 KZ hz fm hfm S_Fz (by rw [Int32.lt_iff_toInt_lt, own_i32 (by omega)]; show ¬ (i : Int) < 0; omega) ((own_ltI (by omega) (by omega)).mpr hi)) hZ (wd hw 287 rfl) (wd hw 26 rfl) (by decide) (by decide)) (g := (mkF m 3 #[vR o0, vI (Int32.ofNat i)] [(.int (Int32.ofNat n)), (.int (Int32.ofNat i))])) rfl (by rw [hml]; rfl) (argsL := [(.int (Int32.ofNat i)), (.int (Int32.ofNat n))]) (rest := []) (lenOf pd__II_V rfl) rfl (by show 2 * 0 + _ ≤ _; exact Nat.le_of_eq rfl) (hb hby d43_3) (fun _ _ => ⟨rfl, e0, (by decide : 0 + 0 ≤ _), (by decide : 0 + 0 ≤ _)⟩)
  dsimp only [Pt.U, Pt.locs, Pt.cells, Pt.slots] at X2 l2 y2 z2 st2 hQ2
  rw [l2, y2, z2] at X2
  obtain ⟨rfl, N2q, e2⟩ := hQ2
  have N2 := Fr.app N0 N2q
  obtain ⟨cl3, Ar3, qa3, Sa3, Ha3⟩ := id V_a
  have hin3 : ¬ ((Int32.ofNat i) < 0 ∨ cl3.slots.size ≤ (Int32.ofNat i).toNatClampNeg) := own_inb Sa3 hi (show n < 2147483648 by omega)
  have hat3 : cl3.slots[(Int32.ofNat i).toNatClampNeg]? = some (.int (Int32.ofNat (f i))) := by rw [own_cl (Nat.lt_trans hi (show n < 2147483648 by omega))]; exact Ha3 i hi
  obtain ⟨fs, hr, hrun, hended, hW, hsame⟩ := X2.leave (v := some (.int (nar .char (((Int32.ofNat (f i)) &&& (255 : Int32)).toUInt32.toUInt16.toUInt32.toInt32)))) (fun h => by rw [Bd.returns] at h; cases h)
  refine ⟨_, _, pre0 _ ?_, hrun, hended, _, _, rfl, ?_, ⟨_, rfl⟩, hW, hsame.mono (by decide) (by decide)⟩
  · skip
    refine XS.iloadN X0.here hx rfl (hb hby d43_0) rfl ?_
    refine XS.aloadN X0.here hx rfl (hb hby d43_1) rfl rfl ?_
    refine X0.arraylength hx (by rw [e0]; exact Ar1.1) (State.isArrayOf_alike hZ.alike Ar1.2.1) (g := (mkF m 2 #[vR o0, vI (Int32.ofNat i)] [(.ref o0), (.int (Int32.ofNat i))])) rfl rfl (hb hby d43_2) _ ?_
    rw [own_len Sa1]
    show Steps p.tables e below (s₁.setTop (mkF m 3 #[vR o0, vI (Int32.ofNat i)] [(.int (Int32.ofNat n)), (.int (Int32.ofNat i))])) _
    refine st2 _ ?_
    refine XS.aloadN X2.here hx rfl (hb hby d43_6) rfl rfl ?_
    refine XS.iloadN X2.here hx rfl (hb hby d43_7) rfl ?_
    refine X2.baloadBytes hx (j := (Int32.ofNat i)) (v := (.int (Int32.ofNat (f i)))) (by rw [e2]; exact Ar3.1) (State.isArrayOf_alike hZ.alike Ar3.2.1) Ar3.2.2 hin3 hat3 (g := (mkF m 8 #[vR o0, vI (Int32.ofNat i)] [(.int (Int32.ofNat i)), (.ref o0)])) rfl rfl (hb hby d43_8) _ ?_
    show Steps p.tables e below (T2.setTop (mkF m 9 #[vR o0, vI (Int32.ofNat i)] [(.int (Int32.ofNat (f i)))])) _
    refine XS.sipush X2.here hx rfl (hb hby d43_9) ?_
    refine XS.iand X2.here hx rfl (hb hby d43_12) rfl ?_
    refine XS.i2c X2.here hx rfl (hb hby d43_13) rfl ?_
    show Steps p.tables e below (T2.setTop (mkF m 14 #[vR o0, vI (Int32.ofNat i)] [(.int (((Int32.ofNat (f i)) &&& (255 : Int32)).toUInt32.toUInt16.toUInt32.toInt32))])) _
    exact retN X2 hx (t := .char) Bd.returns (by simp) (hb hby d43_14) hr
  · show QR (.int (Int32.ofNat (f i))) h0 n0 _ T2.heap _
    rw [e2]
    exact ⟨(congrArg (fun z => some (Value.int z)) (own_chr _ (hf i))), N2, rfl⟩
theorem d41_0 : decode jdk_42_method_56_code 0 = .ok (.aload_n 0, 1) := by decide +kernel
theorem d41_1 : decode jdk_42_method_56_code 1 = .ok (.invokevirtual 492, 3) := by decide +kernel
theorem pd___Z : parseMethodDescriptor "()Z" = some ⟨[], some .boolean⟩ := by decide +kernel
theorem d41_4 : decode jdk_42_method_56_code 4 = .ok (.ifCond .eq 12, 3) := by decide +kernel
theorem d41_7 : decode jdk_42_method_56_code 7 = .ok (.aload_n 0, 1) := by decide +kernel
theorem d41_8 : decode jdk_42_method_56_code 8 = .ok (.getfield 9, 3) := by decide +kernel
theorem d41_11 : decode jdk_42_method_56_code 11 = .ok (.iload_n 1, 1) := by decide +kernel
theorem d41_12 : decode jdk_42_method_56_code 12 = .ok (.invokestatic 495, 3) := by decide +kernel
theorem pd___BI_C : parseMethodDescriptor "([BI)C" = some ⟨[(.array .byte), .int], some .char⟩ := by decide +kernel
theorem d41_15 : decode jdk_42_method_56_code 15 = .ok (.ireturn, 1) := by decide +kernel
theorem pn_41 : plainName "java/lang/String" = true := by first | (simp [plainName, overriddenIn]; done) | decide +kernel
theorem ef_rCh (m : MethodId) (x0 : Addr) (x1 : Int32) : entryFrame m #[(.ref x0), (.int x1)] 2 = mkF m 0 #[.val (.ref x0), .val (.int x1)] [] := by first | (simp [entryFrame, mkF, argsToLocals, Value.category]; done) | rfl
set_option maxRecDepth 65536 in
set_option maxHeartbeats 40000000 in
theorem rCh (l : Launch) (Z : State) (a0 : Array Value) (hw : ∀ d ∈ tables_1, d.before a0 Z = true) (ws : List Jvm.Cond) (o0 : Addr) (v0 : Addr) (k0 : ClassId) (n : Nat) (f : Nat → Nat) (i : Nat) (hi : i < n) (hf : Asc f) (hn : n ≤ 4000) (h0 : Heap) (n0 : Nat) (Z0 : n0 ≤ h0.size) (KZ : Keep Z.heap h0 []) (hz : Z.heap.size ≤ n0) (R_s : SB Z h0 o0 v0 k0 n (fun i => Int32.ofNat (f i))) (cs : Int32) (hcs : ¬ cs = (0 : Int32)) (S_Cz : Sta Z Z.heap "java/lang/String" "COMPACT_STRINGS" "Z" (.int cs)) (fm : Value) (hfm : fm.isRef = true) (S_Fz : Sta Z Z.heap "jdk/internal/util/Preconditions" "SIOOBE_FORMATTER" "Ljava/util/function/BiFunction;" fm) :
    MetFree l (⟨"java/lang/String", "charAt", "(I)C"⟩ : MethodName) (head1 (Jvm.Cond.code (⟨"java/lang/String", "charAt", "(I)C"⟩ : MethodName) jdk_42_method_56_code 2 (some .char) :: ws) ({ frames := 3, cells := 0, slots := 0, locals := 40 } : Room)) (fun a U => a = #[(.ref o0), (.int (Int32.ofNat i))] ∧ Z.Warmed39 U.vm ∧ U.heap = h0) (fun _ _ _ _ _ => True) (fun _ U o U' => ∃ v L, o = .returned v ∧ QR (.int (Int32.ofNat (f i))) h0 n0 v U'.heap L ∧ FrameEnd U o U' L ({ frames := 3, cells := 0, slots := 0, locals := 40 } : Room).cells ({ frames := 3, cells := 0, slots := 0, locals := 40 } : Room).slots) := by
  refine MetFree.of_bodySF (plainFor_of_name pn_41) hisR ?_
  intro p e s m args below meth c s₁ Bd hml0 hP hK
  obtain ⟨rfl, hZ, hh⟩ := hP
  have hx := Bd.exec
  have hby := Bd.bytes
  have hml : c.maxLocals = 2 := hml0
  have hown : s.vm.findClass "java/lang/String" = some m.cls := findClass_of_methodNamed Bd.named
  have hnm := (name_of_methodNamed Bd.named Bd.method).1
  have X0 : Stand p l e ({ frames := 3, cells := 0, slots := 0, locals := 40 } : Room) s m #[(.ref o0), (.int (Int32.ofNat i))] below meth c s₁ [] 0 0 := Stand.of_body Bd
  have e0 : s₁.heap = h0 := by rw [← hh, Bd.state]; rfl
  have N0 := Fr.nil n0
  have pre0 : ∀ t, Steps p.tables e below (s₁.setTop (mkF m 0 #[vR o0, vI (Int32.ofNat i)] [])) t → Steps p.tables e below (s₁.setTop (entryFrame m #[(.ref o0), (.int (Int32.ofNat i))] 2)) t := fun t k => castTop (ef_rCh m o0 (Int32.ofNat i)) k
  have S_C := own_sta_keep S_Cz KZ all0
  obtain ⟨E, Fc, Fv, Va⟩ := id R_s
  obtain ⟨cq1, kq1, q1a, q1b, q1c⟩ := isOf hZ e0 E
  obtain ⟨_, _, ⟨T1, L1, k1, n1⟩, -, X1, ⟨Lc1, hQ1, l1, y1, z1⟩, st1⟩ := X0.virtualBack hx (y := (⟨"java/lang/String", "isLatin1", "()Z"⟩ : MethodName)) (z := (⟨"java/lang/String", "isLatin1", "()Z"⟩ : MethodName)) hown (mvT hZ (wd hw 276 rfl)) (mvT hZ (wd hw 277 rfl)) (notFace_of_selects (args := #[]) (mvT hZ (wd hw 279 rfl))) (mvT hZ (wd hw 279 rfl)) (mvT hZ (wd hw 278 rfl)) (by decide) (backOf (W := 0) (rLat l Z a0 hw [] o0 h0 n0 Z0 KZ hz cs hcs S_Cz Fc) hZ (wd hw 280 rfl) (wd hw 26 rfl) (by decide) (by decide)) q1a q1c (g := (mkF m 1 #[vR o0, vI (Int32.ofNat i)] [(.ref o0)])) rfl (by rw [hml]; rfl) (Steps.refl _) (argsL := []) (rest := []) (lenOf pd___Z rfl) rfl (by show 2 * 0 + _ ≤ _; exact Nat.le_of_eq rfl) (hb hby d41_1) (fun _ _ => ⟨rfl, e0, (by decide : 0 + 0 ≤ _), (by decide : 0 + 0 ≤ _)⟩)
  dsimp only [Pt.U, Pt.locs, Pt.cells, Pt.slots] at X1 l1 y1 z1 st1 hQ1
  rw [l1, y1, z1] at X1
  obtain ⟨rfl, N1q, e1⟩ := hQ1
  have N1 := Fr.app N0 N1q
  obtain ⟨T2, X2, e2, st2⟩ := getF X1 hx hZ hown (host := "") (Or.inl (wd hw 53 rfl)) Via.refl e1 Fv (g := (mkF m 8 #[vR o0, vI (Int32.ofNat i)] [(.ref o0)])) rfl rfl (hb hby d41_8)
  obtain ⟨_, _, ⟨T3, L3, k3, n3⟩, -, X3, ⟨Lc3, hQ3, l3, y3, z3⟩, st3⟩ := Jvm.LawKit.callS X2 hx (y := (⟨"java/lang/StringLatin1", "charAt", "([BI)C"⟩ : MethodName)) hown (mvT hZ (wd hw 281 rfl)) (mvT hZ (wd hw 282 rfl)) (mvT hZ (wd hw 283 rfl)) (mvT hZ (wd hw 284 rfl)) (by decide) (backOf (W := 0) (rLch l Z a0 hw [] v0 k0 n i f hn hi hf h0 n0 Z0 KZ hz fm hfm S_Fz Va) hZ (wd hw 284 rfl) (wd hw 283 rfl) (by decide) (by decide)) (g := (mkF m 12 #[vR o0, vI (Int32.ofNat i)] [(.int (Int32.ofNat i)), (.ref v0)])) rfl (by rw [hml]; rfl) (argsL := [(.ref v0), (.int (Int32.ofNat i))]) (rest := []) (lenOf pd___BI_C rfl) rfl (by show 2 * 0 + _ ≤ _; exact Nat.le_of_eq rfl) (hb hby d41_12) (fun _ _ => ⟨rfl, e2, (by decide : 0 + 0 ≤ _), (by decide : 0 + 0 ≤ _)⟩)
  dsimp only [Pt.U, Pt.locs, Pt.cells, Pt.slots] at X3 l3 y3 z3 st3 hQ3
  rw [l3, y3, z3] at X3
  obtain ⟨rfl, N3q, e3⟩ := hQ3
  have N3 := Fr.app N1 N3q
  obtain ⟨fs, hr, hrun, hended, hW, hsame⟩ := X3.leave (v := some (.int (nar .char (Int32.ofNat (f i))))) (fun h => by rw [Bd.returns] at h; cases h)
  refine ⟨_, _, pre0 _ ?_, hrun, hended, _, _, rfl, ?_, ⟨_, rfl⟩, hW, hsame.mono (by decide) (by decide)⟩
  · skip
    refine XS.aloadN X0.here hx rfl (hb hby d41_0) rfl rfl ?_
    refine st1.trans ?_
    refine XS.ifNo X1.here hx rfl (hb hby d41_4) rfl ((if0 _ _).trans (feq (by decide : ¬ ((1 : Int32) = (0 : Int32)))).1) ?_
    show Steps p.tables e below (T1.setTop (mkF m 7 #[vR o0, vI (Int32.ofNat i)] [])) _
    refine XS.aloadN X1.here hx rfl (hb hby d41_7) rfl rfl ?_
    refine st2 _ ?_
    refine XS.iloadN X2.here hx rfl (hb hby d41_11) rfl ?_
    refine st3 _ ?_
    show Steps p.tables e below (T3.setTop (mkF m 15 #[vR o0, vI (Int32.ofNat i)] [(.int (Int32.ofNat (f i)))])) _
    exact retN X3 hx (t := .char) Bd.returns (by simp) (hb hby d41_15) hr
  · show QR (.int (Int32.ofNat (f i))) h0 n0 _ T3.heap _
    rw [e3]
    exact ⟨(congrArg (fun z => some (Value.int z)) (own_chr2 _ (hf i))), N3, rfl⟩
theorem own_inj' {i j : Nat} (hi : i < 2147483648) (hj : j < 2147483648) : Int32.ofNat i = Int32.ofNat j ↔ i = j := by
  constructor
  · intro h; have := congrArg Int32.toInt h; rw [own_i32 hi, own_i32 hj] at this; omega
  · intro h; rw [h]
theorem d47_9 : decode jdk_43_method_13_code 9 = .ok (.iload_n 2, 1) := by decide +kernel
theorem d47_10 : decode jdk_43_method_13_code 10 = .ok (.aload_n 0, 1) := by decide +kernel
theorem d47_11 : decode jdk_43_method_13_code 11 = .ok (.arraylength, 1) := by decide +kernel
theorem d47_12 : decode jdk_43_method_13_code 12 = .ok (.if_icmp .ge 20, 3) := by decide +kernel
theorem d47_15 : decode jdk_43_method_13_code 15 = .ok (.aload_n 0, 1) := by decide +kernel
theorem d47_16 : decode jdk_43_method_13_code 16 = .ok (.iload_n 2, 1) := by decide +kernel
theorem d47_17 : decode jdk_43_method_13_code 17 = .ok (.baload, 1) := by decide +kernel
theorem d47_18 : decode jdk_43_method_13_code 18 = .ok (.aload_n 1, 1) := by decide +kernel
theorem d47_19 : decode jdk_43_method_13_code 19 = .ok (.iload_n 2, 1) := by decide +kernel
theorem d47_20 : decode jdk_43_method_13_code 20 = .ok (.baload, 1) := by decide +kernel
theorem d47_21 : decode jdk_43_method_13_code 21 = .ok (.if_icmp .eq 5, 3) := by decide +kernel
theorem d47_26 : decode jdk_43_method_13_code 26 = .ok (.iinc 2 1, 3) := by decide +kernel
theorem d47_29 : decode jdk_43_method_13_code 29 = .ok (.goto (-20), 3) := by decide +kernel
theorem d47_24 : decode jdk_43_method_13_code 24 = .ok (.iconst 0, 1) := by decide +kernel
set_option maxRecDepth 65536 in
set_option maxHeartbeats 40000000 in
theorem leT {p : Program} {l : Launch} {e : Env} {R : Room} {s : State} {m : MethodId} {args : Array Value} {below : List Frame} {meth : Method} {c : Code} {T0 : State} {locs : List Loc} {cells slots : Nat} {Z : State} {a0 : Array Value} {h0 : Heap} (o0 o1 : Addr) (k0 k1 : ClassId) (n i : Nat) (f f' : Nat → Int32) (X0 : Stand p l e R s m args below meth c T0 locs cells slots) (hx : p.tables.exec = Jvm.exec) (hZ : Z.Warmed39 s.vm) (hw : ∀ d ∈ tables_1, d.before a0 Z = true) (hby : c.code = jdk_43_method_13_code) (hml : c.maxLocals = 3) (hown : s.vm.findClass "java/lang/StringLatin1" = some m.cls) (e0 : T0.heap = h0) (hn : n ≤ 4000) (hi : i < n) (V_a : GA Z h0 o0 k0 .byte n (fun i => .int (f i))) (V_b : GA Z h0 o1 k1 .byte n (fun i => .int (f' i))) :
    ∃ T' : State, Stand p l e R s m args below meth c T' locs cells slots ∧ T'.heap = h0 ∧ ((f i ≠ f' i ∧ ∃ Ls, ∀ target, Steps p.tables e below (T'.setTop (mkF m 25 Ls [.int (0 : Int32)])) target → Steps p.tables e below (T0.setTop (mkF m 9 #[vR o0, vR o1, vI (Int32.ofNat i)] [])) target) ∨ (f i = f' i ∧ ∀ target, Steps p.tables e below (T'.setTop (mkF m 9 #[vR o0, vR o1, vI (Int32.ofNat (i + 1))] [])) target → Steps p.tables e below (T0.setTop (mkF m 9 #[vR o0, vR o1, vI (Int32.ofNat i)] [])) target)) := by
  have pre0 : ∀ t, Steps p.tables e below (T0.setTop (mkF m 9 #[vR o0, vR o1, vI (Int32.ofNat i)] [])) t → Steps p.tables e below (T0.setTop (mkF m 9 #[vR o0, vR o1, vI (Int32.ofNat i)] [])) t := fun _ k => k
  obtain ⟨cl1, Ar1, -, Sa1, -⟩ := id V_a
  obtain ⟨cl2, Ar2, qa2, Sa2, Ha2⟩ := id V_a
  have hin2 : ¬ ((Int32.ofNat i) < 0 ∨ cl2.slots.size ≤ (Int32.ofNat i).toNatClampNeg) := own_inb Sa2 hi (show n < 2147483648 by omega)
  have hat2 : cl2.slots[(Int32.ofNat i).toNatClampNeg]? = some (.int (f i)) := by rw [own_cl (Nat.lt_trans hi (show n < 2147483648 by omega))]; exact Ha2 i hi
  obtain ⟨cl3, Ar3, qa3, Sa3, Ha3⟩ := id V_b
  have hin3 : ¬ ((Int32.ofNat i) < 0 ∨ cl3.slots.size ≤ (Int32.ofNat i).toNatClampNeg) := own_inb Sa3 hi (show n < 2147483648 by omega)
  have hat3 : cl3.slots[(Int32.ofNat i).toNatClampNeg]? = some (.int (f' i)) := by rw [own_cl (Nat.lt_trans hi (show n < 2147483648 by omega))]; exact Ha3 i hi
  have pre4 : ∀ t, Steps p.tables e below (T0.setTop (mkF m 21 #[vR o0, vR o1, vI (Int32.ofNat i)] [(.int (f' i)), (.int (f i))])) t → Steps p.tables e below (T0.setTop (mkF m 9 #[vR o0, vR o1, vI (Int32.ofNat i)] [])) t := by
    intro t kt
    refine pre0 t ?_
    refine XS.iloadN X0.here hx rfl (hb hby d47_9) rfl ?_
    refine XS.aloadN X0.here hx rfl (hb hby d47_10) rfl rfl ?_
    refine X0.arraylength hx (by rw [e0]; exact Ar1.1) (State.isArrayOf_alike hZ.alike Ar1.2.1) (g := (mkF m 11 #[vR o0, vR o1, vI (Int32.ofNat i)] [(.ref o0), (.int (Int32.ofNat i))])) rfl rfl (hb hby d47_11) _ ?_
    rw [own_len Sa1]
    show Steps p.tables e below (T0.setTop (mkF m 12 #[vR o0, vR o1, vI (Int32.ofNat i)] [(.int (Int32.ofNat n)), (.int (Int32.ofNat i))])) _
    refine XS.icmpNo X0.here hx rfl (hb hby d47_12) rfl (tlt ((own_ltI (by omega) (by omega)).mpr hi)).2.1 ?_
    refine XS.aloadN X0.here hx rfl (hb hby d47_15) rfl rfl ?_
    refine XS.iloadN X0.here hx rfl (hb hby d47_16) rfl ?_
    refine X0.baloadBytes hx (j := (Int32.ofNat i)) (v := (.int (f i))) (by rw [e0]; exact Ar2.1) (State.isArrayOf_alike hZ.alike Ar2.2.1) Ar2.2.2 hin2 hat2 (g := (mkF m 17 #[vR o0, vR o1, vI (Int32.ofNat i)] [(.int (Int32.ofNat i)), (.ref o0)])) rfl rfl (hb hby d47_17) _ ?_
    show Steps p.tables e below (T0.setTop (mkF m 18 #[vR o0, vR o1, vI (Int32.ofNat i)] [(.int (f i))])) _
    refine XS.aloadN X0.here hx rfl (hb hby d47_18) rfl rfl ?_
    refine XS.iloadN X0.here hx rfl (hb hby d47_19) rfl ?_
    refine X0.baloadBytes hx (j := (Int32.ofNat i)) (v := (.int (f' i))) (by rw [e0]; exact Ar3.1) (State.isArrayOf_alike hZ.alike Ar3.2.1) Ar3.2.2 hin3 hat3 (g := (mkF m 20 #[vR o0, vR o1, vI (Int32.ofNat i)] [(.int (Int32.ofNat i)), (.ref o1), (.int (f i))])) rfl rfl (hb hby d47_20) _ ?_
    exact kt
  by_cases hc5 : (f i) = (f' i)
  · skip
    have pre6 : ∀ t, Steps p.tables e below (T0.setTop (mkF m 9 #[vR o0, vR o1, vI ((Int32.ofNat i) + (1 : Int32))] [])) t → Steps p.tables e below (T0.setTop (mkF m 9 #[vR o0, vR o1, vI (Int32.ofNat i)] [])) t := by
      intro t kt
      refine pre4 t ?_
      refine XS.icmpYes X0.here hx rfl (pc0 := 21) (pc' := 26) rfl (hb hby d47_21) rfl (teq hc5).1 (by decide) (by decide) ?_
      show Steps p.tables e below (T0.setTop (mkF m 26 #[vR o0, vR o1, vI (Int32.ofNat i)] [])) _
      refine XS.iinc X0.here hx rfl (hb hby d47_26) rfl (l' := #[vR o0, vR o1, vI ((Int32.ofNat i) + (1 : Int32))]) rfl ?_
      refine XS.goto X0.here hx rfl (pc0 := 29) (pc' := 9) rfl (hb hby d47_29) (by decide) (by decide) ?_
      exact kt
    exact ⟨T0, X0, e0, Or.inr ⟨hc5, fun target kt => pre6 target (by rw [own_oneI]; exact kt)⟩⟩
  · skip
    have pre7 : ∀ t, Steps p.tables e below (T0.setTop (mkF m 25 #[vR o0, vR o1, vI (Int32.ofNat i)] [(.int (0 : Int32))])) t → Steps p.tables e below (T0.setTop (mkF m 9 #[vR o0, vR o1, vI (Int32.ofNat i)] [])) t := by
      intro t kt
      refine pre4 t ?_
      refine XS.icmpNo X0.here hx rfl (hb hby d47_21) rfl (feq hc5).1 ?_
      refine XS.iconst X0.here hx rfl (hb hby d47_24) ?_
      exact kt
    exact ⟨T0, X0, e0, Or.inl ⟨hc5, _, fun target kt => pre7 target kt⟩⟩
theorem d47_32 : decode jdk_43_method_13_code 32 = .ok (.iconst 1, 1) := by decide +kernel
set_option maxRecDepth 65536 in
set_option maxHeartbeats 40000000 in
theorem leM {p : Program} {l : Launch} {e : Env} {R : Room} {s : State} {m : MethodId} {args : Array Value} {below : List Frame} {meth : Method} {c : Code} {T0 : State} {locs : List Loc} {cells slots : Nat} {Z : State} {a0 : Array Value} {h0 : Heap} (o0 o1 : Addr) (k0 k1 : ClassId) (n i : Nat) (f f' : Nat → Int32) (X0 : Stand p l e R s m args below meth c T0 locs cells slots) (hx : p.tables.exec = Jvm.exec) (hZ : Z.Warmed39 s.vm) (hw : ∀ d ∈ tables_1, d.before a0 Z = true) (hby : c.code = jdk_43_method_13_code) (hml : c.maxLocals = 3) (hown : s.vm.findClass "java/lang/StringLatin1" = some m.cls) (e0 : T0.heap = h0) (hn : n ≤ 4000)  (V_a : GA Z h0 o0 k0 .byte n (fun i => .int (f i))) (V_b : GA Z h0 o1 k1 .byte n (fun i => .int (f' i))) :
    ∃ T' : State, Stand p l e R s m args below meth c T' locs cells slots ∧ T'.heap = h0 ∧ ∃ Ls, ∀ target, Steps p.tables e below (T'.setTop (mkF m 33 Ls [.int (1 : Int32)])) target → Steps p.tables e below (T0.setTop (mkF m 9 #[vR o0, vR o1, vI (Int32.ofNat n)] [])) target := by
  have pre0 : ∀ t, Steps p.tables e below (T0.setTop (mkF m 9 #[vR o0, vR o1, vI (Int32.ofNat n)] [])) t → Steps p.tables e below (T0.setTop (mkF m 9 #[vR o0, vR o1, vI (Int32.ofNat n)] [])) t := fun _ k => k
  obtain ⟨cl1, Ar1, -, Sa1, -⟩ := id V_a
  have pre2 : ∀ t, Steps p.tables e below (T0.setTop (mkF m 33 #[vR o0, vR o1, vI (Int32.ofNat n)] [(.int (1 : Int32))])) t → Steps p.tables e below (T0.setTop (mkF m 9 #[vR o0, vR o1, vI (Int32.ofNat n)] [])) t := by
    intro t kt
    refine pre0 t ?_
    refine XS.iloadN X0.here hx rfl (hb hby d47_9) rfl ?_
    refine XS.aloadN X0.here hx rfl (hb hby d47_10) rfl rfl ?_
    refine X0.arraylength hx (by rw [e0]; exact Ar1.1) (State.isArrayOf_alike hZ.alike Ar1.2.1) (g := (mkF m 11 #[vR o0, vR o1, vI (Int32.ofNat n)] [(.ref o0), (.int (Int32.ofNat n))])) rfl rfl (hb hby d47_11) _ ?_
    rw [own_len Sa1]
    show Steps p.tables e below (T0.setTop (mkF m 12 #[vR o0, vR o1, vI (Int32.ofNat n)] [(.int (Int32.ofNat n)), (.int (Int32.ofNat n))])) _
    refine XS.icmpYes X0.here hx rfl (pc0 := 12) (pc' := 32) rfl (hb hby d47_12) rfl (flt (fun q => absurd ((own_ltI (by omega) (by omega)).mp q) (Nat.lt_irrefl n))).2.1 (by decide) (by decide) ?_
    refine XS.iconst X0.here hx rfl (hb hby d47_32) ?_
    exact kt
  exact ⟨T0, X0, e0, _, fun target kt => pre2 target kt⟩
theorem d47_25 : decode jdk_43_method_13_code 25 = .ok (.ireturn, 1) := by decide +kernel
theorem d47_33 : decode jdk_43_method_13_code 33 = .ok (.ireturn, 1) := by decide +kernel
set_option maxRecDepth 65536 in
set_option maxHeartbeats 40000000 in
theorem leL {p : Program} {l : Launch} {e : Env} {R : Room} {s : State} {m : MethodId} {args : Array Value} {below : List Frame} {meth : Method} {c : Code} {locs : List Loc} {cells slots : Nat} {Z : State} {a0 : Array Value} {h0 : Heap} (o0 o1 : Addr) (k0 k1 : ClassId) (n : Nat) (f f' : Nat → Int32) (hx : p.tables.exec = Jvm.exec) (hZ : Z.Warmed39 s.vm) (hw : ∀ d ∈ tables_1, d.before a0 Z = true) (hby : c.code = jdk_43_method_13_code) (hml : c.maxLocals = 3) (hown : s.vm.findClass "java/lang/StringLatin1" = some m.cls) (hn : n ≤ 4000) (V_a : GA Z h0 o0 k0 .byte n (fun i => .int (f i))) (V_b : GA Z h0 o1 k1 .byte n (fun i => .int (f' i))) (r : Int32) (hr : (r = 1 ∧ ∀ i, i < n → f i = f' i) ∨ (r = 0 ∧ ¬ ∀ i, i < n → f i = f' i)) :
    ∀ (k i : Nat) (T0 : State), i + k = n → (∀ j, j < i → f j = f' j) → Stand p l e R s m args below meth c T0 locs cells slots → T0.heap = h0 →
      ∃ (T' : State) (pc : Nat) (Ls : Array Slot), Stand p l e R s m args below meth c T' locs cells slots ∧ T'.heap = h0 ∧ decode c.code pc = .ok (.ireturn, 1) ∧ ∀ target, Steps p.tables e below (T'.setTop (mkF m pc Ls [.int r])) target → Steps p.tables e below (T0.setTop (mkF m 9 #[vR o0, vR o1, vI (Int32.ofNat i)] [])) target := by
  intro k
  induction k with
  | zero =>
    intro i T0 hi hj X0 e0
    obtain rfl : i = n := by omega
    obtain ⟨T1, X1, e1, Ls, st⟩ := leM o0 o1 k0 k1 i i f f' X0 hx hZ hw hby hml hown e0 hn V_a V_b
    have : r = 1 := by
      rcases hr with q | q
      · exact q.1
      · exact absurd hj q.2
    subst this
    exact ⟨T1, 33, Ls, X1, e1, by rw [hby]; exact d47_33, st⟩
  | succ k ih =>
    intro i T0 hi hj X0 e0
    obtain ⟨T1, X1, e1, hc⟩ := leT o0 o1 k0 k1 n i f f' X0 hx hZ hw hby hml hown e0 hn (by omega) V_a V_b
    rcases hc with ⟨hne, Ls, st⟩ | ⟨he, st⟩
    · have : r = 0 := by
        rcases hr with q | q
        · exact absurd (q.2 i (by omega)) hne
        · exact q.1
      subst this
      exact ⟨T1, 25, Ls, X1, e1, by rw [hby]; exact d47_25, st⟩
    · obtain ⟨T2, pc, Ls, X2, e2, hd, st2⟩ := ih (i + 1) T1 (by omega) (fun j hj' => by
        rcases Nat.lt_or_ge j i with q | q
        · exact hj j q
        · rw [show j = i from by omega]; exact he) X1 e1
      exact ⟨T2, pc, Ls, X2, e2, hd, fun target kt => st target (st2 target kt)⟩
theorem d47_0 : decode jdk_43_method_13_code 0 = .ok (.aload_n 0, 1) := by decide +kernel
theorem d47_1 : decode jdk_43_method_13_code 1 = .ok (.arraylength, 1) := by decide +kernel
theorem d47_2 : decode jdk_43_method_13_code 2 = .ok (.aload_n 1, 1) := by decide +kernel
theorem d47_3 : decode jdk_43_method_13_code 3 = .ok (.arraylength, 1) := by decide +kernel
theorem d47_4 : decode jdk_43_method_13_code 4 = .ok (.if_icmp .ne 30, 3) := by decide +kernel
theorem d47_7 : decode jdk_43_method_13_code 7 = .ok (.iconst 0, 1) := by decide +kernel
theorem d47_8 : decode jdk_43_method_13_code 8 = .ok (.istore_n 2, 1) := by decide +kernel
theorem d47_34 : decode jdk_43_method_13_code 34 = .ok (.iconst 0, 1) := by decide +kernel
theorem d47_35 : decode jdk_43_method_13_code 35 = .ok (.ireturn, 1) := by decide +kernel
theorem pn_47 : plainName "java/lang/StringLatin1" = true := by first | (simp [plainName, overriddenIn]; done) | decide +kernel
theorem ef_rLe (m : MethodId) (x0 : Addr) (x1 : Addr) : entryFrame m #[(.ref x0), (.ref x1)] 3 = mkF m 0 #[.val (.ref x0), .val (.ref x1), .unset] [] := by first | (simp [entryFrame, mkF, argsToLocals, Value.category]; done) | rfl
set_option maxRecDepth 65536 in
set_option maxHeartbeats 40000000 in
theorem rLe (l : Launch) (Z : State) (a0 : Array Value) (hw : ∀ d ∈ tables_1, d.before a0 Z = true) (ws : List Jvm.Cond) (o0 : Addr) (o1 : Addr) (k0 k1 : ClassId) (n n' : Nat) (f f' : Nat → Int32) (r : Int32) (hn : n ≤ 4000) (hn' : n' ≤ 4000) (hrr : (r = (1 : Int32) ∧ Same n n' f f') ∨ (r = (0 : Int32) ∧ ¬ Same n n' f f')) (h0 : Heap) (n0 : Nat) (Z0 : n0 ≤ h0.size) (V_a : GA Z h0 o0 k0 .byte n (fun i => .int (f i))) (V_b : GA Z h0 o1 k1 .byte n' (fun i => .int (f' i))) :
    MetFree l (⟨"java/lang/StringLatin1", "equals", "([B[B)Z"⟩ : MethodName) (head1 (Jvm.Cond.code (⟨"java/lang/StringLatin1", "equals", "([B[B)Z"⟩ : MethodName) jdk_43_method_13_code 3 (some .boolean) :: ws) ({ frames := 0, cells := 0, slots := 0, locals := 0 } : Room)) (fun a U => a = #[(.ref o0), (.ref o1)] ∧ Z.Warmed39 U.vm ∧ U.heap = h0) (fun _ _ _ _ _ => True) (fun _ U o U' => ∃ v L, o = .returned v ∧ QR (.int r) h0 n0 v U'.heap L ∧ FrameEnd U o U' L ({ frames := 0, cells := 0, slots := 0, locals := 0 } : Room).cells ({ frames := 0, cells := 0, slots := 0, locals := 0 } : Room).slots) := by
  refine MetFree.of_bodySF (plainFor_of_name pn_47) hisR ?_
  intro p e s m args below meth c s₁ Bd hml0 hP hK
  obtain ⟨rfl, hZ, hh⟩ := hP
  have hx := Bd.exec
  have hby := Bd.bytes
  have hml : c.maxLocals = 3 := hml0
  have hown : s.vm.findClass "java/lang/StringLatin1" = some m.cls := findClass_of_methodNamed Bd.named
  have hnm := (name_of_methodNamed Bd.named Bd.method).1
  have X0 : Stand p l e ({ frames := 0, cells := 0, slots := 0, locals := 0 } : Room) s m #[(.ref o0), (.ref o1)] below meth c s₁ [] 0 0 := Stand.of_body Bd
  have e0 : s₁.heap = h0 := by rw [← hh, Bd.state]; rfl
  have N0 := Fr.nil n0
  have pre0 : ∀ t, Steps p.tables e below (s₁.setTop (mkF m 0 #[vR o0, vR o1, zU] [])) t → Steps p.tables e below (s₁.setTop (entryFrame m #[(.ref o0), (.ref o1)] 3)) t := fun t k => castTop (ef_rLe m o0 o1) k
  obtain ⟨cl1, Ar1, -, Sa1, -⟩ := id V_a
  obtain ⟨cl2, Ar2, -, Sa2, -⟩ := id V_b
  have pre3 : ∀ t, Steps p.tables e below (s₁.setTop (mkF m 4 #[vR o0, vR o1, zU] [(.int (Int32.ofNat n')), (.int (Int32.ofNat n))])) t → Steps p.tables e below (s₁.setTop (entryFrame m #[(.ref o0), (.ref o1)] 3)) t := by
    intro t kt
    refine pre0 t ?_
    refine XS.aloadN X0.here hx rfl (hb hby d47_0) rfl rfl ?_
    refine X0.arraylength hx (by rw [e0]; exact Ar1.1) (State.isArrayOf_alike hZ.alike Ar1.2.1) (g := (mkF m 1 #[vR o0, vR o1, zU] [(.ref o0)])) rfl rfl (hb hby d47_1) _ ?_
    rw [own_len Sa1]
    refine XS.aloadN X0.here hx rfl (hb hby d47_2) rfl rfl ?_
    show Steps p.tables e below (s₁.setTop (mkF m 3 #[vR o0, vR o1, zU] [(.ref o1), (.int (Int32.ofNat n))])) _
    refine X0.arraylength hx (by rw [e0]; exact Ar2.1) (State.isArrayOf_alike hZ.alike Ar2.2.1) (g := (mkF m 3 #[vR o0, vR o1, zU] [(.ref o1), (.int (Int32.ofNat n))])) rfl rfl (hb hby d47_3) _ ?_
    rw [own_len Sa2]
    exact kt
  by_cases hc4 : (Int32.ofNat n) = (Int32.ofNat n')
  · skip
    have hc4' : n = n' := (own_inj (by omega) (by omega)).mp hc4
    have pre5 : ∀ t, Steps p.tables e below (s₁.setTop (mkF m 9 #[vR o0, vR o1, vI (0 : Int32)] [])) t → Steps p.tables e below (s₁.setTop (entryFrame m #[(.ref o0), (.ref o1)] 3)) t := by
      intro t kt
      refine pre3 t ?_
      refine XS.icmpNo X0.here hx rfl (hb hby d47_4) rfl (teq hc4).2 ?_
      refine XS.iconst X0.here hx rfl (hb hby d47_7) ?_
      refine XS.istoreN X0.here hx rfl (hb hby d47_8) rfl (l' := #[vR o0, vR o1, vI (0 : Int32)]) rfl ?_
      exact kt
    subst hc4'
    obtain ⟨T6, pc, Ls, X6, e6, hdec, st6⟩ := leL o0 o1 k0 k1 n f f' hx hZ hw hby hml hown hn V_a V_b r (hrr.imp (fun q => ⟨q.1, q.2.2⟩) (fun q => ⟨q.1, fun z => q.2 ⟨rfl, z⟩⟩)) n 0 _ (by omega) (fun j hj => absurd hj (Nat.not_lt_zero _)) X0 e0
    have hnr : nar .boolean r = r := by rcases hrr with ⟨rfl, -⟩ | ⟨rfl, -⟩ <;> rfl
    obtain ⟨fs, hr, hrun, hended, hW, hsame⟩ := X6.leave (v := some (.int (nar .boolean r))) (fun h => by rw [Bd.returns] at h; cases h)
    refine ⟨_, _, pre5 _ (st6 _ ?_), hrun, hended, _, _, rfl, ?_, ⟨_, rfl⟩, hW, hsame.mono (by decide) (by decide)⟩
    · exact retN X6 hx (t := .boolean) Bd.returns (by simp) hdec hr
    · exact ⟨by rw [hnr], N0, e6⟩
  · skip
    have hc4' : ¬ n = n' := fun q => hc4 ((own_inj (by omega) (by omega)).mpr q)
    obtain ⟨fs, hr, hrun, hended, hW, hsame⟩ := X0.leave (v := some (.int (0 : Int32))) (fun h => by rw [Bd.returns] at h; cases h)
    refine ⟨_, _, pre3 _ ?_, hrun, hended, _, _, rfl, ?_, ⟨_, rfl⟩, hW, hsame.mono (by decide) (by decide)⟩
    · skip
      show Steps p.tables e below (s₁.setTop (mkF m 4 #[vR o0, vR o1, zU] [(.int (Int32.ofNat n')), (.int (Int32.ofNat n))])) _
      refine XS.icmpYes X0.here hx rfl (pc0 := 4) (pc' := 34) rfl (hb hby d47_4) rfl (feq hc4).2 (by decide) (by decide) ?_
      refine XS.iconst X0.here hx rfl (hb hby d47_34) ?_
      show Steps p.tables e below (s₁.setTop (mkF m 35 #[vR o0, vR o1, zU] [(.int (0 : Int32))])) _
      exact retN X0 hx (t := .boolean) Bd.returns (by simp) (hb hby d47_35) hr
    · show QR (.int r) h0 n0 _ s₁.heap _
      rw [e0]
      exact ⟨(by rcases hrr with ⟨-, q⟩ | ⟨rfl, -⟩; exact absurd q.1 hc4'; rfl), N0, rfl⟩
theorem d46_0 : decode jdk_42_method_66_code 0 = .ok (.aload_n 0, 1) := by decide +kernel
theorem d46_1 : decode jdk_42_method_66_code 1 = .ok (.aload_n 1, 1) := by decide +kernel
theorem d46_2 : decode jdk_42_method_66_code 2 = .ok (.if_acmp .ne 5, 3) := by decide +kernel
theorem d46_7 : decode jdk_42_method_66_code 7 = .ok (.aload_n 1, 1) := by decide +kernel
theorem d46_8 : decode jdk_42_method_66_code 8 = .ok (.instanceof 10, 3) := by decide +kernel
theorem d46_11 : decode jdk_42_method_66_code 11 = .ok (.ifCond .eq 43, 3) := by decide +kernel
theorem d46_14 : decode jdk_42_method_66_code 14 = .ok (.aload_n 1, 1) := by decide +kernel
theorem d46_15 : decode jdk_42_method_66_code 15 = .ok (.checkcast 10, 3) := by decide +kernel
theorem d46_18 : decode jdk_42_method_66_code 18 = .ok (.astore_n 2, 1) := by decide +kernel
theorem d46_19 : decode jdk_42_method_66_code 19 = .ok (.getstatic 38, 3) := by decide +kernel
theorem d46_22 : decode jdk_42_method_66_code 22 = .ok (.ifCond .eq 14, 3) := by decide +kernel
theorem d46_25 : decode jdk_42_method_66_code 25 = .ok (.aload_n 0, 1) := by decide +kernel
theorem d46_26 : decode jdk_42_method_66_code 26 = .ok (.getfield 15, 3) := by decide +kernel
theorem d46_29 : decode jdk_42_method_66_code 29 = .ok (.aload_n 2, 1) := by decide +kernel
theorem d46_30 : decode jdk_42_method_66_code 30 = .ok (.getfield 15, 3) := by decide +kernel
theorem d46_33 : decode jdk_42_method_66_code 33 = .ok (.if_icmp .ne 21, 3) := by decide +kernel
theorem d46_36 : decode jdk_42_method_66_code 36 = .ok (.aload_n 0, 1) := by decide +kernel
theorem d46_37 : decode jdk_42_method_66_code 37 = .ok (.getfield 9, 3) := by decide +kernel
theorem d46_40 : decode jdk_42_method_66_code 40 = .ok (.aload_n 2, 1) := by decide +kernel
theorem d46_41 : decode jdk_42_method_66_code 41 = .ok (.getfield 9, 3) := by decide +kernel
theorem d46_44 : decode jdk_42_method_66_code 44 = .ok (.invokestatic 541, 3) := by decide +kernel
theorem pd___B_B_Z : parseMethodDescriptor "([B[B)Z" = some ⟨[(.array .byte), (.array .byte)], some .boolean⟩ := by decide +kernel
theorem d46_47 : decode jdk_42_method_66_code 47 = .ok (.ifCond .eq 7, 3) := by decide +kernel
theorem d46_54 : decode jdk_42_method_66_code 54 = .ok (.iconst 0, 1) := by decide +kernel
theorem d46_55 : decode jdk_42_method_66_code 55 = .ok (.ireturn, 1) := by decide +kernel
theorem d46_50 : decode jdk_42_method_66_code 50 = .ok (.iconst 1, 1) := by decide +kernel
theorem d46_51 : decode jdk_42_method_66_code 51 = .ok (.goto 4, 3) := by decide +kernel
theorem pn_46 : plainName "java/lang/String" = true := by first | (simp [plainName, overriddenIn]; done) | decide +kernel
theorem ef_rEqd (m : MethodId) (x0 : Addr) (x1 : Addr) : entryFrame m #[(.ref x0), (.ref x1)] 3 = mkF m 0 #[.val (.ref x0), .val (.ref x1), .unset] [] := by first | (simp [entryFrame, mkF, argsToLocals, Value.category]; done) | rfl
set_option maxRecDepth 65536 in
set_option maxHeartbeats 40000000 in
theorem rEqd (l : Launch) (Z : State) (a0 : Array Value) (hw : ∀ d ∈ tables_1, d.before a0 Z = true) (ws : List Jvm.Cond) (o0 : Addr) (o1 : Addr) (hne : ¬ o0 = o1) (v0 v1 : Addr) (k0 k1 : ClassId) (n n' : Nat) (f f' : Nat → Int32) (r : Int32) (hn : n ≤ 4000) (hn' : n' ≤ 4000) (hrr : (r = (1 : Int32) ∧ Same n n' f f') ∨ (r = (0 : Int32) ∧ ¬ Same n n' f f')) (h0 : Heap) (n0 : Nat) (Z0 : n0 ≤ h0.size) (R_s : SB Z h0 o0 v0 k0 n f) (R_t : SB Z h0 o1 v1 k1 n' f') (cs : Int32) (hcs : ¬ cs = (0 : Int32)) (S_C : Sta Z h0 "java/lang/String" "COMPACT_STRINGS" "Z" (.int cs)) :
    MetFree l (⟨"java/lang/String", "equals", "(Ljava/lang/Object;)Z"⟩ : MethodName) (head1 (Jvm.Cond.code (⟨"java/lang/String", "equals", "(Ljava/lang/Object;)Z"⟩ : MethodName) jdk_42_method_66_code 3 (some .boolean) :: ws) ({ frames := 1, cells := 0, slots := 0, locals := 15 } : Room)) (fun a U => a = #[(.ref o0), (.ref o1)] ∧ Z.Warmed39 U.vm ∧ U.heap = h0) (fun _ _ _ _ _ => True) (fun _ U o U' => ∃ v L, o = .returned v ∧ QR (.int r) h0 n0 v U'.heap L ∧ FrameEnd U o U' L ({ frames := 1, cells := 0, slots := 0, locals := 15 } : Room).cells ({ frames := 1, cells := 0, slots := 0, locals := 15 } : Room).slots) := by
  refine MetFree.of_bodySF (plainFor_of_name pn_46) hisR ?_
  intro p e s m args below meth c s₁ Bd hml0 hP hK
  obtain ⟨rfl, hZ, hh⟩ := hP
  have hx := Bd.exec
  have hby := Bd.bytes
  have hml : c.maxLocals = 3 := hml0
  have hown : s.vm.findClass "java/lang/String" = some m.cls := findClass_of_methodNamed Bd.named
  have hnm := (name_of_methodNamed Bd.named Bd.method).1
  have X0 : Stand p l e ({ frames := 1, cells := 0, slots := 0, locals := 15 } : Room) s m #[(.ref o0), (.ref o1)] below meth c s₁ [] 0 0 := Stand.of_body Bd
  have e0 : s₁.heap = h0 := by rw [← hh, Bd.state]; rfl
  have N0 := Fr.nil n0
  have pre0 : ∀ t, Steps p.tables e below (s₁.setTop (mkF m 0 #[vR o0, vR o1, zU] [])) t → Steps p.tables e below (s₁.setTop (entryFrame m #[(.ref o0), (.ref o1)] 3)) t := fun t k => castTop (ef_rEqd m o0 o1) k
  obtain ⟨E, Fc, Fv, Va⟩ := id R_s
  obtain ⟨E1, Fc1, Fv1, Va1⟩ := id R_t
  obtain ⟨T1, X1, e1, st1⟩ := instY X0 hx hZ hown (wd hw 299 rfl) e0 (Ins.self E1) (g := (mkF m 8 #[vR o0, vR o1, zU] [(.ref o1)])) rfl rfl (hb hby d46_8)
  obtain ⟨T2, X2, e2, st2⟩ := castY X1 hx hZ hown (wd hw 299 rfl) e1 (Ins.self E1) (g := (mkF m 15 #[vR o0, vR o1, zU] [(.ref o1)])) rfl rfl (hb hby d46_15)
  obtain ⟨T3, X3, e3, st3⟩ := getS2 X2 hx hZ hown (host := "") (Or.inl (wd hw 59 rfl)) Via.refl e2 S_C (g := (mkF m 19 #[vR o0, vR o1, vR o1] [])) rfl (hb hby d46_19)
  obtain ⟨T4, X4, e4, st4⟩ := getF X3 hx hZ hown (host := "") (Or.inl (wd hw 60 rfl)) Via.refl e3 Fc (g := (mkF m 26 #[vR o0, vR o1, vR o1] [(.ref o0)])) rfl rfl (hb hby d46_26)
  obtain ⟨T5, X5, e5, st5⟩ := getF X4 hx hZ hown (host := "") (Or.inl (wd hw 60 rfl)) Via.refl e4 Fc1 (g := (mkF m 30 #[vR o0, vR o1, vR o1] [(.ref o1), (.int (0 : Int32))])) rfl rfl (hb hby d46_30)
  obtain ⟨T6, X6, e6, st6⟩ := getF X5 hx hZ hown (host := "") (Or.inl (wd hw 53 rfl)) Via.refl e5 Fv (g := (mkF m 37 #[vR o0, vR o1, vR o1] [(.ref o0)])) rfl rfl (hb hby d46_37)
  obtain ⟨T7, X7, e7, st7⟩ := getF X6 hx hZ hown (host := "") (Or.inl (wd hw 53 rfl)) Via.refl e6 Fv1 (g := (mkF m 41 #[vR o0, vR o1, vR o1] [(.ref o1), (.ref v0)])) rfl rfl (hb hby d46_41)
  obtain ⟨_, _, ⟨T8, L8, k8, n8⟩, -, X8, ⟨Lc8, hQ8, l8, y8, z8⟩, st8⟩ := Jvm.LawKit.callS X7 hx (y := (⟨"java/lang/StringLatin1", "equals", "([B[B)Z"⟩ : MethodName)) hown (mvT hZ (wd hw 300 rfl)) (mvT hZ (wd hw 301 rfl)) (mvT hZ (wd hw 283 rfl)) (mvT hZ (wd hw 302 rfl)) (by decide) (backOf (W := 0) (rLe l Z a0 hw [] v0 v1 k0 k1 n n' f f' r hn hn' hrr h0 n0 Z0 Va Va1) hZ (wd hw 302 rfl) (wd hw 283 rfl) (by decide) (by decide)) (g := (mkF m 44 #[vR o0, vR o1, vR o1] [(.ref v1), (.ref v0)])) rfl (by rw [hml]; rfl) (argsL := [(.ref v0), (.ref v1)]) (rest := []) (lenOf pd___B_B_Z rfl) rfl (by show 2 * 0 + _ ≤ _; exact Nat.le_of_eq rfl) (hb hby d46_44) (fun _ _ => ⟨rfl, e7, (by decide : 0 + 0 ≤ _), (by decide : 0 + 0 ≤ _)⟩)
  dsimp only [Pt.U, Pt.locs, Pt.cells, Pt.slots] at X8 l8 y8 z8 st8 hQ8
  rw [l8, y8, z8] at X8
  obtain ⟨rfl, N8q, e8⟩ := hQ8
  have N8 := Fr.app N0 N8q
  have pre9 : ∀ t, Steps p.tables e below (T8.setTop (mkF m 47 #[vR o0, vR o1, vR o1] [(.int r)])) t → Steps p.tables e below (s₁.setTop (entryFrame m #[(.ref o0), (.ref o1)] 3)) t := by
    intro t kt
    refine pre0 t ?_
    refine XS.aloadN X0.here hx rfl (hb hby d46_0) rfl rfl ?_
    refine XS.aloadN X0.here hx rfl (hb hby d46_1) rfl rfl ?_
    show Steps p.tables e below (s₁.setTop (mkF m 2 #[vR o0, vR o1, zU] [(.ref o1), (.ref o0)])) _
    refine Jvm.RoadKit.acmp (g := (mkF m 2 #[vR o0, vR o1, zU] [(.ref o1), (.ref o0)])) X0 hx rfl rfl rfl (pc0 := 2) (pc' := 7) (same := false) rfl (hb hby d46_2) rfl (decide_eq_false fun q => hne (Value.ref.inj q)) (by decide) (by decide) ?_
    refine XS.aloadN X0.here hx rfl (hb hby d46_7) rfl rfl ?_
    show Steps p.tables e below (s₁.setTop (mkF m 8 #[vR o0, vR o1, zU] [(.ref o1)])) _
    refine st1 _ ?_
    refine XS.ifNo X1.here hx rfl (hb hby d46_11) rfl ((if0 _ _).trans (feq (by decide : ¬ ((1 : Int32) = (0 : Int32)))).1) ?_
    refine XS.aloadN X1.here hx rfl (hb hby d46_14) rfl rfl ?_
    refine st2 _ ?_
    show Steps p.tables e below (T2.setTop (mkF m 18 #[vR o0, vR o1, zU] [(.ref o1)])) _
    refine XS.astoreN X2.here hx rfl (hb hby d46_18) rfl rfl (l' := #[vR o0, vR o1, vR o1]) rfl ?_
    refine st3 _ ?_
    refine XS.ifNo X3.here hx rfl (hb hby d46_22) rfl ((if0 _ _).trans (feq hcs).1) ?_
    refine XS.aloadN X3.here hx rfl (hb hby d46_25) rfl rfl ?_
    show Steps p.tables e below (T3.setTop (mkF m 26 #[vR o0, vR o1, vR o1] [(.ref o0)])) _
    refine st4 _ ?_
    refine XS.aloadN X4.here hx rfl (hb hby d46_29) rfl rfl ?_
    refine st5 _ ?_
    refine XS.icmpNo X5.here hx rfl (hb hby d46_33) rfl (teq (by decide : (0 : Int32) = (0 : Int32))).2 ?_
    show Steps p.tables e below (T5.setTop (mkF m 36 #[vR o0, vR o1, vR o1] [])) _
    refine XS.aloadN X5.here hx rfl (hb hby d46_36) rfl rfl ?_
    refine st6 _ ?_
    refine XS.aloadN X6.here hx rfl (hb hby d46_40) rfl rfl ?_
    refine st7 _ ?_
    show Steps p.tables e below (T7.setTop (mkF m 44 #[vR o0, vR o1, vR o1] [(.ref v1), (.ref v0)])) _
    refine st8 _ ?_
    exact kt
  by_cases hc10 : r = (0 : Int32)
  · skip
    obtain ⟨fs, hr, hrun, hended, hW, hsame⟩ := X8.leave (v := some (.int (0 : Int32))) (fun h => by rw [Bd.returns] at h; cases h)
    refine ⟨_, _, pre9 _ ?_, hrun, hended, _, _, rfl, ?_, ⟨_, rfl⟩, hW, hsame.mono (by decide) (by decide)⟩
    · skip
      refine XS.ifYes X8.here hx rfl (pc0 := 47) (pc' := 54) rfl (hb hby d46_47) rfl ((if0 _ _).trans (teq hc10).1) (by decide) (by decide) ?_
      refine XS.iconst X8.here hx rfl (hb hby d46_54) ?_
      show Steps p.tables e below (T8.setTop (mkF m 55 #[vR o0, vR o1, vR o1] [(.int (0 : Int32))])) _
      exact retN X8 hx (t := .boolean) Bd.returns (by simp) (hb hby d46_55) hr
    · show QR (.int r) h0 n0 _ T8.heap _
      rw [e8]
      exact ⟨(by rcases hrr with ⟨rfl, -⟩ | ⟨rfl, -⟩ <;> first | rfl | (exact absurd hc10 (by decide))), N8, rfl⟩
  · skip
    obtain ⟨fs, hr, hrun, hended, hW, hsame⟩ := X8.leave (v := some (.int (1 : Int32))) (fun h => by rw [Bd.returns] at h; cases h)
    refine ⟨_, _, pre9 _ ?_, hrun, hended, _, _, rfl, ?_, ⟨_, rfl⟩, hW, hsame.mono (by decide) (by decide)⟩
    · skip
      refine XS.ifNo X8.here hx rfl (hb hby d46_47) rfl ((if0 _ _).trans (feq hc10).1) ?_
      show Steps p.tables e below (T8.setTop (mkF m 50 #[vR o0, vR o1, vR o1] [])) _
      refine XS.iconst X8.here hx rfl (hb hby d46_50) ?_
      refine XS.goto X8.here hx rfl (pc0 := 51) (pc' := 55) rfl (hb hby d46_51) (by decide) (by decide) ?_
      show Steps p.tables e below (T8.setTop (mkF m 55 #[vR o0, vR o1, vR o1] [(.int (1 : Int32))])) _
      exact retN X8 hx (t := .boolean) Bd.returns (by simp) (hb hby d46_55) hr
    · show QR (.int r) h0 n0 _ T8.heap _
      rw [e8]
      exact ⟨(by rcases hrr with ⟨rfl, -⟩ | ⟨rfl, -⟩ <;> first | rfl | (exact absurd hc10 (by decide))), N8, rfl⟩
theorem d46_5 : decode jdk_42_method_66_code 5 = .ok (.iconst 1, 1) := by decide +kernel
theorem d46_6 : decode jdk_42_method_66_code 6 = .ok (.ireturn, 1) := by decide +kernel
theorem ef_rEqs (m : MethodId) (x0 : Addr) (x1 : Addr) : entryFrame m #[(.ref x0), (.ref x1)] 3 = mkF m 0 #[.val (.ref x0), .val (.ref x1), .unset] [] := by first | (simp [entryFrame, mkF, argsToLocals, Value.category]; done) | rfl
set_option maxRecDepth 65536 in
set_option maxHeartbeats 40000000 in
theorem rEqs (l : Launch) (Z : State) (a0 : Array Value) (hw : ∀ d ∈ tables_1, d.before a0 Z = true) (ws : List Jvm.Cond) (o0 : Addr) (h0 : Heap) (n0 : Nat) (Z0 : n0 ≤ h0.size) :
    MetFree l (⟨"java/lang/String", "equals", "(Ljava/lang/Object;)Z"⟩ : MethodName) (head1 (Jvm.Cond.code (⟨"java/lang/String", "equals", "(Ljava/lang/Object;)Z"⟩ : MethodName) jdk_42_method_66_code 3 (some .boolean) :: ws) ({ frames := 1, cells := 0, slots := 0, locals := 15 } : Room)) (fun a U => a = #[(.ref o0), (.ref o0)] ∧ Z.Warmed39 U.vm ∧ U.heap = h0) (fun _ _ _ _ _ => True) (fun _ U o U' => ∃ v L, o = .returned v ∧ QR (.int (1 : Int32)) h0 n0 v U'.heap L ∧ FrameEnd U o U' L ({ frames := 1, cells := 0, slots := 0, locals := 15 } : Room).cells ({ frames := 1, cells := 0, slots := 0, locals := 15 } : Room).slots) := by
  refine MetFree.of_bodySF (plainFor_of_name pn_46) hisR ?_
  intro p e s m args below meth c s₁ Bd hml0 hP hK
  obtain ⟨rfl, hZ, hh⟩ := hP
  have hx := Bd.exec
  have hby := Bd.bytes
  have hml : c.maxLocals = 3 := hml0
  have hown : s.vm.findClass "java/lang/String" = some m.cls := findClass_of_methodNamed Bd.named
  have hnm := (name_of_methodNamed Bd.named Bd.method).1
  have X0 : Stand p l e ({ frames := 1, cells := 0, slots := 0, locals := 15 } : Room) s m #[(.ref o0), (.ref o0)] below meth c s₁ [] 0 0 := Stand.of_body Bd
  have e0 : s₁.heap = h0 := by rw [← hh, Bd.state]; rfl
  have N0 := Fr.nil n0
  have pre0 : ∀ t, Steps p.tables e below (s₁.setTop (mkF m 0 #[vR o0, vR o0, zU] [])) t → Steps p.tables e below (s₁.setTop (entryFrame m #[(.ref o0), (.ref o0)] 3)) t := fun t k => castTop (ef_rEqs m o0 o0) k
  obtain ⟨fs, hr, hrun, hended, hW, hsame⟩ := X0.leave (v := some (.int (1 : Int32))) (fun h => by rw [Bd.returns] at h; cases h)
  refine ⟨_, _, pre0 _ ?_, hrun, hended, _, _, rfl, ?_, ⟨_, rfl⟩, hW, hsame.mono (by decide) (by decide)⟩
  · skip
    refine XS.aloadN X0.here hx rfl (hb hby d46_0) rfl rfl ?_
    refine XS.aloadN X0.here hx rfl (hb hby d46_1) rfl rfl ?_
    show Steps p.tables e below (s₁.setTop (mkF m 2 #[vR o0, vR o0, zU] [(.ref o0), (.ref o0)])) _
    refine Jvm.RoadKit.acmp (g := (mkF m 2 #[vR o0, vR o0, zU] [(.ref o0), (.ref o0)])) X0 hx rfl rfl rfl (pc0 := 2) (pc' := 5) (same := true) rfl (hb hby d46_2) rfl (decide_eq_true rfl) (by decide) (by decide) ?_
    refine XS.iconst X0.here hx rfl (hb hby d46_5) ?_
    show Steps p.tables e below (s₁.setTop (mkF m 6 #[vR o0, vR o0, zU] [(.int (1 : Int32))])) _
    exact retN X0 hx (t := .boolean) Bd.returns (by simp) (hb hby d46_6) hr
  · show QR (.int (1 : Int32)) h0 n0 _ s₁.heap _
    rw [e0]
    exact ⟨(by first | rfl | simp []), N0, rfl⟩
theorem ef_rEqn (m : MethodId) (x0 : Addr) : entryFrame m #[(.ref x0), .null] 3 = mkF m 0 #[.val (.ref x0), .val .null, .unset] [] := by first | (simp [entryFrame, mkF, argsToLocals, Value.category]; done) | rfl
set_option maxRecDepth 65536 in
set_option maxHeartbeats 40000000 in
theorem rEqn (l : Launch) (Z : State) (a0 : Array Value) (hw : ∀ d ∈ tables_1, d.before a0 Z = true) (ws : List Jvm.Cond) (o0 : Addr) (h0 : Heap) (n0 : Nat) (Z0 : n0 ≤ h0.size) :
    MetFree l (⟨"java/lang/String", "equals", "(Ljava/lang/Object;)Z"⟩ : MethodName) (head1 (Jvm.Cond.code (⟨"java/lang/String", "equals", "(Ljava/lang/Object;)Z"⟩ : MethodName) jdk_42_method_66_code 3 (some .boolean) :: ws) ({ frames := 1, cells := 0, slots := 0, locals := 15 } : Room)) (fun a U => a = #[(.ref o0), .null] ∧ Z.Warmed39 U.vm ∧ U.heap = h0) (fun _ _ _ _ _ => True) (fun _ U o U' => ∃ v L, o = .returned v ∧ QR (.int (0 : Int32)) h0 n0 v U'.heap L ∧ FrameEnd U o U' L ({ frames := 1, cells := 0, slots := 0, locals := 15 } : Room).cells ({ frames := 1, cells := 0, slots := 0, locals := 15 } : Room).slots) := by
  refine MetFree.of_bodySF (plainFor_of_name pn_46) hisR ?_
  intro p e s m args below meth c s₁ Bd hml0 hP hK
  obtain ⟨rfl, hZ, hh⟩ := hP
  have hx := Bd.exec
  have hby := Bd.bytes
  have hml : c.maxLocals = 3 := hml0
  have hown : s.vm.findClass "java/lang/String" = some m.cls := findClass_of_methodNamed Bd.named
  have hnm := (name_of_methodNamed Bd.named Bd.method).1
  have X0 : Stand p l e ({ frames := 1, cells := 0, slots := 0, locals := 15 } : Room) s m #[(.ref o0), .null] below meth c s₁ [] 0 0 := Stand.of_body Bd
  have e0 : s₁.heap = h0 := by rw [← hh, Bd.state]; rfl
  have N0 := Fr.nil n0
  have pre0 : ∀ t, Steps p.tables e below (s₁.setTop (mkF m 0 #[vR o0, vN, zU] [])) t → Steps p.tables e below (s₁.setTop (entryFrame m #[(.ref o0), .null] 3)) t := fun t k => castTop (ef_rEqn m o0) k
  obtain ⟨fs, hr, hrun, hended, hW, hsame⟩ := X0.leave (v := some (.int (0 : Int32))) (fun h => by rw [Bd.returns] at h; cases h)
  refine ⟨_, _, pre0 _ ?_, hrun, hended, _, _, rfl, ?_, ⟨_, rfl⟩, hW, hsame.mono (by decide) (by decide)⟩
  · skip
    refine XS.aloadN X0.here hx rfl (hb hby d46_0) rfl rfl ?_
    refine XS.aloadN X0.here hx rfl (hb hby d46_1) rfl rfl ?_
    show Steps p.tables e below (s₁.setTop (mkF m 2 #[vR o0, vN, zU] [.null, (.ref o0)])) _
    refine Jvm.RoadKit.acmp (g := (mkF m 2 #[vR o0, vN, zU] [.null, (.ref o0)])) X0 hx rfl rfl rfl (pc0 := 2) (pc' := 7) (same := false) rfl (hb hby d46_2) rfl (decide_eq_false nofun) (by decide) (by decide) ?_
    refine XS.aloadN X0.here hx rfl (hb hby d46_7) rfl rfl ?_
    show Steps p.tables e below (s₁.setTop (mkF m 8 #[vR o0, vN, zU] [.null])) _
    refine X0.instanceofNull hx (g := (mkF m 8 #[vR o0, vN, zU] [.null])) rfl rfl (hb hby d46_8) _ ?_
    refine XS.ifYes X0.here hx rfl (pc0 := 11) (pc' := 54) rfl (hb hby d46_11) rfl ((if0 _ _).trans (teq (by decide : (0 : Int32) = (0 : Int32))).1) (by decide) (by decide) ?_
    refine XS.iconst X0.here hx rfl (hb hby d46_54) ?_
    show Steps p.tables e below (s₁.setTop (mkF m 55 #[vR o0, vN, zU] [(.int (0 : Int32))])) _
    exact retN X0 hx (t := .boolean) Bd.returns (by simp) (hb hby d46_55) hr
  · show QR (.int (0 : Int32)) h0 n0 _ s₁.heap _
    rw [e0]
    exact ⟨(by first | rfl | simp []), N0, rfl⟩
theorem rEq (l : Launch) (Z : State) (a0 : Array Value) (hw : ∀ d ∈ tables_1, d.before a0 Z = true) (ws : List Jvm.Cond) (o0 o1 : Addr) (v0 v1 : Addr) (k0 k1 : ClassId) (n n' : Nat) (f f' : Nat → Int32) (r : Int32) (hn : n ≤ 4000) (hn' : n' ≤ 4000) (hrr : (r = (1 : Int32) ∧ Same n n' f f') ∨ (r = (0 : Int32) ∧ ¬ Same n n' f f')) (h0 : Heap) (n0 : Nat) (Z0 : n0 ≤ h0.size) (R_s : SB Z h0 o0 v0 k0 n f) (R_t : SB Z h0 o1 v1 k1 n' f') (cs : Int32) (hcs : ¬ cs = (0 : Int32)) (S_C : Sta Z h0 "java/lang/String" "COMPACT_STRINGS" "Z" (.int cs)) :
    MetFree l (⟨"java/lang/String", "equals", "(Ljava/lang/Object;)Z"⟩ : MethodName) (head1 (Jvm.Cond.code (⟨"java/lang/String", "equals", "(Ljava/lang/Object;)Z"⟩ : MethodName) jdk_42_method_66_code 3 (some .boolean) :: ws) ({ frames := 1, cells := 0, slots := 0, locals := 15 } : Room)) (fun a U => a = #[(.ref o0), (.ref o1)] ∧ Z.Warmed39 U.vm ∧ U.heap = h0) (fun _ _ _ _ _ => True) (fun _ U o U' => ∃ v L, o = .returned v ∧ QR (.int r) h0 n0 v U'.heap L ∧ FrameEnd U o U' L ({ frames := 1, cells := 0, slots := 0, locals := 15 } : Room).cells ({ frames := 1, cells := 0, slots := 0, locals := 15 } : Room).slots) := by
  by_cases q : o0 = o1
  · subst q
    have z := SB.same R_s R_t
    have : r = 1 := by
      rcases hrr with q | q
      · exact q.1
      · exact absurd z q.2
    subst this
    exact rEqs l Z a0 hw ws o0 h0 n0 Z0
  · exact rEqd l Z a0 hw ws o0 o1 q v0 v1 k0 k1 n n' f f' r hn hn' hrr h0 n0 Z0 R_s R_t cs hcs S_C
def BD (Z : State) (h : Heap) (b v : Addr) (k : ClassId) (cap n : Nat) (f : Nat → Nat) : Prop := Exa Z h b "java/lang/StringBuilder" ∧ Fld Z h b "java/lang/AbstractStringBuilder" "coder" "B" (.int (0 : Int32)) ∧ Fld Z h b "java/lang/AbstractStringBuilder" "count" "I" (.int (Int32.ofNat n)) ∧ Fld Z h b "java/lang/AbstractStringBuilder" "value" "[B" (.ref v) ∧ GA Z h v k .byte cap (fun i => .int (Int32.ofNat (f i)))
theorem BD.keep {Z : State} {h h' : Heap} {b v : Addr} {k : ClassId} {cap n : Nat} {f : Nat → Nat} {ws : List Addr} (S : BD Z h b v k cap n f) (K : Keep h h' ws) (q1 : b ∉ ws) (q2 : v ∉ ws) : BD Z h' b v k cap n f := ⟨S.1.keep K, S.2.1.keep K q1, S.2.2.1.keep K q1, S.2.2.2.1.keep K q1, S.2.2.2.2.keep K q2⟩
theorem BD.ext {Z : State} {h h' : Heap} {b v : Addr} {k : ClassId} {cap n : Nat} {f : Nat → Nat} (S : BD Z h b v k cap n f) (E : Ext h h') : BD Z h' b v k cap n f := ⟨S.1.ext E, S.2.1.ext E, S.2.2.1.ext E, S.2.2.2.1.ext E, S.2.2.2.2.ext E⟩
theorem own_same {Z : State} {a0 : Array Value} {y y2 : MethodName} (hm : y.cls ≠ "java/lang/invoke/MethodHandle" ∧ y.cls ≠ "java/lang/invoke/VarHandle") (w : (Cond.instanceMethod y).before a0 Z = true) (w2 : (Cond.instanceMethod y2).before a0 Z = true) (nf : NotFace Z y2) (hc : y2.cls = y.cls) : (Cond.sameMethod y.cls y.cls y.name y.desc).before a0 Z = true := by
  obtain ⟨mk, methM, hnamed, hmethM, hstM, habM⟩ := Cond.instanceMethod_spec w
  obtain ⟨mk2, methM2, hnamed2, -, -, -⟩ := Cond.instanceMethod_spec w2
  obtain ⟨kr, hkr, hni⟩ := nf mk2 hnamed2
  have f1 := findClass_of_methodNamed hnamed
  have f2 := findClass_of_methodNamed hnamed2
  rw [hc] at f2
  have e : mk2.cls = mk.cls := Option.some.inj (f2.symm.trans f1)
  rw [e] at hkr
  have hf := State.methodFound?_of_named hnamed hm
  simp [Cond.before, Cond.holds, Cond.value, f1, hf, hnamed, hkr, hni]
theorem own_nf {s : State} {args : Array Value} {y y2 : MethodName} (w2 : (Cond.instanceMethod y2).before args s = true) (nf : NotFace s y2) (hc : y2.cls = y.cls) : NotFace s y := fun r0 h0 => by
  obtain ⟨mk2, methM2, hnamed2, -, -, -⟩ := Cond.instanceMethod_spec w2
  obtain ⟨kr, hkr, hni⟩ := nf mk2 hnamed2
  have f1 := findClass_of_methodNamed h0
  have f2 := findClass_of_methodNamed hnamed2
  rw [hc] at f2
  have e : mk2.cls = r0.cls := Option.some.inj (f2.symm.trans f1)
  rw [e] at hkr
  exact ⟨kr, hkr, hni⟩
theorem own_declares {Z : State} {a0 : Array Value} {y : MethodName} {bytes : ByteArray} {maxL : Nat} {ret : Option FieldType} (w : (Cond.instanceMethod y).before a0 Z = true) (wc : (Cond.code y bytes maxL ret).before a0 Z = true) : (Cond.declares y).before a0 Z = true := by
  obtain ⟨mk, methM, hnamed, hmethM, hstM, habM⟩ := Cond.instanceMethod_spec w
  obtain ⟨m2, cM, q1, -, -, -, -, -, -, hsig⟩ := Cond.code_spec hnamed wc
  cases hmethM.symm.trans q1
  simp [Cond.before, Cond.holds, Cond.value, hnamed, hmethM, hstM, hsig]
theorem d21_0 : decode jdk_68_method_68_code 0 = .ok (.getstatic 18, 3) := by decide +kernel
theorem d21_3 : decode jdk_68_method_68_code 3 = .ok (.ifCond .eq 14, 3) := by decide +kernel
theorem d21_6 : decode jdk_68_method_68_code 6 = .ok (.aload_n 0, 1) := by decide +kernel
theorem d21_7 : decode jdk_68_method_68_code 7 = .ok (.getfield 22, 3) := by decide +kernel
theorem d21_10 : decode jdk_68_method_68_code 10 = .ok (.ifCond .ne 7, 3) := by decide +kernel
theorem d21_13 : decode jdk_68_method_68_code 13 = .ok (.iconst 1, 1) := by decide +kernel
theorem d21_14 : decode jdk_68_method_68_code 14 = .ok (.goto 4, 3) := by decide +kernel
theorem d21_18 : decode jdk_68_method_68_code 18 = .ok (.ireturn, 1) := by decide +kernel
theorem pn_21 : plainName "java/lang/AbstractStringBuilder" = true := by first | (simp [plainName, overriddenIn]; done) | decide +kernel
theorem ef_bLat (m : MethodId) (x0 : Addr) : entryFrame m #[(.ref x0)] 1 = mkF m 0 #[.val (.ref x0)] [] := by first | (simp [entryFrame, mkF, argsToLocals, Value.category]; done) | rfl
set_option maxRecDepth 65536 in
set_option maxHeartbeats 40000000 in
theorem bLat (l : Launch) (Z : State) (a0 : Array Value) (hw : ∀ d ∈ tables_1, d.before a0 Z = true) (ws : List Jvm.Cond) (o0 : Addr) (vb : Addr) (kb : ClassId) (cap nb : Nat) (f : Nat → Nat) (hcap : cap ≤ 1000) (hnb : nb ≤ cap) (hf : Asc f) (h0 : Heap) (n0 : Nat) (Z0 : n0 ≤ h0.size) (KZ : Keep Z.heap h0 []) (hz : Z.heap.size ≤ n0) (R_b : BD Z h0 o0 vb kb cap nb f) (cs : Int32) (hcs : ¬ cs = (0 : Int32)) (S_Cz : Sta Z Z.heap "java/lang/String" "COMPACT_STRINGS" "Z" (.int cs)) :
    MetFree l (⟨"java/lang/AbstractStringBuilder", "isLatin1", "()Z"⟩ : MethodName) (head1 (Jvm.Cond.code (⟨"java/lang/AbstractStringBuilder", "isLatin1", "()Z"⟩ : MethodName) jdk_68_method_68_code 1 (some .boolean) :: ws) ({ frames := 0, cells := 0, slots := 0, locals := 0 } : Room)) (fun a U => a = #[(.ref o0)] ∧ Z.Warmed39 U.vm ∧ U.heap = h0) (fun _ _ _ _ _ => True) (fun _ U o U' => ∃ v L, o = .returned v ∧ QR (.int (1 : Int32)) h0 n0 v U'.heap L ∧ FrameEnd U o U' L ({ frames := 0, cells := 0, slots := 0, locals := 0 } : Room).cells ({ frames := 0, cells := 0, slots := 0, locals := 0 } : Room).slots) := by
  refine MetFree.of_bodySF (plainFor_of_name pn_21) hisR ?_
  intro p e s m args below meth c s₁ Bd hml0 hP hK
  obtain ⟨rfl, hZ, hh⟩ := hP
  have hx := Bd.exec
  have hby := Bd.bytes
  have hml : c.maxLocals = 1 := hml0
  have hown : s.vm.findClass "java/lang/AbstractStringBuilder" = some m.cls := findClass_of_methodNamed Bd.named
  have hnm := (name_of_methodNamed Bd.named Bd.method).1
  have X0 : Stand p l e ({ frames := 0, cells := 0, slots := 0, locals := 0 } : Room) s m #[(.ref o0)] below meth c s₁ [] 0 0 := Stand.of_body Bd
  have e0 : s₁.heap = h0 := by rw [← hh, Bd.state]; rfl
  have N0 := Fr.nil n0
  have pre0 : ∀ t, Steps p.tables e below (s₁.setTop (mkF m 0 #[vR o0] [])) t → Steps p.tables e below (s₁.setTop (entryFrame m #[(.ref o0)] 1)) t := fun t k => castTop (ef_bLat m o0) k
  have S_C := own_sta_keep S_Cz KZ all0
  obtain ⟨EB, FcB, FnB, FvB, VB⟩ := id R_b
  obtain ⟨T1, X1, e1, st1⟩ := getS2 X0 hx hZ hown (host := "") (Or.inl (wd hw 25 rfl)) Via.refl e0 S_C (g := (mkF m 0 #[vR o0] [])) rfl (hb hby d21_0)
  obtain ⟨T2, X2, e2, st2⟩ := getF X1 hx hZ hown (host := "") (Or.inl (wd hw 30 rfl)) Via.refl e1 FcB (g := (mkF m 7 #[vR o0] [(.ref o0)])) rfl rfl (hb hby d21_7)
  obtain ⟨fs, hr, hrun, hended, hW, hsame⟩ := X2.leave (v := some (.int (1 : Int32))) (fun h => by rw [Bd.returns] at h; cases h)
  refine ⟨_, _, pre0 _ ?_, hrun, hended, _, _, rfl, ?_, ⟨_, rfl⟩, hW, hsame.mono (by decide) (by decide)⟩
  · skip
    refine st1 _ ?_
    refine XS.ifNo X1.here hx rfl (hb hby d21_3) rfl ((if0 _ _).trans (feq hcs).1) ?_
    refine XS.aloadN X1.here hx rfl (hb hby d21_6) rfl rfl ?_
    show Steps p.tables e below (T1.setTop (mkF m 7 #[vR o0] [(.ref o0)])) _
    refine st2 _ ?_
    refine XS.ifNo X2.here hx rfl (hb hby d21_10) rfl ((if0 _ _).trans (teq (by decide : (0 : Int32) = (0 : Int32))).2) ?_
    refine XS.iconst X2.here hx rfl (hb hby d21_13) ?_
    refine XS.goto X2.here hx rfl (pc0 := 14) (pc' := 18) rfl (hb hby d21_14) (by decide) (by decide) ?_
    show Steps p.tables e below (T2.setTop (mkF m 18 #[vR o0] [(.int (1 : Int32))])) _
    exact retN X2 hx (t := .boolean) Bd.returns (by simp) (hb hby d21_18) hr
  · show QR (.int (1 : Int32)) h0 n0 _ T2.heap _
    rw [e2]
    exact ⟨(by first | rfl | simp []), N0, rfl⟩
theorem d28_0 : decode jdk_68_method_6_code 0 = .ok (.aload_n 0, 1) := by decide +kernel
theorem d28_1 : decode jdk_68_method_6_code 1 = .ok (.getfield 79, 3) := by decide +kernel
theorem d28_4 : decode jdk_68_method_6_code 4 = .ok (.ireturn, 1) := by decide +kernel
theorem pn_28 : plainName "java/lang/AbstractStringBuilder" = true := by first | (simp [plainName, overriddenIn]; done) | decide +kernel
theorem ef_bLen0 (m : MethodId) (x0 : Addr) : entryFrame m #[(.ref x0)] 1 = mkF m 0 #[.val (.ref x0)] [] := by first | (simp [entryFrame, mkF, argsToLocals, Value.category]; done) | rfl
set_option maxRecDepth 65536 in
set_option maxHeartbeats 40000000 in
theorem bLen0 (l : Launch) (Z : State) (a0 : Array Value) (hw : ∀ d ∈ tables_1, d.before a0 Z = true) (ws : List Jvm.Cond) (o0 : Addr) (vb : Addr) (kb : ClassId) (cap nb : Nat) (f : Nat → Nat) (hcap : cap ≤ 1000) (hnb : nb ≤ cap) (hf : Asc f) (h0 : Heap) (n0 : Nat) (Z0 : n0 ≤ h0.size) (KZ : Keep Z.heap h0 []) (hz : Z.heap.size ≤ n0) (R_b : BD Z h0 o0 vb kb cap nb f) :
    MetFree l (⟨"java/lang/AbstractStringBuilder", "length", "()I"⟩ : MethodName) (head1 (Jvm.Cond.code (⟨"java/lang/AbstractStringBuilder", "length", "()I"⟩ : MethodName) jdk_68_method_6_code 1 (some .int) :: ws) ({ frames := 0, cells := 0, slots := 0, locals := 0 } : Room)) (fun a U => a = #[(.ref o0)] ∧ Z.Warmed39 U.vm ∧ U.heap = h0) (fun _ _ _ _ _ => True) (fun _ U o U' => ∃ v L, o = .returned v ∧ QR (.int (Int32.ofNat nb)) h0 n0 v U'.heap L ∧ FrameEnd U o U' L ({ frames := 0, cells := 0, slots := 0, locals := 0 } : Room).cells ({ frames := 0, cells := 0, slots := 0, locals := 0 } : Room).slots) := by
  refine MetFree.of_bodySF (plainFor_of_name pn_28) hisR ?_
  intro p e s m args below meth c s₁ Bd hml0 hP hK
  obtain ⟨rfl, hZ, hh⟩ := hP
  have hx := Bd.exec
  have hby := Bd.bytes
  have hml : c.maxLocals = 1 := hml0
  have hown : s.vm.findClass "java/lang/AbstractStringBuilder" = some m.cls := findClass_of_methodNamed Bd.named
  have hnm := (name_of_methodNamed Bd.named Bd.method).1
  have X0 : Stand p l e ({ frames := 0, cells := 0, slots := 0, locals := 0 } : Room) s m #[(.ref o0)] below meth c s₁ [] 0 0 := Stand.of_body Bd
  have e0 : s₁.heap = h0 := by rw [← hh, Bd.state]; rfl
  have N0 := Fr.nil n0
  have pre0 : ∀ t, Steps p.tables e below (s₁.setTop (mkF m 0 #[vR o0] [])) t → Steps p.tables e below (s₁.setTop (entryFrame m #[(.ref o0)] 1)) t := fun t k => castTop (ef_bLen0 m o0) k
  obtain ⟨EB, FcB, FnB, FvB, VB⟩ := id R_b
  obtain ⟨T1, X1, e1, st1⟩ := getF X0 hx hZ hown (host := "") (Or.inl (wd hw 61 rfl)) Via.refl e0 FnB (g := (mkF m 1 #[vR o0] [(.ref o0)])) rfl rfl (hb hby d28_1)
  obtain ⟨fs, hr, hrun, hended, hW, hsame⟩ := X1.leave (v := some (.int (Int32.ofNat nb))) (fun h => by rw [Bd.returns] at h; cases h)
  refine ⟨_, _, pre0 _ ?_, hrun, hended, _, _, rfl, ?_, ⟨_, rfl⟩, hW, hsame.mono (by decide) (by decide)⟩
  · skip
    refine XS.aloadN X0.here hx rfl (hb hby d28_0) rfl rfl ?_
    refine st1 _ ?_
    show Steps p.tables e below (T1.setTop (mkF m 4 #[vR o0] [(.int (Int32.ofNat nb))])) _
    exact retI X1 hx Bd.returns (hb hby d28_4) hr
  · show QR (.int (Int32.ofNat nb)) h0 n0 _ T1.heap _
    rw [e1]
    exact ⟨(by first | rfl | simp []), N0, rfl⟩
theorem d27_0 : decode jdk_67_method_93_code 0 = .ok (.aload_n 0, 1) := by decide +kernel
theorem d27_1 : decode jdk_67_method_93_code 1 = .ok (.invokespecial 343, 3) := by decide +kernel
theorem pd___I : parseMethodDescriptor "()I" = some ⟨[], some .int⟩ := by decide +kernel
theorem d27_4 : decode jdk_67_method_93_code 4 = .ok (.ireturn, 1) := by decide +kernel
theorem pn_27 : plainName "java/lang/StringBuilder" = true := by first | (simp [plainName, overriddenIn]; done) | decide +kernel
theorem ef_bLen (m : MethodId) (x0 : Addr) : entryFrame m #[(.ref x0)] 1 = mkF m 0 #[.val (.ref x0)] [] := by first | (simp [entryFrame, mkF, argsToLocals, Value.category]; done) | rfl
set_option maxRecDepth 65536 in
set_option maxHeartbeats 40000000 in
theorem bLen (l : Launch) (Z : State) (a0 : Array Value) (hw : ∀ d ∈ tables_1, d.before a0 Z = true) (ws : List Jvm.Cond) (o0 : Addr) (vb : Addr) (kb : ClassId) (cap nb : Nat) (f : Nat → Nat) (hcap : cap ≤ 1000) (hnb : nb ≤ cap) (hf : Asc f) (h0 : Heap) (n0 : Nat) (Z0 : n0 ≤ h0.size) (KZ : Keep Z.heap h0 []) (hz : Z.heap.size ≤ n0) (R_b : BD Z h0 o0 vb kb cap nb f) :
    MetFree l (⟨"java/lang/StringBuilder", "length", "()I"⟩ : MethodName) (head1 (Jvm.Cond.code (⟨"java/lang/StringBuilder", "length", "()I"⟩ : MethodName) jdk_67_method_93_code 1 (some .int) :: ws) ({ frames := 1, cells := 0, slots := 0, locals := 13 } : Room)) (fun a U => a = #[(.ref o0)] ∧ Z.Warmed39 U.vm ∧ U.heap = h0) (fun _ _ _ _ _ => True) (fun _ U o U' => ∃ v L, o = .returned v ∧ QR (.int (Int32.ofNat nb)) h0 n0 v U'.heap L ∧ FrameEnd U o U' L ({ frames := 1, cells := 0, slots := 0, locals := 13 } : Room).cells ({ frames := 1, cells := 0, slots := 0, locals := 13 } : Room).slots) := by
  refine MetFree.of_bodySF (plainFor_of_name pn_27) hisR ?_
  intro p e s m args below meth c s₁ Bd hml0 hP hK
  obtain ⟨rfl, hZ, hh⟩ := hP
  have hx := Bd.exec
  have hby := Bd.bytes
  have hml : c.maxLocals = 1 := hml0
  have hown : s.vm.findClass "java/lang/StringBuilder" = some m.cls := findClass_of_methodNamed Bd.named
  have hnm := (name_of_methodNamed Bd.named Bd.method).1
  have X0 : Stand p l e ({ frames := 1, cells := 0, slots := 0, locals := 13 } : Room) s m #[(.ref o0)] below meth c s₁ [] 0 0 := Stand.of_body Bd
  have e0 : s₁.heap = h0 := by rw [← hh, Bd.state]; rfl
  have N0 := Fr.nil n0
  have pre0 : ∀ t, Steps p.tables e below (s₁.setTop (mkF m 0 #[vR o0] [])) t → Steps p.tables e below (s₁.setTop (entryFrame m #[(.ref o0)] 1)) t := fun t k => castTop (ef_bLen m o0) k
  obtain ⟨EB, FcB, FnB, FvB, VB⟩ := id R_b
  obtain ⟨_, _, ⟨T1, L1, k1, n1⟩, -, X1, ⟨Lc1, hQ1, l1, y1, z1⟩, st1⟩ := superBack X0 hx hZ hown (y := (⟨"java/lang/AbstractStringBuilder", "length", "()I"⟩ : MethodName)) (wd hw 162 rfl) (own_same (y := (⟨"java/lang/AbstractStringBuilder", "length", "()I"⟩ : MethodName)) (y2 := (⟨"java/lang/AbstractStringBuilder", "isLatin1", "()Z"⟩ : MethodName)) (by decide) (wd hw 158 rfl) (wd hw 127 rfl) (notFace_of_selects (args := #[]) (wd hw 128 rfl)) rfl) (wd hw 158 rfl) (wd hw 45 rfl) (by decide) (backOf (W := 0) (bLen0 l Z a0 hw [] o0 vb kb cap nb f hcap hnb hf h0 n0 Z0 KZ hz R_b) hZ (wd hw 163 rfl) (wd hw 20 rfl) (by decide) (by decide)) e0 (K := "java/lang/StringBuilder") (Ins.self EB) (g := (mkF m 1 #[vR o0] [(.ref o0)])) rfl (by rw [hml]; rfl) (wd hw 163 rfl) (argsL := []) (rest := []) (lenOf pd___I rfl) rfl (by show 2 * 0 + _ ≤ _; exact Nat.le_of_eq rfl) (hb hby d27_1) (fun _ _ => ⟨rfl, e0, (by decide : 0 + 0 ≤ _), (by decide : 0 + 0 ≤ _)⟩)
  dsimp only [Pt.U, Pt.locs, Pt.cells, Pt.slots] at X1 l1 y1 z1 st1 hQ1
  rw [l1, y1, z1] at X1
  obtain ⟨rfl, N1q, e1⟩ := hQ1
  have N1 := Fr.app N0 N1q
  obtain ⟨fs, hr, hrun, hended, hW, hsame⟩ := X1.leave (v := some (.int (Int32.ofNat nb))) (fun h => by rw [Bd.returns] at h; cases h)
  refine ⟨_, _, pre0 _ ?_, hrun, hended, _, _, rfl, ?_, ⟨_, rfl⟩, hW, hsame.mono (by decide) (by decide)⟩
  · skip
    refine XS.aloadN X0.here hx rfl (hb hby d27_0) rfl rfl ?_
    refine st1.trans ?_
    show Steps p.tables e below (T1.setTop (mkF m 4 #[vR o0] [(.int (Int32.ofNat nb))])) _
    exact retI X1 hx Bd.returns (hb hby d27_4) hr
  · show QR (.int (Int32.ofNat nb)) h0 n0 _ T1.heap _
    rw [e1]
    exact ⟨(by first | rfl | simp []), N1, rfl⟩
theorem d26_0 : decode jdk_68_method_64_code 0 = .ok (.aload_n 0, 1) := by decide +kernel
theorem d26_1 : decode jdk_68_method_64_code 1 = .ok (.getfield 15, 3) := by decide +kernel
theorem d26_4 : decode jdk_68_method_64_code 4 = .ok (.areturn, 1) := by decide +kernel
theorem pn_26 : plainName "java/lang/AbstractStringBuilder" = true := by first | (simp [plainName, overriddenIn]; done) | decide +kernel
theorem ef_bVal (m : MethodId) (x0 : Addr) : entryFrame m #[(.ref x0)] 1 = mkF m 0 #[.val (.ref x0)] [] := by first | (simp [entryFrame, mkF, argsToLocals, Value.category]; done) | rfl
set_option maxRecDepth 65536 in
set_option maxHeartbeats 40000000 in
theorem bVal (l : Launch) (Z : State) (a0 : Array Value) (hw : ∀ d ∈ tables_1, d.before a0 Z = true) (ws : List Jvm.Cond) (o0 : Addr) (vb : Addr) (kb : ClassId) (cap nb : Nat) (f : Nat → Nat) (hcap : cap ≤ 1000) (hnb : nb ≤ cap) (hf : Asc f) (h0 : Heap) (n0 : Nat) (Z0 : n0 ≤ h0.size) (KZ : Keep Z.heap h0 []) (hz : Z.heap.size ≤ n0) (R_b : BD Z h0 o0 vb kb cap nb f) :
    MetFree l (⟨"java/lang/AbstractStringBuilder", "getValue", "()[B"⟩ : MethodName) (head1 (Jvm.Cond.code (⟨"java/lang/AbstractStringBuilder", "getValue", "()[B"⟩ : MethodName) jdk_68_method_64_code 1 (some (.array .byte)) :: ws) ({ frames := 0, cells := 0, slots := 0, locals := 0 } : Room)) (fun a U => a = #[(.ref o0)] ∧ Z.Warmed39 U.vm ∧ U.heap = h0) (fun _ _ _ _ _ => True) (fun _ U o U' => ∃ v L, o = .returned v ∧ QR (.ref vb) h0 n0 v U'.heap L ∧ FrameEnd U o U' L ({ frames := 0, cells := 0, slots := 0, locals := 0 } : Room).cells ({ frames := 0, cells := 0, slots := 0, locals := 0 } : Room).slots) := by
  refine MetFree.of_bodySF (plainFor_of_name pn_26) hisR ?_
  intro p e s m args below meth c s₁ Bd hml0 hP hK
  obtain ⟨rfl, hZ, hh⟩ := hP
  have hx := Bd.exec
  have hby := Bd.bytes
  have hml : c.maxLocals = 1 := hml0
  have hown : s.vm.findClass "java/lang/AbstractStringBuilder" = some m.cls := findClass_of_methodNamed Bd.named
  have hnm := (name_of_methodNamed Bd.named Bd.method).1
  have X0 : Stand p l e ({ frames := 0, cells := 0, slots := 0, locals := 0 } : Room) s m #[(.ref o0)] below meth c s₁ [] 0 0 := Stand.of_body Bd
  have e0 : s₁.heap = h0 := by rw [← hh, Bd.state]; rfl
  have N0 := Fr.nil n0
  have pre0 : ∀ t, Steps p.tables e below (s₁.setTop (mkF m 0 #[vR o0] [])) t → Steps p.tables e below (s₁.setTop (entryFrame m #[(.ref o0)] 1)) t := fun t k => castTop (ef_bVal m o0) k
  obtain ⟨EB, FcB, FnB, FvB, VB⟩ := id R_b
  obtain ⟨T1, X1, e1, st1⟩ := getF X0 hx hZ hown (host := "") (Or.inl (wd hw 28 rfl)) Via.refl e0 FvB (g := (mkF m 1 #[vR o0] [(.ref o0)])) rfl rfl (hb hby d26_1)
  obtain ⟨fs, hr, hrun, hended, hW, hsame⟩ := X1.leave (v := some (.ref vb)) (fun h => by rw [Bd.returns] at h; cases h)
  refine ⟨_, _, pre0 _ ?_, hrun, hended, _, _, rfl, ?_, ⟨_, rfl⟩, hW, hsame.mono (by decide) (by decide)⟩
  · skip
    refine XS.aloadN X0.here hx rfl (hb hby d26_0) rfl rfl ?_
    refine st1 _ ?_
    show Steps p.tables e below (T1.setTop (mkF m 4 #[vR o0] [(.ref vb)])) _
    jvm_step X1.here [X1.here.top, hx, (hb hby d26_4), X1.method', Bd.returns, Value.isRef, FieldType.isReference]
    first | (intro acts; rw [hr _ acts rfl rfl rfl]) | rw [hr _ _ rfl rfl rfl]
    exact Steps.refl _
  · show QR (.ref vb) h0 n0 _ T1.heap _
    rw [e1]
    exact ⟨(by first | rfl | simp []), N0, rfl⟩
def QBi (Z : State) (o : Addr) (h0 : Heap) (n0 : Nat) (r : Option Value) (h : Heap) (L : List Loc) : Prop := r = none ∧ Fr n0 L ∧ Keep h0 h [o] ∧ ∃ (v : Addr) (k : ClassId), n0 ≤ v ∧ h0.size ≤ v ∧ BD Z h o v k 16 0 (fun _ => 0)
theorem d3_0 : decode jdk_68_method_2_code 0 = .ok (.aload_n 0, 1) := by decide +kernel
theorem d3_1 : decode jdk_68_method_2_code 1 = .ok (.invokespecial 3, 3) := by decide +kernel
theorem d3_4 : decode jdk_68_method_2_code 4 = .ok (.getstatic 18, 3) := by decide +kernel
theorem d3_7 : decode jdk_68_method_2_code 7 = .ok (.ifCond .eq 18, 3) := by decide +kernel
theorem d3_10 : decode jdk_68_method_2_code 10 = .ok (.aload_n 0, 1) := by decide +kernel
theorem d3_11 : decode jdk_68_method_2_code 11 = .ok (.iload_n 1, 1) := by decide +kernel
theorem d3_12 : decode jdk_68_method_2_code 12 = .ok (.newarray .byte, 2) := by decide +kernel
theorem d3_14 : decode jdk_68_method_2_code 14 = .ok (.putfield 15, 3) := by decide +kernel
theorem d3_17 : decode jdk_68_method_2_code 17 = .ok (.aload_n 0, 1) := by decide +kernel
theorem d3_18 : decode jdk_68_method_2_code 18 = .ok (.iconst 0, 1) := by decide +kernel
theorem d3_19 : decode jdk_68_method_2_code 19 = .ok (.putfield 22, 3) := by decide +kernel
theorem d3_22 : decode jdk_68_method_2_code 22 = .ok (.goto 16, 3) := by decide +kernel
theorem d3_38 : decode jdk_68_method_2_code 38 = .ok (.return_, 1) := by decide +kernel
theorem pn_3 : plainName "java/lang/AbstractStringBuilder" = true := by first | (simp [plainName, overriddenIn]; done) | decide +kernel
theorem ef_bIn0 (m : MethodId) (x0 : Addr) (x1 : Int32) : entryFrame m #[(.ref x0), (.int x1)] 2 = mkF m 0 #[.val (.ref x0), .val (.int x1)] [] := by first | (simp [entryFrame, mkF, argsToLocals, Value.category]; done) | rfl
set_option maxRecDepth 65536 in
set_option maxHeartbeats 40000000 in
theorem bIn0 (l : Launch) (Z : State) (a0 : Array Value) (hw : ∀ d ∈ tables_1, d.before a0 Z = true) (ws : List Jvm.Cond) (o0 : Addr) (h0 : Heap) (n0 : Nat) (Z0 : n0 ≤ h0.size) (KZ : Keep Z.heap h0 []) (hz : Z.heap.size ≤ n0) (E_o : Exa Z h0 o0 "java/lang/StringBuilder") (g_o : n0 ≤ o0) (F_v : Fld Z h0 o0 "java/lang/AbstractStringBuilder" "value" "[B" .null) (F_c : Fld Z h0 o0 "java/lang/AbstractStringBuilder" "coder" "B" (.int 0)) (F_n : Fld Z h0 o0 "java/lang/AbstractStringBuilder" "count" "I" (.int 0)) (cs : Int32) (hcs : ¬ cs = (0 : Int32)) (S_Cz : Sta Z Z.heap "java/lang/String" "COMPACT_STRINGS" "Z" (.int cs)) :
    MetFree l (⟨"java/lang/AbstractStringBuilder", "<init>", "(I)V"⟩ : MethodName) (head1 (Jvm.Cond.code (⟨"java/lang/AbstractStringBuilder", "<init>", "(I)V"⟩ : MethodName) jdk_68_method_2_code 2 none :: ws) ({ frames := 1, cells := 1, slots := 16, locals := 12 } : Room)) (fun a U => a = #[(.ref o0), (.int (16 : Int32))] ∧ Z.Warmed39 U.vm ∧ U.heap = h0) (fun _ _ _ _ _ => True) (fun _ U o U' => ∃ v L, o = .returned v ∧ QBi Z o0 h0 n0 v U'.heap L ∧ FrameEnd U o U' L ({ frames := 1, cells := 1, slots := 16, locals := 12 } : Room).cells ({ frames := 1, cells := 1, slots := 16, locals := 12 } : Room).slots) := by
  refine MetFree.of_bodySF (plainFor_of_name pn_3) hisR ?_
  intro p e s m args below meth c s₁ Bd hml0 hP hK
  obtain ⟨rfl, hZ, hh⟩ := hP
  have hx := Bd.exec
  have hby := Bd.bytes
  have hml : c.maxLocals = 2 := hml0
  have hown : s.vm.findClass "java/lang/AbstractStringBuilder" = some m.cls := findClass_of_methodNamed Bd.named
  have hnm := (name_of_methodNamed Bd.named Bd.method).1
  have X0 : Stand p l e ({ frames := 1, cells := 1, slots := 16, locals := 12 } : Room) s m #[(.ref o0), (.int (16 : Int32))] below meth c s₁ [] 0 0 := Stand.of_body Bd
  have e0 : s₁.heap = h0 := by rw [← hh, Bd.state]; rfl
  have N0 := Fr.nil n0
  have pre0 : ∀ t, Steps p.tables e below (s₁.setTop (mkF m 0 #[vR o0, vI (16 : Int32)] [])) t → Steps p.tables e below (s₁.setTop (entryFrame m #[(.ref o0), (.int (16 : Int32))] 2)) t := fun t k => castTop (ef_bIn0 m o0 (16 : Int32)) k
  have S_C := own_sta_keep S_Cz KZ all0
  obtain ⟨T1, X1, e1, st1⟩ := initO X0 hx hZ hown (wd hw 22 rfl) (wd hw 23 rfl) (wd hw 24 rfl) e0 (g := (mkF m 1 #[vR o0, vI (16 : Int32)] [(.ref o0)])) rfl (by rw [hml]; rfl) rfl (hb hby d3_1) (by decide) (W := 0) (by show 2 * 0 + _ ≤ _; exact Nat.le_of_eq rfl) (by decide)
  obtain ⟨T2, X2, e2, st2⟩ := getS2 X1 hx hZ hown (host := "") (Or.inl (wd hw 25 rfl)) Via.refl e1 S_C (g := (mkF m 4 #[vR o0, vI (16 : Int32)] [])) rfl (hb hby d3_4)
  obtain ⟨T3, h3, k3, X3, e3, E3, A3, st3⟩ := newP X2 hx hZ (wd hw 27 rfl) e2 (g := (mkF m 12 #[vR o0, vI (16 : Int32)] [(.int (Int32.ofNat 16)), (.ref o0)])) rfl (hb hby d3_12) rfl (by rw [Int32.lt_iff_toInt_lt, own_i32 (by omega)]; show ¬ (16 : Int) < 0; omega) (cap := 16) (by rw [own_cl (by omega)]; omega) (by decide) (by decide) (by decide)
  obtain ⟨b3, g3⟩ : ∃ z, z = h0.size := ⟨_, rfl⟩
  rw [← g3] at A3 st3
  have g_b3 : n0 ≤ b3 := Nat.le_trans Z0 (Nat.le_of_eq g3.symm)
  have sz_b3 : h0.size ≤ b3 := Nat.le_trans (Keep.refl h0 [o0]).1 (Nat.le_of_eq g3.symm)
  have ne3_o0 : o0 ≠ b3 := Nat.ne_of_lt (Nat.lt_of_lt_of_le (E_o).lt (Nat.le_of_eq g3.symm))
  have Zs3 : n0 ≤ h3.size := Nat.le_trans Z0 E3.1
  have K3 : Keep h0 h3 [o0] := (Keep.refl h0 [o0]).ext E3
  have G3 : GA Z h3 b3 k3 .byte 16 (fun i => .int (Int32.ofNat ((fun _ => 0) i))) := GA.new A3 (own_cl (by omega))
  have F_v_4 := (F_v.ext E3)
  have E_o_5 := (E_o.ext E3)
  obtain ⟨T6, h6, X6, e6, W6, st6⟩ := putF X3 hx hZ hown (host := "") (Or.inl (wd hw 28 rfl)) Via.refl e3 F_v_4 E_o_5 (Or.inl (wd hw 29 rfl)) (wd hw 11 rfl) (ty := (.array .byte)) (by decide) rfl rfl (g := (mkF m 14 #[vR o0, vI (16 : Int32)] [(.ref b3), (.ref o0)])) rfl rfl (hb hby d3_14)
  have Fw6 := F_v_4.same W6
  have Zs6 : n0 ≤ h6.size := Nat.le_trans Zs3 (Nat.le_of_eq W6.size.symm)
  have K6 : Keep h0 h6 [o0] := K3.wr W6 (Or.inl (List.mem_of_getElem? (i := 0) rfl))
  have N6 := Fr.snoc X6 N0 g_o
  have F_c_7 := ((F_c.ext E3).other W6 (Or.inr (slot_ne (Or.inl (wd hw 31 rfl)) (Or.inl (wd hw 29 rfl)) (by decide) (t := .byte) (t' := (.array .byte)) (by decide) (by decide))))
  have E_o_8 := (E_o_5.wr W6)
  obtain ⟨T9, h9, X9, e9, W9, st9⟩ := putFN X6 hx hZ hown (wd hw 30 rfl) Via.refl e6 F_c_7 E_o_8 (Or.inl (wd hw 31 rfl)) (wd hw 11 rfl) (ty := .byte) (v' := (.int (0 : Int32))) (by decide) rfl rfl (g := (mkF m 19 #[vR o0, vI (16 : Int32)] [(.int (0 : Int32)), (.ref o0)])) rfl rfl (hb hby d3_19)
  have Fw9 := F_c_7.same W9
  have Zs9 : n0 ≤ h9.size := Nat.le_trans Zs6 (Nat.le_of_eq W9.size.symm)
  have K9 : Keep h0 h9 [o0] := K6.wr W9 (Or.inl (List.mem_of_getElem? (i := 0) rfl))
  have N9 := Fr.snoc X9 N6 g_o
  have E_o_10 := (E_o_8.wr W9)
  have F_n_11 := (((F_n.ext E3).other W6 (Or.inr (slot_ne (Or.inl (wd hw 62 rfl)) (Or.inl (wd hw 29 rfl)) (by decide) (t := .int) (t' := (.array .byte)) (by decide) (by decide)))).other W9 (Or.inr (slot_ne (Or.inl (wd hw 62 rfl)) (Or.inl (wd hw 31 rfl)) (by decide) (t := .int) (t' := .byte) (by decide) (by decide))))
  have Fw6_12 := (Fw6.other W9 (Or.inr (slot_ne (Or.inl (wd hw 29 rfl)) (Or.inl (wd hw 31 rfl)) (by decide) (t := (.array .byte)) (t' := .byte) (by decide) (by decide))))
  have G3_13 := ((G3.other W6 (Ne.symm ne3_o0)).other W9 (Ne.symm ne3_o0))
  obtain ⟨fs, hr, hrun, hended, hW, hsame⟩ := X9.leave (v := none) (fun _ => rfl)
  refine ⟨_, _, pre0 _ ?_, hrun, hended, _, _, rfl, ?_, ⟨_, rfl⟩, hW, hsame.mono (by decide) (by decide)⟩
  · skip
    refine XS.aloadN X0.here hx rfl (hb hby d3_0) rfl rfl ?_
    refine st1 _ ?_
    refine st2 _ ?_
    show Steps p.tables e below (T2.setTop (mkF m 7 #[vR o0, vI (16 : Int32)] [(.int cs)])) _
    refine XS.ifNo X2.here hx rfl (hb hby d3_7) rfl ((if0 _ _).trans (feq hcs).1) ?_
    refine XS.aloadN X2.here hx rfl (hb hby d3_10) rfl rfl ?_
    refine XS.iloadN X2.here hx rfl (hb hby d3_11) rfl ?_
    show Steps p.tables e below (T2.setTop (mkF m 12 #[vR o0, vI (16 : Int32)] [(.int (Int32.ofNat 16)), (.ref o0)])) _
    refine st3 _ ?_
    refine st6 _ ?_
    show Steps p.tables e below (T6.setTop (mkF m 17 #[vR o0, vI (16 : Int32)] [])) _
    refine XS.aloadN X6.here hx rfl (hb hby d3_17) rfl rfl ?_
    refine XS.iconst X6.here hx rfl (hb hby d3_18) ?_
    refine st9 _ ?_
    refine XS.goto X9.here hx rfl (pc0 := 22) (pc' := 38) rfl (hb hby d3_22) (by decide) (by decide) ?_
    show Steps p.tables e below (T9.setTop (mkF m 38 #[vR o0, vI (16 : Int32)] [])) _
    exact X9.returnOut hx Bd.returns (hb hby d3_38) hr
  · show QBi Z o0 h0 n0 _ T9.heap _
    rw [e9]
    exact ⟨rfl, N9, K9, b3, k3, g_b3, sz_b3, E_o_10, Fw9, F_n_11, Fw6_12, G3_13⟩
theorem d2_0 : decode jdk_67_method_1_code 0 = .ok (.aload_n 0, 1) := by decide +kernel
theorem d2_1 : decode jdk_67_method_1_code 1 = .ok (.bipush 16, 2) := by decide +kernel
theorem d2_3 : decode jdk_67_method_1_code 3 = .ok (.invokespecial 1, 3) := by decide +kernel
theorem pd__I_V : parseMethodDescriptor "(I)V" = some ⟨[.int], none⟩ := by decide +kernel
theorem d2_6 : decode jdk_67_method_1_code 6 = .ok (.return_, 1) := by decide +kernel
theorem pn_2 : plainName "java/lang/StringBuilder" = true := by first | (simp [plainName, overriddenIn]; done) | decide +kernel
theorem ef_bIn (m : MethodId) (x0 : Addr) : entryFrame m #[(.ref x0)] 1 = mkF m 0 #[.val (.ref x0)] [] := by first | (simp [entryFrame, mkF, argsToLocals, Value.category]; done) | rfl
set_option maxRecDepth 65536 in
set_option maxHeartbeats 40000000 in
theorem bIn (l : Launch) (Z : State) (a0 : Array Value) (hw : ∀ d ∈ tables_1, d.before a0 Z = true) (ws : List Jvm.Cond) (o0 : Addr) (h0 : Heap) (n0 : Nat) (Z0 : n0 ≤ h0.size) (KZ : Keep Z.heap h0 []) (hz : Z.heap.size ≤ n0) (E_o : Exa Z h0 o0 "java/lang/StringBuilder") (g_o : n0 ≤ o0) (F_v : Fld Z h0 o0 "java/lang/AbstractStringBuilder" "value" "[B" .null) (F_c : Fld Z h0 o0 "java/lang/AbstractStringBuilder" "coder" "B" (.int 0)) (F_n : Fld Z h0 o0 "java/lang/AbstractStringBuilder" "count" "I" (.int 0)) (cs : Int32) (hcs : ¬ cs = (0 : Int32)) (S_Cz : Sta Z Z.heap "java/lang/String" "COMPACT_STRINGS" "Z" (.int cs)) :
    MetFree l (⟨"java/lang/StringBuilder", "<init>", "()V"⟩ : MethodName) (head1 (Jvm.Cond.code (⟨"java/lang/StringBuilder", "<init>", "()V"⟩ : MethodName) jdk_67_method_1_code 1 none :: ws) ({ frames := 2, cells := 1, slots := 16, locals := 26 } : Room)) (fun a U => a = #[(.ref o0)] ∧ Z.Warmed39 U.vm ∧ U.heap = h0) (fun _ _ _ _ _ => True) (fun _ U o U' => ∃ v L, o = .returned v ∧ QBi Z o0 h0 n0 v U'.heap L ∧ FrameEnd U o U' L ({ frames := 2, cells := 1, slots := 16, locals := 26 } : Room).cells ({ frames := 2, cells := 1, slots := 16, locals := 26 } : Room).slots) := by
  refine MetFree.of_bodySF (plainFor_of_name pn_2) hisR ?_
  intro p e s m args below meth c s₁ Bd hml0 hP hK
  obtain ⟨rfl, hZ, hh⟩ := hP
  have hx := Bd.exec
  have hby := Bd.bytes
  have hml : c.maxLocals = 1 := hml0
  have hown : s.vm.findClass "java/lang/StringBuilder" = some m.cls := findClass_of_methodNamed Bd.named
  have hnm := (name_of_methodNamed Bd.named Bd.method).1
  have X0 : Stand p l e ({ frames := 2, cells := 1, slots := 16, locals := 26 } : Room) s m #[(.ref o0)] below meth c s₁ [] 0 0 := Stand.of_body Bd
  have e0 : s₁.heap = h0 := by rw [← hh, Bd.state]; rfl
  have N0 := Fr.nil n0
  have pre0 : ∀ t, Steps p.tables e below (s₁.setTop (mkF m 0 #[vR o0] [])) t → Steps p.tables e below (s₁.setTop (entryFrame m #[(.ref o0)] 1)) t := fun t k => castTop (ef_bIn m o0) k
  obtain ⟨_, _, ⟨T1, L1, k1, n1⟩, -, X1, ⟨Lc1, hQ1, l1, y1, z1⟩, st1⟩ := X0.specialBack hx (y := (⟨"java/lang/AbstractStringBuilder", "<init>", "(I)V"⟩ : MethodName)) rfl hown (mvT hZ (wd hw 16 rfl)) (mvT hZ (wd hw 17 rfl)) (mvT hZ (wd hw 21 rfl)) (by decide) (backOf (W := 0) (bIn0 l Z a0 hw [] o0 h0 n0 Z0 KZ hz E_o g_o F_v F_c F_n cs hcs S_Cz) hZ (wd hw 21 rfl) (wd hw 20 rfl) (by decide) (by decide)) (g := (mkF m 3 #[vR o0] [(.int (16 : Int32)), (.ref o0)])) rfl (by rw [hml]; rfl) (Steps.refl _) (a := o0) (argsL := [(.int (16 : Int32))]) (rest := []) (lenOf pd__I_V rfl) rfl (by show 2 * 0 + _ ≤ _; exact Nat.le_of_eq rfl) (hb hby d2_3) (fun _ _ => ⟨rfl, e0, (by decide : 0 + 1 ≤ _), (by decide : 0 + 16 ≤ _)⟩)
  dsimp only [Pt.U, Pt.locs, Pt.cells, Pt.slots] at X1 l1 y1 z1 st1 hQ1
  rw [l1, y1, z1] at X1
  obtain ⟨rfl, N1q, Kp1, qs1⟩ := hQ1
  have N1 := Fr.app N0 N1q
  obtain ⟨fs, hr, hrun, hended, hW, hsame⟩ := X1.leave (v := none) (fun _ => rfl)
  refine ⟨_, _, pre0 _ ?_, hrun, hended, _, _, rfl, ?_, ⟨_, rfl⟩, hW, hsame.mono (by decide) (by decide)⟩
  · skip
    refine XS.aloadN X0.here hx rfl (hb hby d2_0) rfl rfl ?_
    refine XS.bipush X0.here hx rfl (hb hby d2_1) ?_
    refine st1.trans ?_
    show Steps p.tables e below (T1.setTop (mkF m 6 #[vR o0] [])) _
    exact X1.returnOut hx Bd.returns (hb hby d2_6) hr
  · show QBi Z o0 h0 n0 _ T1.heap _
    exact ⟨rfl, N1, Kp1, qs1⟩
theorem d12_0 : decode jdk_29_method_65_code 0 = .ok (.iload_n 0, 1) := by decide +kernel
theorem d12_1 : decode jdk_29_method_65_code 1 = .ok (.iload_n 1, 1) := by decide +kernel
theorem d12_2 : decode jdk_29_method_65_code 2 = .ok (.if_icmp .lt 7, 3) := by decide +kernel
theorem d12_9 : decode jdk_29_method_65_code 9 = .ok (.iload_n 1, 1) := by decide +kernel
theorem d12_10 : decode jdk_29_method_65_code 10 = .ok (.ireturn, 1) := by decide +kernel
theorem d12_5 : decode jdk_29_method_65_code 5 = .ok (.iload_n 0, 1) := by decide +kernel
theorem d12_6 : decode jdk_29_method_65_code 6 = .ok (.goto 4, 3) := by decide +kernel
theorem ef_mmax (m : MethodId) (x0 : Int32) (x1 : Int32) : entryFrame m #[(.int x0), (.int x1)] 2 = mkF m 0 #[.val (.int x0), .val (.int x1)] [] := by first | (simp [entryFrame, mkF, argsToLocals, Value.category]; done) | rfl
set_option maxRecDepth 65536 in
set_option maxHeartbeats 40000000 in
theorem mmax (l : Launch) (Z : State) (a0 : Array Value) (hw : ∀ d ∈ tables_1, d.before a0 Z = true) (ws : List Jvm.Cond)  (i j r : Nat) (hi : i ≤ 4000) (hj : j ≤ 4000) (hrm : (i < j → r = j) ∧ (¬ i < j → r = i)) (h0 : Heap) (n0 : Nat) (Z0 : n0 ≤ h0.size) :
    MetFree l (⟨"java/lang/Math", "max", "(II)I"⟩ : MethodName) (head1 (Jvm.Cond.code (⟨"java/lang/Math", "max", "(II)I"⟩ : MethodName) jdk_29_method_65_code 2 (some .int) :: ws) ({ frames := 0, cells := 0, slots := 0, locals := 0 } : Room)) (fun a U => a = #[(.int (Int32.ofNat i)), (.int (Int32.ofNat j))] ∧ Z.Warmed39 U.vm ∧ U.heap = h0) (fun _ _ _ _ _ => True) (fun _ U o U' => ∃ v L, o = .returned v ∧ QR (.int (Int32.ofNat r)) h0 n0 v U'.heap L ∧ FrameEnd U o U' L ({ frames := 0, cells := 0, slots := 0, locals := 0 } : Room).cells ({ frames := 0, cells := 0, slots := 0, locals := 0 } : Room).slots) := by
  refine MetFree.of_bodySF (Jvm.Free.JP.mathPlain rfl (by decide +kernel)) hisR ?_
  intro p e s m args below meth c s₁ Bd hml0 hP hK
  obtain ⟨rfl, hZ, hh⟩ := hP
  have hx := Bd.exec
  have hby := Bd.bytes
  have hml : c.maxLocals = 2 := hml0
  have hown : s.vm.findClass "java/lang/Math" = some m.cls := findClass_of_methodNamed Bd.named
  have hnm := (name_of_methodNamed Bd.named Bd.method).1
  have X0 : Stand p l e ({ frames := 0, cells := 0, slots := 0, locals := 0 } : Room) s m #[(.int (Int32.ofNat i)), (.int (Int32.ofNat j))] below meth c s₁ [] 0 0 := Stand.of_body Bd
  have e0 : s₁.heap = h0 := by rw [← hh, Bd.state]; rfl
  have N0 := Fr.nil n0
  have pre0 : ∀ t, Steps p.tables e below (s₁.setTop (mkF m 0 #[vI (Int32.ofNat i), vI (Int32.ofNat j)] [])) t → Steps p.tables e below (s₁.setTop (entryFrame m #[(.int (Int32.ofNat i)), (.int (Int32.ofNat j))] 2)) t := fun t k => castTop (ef_mmax m (Int32.ofNat i) (Int32.ofNat j)) k
  have pre1 : ∀ t, Steps p.tables e below (s₁.setTop (mkF m 2 #[vI (Int32.ofNat i), vI (Int32.ofNat j)] [(.int (Int32.ofNat j)), (.int (Int32.ofNat i))])) t → Steps p.tables e below (s₁.setTop (entryFrame m #[(.int (Int32.ofNat i)), (.int (Int32.ofNat j))] 2)) t := by
    intro t kt
    refine pre0 t ?_
    refine XS.iloadN X0.here hx rfl (hb hby d12_0) rfl ?_
    refine XS.iloadN X0.here hx rfl (hb hby d12_1) rfl ?_
    exact kt
  by_cases hc2 : (Int32.ofNat i) < (Int32.ofNat j)
  · skip
    have hc2' : i < j := (own_ltI (by omega) (by omega)).mp hc2
    obtain ⟨fs, hr, hrun, hended, hW, hsame⟩ := X0.leave (v := some (.int (Int32.ofNat j))) (fun h => by rw [Bd.returns] at h; cases h)
    refine ⟨_, _, pre1 _ ?_, hrun, hended, _, _, rfl, ?_, ⟨_, rfl⟩, hW, hsame.mono (by decide) (by decide)⟩
    · skip
      refine XS.icmpYes X0.here hx rfl (pc0 := 2) (pc' := 9) rfl (hb hby d12_2) rfl (tlt hc2).1 (by decide) (by decide) ?_
      show Steps p.tables e below (s₁.setTop (mkF m 9 #[vI (Int32.ofNat i), vI (Int32.ofNat j)] [])) _
      refine XS.iloadN X0.here hx rfl (hb hby d12_9) rfl ?_
      show Steps p.tables e below (s₁.setTop (mkF m 10 #[vI (Int32.ofNat i), vI (Int32.ofNat j)] [(.int (Int32.ofNat j))])) _
      exact retI X0 hx Bd.returns (hb hby d12_10) hr
    · show QR (.int (Int32.ofNat r)) h0 n0 _ s₁.heap _
      rw [e0]
      exact ⟨(by rw [hrm.1 hc2']), N0, rfl⟩
  · skip
    have hc2' : ¬ i < j := fun q => hc2 ((own_ltI (by omega) (by omega)).mpr q)
    obtain ⟨fs, hr, hrun, hended, hW, hsame⟩ := X0.leave (v := some (.int (Int32.ofNat i))) (fun h => by rw [Bd.returns] at h; cases h)
    refine ⟨_, _, pre1 _ ?_, hrun, hended, _, _, rfl, ?_, ⟨_, rfl⟩, hW, hsame.mono (by decide) (by decide)⟩
    · skip
      refine XS.icmpNo X0.here hx rfl (hb hby d12_2) rfl (flt hc2).1 ?_
      refine XS.iloadN X0.here hx rfl (hb hby d12_5) rfl ?_
      refine XS.goto X0.here hx rfl (pc0 := 6) (pc' := 10) rfl (hb hby d12_6) (by decide) (by decide) ?_
      show Steps p.tables e below (s₁.setTop (mkF m 10 #[vI (Int32.ofNat i), vI (Int32.ofNat j)] [(.int (Int32.ofNat i))])) _
      exact retI X0 hx Bd.returns (hb hby d12_10) hr
    · show QR (.int (Int32.ofNat r)) h0 n0 _ s₁.heap _
      rw [e0]
      exact ⟨(by rw [hrm.2 hc2']), N0, rfl⟩
theorem d14_0 : decode jdk_29_method_69_code 0 = .ok (.iload_n 0, 1) := by decide +kernel
theorem d14_1 : decode jdk_29_method_69_code 1 = .ok (.iload_n 1, 1) := by decide +kernel
theorem d14_2 : decode jdk_29_method_69_code 2 = .ok (.if_icmp .gt 7, 3) := by decide +kernel
theorem d14_9 : decode jdk_29_method_69_code 9 = .ok (.iload_n 1, 1) := by decide +kernel
theorem d14_10 : decode jdk_29_method_69_code 10 = .ok (.ireturn, 1) := by decide +kernel
theorem d14_5 : decode jdk_29_method_69_code 5 = .ok (.iload_n 0, 1) := by decide +kernel
theorem d14_6 : decode jdk_29_method_69_code 6 = .ok (.goto 4, 3) := by decide +kernel
theorem ef_mmin (m : MethodId) (x0 : Int32) (x1 : Int32) : entryFrame m #[(.int x0), (.int x1)] 2 = mkF m 0 #[.val (.int x0), .val (.int x1)] [] := by first | (simp [entryFrame, mkF, argsToLocals, Value.category]; done) | rfl
set_option maxRecDepth 65536 in
set_option maxHeartbeats 40000000 in
theorem mmin (l : Launch) (Z : State) (a0 : Array Value) (hw : ∀ d ∈ tables_1, d.before a0 Z = true) (ws : List Jvm.Cond)  (i j r : Nat) (hi : i ≤ 4000) (hj : j ≤ 4000) (hrm : (j < i → r = j) ∧ (¬ j < i → r = i)) (h0 : Heap) (n0 : Nat) (Z0 : n0 ≤ h0.size) :
    MetFree l (⟨"java/lang/Math", "min", "(II)I"⟩ : MethodName) (head1 (Jvm.Cond.code (⟨"java/lang/Math", "min", "(II)I"⟩ : MethodName) jdk_29_method_69_code 2 (some .int) :: ws) ({ frames := 0, cells := 0, slots := 0, locals := 0 } : Room)) (fun a U => a = #[(.int (Int32.ofNat i)), (.int (Int32.ofNat j))] ∧ Z.Warmed39 U.vm ∧ U.heap = h0) (fun _ _ _ _ _ => True) (fun _ U o U' => ∃ v L, o = .returned v ∧ QR (.int (Int32.ofNat r)) h0 n0 v U'.heap L ∧ FrameEnd U o U' L ({ frames := 0, cells := 0, slots := 0, locals := 0 } : Room).cells ({ frames := 0, cells := 0, slots := 0, locals := 0 } : Room).slots) := by
  refine MetFree.of_bodySF (Jvm.Free.JP.mathPlain rfl (by decide +kernel)) hisR ?_
  intro p e s m args below meth c s₁ Bd hml0 hP hK
  obtain ⟨rfl, hZ, hh⟩ := hP
  have hx := Bd.exec
  have hby := Bd.bytes
  have hml : c.maxLocals = 2 := hml0
  have hown : s.vm.findClass "java/lang/Math" = some m.cls := findClass_of_methodNamed Bd.named
  have hnm := (name_of_methodNamed Bd.named Bd.method).1
  have X0 : Stand p l e ({ frames := 0, cells := 0, slots := 0, locals := 0 } : Room) s m #[(.int (Int32.ofNat i)), (.int (Int32.ofNat j))] below meth c s₁ [] 0 0 := Stand.of_body Bd
  have e0 : s₁.heap = h0 := by rw [← hh, Bd.state]; rfl
  have N0 := Fr.nil n0
  have pre0 : ∀ t, Steps p.tables e below (s₁.setTop (mkF m 0 #[vI (Int32.ofNat i), vI (Int32.ofNat j)] [])) t → Steps p.tables e below (s₁.setTop (entryFrame m #[(.int (Int32.ofNat i)), (.int (Int32.ofNat j))] 2)) t := fun t k => castTop (ef_mmin m (Int32.ofNat i) (Int32.ofNat j)) k
  have pre1 : ∀ t, Steps p.tables e below (s₁.setTop (mkF m 2 #[vI (Int32.ofNat i), vI (Int32.ofNat j)] [(.int (Int32.ofNat j)), (.int (Int32.ofNat i))])) t → Steps p.tables e below (s₁.setTop (entryFrame m #[(.int (Int32.ofNat i)), (.int (Int32.ofNat j))] 2)) t := by
    intro t kt
    refine pre0 t ?_
    refine XS.iloadN X0.here hx rfl (hb hby d14_0) rfl ?_
    refine XS.iloadN X0.here hx rfl (hb hby d14_1) rfl ?_
    exact kt
  by_cases hc2 : (Int32.ofNat j) < (Int32.ofNat i)
  · skip
    have hc2' : j < i := (own_ltI (by omega) (by omega)).mp hc2
    obtain ⟨fs, hr, hrun, hended, hW, hsame⟩ := X0.leave (v := some (.int (Int32.ofNat j))) (fun h => by rw [Bd.returns] at h; cases h)
    refine ⟨_, _, pre1 _ ?_, hrun, hended, _, _, rfl, ?_, ⟨_, rfl⟩, hW, hsame.mono (by decide) (by decide)⟩
    · skip
      refine XS.icmpYes X0.here hx rfl (pc0 := 2) (pc' := 9) rfl (hb hby d14_2) rfl (tlt hc2).2.2.1 (by decide) (by decide) ?_
      show Steps p.tables e below (s₁.setTop (mkF m 9 #[vI (Int32.ofNat i), vI (Int32.ofNat j)] [])) _
      refine XS.iloadN X0.here hx rfl (hb hby d14_9) rfl ?_
      show Steps p.tables e below (s₁.setTop (mkF m 10 #[vI (Int32.ofNat i), vI (Int32.ofNat j)] [(.int (Int32.ofNat j))])) _
      exact retI X0 hx Bd.returns (hb hby d14_10) hr
    · show QR (.int (Int32.ofNat r)) h0 n0 _ s₁.heap _
      rw [e0]
      exact ⟨(by rw [hrm.1 hc2']), N0, rfl⟩
  · skip
    have hc2' : ¬ j < i := fun q => hc2 ((own_ltI (by omega) (by omega)).mpr q)
    obtain ⟨fs, hr, hrun, hended, hW, hsame⟩ := X0.leave (v := some (.int (Int32.ofNat i))) (fun h => by rw [Bd.returns] at h; cases h)
    refine ⟨_, _, pre1 _ ?_, hrun, hended, _, _, rfl, ?_, ⟨_, rfl⟩, hW, hsame.mono (by decide) (by decide)⟩
    · skip
      refine XS.icmpNo X0.here hx rfl (hb hby d14_2) rfl (flt hc2).2.2.1 ?_
      refine XS.iloadN X0.here hx rfl (hb hby d14_5) rfl ?_
      refine XS.goto X0.here hx rfl (pc0 := 6) (pc' := 10) rfl (hb hby d14_6) (by decide) (by decide) ?_
      show Steps p.tables e below (s₁.setTop (mkF m 10 #[vI (Int32.ofNat i), vI (Int32.ofNat j)] [(.int (Int32.ofNat i))])) _
      exact retI X0 hx Bd.returns (hb hby d14_10) hr
    · show QR (.int (Int32.ofNat r)) h0 n0 _ s₁.heap _
      rw [e0]
      exact ⟨(by rw [hrm.2 hc2']), N0, rfl⟩
theorem d11_0 : decode jdk_48_method_27_code 0 = .ok (.iload_n 0, 1) := by decide +kernel
theorem d11_1 : decode jdk_48_method_27_code 1 = .ok (.iload_n 1, 1) := by decide +kernel
theorem d11_2 : decode jdk_48_method_27_code 2 = .ok (.iload_n 2, 1) := by decide +kernel
theorem d11_3 : decode jdk_48_method_27_code 3 = .ok (.invokestatic 194, 3) := by decide +kernel
theorem pd__II_I : parseMethodDescriptor "(II)I" = some ⟨[.int, .int], some .int⟩ := by decide +kernel
theorem d11_6 : decode jdk_48_method_27_code 6 = .ok (.iadd, 1) := by decide +kernel
theorem d11_7 : decode jdk_48_method_27_code 7 = .ok (.istore_n 3, 1) := by decide +kernel
theorem d11_8 : decode jdk_48_method_27_code 8 = .ok (.iconst 0, 1) := by decide +kernel
theorem d11_9 : decode jdk_48_method_27_code 9 = .ok (.iload_n 3, 1) := by decide +kernel
theorem d11_10 : decode jdk_48_method_27_code 10 = .ok (.if_icmp .ge 11, 3) := by decide +kernel
theorem d11_13 : decode jdk_48_method_27_code 13 = .ok (.iload_n 3, 1) := by decide +kernel
theorem d11_14 : decode jdk_48_method_27_code 14 = .ok (.ldc 200, 2) := by decide +kernel
theorem d11_16 : decode jdk_48_method_27_code 16 = .ok (.if_icmp .gt 5, 3) := by decide +kernel
theorem d11_19 : decode jdk_48_method_27_code 19 = .ok (.iload_n 3, 1) := by decide +kernel
theorem d11_20 : decode jdk_48_method_27_code 20 = .ok (.ireturn, 1) := by decide +kernel
theorem pn_11 : plainName "jdk/internal/util/ArraysSupport" = true := by first | (simp [plainName, overriddenIn]; done) | decide +kernel
theorem ef_nLen (m : MethodId) (x0 : Int32) (x1 : Int32) (x2 : Int32) : entryFrame m #[(.int x0), (.int x1), (.int x2)] 4 = mkF m 0 #[.val (.int x0), .val (.int x1), .val (.int x2), .unset] [] := by first | (simp [entryFrame, mkF, argsToLocals, Value.category]; done) | rfl
set_option maxRecDepth 65536 in
set_option maxHeartbeats 40000000 in
theorem nLen (l : Launch) (Z : State) (a0 : Array Value) (hw : ∀ d ∈ tables_1, d.before a0 Z = true) (ws : List Jvm.Cond)  (cap mg pg mx r : Nat) (hc : cap ≤ 1000) (hm : mg ≤ 1000) (hp : pg ≤ 1010) (hmx : (mg < pg → mx = pg) ∧ (¬ mg < pg → mx = mg)) (hrs : cap + mx = r) (hr0 : 0 < r) (h0 : Heap) (n0 : Nat) (Z0 : n0 ≤ h0.size) :
    MetFree l (⟨"jdk/internal/util/ArraysSupport", "newLength", "(III)I"⟩ : MethodName) (head1 (Jvm.Cond.code (⟨"jdk/internal/util/ArraysSupport", "newLength", "(III)I"⟩ : MethodName) jdk_48_method_27_code 4 (some .int) :: ws) ({ frames := 1, cells := 0, slots := 0, locals := 14 } : Room)) (fun a U => a = #[(.int (Int32.ofNat cap)), (.int (Int32.ofNat mg)), (.int (Int32.ofNat pg))] ∧ Z.Warmed39 U.vm ∧ U.heap = h0) (fun _ _ _ _ _ => True) (fun _ U o U' => ∃ v L, o = .returned v ∧ QR (.int (Int32.ofNat r)) h0 n0 v U'.heap L ∧ FrameEnd U o U' L ({ frames := 1, cells := 0, slots := 0, locals := 14 } : Room).cells ({ frames := 1, cells := 0, slots := 0, locals := 14 } : Room).slots) := by
  refine MetFree.of_bodySF (plainFor_of_name pn_11) hisR ?_
  intro p e s m args below meth c s₁ Bd hml0 hP hK
  obtain ⟨rfl, hZ, hh⟩ := hP
  have hx := Bd.exec
  have hby := Bd.bytes
  have hml : c.maxLocals = 4 := hml0
  have hown : s.vm.findClass "jdk/internal/util/ArraysSupport" = some m.cls := findClass_of_methodNamed Bd.named
  have hnm := (name_of_methodNamed Bd.named Bd.method).1
  have X0 : Stand p l e ({ frames := 1, cells := 0, slots := 0, locals := 14 } : Room) s m #[(.int (Int32.ofNat cap)), (.int (Int32.ofNat mg)), (.int (Int32.ofNat pg))] below meth c s₁ [] 0 0 := Stand.of_body Bd
  have e0 : s₁.heap = h0 := by rw [← hh, Bd.state]; rfl
  have N0 := Fr.nil n0
  have pre0 : ∀ t, Steps p.tables e below (s₁.setTop (mkF m 0 #[vI (Int32.ofNat cap), vI (Int32.ofNat mg), vI (Int32.ofNat pg), zU] [])) t → Steps p.tables e below (s₁.setTop (entryFrame m #[(.int (Int32.ofNat cap)), (.int (Int32.ofNat mg)), (.int (Int32.ofNat pg))] 4)) t := fun t k => castTop (ef_nLen m (Int32.ofNat cap) (Int32.ofNat mg) (Int32.ofNat pg)) k
  have hr4 : r ≤ 4000 := by omega
  obtain ⟨_, _, ⟨T1, L1, k1, n1⟩, -, X1, ⟨Lc1, hQ1, l1, y1, z1⟩, st1⟩ := Jvm.LawKit.callS X0 hx (y := (⟨"java/lang/Math", "max", "(II)I"⟩ : MethodName)) hown (mvT hZ (wd hw 77 rfl)) (mvT hZ (wd hw 78 rfl)) (mvT hZ (wd hw 79 rfl)) (mvT hZ (wd hw 80 rfl)) (by decide) (backOf (W := 1) (mmax l Z a0 hw [] mg pg mx (by omega) (by omega) hmx h0 n0 Z0) hZ (wd hw 80 rfl) (wd hw 79 rfl) (by decide) (by decide)) (g := (mkF m 3 #[vI (Int32.ofNat cap), vI (Int32.ofNat mg), vI (Int32.ofNat pg), zU] [(.int (Int32.ofNat pg)), (.int (Int32.ofNat mg)), (.int (Int32.ofNat cap))])) rfl (by rw [hml]; rfl) (argsL := [(.int (Int32.ofNat mg)), (.int (Int32.ofNat pg))]) (rest := [(.int (Int32.ofNat cap))]) (lenOf pd__II_I rfl) rfl (by show 2 * 0 + _ ≤ _; exact Nat.le_of_eq rfl) (hb hby d11_3) (fun _ _ => ⟨rfl, e0, (by decide : 0 + 0 ≤ _), (by decide : 0 + 0 ≤ _)⟩)
  dsimp only [Pt.U, Pt.locs, Pt.cells, Pt.slots] at X1 l1 y1 z1 st1 hQ1
  rw [l1, y1, z1] at X1
  obtain ⟨rfl, N1q, e1⟩ := hQ1
  have N1 := Fr.app N0 N1q
  obtain ⟨fs, hr, hrun, hended, hW, hsame⟩ := X1.leave (v := some (.int (Int32.ofNat r))) (fun h => by rw [Bd.returns] at h; cases h)
  refine ⟨_, _, pre0 _ ?_, hrun, hended, _, _, rfl, ?_, ⟨_, rfl⟩, hW, hsame.mono (by decide) (by decide)⟩
  · skip
    refine XS.iloadN X0.here hx rfl (hb hby d11_0) rfl ?_
    refine XS.iloadN X0.here hx rfl (hb hby d11_1) rfl ?_
    refine XS.iloadN X0.here hx rfl (hb hby d11_2) rfl ?_
    show Steps p.tables e below (s₁.setTop (mkF m 3 #[vI (Int32.ofNat cap), vI (Int32.ofNat mg), vI (Int32.ofNat pg), zU] [(.int (Int32.ofNat pg)), (.int (Int32.ofNat mg)), (.int (Int32.ofNat cap))])) _
    refine st1 _ ?_
    refine XS.iadd X1.here hx rfl (hb hby d11_6) rfl ?_
    show Steps p.tables e below (T1.setTop (mkF m 7 #[vI (Int32.ofNat cap), vI (Int32.ofNat mg), vI (Int32.ofNat pg), zU] [(.int ((Int32.ofNat cap) + (Int32.ofNat mx)))])) _
    rw [own_addN, hrs]
    refine XS.istoreN X1.here hx rfl (hb hby d11_7) rfl (l' := #[vI (Int32.ofNat cap), vI (Int32.ofNat mg), vI (Int32.ofNat pg), vI (Int32.ofNat r)]) rfl ?_
    refine XS.iconst X1.here hx rfl (hb hby d11_8) ?_
    show Steps p.tables e below (T1.setTop (mkF m 9 #[vI (Int32.ofNat cap), vI (Int32.ofNat mg), vI (Int32.ofNat pg), vI (Int32.ofNat r)] [(.int (0 : Int32))])) _
    refine XS.iloadN X1.here hx rfl (hb hby d11_9) rfl ?_
    refine XS.icmpNo X1.here hx rfl (hb hby d11_10) rfl (tlt ((own_ltI (i := 0) (by decide) (by omega)).mpr hr0)).2.1 ?_
    refine XS.iloadN X1.here hx rfl (hb hby d11_13) rfl ?_
    refine X1.ldcInt hx hown (mvT hZ (wd hw 81 rfl)) (g := (mkF m 14 #[vI (Int32.ofNat cap), vI (Int32.ofNat mg), vI (Int32.ofNat pg), vI (Int32.ofNat r)] [(.int (Int32.ofNat r))])) rfl (hb hby d11_14) _ ?_
    show Steps p.tables e below (T1.setTop (mkF m 16 #[vI (Int32.ofNat cap), vI (Int32.ofNat mg), vI (Int32.ofNat pg), vI (Int32.ofNat r)] [(.int (2147483639 : Int32)), (.int (Int32.ofNat r))])) _
    refine XS.icmpNo X1.here hx rfl (hb hby d11_16) rfl (flt (by rw [Int32.lt_iff_toInt_lt, own_i32 (by omega)]; show ¬ (2147483639 : Int) < _; omega)).2.2.1 ?_
    refine XS.iloadN X1.here hx rfl (hb hby d11_19) rfl ?_
    show Steps p.tables e below (T1.setTop (mkF m 20 #[vI (Int32.ofNat cap), vI (Int32.ofNat mg), vI (Int32.ofNat pg), vI (Int32.ofNat r)] [(.int (Int32.ofNat r))])) _
    exact retI X1 hx Bd.returns (hb hby d11_20) hr
  · show QR (.int (Int32.ofNat r)) h0 n0 _ T1.heap _
    rw [e1]
    exact ⟨(by first | rfl | simp []), N1, rfl⟩
theorem d10_0 : decode jdk_68_method_10_code 0 = .ok (.aload_n 0, 1) := by decide +kernel
theorem d10_1 : decode jdk_68_method_10_code 1 = .ok (.getfield 15, 3) := by decide +kernel
theorem d10_4 : decode jdk_68_method_10_code 4 = .ok (.arraylength, 1) := by decide +kernel
theorem d10_5 : decode jdk_68_method_10_code 5 = .ok (.istore_n 2, 1) := by decide +kernel
theorem d10_6 : decode jdk_68_method_10_code 6 = .ok (.iload_n 1, 1) := by decide +kernel
theorem d10_7 : decode jdk_68_method_10_code 7 = .ok (.aload_n 0, 1) := by decide +kernel
theorem d10_8 : decode jdk_68_method_10_code 8 = .ok (.getfield 22, 3) := by decide +kernel
theorem d10_11 : decode jdk_68_method_10_code 11 = .ok (.ishl, 1) := by decide +kernel
theorem d10_12 : decode jdk_68_method_10_code 12 = .ok (.istore_n 3, 1) := by decide +kernel
theorem d10_13 : decode jdk_68_method_10_code 13 = .ok (.iload_n 3, 1) := by decide +kernel
theorem d10_14 : decode jdk_68_method_10_code 14 = .ok (.iload_n 2, 1) := by decide +kernel
theorem d10_15 : decode jdk_68_method_10_code 15 = .ok (.isub, 1) := by decide +kernel
theorem d10_16 : decode jdk_68_method_10_code 16 = .ok (.istore 4, 2) := by decide +kernel
theorem d10_18 : decode jdk_68_method_10_code 18 = .ok (.iload_n 2, 1) := by decide +kernel
theorem d10_19 : decode jdk_68_method_10_code 19 = .ok (.iload 4, 2) := by decide +kernel
theorem d10_21 : decode jdk_68_method_10_code 21 = .ok (.iload_n 2, 1) := by decide +kernel
theorem d10_22 : decode jdk_68_method_10_code 22 = .ok (.iconst 2, 1) := by decide +kernel
theorem d10_23 : decode jdk_68_method_10_code 23 = .ok (.aload_n 0, 1) := by decide +kernel
theorem d10_24 : decode jdk_68_method_10_code 24 = .ok (.getfield 22, 3) := by decide +kernel
theorem d10_27 : decode jdk_68_method_10_code 27 = .ok (.ishl, 1) := by decide +kernel
theorem d10_28 : decode jdk_68_method_10_code 28 = .ok (.iadd, 1) := by decide +kernel
theorem d10_29 : decode jdk_68_method_10_code 29 = .ok (.invokestatic 114, 3) := by decide +kernel
theorem pd__III_I : parseMethodDescriptor "(III)I" = some ⟨[.int, .int, .int], some .int⟩ := by decide +kernel
theorem d10_32 : decode jdk_68_method_10_code 32 = .ok (.istore 5, 2) := by decide +kernel
theorem d10_34 : decode jdk_68_method_10_code 34 = .ok (.iload 5, 2) := by decide +kernel
theorem d10_36 : decode jdk_68_method_10_code 36 = .ok (.ldc 39, 2) := by decide +kernel
theorem d10_38 : decode jdk_68_method_10_code 38 = .ok (.if_icmp .ne 13, 3) := by decide +kernel
theorem d10_51 : decode jdk_68_method_10_code 51 = .ok (.iload 5, 2) := by decide +kernel
theorem d10_53 : decode jdk_68_method_10_code 53 = .ok (.aload_n 0, 1) := by decide +kernel
theorem d10_54 : decode jdk_68_method_10_code 54 = .ok (.getfield 22, 3) := by decide +kernel
theorem d10_57 : decode jdk_68_method_10_code 57 = .ok (.ishr, 1) := by decide +kernel
theorem d10_58 : decode jdk_68_method_10_code 58 = .ok (.ireturn, 1) := by decide +kernel
theorem pn_10 : plainName "java/lang/AbstractStringBuilder" = true := by first | (simp [plainName, overriddenIn]; done) | decide +kernel
theorem ef_bNc (m : MethodId) (x0 : Addr) (x1 : Int32) : entryFrame m #[(.ref x0), (.int x1)] 6 = mkF m 0 #[.val (.ref x0), .val (.int x1), .unset, .unset, .unset, .unset] [] := by first | (simp [entryFrame, mkF, argsToLocals, Value.category]; done) | rfl
set_option maxRecDepth 65536 in
set_option maxHeartbeats 40000000 in
theorem bNc (l : Launch) (Z : State) (a0 : Array Value) (hw : ∀ d ∈ tables_1, d.before a0 Z = true) (ws : List Jvm.Cond) (o0 : Addr) (vb : Addr) (kb : ClassId) (cap nb : Nat) (f : Nat → Nat) (mn mx r : Nat) (hmn : cap < mn) (hmn2 : mn ≤ 1000) (hmx : (mn - cap < cap + 2 → mx = cap + 2) ∧ (¬ mn - cap < cap + 2 → mx = mn - cap)) (hrs : cap + mx = r) (hr2 : r ≤ 200) (hcap : cap ≤ 1000) (hnb : nb ≤ cap) (hf : Asc f) (h0 : Heap) (n0 : Nat) (Z0 : n0 ≤ h0.size) (KZ : Keep Z.heap h0 []) (hz : Z.heap.size ≤ n0) (R_b : BD Z h0 o0 vb kb cap nb f) :
    MetFree l (⟨"java/lang/AbstractStringBuilder", "newCapacity", "(I)I"⟩ : MethodName) (head1 (Jvm.Cond.code (⟨"java/lang/AbstractStringBuilder", "newCapacity", "(I)I"⟩ : MethodName) jdk_68_method_10_code 6 (some .int) :: ws) ({ frames := 2, cells := 0, slots := 0, locals := 30 } : Room)) (fun a U => a = #[(.ref o0), (.int (Int32.ofNat mn))] ∧ Z.Warmed39 U.vm ∧ U.heap = h0) (fun _ _ _ _ _ => True) (fun _ U o U' => ∃ v L, o = .returned v ∧ QR (.int (Int32.ofNat r)) h0 n0 v U'.heap L ∧ FrameEnd U o U' L ({ frames := 2, cells := 0, slots := 0, locals := 30 } : Room).cells ({ frames := 2, cells := 0, slots := 0, locals := 30 } : Room).slots) := by
  refine MetFree.of_bodySF (plainFor_of_name pn_10) hisR ?_
  intro p e s m args below meth c s₁ Bd hml0 hP hK
  obtain ⟨rfl, hZ, hh⟩ := hP
  have hx := Bd.exec
  have hby := Bd.bytes
  have hml : c.maxLocals = 6 := hml0
  have hown : s.vm.findClass "java/lang/AbstractStringBuilder" = some m.cls := findClass_of_methodNamed Bd.named
  have hnm := (name_of_methodNamed Bd.named Bd.method).1
  have X0 : Stand p l e ({ frames := 2, cells := 0, slots := 0, locals := 30 } : Room) s m #[(.ref o0), (.int (Int32.ofNat mn))] below meth c s₁ [] 0 0 := Stand.of_body Bd
  have e0 : s₁.heap = h0 := by rw [← hh, Bd.state]; rfl
  have N0 := Fr.nil n0
  have pre0 : ∀ t, Steps p.tables e below (s₁.setTop (mkF m 0 #[vR o0, vI (Int32.ofNat mn), zU, zU, zU, zU] [])) t → Steps p.tables e below (s₁.setTop (entryFrame m #[(.ref o0), (.int (Int32.ofNat mn))] 6)) t := fun t k => castTop (ef_bNc m o0 (Int32.ofNat mn)) k
  obtain ⟨EB, FcB, FnB, FvB, VB⟩ := id R_b
  obtain ⟨T1, X1, e1, st1⟩ := getF X0 hx hZ hown (host := "") (Or.inl (wd hw 28 rfl)) Via.refl e0 FvB (g := (mkF m 1 #[vR o0, vI (Int32.ofNat mn), zU, zU, zU, zU] [(.ref o0)])) rfl rfl (hb hby d10_1)
  obtain ⟨cl2, Ar2, -, Sa2, -⟩ := id VB
  obtain ⟨T3, X3, e3, st3⟩ := getF X1 hx hZ hown (host := "") (Or.inl (wd hw 30 rfl)) Via.refl e1 FcB (g := (mkF m 8 #[vR o0, vI (Int32.ofNat mn), vI (Int32.ofNat cap), zU, zU, zU] [(.ref o0), (.int (Int32.ofNat mn))])) rfl rfl (hb hby d10_8)
  obtain ⟨T4, X4, e4, st4⟩ := getF X3 hx hZ hown (host := "") (Or.inl (wd hw 30 rfl)) Via.refl e3 FcB (g := (mkF m 24 #[vR o0, vI (Int32.ofNat mn), vI (Int32.ofNat cap), vI (Int32.ofNat mn), vI (Int32.ofNat (mn - cap)), zU] [(.ref o0), (.int (2 : Int32)), (.int (Int32.ofNat cap)), (.int (Int32.ofNat (mn - cap))), (.int (Int32.ofNat cap))])) rfl rfl (hb hby d10_24)
  obtain ⟨_, _, ⟨T5, L5, k5, n5⟩, -, X5, ⟨Lc5, hQ5, l5, y5, z5⟩, st5⟩ := Jvm.LawKit.callS X4 hx (y := (⟨"jdk/internal/util/ArraysSupport", "newLength", "(III)I"⟩ : MethodName)) hown (mvT hZ (wd hw 73 rfl)) (mvT hZ (wd hw 74 rfl)) (mvT hZ (wd hw 75 rfl)) (mvT hZ (wd hw 76 rfl)) (by decide) (backOf (W := 0) (nLen l Z a0 hw [] cap (mn - cap) (cap + 2) mx r hcap (by omega) (by omega) hmx hrs (by omega) h0 n0 Z0) hZ (wd hw 76 rfl) (wd hw 75 rfl) (by decide) (by decide)) (g := (mkF m 29 #[vR o0, vI (Int32.ofNat mn), vI (Int32.ofNat cap), vI (Int32.ofNat mn), vI (Int32.ofNat (mn - cap)), zU] [(.int (Int32.ofNat (cap + 2))), (.int (Int32.ofNat (mn - cap))), (.int (Int32.ofNat cap))])) rfl (by rw [hml]; rfl) (argsL := [(.int (Int32.ofNat cap)), (.int (Int32.ofNat (mn - cap))), (.int (Int32.ofNat (cap + 2)))]) (rest := []) (lenOf pd__III_I rfl) rfl (by show 2 * 0 + _ ≤ _; exact Nat.le_of_eq rfl) (hb hby d10_29) (fun _ _ => ⟨rfl, e4, (by decide : 0 + 0 ≤ _), (by decide : 0 + 0 ≤ _)⟩)
  dsimp only [Pt.U, Pt.locs, Pt.cells, Pt.slots] at X5 l5 y5 z5 st5 hQ5
  rw [l5, y5, z5] at X5
  obtain ⟨rfl, N5q, e5⟩ := hQ5
  have N5 := Fr.app N0 N5q
  obtain ⟨T6, X6, e6, st6⟩ := getF X5 hx hZ hown (host := "") (Or.inl (wd hw 30 rfl)) Via.refl e5 FcB (g := (mkF m 54 #[vR o0, vI (Int32.ofNat mn), vI (Int32.ofNat cap), vI (Int32.ofNat mn), vI (Int32.ofNat (mn - cap)), vI (Int32.ofNat r)] [(.ref o0), (.int (Int32.ofNat r))])) rfl rfl (hb hby d10_54)
  obtain ⟨fs, hr, hrun, hended, hW, hsame⟩ := X6.leave (v := some (.int (Int32.ofNat r))) (fun h => by rw [Bd.returns] at h; cases h)
  refine ⟨_, _, pre0 _ ?_, hrun, hended, _, _, rfl, ?_, ⟨_, rfl⟩, hW, hsame.mono (by decide) (by decide)⟩
  · skip
    refine XS.aloadN X0.here hx rfl (hb hby d10_0) rfl rfl ?_
    refine st1 _ ?_
    refine X1.arraylength hx (by rw [e1]; exact Ar2.1) (State.isArrayOf_alike hZ.alike Ar2.2.1) (g := (mkF m 4 #[vR o0, vI (Int32.ofNat mn), zU, zU, zU, zU] [(.ref vb)])) rfl rfl (hb hby d10_4) _ ?_
    rw [own_len Sa2]
    show Steps p.tables e below (T1.setTop (mkF m 5 #[vR o0, vI (Int32.ofNat mn), zU, zU, zU, zU] [(.int (Int32.ofNat cap))])) _
    refine XS.istoreN X1.here hx rfl (hb hby d10_5) rfl (l' := #[vR o0, vI (Int32.ofNat mn), vI (Int32.ofNat cap), zU, zU, zU]) rfl ?_
    refine XS.iloadN X1.here hx rfl (hb hby d10_6) rfl ?_
    refine XS.aloadN X1.here hx rfl (hb hby d10_7) rfl rfl ?_
    refine st3 _ ?_
    show Steps p.tables e below (T3.setTop (mkF m 11 #[vR o0, vI (Int32.ofNat mn), vI (Int32.ofNat cap), zU, zU, zU] [(.int (0 : Int32)), (.int (Int32.ofNat mn))])) _
    refine XS.ishl X3.here hx rfl (hb hby d10_11) rfl ?_
    show Steps p.tables e below (T3.setTop (mkF m 12 #[vR o0, vI (Int32.ofNat mn), vI (Int32.ofNat cap), zU, zU, zU] [(.int ((Int32.ofNat mn) <<< ((0 : Int32) &&& 31)))])) _
    rw [own_shl0]
    refine XS.istoreN X3.here hx rfl (hb hby d10_12) rfl (l' := #[vR o0, vI (Int32.ofNat mn), vI (Int32.ofNat cap), vI (Int32.ofNat mn), zU, zU]) rfl ?_
    refine XS.iloadN X3.here hx rfl (hb hby d10_13) rfl ?_
    refine XS.iloadN X3.here hx rfl (hb hby d10_14) rfl ?_
    show Steps p.tables e below (T3.setTop (mkF m 15 #[vR o0, vI (Int32.ofNat mn), vI (Int32.ofNat cap), vI (Int32.ofNat mn), zU, zU] [(.int (Int32.ofNat cap)), (.int (Int32.ofNat mn))])) _
    refine XS.isub X3.here hx rfl (hb hby d10_15) rfl ?_
    show Steps p.tables e below (T3.setTop (mkF m 16 #[vR o0, vI (Int32.ofNat mn), vI (Int32.ofNat cap), vI (Int32.ofNat mn), zU, zU] [(.int ((Int32.ofNat mn) - (Int32.ofNat cap)))])) _
    rw [own_subN (by omega) (by omega)]
    refine XS.istore X3.here hx rfl (hb hby d10_16) rfl (l' := #[vR o0, vI (Int32.ofNat mn), vI (Int32.ofNat cap), vI (Int32.ofNat mn), vI (Int32.ofNat (mn - cap)), zU]) rfl ?_
    refine XS.iloadN X3.here hx rfl (hb hby d10_18) rfl ?_
    refine XS.iload X3.here hx rfl (hb hby d10_19) rfl ?_
    show Steps p.tables e below (T3.setTop (mkF m 21 #[vR o0, vI (Int32.ofNat mn), vI (Int32.ofNat cap), vI (Int32.ofNat mn), vI (Int32.ofNat (mn - cap)), zU] [(.int (Int32.ofNat (mn - cap))), (.int (Int32.ofNat cap))])) _
    refine XS.iloadN X3.here hx rfl (hb hby d10_21) rfl ?_
    refine XS.iconst X3.here hx rfl (hb hby d10_22) ?_
    refine XS.aloadN X3.here hx rfl (hb hby d10_23) rfl rfl ?_
    refine st4 _ ?_
    show Steps p.tables e below (T4.setTop (mkF m 27 #[vR o0, vI (Int32.ofNat mn), vI (Int32.ofNat cap), vI (Int32.ofNat mn), vI (Int32.ofNat (mn - cap)), zU] [(.int (0 : Int32)), (.int (2 : Int32)), (.int (Int32.ofNat cap)), (.int (Int32.ofNat (mn - cap))), (.int (Int32.ofNat cap))])) _
    refine XS.ishl X4.here hx rfl (hb hby d10_27) rfl ?_
    show Steps p.tables e below (T4.setTop (mkF m 28 #[vR o0, vI (Int32.ofNat mn), vI (Int32.ofNat cap), vI (Int32.ofNat mn), vI (Int32.ofNat (mn - cap)), zU] [(.int ((2 : Int32) <<< ((0 : Int32) &&& 31))), (.int (Int32.ofNat cap)), (.int (Int32.ofNat (mn - cap))), (.int (Int32.ofNat cap))])) _
    rw [own_shl0]
    refine XS.iadd X4.here hx rfl (hb hby d10_28) rfl ?_
    show Steps p.tables e below (T4.setTop (mkF m 29 #[vR o0, vI (Int32.ofNat mn), vI (Int32.ofNat cap), vI (Int32.ofNat mn), vI (Int32.ofNat (mn - cap)), zU] [(.int ((Int32.ofNat cap) + (2 : Int32))), (.int (Int32.ofNat (mn - cap))), (.int (Int32.ofNat cap))])) _
    rw [show Int32.ofNat cap + (2 : Int32) = Int32.ofNat (cap + 2) from own_addN cap 2]
    refine st5 _ ?_
    refine XS.istore X5.here hx rfl (hb hby d10_32) rfl (l' := #[vR o0, vI (Int32.ofNat mn), vI (Int32.ofNat cap), vI (Int32.ofNat mn), vI (Int32.ofNat (mn - cap)), vI (Int32.ofNat r)]) rfl ?_
    show Steps p.tables e below (T5.setTop (mkF m 34 #[vR o0, vI (Int32.ofNat mn), vI (Int32.ofNat cap), vI (Int32.ofNat mn), vI (Int32.ofNat (mn - cap)), vI (Int32.ofNat r)] [])) _
    refine XS.iload X5.here hx rfl (hb hby d10_34) rfl ?_
    refine X5.ldcInt hx hown (mvT hZ (wd hw 82 rfl)) (g := (mkF m 36 #[vR o0, vI (Int32.ofNat mn), vI (Int32.ofNat cap), vI (Int32.ofNat mn), vI (Int32.ofNat (mn - cap)), vI (Int32.ofNat r)] [(.int (Int32.ofNat r))])) rfl (hb hby d10_36) _ ?_
    refine XS.icmpYes X5.here hx rfl (pc0 := 38) (pc' := 51) rfl (hb hby d10_38) rfl (feq (fun q => by have := congrArg Int32.toInt q; rw [own_i32 (by omega)] at this; have e : (2147483647 : Int32).toInt = 2147483647 := rfl; omega)).2 (by decide) (by decide) ?_
    refine XS.iload X5.here hx rfl (hb hby d10_51) rfl ?_
    show Steps p.tables e below (T5.setTop (mkF m 53 #[vR o0, vI (Int32.ofNat mn), vI (Int32.ofNat cap), vI (Int32.ofNat mn), vI (Int32.ofNat (mn - cap)), vI (Int32.ofNat r)] [(.int (Int32.ofNat r))])) _
    refine XS.aloadN X5.here hx rfl (hb hby d10_53) rfl rfl ?_
    refine st6 _ ?_
    refine XS.ishr X6.here hx rfl (hb hby d10_57) rfl ?_
    show Steps p.tables e below (T6.setTop (mkF m 58 #[vR o0, vI (Int32.ofNat mn), vI (Int32.ofNat cap), vI (Int32.ofNat mn), vI (Int32.ofNat (mn - cap)), vI (Int32.ofNat r)] [(.int ((Int32.ofNat r) >>> ((0 : Int32) &&& 31)))])) _
    rw [own_shr0]
    show Steps p.tables e below (T6.setTop (mkF m 58 #[vR o0, vI (Int32.ofNat mn), vI (Int32.ofNat cap), vI (Int32.ofNat mn), vI (Int32.ofNat (mn - cap)), vI (Int32.ofNat r)] [(.int (Int32.ofNat r))])) _
    exact retI X6 hx Bd.returns (hb hby d10_58) hr
  · show QR (.int (Int32.ofNat r)) h0 n0 _ T6.heap _
    rw [e6]
    exact ⟨(by first | rfl | simp []), N5, rfl⟩
def QCp (Z : State) (N : Nat) (g : Nat → Nat) (h0 : Heap) (n0 : Nat) (v : Option Value) (h : Heap) (L : List Loc) : Prop := ∃ (a : Addr) (k : ClassId), v = some (.ref a) ∧ Fr n0 L ∧ Keep h0 h [] ∧ n0 ≤ a ∧ h0.size ≤ a ∧ GA Z h a k .byte N (fun i => .int (Int32.ofNat (g i)))
theorem d13_0 : decode jdk_65_method_121_code 0 = .ok (.iload_n 1, 1) := by decide +kernel
theorem d13_1 : decode jdk_65_method_121_code 1 = .ok (.aload_n 0, 1) := by decide +kernel
theorem d13_2 : decode jdk_65_method_121_code 2 = .ok (.arraylength, 1) := by decide +kernel
theorem d13_3 : decode jdk_65_method_121_code 3 = .ok (.if_icmp .ne 11, 3) := by decide +kernel
theorem d13_14 : decode jdk_65_method_121_code 14 = .ok (.iload_n 1, 1) := by decide +kernel
theorem d13_15 : decode jdk_65_method_121_code 15 = .ok (.newarray .byte, 2) := by decide +kernel
theorem d13_17 : decode jdk_65_method_121_code 17 = .ok (.astore_n 2, 1) := by decide +kernel
theorem d13_18 : decode jdk_65_method_121_code 18 = .ok (.aload_n 0, 1) := by decide +kernel
theorem d13_19 : decode jdk_65_method_121_code 19 = .ok (.iconst 0, 1) := by decide +kernel
theorem d13_20 : decode jdk_65_method_121_code 20 = .ok (.aload_n 2, 1) := by decide +kernel
theorem d13_21 : decode jdk_65_method_121_code 21 = .ok (.iconst 0, 1) := by decide +kernel
theorem d13_22 : decode jdk_65_method_121_code 22 = .ok (.aload_n 0, 1) := by decide +kernel
theorem d13_23 : decode jdk_65_method_121_code 23 = .ok (.arraylength, 1) := by decide +kernel
theorem d13_24 : decode jdk_65_method_121_code 24 = .ok (.iload_n 1, 1) := by decide +kernel
theorem d13_25 : decode jdk_65_method_121_code 25 = .ok (.invokestatic 304, 3) := by decide +kernel
theorem d13_28 : decode jdk_65_method_121_code 28 = .ok (.invokestatic 150, 3) := by decide +kernel
theorem d13_31 : decode jdk_65_method_121_code 31 = .ok (.aload_n 2, 1) := by decide +kernel
theorem d13_32 : decode jdk_65_method_121_code 32 = .ok (.areturn, 1) := by decide +kernel
theorem pn_13 : plainName "java/util/Arrays" = true := by first | (simp [plainName, overriddenIn]; done) | decide +kernel
theorem ef_aCp (m : MethodId) (x0 : Addr) (x1 : Int32) : entryFrame m #[(.ref x0), (.int x1)] 3 = mkF m 0 #[.val (.ref x0), .val (.int x1), .unset] [] := by first | (simp [entryFrame, mkF, argsToLocals, Value.category]; done) | rfl
set_option maxRecDepth 65536 in
set_option maxHeartbeats 40000000 in
theorem aCp (l : Launch) (Z : State) (a0 : Array Value) (hw : ∀ d ∈ tables_1, d.before a0 Z = true) (ws : List Jvm.Cond) (o0 : Addr) (ka : ClassId) (cap r : Nat) (f : Nat → Nat) (hcr : cap < r) (hr4 : r ≤ 200) (hf : Asc f) (h0 : Heap) (n0 : Nat) (Z0 : n0 ≤ h0.size) (V_a : GA Z h0 o0 ka .byte cap (fun i => .int (Int32.ofNat (f i)))) :
    MetFree l (⟨"java/util/Arrays", "copyOf", "([BI)[B"⟩ : MethodName) (head1 (Jvm.Cond.code (⟨"java/util/Arrays", "copyOf", "([BI)[B"⟩ : MethodName) jdk_65_method_121_code 3 (some (.array .byte)) :: ws) ({ frames := 1, cells := 1, slots := 200, locals := 40 } : Room)) (fun a U => a = #[(.ref o0), (.int (Int32.ofNat r))] ∧ Z.Warmed39 U.vm ∧ U.heap = h0) (fun _ _ _ _ _ => True) (fun _ U o U' => ∃ v L, o = .returned v ∧ QCp Z r (fun i => if i < cap then f i else 0) h0 n0 v U'.heap L ∧ FrameEnd U o U' L ({ frames := 1, cells := 1, slots := 200, locals := 40 } : Room).cells ({ frames := 1, cells := 1, slots := 200, locals := 40 } : Room).slots) := by
  refine MetFree.of_bodySF (plainFor_of_name pn_13) hisR ?_
  intro p e s m args below meth c s₁ Bd hml0 hP hK
  obtain ⟨rfl, hZ, hh⟩ := hP
  have hx := Bd.exec
  have hby := Bd.bytes
  have hml : c.maxLocals = 3 := hml0
  have hown : s.vm.findClass "java/util/Arrays" = some m.cls := findClass_of_methodNamed Bd.named
  have hnm := (name_of_methodNamed Bd.named Bd.method).1
  have X0 : Stand p l e ({ frames := 1, cells := 1, slots := 200, locals := 40 } : Room) s m #[(.ref o0), (.int (Int32.ofNat r))] below meth c s₁ [] 0 0 := Stand.of_body Bd
  have e0 : s₁.heap = h0 := by rw [← hh, Bd.state]; rfl
  have N0 := Fr.nil n0
  have pre0 : ∀ t, Steps p.tables e below (s₁.setTop (mkF m 0 #[vR o0, vI (Int32.ofNat r), zU] [])) t → Steps p.tables e below (s₁.setTop (entryFrame m #[(.ref o0), (.int (Int32.ofNat r))] 3)) t := fun t k => castTop (ef_aCp m o0 (Int32.ofNat r)) k
  obtain ⟨cl1, Ar1, -, Sa1, -⟩ := id V_a
  obtain ⟨T2, h2, k2, X2, e2, E2, A2, st2⟩ := newP X0 hx hZ (wd hw 27 rfl) e0 (g := (mkF m 15 #[vR o0, vI (Int32.ofNat r), zU] [(.int (Int32.ofNat r))])) rfl (hb hby d13_15) rfl (by rw [Int32.lt_iff_toInt_lt, own_i32 (by omega)]; show ¬ (r : Int) < 0; omega) (cap := 200) (by rw [own_cl (by omega)]; omega) (by decide) (by decide) (by decide)
  obtain ⟨b2, g2⟩ : ∃ z, z = h0.size := ⟨_, rfl⟩
  rw [← g2] at A2 st2
  have g_b2 : n0 ≤ b2 := Nat.le_trans Z0 (Nat.le_of_eq g2.symm)
  have sz_b2 : h0.size ≤ b2 := Nat.le_trans (Keep.refl h0 []).1 (Nat.le_of_eq g2.symm)
  have ne2_o0 : o0 ≠ b2 := Nat.ne_of_lt (Nat.lt_of_lt_of_le (V_a).lt (Nat.le_of_eq g2.symm))
  have Zs2 : n0 ≤ h2.size := Nat.le_trans Z0 E2.1
  have K2 : Keep h0 h2 [] := (Keep.refl h0 []).ext E2
  have G2 : GA Z h2 b2 k2 .byte r (fun i => .int (Int32.ofNat ((fun _ => 0) i))) := GA.new A2 (own_cl (by omega))
  have V_a_4 := (V_a.ext E2)
  obtain ⟨cl3, Ar3, -, Sa3, -⟩ := id V_a_4
  obtain ⟨_, _, ⟨T5, L5, k5, n5⟩, -, X5, ⟨Lc5, hQ5, l5, y5, z5⟩, st5⟩ := Jvm.LawKit.callS X2 hx (y := (⟨"java/lang/Math", "min", "(II)I"⟩ : MethodName)) hown (mvT hZ (wd hw 87 rfl)) (mvT hZ (wd hw 88 rfl)) (mvT hZ (wd hw 79 rfl)) (mvT hZ (wd hw 89 rfl)) (by decide) (backOf (W := 4) (mmin l Z a0 hw [] cap r cap (by omega) (by omega) (by constructor <;> intro _ <;> omega) h2 n0 Zs2) hZ (wd hw 89 rfl) (wd hw 79 rfl) (by decide) (by decide)) (g := (mkF m 25 #[vR o0, vI (Int32.ofNat r), vR b2] [(.int (Int32.ofNat r)), (.int (Int32.ofNat cap)), (.int (0 : Int32)), (.ref b2), (.int (0 : Int32)), (.ref o0)])) rfl (by rw [hml]; rfl) (argsL := [(.int (Int32.ofNat cap)), (.int (Int32.ofNat r))]) (rest := [(.int (0 : Int32)), (.ref b2), (.int (0 : Int32)), (.ref o0)]) (lenOf pd__II_I rfl) rfl (by show 2 * 0 + _ ≤ _; exact Nat.le_of_eq rfl) (hb hby d13_25) (fun _ _ => ⟨rfl, e2, (by decide : 1 + 0 ≤ _), (by decide : 200 + 0 ≤ _)⟩)
  dsimp only [Pt.U, Pt.locs, Pt.cells, Pt.slots] at X5 l5 y5 z5 st5 hQ5
  rw [l5, y5, z5] at X5
  obtain ⟨rfl, N5q, e5⟩ := hQ5
  have N5 := Fr.app N0 N5q
  obtain ⟨T6, h6, X6, e6, K6c, z6c, G6, st6⟩ := own_acopy X5 hx hZ hown (wd hw 90 rfl) (wd hw 93 rfl) (wd hw 91 rfl) (wd hw 92 rfl) e5 (f := f) (g := (fun _ => 0)) V_a_4 G2 hf (o := 0) (q := 0) (n := cap) (by omega) (by omega) (by omega) (by omega) (g0 := (mkF m 28 #[vR o0, vI (Int32.ofNat r), vR b2] [(.int (Int32.ofNat cap)), (.int (0 : Int32)), (.ref b2), (.int (0 : Int32)), (.ref o0)])) rfl (by rw [hml]; rfl) (rest := []) rfl (hb hby d13_28) (by decide) (W := 0) (by show 2 * 0 + _ ≤ _; exact Nat.le_of_eq rfl) (by decide)
  have Zs6 : n0 ≤ h6.size := Nat.le_trans Zs2 K6c.1
  have Kk6 : Keep h0 h6 [] := K2.trans K6c (allS (Or.inr sz_b2) all0)
  have N6 := Fr.app N5 (own_frc (q := 0) (n := cap) g_b2)
  obtain ⟨fs, hr, hrun, hended, hW, hsame⟩ := X6.leave (v := some (.ref b2)) (fun h => by rw [Bd.returns] at h; cases h)
  refine ⟨_, _, pre0 _ ?_, hrun, hended, _, _, rfl, ?_, ⟨_, rfl⟩, hW, hsame.mono (by decide) (by decide)⟩
  · skip
    refine XS.iloadN X0.here hx rfl (hb hby d13_0) rfl ?_
    refine XS.aloadN X0.here hx rfl (hb hby d13_1) rfl rfl ?_
    refine X0.arraylength hx (by rw [e0]; exact Ar1.1) (State.isArrayOf_alike hZ.alike Ar1.2.1) (g := (mkF m 2 #[vR o0, vI (Int32.ofNat r), zU] [(.ref o0), (.int (Int32.ofNat r))])) rfl rfl (hb hby d13_2) _ ?_
    rw [own_len Sa1]
    show Steps p.tables e below (s₁.setTop (mkF m 3 #[vR o0, vI (Int32.ofNat r), zU] [(.int (Int32.ofNat cap)), (.int (Int32.ofNat r))])) _
    refine XS.icmpYes X0.here hx rfl (pc0 := 3) (pc' := 14) rfl (hb hby d13_3) rfl (feq (fun q => absurd ((own_inj (by omega) (by omega)).mp q) (by omega))).2 (by decide) (by decide) ?_
    refine XS.iloadN X0.here hx rfl (hb hby d13_14) rfl ?_
    show Steps p.tables e below (s₁.setTop (mkF m 15 #[vR o0, vI (Int32.ofNat r), zU] [(.int (Int32.ofNat r))])) _
    refine st2 _ ?_
    refine XS.astoreN X2.here hx rfl (hb hby d13_17) rfl rfl (l' := #[vR o0, vI (Int32.ofNat r), vR b2]) rfl ?_
    refine XS.aloadN X2.here hx rfl (hb hby d13_18) rfl rfl ?_
    show Steps p.tables e below (T2.setTop (mkF m 19 #[vR o0, vI (Int32.ofNat r), vR b2] [(.ref o0)])) _
    refine XS.iconst X2.here hx rfl (hb hby d13_19) ?_
    refine XS.aloadN X2.here hx rfl (hb hby d13_20) rfl rfl ?_
    refine XS.iconst X2.here hx rfl (hb hby d13_21) ?_
    refine XS.aloadN X2.here hx rfl (hb hby d13_22) rfl rfl ?_
    show Steps p.tables e below (T2.setTop (mkF m 23 #[vR o0, vI (Int32.ofNat r), vR b2] [(.ref o0), (.int (0 : Int32)), (.ref b2), (.int (0 : Int32)), (.ref o0)])) _
    refine X2.arraylength hx (by rw [e2]; exact Ar3.1) (State.isArrayOf_alike hZ.alike Ar3.2.1) (g := (mkF m 23 #[vR o0, vI (Int32.ofNat r), vR b2] [(.ref o0), (.int (0 : Int32)), (.ref b2), (.int (0 : Int32)), (.ref o0)])) rfl rfl (hb hby d13_23) _ ?_
    rw [own_len Sa3]
    refine XS.iloadN X2.here hx rfl (hb hby d13_24) rfl ?_
    refine st5 _ ?_
    show Steps p.tables e below (T5.setTop (mkF m 28 #[vR o0, vI (Int32.ofNat r), vR b2] [(.int (Int32.ofNat cap)), (.int (0 : Int32)), (.ref b2), (.int (0 : Int32)), (.ref o0)])) _
    refine st6 _ ?_
    refine XS.aloadN X6.here hx rfl (hb hby d13_31) rfl rfl ?_
    show Steps p.tables e below (T6.setTop (mkF m 32 #[vR o0, vI (Int32.ofNat r), vR b2] [(.ref b2)])) _
    jvm_step X6.here [X6.here.top, hx, (hb hby d13_32), X6.method', Bd.returns, Value.isRef, FieldType.isReference]
    first | (intro acts; rw [hr _ acts rfl rfl rfl]) | rw [hr _ _ rfl rfl rfl]
    exact Steps.refl _
  · show QCp Z r (fun i => if i < cap then f i else 0) h0 n0 _ T6.heap _
    rw [e6]
    exact ⟨_, k2, rfl, N6, Kk6, g_b2, sz_b2, (G6).eqv fun i _ => by show Value.int (Int32.ofNat (if 0 ≤ i ∧ i < 0 + cap then f (0 + (i - 0)) else 0)) = Value.int (Int32.ofNat (if i < cap then f i else 0)); simp⟩
theorem d9_0 : decode jdk_68_method_9_code 0 = .ok (.aload_n 0, 1) := by decide +kernel
theorem d9_1 : decode jdk_68_method_9_code 1 = .ok (.getfield 15, 3) := by decide +kernel
theorem d9_4 : decode jdk_68_method_9_code 4 = .ok (.arraylength, 1) := by decide +kernel
theorem d9_5 : decode jdk_68_method_9_code 5 = .ok (.aload_n 0, 1) := by decide +kernel
theorem d9_6 : decode jdk_68_method_9_code 6 = .ok (.getfield 22, 3) := by decide +kernel
theorem d9_9 : decode jdk_68_method_9_code 9 = .ok (.ishr, 1) := by decide +kernel
theorem d9_10 : decode jdk_68_method_9_code 10 = .ok (.istore_n 2, 1) := by decide +kernel
theorem d9_11 : decode jdk_68_method_9_code 11 = .ok (.iload_n 1, 1) := by decide +kernel
theorem d9_12 : decode jdk_68_method_9_code 12 = .ok (.iload_n 2, 1) := by decide +kernel
theorem d9_13 : decode jdk_68_method_9_code 13 = .ok (.isub, 1) := by decide +kernel
theorem d9_14 : decode jdk_68_method_9_code 14 = .ok (.ifCond .le 24, 3) := by decide +kernel
theorem d9_38 : decode jdk_68_method_9_code 38 = .ok (.return_, 1) := by decide +kernel
theorem pn_9 : plainName "java/lang/AbstractStringBuilder" = true := by first | (simp [plainName, overriddenIn]; done) | decide +kernel
theorem ef_bEn0 (m : MethodId) (x0 : Addr) (x1 : Int32) : entryFrame m #[(.ref x0), (.int x1)] 3 = mkF m 0 #[.val (.ref x0), .val (.int x1), .unset] [] := by first | (simp [entryFrame, mkF, argsToLocals, Value.category]; done) | rfl
set_option maxRecDepth 65536 in
set_option maxHeartbeats 40000000 in
theorem bEn0 (l : Launch) (Z : State) (a0 : Array Value) (hw : ∀ d ∈ tables_1, d.before a0 Z = true) (ws : List Jvm.Cond) (o0 : Addr) (vb : Addr) (kb : ClassId) (cap nb : Nat) (f : Nat → Nat) (mn : Nat) (hmn : mn ≤ cap) (hcap : cap ≤ 1000) (hnb : nb ≤ cap) (hf : Asc f) (h0 : Heap) (n0 : Nat) (Z0 : n0 ≤ h0.size) (KZ : Keep Z.heap h0 []) (hz : Z.heap.size ≤ n0) (R_b : BD Z h0 o0 vb kb cap nb f) :
    MetFree l (⟨"java/lang/AbstractStringBuilder", "ensureCapacityInternal", "(I)V"⟩ : MethodName) (head1 (Jvm.Cond.code (⟨"java/lang/AbstractStringBuilder", "ensureCapacityInternal", "(I)V"⟩ : MethodName) jdk_68_method_9_code 3 none :: ws) ({ frames := 3, cells := 1, slots := 200, locals := 60 } : Room)) (fun a U => a = #[(.ref o0), (.int (Int32.ofNat mn))] ∧ Z.Warmed39 U.vm ∧ U.heap = h0) (fun _ _ _ _ _ => True) (fun _ U o U' => ∃ v L, o = .returned v ∧ QV h0 n0 v U'.heap L ∧ FrameEnd U o U' L ({ frames := 3, cells := 1, slots := 200, locals := 60 } : Room).cells ({ frames := 3, cells := 1, slots := 200, locals := 60 } : Room).slots) := by
  refine MetFree.of_bodySF (plainFor_of_name pn_9) hisR ?_
  intro p e s m args below meth c s₁ Bd hml0 hP hK
  obtain ⟨rfl, hZ, hh⟩ := hP
  have hx := Bd.exec
  have hby := Bd.bytes
  have hml : c.maxLocals = 3 := hml0
  have hown : s.vm.findClass "java/lang/AbstractStringBuilder" = some m.cls := findClass_of_methodNamed Bd.named
  have hnm := (name_of_methodNamed Bd.named Bd.method).1
  have X0 : Stand p l e ({ frames := 3, cells := 1, slots := 200, locals := 60 } : Room) s m #[(.ref o0), (.int (Int32.ofNat mn))] below meth c s₁ [] 0 0 := Stand.of_body Bd
  have e0 : s₁.heap = h0 := by rw [← hh, Bd.state]; rfl
  have N0 := Fr.nil n0
  have pre0 : ∀ t, Steps p.tables e below (s₁.setTop (mkF m 0 #[vR o0, vI (Int32.ofNat mn), zU] [])) t → Steps p.tables e below (s₁.setTop (entryFrame m #[(.ref o0), (.int (Int32.ofNat mn))] 3)) t := fun t k => castTop (ef_bEn0 m o0 (Int32.ofNat mn)) k
  obtain ⟨EB, FcB, FnB, FvB, VB⟩ := id R_b
  obtain ⟨T1, X1, e1, st1⟩ := getF X0 hx hZ hown (host := "") (Or.inl (wd hw 28 rfl)) Via.refl e0 FvB (g := (mkF m 1 #[vR o0, vI (Int32.ofNat mn), zU] [(.ref o0)])) rfl rfl (hb hby d9_1)
  obtain ⟨cl2, Ar2, -, Sa2, -⟩ := id VB
  obtain ⟨T3, X3, e3, st3⟩ := getF X1 hx hZ hown (host := "") (Or.inl (wd hw 30 rfl)) Via.refl e1 FcB (g := (mkF m 6 #[vR o0, vI (Int32.ofNat mn), zU] [(.ref o0), (.int (Int32.ofNat cap))])) rfl rfl (hb hby d9_6)
  obtain ⟨fs, hr, hrun, hended, hW, hsame⟩ := X3.leave (v := none) (fun _ => rfl)
  refine ⟨_, _, pre0 _ ?_, hrun, hended, _, _, rfl, ?_, ⟨_, rfl⟩, hW, hsame.mono (by decide) (by decide)⟩
  · skip
    refine XS.aloadN X0.here hx rfl (hb hby d9_0) rfl rfl ?_
    refine st1 _ ?_
    refine X1.arraylength hx (by rw [e1]; exact Ar2.1) (State.isArrayOf_alike hZ.alike Ar2.2.1) (g := (mkF m 4 #[vR o0, vI (Int32.ofNat mn), zU] [(.ref vb)])) rfl rfl (hb hby d9_4) _ ?_
    rw [own_len Sa2]
    show Steps p.tables e below (T1.setTop (mkF m 5 #[vR o0, vI (Int32.ofNat mn), zU] [(.int (Int32.ofNat cap))])) _
    refine XS.aloadN X1.here hx rfl (hb hby d9_5) rfl rfl ?_
    refine st3 _ ?_
    refine XS.ishr X3.here hx rfl (hb hby d9_9) rfl ?_
    show Steps p.tables e below (T3.setTop (mkF m 10 #[vR o0, vI (Int32.ofNat mn), zU] [(.int ((Int32.ofNat cap) >>> ((0 : Int32) &&& 31)))])) _
    rw [own_shr0]
    refine XS.istoreN X3.here hx rfl (hb hby d9_10) rfl (l' := #[vR o0, vI (Int32.ofNat mn), vI (Int32.ofNat cap)]) rfl ?_
    show Steps p.tables e below (T3.setTop (mkF m 11 #[vR o0, vI (Int32.ofNat mn), vI (Int32.ofNat cap)] [])) _
    refine XS.iloadN X3.here hx rfl (hb hby d9_11) rfl ?_
    refine XS.iloadN X3.here hx rfl (hb hby d9_12) rfl ?_
    refine XS.isub X3.here hx rfl (hb hby d9_13) rfl ?_
    refine XS.ifYes X3.here hx rfl (pc0 := 14) (pc' := 38) rfl (hb hby d9_14) rfl ((if0 _ _).trans (flt (by rw [Int32.lt_iff_toInt_lt]; have := c_isub (Int32.ofNat mn) (Int32.ofNat cap); rw [own_i32 (by omega), own_i32 (by omega)] at this; have b1 := (Int32.ofNat mn - Int32.ofNat cap).toInt_lt; have b2 := (Int32.ofNat mn - Int32.ofNat cap).le_toInt; show ¬ (0 : Int) < _; omega)).2.2.2) (by decide) (by decide) ?_
    show Steps p.tables e below (T3.setTop (mkF m 38 #[vR o0, vI (Int32.ofNat mn), vI (Int32.ofNat cap)] [])) _
    exact X3.returnOut hx Bd.returns (hb hby d9_38) hr
  · show QV h0 n0 _ T3.heap _
    rw [e3]
    exact ⟨(by first | rfl | simp []), N0, rfl⟩
def QBe (Z : State) (o : Addr) (cap nb r : Nat) (f : Nat → Nat) (h0 : Heap) (n0 : Nat) (v : Option Value) (h : Heap) (L : List Loc) : Prop := v = none ∧ Fr n0 L ∧ Keep h0 h [o] ∧ ∃ (a : Addr) (k : ClassId), n0 ≤ a ∧ h0.size ≤ a ∧ BD Z h o a k r nb (fun i => if i < cap then f i else 0)
theorem d9_17 : decode jdk_68_method_9_code 17 = .ok (.aload_n 0, 1) := by decide +kernel
theorem d9_18 : decode jdk_68_method_9_code 18 = .ok (.aload_n 0, 1) := by decide +kernel
theorem d9_19 : decode jdk_68_method_9_code 19 = .ok (.getfield 15, 3) := by decide +kernel
theorem d9_22 : decode jdk_68_method_9_code 22 = .ok (.aload_n 0, 1) := by decide +kernel
theorem d9_23 : decode jdk_68_method_9_code 23 = .ok (.iload_n 1, 1) := by decide +kernel
theorem d9_24 : decode jdk_68_method_9_code 24 = .ok (.invokevirtual 104, 3) := by decide +kernel
theorem pd__I_I : parseMethodDescriptor "(I)I" = some ⟨[.int], some .int⟩ := by decide +kernel
theorem d9_27 : decode jdk_68_method_9_code 27 = .ok (.aload_n 0, 1) := by decide +kernel
theorem d9_28 : decode jdk_68_method_9_code 28 = .ok (.getfield 22, 3) := by decide +kernel
theorem d9_31 : decode jdk_68_method_9_code 31 = .ok (.ishl, 1) := by decide +kernel
theorem d9_32 : decode jdk_68_method_9_code 32 = .ok (.invokestatic 108, 3) := by decide +kernel
theorem pd___BI__B : parseMethodDescriptor "([BI)[B" = some ⟨[(.array .byte), .int], some (.array .byte)⟩ := by decide +kernel
theorem d9_35 : decode jdk_68_method_9_code 35 = .ok (.putfield 15, 3) := by decide +kernel
theorem ef_bEn1 (m : MethodId) (x0 : Addr) (x1 : Int32) : entryFrame m #[(.ref x0), (.int x1)] 3 = mkF m 0 #[.val (.ref x0), .val (.int x1), .unset] [] := by first | (simp [entryFrame, mkF, argsToLocals, Value.category]; done) | rfl
set_option maxRecDepth 65536 in
set_option maxHeartbeats 40000000 in
theorem bEn1 (l : Launch) (Z : State) (a0 : Array Value) (hw : ∀ d ∈ tables_1, d.before a0 Z = true) (ws : List Jvm.Cond) (o0 : Addr) (vb : Addr) (kb : ClassId) (cap nb : Nat) (f : Nat → Nat) (mn mx r : Nat) (hmn : cap < mn) (hmn2 : mn ≤ 1000) (hmx : (mn - cap < cap + 2 → mx = cap + 2) ∧ (¬ mn - cap < cap + 2 → mx = mn - cap)) (hrs : cap + mx = r) (hr2 : r ≤ 200) (hcap : cap ≤ 1000) (hnb : nb ≤ cap) (hf : Asc f) (h0 : Heap) (n0 : Nat) (Z0 : n0 ≤ h0.size) (KZ : Keep Z.heap h0 []) (hz : Z.heap.size ≤ n0) (R_b : BD Z h0 o0 vb kb cap nb f) (g_o : n0 ≤ o0) :
    MetFree l (⟨"java/lang/AbstractStringBuilder", "ensureCapacityInternal", "(I)V"⟩ : MethodName) (head1 (Jvm.Cond.code (⟨"java/lang/AbstractStringBuilder", "ensureCapacityInternal", "(I)V"⟩ : MethodName) jdk_68_method_9_code 3 none :: ws) ({ frames := 3, cells := 1, slots := 200, locals := 60 } : Room)) (fun a U => a = #[(.ref o0), (.int (Int32.ofNat mn))] ∧ Z.Warmed39 U.vm ∧ U.heap = h0) (fun _ _ _ _ _ => True) (fun _ U o U' => ∃ v L, o = .returned v ∧ QBe Z o0 cap nb r f h0 n0 v U'.heap L ∧ FrameEnd U o U' L ({ frames := 3, cells := 1, slots := 200, locals := 60 } : Room).cells ({ frames := 3, cells := 1, slots := 200, locals := 60 } : Room).slots) := by
  refine MetFree.of_bodySF (plainFor_of_name pn_9) hisR ?_
  intro p e s m args below meth c s₁ Bd hml0 hP hK
  obtain ⟨rfl, hZ, hh⟩ := hP
  have hx := Bd.exec
  have hby := Bd.bytes
  have hml : c.maxLocals = 3 := hml0
  have hown : s.vm.findClass "java/lang/AbstractStringBuilder" = some m.cls := findClass_of_methodNamed Bd.named
  have hnm := (name_of_methodNamed Bd.named Bd.method).1
  have X0 : Stand p l e ({ frames := 3, cells := 1, slots := 200, locals := 60 } : Room) s m #[(.ref o0), (.int (Int32.ofNat mn))] below meth c s₁ [] 0 0 := Stand.of_body Bd
  have e0 : s₁.heap = h0 := by rw [← hh, Bd.state]; rfl
  have N0 := Fr.nil n0
  have pre0 : ∀ t, Steps p.tables e below (s₁.setTop (mkF m 0 #[vR o0, vI (Int32.ofNat mn), zU] [])) t → Steps p.tables e below (s₁.setTop (entryFrame m #[(.ref o0), (.int (Int32.ofNat mn))] 3)) t := fun t k => castTop (ef_bEn1 m o0 (Int32.ofNat mn)) k
  obtain ⟨EB, FcB, FnB, FvB, VB⟩ := id R_b
  obtain ⟨T1, X1, e1, st1⟩ := getF X0 hx hZ hown (host := "") (Or.inl (wd hw 28 rfl)) Via.refl e0 FvB (g := (mkF m 1 #[vR o0, vI (Int32.ofNat mn), zU] [(.ref o0)])) rfl rfl (hb hby d9_1)
  obtain ⟨cl2, Ar2, -, Sa2, -⟩ := id VB
  obtain ⟨T3, X3, e3, st3⟩ := getF X1 hx hZ hown (host := "") (Or.inl (wd hw 30 rfl)) Via.refl e1 FcB (g := (mkF m 6 #[vR o0, vI (Int32.ofNat mn), zU] [(.ref o0), (.int (Int32.ofNat cap))])) rfl rfl (hb hby d9_6)
  obtain ⟨T4, X4, e4, st4⟩ := getF X3 hx hZ hown (host := "") (Or.inl (wd hw 28 rfl)) Via.refl e3 FvB (g := (mkF m 19 #[vR o0, vI (Int32.ofNat mn), vI (Int32.ofNat cap)] [(.ref o0), (.ref o0)])) rfl rfl (hb hby d9_19)
  obtain ⟨cq5, kq5, q5a, q5b, q5c⟩ := isOf hZ e4 EB
  obtain ⟨_, _, ⟨T5, L5, k5, n5⟩, -, X5, ⟨Lc5, hQ5, l5, y5, z5⟩, st5⟩ := X4.virtualBack hx (y := (⟨"java/lang/AbstractStringBuilder", "newCapacity", "(I)I"⟩ : MethodName)) (z := (⟨"java/lang/AbstractStringBuilder", "newCapacity", "(I)I"⟩ : MethodName)) hown (mvT hZ (wd hw 68 rfl)) (mvT hZ (own_declares (wd hw 69 rfl) (wd hw 72 rfl))) (notFace_of_selects (args := #[]) (mvT hZ (wd hw 71 rfl))) (mvT hZ (wd hw 71 rfl)) (mvT hZ (wd hw 69 rfl)) (by decide) (backOf (W := 2) (bNc l Z a0 hw [] o0 vb kb cap nb f mn mx r hmn hmn2 hmx hrs hr2 hcap hnb hf h0 n0 Z0 KZ hz R_b) hZ (wd hw 72 rfl) (wd hw 20 rfl) (by decide) (by decide)) q5a q5c (g := (mkF m 24 #[vR o0, vI (Int32.ofNat mn), vI (Int32.ofNat cap)] [(.int (Int32.ofNat mn)), (.ref o0), (.ref vb), (.ref o0)])) rfl (by rw [hml]; rfl) (Steps.refl _) (argsL := [(.int (Int32.ofNat mn))]) (rest := [(.ref vb), (.ref o0)]) (lenOf pd__I_I rfl) rfl (by show 2 * 0 + _ ≤ _; exact Nat.le_of_eq rfl) (hb hby d9_24) (fun _ _ => ⟨rfl, e4, (by decide : 0 + 0 ≤ _), (by decide : 0 + 0 ≤ _)⟩)
  dsimp only [Pt.U, Pt.locs, Pt.cells, Pt.slots] at X5 l5 y5 z5 st5 hQ5
  rw [l5, y5, z5] at X5
  obtain ⟨rfl, N5q, e5⟩ := hQ5
  have N5 := Fr.app N0 N5q
  obtain ⟨T6, X6, e6, st6⟩ := getF X5 hx hZ hown (host := "") (Or.inl (wd hw 30 rfl)) Via.refl e5 FcB (g := (mkF m 28 #[vR o0, vI (Int32.ofNat mn), vI (Int32.ofNat cap)] [(.ref o0), (.int (Int32.ofNat r)), (.ref vb), (.ref o0)])) rfl rfl (hb hby d9_28)
  obtain ⟨_, _, ⟨T7, L7, k7, n7⟩, -, X7, ⟨Lc7, hQ7, l7, y7, z7⟩, st7⟩ := Jvm.LawKit.callS X6 hx (y := (⟨"java/util/Arrays", "copyOf", "([BI)[B"⟩ : MethodName)) hown (mvT hZ (wd hw 83 rfl)) (mvT hZ (wd hw 84 rfl)) (mvT hZ (wd hw 85 rfl)) (mvT hZ (wd hw 86 rfl)) (by decide) (backOf (W := 1) (aCp l Z a0 hw [] vb kb cap r f (by omega) (by omega) hf h0 n0 Z0 VB) hZ (wd hw 86 rfl) (wd hw 85 rfl) (by decide) (by decide)) (g := (mkF m 32 #[vR o0, vI (Int32.ofNat mn), vI (Int32.ofNat cap)] [(.int (Int32.ofNat r)), (.ref vb), (.ref o0)])) rfl (by rw [hml]; rfl) (argsL := [(.ref vb), (.int (Int32.ofNat r))]) (rest := [(.ref o0)]) (lenOf pd___BI__B rfl) rfl (by show 2 * 0 + _ ≤ _; exact Nat.le_of_eq rfl) (hb hby d9_32) (fun _ _ => ⟨rfl, e6, (by decide : 0 + 1 ≤ _), (by decide : 0 + 200 ≤ _)⟩)
  dsimp only [Pt.U, Pt.locs, Pt.cells, Pt.slots] at X7 l7 y7 z7 st7 hQ7
  rw [l7, y7, z7] at X7
  obtain ⟨ca7, kc7, rfl, N7q, Kp7, gc7, sc7, Gc7⟩ := hQ7
  have N7 := Fr.app N5 N7q
  have Zs7 : n0 ≤ T7.heap.size := Nat.le_trans Z0 Kp7.1
  have Kk7 : Keep h0 T7.heap [o0] := (Keep.refl h0 [o0]).trans Kp7 all0
  have nc7 : o0 ≠ ca7 := Nat.ne_of_lt (Nat.lt_of_lt_of_le (EB).lt sc7)
  have FvB_8 := (FvB.keep Kp7 nin0)
  have EB_9 := (EB.keep Kp7)
  obtain ⟨T10, h10, X10, e10, W10, st10⟩ := putF X7 hx hZ hown (host := "") (Or.inl (wd hw 28 rfl)) Via.refl rfl FvB_8 EB_9 (Or.inl (wd hw 29 rfl)) (wd hw 11 rfl) (ty := (.array .byte)) (by decide) rfl rfl (g := (mkF m 35 #[vR o0, vI (Int32.ofNat mn), vI (Int32.ofNat cap)] [(.ref ca7), (.ref o0)])) rfl rfl (hb hby d9_35)
  have Fw10 := FvB_8.same W10
  have Zs10 : n0 ≤ h10.size := Nat.le_trans Zs7 (Nat.le_of_eq W10.size.symm)
  have K10 : Keep h0 h10 [o0] := Kk7.wr W10 (Or.inl (List.mem_of_getElem? (i := 0) rfl))
  have N10 := Fr.snoc X10 N7 g_o
  have EB_11 := (EB_9.wr W10)
  have FcB_12 := ((FcB.keep Kp7 nin0).other W10 (Or.inr (slot_ne (Or.inl (wd hw 31 rfl)) (Or.inl (wd hw 29 rfl)) (by decide) (t := .byte) (t' := (.array .byte)) (by decide) (by decide))))
  have FnB_13 := ((FnB.keep Kp7 nin0).other W10 (Or.inr (slot_ne (Or.inl (wd hw 62 rfl)) (Or.inl (wd hw 29 rfl)) (by decide) (t := .int) (t' := (.array .byte)) (by decide) (by decide))))
  have Gc7_14 := (Gc7.other W10 (Ne.symm nc7))
  obtain ⟨fs, hr, hrun, hended, hW, hsame⟩ := X10.leave (v := none) (fun _ => rfl)
  refine ⟨_, _, pre0 _ ?_, hrun, hended, _, _, rfl, ?_, ⟨_, rfl⟩, hW, hsame.mono (by decide) (by decide)⟩
  · skip
    refine XS.aloadN X0.here hx rfl (hb hby d9_0) rfl rfl ?_
    refine st1 _ ?_
    refine X1.arraylength hx (by rw [e1]; exact Ar2.1) (State.isArrayOf_alike hZ.alike Ar2.2.1) (g := (mkF m 4 #[vR o0, vI (Int32.ofNat mn), zU] [(.ref vb)])) rfl rfl (hb hby d9_4) _ ?_
    rw [own_len Sa2]
    show Steps p.tables e below (T1.setTop (mkF m 5 #[vR o0, vI (Int32.ofNat mn), zU] [(.int (Int32.ofNat cap))])) _
    refine XS.aloadN X1.here hx rfl (hb hby d9_5) rfl rfl ?_
    refine st3 _ ?_
    refine XS.ishr X3.here hx rfl (hb hby d9_9) rfl ?_
    show Steps p.tables e below (T3.setTop (mkF m 10 #[vR o0, vI (Int32.ofNat mn), zU] [(.int ((Int32.ofNat cap) >>> ((0 : Int32) &&& 31)))])) _
    rw [own_shr0]
    refine XS.istoreN X3.here hx rfl (hb hby d9_10) rfl (l' := #[vR o0, vI (Int32.ofNat mn), vI (Int32.ofNat cap)]) rfl ?_
    show Steps p.tables e below (T3.setTop (mkF m 11 #[vR o0, vI (Int32.ofNat mn), vI (Int32.ofNat cap)] [])) _
    refine XS.iloadN X3.here hx rfl (hb hby d9_11) rfl ?_
    refine XS.iloadN X3.here hx rfl (hb hby d9_12) rfl ?_
    refine XS.isub X3.here hx rfl (hb hby d9_13) rfl ?_
    show Steps p.tables e below (T3.setTop (mkF m 14 #[vR o0, vI (Int32.ofNat mn), vI (Int32.ofNat cap)] [(.int ((Int32.ofNat mn) - (Int32.ofNat cap)))])) _
    rw [own_subN (by omega) (by omega)]
    refine XS.ifNo X3.here hx rfl (hb hby d9_14) rfl ((if0 _ _).trans (tlt ((own_ltI (i := 0) (by decide) (by omega)).mpr (by omega))).2.2.2) ?_
    show Steps p.tables e below (T3.setTop (mkF m 17 #[vR o0, vI (Int32.ofNat mn), vI (Int32.ofNat cap)] [])) _
    refine XS.aloadN X3.here hx rfl (hb hby d9_17) rfl rfl ?_
    refine XS.aloadN X3.here hx rfl (hb hby d9_18) rfl rfl ?_
    refine st4 _ ?_
    refine XS.aloadN X4.here hx rfl (hb hby d9_22) rfl rfl ?_
    show Steps p.tables e below (T4.setTop (mkF m 23 #[vR o0, vI (Int32.ofNat mn), vI (Int32.ofNat cap)] [(.ref o0), (.ref vb), (.ref o0)])) _
    refine XS.iloadN X4.here hx rfl (hb hby d9_23) rfl ?_
    refine st5.trans ?_
    refine XS.aloadN X5.here hx rfl (hb hby d9_27) rfl rfl ?_
    refine st6 _ ?_
    show Steps p.tables e below (T6.setTop (mkF m 31 #[vR o0, vI (Int32.ofNat mn), vI (Int32.ofNat cap)] [(.int (0 : Int32)), (.int (Int32.ofNat r)), (.ref vb), (.ref o0)])) _
    refine XS.ishl X6.here hx rfl (hb hby d9_31) rfl ?_
    show Steps p.tables e below (T6.setTop (mkF m 32 #[vR o0, vI (Int32.ofNat mn), vI (Int32.ofNat cap)] [(.int ((Int32.ofNat r) <<< ((0 : Int32) &&& 31))), (.ref vb), (.ref o0)])) _
    rw [own_shl0]
    refine st7 _ ?_
    refine st10 _ ?_
    show Steps p.tables e below (T10.setTop (mkF m 38 #[vR o0, vI (Int32.ofNat mn), vI (Int32.ofNat cap)] [])) _
    exact X10.returnOut hx Bd.returns (hb hby d9_38) hr
  · show QBe Z o0 cap nb r f h0 n0 _ T10.heap _
    rw [e10]
    exact ⟨rfl, N10, K10, ca7, kc7, gc7, sc7, EB_11, FcB_12, FnB_13, Fw10, Gc7_14⟩
def QGb (Z : State) (a : Addr) (k : ClassId) (cap : Nat) (g : Nat → Nat) (h0 : Heap) (n0 : Nat) (v : Option Value) (h : Heap) (L : List Loc) : Prop := v = none ∧ Fr n0 L ∧ Keep h0 h [a] ∧ GA Z h a k .byte cap (fun i => .int (Int32.ofNat (g i)))
theorem d17_0 : decode jdk_42_method_147_code 0 = .ok (.aload_n 0, 1) := by decide +kernel
theorem d17_1 : decode jdk_42_method_147_code 1 = .ok (.invokevirtual 335, 3) := by decide +kernel
theorem d17_4 : decode jdk_42_method_147_code 4 = .ok (.iload_n 3, 1) := by decide +kernel
theorem d17_5 : decode jdk_42_method_147_code 5 = .ok (.if_icmp .ne 23, 3) := by decide +kernel
theorem d17_8 : decode jdk_42_method_147_code 8 = .ok (.aload_n 0, 1) := by decide +kernel
theorem d17_9 : decode jdk_42_method_147_code 9 = .ok (.getfield 9, 3) := by decide +kernel
theorem d17_12 : decode jdk_42_method_147_code 12 = .ok (.iconst 0, 1) := by decide +kernel
theorem d17_13 : decode jdk_42_method_147_code 13 = .ok (.aload_n 1, 1) := by decide +kernel
theorem d17_14 : decode jdk_42_method_147_code 14 = .ok (.iload_n 2, 1) := by decide +kernel
theorem d17_15 : decode jdk_42_method_147_code 15 = .ok (.iload_n 3, 1) := by decide +kernel
theorem d17_16 : decode jdk_42_method_147_code 16 = .ok (.ishl, 1) := by decide +kernel
theorem d17_17 : decode jdk_42_method_147_code 17 = .ok (.aload_n 0, 1) := by decide +kernel
theorem d17_18 : decode jdk_42_method_147_code 18 = .ok (.getfield 9, 3) := by decide +kernel
theorem d17_21 : decode jdk_42_method_147_code 21 = .ok (.arraylength, 1) := by decide +kernel
theorem d17_22 : decode jdk_42_method_147_code 22 = .ok (.invokestatic 212, 3) := by decide +kernel
theorem d17_25 : decode jdk_42_method_147_code 25 = .ok (.goto 18, 3) := by decide +kernel
theorem d17_43 : decode jdk_42_method_147_code 43 = .ok (.return_, 1) := by decide +kernel
theorem pn_17 : plainName "java/lang/String" = true := by first | (simp [plainName, overriddenIn]; done) | decide +kernel
theorem ef_sGb (m : MethodId) (x0 : Addr) (x1 : Addr) (x2 : Int32) (x3 : Int32) : entryFrame m #[(.ref x0), (.ref x1), (.int x2), (.int x3)] 4 = mkF m 0 #[.val (.ref x0), .val (.ref x1), .val (.int x2), .val (.int x3)] [] := by first | (simp [entryFrame, mkF, argsToLocals, Value.category]; done) | rfl
set_option maxRecDepth 65536 in
set_option maxHeartbeats 40000000 in
theorem sGb (l : Launch) (Z : State) (a0 : Array Value) (hw : ∀ d ∈ tables_1, d.before a0 Z = true) (ws : List Jvm.Cond) (o0 : Addr) (o1 : Addr) (v0 : Addr) (k0 : ClassId) (n : Nat) (g : Nat → Nat) (hn : n ≤ 400) (hg : Asc g) (kb : ClassId) (cap nb : Nat) (f : Nat → Nat) (hcap : cap ≤ 1000) (hnb : nb + n ≤ cap) (h0 : Heap) (n0 : Nat) (Z0 : n0 ≤ h0.size) (KZ : Keep Z.heap h0 []) (hz : Z.heap.size ≤ n0) (g_b : n0 ≤ o1) (R_s : SB Z h0 o0 v0 k0 n (fun i => Int32.ofNat (g i))) (V_b : GA Z h0 o1 kb .byte cap (fun i => .int (Int32.ofNat (f i)))) (cs : Int32) (hcs : ¬ cs = (0 : Int32)) (S_Cz : Sta Z Z.heap "java/lang/String" "COMPACT_STRINGS" "Z" (.int cs)) :
    MetFree l (⟨"java/lang/String", "getBytes", "([BIB)V"⟩ : MethodName) (head1 (Jvm.Cond.code (⟨"java/lang/String", "getBytes", "([BIB)V"⟩ : MethodName) jdk_42_method_147_code 4 none :: ws) ({ frames := 1, cells := 0, slots := 0, locals := 60 } : Room)) (fun a U => a = #[(.ref o0), (.ref o1), (.int (Int32.ofNat nb)), (.int (0 : Int32))] ∧ Z.Warmed39 U.vm ∧ U.heap = h0) (fun _ _ _ _ _ => True) (fun _ U o U' => ∃ v L, o = .returned v ∧ QGb Z o1 kb cap (fun j => if nb ≤ j ∧ j < nb + n then g (j - nb) else f j) h0 n0 v U'.heap L ∧ FrameEnd U o U' L ({ frames := 1, cells := 0, slots := 0, locals := 60 } : Room).cells ({ frames := 1, cells := 0, slots := 0, locals := 60 } : Room).slots) := by
  refine MetFree.of_bodySF (plainFor_of_name pn_17) hisR ?_
  intro p e s m args below meth c s₁ Bd hml0 hP hK
  obtain ⟨rfl, hZ, hh⟩ := hP
  have hx := Bd.exec
  have hby := Bd.bytes
  have hml : c.maxLocals = 4 := hml0
  have hown : s.vm.findClass "java/lang/String" = some m.cls := findClass_of_methodNamed Bd.named
  have hnm := (name_of_methodNamed Bd.named Bd.method).1
  have X0 : Stand p l e ({ frames := 1, cells := 0, slots := 0, locals := 60 } : Room) s m #[(.ref o0), (.ref o1), (.int (Int32.ofNat nb)), (.int (0 : Int32))] below meth c s₁ [] 0 0 := Stand.of_body Bd
  have e0 : s₁.heap = h0 := by rw [← hh, Bd.state]; rfl
  have N0 := Fr.nil n0
  have pre0 : ∀ t, Steps p.tables e below (s₁.setTop (mkF m 0 #[vR o0, vR o1, vI (Int32.ofNat nb), vI (0 : Int32)] [])) t → Steps p.tables e below (s₁.setTop (entryFrame m #[(.ref o0), (.ref o1), (.int (Int32.ofNat nb)), (.int (0 : Int32))] 4)) t := fun t k => castTop (ef_sGb m o0 o1 (Int32.ofNat nb) (0 : Int32)) k
  have S_C := own_sta_keep S_Cz KZ all0
  obtain ⟨E, Fc, Fv, Va⟩ := id R_s
  obtain ⟨cq1, kq1, q1a, q1b, q1c⟩ := isOf hZ e0 E
  obtain ⟨_, _, ⟨T1, L1, k1, n1⟩, -, X1, ⟨Lc1, hQ1, l1, y1, z1⟩, st1⟩ := X0.virtualBack hx (y := (⟨"java/lang/String", "coder", "()B"⟩ : MethodName)) (z := (⟨"java/lang/String", "coder", "()B"⟩ : MethodName)) hown (mvT hZ (wd hw 54 rfl)) (mvT hZ (wd hw 55 rfl)) (notFace_of_selects (args := #[]) (mvT hZ (wd hw 57 rfl))) (mvT hZ (wd hw 57 rfl)) (mvT hZ (wd hw 56 rfl)) (by decide) (backOf (W := 0) (rCod l Z a0 hw [] o0 h0 n0 Z0 KZ hz cs hcs S_Cz Fc) hZ (wd hw 58 rfl) (wd hw 26 rfl) (by decide) (by decide)) q1a q1c (g := (mkF m 1 #[vR o0, vR o1, vI (Int32.ofNat nb), vI (0 : Int32)] [(.ref o0)])) rfl (by rw [hml]; rfl) (Steps.refl _) (argsL := []) (rest := []) (lenOf pd___B rfl) rfl (by show 2 * 0 + _ ≤ _; exact Nat.le_of_eq rfl) (hb hby d17_1) (fun _ _ => ⟨rfl, e0, (by decide : 0 + 0 ≤ _), (by decide : 0 + 0 ≤ _)⟩)
  dsimp only [Pt.U, Pt.locs, Pt.cells, Pt.slots] at X1 l1 y1 z1 st1 hQ1
  rw [l1, y1, z1] at X1
  obtain ⟨rfl, N1q, e1⟩ := hQ1
  have N1 := Fr.app N0 N1q
  obtain ⟨T2, X2, e2, st2⟩ := getF X1 hx hZ hown (host := "") (Or.inl (wd hw 53 rfl)) Via.refl e1 Fv (g := (mkF m 9 #[vR o0, vR o1, vI (Int32.ofNat nb), vI (0 : Int32)] [(.ref o0)])) rfl rfl (hb hby d17_9)
  obtain ⟨T3, X3, e3, st3⟩ := getF X2 hx hZ hown (host := "") (Or.inl (wd hw 53 rfl)) Via.refl e2 Fv (g := (mkF m 18 #[vR o0, vR o1, vI (Int32.ofNat nb), vI (0 : Int32)] [(.ref o0), (.int (Int32.ofNat nb)), (.ref o1), (.int (0 : Int32)), (.ref v0)])) rfl rfl (hb hby d17_18)
  obtain ⟨cl4, Ar4, -, Sa4, -⟩ := id Va
  obtain ⟨T5, h5, X5, e5, K5c, z5c, G5, st5⟩ := own_acopy X3 hx hZ hown (wd hw 110 rfl) (wd hw 93 rfl) (wd hw 91 rfl) (wd hw 92 rfl) e3 (f := g) (g := f) Va V_b hg (o := 0) (q := nb) (n := n) (by omega) (by omega) (by omega) (by omega) (g0 := (mkF m 22 #[vR o0, vR o1, vI (Int32.ofNat nb), vI (0 : Int32)] [(.int (Int32.ofNat n)), (.int (Int32.ofNat nb)), (.ref o1), (.int (0 : Int32)), (.ref v0)])) rfl (by rw [hml]; rfl) (rest := []) rfl (hb hby d17_22) (by decide) (W := 0) (by show 2 * 0 + _ ≤ _; exact Nat.le_of_eq rfl) (by decide)
  have Zs5 : n0 ≤ h5.size := Nat.le_trans Z0 K5c.1
  have Kk5 : Keep h0 h5 [o1] := (Keep.refl h0 [o1]).trans K5c (allS (Or.inl (List.mem_of_getElem? (i := 0) rfl)) all0)
  have N5 := Fr.app N1 (own_frc (q := nb) (n := n) g_b)
  obtain ⟨fs, hr, hrun, hended, hW, hsame⟩ := X5.leave (v := none) (fun _ => rfl)
  refine ⟨_, _, pre0 _ ?_, hrun, hended, _, _, rfl, ?_, ⟨_, rfl⟩, hW, hsame.mono (by decide) (by decide)⟩
  · skip
    refine XS.aloadN X0.here hx rfl (hb hby d17_0) rfl rfl ?_
    refine st1.trans ?_
    refine XS.iloadN X1.here hx rfl (hb hby d17_4) rfl ?_
    show Steps p.tables e below (T1.setTop (mkF m 5 #[vR o0, vR o1, vI (Int32.ofNat nb), vI (0 : Int32)] [(.int (0 : Int32)), (.int (0 : Int32))])) _
    refine XS.icmpNo X1.here hx rfl (hb hby d17_5) rfl (teq (by decide : (0 : Int32) = (0 : Int32))).2 ?_
    refine XS.aloadN X1.here hx rfl (hb hby d17_8) rfl rfl ?_
    refine st2 _ ?_
    refine XS.iconst X2.here hx rfl (hb hby d17_12) ?_
    show Steps p.tables e below (T2.setTop (mkF m 13 #[vR o0, vR o1, vI (Int32.ofNat nb), vI (0 : Int32)] [(.int (0 : Int32)), (.ref v0)])) _
    refine XS.aloadN X2.here hx rfl (hb hby d17_13) rfl rfl ?_
    refine XS.iloadN X2.here hx rfl (hb hby d17_14) rfl ?_
    refine XS.iloadN X2.here hx rfl (hb hby d17_15) rfl ?_
    refine XS.ishl X2.here hx rfl (hb hby d17_16) rfl ?_
    show Steps p.tables e below (T2.setTop (mkF m 17 #[vR o0, vR o1, vI (Int32.ofNat nb), vI (0 : Int32)] [(.int ((Int32.ofNat nb) <<< ((0 : Int32) &&& 31))), (.ref o1), (.int (0 : Int32)), (.ref v0)])) _
    rw [own_shl0]
    show Steps p.tables e below (T2.setTop (mkF m 17 #[vR o0, vR o1, vI (Int32.ofNat nb), vI (0 : Int32)] [(.int (Int32.ofNat nb)), (.ref o1), (.int (0 : Int32)), (.ref v0)])) _
    refine XS.aloadN X2.here hx rfl (hb hby d17_17) rfl rfl ?_
    refine st3 _ ?_
    refine X3.arraylength hx (by rw [e3]; exact Ar4.1) (State.isArrayOf_alike hZ.alike Ar4.2.1) (g := (mkF m 21 #[vR o0, vR o1, vI (Int32.ofNat nb), vI (0 : Int32)] [(.ref v0), (.int (Int32.ofNat nb)), (.ref o1), (.int (0 : Int32)), (.ref v0)])) rfl rfl (hb hby d17_21) _ ?_
    rw [own_len Sa4]
    show Steps p.tables e below (T3.setTop (mkF m 22 #[vR o0, vR o1, vI (Int32.ofNat nb), vI (0 : Int32)] [(.int (Int32.ofNat n)), (.int (Int32.ofNat nb)), (.ref o1), (.int (0 : Int32)), (.ref v0)])) _
    refine st5 _ ?_
    refine XS.goto X5.here hx rfl (pc0 := 25) (pc' := 43) rfl (hb hby d17_25) (by decide) (by decide) ?_
    show Steps p.tables e below (T5.setTop (mkF m 43 #[vR o0, vR o1, vI (Int32.ofNat nb), vI (0 : Int32)] [])) _
    exact X5.returnOut hx Bd.returns (hb hby d17_43) hr
  · show QGb Z o1 kb cap (fun j => if nb ≤ j ∧ j < nb + n then g (j - nb) else f j) h0 n0 _ T5.heap _
    rw [e5]
    exact ⟨rfl, N5, Kk5, (G5).eqv fun j _ => by show Value.int (Int32.ofNat (if nb ≤ j ∧ j < nb + n then g (0 + (j - nb)) else f j)) = _; rw [Nat.zero_add]⟩
theorem d16_0 : decode jdk_68_method_71_code 0 = .ok (.getstatic 18, 3) := by decide +kernel
theorem d16_3 : decode jdk_68_method_71_code 3 = .ok (.ifCond .eq 18, 3) := by decide +kernel
theorem d16_6 : decode jdk_68_method_71_code 6 = .ok (.aload_n 0, 1) := by decide +kernel
theorem d16_7 : decode jdk_68_method_71_code 7 = .ok (.getfield 22, 3) := by decide +kernel
theorem d16_10 : decode jdk_68_method_71_code 10 = .ok (.aload_n 1, 1) := by decide +kernel
theorem d16_11 : decode jdk_68_method_71_code 11 = .ok (.invokevirtual 40, 3) := by decide +kernel
theorem d16_14 : decode jdk_68_method_71_code 14 = .ok (.if_icmp .eq 7, 3) := by decide +kernel
theorem d16_21 : decode jdk_68_method_71_code 21 = .ok (.return_, 1) := by decide +kernel
theorem pn_16 : plainName "java/lang/AbstractStringBuilder" = true := by first | (simp [plainName, overriddenIn]; done) | decide +kernel
theorem ef_bInf (m : MethodId) (x0 : Addr) (x1 : Addr) : entryFrame m #[(.ref x0), (.ref x1)] 2 = mkF m 0 #[.val (.ref x0), .val (.ref x1)] [] := by first | (simp [entryFrame, mkF, argsToLocals, Value.category]; done) | rfl
set_option maxRecDepth 65536 in
set_option maxHeartbeats 40000000 in
theorem bInf (l : Launch) (Z : State) (a0 : Array Value) (hw : ∀ d ∈ tables_1, d.before a0 Z = true) (ws : List Jvm.Cond) (o0 : Addr) (o1 : Addr) (vb : Addr) (kb : ClassId) (cap nb : Nat) (f : Nat → Nat) (hcap : cap ≤ 1000) (hnb : nb ≤ cap) (hf : Asc f) (h0 : Heap) (n0 : Nat) (Z0 : n0 ≤ h0.size) (KZ : Keep Z.heap h0 []) (hz : Z.heap.size ≤ n0) (R_b : BD Z h0 o0 vb kb cap nb f) (v0 : Addr) (k0 : ClassId) (n : Nat) (g : Nat → Nat) (hn : n ≤ 400) (hg : Asc g) (R_s : SB Z h0 o1 v0 k0 n (fun i => Int32.ofNat (g i))) (cs : Int32) (hcs : ¬ cs = (0 : Int32)) (S_Cz : Sta Z Z.heap "java/lang/String" "COMPACT_STRINGS" "Z" (.int cs)) :
    MetFree l (⟨"java/lang/AbstractStringBuilder", "inflateIfNeededFor", "(Ljava/lang/String;)V"⟩ : MethodName) (head1 (Jvm.Cond.code (⟨"java/lang/AbstractStringBuilder", "inflateIfNeededFor", "(Ljava/lang/String;)V"⟩ : MethodName) jdk_68_method_71_code 2 none :: ws) ({ frames := 1, cells := 0, slots := 0, locals := 13 } : Room)) (fun a U => a = #[(.ref o0), (.ref o1)] ∧ Z.Warmed39 U.vm ∧ U.heap = h0) (fun _ _ _ _ _ => True) (fun _ U o U' => ∃ v L, o = .returned v ∧ QV h0 n0 v U'.heap L ∧ FrameEnd U o U' L ({ frames := 1, cells := 0, slots := 0, locals := 13 } : Room).cells ({ frames := 1, cells := 0, slots := 0, locals := 13 } : Room).slots) := by
  refine MetFree.of_bodySF (plainFor_of_name pn_16) hisR ?_
  intro p e s m args below meth c s₁ Bd hml0 hP hK
  obtain ⟨rfl, hZ, hh⟩ := hP
  have hx := Bd.exec
  have hby := Bd.bytes
  have hml : c.maxLocals = 2 := hml0
  have hown : s.vm.findClass "java/lang/AbstractStringBuilder" = some m.cls := findClass_of_methodNamed Bd.named
  have hnm := (name_of_methodNamed Bd.named Bd.method).1
  have X0 : Stand p l e ({ frames := 1, cells := 0, slots := 0, locals := 13 } : Room) s m #[(.ref o0), (.ref o1)] below meth c s₁ [] 0 0 := Stand.of_body Bd
  have e0 : s₁.heap = h0 := by rw [← hh, Bd.state]; rfl
  have N0 := Fr.nil n0
  have pre0 : ∀ t, Steps p.tables e below (s₁.setTop (mkF m 0 #[vR o0, vR o1] [])) t → Steps p.tables e below (s₁.setTop (entryFrame m #[(.ref o0), (.ref o1)] 2)) t := fun t k => castTop (ef_bInf m o0 o1) k
  have S_C := own_sta_keep S_Cz KZ all0
  obtain ⟨EB, FcB, FnB, FvB, VB⟩ := id R_b
  obtain ⟨E, Fc, Fv, Va⟩ := id R_s
  obtain ⟨T1, X1, e1, st1⟩ := getS2 X0 hx hZ hown (host := "") (Or.inl (wd hw 25 rfl)) Via.refl e0 S_C (g := (mkF m 0 #[vR o0, vR o1] [])) rfl (hb hby d16_0)
  obtain ⟨T2, X2, e2, st2⟩ := getF X1 hx hZ hown (host := "") (Or.inl (wd hw 30 rfl)) Via.refl e1 FcB (g := (mkF m 7 #[vR o0, vR o1] [(.ref o0)])) rfl rfl (hb hby d16_7)
  obtain ⟨cq3, kq3, q3a, q3b, q3c⟩ := isOf hZ e2 E
  obtain ⟨_, _, ⟨T3, L3, k3, n3⟩, -, X3, ⟨Lc3, hQ3, l3, y3, z3⟩, st3⟩ := X2.virtualBack hx (y := (⟨"java/lang/String", "coder", "()B"⟩ : MethodName)) (z := (⟨"java/lang/String", "coder", "()B"⟩ : MethodName)) hown (mvT hZ (wd hw 104 rfl)) (mvT hZ (wd hw 55 rfl)) (notFace_of_selects (args := #[]) (mvT hZ (wd hw 57 rfl))) (mvT hZ (wd hw 57 rfl)) (mvT hZ (wd hw 56 rfl)) (by decide) (backOf (W := 1) (rCod l Z a0 hw [] o1 h0 n0 Z0 KZ hz cs hcs S_Cz Fc) hZ (wd hw 58 rfl) (wd hw 26 rfl) (by decide) (by decide)) q3a q3c (g := (mkF m 11 #[vR o0, vR o1] [(.ref o1), (.int (0 : Int32))])) rfl (by rw [hml]; rfl) (Steps.refl _) (argsL := []) (rest := [(.int (0 : Int32))]) (lenOf pd___B rfl) rfl (by show 2 * 0 + _ ≤ _; exact Nat.le_of_eq rfl) (hb hby d16_11) (fun _ _ => ⟨rfl, e2, (by decide : 0 + 0 ≤ _), (by decide : 0 + 0 ≤ _)⟩)
  dsimp only [Pt.U, Pt.locs, Pt.cells, Pt.slots] at X3 l3 y3 z3 st3 hQ3
  rw [l3, y3, z3] at X3
  obtain ⟨rfl, N3q, e3⟩ := hQ3
  have N3 := Fr.app N0 N3q
  obtain ⟨fs, hr, hrun, hended, hW, hsame⟩ := X3.leave (v := none) (fun _ => rfl)
  refine ⟨_, _, pre0 _ ?_, hrun, hended, _, _, rfl, ?_, ⟨_, rfl⟩, hW, hsame.mono (by decide) (by decide)⟩
  · skip
    refine st1 _ ?_
    refine XS.ifNo X1.here hx rfl (hb hby d16_3) rfl ((if0 _ _).trans (feq hcs).1) ?_
    refine XS.aloadN X1.here hx rfl (hb hby d16_6) rfl rfl ?_
    show Steps p.tables e below (T1.setTop (mkF m 7 #[vR o0, vR o1] [(.ref o0)])) _
    refine st2 _ ?_
    refine XS.aloadN X2.here hx rfl (hb hby d16_10) rfl rfl ?_
    refine st3.trans ?_
    refine XS.icmpYes X3.here hx rfl (pc0 := 14) (pc' := 21) rfl (hb hby d16_14) rfl (teq (by decide : (0 : Int32) = (0 : Int32))).1 (by decide) (by decide) ?_
    show Steps p.tables e below (T3.setTop (mkF m 21 #[vR o0, vR o1] [])) _
    exact X3.returnOut hx Bd.returns (hb hby d16_21) hr
  · show QV h0 n0 _ T3.heap _
    rw [e3]
    exact ⟨(by first | rfl | simp []), N3, rfl⟩
def QBp (Z : State) (o va : Addr) (k : ClassId) (cap nb : Nat) (g : Nat → Nat) (h0 : Heap) (n0 : Nat) (v : Option Value) (h : Heap) (L : List Loc) : Prop := v = none ∧ Fr n0 L ∧ Keep h0 h [va] ∧ BD Z h o va k cap nb g
theorem d15_0 : decode jdk_68_method_73_code 0 = .ok (.aload_n 0, 1) := by decide +kernel
theorem d15_1 : decode jdk_68_method_73_code 1 = .ok (.aload_n 2, 1) := by decide +kernel
theorem d15_2 : decode jdk_68_method_73_code 2 = .ok (.invokevirtual 397, 3) := by decide +kernel
theorem pd__Ljava_lang_String__V : parseMethodDescriptor "(Ljava/lang/String;)V" = some ⟨[(.object "java/lang/String")], none⟩ := by decide +kernel
theorem d15_5 : decode jdk_68_method_73_code 5 = .ok (.aload_n 2, 1) := by decide +kernel
theorem d15_6 : decode jdk_68_method_73_code 6 = .ok (.aload_n 0, 1) := by decide +kernel
theorem d15_7 : decode jdk_68_method_73_code 7 = .ok (.getfield 15, 3) := by decide +kernel
theorem d15_10 : decode jdk_68_method_73_code 10 = .ok (.iload_n 1, 1) := by decide +kernel
theorem d15_11 : decode jdk_68_method_73_code 11 = .ok (.aload_n 0, 1) := by decide +kernel
theorem d15_12 : decode jdk_68_method_73_code 12 = .ok (.getfield 22, 3) := by decide +kernel
theorem d15_15 : decode jdk_68_method_73_code 15 = .ok (.invokevirtual 399, 3) := by decide +kernel
theorem pd___BIB_V : parseMethodDescriptor "([BIB)V" = some ⟨[(.array .byte), .int, .byte], none⟩ := by decide +kernel
theorem d15_18 : decode jdk_68_method_73_code 18 = .ok (.return_, 1) := by decide +kernel
theorem pn_15 : plainName "java/lang/AbstractStringBuilder" = true := by first | (simp [plainName, overriddenIn]; done) | decide +kernel
theorem ef_bPut (m : MethodId) (x0 : Addr) (x1 : Int32) (x2 : Addr) : entryFrame m #[(.ref x0), (.int x1), (.ref x2)] 3 = mkF m 0 #[.val (.ref x0), .val (.int x1), .val (.ref x2)] [] := by first | (simp [entryFrame, mkF, argsToLocals, Value.category]; done) | rfl
set_option maxRecDepth 65536 in
set_option maxHeartbeats 40000000 in
theorem bPut (l : Launch) (Z : State) (a0 : Array Value) (hw : ∀ d ∈ tables_1, d.before a0 Z = true) (ws : List Jvm.Cond) (o0 : Addr) (o2 : Addr) (vb : Addr) (kb : ClassId) (cap nb : Nat) (f : Nat → Nat) (hcap : cap ≤ 1000) (hnb : nb ≤ cap) (hf : Asc f) (h0 : Heap) (n0 : Nat) (Z0 : n0 ≤ h0.size) (KZ : Keep Z.heap h0 []) (hz : Z.heap.size ≤ n0) (R_b : BD Z h0 o0 vb kb cap nb f) (v0 : Addr) (k0 : ClassId) (n : Nat) (g : Nat → Nat) (hn : n ≤ 400) (hg : Asc g) (hfit : nb + n ≤ cap) (R_s : SB Z h0 o2 v0 k0 n (fun i => Int32.ofNat (g i))) (g_b : n0 ≤ vb) (q1 : o0 ≠ vb) (q2 : o2 ≠ vb) (q3 : v0 ≠ vb) (cs : Int32) (hcs : ¬ cs = (0 : Int32)) (S_Cz : Sta Z Z.heap "java/lang/String" "COMPACT_STRINGS" "Z" (.int cs)) :
    MetFree l (⟨"java/lang/AbstractStringBuilder", "putStringAt", "(ILjava/lang/String;)V"⟩ : MethodName) (head1 (Jvm.Cond.code (⟨"java/lang/AbstractStringBuilder", "putStringAt", "(ILjava/lang/String;)V"⟩ : MethodName) jdk_68_method_73_code 3 none :: ws) ({ frames := 2, cells := 0, slots := 0, locals := 80 } : Room)) (fun a U => a = #[(.ref o0), (.int (Int32.ofNat nb)), (.ref o2)] ∧ Z.Warmed39 U.vm ∧ U.heap = h0) (fun _ _ _ _ _ => True) (fun _ U o U' => ∃ v L, o = .returned v ∧ QBp Z o0 vb kb cap nb (fun j => if nb ≤ j ∧ j < nb + n then g (j - nb) else f j) h0 n0 v U'.heap L ∧ FrameEnd U o U' L ({ frames := 2, cells := 0, slots := 0, locals := 80 } : Room).cells ({ frames := 2, cells := 0, slots := 0, locals := 80 } : Room).slots) := by
  refine MetFree.of_bodySF (plainFor_of_name pn_15) hisR ?_
  intro p e s m args below meth c s₁ Bd hml0 hP hK
  obtain ⟨rfl, hZ, hh⟩ := hP
  have hx := Bd.exec
  have hby := Bd.bytes
  have hml : c.maxLocals = 3 := hml0
  have hown : s.vm.findClass "java/lang/AbstractStringBuilder" = some m.cls := findClass_of_methodNamed Bd.named
  have hnm := (name_of_methodNamed Bd.named Bd.method).1
  have X0 : Stand p l e ({ frames := 2, cells := 0, slots := 0, locals := 80 } : Room) s m #[(.ref o0), (.int (Int32.ofNat nb)), (.ref o2)] below meth c s₁ [] 0 0 := Stand.of_body Bd
  have e0 : s₁.heap = h0 := by rw [← hh, Bd.state]; rfl
  have N0 := Fr.nil n0
  have pre0 : ∀ t, Steps p.tables e below (s₁.setTop (mkF m 0 #[vR o0, vI (Int32.ofNat nb), vR o2] [])) t → Steps p.tables e below (s₁.setTop (entryFrame m #[(.ref o0), (.int (Int32.ofNat nb)), (.ref o2)] 3)) t := fun t k => castTop (ef_bPut m o0 (Int32.ofNat nb) o2) k
  obtain ⟨EB, FcB, FnB, FvB, VB⟩ := id R_b
  obtain ⟨E, Fc, Fv, Va⟩ := id R_s
  obtain ⟨cq1, kq1, q1a, q1b, q1c⟩ := isOf hZ e0 EB
  obtain ⟨_, _, ⟨T1, L1, k1, n1⟩, -, X1, ⟨Lc1, hQ1, l1, y1, z1⟩, st1⟩ := X0.virtualBack hx (y := (⟨"java/lang/AbstractStringBuilder", "inflateIfNeededFor", "(Ljava/lang/String;)V"⟩ : MethodName)) (z := (⟨"java/lang/AbstractStringBuilder", "inflateIfNeededFor", "(Ljava/lang/String;)V"⟩ : MethodName)) hown (mvT hZ (wd hw 99 rfl)) (mvT hZ (own_declares (wd hw 100 rfl) (wd hw 103 rfl))) (notFace_of_selects (args := #[]) (mvT hZ (wd hw 102 rfl))) (mvT hZ (wd hw 102 rfl)) (mvT hZ (wd hw 100 rfl)) (by decide) (backOf (W := 0) (bInf l Z a0 hw [] o0 o2 vb kb cap nb f hcap hnb hf h0 n0 Z0 KZ hz R_b v0 k0 n g hn hg R_s cs hcs S_Cz) hZ (wd hw 103 rfl) (wd hw 20 rfl) (by decide) (by decide)) q1a q1c (g := (mkF m 2 #[vR o0, vI (Int32.ofNat nb), vR o2] [(.ref o2), (.ref o0)])) rfl (by rw [hml]; rfl) (Steps.refl _) (argsL := [(.ref o2)]) (rest := []) (lenOf pd__Ljava_lang_String__V rfl) rfl (by show 2 * 0 + _ ≤ _; exact Nat.le_of_eq rfl) (hb hby d15_2) (fun _ _ => ⟨rfl, e0, (by decide : 0 + 0 ≤ _), (by decide : 0 + 0 ≤ _)⟩)
  dsimp only [Pt.U, Pt.locs, Pt.cells, Pt.slots] at X1 l1 y1 z1 st1 hQ1
  rw [l1, y1, z1] at X1
  obtain ⟨rfl, N1q, e1⟩ := hQ1
  have N1 := Fr.app N0 N1q
  obtain ⟨T2, X2, e2, st2⟩ := getF X1 hx hZ hown (host := "") (Or.inl (wd hw 28 rfl)) Via.refl e1 FvB (g := (mkF m 7 #[vR o0, vI (Int32.ofNat nb), vR o2] [(.ref o0), (.ref o2)])) rfl rfl (hb hby d15_7)
  obtain ⟨T3, X3, e3, st3⟩ := getF X2 hx hZ hown (host := "") (Or.inl (wd hw 30 rfl)) Via.refl e2 FcB (g := (mkF m 12 #[vR o0, vI (Int32.ofNat nb), vR o2] [(.ref o0), (.int (Int32.ofNat nb)), (.ref vb), (.ref o2)])) rfl rfl (hb hby d15_12)
  obtain ⟨cq4, kq4, q4a, q4b, q4c⟩ := isOf hZ e3 E
  obtain ⟨_, _, ⟨T4, L4, k4, n4⟩, -, X4, ⟨Lc4, hQ4, l4, y4, z4⟩, st4⟩ := X3.virtualBack hx (y := (⟨"java/lang/String", "getBytes", "([BIB)V"⟩ : MethodName)) (z := (⟨"java/lang/String", "getBytes", "([BIB)V"⟩ : MethodName)) hown (mvT hZ (wd hw 105 rfl)) (mvT hZ (wd hw 106 rfl)) (notFace_of_selects (args := #[]) (mvT hZ (wd hw 108 rfl))) (mvT hZ (wd hw 108 rfl)) (mvT hZ (wd hw 107 rfl)) (by decide) (backOf (W := 0) (sGb l Z a0 hw [] o2 vb v0 k0 n g hn hg kb cap nb f hcap hfit h0 n0 Z0 KZ hz g_b R_s VB cs hcs S_Cz) hZ (wd hw 109 rfl) (wd hw 26 rfl) (by decide) (by decide)) q4a q4c (g := (mkF m 15 #[vR o0, vI (Int32.ofNat nb), vR o2] [(.int (0 : Int32)), (.int (Int32.ofNat nb)), (.ref vb), (.ref o2)])) rfl (by rw [hml]; rfl) (Steps.refl _) (argsL := [(.ref vb), (.int (Int32.ofNat nb)), (.int (0 : Int32))]) (rest := []) (lenOf pd___BIB_V rfl) rfl (by show 2 * 0 + _ ≤ _; exact Nat.le_of_eq rfl) (hb hby d15_15) (fun _ _ => ⟨rfl, e3, (by decide : 0 + 0 ≤ _), (by decide : 0 + 0 ≤ _)⟩)
  dsimp only [Pt.U, Pt.locs, Pt.cells, Pt.slots] at X4 l4 y4 z4 st4 hQ4
  rw [l4, y4, z4] at X4
  obtain ⟨rfl, N4q, Kp4, Gp4⟩ := hQ4
  have N4 := Fr.app N1 N4q
  have Zs4 : n0 ≤ T4.heap.size := Nat.le_trans Z0 Kp4.1
  have Kk4 : Keep h0 T4.heap [vb] := (Keep.refl h0 [vb]).trans Kp4 (allS (Or.inl (List.mem_of_getElem? (i := 0) rfl)) all0)
  have EB_5 := (EB.keep Kp4)
  have FcB_6 := (FcB.keep Kp4 (ninS q1 nin0))
  have FnB_7 := (FnB.keep Kp4 (ninS q1 nin0))
  have FvB_8 := (FvB.keep Kp4 (ninS q1 nin0))
  obtain ⟨fs, hr, hrun, hended, hW, hsame⟩ := X4.leave (v := none) (fun _ => rfl)
  refine ⟨_, _, pre0 _ ?_, hrun, hended, _, _, rfl, ?_, ⟨_, rfl⟩, hW, hsame.mono (by decide) (by decide)⟩
  · skip
    refine XS.aloadN X0.here hx rfl (hb hby d15_0) rfl rfl ?_
    refine XS.aloadN X0.here hx rfl (hb hby d15_1) rfl rfl ?_
    refine st1.trans ?_
    show Steps p.tables e below (T1.setTop (mkF m 5 #[vR o0, vI (Int32.ofNat nb), vR o2] [])) _
    refine XS.aloadN X1.here hx rfl (hb hby d15_5) rfl rfl ?_
    refine XS.aloadN X1.here hx rfl (hb hby d15_6) rfl rfl ?_
    refine st2 _ ?_
    refine XS.iloadN X2.here hx rfl (hb hby d15_10) rfl ?_
    show Steps p.tables e below (T2.setTop (mkF m 11 #[vR o0, vI (Int32.ofNat nb), vR o2] [(.int (Int32.ofNat nb)), (.ref vb), (.ref o2)])) _
    refine XS.aloadN X2.here hx rfl (hb hby d15_11) rfl rfl ?_
    refine st3 _ ?_
    refine st4.trans ?_
    show Steps p.tables e below (T4.setTop (mkF m 18 #[vR o0, vI (Int32.ofNat nb), vR o2] [])) _
    exact X4.returnOut hx Bd.returns (hb hby d15_18) hr
  · show QBp Z o0 vb kb cap nb (fun j => if nb ≤ j ∧ j < nb + n then g (j - nb) else f j) h0 n0 _ T4.heap _
    exact ⟨rfl, N4, Kk4, EB_5, FcB_6, FnB_7, FvB_8, Gp4⟩
open Jvm.Free.SBG (Ones Tens digLoop digLoop_at digLoop_facts wN negL digitsL Tbl) in
theorem own_out (g : Jvm.Free.SBG.GetCharsL.G) (h1 : Ones g.D1) (h2 : Tens g.D2) (hn : g.n ≤ 2 ^ 63) (hroom : digitsL g.n + Jvm.Free.SBG.GetCharsL.sgnL g.x ≤ g.idx) (hidx : g.idx ≤ g.A.slots.size) (j : Nat) :
    (Jvm.Free.SBG.GetCharsL.outCell g).slots[j]? = if g.idx - digitsL g.n ≤ j ∧ j < g.idx then some (.int (Int32.ofNat (48 + g.n / 10 ^ (g.idx - 1 - j) % 10))) else if g.x < 0 ∧ j = g.idx - digitsL g.n - 1 then some (.int 45) else g.A.slots[j]? := by
  obtain ⟨-, -, f3, f4⟩ := digLoop_facts g.D1 g.D2 10 g.A g.n g.idx
  have hd : wN 10 g.n = digitsL g.n := rfl
  obtain ⟨qA, qB⟩ := digLoop_at h1 h2 10 g.A g.n g.idx (Nat.lt_of_le_of_lt hn (by decide)) (by rw [hd]; omega) hidx
  rw [hd] at f4 qA qB
  have base : ∀ j, (digLoop g.D1 g.D2 10 g.A g.n g.idx).1.slots[j]? = if g.idx - digitsL g.n ≤ j ∧ j < g.idx then some (.int (Int32.ofNat (48 + g.n / 10 ^ (g.idx - 1 - j) % 10))) else g.A.slots[j]? := fun j => by
    by_cases e : g.idx - digitsL g.n ≤ j ∧ j < g.idx
    · rw [if_pos e]
      have := qA (g.idx - 1 - j) (by omega)
      rw [show g.idx - 1 - (g.idx - 1 - j) = j from by omega] at this; exact this
    · rw [if_neg e]; exact qB j (by omega)
  unfold Jvm.Free.SBG.GetCharsL.outCell
  by_cases hx : g.x < 0
  · have hs : Jvm.Free.SBG.GetCharsL.sgnL g.x = 1 := by simp [Jvm.Free.SBG.GetCharsL.sgnL, hx]
    rw [hs] at hroom
    rw [if_pos hx, f4]
    by_cases e : j = g.idx - digitsL g.n - 1
    · rw [if_neg (show ¬ (g.idx - digitsL g.n ≤ j ∧ j < g.idx) by omega), if_pos ⟨hx, e⟩, ← e, Jvm.Free.SBG.dgPutAt _ (by rw [f3]; omega)]; rfl
    · rw [Jvm.Free.SBG.dgPutNe _ (fun q => e q.symm), base j]
      by_cases e2 : g.idx - digitsL g.n ≤ j ∧ j < g.idx
      · rw [if_pos e2, if_pos e2]
      · rw [if_neg e2, if_neg e2, if_neg (fun q => e q.2)]
  · rw [if_neg hx, base j]
    by_cases e2 : g.idx - digitsL g.n ≤ j ∧ j < g.idx
    · rw [if_pos e2, if_pos e2]
    · rw [if_neg e2, if_neg e2, if_neg (fun q => hx q.1)]
theorem sgnle (xx : Int64) : Jvm.Free.SBG.GetCharsL.sgnL xx ≤ 1 := by unfold Jvm.Free.SBG.GetCharsL.sgnL; split <;> omega
theorem own_wN : ∀ (f n : Nat), n < 100 ^ (f + 1) → n < 10 ^ Jvm.Free.SBG.wN (f + 1) n ∧ (Jvm.Free.SBG.wN (f + 1) n = 1 ∨ 10 ^ (Jvm.Free.SBG.wN (f + 1) n - 1) ≤ n)
  | 0, n, h => by
    have h : n < 100 := by simpa using h
    simp only [Jvm.Free.SBG.wN, if_neg (show ¬ 100 ≤ n by omega)]
    by_cases e : 9 < n
    · rw [if_pos e]; exact ⟨by omega, Or.inr (by omega)⟩
    · rw [if_neg e]; exact ⟨by omega, Or.inl rfl⟩
  | f + 1, n, h => by
    rw [show Jvm.Free.SBG.wN (f + 1 + 1) n = if 100 ≤ n then 2 + Jvm.Free.SBG.wN (f + 1) (n / 100) else if 9 < n then 2 else 1 from rfl]
    by_cases e1 : 100 ≤ n
    · rw [if_pos e1]
      have h' : n / 100 < 100 ^ (f + 1) := Nat.div_lt_of_lt_mul (by rw [Nat.pow_succ, Nat.mul_comm] at h; exact h)
      obtain ⟨q1, q2⟩ := own_wN f (n / 100) h'
      generalize Jvm.Free.SBG.wN (f + 1) (n / 100) = d at q1 q2
      refine ⟨?_, Or.inr ?_⟩
      · rw [show 2 + d = d + 2 from by omega, Nat.pow_add]; show n < 10 ^ d * 100; omega
      · rcases q2 with q2 | q2
        · subst q2; show 10 ^ 2 ≤ n; omega
        · have hd : 0 < d := by
            rcases Nat.eq_zero_or_pos d with z | z
            · subst z; simp at q1; omega
            · exact z
          rw [show 2 + d - 1 = (d - 1) + 2 from by omega, Nat.pow_add]; show 10 ^ (d - 1) * 100 ≤ n; omega
    · rw [if_neg e1]
      by_cases e : 9 < n
      · rw [if_pos e]; exact ⟨by omega, Or.inr (by omega)⟩
      · rw [if_neg e]; exact ⟨by omega, Or.inl rfl⟩
theorem own_digits {n : Nat} (h : n ≤ 2 ^ 63) : n < 10 ^ Jvm.Free.SBG.digitsL n ∧ (Jvm.Free.SBG.digitsL n = 1 ∨ 10 ^ (Jvm.Free.SBG.digitsL n - 1) ≤ n) := own_wN 9 n (Nat.lt_of_le_of_lt h (by decide))
theorem own_digU {n d k : Nat} (h : n < 10 ^ d) (h' : d = 1 ∨ 10 ^ (d - 1) ≤ n) (hd : 1 ≤ d) (hk : 1 ≤ k) (u : n < 10 ^ k) (u' : k = 1 ∨ 10 ^ (k - 1) ≤ n) : d = k := by
  have mono : ∀ {a b : Nat}, a ≤ b → 10 ^ a ≤ 10 ^ b := fun h => Nat.pow_le_pow_right (by decide) h
  rcases Nat.lt_trichotomy d k with q | q | q
  · rcases u' with u' | u'
    · omega
    · have := mono (show d ≤ k - 1 by omega); omega
  · exact q
  · rcases h' with h' | h'
    · omega
    · have := mono (show k ≤ d - 1 by omega); omega
/-- two numbers of d digits that agree in each digit -/
theorem own_dinj : ∀ (d n n' : Nat), n < 10 ^ d → n' < 10 ^ d → (∀ i, i < d → n / 10 ^ i % 10 = n' / 10 ^ i % 10) → n = n'
  | 0, n, n', h, h', _ => by simp at h h'; omega
  | d + 1, n, n', h, h', q => by
    have q0 := q 0 (by omega)
    simp at q0
    have := own_dinj d (n / 10) (n' / 10) (by rw [Nat.pow_succ] at h; omega) (by rw [Nat.pow_succ] at h'; omega) (fun i hi => by
      have := q (i + 1) (by omega)
      rw [Nat.pow_succ, Nat.mul_comm, ← Nat.div_div_eq_div_mul, ← Nat.div_div_eq_div_mul] at this; exact this)
    omega
theorem own_ss_tab {Z s : State} {a0 args : Array Value} (hZ : Z.Warmed39 s.vm) (hw : ∀ d ∈ tables_1, d.before a0 Z = true) : Jvm.Free.SBG.StrSizeL.tab.before args s = true := by
  simp only [Jvm.Free.SBG.StrSizeL.tab, Cond.before_and, Bool.and_eq_true]
  exact ⟨mvT hZ (wd hw 123 rfl), mvT hZ (wd hw 124 rfl), mvT hZ (wd hw 317 rfl)⟩
theorem own_gc_tab {Z s : State} {a0 args : Array Value} (hZ : Z.Warmed39 s.vm) (hw : ∀ d ∈ tables_1, d.before a0 Z = true) : Jvm.Free.SBG.GetCharsL.tab.before args s = true := by
  simp only [Jvm.Free.SBG.GetCharsL.tab, Cond.before_and, Bool.and_eq_true]
  exact ⟨mvT hZ (wd hw 132 rfl), mvT hZ (wd hw 134 rfl), mvT hZ (wd hw 318 rfl), mvT hZ (wd hw 133 rfl), mvT hZ (wd hw 319 rfl)⟩
/-- what getChars asks, at any state whose tables are like Z's and whose heap is h -/
theorem own_gcP {Z U : State} {h : Heap} {va st d1 d2 : Addr} {cA D1 D2 : Cell} {x : Int64} {n idx r : Nat} (hal : Z.vm.Alike U.vm) (hh : U.heap = h) (KZ : Keep Z.heap h []) (A : Arr Z h va cA .byte) (S : cA.slots.size = r) (hr : r < 2147483648) (hi : idx ≤ r) (hroom : Jvm.Free.SBG.digitsL n + Jvm.Free.SBG.GetCharsL.sgnL x ≤ idx) (hn : n ≤ 2 ^ 63) (hx : (if x < 0 then x else -x) = Jvm.Free.SBG.negL n)
    (t1 : Jvm.Free.SBG.Tbl Z "DigitOnes" st d1 D1) (t2 : Jvm.Free.SBG.Tbl Z "DigitTens" st d2 D2) (hv : Z.heap.size ≤ va) :
    Jvm.Free.SBG.GetCharsL.P ⟨x, n, idx, va, cA, st, d1, D1, d2, D2⟩ #[.long x, .int (Int32.ofNat idx), .ref va] U := by
  have k0 : ∀ (y : Addr) (c : Cell), Z.heap[y]? = some c → U.heap[y]? = some c := fun y c q => by rw [hh]; exact KZ.2.1 y c q nin0
  have ltz : ∀ {y : Addr} {c : Cell}, Z.heap[y]? = some c → va ≠ y := fun q e => by
    subst e
    exact absurd (Array.getElem?_eq_some_iff.mp q).1 (Nat.not_lt.mpr hv)
  obtain ⟨cf, i, kk, f, cS, a1, a2, a3, a4, a5, a6, a7, a8, a9, a10, a11, a12⟩ := id t1
  obtain ⟨cf', i', kk', f', cS', b1, b2, b3, b4, b5, b6, b7, b8, b9, b10, b11, b12⟩ := id t2
  exact ⟨rfl, by rw [hh]; exact A.1, State.isArrayOf_alike hal A.2.1, A.2.2, by show cA.slots.size < 2 ^ 31; rw [S]; exact hr, by show idx ≤ cA.slots.size; rw [S]; exact hi, hroom, hn, hx, t1.move hal (fun c q => k0 _ _ q) (k0 _ _ a8), t2.move hal (fun c q => k0 _ _ q) (k0 _ _ b8), ltz a5, ltz a8, ltz b8⟩
/-- the array behind getChars -/
def gcF (x : Int64) (n idx : Nat) (f : Nat → Nat) (j : Nat) : Nat := if idx - Jvm.Free.SBG.digitsL n ≤ j ∧ j < idx then 48 + n / 10 ^ (idx - 1 - j) % 10 else if x < 0 ∧ j = idx - Jvm.Free.SBG.digitsL n - 1 then 45 else f j
theorem gcF_asc {x : Int64} {n idx : Nat} {f : Nat → Nat} (hf : Asc f) : Asc (gcF x n idx f) := fun j => by
  unfold gcF; split
  · omega
  · split
    · omega
    · exact hf j
theorem own_gcQ {Z : State} {h h' : Heap} {va st d1 d2 : Addr} {cA D1 D2 : Cell} {k : ClassId} {x : Int64} {n idx r : Nat} {f : Nat → Nat} (A : Arr Z h va cA .byte) (qA : cA.cls = k) (S : cA.slots.size = r) (H : ∀ i, i < r → cA.slots[i]? = some (.int (Int32.ofNat (f i)))) (hf : Asc f) (hi : idx ≤ r) (hroom : Jvm.Free.SBG.digitsL n + Jvm.Free.SBG.GetCharsL.sgnL x ≤ idx) (hn : n ≤ 2 ^ 63)
    (o1 : Jvm.Free.SBG.Ones D1) (o2 : Jvm.Free.SBG.Tens D2) (hc : h'[va]? = some (Jvm.Free.SBG.GetCharsL.outCell ⟨x, n, idx, va, cA, st, d1, D1, d2, D2⟩)) (hs : h'.size = h.size) (hk : ∀ (y : Addr) (cy : Cell), y ≠ va → h[y]? = some cy → h'[y]? = some cy) :
    Keep h h' [va] ∧ GA Z h' va k .byte r (fun j => .int (Int32.ofNat (gcF x n idx f j))) := by
  have hby : ∀ i, i < cA.slots.size → fits .byte (cA.slots.getD i .null) = true := fun i hi => by
    rw [Array.getD_eq_getD_getElem?, H i (S ▸ hi)]; exact own_fitb _ (hf i)
  obtain ⟨f1, f2, f3, -, -⟩ := Jvm.Free.SBG.GetCharsL.outCell_facts ⟨x, n, idx, va, cA, st, d1, D1, d2, D2⟩ hn hroom hby
  refine ⟨⟨Nat.le_of_eq hs.symm, fun y cy q ne => hk y cy (fun e => ne (by rw [e]; exact List.mem_singleton.mpr rfl)) q, fun y cy q => ?_⟩, _, ⟨hc, ?_, ?_⟩, f1.trans qA, f3.trans S, fun j hj => ?_⟩
  · by_cases e : y = va
    · subst e
      cases q.symm.trans A.1
      exact ⟨_, hc, f1, f2, f3⟩
    · exact ⟨cy, hk y cy e q, rfl, rfl, rfl⟩
  · obtain ⟨u1, u2, u3, u4, u5⟩ := A.2.1
    exact ⟨by rw [f2]; exact u1, u2, by rw [f1]; exact u3, u4, u5⟩
  · rw [f2]; exact A.2.2
  · rw [own_out _ o1 o2 hn hroom (by show idx ≤ cA.slots.size; rw [S]; exact hi) j]
    show (if idx - Jvm.Free.SBG.digitsL n ≤ j ∧ j < idx then some (Value.int (Int32.ofNat (48 + n / 10 ^ (idx - 1 - j) % 10))) else if x < 0 ∧ j = idx - Jvm.Free.SBG.digitsL n - 1 then some (.int 45) else cA.slots[j]?) = some (.int (Int32.ofNat (gcF x n idx f j)))
    unfold gcF
    by_cases e1 : idx - Jvm.Free.SBG.digitsL n ≤ j ∧ j < idx
    · rw [if_pos e1, if_pos e1]
    · rw [if_neg e1, if_neg e1]
      by_cases e2 : x < 0 ∧ j = idx - Jvm.Free.SBG.digitsL n - 1
      · rw [if_pos e2, if_pos e2]; rfl
      · rw [if_neg e2, if_neg e2]; exact H j hj
theorem own_frb {n0 : Nat} {b : Addr} {L : List Loc} (h : n0 ≤ b) (q : ∀ w ∈ L, w.base = b) : Fr n0 L := fun y hy => by rw [q y hy]; exact h
def QBa (Z : State) (o vb : Addr) (cap nb : Nat) (g : Nat → Nat) (h0 : Heap) (n0 : Nat) (v : Option Value) (h : Heap) (L : List Loc) : Prop := v = some (.ref o) ∧ Fr n0 L ∧ Keep h0 h [o, vb] ∧ ∃ (a : Addr) (k : ClassId), n0 ≤ a ∧ o ≠ a ∧ (h0.size ≤ a ∨ a = vb) ∧ BD Z h o a k cap nb g
theorem d6_0 : decode jdk_68_method_22_code 0 = .ok (.aload_n 1, 1) := by decide +kernel
theorem d6_1 : decode jdk_68_method_22_code 1 = .ok (.ifnonnull 8, 3) := by decide +kernel
theorem d6_9 : decode jdk_68_method_22_code 9 = .ok (.aload_n 1, 1) := by decide +kernel
theorem d6_10 : decode jdk_68_method_22_code 10 = .ok (.invokevirtual 32, 3) := by decide +kernel
theorem d6_13 : decode jdk_68_method_22_code 13 = .ok (.istore_n 2, 1) := by decide +kernel
theorem d6_14 : decode jdk_68_method_22_code 14 = .ok (.aload_n 0, 1) := by decide +kernel
theorem d6_15 : decode jdk_68_method_22_code 15 = .ok (.aload_n 0, 1) := by decide +kernel
theorem d6_16 : decode jdk_68_method_22_code 16 = .ok (.getfield 79, 3) := by decide +kernel
theorem d6_19 : decode jdk_68_method_22_code 19 = .ok (.iload_n 2, 1) := by decide +kernel
theorem d6_20 : decode jdk_68_method_22_code 20 = .ok (.iadd, 1) := by decide +kernel
theorem d6_21 : decode jdk_68_method_22_code 21 = .ok (.invokevirtual 100, 3) := by decide +kernel
theorem d6_24 : decode jdk_68_method_22_code 24 = .ok (.aload_n 0, 1) := by decide +kernel
theorem d6_25 : decode jdk_68_method_22_code 25 = .ok (.aload_n 0, 1) := by decide +kernel
theorem d6_26 : decode jdk_68_method_22_code 26 = .ok (.getfield 79, 3) := by decide +kernel
theorem d6_29 : decode jdk_68_method_22_code 29 = .ok (.aload_n 1, 1) := by decide +kernel
theorem d6_30 : decode jdk_68_method_22_code 30 = .ok (.invokevirtual 208, 3) := by decide +kernel
theorem pd__ILjava_lang_String__V : parseMethodDescriptor "(ILjava/lang/String;)V" = some ⟨[.int, (.object "java/lang/String")], none⟩ := by decide +kernel
theorem d6_33 : decode jdk_68_method_22_code 33 = .ok (.aload_n 0, 1) := by decide +kernel
theorem d6_34 : decode jdk_68_method_22_code 34 = .ok (.dup, 1) := by decide +kernel
theorem d6_35 : decode jdk_68_method_22_code 35 = .ok (.getfield 79, 3) := by decide +kernel
theorem d6_38 : decode jdk_68_method_22_code 38 = .ok (.iload_n 2, 1) := by decide +kernel
theorem d6_39 : decode jdk_68_method_22_code 39 = .ok (.iadd, 1) := by decide +kernel
theorem d6_40 : decode jdk_68_method_22_code 40 = .ok (.putfield 79, 3) := by decide +kernel
theorem d6_43 : decode jdk_68_method_22_code 43 = .ok (.aload_n 0, 1) := by decide +kernel
theorem d6_44 : decode jdk_68_method_22_code 44 = .ok (.areturn, 1) := by decide +kernel
theorem pn_6 : plainName "java/lang/AbstractStringBuilder" = true := by first | (simp [plainName, overriddenIn]; done) | decide +kernel
theorem ef_bAs0 (m : MethodId) (x0 : Addr) (x1 : Addr) : entryFrame m #[(.ref x0), (.ref x1)] 3 = mkF m 0 #[.val (.ref x0), .val (.ref x1), .unset] [] := by first | (simp [entryFrame, mkF, argsToLocals, Value.category]; done) | rfl
set_option maxRecDepth 65536 in
set_option maxHeartbeats 40000000 in
theorem bAs0 (l : Launch) (Z : State) (a0 : Array Value) (hw : ∀ d ∈ tables_1, d.before a0 Z = true) (ws : List Jvm.Cond) (o0 : Addr) (o1 : Addr) (vb : Addr) (kb : ClassId) (cap nb : Nat) (f : Nat → Nat) (v0 : Addr) (k0 : ClassId) (n : Nat) (g : Nat → Nat) (hn : n ≤ 400) (hg : Asc g) (hcap : cap ≤ 1000) (hnb : nb ≤ cap) (hf : Asc f) (h0 : Heap) (n0 : Nat) (Z0 : n0 ≤ h0.size) (KZ : Keep Z.heap h0 []) (hz : Z.heap.size ≤ n0) (R_b : BD Z h0 o0 vb kb cap nb f) (hfit : nb + n ≤ cap) (R_s : SB Z h0 o1 v0 k0 n (fun i => Int32.ofNat (g i))) (g_o : n0 ≤ o0) (g_b : n0 ≤ vb) (q0 : o0 ≠ vb) (q1 : o1 ≠ o0) (q2 : v0 ≠ o0) (q3 : o1 ≠ vb) (q4 : v0 ≠ vb) (cs : Int32) (hcs : ¬ cs = (0 : Int32)) (S_Cz : Sta Z Z.heap "java/lang/String" "COMPACT_STRINGS" "Z" (.int cs)) :
    MetFree l (⟨"java/lang/AbstractStringBuilder", "append", "(Ljava/lang/String;)Ljava/lang/AbstractStringBuilder;"⟩ : MethodName) (head1 (Jvm.Cond.code (⟨"java/lang/AbstractStringBuilder", "append", "(Ljava/lang/String;)Ljava/lang/AbstractStringBuilder;"⟩ : MethodName) jdk_68_method_22_code 3 (some (.object "java/lang/AbstractStringBuilder")) :: ws) ({ frames := 4, cells := 1, slots := 200, locals := 100 } : Room)) (fun a U => a = #[(.ref o0), (.ref o1)] ∧ Z.Warmed39 U.vm ∧ U.heap = h0) (fun _ _ _ _ _ => True) (fun _ U o U' => ∃ v L, o = .returned v ∧ QBa Z o0 vb cap (nb + n) (fun j => if nb ≤ j ∧ j < nb + n then g (j - nb) else f j) h0 n0 v U'.heap L ∧ FrameEnd U o U' L ({ frames := 4, cells := 1, slots := 200, locals := 100 } : Room).cells ({ frames := 4, cells := 1, slots := 200, locals := 100 } : Room).slots) := by
  refine MetFree.of_bodySF (plainFor_of_name pn_6) hisR ?_
  intro p e s m args below meth c s₁ Bd hml0 hP hK
  obtain ⟨rfl, hZ, hh⟩ := hP
  have hx := Bd.exec
  have hby := Bd.bytes
  have hml : c.maxLocals = 3 := hml0
  have hown : s.vm.findClass "java/lang/AbstractStringBuilder" = some m.cls := findClass_of_methodNamed Bd.named
  have hnm := (name_of_methodNamed Bd.named Bd.method).1
  have X0 : Stand p l e ({ frames := 4, cells := 1, slots := 200, locals := 100 } : Room) s m #[(.ref o0), (.ref o1)] below meth c s₁ [] 0 0 := Stand.of_body Bd
  have e0 : s₁.heap = h0 := by rw [← hh, Bd.state]; rfl
  have N0 := Fr.nil n0
  have pre0 : ∀ t, Steps p.tables e below (s₁.setTop (mkF m 0 #[vR o0, vR o1, zU] [])) t → Steps p.tables e below (s₁.setTop (entryFrame m #[(.ref o0), (.ref o1)] 3)) t := fun t k => castTop (ef_bAs0 m o0 o1) k
  have S_C := own_sta_keep S_Cz KZ all0
  obtain ⟨EB, FcB, FnB, FvB, VB⟩ := id R_b
  obtain ⟨E, Fc, Fv, Va⟩ := id R_s
  obtain ⟨cq1, kq1, q1a, q1b, q1c⟩ := isOf hZ e0 E
  obtain ⟨_, _, ⟨T1, L1, k1, n1⟩, -, X1, ⟨Lc1, hQ1, l1, y1, z1⟩, st1⟩ := X0.virtualBack hx (y := (⟨"java/lang/String", "length", "()I"⟩ : MethodName)) (z := (⟨"java/lang/String", "length", "()I"⟩ : MethodName)) hown (mvT hZ (wd hw 48 rfl)) (mvT hZ (wd hw 49 rfl)) (notFace_of_selects (args := #[]) (mvT hZ (wd hw 51 rfl))) (mvT hZ (wd hw 51 rfl)) (mvT hZ (wd hw 50 rfl)) (by decide) (backOf (W := 0) (rLen l Z a0 hw [] o1 v0 k0 n g (by omega) h0 n0 Z0 KZ hz R_s cs hcs S_Cz) hZ (wd hw 52 rfl) (wd hw 26 rfl) (by decide) (by decide)) q1a q1c (g := (mkF m 10 #[vR o0, vR o1, zU] [(.ref o1)])) rfl (by rw [hml]; rfl) (Steps.refl _) (argsL := []) (rest := []) (lenOf pd___I rfl) rfl (by show 2 * 0 + _ ≤ _; exact Nat.le_of_eq rfl) (hb hby d6_10) (fun _ _ => ⟨rfl, e0, (by decide : 0 + 0 ≤ _), (by decide : 0 + 0 ≤ _)⟩)
  dsimp only [Pt.U, Pt.locs, Pt.cells, Pt.slots] at X1 l1 y1 z1 st1 hQ1
  rw [l1, y1, z1] at X1
  obtain ⟨rfl, N1q, e1⟩ := hQ1
  have N1 := Fr.app N0 N1q
  obtain ⟨T2, X2, e2, st2⟩ := getF X1 hx hZ hown (host := "") (Or.inl (wd hw 61 rfl)) Via.refl e1 FnB (g := (mkF m 16 #[vR o0, vR o1, vI (Int32.ofNat n)] [(.ref o0), (.ref o0)])) rfl rfl (hb hby d6_16)
  obtain ⟨cq3, kq3, q3a, q3b, q3c⟩ := isOf hZ e2 EB
  obtain ⟨_, _, ⟨T3, L3, k3, n3⟩, -, X3, ⟨Lc3, hQ3, l3, y3, z3⟩, st3⟩ := X2.virtualBack hx (y := (⟨"java/lang/AbstractStringBuilder", "ensureCapacityInternal", "(I)V"⟩ : MethodName)) (z := (⟨"java/lang/AbstractStringBuilder", "ensureCapacityInternal", "(I)V"⟩ : MethodName)) hown (mvT hZ (wd hw 63 rfl)) (mvT hZ (own_declares (wd hw 64 rfl) (wd hw 67 rfl))) (notFace_of_selects (args := #[]) (mvT hZ (wd hw 66 rfl))) (mvT hZ (wd hw 66 rfl)) (mvT hZ (wd hw 64 rfl)) (by decide) (backOf (W := 0) (bEn0 l Z a0 hw [] o0 vb kb cap nb f (nb + n) hfit hcap hnb hf h0 n0 Z0 KZ hz R_b) hZ (wd hw 67 rfl) (wd hw 20 rfl) (by decide) (by decide)) q3a q3c (g := (mkF m 21 #[vR o0, vR o1, vI (Int32.ofNat n)] [(.int (Int32.ofNat (nb + n))), (.ref o0)])) rfl (by rw [hml]; rfl) (Steps.refl _) (argsL := [(.int (Int32.ofNat (nb + n)))]) (rest := []) (lenOf pd__I_V rfl) rfl (by show 2 * 0 + _ ≤ _; exact Nat.le_of_eq rfl) (hb hby d6_21) (fun _ _ => ⟨rfl, e2, (by decide : 0 + 1 ≤ _), (by decide : 0 + 200 ≤ _)⟩)
  dsimp only [Pt.U, Pt.locs, Pt.cells, Pt.slots] at X3 l3 y3 z3 st3 hQ3
  rw [l3, y3, z3] at X3
  obtain ⟨rfl, N3q, e3⟩ := hQ3
  have N3 := Fr.app N1 N3q
  obtain ⟨T4, X4, e4, st4⟩ := getF X3 hx hZ hown (host := "") (Or.inl (wd hw 61 rfl)) Via.refl e3 FnB (g := (mkF m 26 #[vR o0, vR o1, vI (Int32.ofNat n)] [(.ref o0), (.ref o0)])) rfl rfl (hb hby d6_26)
  obtain ⟨cq5, kq5, q5a, q5b, q5c⟩ := isOf hZ e4 EB
  obtain ⟨_, _, ⟨T5, L5, k5, n5⟩, -, X5, ⟨Lc5, hQ5, l5, y5, z5⟩, st5⟩ := X4.virtualBack hx (y := (⟨"java/lang/AbstractStringBuilder", "putStringAt", "(ILjava/lang/String;)V"⟩ : MethodName)) (z := (⟨"java/lang/AbstractStringBuilder", "putStringAt", "(ILjava/lang/String;)V"⟩ : MethodName)) hown (mvT hZ (wd hw 94 rfl)) (mvT hZ (own_declares (wd hw 95 rfl) (wd hw 98 rfl))) (notFace_of_selects (args := #[]) (mvT hZ (wd hw 97 rfl))) (mvT hZ (wd hw 97 rfl)) (mvT hZ (wd hw 95 rfl)) (by decide) (backOf (W := 0) (bPut l Z a0 hw [] o0 o1 vb kb cap nb f hcap hnb hf h0 n0 Z0 (KZ.trans (Keep.refl h0 [o0, vb]) (allS (Or.inr (Nat.le_trans hz g_o)) (allS (Or.inr (Nat.le_trans hz g_b)) all0))) hz ⟨EB, FcB, FnB, FvB, VB⟩ v0 k0 n g hn hg (by omega) ⟨E, Fc, Fv, Va⟩ g_b q0 q3 q4 cs hcs S_Cz) hZ (wd hw 98 rfl) (wd hw 20 rfl) (by decide) (by decide)) q5a q5c (g := (mkF m 30 #[vR o0, vR o1, vI (Int32.ofNat n)] [(.ref o1), (.int (Int32.ofNat nb)), (.ref o0)])) rfl (by rw [hml]; rfl) (Steps.refl _) (argsL := [(.int (Int32.ofNat nb)), (.ref o1)]) (rest := []) (lenOf pd__ILjava_lang_String__V rfl) rfl (by show 2 * 0 + _ ≤ _; exact Nat.le_of_eq rfl) (hb hby d6_30) (fun _ _ => ⟨rfl, e4, (by decide : 1 + 0 ≤ _), (by decide : 200 + 0 ≤ _)⟩)
  dsimp only [Pt.U, Pt.locs, Pt.cells, Pt.slots] at X5 l5 y5 z5 st5 hQ5
  rw [l5, y5, z5] at X5
  obtain ⟨rfl, N5q, Kp5, Bd5⟩ := hQ5
  have N5 := Fr.app N3 N5q
  have Zs5 : n0 ≤ T5.heap.size := Nat.le_trans Z0 Kp5.1
  have Kk5 : Keep h0 T5.heap [o0, vb] := (Keep.refl h0 [o0, vb]).trans Kp5 (allS (Or.inl (List.mem_of_getElem? (i := 1) rfl)) all0)
  obtain ⟨EB5, FcB5, FnB5, FvB5, VB5⟩ := id Bd5
  obtain ⟨T6, X6, e6, st6⟩ := getF X5 hx hZ hown (host := "") (Or.inl (wd hw 61 rfl)) Via.refl rfl FnB5 (g := (mkF m 35 #[vR o0, vR o1, vI (Int32.ofNat n)] [(.ref o0), (.ref o0)])) rfl rfl (hb hby d6_35)
  obtain ⟨T7, h7, X7, e7, W7, st7⟩ := putF X6 hx hZ hown (host := "") (Or.inl (wd hw 61 rfl)) Via.refl e6 FnB5 EB5 (Or.inl (wd hw 62 rfl)) (wd hw 11 rfl) (ty := .int) (by decide) rfl rfl (g := (mkF m 40 #[vR o0, vR o1, vI (Int32.ofNat n)] [(.int (Int32.ofNat (nb + n))), (.ref o0)])) rfl rfl (hb hby d6_40)
  have Fw7 := FnB5.same W7
  have Zs7 : n0 ≤ h7.size := Nat.le_trans Zs5 (Nat.le_of_eq W7.size.symm)
  have K7 : Keep h0 h7 [o0, vb] := Kk5.wr W7 (Or.inl (List.mem_of_getElem? (i := 0) rfl))
  have N7 := Fr.snoc X7 N5 g_o
  have EB5_8 := (EB5.wr W7)
  have FcB5_9 := (FcB5.other W7 (Or.inr (slot_ne (Or.inl (wd hw 31 rfl)) (Or.inl (wd hw 62 rfl)) (by decide) (t := .byte) (t' := .int) (by decide) (by decide))))
  have FvB5_10 := (FvB5.other W7 (Or.inr (slot_ne (Or.inl (wd hw 29 rfl)) (Or.inl (wd hw 62 rfl)) (by decide) (t := (.array .byte)) (t' := .int) (by decide) (by decide))))
  have VB5_11 := (VB5.other W7 (Ne.symm q0))
  obtain ⟨fs, hr, hrun, hended, hW, hsame⟩ := X7.leave (v := some (.ref o0)) (fun h => by rw [Bd.returns] at h; cases h)
  refine ⟨_, _, pre0 _ ?_, hrun, hended, _, _, rfl, ?_, ⟨_, rfl⟩, hW, hsame.mono (by decide) (by decide)⟩
  · skip
    refine XS.aloadN X0.here hx rfl (hb hby d6_0) rfl rfl ?_
    refine XS.ifnonnullYes X0.here hx rfl (pc0 := 1) (pc' := 9) rfl (hb hby d6_1) rfl (by decide) (by decide) ?_
    refine XS.aloadN X0.here hx rfl (hb hby d6_9) rfl rfl ?_
    show Steps p.tables e below (s₁.setTop (mkF m 10 #[vR o0, vR o1, zU] [(.ref o1)])) _
    refine st1.trans ?_
    refine XS.istoreN X1.here hx rfl (hb hby d6_13) rfl (l' := #[vR o0, vR o1, vI (Int32.ofNat n)]) rfl ?_
    refine XS.aloadN X1.here hx rfl (hb hby d6_14) rfl rfl ?_
    refine XS.aloadN X1.here hx rfl (hb hby d6_15) rfl rfl ?_
    show Steps p.tables e below (T1.setTop (mkF m 16 #[vR o0, vR o1, vI (Int32.ofNat n)] [(.ref o0), (.ref o0)])) _
    refine st2 _ ?_
    refine XS.iloadN X2.here hx rfl (hb hby d6_19) rfl ?_
    refine XS.iadd X2.here hx rfl (hb hby d6_20) rfl ?_
    show Steps p.tables e below (T2.setTop (mkF m 21 #[vR o0, vR o1, vI (Int32.ofNat n)] [(.int ((Int32.ofNat nb) + (Int32.ofNat n))), (.ref o0)])) _
    rw [own_addN]
    refine st3.trans ?_
    show Steps p.tables e below (T3.setTop (mkF m 24 #[vR o0, vR o1, vI (Int32.ofNat n)] [])) _
    refine XS.aloadN X3.here hx rfl (hb hby d6_24) rfl rfl ?_
    refine XS.aloadN X3.here hx rfl (hb hby d6_25) rfl rfl ?_
    refine st4 _ ?_
    refine XS.aloadN X4.here hx rfl (hb hby d6_29) rfl rfl ?_
    show Steps p.tables e below (T4.setTop (mkF m 30 #[vR o0, vR o1, vI (Int32.ofNat n)] [(.ref o1), (.int (Int32.ofNat nb)), (.ref o0)])) _
    refine st5.trans ?_
    refine XS.aloadN X5.here hx rfl (hb hby d6_33) rfl rfl ?_
    refine XS.dup X5.here hx rfl (hb hby d6_34) rfl rfl ?_
    refine st6 _ ?_
    show Steps p.tables e below (T6.setTop (mkF m 38 #[vR o0, vR o1, vI (Int32.ofNat n)] [(.int (Int32.ofNat nb)), (.ref o0)])) _
    refine XS.iloadN X6.here hx rfl (hb hby d6_38) rfl ?_
    refine XS.iadd X6.here hx rfl (hb hby d6_39) rfl ?_
    show Steps p.tables e below (T6.setTop (mkF m 40 #[vR o0, vR o1, vI (Int32.ofNat n)] [(.int ((Int32.ofNat nb) + (Int32.ofNat n))), (.ref o0)])) _
    rw [own_addN]
    refine st7 _ ?_
    refine XS.aloadN X7.here hx rfl (hb hby d6_43) rfl rfl ?_
    show Steps p.tables e below (T7.setTop (mkF m 44 #[vR o0, vR o1, vI (Int32.ofNat n)] [(.ref o0)])) _
    jvm_step X7.here [X7.here.top, hx, (hb hby d6_44), X7.method', Bd.returns, Value.isRef, FieldType.isReference]
    first | (intro acts; rw [hr _ acts rfl rfl rfl]) | rw [hr _ _ rfl rfl rfl]
    exact Steps.refl _
  · show QBa Z o0 vb cap (nb + n) (fun j => if nb ≤ j ∧ j < nb + n then g (j - nb) else f j) h0 n0 _ T7.heap _
    rw [e7]
    exact ⟨rfl, N7, K7, vb, kb, g_b, q0, (Or.inr rfl), EB5_8, FcB5_9, Fw7, FvB5_10, VB5_11⟩
theorem ef_bAs1 (m : MethodId) (x0 : Addr) (x1 : Addr) : entryFrame m #[(.ref x0), (.ref x1)] 3 = mkF m 0 #[.val (.ref x0), .val (.ref x1), .unset] [] := by first | (simp [entryFrame, mkF, argsToLocals, Value.category]; done) | rfl
set_option maxRecDepth 65536 in
set_option maxHeartbeats 40000000 in
theorem bAs1 (l : Launch) (Z : State) (a0 : Array Value) (hw : ∀ d ∈ tables_1, d.before a0 Z = true) (ws : List Jvm.Cond) (o0 : Addr) (o1 : Addr) (vb : Addr) (kb : ClassId) (cap nb : Nat) (f : Nat → Nat) (v0 : Addr) (k0 : ClassId) (n : Nat) (g : Nat → Nat) (hn : n ≤ 400) (hg : Asc g) (mx r : Nat) (hmn : cap < (nb + n)) (hmx : ((nb + n) - cap < cap + 2 → mx = cap + 2) ∧ (¬ (nb + n) - cap < cap + 2 → mx = (nb + n) - cap)) (hrs : cap + mx = r) (hr2 : r ≤ 200) (hcap : cap ≤ 300) (hnb : nb ≤ cap) (hf : Asc f) (h0 : Heap) (n0 : Nat) (Z0 : n0 ≤ h0.size) (KZ : Keep Z.heap h0 []) (hz : Z.heap.size ≤ n0) (R_b : BD Z h0 o0 vb kb cap nb f) (R_s : SB Z h0 o1 v0 k0 n (fun i => Int32.ofNat (g i))) (g_o : n0 ≤ o0) (g_b : n0 ≤ vb) (q0 : o0 ≠ vb) (q1 : o1 ≠ o0) (q2 : v0 ≠ o0) (q3 : o1 ≠ vb) (q4 : v0 ≠ vb) (cs : Int32) (hcs : ¬ cs = (0 : Int32)) (S_Cz : Sta Z Z.heap "java/lang/String" "COMPACT_STRINGS" "Z" (.int cs)) :
    MetFree l (⟨"java/lang/AbstractStringBuilder", "append", "(Ljava/lang/String;)Ljava/lang/AbstractStringBuilder;"⟩ : MethodName) (head1 (Jvm.Cond.code (⟨"java/lang/AbstractStringBuilder", "append", "(Ljava/lang/String;)Ljava/lang/AbstractStringBuilder;"⟩ : MethodName) jdk_68_method_22_code 3 (some (.object "java/lang/AbstractStringBuilder")) :: ws) ({ frames := 4, cells := 1, slots := 200, locals := 100 } : Room)) (fun a U => a = #[(.ref o0), (.ref o1)] ∧ Z.Warmed39 U.vm ∧ U.heap = h0) (fun _ _ _ _ _ => True) (fun _ U o U' => ∃ v L, o = .returned v ∧ QBa Z o0 vb r (nb + n) (fun j => if nb ≤ j ∧ j < nb + n then g (j - nb) else (fun i => if i < cap then f i else 0) j) h0 n0 v U'.heap L ∧ FrameEnd U o U' L ({ frames := 4, cells := 1, slots := 200, locals := 100 } : Room).cells ({ frames := 4, cells := 1, slots := 200, locals := 100 } : Room).slots) := by
  refine MetFree.of_bodySF (plainFor_of_name pn_6) hisR ?_
  intro p e s m args below meth c s₁ Bd hml0 hP hK
  obtain ⟨rfl, hZ, hh⟩ := hP
  have hx := Bd.exec
  have hby := Bd.bytes
  have hml : c.maxLocals = 3 := hml0
  have hown : s.vm.findClass "java/lang/AbstractStringBuilder" = some m.cls := findClass_of_methodNamed Bd.named
  have hnm := (name_of_methodNamed Bd.named Bd.method).1
  have X0 : Stand p l e ({ frames := 4, cells := 1, slots := 200, locals := 100 } : Room) s m #[(.ref o0), (.ref o1)] below meth c s₁ [] 0 0 := Stand.of_body Bd
  have e0 : s₁.heap = h0 := by rw [← hh, Bd.state]; rfl
  have N0 := Fr.nil n0
  have pre0 : ∀ t, Steps p.tables e below (s₁.setTop (mkF m 0 #[vR o0, vR o1, zU] [])) t → Steps p.tables e below (s₁.setTop (entryFrame m #[(.ref o0), (.ref o1)] 3)) t := fun t k => castTop (ef_bAs1 m o0 o1) k
  have S_C := own_sta_keep S_Cz KZ all0
  obtain ⟨EB, FcB, FnB, FvB, VB⟩ := id R_b
  obtain ⟨E, Fc, Fv, Va⟩ := id R_s
  obtain ⟨cq1, kq1, q1a, q1b, q1c⟩ := isOf hZ e0 E
  obtain ⟨_, _, ⟨T1, L1, k1, n1⟩, -, X1, ⟨Lc1, hQ1, l1, y1, z1⟩, st1⟩ := X0.virtualBack hx (y := (⟨"java/lang/String", "length", "()I"⟩ : MethodName)) (z := (⟨"java/lang/String", "length", "()I"⟩ : MethodName)) hown (mvT hZ (wd hw 48 rfl)) (mvT hZ (wd hw 49 rfl)) (notFace_of_selects (args := #[]) (mvT hZ (wd hw 51 rfl))) (mvT hZ (wd hw 51 rfl)) (mvT hZ (wd hw 50 rfl)) (by decide) (backOf (W := 0) (rLen l Z a0 hw [] o1 v0 k0 n g (by omega) h0 n0 Z0 KZ hz R_s cs hcs S_Cz) hZ (wd hw 52 rfl) (wd hw 26 rfl) (by decide) (by decide)) q1a q1c (g := (mkF m 10 #[vR o0, vR o1, zU] [(.ref o1)])) rfl (by rw [hml]; rfl) (Steps.refl _) (argsL := []) (rest := []) (lenOf pd___I rfl) rfl (by show 2 * 0 + _ ≤ _; exact Nat.le_of_eq rfl) (hb hby d6_10) (fun _ _ => ⟨rfl, e0, (by decide : 0 + 0 ≤ _), (by decide : 0 + 0 ≤ _)⟩)
  dsimp only [Pt.U, Pt.locs, Pt.cells, Pt.slots] at X1 l1 y1 z1 st1 hQ1
  rw [l1, y1, z1] at X1
  obtain ⟨rfl, N1q, e1⟩ := hQ1
  have N1 := Fr.app N0 N1q
  obtain ⟨T2, X2, e2, st2⟩ := getF X1 hx hZ hown (host := "") (Or.inl (wd hw 61 rfl)) Via.refl e1 FnB (g := (mkF m 16 #[vR o0, vR o1, vI (Int32.ofNat n)] [(.ref o0), (.ref o0)])) rfl rfl (hb hby d6_16)
  obtain ⟨cq3, kq3, q3a, q3b, q3c⟩ := isOf hZ e2 EB
  obtain ⟨_, _, ⟨T3, L3, k3, n3⟩, -, X3, ⟨Lc3, hQ3, l3, y3, z3⟩, st3⟩ := X2.virtualBack hx (y := (⟨"java/lang/AbstractStringBuilder", "ensureCapacityInternal", "(I)V"⟩ : MethodName)) (z := (⟨"java/lang/AbstractStringBuilder", "ensureCapacityInternal", "(I)V"⟩ : MethodName)) hown (mvT hZ (wd hw 63 rfl)) (mvT hZ (own_declares (wd hw 64 rfl) (wd hw 67 rfl))) (notFace_of_selects (args := #[]) (mvT hZ (wd hw 66 rfl))) (mvT hZ (wd hw 66 rfl)) (mvT hZ (wd hw 64 rfl)) (by decide) (backOf (W := 0) (bEn1 l Z a0 hw [] o0 vb kb cap nb f (nb + n) mx r hmn (by omega) hmx hrs hr2 (by omega) hnb hf h0 n0 Z0 KZ hz R_b g_o) hZ (wd hw 67 rfl) (wd hw 20 rfl) (by decide) (by decide)) q3a q3c (g := (mkF m 21 #[vR o0, vR o1, vI (Int32.ofNat n)] [(.int (Int32.ofNat (nb + n))), (.ref o0)])) rfl (by rw [hml]; rfl) (Steps.refl _) (argsL := [(.int (Int32.ofNat (nb + n)))]) (rest := []) (lenOf pd__I_V rfl) rfl (by show 2 * 0 + _ ≤ _; exact Nat.le_of_eq rfl) (hb hby d6_21) (fun _ _ => ⟨rfl, e2, (by decide : 0 + 1 ≤ _), (by decide : 0 + 200 ≤ _)⟩)
  dsimp only [Pt.U, Pt.locs, Pt.cells, Pt.slots] at X3 l3 y3 z3 st3 hQ3
  rw [l3, y3, z3] at X3
  obtain ⟨rfl, N3q, Kp3, ca3, kc3, gc3, sc3, Bd3⟩ := hQ3
  have N3 := Fr.app N1 N3q
  have Zs3 : n0 ≤ T3.heap.size := Nat.le_trans Z0 Kp3.1
  have Kk3 : Keep h0 T3.heap [o0, vb] := (Keep.refl h0 [o0, vb]).trans Kp3 (allS (Or.inl (List.mem_of_getElem? (i := 0) rfl)) all0)
  obtain ⟨EB3, FcB3, FnB3, FvB3, VB3⟩ := id Bd3
  have nn3v0 : v0 ≠ ca3 := Nat.ne_of_lt (Nat.lt_of_lt_of_le (Va).lt sc3)
  have nn3o1 : o1 ≠ ca3 := Nat.ne_of_lt (Nat.lt_of_lt_of_le (E).lt sc3)
  have nn3o0 : o0 ≠ ca3 := Nat.ne_of_lt (Nat.lt_of_lt_of_le (EB).lt sc3)
  obtain ⟨T4, X4, e4, st4⟩ := getF X3 hx hZ hown (host := "") (Or.inl (wd hw 61 rfl)) Via.refl rfl FnB3 (g := (mkF m 26 #[vR o0, vR o1, vI (Int32.ofNat n)] [(.ref o0), (.ref o0)])) rfl rfl (hb hby d6_26)
  have E_5 := (E.keep Kp3)
  have Fc_6 := (Fc.keep Kp3 (ninS q1 nin0))
  have Fv_7 := (Fv.keep Kp3 (ninS q1 nin0))
  have Va_8 := (Va.keep Kp3 (ninS q2 nin0))
  obtain ⟨cq9, kq9, q9a, q9b, q9c⟩ := isOf hZ e4 EB3
  obtain ⟨_, _, ⟨T9, L9, k9, n9⟩, -, X9, ⟨Lc9, hQ9, l9, y9, z9⟩, st9⟩ := X4.virtualBack hx (y := (⟨"java/lang/AbstractStringBuilder", "putStringAt", "(ILjava/lang/String;)V"⟩ : MethodName)) (z := (⟨"java/lang/AbstractStringBuilder", "putStringAt", "(ILjava/lang/String;)V"⟩ : MethodName)) hown (mvT hZ (wd hw 94 rfl)) (mvT hZ (own_declares (wd hw 95 rfl) (wd hw 98 rfl))) (notFace_of_selects (args := #[]) (mvT hZ (wd hw 97 rfl))) (mvT hZ (wd hw 97 rfl)) (mvT hZ (wd hw 95 rfl)) (by decide) (backOf (W := 0) (bPut l Z a0 hw [] o0 o1 ca3 kc3 r nb (fun i => if i < cap then f i else 0) (by omega) (by omega) (fun i => by show (if i < cap then f i else 0) < 128; split; exact hf _; decide) T3.heap n0 Zs3 (KZ.trans Kk3 (allS (Or.inr (Nat.le_trans hz g_o)) (allS (Or.inr (Nat.le_trans hz g_b)) all0))) hz ⟨EB3, FcB3, FnB3, FvB3, VB3⟩ v0 k0 n g hn hg (by omega) ⟨E_5, Fc_6, Fv_7, Va_8⟩ gc3 nn3o0 nn3o1 nn3v0 cs hcs S_Cz) hZ (wd hw 98 rfl) (wd hw 20 rfl) (by decide) (by decide)) q9a q9c (g := (mkF m 30 #[vR o0, vR o1, vI (Int32.ofNat n)] [(.ref o1), (.int (Int32.ofNat nb)), (.ref o0)])) rfl (by rw [hml]; rfl) (Steps.refl _) (argsL := [(.int (Int32.ofNat nb)), (.ref o1)]) (rest := []) (lenOf pd__ILjava_lang_String__V rfl) rfl (by show 2 * 0 + _ ≤ _; exact Nat.le_of_eq rfl) (hb hby d6_30) (fun _ _ => ⟨rfl, e4, (by decide : 1 + 0 ≤ _), (by decide : 200 + 0 ≤ _)⟩)
  dsimp only [Pt.U, Pt.locs, Pt.cells, Pt.slots] at X9 l9 y9 z9 st9 hQ9
  rw [l9, y9, z9] at X9
  obtain ⟨rfl, N9q, Kp9, Bd9⟩ := hQ9
  have N9 := Fr.app N3 N9q
  have Zs9 : n0 ≤ T9.heap.size := Nat.le_trans Zs3 Kp9.1
  have Kk9 : Keep h0 T9.heap [o0, vb] := Kk3.trans Kp9 (allS (Or.inr sc3) all0)
  obtain ⟨EB9, FcB9, FnB9, FvB9, VB9⟩ := id Bd9
  obtain ⟨T10, X10, e10, st10⟩ := getF X9 hx hZ hown (host := "") (Or.inl (wd hw 61 rfl)) Via.refl rfl FnB9 (g := (mkF m 35 #[vR o0, vR o1, vI (Int32.ofNat n)] [(.ref o0), (.ref o0)])) rfl rfl (hb hby d6_35)
  obtain ⟨T11, h11, X11, e11, W11, st11⟩ := putF X10 hx hZ hown (host := "") (Or.inl (wd hw 61 rfl)) Via.refl e10 FnB9 EB9 (Or.inl (wd hw 62 rfl)) (wd hw 11 rfl) (ty := .int) (by decide) rfl rfl (g := (mkF m 40 #[vR o0, vR o1, vI (Int32.ofNat n)] [(.int (Int32.ofNat (nb + n))), (.ref o0)])) rfl rfl (hb hby d6_40)
  have Fw11 := FnB9.same W11
  have Zs11 : n0 ≤ h11.size := Nat.le_trans Zs9 (Nat.le_of_eq W11.size.symm)
  have K11 : Keep h0 h11 [o0, vb] := Kk9.wr W11 (Or.inl (List.mem_of_getElem? (i := 0) rfl))
  have N11 := Fr.snoc X11 N9 g_o
  have EB9_12 := (EB9.wr W11)
  have FcB9_13 := (FcB9.other W11 (Or.inr (slot_ne (Or.inl (wd hw 31 rfl)) (Or.inl (wd hw 62 rfl)) (by decide) (t := .byte) (t' := .int) (by decide) (by decide))))
  have FvB9_14 := (FvB9.other W11 (Or.inr (slot_ne (Or.inl (wd hw 29 rfl)) (Or.inl (wd hw 62 rfl)) (by decide) (t := (.array .byte)) (t' := .int) (by decide) (by decide))))
  have VB9_15 := (VB9.other W11 (Ne.symm nn3o0))
  obtain ⟨fs, hr, hrun, hended, hW, hsame⟩ := X11.leave (v := some (.ref o0)) (fun h => by rw [Bd.returns] at h; cases h)
  refine ⟨_, _, pre0 _ ?_, hrun, hended, _, _, rfl, ?_, ⟨_, rfl⟩, hW, hsame.mono (by decide) (by decide)⟩
  · skip
    refine XS.aloadN X0.here hx rfl (hb hby d6_0) rfl rfl ?_
    refine XS.ifnonnullYes X0.here hx rfl (pc0 := 1) (pc' := 9) rfl (hb hby d6_1) rfl (by decide) (by decide) ?_
    refine XS.aloadN X0.here hx rfl (hb hby d6_9) rfl rfl ?_
    show Steps p.tables e below (s₁.setTop (mkF m 10 #[vR o0, vR o1, zU] [(.ref o1)])) _
    refine st1.trans ?_
    refine XS.istoreN X1.here hx rfl (hb hby d6_13) rfl (l' := #[vR o0, vR o1, vI (Int32.ofNat n)]) rfl ?_
    refine XS.aloadN X1.here hx rfl (hb hby d6_14) rfl rfl ?_
    refine XS.aloadN X1.here hx rfl (hb hby d6_15) rfl rfl ?_
    show Steps p.tables e below (T1.setTop (mkF m 16 #[vR o0, vR o1, vI (Int32.ofNat n)] [(.ref o0), (.ref o0)])) _
    refine st2 _ ?_
    refine XS.iloadN X2.here hx rfl (hb hby d6_19) rfl ?_
    refine XS.iadd X2.here hx rfl (hb hby d6_20) rfl ?_
    show Steps p.tables e below (T2.setTop (mkF m 21 #[vR o0, vR o1, vI (Int32.ofNat n)] [(.int ((Int32.ofNat nb) + (Int32.ofNat n))), (.ref o0)])) _
    rw [own_addN]
    refine st3.trans ?_
    show Steps p.tables e below (T3.setTop (mkF m 24 #[vR o0, vR o1, vI (Int32.ofNat n)] [])) _
    refine XS.aloadN X3.here hx rfl (hb hby d6_24) rfl rfl ?_
    refine XS.aloadN X3.here hx rfl (hb hby d6_25) rfl rfl ?_
    refine st4 _ ?_
    refine XS.aloadN X4.here hx rfl (hb hby d6_29) rfl rfl ?_
    show Steps p.tables e below (T4.setTop (mkF m 30 #[vR o0, vR o1, vI (Int32.ofNat n)] [(.ref o1), (.int (Int32.ofNat nb)), (.ref o0)])) _
    refine st9.trans ?_
    refine XS.aloadN X9.here hx rfl (hb hby d6_33) rfl rfl ?_
    refine XS.dup X9.here hx rfl (hb hby d6_34) rfl rfl ?_
    refine st10 _ ?_
    show Steps p.tables e below (T10.setTop (mkF m 38 #[vR o0, vR o1, vI (Int32.ofNat n)] [(.int (Int32.ofNat nb)), (.ref o0)])) _
    refine XS.iloadN X10.here hx rfl (hb hby d6_38) rfl ?_
    refine XS.iadd X10.here hx rfl (hb hby d6_39) rfl ?_
    show Steps p.tables e below (T10.setTop (mkF m 40 #[vR o0, vR o1, vI (Int32.ofNat n)] [(.int ((Int32.ofNat nb) + (Int32.ofNat n))), (.ref o0)])) _
    rw [own_addN]
    refine st11 _ ?_
    refine XS.aloadN X11.here hx rfl (hb hby d6_43) rfl rfl ?_
    show Steps p.tables e below (T11.setTop (mkF m 44 #[vR o0, vR o1, vI (Int32.ofNat n)] [(.ref o0)])) _
    jvm_step X11.here [X11.here.top, hx, (hb hby d6_44), X11.method', Bd.returns, Value.isRef, FieldType.isReference]
    first | (intro acts; rw [hr _ acts rfl rfl rfl]) | rw [hr _ _ rfl rfl rfl]
    exact Steps.refl _
  · show QBa Z o0 vb r (nb + n) (fun j => if nb ≤ j ∧ j < nb + n then g (j - nb) else (fun i => if i < cap then f i else 0) j) h0 n0 _ T11.heap _
    rw [e11]
    exact ⟨rfl, N11, K11, ca3, kc3, gc3, nn3o0, (Or.inl sc3), EB9_12, FcB9_13, Fw11, FvB9_14, VB9_15⟩
theorem d5_0 : decode jdk_67_method_7_code 0 = .ok (.aload_n 0, 1) := by decide +kernel
theorem d5_1 : decode jdk_67_method_7_code 1 = .ok (.aload_n 1, 1) := by decide +kernel
theorem d5_2 : decode jdk_67_method_7_code 2 = .ok (.invokespecial 29, 3) := by decide +kernel
theorem pd__Ljava_lang_String__Ljava_lang_AbstractStringBuilder_ : parseMethodDescriptor "(Ljava/lang/String;)Ljava/lang/AbstractStringBuilder;" = some ⟨[(.object "java/lang/String")], some (.object "java/lang/AbstractStringBuilder")⟩ := by decide +kernel
theorem d5_5 : decode jdk_67_method_7_code 5 = .ok (.pop, 1) := by decide +kernel
theorem d5_6 : decode jdk_67_method_7_code 6 = .ok (.aload_n 0, 1) := by decide +kernel
theorem d5_7 : decode jdk_67_method_7_code 7 = .ok (.areturn, 1) := by decide +kernel
theorem pn_5 : plainName "java/lang/StringBuilder" = true := by first | (simp [plainName, overriddenIn]; done) | decide +kernel
theorem ef_sAs0 (m : MethodId) (x0 : Addr) (x1 : Addr) : entryFrame m #[(.ref x0), (.ref x1)] 2 = mkF m 0 #[.val (.ref x0), .val (.ref x1)] [] := by first | (simp [entryFrame, mkF, argsToLocals, Value.category]; done) | rfl
set_option maxRecDepth 65536 in
set_option maxHeartbeats 40000000 in
theorem sAs0 (l : Launch) (Z : State) (a0 : Array Value) (hw : ∀ d ∈ tables_1, d.before a0 Z = true) (ws : List Jvm.Cond) (o0 : Addr) (o1 : Addr) (vb : Addr) (kb : ClassId) (cap nb : Nat) (f : Nat → Nat) (v0 : Addr) (k0 : ClassId) (n : Nat) (g : Nat → Nat) (hn : n ≤ 400) (hg : Asc g) (hcap : cap ≤ 1000) (hnb : nb ≤ cap) (hf : Asc f) (h0 : Heap) (n0 : Nat) (Z0 : n0 ≤ h0.size) (KZ : Keep Z.heap h0 []) (hz : Z.heap.size ≤ n0) (R_b : BD Z h0 o0 vb kb cap nb f) (hfit : nb + n ≤ cap) (R_s : SB Z h0 o1 v0 k0 n (fun i => Int32.ofNat (g i))) (g_o : n0 ≤ o0) (g_b : n0 ≤ vb) (q0 : o0 ≠ vb) (q1 : o1 ≠ o0) (q2 : v0 ≠ o0) (q3 : o1 ≠ vb) (q4 : v0 ≠ vb) (cs : Int32) (hcs : ¬ cs = (0 : Int32)) (S_Cz : Sta Z Z.heap "java/lang/String" "COMPACT_STRINGS" "Z" (.int cs)) :
    MetFree l (⟨"java/lang/StringBuilder", "append", "(Ljava/lang/String;)Ljava/lang/StringBuilder;"⟩ : MethodName) (head1 (Jvm.Cond.code (⟨"java/lang/StringBuilder", "append", "(Ljava/lang/String;)Ljava/lang/StringBuilder;"⟩ : MethodName) jdk_67_method_7_code 2 (some (.object "java/lang/StringBuilder")) :: ws) ({ frames := 5, cells := 1, slots := 200, locals := 116 } : Room)) (fun a U => a = #[(.ref o0), (.ref o1)] ∧ Z.Warmed39 U.vm ∧ U.heap = h0) (fun _ _ _ _ _ => True) (fun _ U o U' => ∃ v L, o = .returned v ∧ QBa Z o0 vb cap (nb + n) (fun j => if nb ≤ j ∧ j < nb + n then g (j - nb) else f j) h0 n0 v U'.heap L ∧ FrameEnd U o U' L ({ frames := 5, cells := 1, slots := 200, locals := 116 } : Room).cells ({ frames := 5, cells := 1, slots := 200, locals := 116 } : Room).slots) := by
  refine MetFree.of_bodySF (plainFor_of_name pn_5) hisR ?_
  intro p e s m args below meth c s₁ Bd hml0 hP hK
  obtain ⟨rfl, hZ, hh⟩ := hP
  have hx := Bd.exec
  have hby := Bd.bytes
  have hml : c.maxLocals = 2 := hml0
  have hown : s.vm.findClass "java/lang/StringBuilder" = some m.cls := findClass_of_methodNamed Bd.named
  have hnm := (name_of_methodNamed Bd.named Bd.method).1
  have X0 : Stand p l e ({ frames := 5, cells := 1, slots := 200, locals := 116 } : Room) s m #[(.ref o0), (.ref o1)] below meth c s₁ [] 0 0 := Stand.of_body Bd
  have e0 : s₁.heap = h0 := by rw [← hh, Bd.state]; rfl
  have N0 := Fr.nil n0
  have pre0 : ∀ t, Steps p.tables e below (s₁.setTop (mkF m 0 #[vR o0, vR o1] [])) t → Steps p.tables e below (s₁.setTop (entryFrame m #[(.ref o0), (.ref o1)] 2)) t := fun t k => castTop (ef_sAs0 m o0 o1) k
  obtain ⟨EB, FcB, FnB, FvB, VB⟩ := id R_b
  obtain ⟨E, Fc, Fv, Va⟩ := id R_s
  obtain ⟨_, _, ⟨T1, L1, k1, n1⟩, -, X1, ⟨Lc1, hQ1, l1, y1, z1⟩, st1⟩ := superBack X0 hx hZ hown (y := (⟨"java/lang/AbstractStringBuilder", "append", "(Ljava/lang/String;)Ljava/lang/AbstractStringBuilder;"⟩ : MethodName)) (wd hw 43 rfl) (own_same (y := (⟨"java/lang/AbstractStringBuilder", "append", "(Ljava/lang/String;)Ljava/lang/AbstractStringBuilder;"⟩ : MethodName)) (y2 := (⟨"java/lang/AbstractStringBuilder", "isLatin1", "()Z"⟩ : MethodName)) (by decide) (wd hw 44 rfl) (wd hw 127 rfl) (notFace_of_selects (args := #[]) (wd hw 128 rfl)) rfl) (wd hw 44 rfl) (wd hw 45 rfl) (by decide) (backOf (W := 0) (bAs0 l Z a0 hw [] o0 o1 vb kb cap nb f v0 k0 n g hn hg hcap hnb hf h0 n0 Z0 KZ hz R_b hfit R_s g_o g_b q0 q1 q2 q3 q4 cs hcs S_Cz) hZ (wd hw 47 rfl) (wd hw 20 rfl) (by decide) (by decide)) e0 (K := "java/lang/StringBuilder") (Ins.self EB) (g := (mkF m 2 #[vR o0, vR o1] [(.ref o1), (.ref o0)])) rfl (by rw [hml]; rfl) (wd hw 47 rfl) (argsL := [(.ref o1)]) (rest := []) (lenOf pd__Ljava_lang_String__Ljava_lang_AbstractStringBuilder_ rfl) rfl (by show 2 * 0 + _ ≤ _; exact Nat.le_of_eq rfl) (hb hby d5_2) (fun _ _ => ⟨rfl, e0, (by decide : 0 + 1 ≤ _), (by decide : 0 + 200 ≤ _)⟩)
  dsimp only [Pt.U, Pt.locs, Pt.cells, Pt.slots] at X1 l1 y1 z1 st1 hQ1
  rw [l1, y1, z1] at X1
  obtain ⟨rfl, N1q, Kp1, qs1⟩ := hQ1
  have N1 := Fr.app N0 N1q
  obtain ⟨fs, hr, hrun, hended, hW, hsame⟩ := X1.leave (v := some (.ref o0)) (fun h => by rw [Bd.returns] at h; cases h)
  refine ⟨_, _, pre0 _ ?_, hrun, hended, _, _, rfl, ?_, ⟨_, rfl⟩, hW, hsame.mono (by decide) (by decide)⟩
  · skip
    refine XS.aloadN X0.here hx rfl (hb hby d5_0) rfl rfl ?_
    refine XS.aloadN X0.here hx rfl (hb hby d5_1) rfl rfl ?_
    refine st1.trans ?_
    show Steps p.tables e below (T1.setTop (mkF m 5 #[vR o0, vR o1] [(.ref o0)])) _
    refine XS.pop X1.here hx rfl (hb hby d5_5) rfl rfl ?_
    refine XS.aloadN X1.here hx rfl (hb hby d5_6) rfl rfl ?_
    show Steps p.tables e below (T1.setTop (mkF m 7 #[vR o0, vR o1] [(.ref o0)])) _
    jvm_step X1.here [X1.here.top, hx, (hb hby d5_7), X1.method', Bd.returns, Value.isRef, FieldType.isReference]
    first | (intro acts; rw [hr _ acts rfl rfl rfl]) | rw [hr _ _ rfl rfl rfl]
    exact Steps.refl _
  · show QBa Z o0 vb cap (nb + n) (fun j => if nb ≤ j ∧ j < nb + n then g (j - nb) else f j) h0 n0 _ T1.heap _
    exact ⟨rfl, N1, Kp1, qs1⟩
theorem ef_sAs1 (m : MethodId) (x0 : Addr) (x1 : Addr) : entryFrame m #[(.ref x0), (.ref x1)] 2 = mkF m 0 #[.val (.ref x0), .val (.ref x1)] [] := by first | (simp [entryFrame, mkF, argsToLocals, Value.category]; done) | rfl
set_option maxRecDepth 65536 in
set_option maxHeartbeats 40000000 in
theorem sAs1 (l : Launch) (Z : State) (a0 : Array Value) (hw : ∀ d ∈ tables_1, d.before a0 Z = true) (ws : List Jvm.Cond) (o0 : Addr) (o1 : Addr) (vb : Addr) (kb : ClassId) (cap nb : Nat) (f : Nat → Nat) (v0 : Addr) (k0 : ClassId) (n : Nat) (g : Nat → Nat) (hn : n ≤ 400) (hg : Asc g) (mx r : Nat) (hmn : cap < (nb + n)) (hmx : ((nb + n) - cap < cap + 2 → mx = cap + 2) ∧ (¬ (nb + n) - cap < cap + 2 → mx = (nb + n) - cap)) (hrs : cap + mx = r) (hr2 : r ≤ 200) (hcap : cap ≤ 300) (hnb : nb ≤ cap) (hf : Asc f) (h0 : Heap) (n0 : Nat) (Z0 : n0 ≤ h0.size) (KZ : Keep Z.heap h0 []) (hz : Z.heap.size ≤ n0) (R_b : BD Z h0 o0 vb kb cap nb f) (R_s : SB Z h0 o1 v0 k0 n (fun i => Int32.ofNat (g i))) (g_o : n0 ≤ o0) (g_b : n0 ≤ vb) (q0 : o0 ≠ vb) (q1 : o1 ≠ o0) (q2 : v0 ≠ o0) (q3 : o1 ≠ vb) (q4 : v0 ≠ vb) (cs : Int32) (hcs : ¬ cs = (0 : Int32)) (S_Cz : Sta Z Z.heap "java/lang/String" "COMPACT_STRINGS" "Z" (.int cs)) :
    MetFree l (⟨"java/lang/StringBuilder", "append", "(Ljava/lang/String;)Ljava/lang/StringBuilder;"⟩ : MethodName) (head1 (Jvm.Cond.code (⟨"java/lang/StringBuilder", "append", "(Ljava/lang/String;)Ljava/lang/StringBuilder;"⟩ : MethodName) jdk_67_method_7_code 2 (some (.object "java/lang/StringBuilder")) :: ws) ({ frames := 5, cells := 1, slots := 200, locals := 116 } : Room)) (fun a U => a = #[(.ref o0), (.ref o1)] ∧ Z.Warmed39 U.vm ∧ U.heap = h0) (fun _ _ _ _ _ => True) (fun _ U o U' => ∃ v L, o = .returned v ∧ QBa Z o0 vb r (nb + n) (fun j => if nb ≤ j ∧ j < nb + n then g (j - nb) else (fun i => if i < cap then f i else 0) j) h0 n0 v U'.heap L ∧ FrameEnd U o U' L ({ frames := 5, cells := 1, slots := 200, locals := 116 } : Room).cells ({ frames := 5, cells := 1, slots := 200, locals := 116 } : Room).slots) := by
  refine MetFree.of_bodySF (plainFor_of_name pn_5) hisR ?_
  intro p e s m args below meth c s₁ Bd hml0 hP hK
  obtain ⟨rfl, hZ, hh⟩ := hP
  have hx := Bd.exec
  have hby := Bd.bytes
  have hml : c.maxLocals = 2 := hml0
  have hown : s.vm.findClass "java/lang/StringBuilder" = some m.cls := findClass_of_methodNamed Bd.named
  have hnm := (name_of_methodNamed Bd.named Bd.method).1
  have X0 : Stand p l e ({ frames := 5, cells := 1, slots := 200, locals := 116 } : Room) s m #[(.ref o0), (.ref o1)] below meth c s₁ [] 0 0 := Stand.of_body Bd
  have e0 : s₁.heap = h0 := by rw [← hh, Bd.state]; rfl
  have N0 := Fr.nil n0
  have pre0 : ∀ t, Steps p.tables e below (s₁.setTop (mkF m 0 #[vR o0, vR o1] [])) t → Steps p.tables e below (s₁.setTop (entryFrame m #[(.ref o0), (.ref o1)] 2)) t := fun t k => castTop (ef_sAs1 m o0 o1) k
  obtain ⟨EB, FcB, FnB, FvB, VB⟩ := id R_b
  obtain ⟨E, Fc, Fv, Va⟩ := id R_s
  obtain ⟨_, _, ⟨T1, L1, k1, n1⟩, -, X1, ⟨Lc1, hQ1, l1, y1, z1⟩, st1⟩ := superBack X0 hx hZ hown (y := (⟨"java/lang/AbstractStringBuilder", "append", "(Ljava/lang/String;)Ljava/lang/AbstractStringBuilder;"⟩ : MethodName)) (wd hw 43 rfl) (own_same (y := (⟨"java/lang/AbstractStringBuilder", "append", "(Ljava/lang/String;)Ljava/lang/AbstractStringBuilder;"⟩ : MethodName)) (y2 := (⟨"java/lang/AbstractStringBuilder", "isLatin1", "()Z"⟩ : MethodName)) (by decide) (wd hw 44 rfl) (wd hw 127 rfl) (notFace_of_selects (args := #[]) (wd hw 128 rfl)) rfl) (wd hw 44 rfl) (wd hw 45 rfl) (by decide) (backOf (W := 0) (bAs1 l Z a0 hw [] o0 o1 vb kb cap nb f v0 k0 n g hn hg mx r hmn hmx hrs hr2 hcap hnb hf h0 n0 Z0 KZ hz R_b R_s g_o g_b q0 q1 q2 q3 q4 cs hcs S_Cz) hZ (wd hw 47 rfl) (wd hw 20 rfl) (by decide) (by decide)) e0 (K := "java/lang/StringBuilder") (Ins.self EB) (g := (mkF m 2 #[vR o0, vR o1] [(.ref o1), (.ref o0)])) rfl (by rw [hml]; rfl) (wd hw 47 rfl) (argsL := [(.ref o1)]) (rest := []) (lenOf pd__Ljava_lang_String__Ljava_lang_AbstractStringBuilder_ rfl) rfl (by show 2 * 0 + _ ≤ _; exact Nat.le_of_eq rfl) (hb hby d5_2) (fun _ _ => ⟨rfl, e0, (by decide : 0 + 1 ≤ _), (by decide : 0 + 200 ≤ _)⟩)
  dsimp only [Pt.U, Pt.locs, Pt.cells, Pt.slots] at X1 l1 y1 z1 st1 hQ1
  rw [l1, y1, z1] at X1
  obtain ⟨rfl, N1q, Kp1, qs1⟩ := hQ1
  have N1 := Fr.app N0 N1q
  obtain ⟨fs, hr, hrun, hended, hW, hsame⟩ := X1.leave (v := some (.ref o0)) (fun h => by rw [Bd.returns] at h; cases h)
  refine ⟨_, _, pre0 _ ?_, hrun, hended, _, _, rfl, ?_, ⟨_, rfl⟩, hW, hsame.mono (by decide) (by decide)⟩
  · skip
    refine XS.aloadN X0.here hx rfl (hb hby d5_0) rfl rfl ?_
    refine XS.aloadN X0.here hx rfl (hb hby d5_1) rfl rfl ?_
    refine st1.trans ?_
    show Steps p.tables e below (T1.setTop (mkF m 5 #[vR o0, vR o1] [(.ref o0)])) _
    refine XS.pop X1.here hx rfl (hb hby d5_5) rfl rfl ?_
    refine XS.aloadN X1.here hx rfl (hb hby d5_6) rfl rfl ?_
    show Steps p.tables e below (T1.setTop (mkF m 7 #[vR o0, vR o1] [(.ref o0)])) _
    jvm_step X1.here [X1.here.top, hx, (hb hby d5_7), X1.method', Bd.returns, Value.isRef, FieldType.isReference]
    first | (intro acts; rw [hr _ acts rfl rfl rfl]) | rw [hr _ _ rfl rfl rfl]
    exact Steps.refl _
  · show QBa Z o0 vb r (nb + n) (fun j => if nb ≤ j ∧ j < nb + n then g (j - nb) else (fun i => if i < cap then f i else 0) j) h0 n0 _ T1.heap _
    exact ⟨rfl, N1, Kp1, qs1⟩
theorem d19_0 : decode jdk_68_method_33_code 0 = .ok (.aload_n 0, 1) := by decide +kernel
theorem d19_1 : decode jdk_68_method_33_code 1 = .ok (.getfield 79, 3) := by decide +kernel
theorem d19_4 : decode jdk_68_method_33_code 4 = .ok (.istore_n 3, 1) := by decide +kernel
theorem d19_5 : decode jdk_68_method_33_code 5 = .ok (.iload_n 3, 1) := by decide +kernel
theorem d19_6 : decode jdk_68_method_33_code 6 = .ok (.lload_n 1, 1) := by decide +kernel
theorem pd__J_I : parseMethodDescriptor "(J)I" = some ⟨[.long], some .int⟩ := by decide +kernel
theorem d19_7 : decode jdk_68_method_33_code 7 = .ok (.invokestatic 254, 3) := by decide +kernel
theorem d19_10 : decode jdk_68_method_33_code 10 = .ok (.iadd, 1) := by decide +kernel
theorem d19_11 : decode jdk_68_method_33_code 11 = .ok (.istore 4, 2) := by decide +kernel
theorem d19_13 : decode jdk_68_method_33_code 13 = .ok (.aload_n 0, 1) := by decide +kernel
theorem d19_14 : decode jdk_68_method_33_code 14 = .ok (.iload 4, 2) := by decide +kernel
theorem d19_16 : decode jdk_68_method_33_code 16 = .ok (.invokevirtual 100, 3) := by decide +kernel
theorem d19_19 : decode jdk_68_method_33_code 19 = .ok (.aload_n 0, 1) := by decide +kernel
theorem d19_20 : decode jdk_68_method_33_code 20 = .ok (.invokevirtual 83, 3) := by decide +kernel
theorem d19_23 : decode jdk_68_method_33_code 23 = .ok (.ifCond .eq 17, 3) := by decide +kernel
theorem d19_26 : decode jdk_68_method_33_code 26 = .ok (.lload_n 1, 1) := by decide +kernel
theorem d19_27 : decode jdk_68_method_33_code 27 = .ok (.iload 4, 2) := by decide +kernel
theorem d19_29 : decode jdk_68_method_33_code 29 = .ok (.aload_n 0, 1) := by decide +kernel
theorem d19_30 : decode jdk_68_method_33_code 30 = .ok (.getfield 15, 3) := by decide +kernel
theorem pd__JI_B_I : parseMethodDescriptor "(JI[B)I" = some ⟨[.long, .int, (.array .byte)], some .int⟩ := by decide +kernel
theorem d19_33 : decode jdk_68_method_33_code 33 = .ok (.invokestatic 259, 3) := by decide +kernel
theorem d19_36 : decode jdk_68_method_33_code 36 = .ok (.pop, 1) := by decide +kernel
theorem d19_37 : decode jdk_68_method_33_code 37 = .ok (.goto 15, 3) := by decide +kernel
theorem d19_52 : decode jdk_68_method_33_code 52 = .ok (.aload_n 0, 1) := by decide +kernel
theorem d19_53 : decode jdk_68_method_33_code 53 = .ok (.iload 4, 2) := by decide +kernel
theorem d19_55 : decode jdk_68_method_33_code 55 = .ok (.putfield 79, 3) := by decide +kernel
theorem d19_58 : decode jdk_68_method_33_code 58 = .ok (.aload_n 0, 1) := by decide +kernel
theorem d19_59 : decode jdk_68_method_33_code 59 = .ok (.areturn, 1) := by decide +kernel
theorem pn_19 : plainName "java/lang/AbstractStringBuilder" = true := by first | (simp [plainName, overriddenIn]; done) | decide +kernel
theorem ef_bAj (m : MethodId) (x0 : Addr) (x1 : Int64) : entryFrame m #[(.ref x0), (.long x1)] 5 = mkF m 0 #[.val (.ref x0), .val (.long x1), .second, .unset, .unset] [] := by first | (simp [entryFrame, mkF, argsToLocals, Value.category]; done) | rfl
set_option maxRecDepth 65536 in
set_option maxHeartbeats 40000000 in
theorem bAj (l : Launch) (Z : State) (a0 : Array Value) (hw : ∀ d ∈ tables_1, d.before a0 Z = true) (ws : List Jvm.Cond) (o0 : Addr) (xx : Int64) (vb : Addr) (kb : ClassId) (cap nb : Nat) (f : Nat → Nat) (nn sz : Nat) (hnn : nn ≤ 2 ^ 63) (hxn : (if xx < 0 then xx else -xx) = SBG.negL nn) (hsz : SBG.digitsL nn + SBG.GetCharsL.sgnL xx = sz) (mx r : Nat) (hmn : cap < (nb + sz)) (hmx : ((nb + sz) - cap < cap + 2 → mx = cap + 2) ∧ (¬ (nb + sz) - cap < cap + 2 → mx = (nb + sz) - cap)) (hrs : cap + mx = r) (hr2 : r ≤ 200) (hcap : cap ≤ 300) (hnb : nb ≤ cap) (hf : Asc f) (h0 : Heap) (n0 : Nat) (Z0 : n0 ≤ h0.size) (KZ : Keep Z.heap h0 []) (hz : Z.heap.size ≤ n0) (R_b : BD Z h0 o0 vb kb cap nb f) (g_o : n0 ≤ o0) (g_b : n0 ≤ vb) (q0 : o0 ≠ vb) (stI dgA dgB : Addr) (DgA DgB : Cell) (tbA : SBG.Tbl Z "DigitOnes" stI dgA DgA) (tbB : SBG.Tbl Z "DigitTens" stI dgB DgB) (onA : SBG.Ones DgA) (teB : SBG.Tens DgB) (cs : Int32) (hcs : ¬ cs = (0 : Int32)) (S_Cz : Sta Z Z.heap "java/lang/String" "COMPACT_STRINGS" "Z" (.int cs)) :
    MetFree l (⟨"java/lang/AbstractStringBuilder", "append", "(J)Ljava/lang/AbstractStringBuilder;"⟩ : MethodName) (head1 (Jvm.Cond.code (⟨"java/lang/AbstractStringBuilder", "append", "(J)Ljava/lang/AbstractStringBuilder;"⟩ : MethodName) jdk_68_method_33_code 5 (some (.object "java/lang/AbstractStringBuilder")) :: ws) ({ frames := 4, cells := 1, slots := 200, locals := 110 } : Room)) (fun a U => a = #[(.ref o0), (.long xx)] ∧ Z.Warmed39 U.vm ∧ U.heap = h0) (fun _ _ _ _ _ => True) (fun _ U o U' => ∃ v L, o = .returned v ∧ QBa Z o0 vb r (nb + sz) (gcF xx nn (nb + sz) (fun i => if i < cap then f i else 0)) h0 n0 v U'.heap L ∧ FrameEnd U o U' L ({ frames := 4, cells := 1, slots := 200, locals := 110 } : Room).cells ({ frames := 4, cells := 1, slots := 200, locals := 110 } : Room).slots) := by
  refine MetFree.of_bodySF (plainFor_of_name pn_19) hisR ?_
  intro p e s m args below meth c s₁ Bd hml0 hP hK
  obtain ⟨rfl, hZ, hh⟩ := hP
  have hx := Bd.exec
  have hby := Bd.bytes
  have hml : c.maxLocals = 5 := hml0
  have hown : s.vm.findClass "java/lang/AbstractStringBuilder" = some m.cls := findClass_of_methodNamed Bd.named
  have hnm := (name_of_methodNamed Bd.named Bd.method).1
  have X0 : Stand p l e ({ frames := 4, cells := 1, slots := 200, locals := 110 } : Room) s m #[(.ref o0), (.long xx)] below meth c s₁ [] 0 0 := Stand.of_body Bd
  have e0 : s₁.heap = h0 := by rw [← hh, Bd.state]; rfl
  have N0 := Fr.nil n0
  have pre0 : ∀ t, Steps p.tables e below (s₁.setTop (mkF m 0 #[vR o0, vJ xx, zS, zU, zU] [])) t → Steps p.tables e below (s₁.setTop (entryFrame m #[(.ref o0), (.long xx)] 5)) t := fun t k => castTop (ef_bAj m o0 xx) k
  have hsz21 : sz ≤ 21 := by have h1 := (SBG.digitsL_pos nn).2; have h2 := sgnle xx; omega
  have S_C := own_sta_keep S_Cz KZ all0
  obtain ⟨EB, FcB, FnB, FvB, VB⟩ := id R_b
  obtain ⟨T1, X1, e1, st1⟩ := getF X0 hx hZ hown (host := "") (Or.inl (wd hw 61 rfl)) Via.refl e0 FnB (g := (mkF m 1 #[vR o0, vJ xx, zS, zU, zU] [(.ref o0)])) rfl rfl (hb hby d19_1)
  obtain ⟨_, _, ⟨T2, L2, k2, n2⟩, -, X2, ⟨⟨u21, u22, u23, u24⟩, hv2⟩, st2⟩ := Jvm.LawKit.callS X1 hx (y := (⟨"java/lang/Long", "stringSize", "(J)I"⟩ : MethodName)) hown (mvT hZ (wd hw 120 rfl)) (mvT hZ (wd hw 121 rfl)) (mvT hZ (wd hw 122 rfl)) (mvT hZ (wd hw 123 rfl)) (by decide) (SBG.StrSizeL.pays (W := 1) (by decide) (by decide) (own_ss_tab hZ hw) (mvT hZ (wd hw 122 rfl))) (g := (mkF m 7 #[vR o0, vJ xx, zS, vI (Int32.ofNat nb), zU] [(.long xx), (.int (Int32.ofNat nb))])) rfl (by rw [hml]; rfl) (argsL := [(.long xx)]) (rest := [(.int (Int32.ofNat nb))]) (lenOf pd__J_I rfl) rfl (by show 2 * 0 + _ ≤ _; exact Nat.le_of_eq rfl) (hb hby d19_7) (fun _ _ => ⟨(by decide : 0 ≤ 1), (by decide : 0 ≤ 200), xx, rfl⟩)
  dsimp only [Pt.U, Pt.locs, Pt.cells, Pt.slots] at X2 u21 u22 u23 u24 st2 hv2
  rw [u22, u23, u24] at X2
  have hv2' := hv2 xx rfl
  rw [SBG.strSizeOfL_eq hnn hxn, hsz] at hv2'; subst hv2'
  have e2 : T2.heap = h0 := u21.trans e1
  obtain ⟨cq3, kq3, q3a, q3b, q3c⟩ := isOf hZ e2 EB
  obtain ⟨_, _, ⟨T3, L3, k3, n3⟩, -, X3, ⟨Lc3, hQ3, l3, y3, z3⟩, st3⟩ := X2.virtualBack hx (y := (⟨"java/lang/AbstractStringBuilder", "ensureCapacityInternal", "(I)V"⟩ : MethodName)) (z := (⟨"java/lang/AbstractStringBuilder", "ensureCapacityInternal", "(I)V"⟩ : MethodName)) hown (mvT hZ (wd hw 63 rfl)) (mvT hZ (own_declares (wd hw 64 rfl) (wd hw 67 rfl))) (notFace_of_selects (args := #[]) (mvT hZ (wd hw 66 rfl))) (mvT hZ (wd hw 66 rfl)) (mvT hZ (wd hw 64 rfl)) (by decide) (backOf (W := 0) (bEn1 l Z a0 hw [] o0 vb kb cap nb f (nb + sz) mx r hmn (by omega) hmx hrs hr2 (by omega) hnb hf h0 n0 Z0 KZ hz R_b g_o) hZ (wd hw 67 rfl) (wd hw 20 rfl) (by decide) (by decide)) q3a q3c (g := (mkF m 16 #[vR o0, vJ xx, zS, vI (Int32.ofNat nb), vI (Int32.ofNat (nb + sz))] [(.int (Int32.ofNat (nb + sz))), (.ref o0)])) rfl (by rw [hml]; rfl) (Steps.refl _) (argsL := [(.int (Int32.ofNat (nb + sz)))]) (rest := []) (lenOf pd__I_V rfl) rfl (by show 2 * 0 + _ ≤ _; exact Nat.le_of_eq rfl) (hb hby d19_16) (fun _ _ => ⟨rfl, e2, (by decide : 0 + 1 ≤ _), (by decide : 0 + 200 ≤ _)⟩)
  dsimp only [Pt.U, Pt.locs, Pt.cells, Pt.slots] at X3 l3 y3 z3 st3 hQ3
  rw [l3, y3, z3] at X3
  obtain ⟨rfl, N3q, Kp3, ca3, kc3, gc3, sc3, Bd3⟩ := hQ3
  have N3 := Fr.app N0 N3q
  have Zs3 : n0 ≤ T3.heap.size := Nat.le_trans Z0 Kp3.1
  have Kk3 : Keep h0 T3.heap [o0, vb] := (Keep.refl h0 [o0, vb]).trans Kp3 (allS (Or.inl (List.mem_of_getElem? (i := 0) rfl)) all0)
  obtain ⟨EB3, FcB3, FnB3, FvB3, VB3⟩ := id Bd3
  have nn3o : o0 ≠ ca3 := Nat.ne_of_lt (Nat.lt_of_lt_of_le (EB).lt sc3)
  obtain ⟨cq4, kq4, q4a, q4b, q4c⟩ := isOf hZ rfl EB3
  obtain ⟨_, _, ⟨T4, L4, k4, n4⟩, -, X4, ⟨Lc4, hQ4, l4, y4, z4⟩, st4⟩ := X3.virtualBack hx (y := (⟨"java/lang/AbstractStringBuilder", "isLatin1", "()Z"⟩ : MethodName)) (z := (⟨"java/lang/AbstractStringBuilder", "isLatin1", "()Z"⟩ : MethodName)) hown (mvT hZ (wd hw 125 rfl)) (mvT hZ (wd hw 126 rfl)) (notFace_of_selects (args := #[]) (mvT hZ (wd hw 128 rfl))) (mvT hZ (wd hw 128 rfl)) (mvT hZ (wd hw 127 rfl)) (by decide) (backOf (W := 0) (bLat l Z a0 hw [] o0 ca3 kc3 r nb (fun i => if i < cap then f i else 0) (by omega) (by omega) (fun i => by show (if i < cap then f i else 0) < 128; split; exact hf _; decide) T3.heap n0 Zs3 (KZ.trans Kk3 (allS (Or.inr (Nat.le_trans hz g_o)) (allS (Or.inr (Nat.le_trans hz g_b)) all0))) hz ⟨EB3, FcB3, FnB3, FvB3, VB3⟩ cs hcs S_Cz) hZ (wd hw 129 rfl) (wd hw 20 rfl) (by decide) (by decide)) q4a q4c (g := (mkF m 20 #[vR o0, vJ xx, zS, vI (Int32.ofNat nb), vI (Int32.ofNat (nb + sz))] [(.ref o0)])) rfl (by rw [hml]; rfl) (Steps.refl _) (argsL := []) (rest := []) (lenOf pd___Z rfl) rfl (by show 2 * 0 + _ ≤ _; exact Nat.le_of_eq rfl) (hb hby d19_20) (fun _ _ => ⟨rfl, rfl, (by decide : 1 + 0 ≤ _), (by decide : 200 + 0 ≤ _)⟩)
  dsimp only [Pt.U, Pt.locs, Pt.cells, Pt.slots] at X4 l4 y4 z4 st4 hQ4
  rw [l4, y4, z4] at X4
  obtain ⟨rfl, N4q, e4⟩ := hQ4
  have N4 := Fr.app N3 N4q
  obtain ⟨T5, X5, e5, st5⟩ := getF X4 hx hZ hown (host := "") (Or.inl (wd hw 28 rfl)) Via.refl e4 FvB3 (g := (mkF m 30 #[vR o0, vJ xx, zS, vI (Int32.ofNat nb), vI (Int32.ofNat (nb + sz))] [(.ref o0), (.int (Int32.ofNat (nb + sz))), (.long xx)])) rfl rfl (hb hby d19_30)
  obtain ⟨cA6, Ar6, qa6, Sa6, Ha6⟩ := id VB3
  have hzv6 : Z.heap.size ≤ ca3 := Nat.le_trans hz gc3
  have KZ6 := (KZ.trans Kk3 (allS (Or.inr (Nat.le_trans hz g_o)) (allS (Or.inr (Nat.le_trans hz g_b)) all0)))
  obtain ⟨_, _, ⟨T7, L7, k7, n7⟩, -, X7, ⟨rfl, hc7, u73, u74, u75, u76, Lc7, u77, u78⟩, st7⟩ := Jvm.LawKit.callS X5 hx (y := (⟨"java/lang/Long", "getChars", "(JI[B)I"⟩ : MethodName)) hown (mvT hZ (wd hw 130 rfl)) (mvT hZ (wd hw 131 rfl)) (mvT hZ (wd hw 122 rfl)) (mvT hZ (wd hw 132 rfl)) (by decide) (SBG.GetCharsL.pays ⟨xx, nn, nb + sz, ca3, cA6, stI, dgA, DgA, dgB, DgB⟩ 0 (own_gc_tab hZ hw) (mvT hZ (wd hw 122 rfl)) (by decide) (by decide)) (g := (mkF m 33 #[vR o0, vJ xx, zS, vI (Int32.ofNat nb), vI (Int32.ofNat (nb + sz))] [(.ref ca3), (.int (Int32.ofNat (nb + sz))), (.long xx)])) rfl (by rw [hml]; rfl) (argsL := [(.long xx), (.int (Int32.ofNat (nb + sz))), (.ref ca3)]) (rest := []) (lenOf pd__JI_B_I rfl) rfl (by show 2 * 0 + _ ≤ _; exact Nat.le_of_eq rfl) (hb hby d19_33) (fun vm₁ hW₁ => ⟨rfl, (by decide : 1 ≤ 1), (by decide : 200 ≤ 200), own_gcP (U := T5.setVm vm₁) (hZ.alike.trans hW₁.alike) e5 KZ6 Ar6 Sa6 (by omega) (by omega) (by rw [hsz]; omega) hnn hxn tbA tbB hzv6⟩)
  dsimp only [Pt.U, Pt.locs, Pt.cells, Pt.slots] at X7 hc7 u73 u74 u75 u76 u77 st7
  rw [u77, u73, u74] at X7
  obtain ⟨Kg7, Gg7⟩ := own_gcQ (h := T3.heap) (h' := T7.heap) (x := xx) (n := nn) (idx := nb + sz) (st := stI) (d1 := dgA) (d2 := dgB) Ar6 qa6 Sa6 Ha6 (fun i => by show (if i < cap then f i else 0) < 128; split; exact hf _; decide) (by omega) (by rw [hsz]; omega) hnn onA teB hc7 (u75.trans (congrArg Array.size e5)) (fun y cy ne q => u76 y cy ne (by have q' := q; rw [← e5] at q'; exact q'))
  have N7 := Fr.app N4 (own_frb gc3 u78)
  have Zs7 : n0 ≤ T7.heap.size := Nat.le_trans Zs3 Kg7.1
  have Kk7 : Keep h0 T7.heap [o0, vb] := Kk3.trans Kg7 (allS (Or.inr sc3) all0)
  have FnB3_8 := (FnB3.keep Kg7 (ninS nn3o nin0))
  have EB3_9 := (EB3.keep Kg7)
  obtain ⟨T10, h10, X10, e10, W10, st10⟩ := putF X7 hx hZ hown (host := "") (Or.inl (wd hw 61 rfl)) Via.refl rfl FnB3_8 EB3_9 (Or.inl (wd hw 62 rfl)) (wd hw 11 rfl) (ty := .int) (by decide) rfl rfl (g := (mkF m 55 #[vR o0, vJ xx, zS, vI (Int32.ofNat nb), vI (Int32.ofNat (nb + sz))] [(.int (Int32.ofNat (nb + sz))), (.ref o0)])) rfl rfl (hb hby d19_55)
  have Fw10 := FnB3_8.same W10
  have Zs10 : n0 ≤ h10.size := Nat.le_trans Zs7 (Nat.le_of_eq W10.size.symm)
  have K10 : Keep h0 h10 [o0, vb] := Kk7.wr W10 (Or.inl (List.mem_of_getElem? (i := 0) rfl))
  have N10 := Fr.snoc X10 N7 g_o
  have EB3_11 := (EB3_9.wr W10)
  have FcB3_12 := ((FcB3.keep Kg7 (ninS nn3o nin0)).other W10 (Or.inr (slot_ne (Or.inl (wd hw 31 rfl)) (Or.inl (wd hw 62 rfl)) (by decide) (t := .byte) (t' := .int) (by decide) (by decide))))
  have FvB3_13 := ((FvB3.keep Kg7 (ninS nn3o nin0)).other W10 (Or.inr (slot_ne (Or.inl (wd hw 29 rfl)) (Or.inl (wd hw 62 rfl)) (by decide) (t := (.array .byte)) (t' := .int) (by decide) (by decide))))
  have Gg7_14 := (Gg7.other W10 (Ne.symm nn3o))
  obtain ⟨fs, hr, hrun, hended, hW, hsame⟩ := X10.leave (v := some (.ref o0)) (fun h => by rw [Bd.returns] at h; cases h)
  refine ⟨_, _, pre0 _ ?_, hrun, hended, _, _, rfl, ?_, ⟨_, rfl⟩, hW, hsame.mono (by decide) (by decide)⟩
  · skip
    refine XS.aloadN X0.here hx rfl (hb hby d19_0) rfl rfl ?_
    refine st1 _ ?_
    refine XS.istoreN X1.here hx rfl (hb hby d19_4) rfl (l' := #[vR o0, vJ xx, zS, vI (Int32.ofNat nb), zU]) rfl ?_
    show Steps p.tables e below (T1.setTop (mkF m 5 #[vR o0, vJ xx, zS, vI (Int32.ofNat nb), zU] [])) _
    refine XS.iloadN X1.here hx rfl (hb hby d19_5) rfl ?_
    refine XS.lloadN X1.here hx rfl (hb hby d19_6) rfl ?_
    show Steps p.tables e below (T1.setTop (mkF m 7 #[vR o0, vJ xx, zS, vI (Int32.ofNat nb), zU] [(.long xx), (.int (Int32.ofNat nb))])) _
    refine st2 _ ?_
    refine XS.iadd X2.here hx rfl (hb hby d19_10) rfl ?_
    show Steps p.tables e below (T2.setTop (mkF m 11 #[vR o0, vJ xx, zS, vI (Int32.ofNat nb), zU] [(.int ((Int32.ofNat nb) + (Int32.ofNat sz)))])) _
    rw [own_addN]
    refine XS.istore X2.here hx rfl (hb hby d19_11) rfl (l' := #[vR o0, vJ xx, zS, vI (Int32.ofNat nb), vI (Int32.ofNat (nb + sz))]) rfl ?_
    show Steps p.tables e below (T2.setTop (mkF m 13 #[vR o0, vJ xx, zS, vI (Int32.ofNat nb), vI (Int32.ofNat (nb + sz))] [])) _
    refine XS.aloadN X2.here hx rfl (hb hby d19_13) rfl rfl ?_
    refine XS.iload X2.here hx rfl (hb hby d19_14) rfl ?_
    refine st3.trans ?_
    refine XS.aloadN X3.here hx rfl (hb hby d19_19) rfl rfl ?_
    show Steps p.tables e below (T3.setTop (mkF m 20 #[vR o0, vJ xx, zS, vI (Int32.ofNat nb), vI (Int32.ofNat (nb + sz))] [(.ref o0)])) _
    refine st4.trans ?_
    refine XS.ifNo X4.here hx rfl (hb hby d19_23) rfl ((if0 _ _).trans (feq (by decide : ¬ ((1 : Int32) = (0 : Int32)))).1) ?_
    refine XS.lloadN X4.here hx rfl (hb hby d19_26) rfl ?_
    refine XS.iload X4.here hx rfl (hb hby d19_27) rfl ?_
    show Steps p.tables e below (T4.setTop (mkF m 29 #[vR o0, vJ xx, zS, vI (Int32.ofNat nb), vI (Int32.ofNat (nb + sz))] [(.int (Int32.ofNat (nb + sz))), (.long xx)])) _
    refine XS.aloadN X4.here hx rfl (hb hby d19_29) rfl rfl ?_
    refine st5 _ ?_
    show Steps p.tables e below (T5.setTop (mkF m 33 #[vR o0, vJ xx, zS, vI (Int32.ofNat nb), vI (Int32.ofNat (nb + sz))] [(.ref ca3), (.int (Int32.ofNat (nb + sz))), (.long xx)])) _
    refine st7 _ ?_
    refine XS.pop X7.here hx rfl (hb hby d19_36) rfl rfl ?_
    refine XS.goto X7.here hx rfl (pc0 := 37) (pc' := 52) rfl (hb hby d19_37) (by decide) (by decide) ?_
    show Steps p.tables e below (T7.setTop (mkF m 52 #[vR o0, vJ xx, zS, vI (Int32.ofNat nb), vI (Int32.ofNat (nb + sz))] [])) _
    refine XS.aloadN X7.here hx rfl (hb hby d19_52) rfl rfl ?_
    refine XS.iload X7.here hx rfl (hb hby d19_53) rfl ?_
    refine st10 _ ?_
    refine XS.aloadN X10.here hx rfl (hb hby d19_58) rfl rfl ?_
    show Steps p.tables e below (T10.setTop (mkF m 59 #[vR o0, vJ xx, zS, vI (Int32.ofNat nb), vI (Int32.ofNat (nb + sz))] [(.ref o0)])) _
    jvm_step X10.here [X10.here.top, hx, (hb hby d19_59), X10.method', Bd.returns, Value.isRef, FieldType.isReference]
    first | (intro acts; rw [hr _ acts rfl rfl rfl]) | rw [hr _ _ rfl rfl rfl]
    exact Steps.refl _
  · show QBa Z o0 vb r (nb + sz) (gcF xx nn (nb + sz) (fun i => if i < cap then f i else 0)) h0 n0 _ T10.heap _
    rw [e10]
    exact ⟨rfl, N10, K10, ca3, kc3, gc3, nn3o, (Or.inl sc3), EB3_11, FcB3_12, Fw10, FvB3_13, Gg7_14⟩
theorem d18_0 : decode jdk_67_method_16_code 0 = .ok (.aload_n 0, 1) := by decide +kernel
theorem d18_1 : decode jdk_67_method_16_code 1 = .ok (.lload_n 1, 1) := by decide +kernel
theorem d18_2 : decode jdk_67_method_16_code 2 = .ok (.invokespecial 56, 3) := by decide +kernel
theorem pd__J_Ljava_lang_AbstractStringBuilder_ : parseMethodDescriptor "(J)Ljava/lang/AbstractStringBuilder;" = some ⟨[.long], some (.object "java/lang/AbstractStringBuilder")⟩ := by decide +kernel
theorem d18_5 : decode jdk_67_method_16_code 5 = .ok (.pop, 1) := by decide +kernel
theorem d18_6 : decode jdk_67_method_16_code 6 = .ok (.aload_n 0, 1) := by decide +kernel
theorem d18_7 : decode jdk_67_method_16_code 7 = .ok (.areturn, 1) := by decide +kernel
theorem pn_18 : plainName "java/lang/StringBuilder" = true := by first | (simp [plainName, overriddenIn]; done) | decide +kernel
theorem ef_sAj (m : MethodId) (x0 : Addr) (x1 : Int64) : entryFrame m #[(.ref x0), (.long x1)] 3 = mkF m 0 #[.val (.ref x0), .val (.long x1), .second] [] := by first | (simp [entryFrame, mkF, argsToLocals, Value.category]; done) | rfl
set_option maxRecDepth 65536 in
set_option maxHeartbeats 40000000 in
theorem sAj (l : Launch) (Z : State) (a0 : Array Value) (hw : ∀ d ∈ tables_1, d.before a0 Z = true) (ws : List Jvm.Cond) (o0 : Addr) (xx : Int64) (vb : Addr) (kb : ClassId) (cap nb : Nat) (f : Nat → Nat) (nn sz : Nat) (hnn : nn ≤ 2 ^ 63) (hxn : (if xx < 0 then xx else -xx) = SBG.negL nn) (hsz : SBG.digitsL nn + SBG.GetCharsL.sgnL xx = sz) (mx r : Nat) (hmn : cap < (nb + sz)) (hmx : ((nb + sz) - cap < cap + 2 → mx = cap + 2) ∧ (¬ (nb + sz) - cap < cap + 2 → mx = (nb + sz) - cap)) (hrs : cap + mx = r) (hr2 : r ≤ 200) (hcap : cap ≤ 300) (hnb : nb ≤ cap) (hf : Asc f) (h0 : Heap) (n0 : Nat) (Z0 : n0 ≤ h0.size) (KZ : Keep Z.heap h0 []) (hz : Z.heap.size ≤ n0) (R_b : BD Z h0 o0 vb kb cap nb f) (g_o : n0 ≤ o0) (g_b : n0 ≤ vb) (q0 : o0 ≠ vb) (stI dgA dgB : Addr) (DgA DgB : Cell) (tbA : SBG.Tbl Z "DigitOnes" stI dgA DgA) (tbB : SBG.Tbl Z "DigitTens" stI dgB DgB) (onA : SBG.Ones DgA) (teB : SBG.Tens DgB) (cs : Int32) (hcs : ¬ cs = (0 : Int32)) (S_Cz : Sta Z Z.heap "java/lang/String" "COMPACT_STRINGS" "Z" (.int cs)) :
    MetFree l (⟨"java/lang/StringBuilder", "append", "(J)Ljava/lang/StringBuilder;"⟩ : MethodName) (head1 (Jvm.Cond.code (⟨"java/lang/StringBuilder", "append", "(J)Ljava/lang/StringBuilder;"⟩ : MethodName) jdk_67_method_16_code 3 (some (.object "java/lang/StringBuilder")) :: ws) ({ frames := 5, cells := 1, slots := 200, locals := 127 } : Room)) (fun a U => a = #[(.ref o0), (.long xx)] ∧ Z.Warmed39 U.vm ∧ U.heap = h0) (fun _ _ _ _ _ => True) (fun _ U o U' => ∃ v L, o = .returned v ∧ QBa Z o0 vb r (nb + sz) (gcF xx nn (nb + sz) (fun i => if i < cap then f i else 0)) h0 n0 v U'.heap L ∧ FrameEnd U o U' L ({ frames := 5, cells := 1, slots := 200, locals := 127 } : Room).cells ({ frames := 5, cells := 1, slots := 200, locals := 127 } : Room).slots) := by
  refine MetFree.of_bodySF (plainFor_of_name pn_18) hisR ?_
  intro p e s m args below meth c s₁ Bd hml0 hP hK
  obtain ⟨rfl, hZ, hh⟩ := hP
  have hx := Bd.exec
  have hby := Bd.bytes
  have hml : c.maxLocals = 3 := hml0
  have hown : s.vm.findClass "java/lang/StringBuilder" = some m.cls := findClass_of_methodNamed Bd.named
  have hnm := (name_of_methodNamed Bd.named Bd.method).1
  have X0 : Stand p l e ({ frames := 5, cells := 1, slots := 200, locals := 127 } : Room) s m #[(.ref o0), (.long xx)] below meth c s₁ [] 0 0 := Stand.of_body Bd
  have e0 : s₁.heap = h0 := by rw [← hh, Bd.state]; rfl
  have N0 := Fr.nil n0
  have pre0 : ∀ t, Steps p.tables e below (s₁.setTop (mkF m 0 #[vR o0, vJ xx, zS] [])) t → Steps p.tables e below (s₁.setTop (entryFrame m #[(.ref o0), (.long xx)] 3)) t := fun t k => castTop (ef_sAj m o0 xx) k
  obtain ⟨EB, FcB, FnB, FvB, VB⟩ := id R_b
  obtain ⟨_, _, ⟨T1, L1, k1, n1⟩, -, X1, ⟨Lc1, hQ1, l1, y1, z1⟩, st1⟩ := superBack X0 hx hZ hown (y := (⟨"java/lang/AbstractStringBuilder", "append", "(J)Ljava/lang/AbstractStringBuilder;"⟩ : MethodName)) (wd hw 116 rfl) (own_same (y := (⟨"java/lang/AbstractStringBuilder", "append", "(J)Ljava/lang/AbstractStringBuilder;"⟩ : MethodName)) (y2 := (⟨"java/lang/AbstractStringBuilder", "isLatin1", "()Z"⟩ : MethodName)) (by decide) (wd hw 117 rfl) (wd hw 127 rfl) (notFace_of_selects (args := #[]) (wd hw 128 rfl)) rfl) (wd hw 117 rfl) (wd hw 45 rfl) (by decide) (backOf (W := 0) (bAj l Z a0 hw [] o0 xx vb kb cap nb f nn sz hnn hxn hsz mx r hmn hmx hrs hr2 hcap hnb hf h0 n0 Z0 KZ hz R_b g_o g_b q0 stI dgA dgB DgA DgB tbA tbB onA teB cs hcs S_Cz) hZ (wd hw 119 rfl) (wd hw 20 rfl) (by decide) (by decide)) e0 (K := "java/lang/StringBuilder") (Ins.self EB) (g := (mkF m 2 #[vR o0, vJ xx, zS] [(.long xx), (.ref o0)])) rfl (by rw [hml]; rfl) (wd hw 119 rfl) (argsL := [(.long xx)]) (rest := []) (lenOf pd__J_Ljava_lang_AbstractStringBuilder_ rfl) rfl (by show 2 * 0 + _ ≤ _; exact Nat.le_of_eq rfl) (hb hby d18_2) (fun _ _ => ⟨rfl, e0, (by decide : 0 + 1 ≤ _), (by decide : 0 + 200 ≤ _)⟩)
  dsimp only [Pt.U, Pt.locs, Pt.cells, Pt.slots] at X1 l1 y1 z1 st1 hQ1
  rw [l1, y1, z1] at X1
  obtain ⟨rfl, N1q, Kp1, qs1⟩ := hQ1
  have N1 := Fr.app N0 N1q
  obtain ⟨fs, hr, hrun, hended, hW, hsame⟩ := X1.leave (v := some (.ref o0)) (fun h => by rw [Bd.returns] at h; cases h)
  refine ⟨_, _, pre0 _ ?_, hrun, hended, _, _, rfl, ?_, ⟨_, rfl⟩, hW, hsame.mono (by decide) (by decide)⟩
  · skip
    refine XS.aloadN X0.here hx rfl (hb hby d18_0) rfl rfl ?_
    refine XS.lloadN X0.here hx rfl (hb hby d18_1) rfl ?_
    refine st1.trans ?_
    show Steps p.tables e below (T1.setTop (mkF m 5 #[vR o0, vJ xx, zS] [(.ref o0)])) _
    refine XS.pop X1.here hx rfl (hb hby d18_5) rfl rfl ?_
    refine XS.aloadN X1.here hx rfl (hb hby d18_6) rfl rfl ?_
    show Steps p.tables e below (T1.setTop (mkF m 7 #[vR o0, vJ xx, zS] [(.ref o0)])) _
    jvm_step X1.here [X1.here.top, hx, (hb hby d18_7), X1.method', Bd.returns, Value.isRef, FieldType.isReference]
    first | (intro acts; rw [hr _ acts rfl rfl rfl]) | rw [hr _ _ rfl rfl rfl]
    exact Steps.refl _
  · show QBa Z o0 vb r (nb + sz) (gcF xx nn (nb + sz) (fun i => if i < cap then f i else 0)) h0 n0 _ T1.heap _
    exact ⟨rfl, N1, Kp1, qs1⟩
theorem d31_0 : decode jdk_65_method_131_code 0 = .ok (.iload_n 1, 1) := by decide +kernel
theorem d31_1 : decode jdk_65_method_131_code 1 = .ok (.iload_n 0, 1) := by decide +kernel
theorem d31_2 : decode jdk_65_method_131_code 2 = .ok (.if_icmp .ge 35, 3) := by decide +kernel
theorem d31_37 : decode jdk_65_method_131_code 37 = .ok (.return_, 1) := by decide +kernel
theorem pn_31 : plainName "java/util/Arrays" = true := by first | (simp [plainName, overriddenIn]; done) | decide +kernel
theorem ef_aCk (m : MethodId) (x0 : Int32) (x1 : Int32) : entryFrame m #[(.int x0), (.int x1)] 2 = mkF m 0 #[.val (.int x0), .val (.int x1)] [] := by first | (simp [entryFrame, mkF, argsToLocals, Value.category]; done) | rfl
set_option maxRecDepth 65536 in
set_option maxHeartbeats 40000000 in
theorem aCk (l : Launch) (Z : State) (a0 : Array Value) (hw : ∀ d ∈ tables_1, d.before a0 Z = true) (ws : List Jvm.Cond)  (nb : Nat) (hb2 : nb ≤ 200) (h0 : Heap) (n0 : Nat) (Z0 : n0 ≤ h0.size) :
    MetFree l (⟨"java/util/Arrays", "checkLength", "(II)V"⟩ : MethodName) (head1 (Jvm.Cond.code (⟨"java/util/Arrays", "checkLength", "(II)V"⟩ : MethodName) jdk_65_method_131_code 2 none :: ws) ({ frames := 0, cells := 0, slots := 0, locals := 0 } : Room)) (fun a U => a = #[(.int (0 : Int32)), (.int (Int32.ofNat nb))] ∧ Z.Warmed39 U.vm ∧ U.heap = h0) (fun _ _ _ _ _ => True) (fun _ U o U' => ∃ v L, o = .returned v ∧ QV h0 n0 v U'.heap L ∧ FrameEnd U o U' L ({ frames := 0, cells := 0, slots := 0, locals := 0 } : Room).cells ({ frames := 0, cells := 0, slots := 0, locals := 0 } : Room).slots) := by
  refine MetFree.of_bodySF (plainFor_of_name pn_31) hisR ?_
  intro p e s m args below meth c s₁ Bd hml0 hP hK
  obtain ⟨rfl, hZ, hh⟩ := hP
  have hx := Bd.exec
  have hby := Bd.bytes
  have hml : c.maxLocals = 2 := hml0
  have hown : s.vm.findClass "java/util/Arrays" = some m.cls := findClass_of_methodNamed Bd.named
  have hnm := (name_of_methodNamed Bd.named Bd.method).1
  have X0 : Stand p l e ({ frames := 0, cells := 0, slots := 0, locals := 0 } : Room) s m #[(.int (0 : Int32)), (.int (Int32.ofNat nb))] below meth c s₁ [] 0 0 := Stand.of_body Bd
  have e0 : s₁.heap = h0 := by rw [← hh, Bd.state]; rfl
  have N0 := Fr.nil n0
  have pre0 : ∀ t, Steps p.tables e below (s₁.setTop (mkF m 0 #[vI (0 : Int32), vI (Int32.ofNat nb)] [])) t → Steps p.tables e below (s₁.setTop (entryFrame m #[(.int (0 : Int32)), (.int (Int32.ofNat nb))] 2)) t := fun t k => castTop (ef_aCk m (0 : Int32) (Int32.ofNat nb)) k
  obtain ⟨fs, hr, hrun, hended, hW, hsame⟩ := X0.leave (v := none) (fun _ => rfl)
  refine ⟨_, _, pre0 _ ?_, hrun, hended, _, _, rfl, ?_, ⟨_, rfl⟩, hW, hsame.mono (by decide) (by decide)⟩
  · skip
    refine XS.iloadN X0.here hx rfl (hb hby d31_0) rfl ?_
    refine XS.iloadN X0.here hx rfl (hb hby d31_1) rfl ?_
    refine XS.icmpYes X0.here hx rfl (pc0 := 2) (pc' := 37) rfl (hb hby d31_2) rfl (flt (by rw [Int32.lt_iff_toInt_lt, own_i32 (by omega)]; show ¬ (nb : Int) < 0; omega)).2.1 (by decide) (by decide) ?_
    show Steps p.tables e below (s₁.setTop (mkF m 37 #[vI (0 : Int32), vI (Int32.ofNat nb)] [])) _
    exact X0.returnOut hx Bd.returns (hb hby d31_37) hr
  · show QV h0 n0 _ s₁.heap _
    rw [e0]
    exact ⟨(by first | rfl | simp []), N0, rfl⟩
theorem d30_0 : decode jdk_65_method_133_code 0 = .ok (.iload_n 1, 1) := by decide +kernel
theorem d30_1 : decode jdk_65_method_133_code 1 = .ok (.iload_n 2, 1) := by decide +kernel
theorem d30_2 : decode jdk_65_method_133_code 2 = .ok (.invokestatic 343, 3) := by decide +kernel
theorem d30_5 : decode jdk_65_method_133_code 5 = .ok (.iload_n 2, 1) := by decide +kernel
theorem d30_6 : decode jdk_65_method_133_code 6 = .ok (.iload_n 1, 1) := by decide +kernel
theorem d30_7 : decode jdk_65_method_133_code 7 = .ok (.isub, 1) := by decide +kernel
theorem d30_8 : decode jdk_65_method_133_code 8 = .ok (.istore_n 3, 1) := by decide +kernel
theorem d30_9 : decode jdk_65_method_133_code 9 = .ok (.iload_n 3, 1) := by decide +kernel
theorem d30_10 : decode jdk_65_method_133_code 10 = .ok (.newarray .byte, 2) := by decide +kernel
theorem d30_12 : decode jdk_65_method_133_code 12 = .ok (.astore 4, 2) := by decide +kernel
theorem d30_14 : decode jdk_65_method_133_code 14 = .ok (.aload_n 0, 1) := by decide +kernel
theorem d30_15 : decode jdk_65_method_133_code 15 = .ok (.iload_n 1, 1) := by decide +kernel
theorem d30_16 : decode jdk_65_method_133_code 16 = .ok (.aload 4, 2) := by decide +kernel
theorem d30_18 : decode jdk_65_method_133_code 18 = .ok (.iconst 0, 1) := by decide +kernel
theorem d30_19 : decode jdk_65_method_133_code 19 = .ok (.aload_n 0, 1) := by decide +kernel
theorem d30_20 : decode jdk_65_method_133_code 20 = .ok (.arraylength, 1) := by decide +kernel
theorem d30_21 : decode jdk_65_method_133_code 21 = .ok (.iload_n 1, 1) := by decide +kernel
theorem d30_22 : decode jdk_65_method_133_code 22 = .ok (.isub, 1) := by decide +kernel
theorem d30_23 : decode jdk_65_method_133_code 23 = .ok (.iload_n 3, 1) := by decide +kernel
theorem d30_24 : decode jdk_65_method_133_code 24 = .ok (.invokestatic 304, 3) := by decide +kernel
theorem d30_27 : decode jdk_65_method_133_code 27 = .ok (.invokestatic 150, 3) := by decide +kernel
theorem d30_30 : decode jdk_65_method_133_code 30 = .ok (.aload 4, 2) := by decide +kernel
theorem d30_32 : decode jdk_65_method_133_code 32 = .ok (.areturn, 1) := by decide +kernel
theorem pn_30 : plainName "java/util/Arrays" = true := by first | (simp [plainName, overriddenIn]; done) | decide +kernel
theorem ef_aCr0 (m : MethodId) (x0 : Addr) (x1 : Int32) (x2 : Int32) : entryFrame m #[(.ref x0), (.int x1), (.int x2)] 5 = mkF m 0 #[.val (.ref x0), .val (.int x1), .val (.int x2), .unset, .unset] [] := by first | (simp [entryFrame, mkF, argsToLocals, Value.category]; done) | rfl
set_option maxRecDepth 65536 in
set_option maxHeartbeats 40000000 in
theorem aCr0 (l : Launch) (Z : State) (a0 : Array Value) (hw : ∀ d ∈ tables_1, d.before a0 Z = true) (ws : List Jvm.Cond) (o0 : Addr) (ka : ClassId) (cap nb : Nat) (f : Nat → Nat) (hcr : nb < cap) (hr4 : cap ≤ 1000) (hb2 : nb ≤ 200) (hf : Asc f) (h0 : Heap) (n0 : Nat) (Z0 : n0 ≤ h0.size) (V_a : GA Z h0 o0 ka .byte cap (fun i => .int (Int32.ofNat (f i)))) :
    MetFree l (⟨"java/util/Arrays", "copyOfRangeByte", "([BII)[B"⟩ : MethodName) (head1 (Jvm.Cond.code (⟨"java/util/Arrays", "copyOfRangeByte", "([BII)[B"⟩ : MethodName) jdk_65_method_133_code 5 (some (.array .byte)) :: ws) ({ frames := 1, cells := 1, slots := 200, locals := 42 } : Room)) (fun a U => a = #[(.ref o0), (.int (0 : Int32)), (.int (Int32.ofNat nb))] ∧ Z.Warmed39 U.vm ∧ U.heap = h0) (fun _ _ _ _ _ => True) (fun _ U o U' => ∃ v L, o = .returned v ∧ QCp Z nb f h0 n0 v U'.heap L ∧ FrameEnd U o U' L ({ frames := 1, cells := 1, slots := 200, locals := 42 } : Room).cells ({ frames := 1, cells := 1, slots := 200, locals := 42 } : Room).slots) := by
  refine MetFree.of_bodySF (plainFor_of_name pn_30) hisR ?_
  intro p e s m args below meth c s₁ Bd hml0 hP hK
  obtain ⟨rfl, hZ, hh⟩ := hP
  have hx := Bd.exec
  have hby := Bd.bytes
  have hml : c.maxLocals = 5 := hml0
  have hown : s.vm.findClass "java/util/Arrays" = some m.cls := findClass_of_methodNamed Bd.named
  have hnm := (name_of_methodNamed Bd.named Bd.method).1
  have X0 : Stand p l e ({ frames := 1, cells := 1, slots := 200, locals := 42 } : Room) s m #[(.ref o0), (.int (0 : Int32)), (.int (Int32.ofNat nb))] below meth c s₁ [] 0 0 := Stand.of_body Bd
  have e0 : s₁.heap = h0 := by rw [← hh, Bd.state]; rfl
  have N0 := Fr.nil n0
  have pre0 : ∀ t, Steps p.tables e below (s₁.setTop (mkF m 0 #[vR o0, vI (0 : Int32), vI (Int32.ofNat nb), zU, zU] [])) t → Steps p.tables e below (s₁.setTop (entryFrame m #[(.ref o0), (.int (0 : Int32)), (.int (Int32.ofNat nb))] 5)) t := fun t k => castTop (ef_aCr0 m o0 (0 : Int32) (Int32.ofNat nb)) k
  obtain ⟨_, _, ⟨T1, L1, k1, n1⟩, -, X1, ⟨Lc1, hQ1, l1, y1, z1⟩, st1⟩ := Jvm.LawKit.callS X0 hx (y := (⟨"java/util/Arrays", "checkLength", "(II)V"⟩ : MethodName)) hown (mvT hZ (wd hw 171 rfl)) (mvT hZ (wd hw 172 rfl)) (mvT hZ (wd hw 85 rfl)) (mvT hZ (wd hw 173 rfl)) (by decide) (backOf (W := 0) (aCk l Z a0 hw [] nb hb2 h0 n0 Z0) hZ (wd hw 173 rfl) (wd hw 85 rfl) (by decide) (by decide)) (g := (mkF m 2 #[vR o0, vI (0 : Int32), vI (Int32.ofNat nb), zU, zU] [(.int (Int32.ofNat nb)), (.int (0 : Int32))])) rfl (by rw [hml]; rfl) (argsL := [(.int (0 : Int32)), (.int (Int32.ofNat nb))]) (rest := []) (lenOf pd__II_V rfl) rfl (by show 2 * 0 + _ ≤ _; exact Nat.le_of_eq rfl) (hb hby d30_2) (fun _ _ => ⟨rfl, e0, (by decide : 0 + 0 ≤ _), (by decide : 0 + 0 ≤ _)⟩)
  dsimp only [Pt.U, Pt.locs, Pt.cells, Pt.slots] at X1 l1 y1 z1 st1 hQ1
  rw [l1, y1, z1] at X1
  obtain ⟨rfl, N1q, e1⟩ := hQ1
  have N1 := Fr.app N0 N1q
  obtain ⟨T2, h2, k2, X2, e2, E2, A2, st2⟩ := newP X1 hx hZ (wd hw 27 rfl) e1 (g := (mkF m 10 #[vR o0, vI (0 : Int32), vI (Int32.ofNat nb), vI (Int32.ofNat nb), zU] [(.int (Int32.ofNat nb))])) rfl (hb hby d30_10) rfl (by rw [Int32.lt_iff_toInt_lt, own_i32 (by omega)]; show ¬ (nb : Int) < 0; omega) (cap := 200) (by rw [own_cl (by omega)]; omega) (by decide) (by decide) (by decide)
  obtain ⟨b2, g2⟩ : ∃ z, z = h0.size := ⟨_, rfl⟩
  rw [← g2] at A2 st2
  have g_b2 : n0 ≤ b2 := Nat.le_trans Z0 (Nat.le_of_eq g2.symm)
  have sz_b2 : h0.size ≤ b2 := Nat.le_trans (Keep.refl h0 []).1 (Nat.le_of_eq g2.symm)
  have ne2_o0 : o0 ≠ b2 := Nat.ne_of_lt (Nat.lt_of_lt_of_le (V_a).lt (Nat.le_of_eq g2.symm))
  have Zs2 : n0 ≤ h2.size := Nat.le_trans Z0 E2.1
  have K2 : Keep h0 h2 [] := (Keep.refl h0 []).ext E2
  have G2 : GA Z h2 b2 k2 .byte nb (fun i => .int (Int32.ofNat ((fun _ => 0) i))) := GA.new A2 (own_cl (by omega))
  have V_a_4 := (V_a.ext E2)
  obtain ⟨cl3, Ar3, -, Sa3, -⟩ := id V_a_4
  obtain ⟨_, _, ⟨T5, L5, k5, n5⟩, -, X5, ⟨Lc5, hQ5, l5, y5, z5⟩, st5⟩ := Jvm.LawKit.callS X2 hx (y := (⟨"java/lang/Math", "min", "(II)I"⟩ : MethodName)) hown (mvT hZ (wd hw 87 rfl)) (mvT hZ (wd hw 88 rfl)) (mvT hZ (wd hw 79 rfl)) (mvT hZ (wd hw 89 rfl)) (by decide) (backOf (W := 4) (mmin l Z a0 hw [] cap nb nb (by omega) (by omega) (by constructor <;> intro _ <;> omega) h2 n0 Zs2) hZ (wd hw 89 rfl) (wd hw 79 rfl) (by decide) (by decide)) (g := (mkF m 24 #[vR o0, vI (0 : Int32), vI (Int32.ofNat nb), vI (Int32.ofNat nb), vR b2] [(.int (Int32.ofNat nb)), (.int (Int32.ofNat cap)), (.int (0 : Int32)), (.ref b2), (.int (0 : Int32)), (.ref o0)])) rfl (by rw [hml]; rfl) (argsL := [(.int (Int32.ofNat cap)), (.int (Int32.ofNat nb))]) (rest := [(.int (0 : Int32)), (.ref b2), (.int (0 : Int32)), (.ref o0)]) (lenOf pd__II_I rfl) rfl (by show 2 * 0 + _ ≤ _; exact Nat.le_of_eq rfl) (hb hby d30_24) (fun _ _ => ⟨rfl, e2, (by decide : 1 + 0 ≤ _), (by decide : 200 + 0 ≤ _)⟩)
  dsimp only [Pt.U, Pt.locs, Pt.cells, Pt.slots] at X5 l5 y5 z5 st5 hQ5
  rw [l5, y5, z5] at X5
  obtain ⟨rfl, N5q, e5⟩ := hQ5
  have N5 := Fr.app N1 N5q
  obtain ⟨T6, h6, X6, e6, K6c, z6c, G6, st6⟩ := own_acopy X5 hx hZ hown (wd hw 90 rfl) (wd hw 93 rfl) (wd hw 91 rfl) (wd hw 92 rfl) e5 (f := f) (g := (fun _ => 0)) V_a_4 G2 hf (o := 0) (q := 0) (n := nb) (by omega) (by omega) (by omega) (by omega) (g0 := (mkF m 27 #[vR o0, vI (0 : Int32), vI (Int32.ofNat nb), vI (Int32.ofNat nb), vR b2] [(.int (Int32.ofNat nb)), (.int (0 : Int32)), (.ref b2), (.int (0 : Int32)), (.ref o0)])) rfl (by rw [hml]; rfl) (rest := []) rfl (hb hby d30_27) (by decide) (W := 0) (by show 2 * 0 + _ ≤ _; exact Nat.le_of_eq rfl) (by decide)
  have Zs6 : n0 ≤ h6.size := Nat.le_trans Zs2 K6c.1
  have Kk6 : Keep h0 h6 [] := K2.trans K6c (allS (Or.inr sz_b2) all0)
  have N6 := Fr.app N5 (own_frc (q := 0) (n := nb) g_b2)
  obtain ⟨fs, hr, hrun, hended, hW, hsame⟩ := X6.leave (v := some (.ref b2)) (fun h => by rw [Bd.returns] at h; cases h)
  refine ⟨_, _, pre0 _ ?_, hrun, hended, _, _, rfl, ?_, ⟨_, rfl⟩, hW, hsame.mono (by decide) (by decide)⟩
  · skip
    refine XS.iloadN X0.here hx rfl (hb hby d30_0) rfl ?_
    refine XS.iloadN X0.here hx rfl (hb hby d30_1) rfl ?_
    refine st1 _ ?_
    show Steps p.tables e below (T1.setTop (mkF m 5 #[vR o0, vI (0 : Int32), vI (Int32.ofNat nb), zU, zU] [])) _
    refine XS.iloadN X1.here hx rfl (hb hby d30_5) rfl ?_
    refine XS.iloadN X1.here hx rfl (hb hby d30_6) rfl ?_
    refine XS.isub X1.here hx rfl (hb hby d30_7) rfl ?_
    show Steps p.tables e below (T1.setTop (mkF m 8 #[vR o0, vI (0 : Int32), vI (Int32.ofNat nb), zU, zU] [(.int ((Int32.ofNat nb) - (0 : Int32)))])) _
    rw [Int32.sub_zero]
    refine XS.istoreN X1.here hx rfl (hb hby d30_8) rfl (l' := #[vR o0, vI (0 : Int32), vI (Int32.ofNat nb), vI (Int32.ofNat nb), zU]) rfl ?_
    show Steps p.tables e below (T1.setTop (mkF m 9 #[vR o0, vI (0 : Int32), vI (Int32.ofNat nb), vI (Int32.ofNat nb), zU] [])) _
    refine XS.iloadN X1.here hx rfl (hb hby d30_9) rfl ?_
    show Steps p.tables e below (T1.setTop (mkF m 10 #[vR o0, vI (0 : Int32), vI (Int32.ofNat nb), vI (Int32.ofNat nb), zU] [(.int (Int32.ofNat nb))])) _
    refine st2 _ ?_
    refine XS.astore X2.here hx rfl (hb hby d30_12) rfl rfl (l' := #[vR o0, vI (0 : Int32), vI (Int32.ofNat nb), vI (Int32.ofNat nb), vR b2]) rfl ?_
    refine XS.aloadN X2.here hx rfl (hb hby d30_14) rfl rfl ?_
    refine XS.iloadN X2.here hx rfl (hb hby d30_15) rfl ?_
    show Steps p.tables e below (T2.setTop (mkF m 16 #[vR o0, vI (0 : Int32), vI (Int32.ofNat nb), vI (Int32.ofNat nb), vR b2] [(.int (0 : Int32)), (.ref o0)])) _
    refine XS.aload X2.here hx rfl (hb hby d30_16) rfl rfl ?_
    refine XS.iconst X2.here hx rfl (hb hby d30_18) ?_
    refine XS.aloadN X2.here hx rfl (hb hby d30_19) rfl rfl ?_
    refine X2.arraylength hx (by rw [e2]; exact Ar3.1) (State.isArrayOf_alike hZ.alike Ar3.2.1) (g := (mkF m 20 #[vR o0, vI (0 : Int32), vI (Int32.ofNat nb), vI (Int32.ofNat nb), vR b2] [(.ref o0), (.int (0 : Int32)), (.ref b2), (.int (0 : Int32)), (.ref o0)])) rfl rfl (hb hby d30_20) _ ?_
    rw [own_len Sa3]
    show Steps p.tables e below (T2.setTop (mkF m 21 #[vR o0, vI (0 : Int32), vI (Int32.ofNat nb), vI (Int32.ofNat nb), vR b2] [(.int (Int32.ofNat cap)), (.int (0 : Int32)), (.ref b2), (.int (0 : Int32)), (.ref o0)])) _
    refine XS.iloadN X2.here hx rfl (hb hby d30_21) rfl ?_
    refine XS.isub X2.here hx rfl (hb hby d30_22) rfl ?_
    show Steps p.tables e below (T2.setTop (mkF m 23 #[vR o0, vI (0 : Int32), vI (Int32.ofNat nb), vI (Int32.ofNat nb), vR b2] [(.int ((Int32.ofNat cap) - (0 : Int32))), (.int (0 : Int32)), (.ref b2), (.int (0 : Int32)), (.ref o0)])) _
    rw [Int32.sub_zero]
    refine XS.iloadN X2.here hx rfl (hb hby d30_23) rfl ?_
    refine st5 _ ?_
    show Steps p.tables e below (T5.setTop (mkF m 27 #[vR o0, vI (0 : Int32), vI (Int32.ofNat nb), vI (Int32.ofNat nb), vR b2] [(.int (Int32.ofNat nb)), (.int (0 : Int32)), (.ref b2), (.int (0 : Int32)), (.ref o0)])) _
    refine st6 _ ?_
    show Steps p.tables e below (T6.setTop (mkF m 30 #[vR o0, vI (0 : Int32), vI (Int32.ofNat nb), vI (Int32.ofNat nb), vR b2] [])) _
    refine XS.aload X6.here hx rfl (hb hby d30_30) rfl rfl ?_
    show Steps p.tables e below (T6.setTop (mkF m 32 #[vR o0, vI (0 : Int32), vI (Int32.ofNat nb), vI (Int32.ofNat nb), vR b2] [(.ref b2)])) _
    jvm_step X6.here [X6.here.top, hx, (hb hby d30_32), X6.method', Bd.returns, Value.isRef, FieldType.isReference]
    first | (intro acts; rw [hr _ acts rfl rfl rfl]) | rw [hr _ _ rfl rfl rfl]
    exact Steps.refl _
  · show QCp Z nb f h0 n0 _ T6.heap _
    rw [e6]
    exact ⟨_, k2, rfl, N6, Kk6, g_b2, sz_b2, (G6).eqv fun i hi => by show Value.int (Int32.ofNat (if 0 ≤ i ∧ i < 0 + nb then f (0 + (i - 0)) else 0)) = Value.int (Int32.ofNat (f i)); rw [if_pos (by omega), Nat.zero_add, Nat.sub_zero]⟩
theorem d29_0 : decode jdk_65_method_132_code 0 = .ok (.iload_n 1, 1) := by decide +kernel
theorem d29_1 : decode jdk_65_method_132_code 1 = .ok (.ifCond .ne 9, 3) := by decide +kernel
theorem d29_4 : decode jdk_65_method_132_code 4 = .ok (.iload_n 2, 1) := by decide +kernel
theorem d29_5 : decode jdk_65_method_132_code 5 = .ok (.aload_n 0, 1) := by decide +kernel
theorem d29_6 : decode jdk_65_method_132_code 6 = .ok (.arraylength, 1) := by decide +kernel
theorem d29_7 : decode jdk_65_method_132_code 7 = .ok (.if_icmp .eq 10, 3) := by decide +kernel
theorem d29_10 : decode jdk_65_method_132_code 10 = .ok (.aload_n 0, 1) := by decide +kernel
theorem d29_11 : decode jdk_65_method_132_code 11 = .ok (.iload_n 1, 1) := by decide +kernel
theorem d29_12 : decode jdk_65_method_132_code 12 = .ok (.iload_n 2, 1) := by decide +kernel
theorem d29_13 : decode jdk_65_method_132_code 13 = .ok (.invokestatic 339, 3) := by decide +kernel
theorem pd___BII__B : parseMethodDescriptor "([BII)[B" = some ⟨[(.array .byte), .int, .int], some (.array .byte)⟩ := by decide +kernel
theorem d29_16 : decode jdk_65_method_132_code 16 = .ok (.areturn, 1) := by decide +kernel
theorem pn_29 : plainName "java/util/Arrays" = true := by first | (simp [plainName, overriddenIn]; done) | decide +kernel
theorem ef_aCr (m : MethodId) (x0 : Addr) (x1 : Int32) (x2 : Int32) : entryFrame m #[(.ref x0), (.int x1), (.int x2)] 3 = mkF m 0 #[.val (.ref x0), .val (.int x1), .val (.int x2)] [] := by first | (simp [entryFrame, mkF, argsToLocals, Value.category]; done) | rfl
set_option maxRecDepth 65536 in
set_option maxHeartbeats 40000000 in
theorem aCr (l : Launch) (Z : State) (a0 : Array Value) (hw : ∀ d ∈ tables_1, d.before a0 Z = true) (ws : List Jvm.Cond) (o0 : Addr) (ka : ClassId) (cap nb : Nat) (f : Nat → Nat) (hcr : nb < cap) (hr4 : cap ≤ 1000) (hb2 : nb ≤ 200) (hf : Asc f) (h0 : Heap) (n0 : Nat) (Z0 : n0 ≤ h0.size) (V_a : GA Z h0 o0 ka .byte cap (fun i => .int (Int32.ofNat (f i)))) :
    MetFree l (⟨"java/util/Arrays", "copyOfRange", "([BII)[B"⟩ : MethodName) (head1 (Jvm.Cond.code (⟨"java/util/Arrays", "copyOfRange", "([BII)[B"⟩ : MethodName) jdk_65_method_132_code 3 (some (.array .byte)) :: ws) ({ frames := 2, cells := 1, slots := 200, locals := 60 } : Room)) (fun a U => a = #[(.ref o0), (.int (0 : Int32)), (.int (Int32.ofNat nb))] ∧ Z.Warmed39 U.vm ∧ U.heap = h0) (fun _ _ _ _ _ => True) (fun _ U o U' => ∃ v L, o = .returned v ∧ QCp Z nb f h0 n0 v U'.heap L ∧ FrameEnd U o U' L ({ frames := 2, cells := 1, slots := 200, locals := 60 } : Room).cells ({ frames := 2, cells := 1, slots := 200, locals := 60 } : Room).slots) := by
  refine MetFree.of_bodySF (plainFor_of_name pn_29) hisR ?_
  intro p e s m args below meth c s₁ Bd hml0 hP hK
  obtain ⟨rfl, hZ, hh⟩ := hP
  have hx := Bd.exec
  have hby := Bd.bytes
  have hml : c.maxLocals = 3 := hml0
  have hown : s.vm.findClass "java/util/Arrays" = some m.cls := findClass_of_methodNamed Bd.named
  have hnm := (name_of_methodNamed Bd.named Bd.method).1
  have X0 : Stand p l e ({ frames := 2, cells := 1, slots := 200, locals := 60 } : Room) s m #[(.ref o0), (.int (0 : Int32)), (.int (Int32.ofNat nb))] below meth c s₁ [] 0 0 := Stand.of_body Bd
  have e0 : s₁.heap = h0 := by rw [← hh, Bd.state]; rfl
  have N0 := Fr.nil n0
  have pre0 : ∀ t, Steps p.tables e below (s₁.setTop (mkF m 0 #[vR o0, vI (0 : Int32), vI (Int32.ofNat nb)] [])) t → Steps p.tables e below (s₁.setTop (entryFrame m #[(.ref o0), (.int (0 : Int32)), (.int (Int32.ofNat nb))] 3)) t := fun t k => castTop (ef_aCr m o0 (0 : Int32) (Int32.ofNat nb)) k
  obtain ⟨cl1, Ar1, -, Sa1, -⟩ := id V_a
  obtain ⟨_, _, ⟨T2, L2, k2, n2⟩, -, X2, ⟨Lc2, hQ2, l2, y2, z2⟩, st2⟩ := Jvm.LawKit.callS X0 hx (y := (⟨"java/util/Arrays", "copyOfRangeByte", "([BII)[B"⟩ : MethodName)) hown (mvT hZ (wd hw 168 rfl)) (mvT hZ (wd hw 169 rfl)) (mvT hZ (wd hw 85 rfl)) (mvT hZ (wd hw 170 rfl)) (by decide) (backOf (W := 0) (aCr0 l Z a0 hw [] o0 ka cap nb f hcr hr4 hb2 hf h0 n0 Z0 V_a) hZ (wd hw 170 rfl) (wd hw 85 rfl) (by decide) (by decide)) (g := (mkF m 13 #[vR o0, vI (0 : Int32), vI (Int32.ofNat nb)] [(.int (Int32.ofNat nb)), (.int (0 : Int32)), (.ref o0)])) rfl (by rw [hml]; rfl) (argsL := [(.ref o0), (.int (0 : Int32)), (.int (Int32.ofNat nb))]) (rest := []) (lenOf pd___BII__B rfl) rfl (by show 2 * 0 + _ ≤ _; exact Nat.le_of_eq rfl) (hb hby d29_13) (fun _ _ => ⟨rfl, e0, (by decide : 0 + 1 ≤ _), (by decide : 0 + 200 ≤ _)⟩)
  dsimp only [Pt.U, Pt.locs, Pt.cells, Pt.slots] at X2 l2 y2 z2 st2 hQ2
  rw [l2, y2, z2] at X2
  obtain ⟨ca2, kc2, rfl, N2q, Kp2, gc2, sc2, Gc2⟩ := hQ2
  have N2 := Fr.app N0 N2q
  obtain ⟨fs, hr, hrun, hended, hW, hsame⟩ := X2.leave (v := some (.ref ca2)) (fun h => by rw [Bd.returns] at h; cases h)
  refine ⟨_, _, pre0 _ ?_, hrun, hended, _, _, rfl, ?_, ⟨_, rfl⟩, hW, hsame.mono (by decide) (by decide)⟩
  · skip
    refine XS.iloadN X0.here hx rfl (hb hby d29_0) rfl ?_
    refine XS.ifNo X0.here hx rfl (hb hby d29_1) rfl ((if0 _ _).trans (teq (by decide : (0 : Int32) = (0 : Int32))).2) ?_
    refine XS.iloadN X0.here hx rfl (hb hby d29_4) rfl ?_
    show Steps p.tables e below (s₁.setTop (mkF m 5 #[vR o0, vI (0 : Int32), vI (Int32.ofNat nb)] [(.int (Int32.ofNat nb))])) _
    refine XS.aloadN X0.here hx rfl (hb hby d29_5) rfl rfl ?_
    refine X0.arraylength hx (by rw [e0]; exact Ar1.1) (State.isArrayOf_alike hZ.alike Ar1.2.1) (g := (mkF m 6 #[vR o0, vI (0 : Int32), vI (Int32.ofNat nb)] [(.ref o0), (.int (Int32.ofNat nb))])) rfl rfl (hb hby d29_6) _ ?_
    rw [own_len Sa1]
    refine XS.icmpNo X0.here hx rfl (hb hby d29_7) rfl (feq (fun q => absurd ((own_inj (by omega) (by omega)).mp q) (by omega))).1 ?_
    refine XS.aloadN X0.here hx rfl (hb hby d29_10) rfl rfl ?_
    show Steps p.tables e below (s₁.setTop (mkF m 11 #[vR o0, vI (0 : Int32), vI (Int32.ofNat nb)] [(.ref o0)])) _
    refine XS.iloadN X0.here hx rfl (hb hby d29_11) rfl ?_
    refine XS.iloadN X0.here hx rfl (hb hby d29_12) rfl ?_
    refine st2 _ ?_
    show Steps p.tables e below (T2.setTop (mkF m 16 #[vR o0, vI (0 : Int32), vI (Int32.ofNat nb)] [(.ref ca2)])) _
    jvm_step X2.here [X2.here.top, hx, (hb hby d29_16), X2.method', Bd.returns, Value.isRef, FieldType.isReference]
    first | (intro acts; rw [hr _ acts rfl rfl rfl]) | rw [hr _ _ rfl rfl rfl]
    exact Steps.refl _
  · show QCp Z nb f h0 n0 _ T2.heap _
    exact ⟨_, kc2, rfl, N2, Kp2, gc2, sc2, Gc2⟩
def QSi (Z : State) (s : Addr) (n : Nat) (f : Nat → Nat) (h0 : Heap) (n0 : Nat) (r : Option Value) (h : Heap) (L : List Loc) : Prop := r = none ∧ Fr n0 L ∧ Keep h0 h [s] ∧ ∃ (v : Addr) (k : ClassId), h0.size ≤ v ∧ SB Z h s v k n (fun i => Int32.ofNat (f i))
theorem d25_0 : decode jdk_42_method_150_code 0 = .ok (.aload_n 0, 1) := by decide +kernel
theorem d25_1 : decode jdk_42_method_150_code 1 = .ok (.invokespecial 1, 3) := by decide +kernel
theorem d25_4 : decode jdk_42_method_150_code 4 = .ok (.aload_n 1, 1) := by decide +kernel
theorem d25_5 : decode jdk_42_method_150_code 5 = .ok (.invokevirtual 552, 3) := by decide +kernel
theorem pd____B : parseMethodDescriptor "()[B" = some ⟨[], some (.array .byte)⟩ := by decide +kernel
theorem d25_8 : decode jdk_42_method_150_code 8 = .ok (.astore_n 3, 1) := by decide +kernel
theorem d25_9 : decode jdk_42_method_150_code 9 = .ok (.aload_n 1, 1) := by decide +kernel
theorem d25_10 : decode jdk_42_method_150_code 10 = .ok (.invokevirtual 549, 3) := by decide +kernel
theorem d25_13 : decode jdk_42_method_150_code 13 = .ok (.istore 4, 2) := by decide +kernel
theorem d25_15 : decode jdk_42_method_150_code 15 = .ok (.aload_n 1, 1) := by decide +kernel
theorem d25_16 : decode jdk_42_method_150_code 16 = .ok (.invokevirtual 1047, 3) := by decide +kernel
theorem d25_19 : decode jdk_42_method_150_code 19 = .ok (.ifCond .eq 22, 3) := by decide +kernel
theorem d25_22 : decode jdk_42_method_150_code 22 = .ok (.aload_n 0, 1) := by decide +kernel
theorem d25_23 : decode jdk_42_method_150_code 23 = .ok (.iconst 0, 1) := by decide +kernel
theorem d25_24 : decode jdk_42_method_150_code 24 = .ok (.putfield 15, 3) := by decide +kernel
theorem d25_27 : decode jdk_42_method_150_code 27 = .ok (.aload_n 0, 1) := by decide +kernel
theorem d25_28 : decode jdk_42_method_150_code 28 = .ok (.aload_n 3, 1) := by decide +kernel
theorem d25_29 : decode jdk_42_method_150_code 29 = .ok (.iconst 0, 1) := by decide +kernel
theorem d25_30 : decode jdk_42_method_150_code 30 = .ok (.iload 4, 2) := by decide +kernel
theorem d25_32 : decode jdk_42_method_150_code 32 = .ok (.invokestatic 54, 3) := by decide +kernel
theorem d25_35 : decode jdk_42_method_150_code 35 = .ok (.putfield 9, 3) := by decide +kernel
theorem d25_38 : decode jdk_42_method_150_code 38 = .ok (.goto 59, 3) := by decide +kernel
theorem d25_97 : decode jdk_42_method_150_code 97 = .ok (.return_, 1) := by decide +kernel
theorem pn_25 : plainName "java/lang/String" = true := by first | (simp [plainName, overriddenIn]; done) | decide +kernel
theorem ef_sI0 (m : MethodId) (x0 : Addr) (x1 : Addr) : entryFrame m #[(.ref x0), (.ref x1), .null] 5 = mkF m 0 #[.val (.ref x0), .val (.ref x1), .val .null, .unset, .unset] [] := by first | (simp [entryFrame, mkF, argsToLocals, Value.category]; done) | rfl
set_option maxRecDepth 65536 in
set_option maxHeartbeats 40000000 in
theorem sI0 (l : Launch) (Z : State) (a0 : Array Value) (hw : ∀ d ∈ tables_1, d.before a0 Z = true) (ws : List Jvm.Cond) (o0 : Addr) (o1 : Addr) (vb : Addr) (kb : ClassId) (cap nb : Nat) (f : Nat → Nat) (hcap : cap ≤ 1000) (hnb : nb < cap) (hb2 : nb ≤ 200) (hf : Asc f) (h0 : Heap) (n0 : Nat) (Z0 : n0 ≤ h0.size) (KZ : Keep Z.heap h0 []) (hz : Z.heap.size ≤ n0) (R_b : BD Z h0 o1 vb kb cap nb f) (E_o : Exa Z h0 o0 "java/lang/String") (g_o : n0 ≤ o0) (F_v : Fld Z h0 o0 "java/lang/String" "value" "[B" .null) (F_c : Fld Z h0 o0 "java/lang/String" "coder" "B" (.int 0)) (q0 : o0 ≠ vb) (cs : Int32) (hcs : ¬ cs = (0 : Int32)) (S_Cz : Sta Z Z.heap "java/lang/String" "COMPACT_STRINGS" "Z" (.int cs)) :
    MetFree l (⟨"java/lang/String", "<init>", "(Ljava/lang/AbstractStringBuilder;Ljava/lang/Void;)V"⟩ : MethodName) (head1 (Jvm.Cond.code (⟨"java/lang/String", "<init>", "(Ljava/lang/AbstractStringBuilder;Ljava/lang/Void;)V"⟩ : MethodName) jdk_42_method_150_code 5 none :: ws) ({ frames := 3, cells := 1, slots := 200, locals := 80 } : Room)) (fun a U => a = #[(.ref o0), (.ref o1), .null] ∧ Z.Warmed39 U.vm ∧ U.heap = h0) (fun _ _ _ _ _ => True) (fun _ U o U' => ∃ v L, o = .returned v ∧ QSi Z o0 nb f h0 n0 v U'.heap L ∧ FrameEnd U o U' L ({ frames := 3, cells := 1, slots := 200, locals := 80 } : Room).cells ({ frames := 3, cells := 1, slots := 200, locals := 80 } : Room).slots) := by
  refine MetFree.of_bodySF (plainFor_of_name pn_25) hisR ?_
  intro p e s m args below meth c s₁ Bd hml0 hP hK
  obtain ⟨rfl, hZ, hh⟩ := hP
  have hx := Bd.exec
  have hby := Bd.bytes
  have hml : c.maxLocals = 5 := hml0
  have hown : s.vm.findClass "java/lang/String" = some m.cls := findClass_of_methodNamed Bd.named
  have hnm := (name_of_methodNamed Bd.named Bd.method).1
  have X0 : Stand p l e ({ frames := 3, cells := 1, slots := 200, locals := 80 } : Room) s m #[(.ref o0), (.ref o1), .null] below meth c s₁ [] 0 0 := Stand.of_body Bd
  have e0 : s₁.heap = h0 := by rw [← hh, Bd.state]; rfl
  have N0 := Fr.nil n0
  have pre0 : ∀ t, Steps p.tables e below (s₁.setTop (mkF m 0 #[vR o0, vR o1, vN, zU, zU] [])) t → Steps p.tables e below (s₁.setTop (entryFrame m #[(.ref o0), (.ref o1), .null] 5)) t := fun t k => castTop (ef_sI0 m o0 o1) k
  obtain ⟨EB, FcB, FnB, FvB, VB⟩ := id R_b
  have S_C := own_sta_keep S_Cz KZ all0
  obtain ⟨T1, X1, e1, st1⟩ := initO X0 hx hZ hown (wd hw 150 rfl) (wd hw 23 rfl) (wd hw 24 rfl) e0 (g := (mkF m 1 #[vR o0, vR o1, vN, zU, zU] [(.ref o0)])) rfl (by rw [hml]; rfl) rfl (hb hby d25_1) (by decide) (W := 0) (by show 2 * 0 + _ ≤ _; exact Nat.le_of_eq rfl) (by decide)
  obtain ⟨cq2, kq2, q2a, q2b, q2c⟩ := isOf hZ e1 EB
  obtain ⟨_, _, ⟨T2, L2, k2, n2⟩, -, X2, ⟨Lc2, hQ2, l2, y2, z2⟩, st2⟩ := X1.virtualBack hx (y := (⟨"java/lang/AbstractStringBuilder", "getValue", "()[B"⟩ : MethodName)) (z := (⟨"java/lang/AbstractStringBuilder", "getValue", "()[B"⟩ : MethodName)) hown (mvT hZ (wd hw 151 rfl)) (mvT hZ (wd hw 152 rfl)) (notFace_of_selects (args := #[]) (mvT hZ (wd hw 154 rfl))) (mvT hZ (wd hw 154 rfl)) (mvT hZ (wd hw 153 rfl)) (by decide) (backOf (W := 0) (bVal l Z a0 hw [] o1 vb kb cap nb f hcap (by omega) hf h0 n0 Z0 KZ hz R_b) hZ (wd hw 155 rfl) (wd hw 20 rfl) (by decide) (by decide)) q2a q2c (g := (mkF m 5 #[vR o0, vR o1, vN, zU, zU] [(.ref o1)])) rfl (by rw [hml]; rfl) (Steps.refl _) (argsL := []) (rest := []) (lenOf pd____B rfl) rfl (by show 2 * 0 + _ ≤ _; exact Nat.le_of_eq rfl) (hb hby d25_5) (fun _ _ => ⟨rfl, e1, (by decide : 0 + 0 ≤ _), (by decide : 0 + 0 ≤ _)⟩)
  dsimp only [Pt.U, Pt.locs, Pt.cells, Pt.slots] at X2 l2 y2 z2 st2 hQ2
  rw [l2, y2, z2] at X2
  obtain ⟨rfl, N2q, e2⟩ := hQ2
  have N2 := Fr.app N0 N2q
  obtain ⟨cq3, kq3, q3a, q3b, q3c⟩ := isOf hZ e2 EB
  obtain ⟨_, _, ⟨T3, L3, k3, n3⟩, -, X3, ⟨Lc3, hQ3, l3, y3, z3⟩, st3⟩ := X2.virtualBack hx (y := (⟨"java/lang/AbstractStringBuilder", "length", "()I"⟩ : MethodName)) (z := (⟨"java/lang/StringBuilder", "length", "()I"⟩ : MethodName)) hown (mvT hZ (wd hw 156 rfl)) (mvT hZ (wd hw 157 rfl)) (own_nf (args := #[]) (y2 := (⟨"java/lang/AbstractStringBuilder", "isLatin1", "()Z"⟩ : MethodName)) (mvT hZ (wd hw 127 rfl)) (notFace_of_selects (args := #[]) (mvT hZ (wd hw 128 rfl))) rfl) (mvT hZ (wd hw 159 rfl)) (mvT hZ (wd hw 160 rfl)) (by decide) (backOf (W := 0) (bLen l Z a0 hw [] o1 vb kb cap nb f hcap (by omega) hf h0 n0 Z0 KZ hz R_b) hZ (wd hw 161 rfl) (wd hw 12 rfl) (by decide) (by decide)) q3a q3c (g := (mkF m 10 #[vR o0, vR o1, vN, vR vb, zU] [(.ref o1)])) rfl (by rw [hml]; rfl) (Steps.refl _) (argsL := []) (rest := []) (lenOf pd___I rfl) rfl (by show 2 * 0 + _ ≤ _; exact Nat.le_of_eq rfl) (hb hby d25_10) (fun _ _ => ⟨rfl, e2, (by decide : 0 + 0 ≤ _), (by decide : 0 + 0 ≤ _)⟩)
  dsimp only [Pt.U, Pt.locs, Pt.cells, Pt.slots] at X3 l3 y3 z3 st3 hQ3
  rw [l3, y3, z3] at X3
  obtain ⟨rfl, N3q, e3⟩ := hQ3
  have N3 := Fr.app N2 N3q
  obtain ⟨cq4, kq4, q4a, q4b, q4c⟩ := isOf hZ e3 EB
  obtain ⟨_, _, ⟨T4, L4, k4, n4⟩, -, X4, ⟨Lc4, hQ4, l4, y4, z4⟩, st4⟩ := X3.virtualBack hx (y := (⟨"java/lang/AbstractStringBuilder", "isLatin1", "()Z"⟩ : MethodName)) (z := (⟨"java/lang/AbstractStringBuilder", "isLatin1", "()Z"⟩ : MethodName)) hown (mvT hZ (wd hw 164 rfl)) (mvT hZ (wd hw 126 rfl)) (notFace_of_selects (args := #[]) (mvT hZ (wd hw 128 rfl))) (mvT hZ (wd hw 128 rfl)) (mvT hZ (wd hw 127 rfl)) (by decide) (backOf (W := 0) (bLat l Z a0 hw [] o1 vb kb cap nb f hcap (by omega) hf h0 n0 Z0 KZ hz R_b cs hcs S_Cz) hZ (wd hw 129 rfl) (wd hw 20 rfl) (by decide) (by decide)) q4a q4c (g := (mkF m 16 #[vR o0, vR o1, vN, vR vb, vI (Int32.ofNat nb)] [(.ref o1)])) rfl (by rw [hml]; rfl) (Steps.refl _) (argsL := []) (rest := []) (lenOf pd___Z rfl) rfl (by show 2 * 0 + _ ≤ _; exact Nat.le_of_eq rfl) (hb hby d25_16) (fun _ _ => ⟨rfl, e3, (by decide : 0 + 0 ≤ _), (by decide : 0 + 0 ≤ _)⟩)
  dsimp only [Pt.U, Pt.locs, Pt.cells, Pt.slots] at X4 l4 y4 z4 st4 hQ4
  rw [l4, y4, z4] at X4
  obtain ⟨rfl, N4q, e4⟩ := hQ4
  have N4 := Fr.app N3 N4q
  obtain ⟨T5, h5, X5, e5, W5, st5⟩ := putFN X4 hx hZ hown (wd hw 60 rfl) Via.refl e4 F_c E_o (Or.inr ⟨(wd hw 35 rfl), rfl, hnm⟩) (wd hw 33 rfl) (ty := .byte) (v' := (.int (0 : Int32))) (by decide) rfl rfl (g := (mkF m 24 #[vR o0, vR o1, vN, vR vb, vI (Int32.ofNat nb)] [(.int (0 : Int32)), (.ref o0)])) rfl rfl (hb hby d25_24)
  have Fw5 := F_c.same W5
  have Zs5 : n0 ≤ h5.size := Nat.le_trans Z0 (Nat.le_of_eq W5.size.symm)
  have K5 : Keep h0 h5 [o0] := (Keep.refl h0 [o0]).wr W5 (Or.inl (List.mem_of_getElem? (i := 0) rfl))
  have N5 := Fr.snoc X5 N4 g_o
  have E_o_6 := (E_o.wr W5)
  have VB_7 := (VB.other W5 (Ne.symm q0))
  obtain ⟨_, _, ⟨T8, L8, k8, n8⟩, -, X8, ⟨Lc8, hQ8, l8, y8, z8⟩, st8⟩ := Jvm.LawKit.callS X5 hx (y := (⟨"java/util/Arrays", "copyOfRange", "([BII)[B"⟩ : MethodName)) hown (mvT hZ (wd hw 165 rfl)) (mvT hZ (wd hw 166 rfl)) (mvT hZ (wd hw 85 rfl)) (mvT hZ (wd hw 167 rfl)) (by decide) (backOf (W := 1) (aCr l Z a0 hw [] vb kb cap nb f hnb hcap hb2 hf h5 n0 Zs5 VB_7) hZ (wd hw 167 rfl) (wd hw 85 rfl) (by decide) (by decide)) (g := (mkF m 32 #[vR o0, vR o1, vN, vR vb, vI (Int32.ofNat nb)] [(.int (Int32.ofNat nb)), (.int (0 : Int32)), (.ref vb), (.ref o0)])) rfl (by rw [hml]; rfl) (argsL := [(.ref vb), (.int (0 : Int32)), (.int (Int32.ofNat nb))]) (rest := [(.ref o0)]) (lenOf pd___BII__B rfl) rfl (by show 2 * 0 + _ ≤ _; exact Nat.le_of_eq rfl) (hb hby d25_32) (fun _ _ => ⟨rfl, e5, (by decide : 0 + 1 ≤ _), (by decide : 0 + 200 ≤ _)⟩)
  dsimp only [Pt.U, Pt.locs, Pt.cells, Pt.slots] at X8 l8 y8 z8 st8 hQ8
  rw [l8, y8, z8] at X8
  obtain ⟨ca8, kc8, rfl, N8q, Kp8, gc8, sc8, Gc8⟩ := hQ8
  have N8 := Fr.app N5 N8q
  have Zs8 : n0 ≤ T8.heap.size := Nat.le_trans Zs5 Kp8.1
  have Kk8 : Keep h0 T8.heap [o0] := K5.trans Kp8 all0
  have sh8 : h0.size ≤ ca8 := Nat.le_trans K5.1 sc8
  have nc8 : o0 ≠ ca8 := Nat.ne_of_lt (Nat.lt_of_lt_of_le (E_o_6).lt sc8)
  have F_v_9 := ((F_v.other W5 (Or.inr (slot_ne (Or.inr (wd hw 34 rfl)) (Or.inr (wd hw 35 rfl)) (by decide) (t := (.array .byte)) (t' := .byte) (by decide) (by decide)))).keep Kp8 nin0)
  have E_o_10 := (E_o_6.keep Kp8)
  obtain ⟨T11, h11, X11, e11, W11, st11⟩ := putF X8 hx hZ hown (host := "") (Or.inl (wd hw 53 rfl)) Via.refl rfl F_v_9 E_o_10 (Or.inr ⟨(wd hw 34 rfl), rfl, hnm⟩) (wd hw 33 rfl) (ty := (.array .byte)) (by decide) rfl rfl (g := (mkF m 35 #[vR o0, vR o1, vN, vR vb, vI (Int32.ofNat nb)] [(.ref ca8), (.ref o0)])) rfl rfl (hb hby d25_35)
  have Fw11 := F_v_9.same W11
  have Zs11 : n0 ≤ h11.size := Nat.le_trans Zs8 (Nat.le_of_eq W11.size.symm)
  have K11 : Keep h0 h11 [o0] := Kk8.wr W11 (Or.inl (List.mem_of_getElem? (i := 0) rfl))
  have N11 := Fr.snoc X11 N8 g_o
  have E_o_12 := (E_o_10.wr W11)
  have Fw5_13 := ((Fw5.keep Kp8 nin0).other W11 (Or.inr (slot_ne (Or.inr (wd hw 35 rfl)) (Or.inr (wd hw 34 rfl)) (by decide) (t := .byte) (t' := (.array .byte)) (by decide) (by decide))))
  have Gc8_14 := (Gc8.other W11 (Ne.symm nc8))
  obtain ⟨fs, hr, hrun, hended, hW, hsame⟩ := X11.leave (v := none) (fun _ => rfl)
  refine ⟨_, _, pre0 _ ?_, hrun, hended, _, _, rfl, ?_, ⟨_, rfl⟩, hW, hsame.mono (by decide) (by decide)⟩
  · skip
    refine XS.aloadN X0.here hx rfl (hb hby d25_0) rfl rfl ?_
    refine st1 _ ?_
    refine XS.aloadN X1.here hx rfl (hb hby d25_4) rfl rfl ?_
    show Steps p.tables e below (T1.setTop (mkF m 5 #[vR o0, vR o1, vN, zU, zU] [(.ref o1)])) _
    refine st2.trans ?_
    refine XS.astoreN X2.here hx rfl (hb hby d25_8) rfl rfl (l' := #[vR o0, vR o1, vN, vR vb, zU]) rfl ?_
    refine XS.aloadN X2.here hx rfl (hb hby d25_9) rfl rfl ?_
    refine st3.trans ?_
    show Steps p.tables e below (T3.setTop (mkF m 13 #[vR o0, vR o1, vN, vR vb, zU] [(.int (Int32.ofNat nb))])) _
    refine XS.istore X3.here hx rfl (hb hby d25_13) rfl (l' := #[vR o0, vR o1, vN, vR vb, vI (Int32.ofNat nb)]) rfl ?_
    refine XS.aloadN X3.here hx rfl (hb hby d25_15) rfl rfl ?_
    refine st4.trans ?_
    refine XS.ifNo X4.here hx rfl (hb hby d25_19) rfl ((if0 _ _).trans (feq (by decide : ¬ ((1 : Int32) = (0 : Int32)))).1) ?_
    show Steps p.tables e below (T4.setTop (mkF m 22 #[vR o0, vR o1, vN, vR vb, vI (Int32.ofNat nb)] [])) _
    refine XS.aloadN X4.here hx rfl (hb hby d25_22) rfl rfl ?_
    refine XS.iconst X4.here hx rfl (hb hby d25_23) ?_
    refine st5 _ ?_
    refine XS.aloadN X5.here hx rfl (hb hby d25_27) rfl rfl ?_
    show Steps p.tables e below (T5.setTop (mkF m 28 #[vR o0, vR o1, vN, vR vb, vI (Int32.ofNat nb)] [(.ref o0)])) _
    refine XS.aloadN X5.here hx rfl (hb hby d25_28) rfl rfl ?_
    refine XS.iconst X5.here hx rfl (hb hby d25_29) ?_
    refine XS.iload X5.here hx rfl (hb hby d25_30) rfl ?_
    refine st8 _ ?_
    show Steps p.tables e below (T8.setTop (mkF m 35 #[vR o0, vR o1, vN, vR vb, vI (Int32.ofNat nb)] [(.ref ca8), (.ref o0)])) _
    refine st11 _ ?_
    refine XS.goto X11.here hx rfl (pc0 := 38) (pc' := 97) rfl (hb hby d25_38) (by decide) (by decide) ?_
    show Steps p.tables e below (T11.setTop (mkF m 97 #[vR o0, vR o1, vN, vR vb, vI (Int32.ofNat nb)] [])) _
    exact X11.returnOut hx Bd.returns (hb hby d25_97) hr
  · show QSi Z o0 nb f h0 n0 _ T11.heap _
    rw [e11]
    exact ⟨rfl, N11, K11, ca8, kc8, sh8, E_o_12, Fw5_13, Fw11, Gc8_14⟩
theorem d24_0 : decode jdk_42_method_53_code 0 = .ok (.aload_n 0, 1) := by decide +kernel
theorem d24_1 : decode jdk_42_method_53_code 1 = .ok (.aload_n 1, 1) := by decide +kernel
theorem d24_2 : decode jdk_42_method_53_code 2 = .ok (.aconst_null, 1) := by decide +kernel
theorem d24_3 : decode jdk_42_method_53_code 3 = .ok (.invokespecial 489, 3) := by decide +kernel
theorem pd__Ljava_lang_AbstractStringBuilder_Ljava_lang_Void__V : parseMethodDescriptor "(Ljava/lang/AbstractStringBuilder;Ljava/lang/Void;)V" = some ⟨[(.object "java/lang/AbstractStringBuilder"), (.object "java/lang/Void")], none⟩ := by decide +kernel
theorem d24_6 : decode jdk_42_method_53_code 6 = .ok (.return_, 1) := by decide +kernel
theorem pn_24 : plainName "java/lang/String" = true := by first | (simp [plainName, overriddenIn]; done) | decide +kernel
theorem ef_sI1 (m : MethodId) (x0 : Addr) (x1 : Addr) : entryFrame m #[(.ref x0), (.ref x1)] 2 = mkF m 0 #[.val (.ref x0), .val (.ref x1)] [] := by first | (simp [entryFrame, mkF, argsToLocals, Value.category]; done) | rfl
set_option maxRecDepth 65536 in
set_option maxHeartbeats 40000000 in
theorem sI1 (l : Launch) (Z : State) (a0 : Array Value) (hw : ∀ d ∈ tables_1, d.before a0 Z = true) (ws : List Jvm.Cond) (o0 : Addr) (o1 : Addr) (vb : Addr) (kb : ClassId) (cap nb : Nat) (f : Nat → Nat) (hcap : cap ≤ 1000) (hnb : nb < cap) (hb2 : nb ≤ 200) (hf : Asc f) (h0 : Heap) (n0 : Nat) (Z0 : n0 ≤ h0.size) (KZ : Keep Z.heap h0 []) (hz : Z.heap.size ≤ n0) (R_b : BD Z h0 o1 vb kb cap nb f) (E_o : Exa Z h0 o0 "java/lang/String") (g_o : n0 ≤ o0) (F_v : Fld Z h0 o0 "java/lang/String" "value" "[B" .null) (F_c : Fld Z h0 o0 "java/lang/String" "coder" "B" (.int 0)) (q0 : o0 ≠ vb) (cs : Int32) (hcs : ¬ cs = (0 : Int32)) (S_Cz : Sta Z Z.heap "java/lang/String" "COMPACT_STRINGS" "Z" (.int cs)) :
    MetFree l (⟨"java/lang/String", "<init>", "(Ljava/lang/StringBuilder;)V"⟩ : MethodName) (head1 (Jvm.Cond.code (⟨"java/lang/String", "<init>", "(Ljava/lang/StringBuilder;)V"⟩ : MethodName) jdk_42_method_53_code 2 none :: ws) ({ frames := 4, cells := 1, slots := 200, locals := 98 } : Room)) (fun a U => a = #[(.ref o0), (.ref o1)] ∧ Z.Warmed39 U.vm ∧ U.heap = h0) (fun _ _ _ _ _ => True) (fun _ U o U' => ∃ v L, o = .returned v ∧ QSi Z o0 nb f h0 n0 v U'.heap L ∧ FrameEnd U o U' L ({ frames := 4, cells := 1, slots := 200, locals := 98 } : Room).cells ({ frames := 4, cells := 1, slots := 200, locals := 98 } : Room).slots) := by
  refine MetFree.of_bodySF (plainFor_of_name pn_24) hisR ?_
  intro p e s m args below meth c s₁ Bd hml0 hP hK
  obtain ⟨rfl, hZ, hh⟩ := hP
  have hx := Bd.exec
  have hby := Bd.bytes
  have hml : c.maxLocals = 2 := hml0
  have hown : s.vm.findClass "java/lang/String" = some m.cls := findClass_of_methodNamed Bd.named
  have hnm := (name_of_methodNamed Bd.named Bd.method).1
  have X0 : Stand p l e ({ frames := 4, cells := 1, slots := 200, locals := 98 } : Room) s m #[(.ref o0), (.ref o1)] below meth c s₁ [] 0 0 := Stand.of_body Bd
  have e0 : s₁.heap = h0 := by rw [← hh, Bd.state]; rfl
  have N0 := Fr.nil n0
  have pre0 : ∀ t, Steps p.tables e below (s₁.setTop (mkF m 0 #[vR o0, vR o1] [])) t → Steps p.tables e below (s₁.setTop (entryFrame m #[(.ref o0), (.ref o1)] 2)) t := fun t k => castTop (ef_sI1 m o0 o1) k
  obtain ⟨EB, FcB, FnB, FvB, VB⟩ := id R_b
  obtain ⟨_, _, ⟨T1, L1, k1, n1⟩, -, X1, ⟨Lc1, hQ1, l1, y1, z1⟩, st1⟩ := X0.specialBack hx (y := (⟨"java/lang/String", "<init>", "(Ljava/lang/AbstractStringBuilder;Ljava/lang/Void;)V"⟩ : MethodName)) rfl hown (mvT hZ (wd hw 147 rfl)) (mvT hZ (wd hw 148 rfl)) (mvT hZ (wd hw 149 rfl)) (by decide) (backOf (W := 0) (sI0 l Z a0 hw [] o0 o1 vb kb cap nb f hcap hnb hb2 hf h0 n0 Z0 KZ hz R_b E_o g_o F_v F_c q0 cs hcs S_Cz) hZ (wd hw 149 rfl) (wd hw 26 rfl) (by decide) (by decide)) (g := (mkF m 3 #[vR o0, vR o1] [.null, (.ref o1), (.ref o0)])) rfl (by rw [hml]; rfl) (Steps.refl _) (a := o0) (argsL := [(.ref o1), .null]) (rest := []) (lenOf pd__Ljava_lang_AbstractStringBuilder_Ljava_lang_Void__V rfl) rfl (by show 2 * 0 + _ ≤ _; exact Nat.le_of_eq rfl) (hb hby d24_3) (fun _ _ => ⟨rfl, e0, (by decide : 0 + 1 ≤ _), (by decide : 0 + 200 ≤ _)⟩)
  dsimp only [Pt.U, Pt.locs, Pt.cells, Pt.slots] at X1 l1 y1 z1 st1 hQ1
  rw [l1, y1, z1] at X1
  obtain ⟨rfl, N1q, Kp1, qs1⟩ := hQ1
  have N1 := Fr.app N0 N1q
  obtain ⟨fs, hr, hrun, hended, hW, hsame⟩ := X1.leave (v := none) (fun _ => rfl)
  refine ⟨_, _, pre0 _ ?_, hrun, hended, _, _, rfl, ?_, ⟨_, rfl⟩, hW, hsame.mono (by decide) (by decide)⟩
  · skip
    refine XS.aloadN X0.here hx rfl (hb hby d24_0) rfl rfl ?_
    refine XS.aloadN X0.here hx rfl (hb hby d24_1) rfl rfl ?_
    refine XS.aconstNull X0.here hx rfl (hb hby d24_2) ?_
    show Steps p.tables e below (s₁.setTop (mkF m 3 #[vR o0, vR o1] [.null, (.ref o1), (.ref o0)])) _
    refine st1.trans ?_
    show Steps p.tables e below (T1.setTop (mkF m 6 #[vR o0, vR o1] [])) _
    exact X1.returnOut hx Bd.returns (hb hby d24_6) hr
  · show QSi Z o0 nb f h0 n0 _ T1.heap _
    exact ⟨rfl, N1, Kp1, qs1⟩
def QTs (Z : State) (n : Nat) (f : Nat → Nat) (h0 : Heap) (n0 : Nat) (r : Option Value) (h : Heap) (L : List Loc) : Prop := ∃ (s v : Addr) (k : ClassId), r = some (.ref s) ∧ Fr n0 L ∧ Keep h0 h [] ∧ h0.size ≤ s ∧ h0.size ≤ v ∧ SB Z h s v k n (fun i => Int32.ofNat (f i))
theorem d23_0 : decode jdk_67_method_42_code 0 = .ok (.new 18, 3) := by decide +kernel
theorem d23_3 : decode jdk_67_method_42_code 3 = .ok (.dup, 1) := by decide +kernel
theorem d23_4 : decode jdk_67_method_42_code 4 = .ok (.aload_n 0, 1) := by decide +kernel
theorem d23_5 : decode jdk_67_method_42_code 5 = .ok (.invokespecial 137, 3) := by decide +kernel
theorem pd__Ljava_lang_StringBuilder__V : parseMethodDescriptor "(Ljava/lang/StringBuilder;)V" = some ⟨[(.object "java/lang/StringBuilder")], none⟩ := by decide +kernel
theorem d23_8 : decode jdk_67_method_42_code 8 = .ok (.areturn, 1) := by decide +kernel
theorem pn_23 : plainName "java/lang/StringBuilder" = true := by first | (simp [plainName, overriddenIn]; done) | decide +kernel
theorem ef_bTs (m : MethodId) (x0 : Addr) : entryFrame m #[(.ref x0)] 1 = mkF m 0 #[.val (.ref x0)] [] := by first | (simp [entryFrame, mkF, argsToLocals, Value.category]; done) | rfl
set_option maxRecDepth 65536 in
set_option maxHeartbeats 40000000 in
theorem bTs (l : Launch) (Z : State) (a0 : Array Value) (hw : ∀ d ∈ tables_1, d.before a0 Z = true) (ws : List Jvm.Cond) (o0 : Addr) (vb : Addr) (kb : ClassId) (cap nb : Nat) (f : Nat → Nat) (hcap : cap ≤ 1000) (hnb : nb < cap) (hb2 : nb ≤ 200) (hf : Asc f) (h0 : Heap) (n0 : Nat) (Z0 : n0 ≤ h0.size) (KZ : Keep Z.heap h0 []) (hz : Z.heap.size ≤ n0) (R_b : BD Z h0 o0 vb kb cap nb f) (cs : Int32) (hcs : ¬ cs = (0 : Int32)) (S_Cz : Sta Z Z.heap "java/lang/String" "COMPACT_STRINGS" "Z" (.int cs)) :
    MetFree l (⟨"java/lang/StringBuilder", "toString", "()Ljava/lang/String;"⟩ : MethodName) (head1 (Jvm.Cond.code (⟨"java/lang/StringBuilder", "toString", "()Ljava/lang/String;"⟩ : MethodName) jdk_67_method_42_code 1 (some (.object "java/lang/String")) :: ws) ({ frames := 5, cells := 2, slots := 204, locals := 113 } : Room)) (fun a U => a = #[(.ref o0)] ∧ Z.Warmed39 U.vm ∧ U.heap = h0) (fun _ _ _ _ _ => True) (fun _ U o U' => ∃ v L, o = .returned v ∧ QTs Z nb f h0 n0 v U'.heap L ∧ FrameEnd U o U' L ({ frames := 5, cells := 2, slots := 204, locals := 113 } : Room).cells ({ frames := 5, cells := 2, slots := 204, locals := 113 } : Room).slots) := by
  refine MetFree.of_bodySF (plainFor_of_name pn_23) hisR ?_
  intro p e s m args below meth c s₁ Bd hml0 hP hK
  obtain ⟨rfl, hZ, hh⟩ := hP
  have hx := Bd.exec
  have hby := Bd.bytes
  have hml : c.maxLocals = 1 := hml0
  have hown : s.vm.findClass "java/lang/StringBuilder" = some m.cls := findClass_of_methodNamed Bd.named
  have hnm := (name_of_methodNamed Bd.named Bd.method).1
  have X0 : Stand p l e ({ frames := 5, cells := 2, slots := 204, locals := 113 } : Room) s m #[(.ref o0)] below meth c s₁ [] 0 0 := Stand.of_body Bd
  have e0 : s₁.heap = h0 := by rw [← hh, Bd.state]; rfl
  have N0 := Fr.nil n0
  have pre0 : ∀ t, Steps p.tables e below (s₁.setTop (mkF m 0 #[vR o0] [])) t → Steps p.tables e below (s₁.setTop (entryFrame m #[(.ref o0)] 1)) t := fun t k => castTop (ef_bTs m o0) k
  obtain ⟨EB, FcB, FnB, FvB, VB⟩ := id R_b
  obtain ⟨T1, h1, X1, e1, E1, A1, D1, U1, st1⟩ := newO X0 hx hZ hown (wd hw 142 rfl) (wd hw 33 rfl) (wd hw 26 rfl) e0 (g := (mkF m 0 #[vR o0] [])) rfl (hb hby d23_0) (by decide) (by decide)
  obtain ⟨b1, g1⟩ : ∃ z, z = h0.size := ⟨_, rfl⟩
  rw [← g1] at A1 D1 U1 st1
  have g_b1 : n0 ≤ b1 := Nat.le_trans Z0 (Nat.le_of_eq g1.symm)
  have sz_b1 : h0.size ≤ b1 := Nat.le_trans (Keep.refl h0 []).1 (Nat.le_of_eq g1.symm)
  have ne1_o0 : o0 ≠ b1 := Nat.ne_of_lt (Nat.lt_of_lt_of_le (EB).lt (Nat.le_of_eq g1.symm))
  have ne1_vb : vb ≠ b1 := Nat.ne_of_lt (Nat.lt_of_lt_of_le (VB).lt (Nat.le_of_eq g1.symm))
  have Zs1 : n0 ≤ h1.size := Nat.le_trans Z0 E1.1
  have K1 : Keep h0 h1 [] := (Keep.refl h0 []).ext E1
  have F1_value : Fld Z h1 b1 "java/lang/String" "value" "[B" .null := D1 (Or.inr (wd hw 34 rfl)) (ty := (.array .byte)) (by decide)
  have F1_coder : Fld Z h1 b1 "java/lang/String" "coder" "B" (.int (0 : Int32)) := D1 (Or.inr (wd hw 35 rfl)) (ty := .byte) (by decide)
  have EB_2 := (EB.ext E1)
  have FcB_3 := (FcB.ext E1)
  have FnB_4 := (FnB.ext E1)
  have FvB_5 := (FvB.ext E1)
  have VB_6 := (VB.ext E1)
  obtain ⟨_, _, ⟨T7, L7, k7, n7⟩, -, X7, ⟨Lc7, hQ7, l7, y7, z7⟩, st7⟩ := X1.specialBack hx (y := (⟨"java/lang/String", "<init>", "(Ljava/lang/StringBuilder;)V"⟩ : MethodName)) rfl hown (mvT hZ (wd hw 143 rfl)) (mvT hZ (wd hw 144 rfl)) (mvT hZ (wd hw 146 rfl)) (by decide) (backOf (W := 1) (sI1 l Z a0 hw [] b1 o0 vb kb cap nb f hcap hnb hb2 hf h1 n0 Zs1 (KZ.trans K1 all0) hz ⟨EB_2, FcB_3, FnB_4, FvB_5, VB_6⟩ A1 g_b1 F1_value F1_coder (Ne.symm ne1_vb) cs hcs S_Cz) hZ (wd hw 146 rfl) (wd hw 26 rfl) (by decide) (by decide)) (g := (mkF m 5 #[vR o0] [(.ref o0), (.ref b1), (.ref b1)])) rfl (by rw [hml]; rfl) (Steps.refl _) (a := b1) (argsL := [(.ref o0)]) (rest := [(.ref b1)]) (lenOf pd__Ljava_lang_StringBuilder__V rfl) rfl (by show 2 * 0 + _ ≤ _; exact Nat.le_of_eq rfl) (hb hby d23_5) (fun _ _ => ⟨rfl, e1, (by decide : 1 + 1 ≤ _), (by decide : 4 + 200 ≤ _)⟩)
  dsimp only [Pt.U, Pt.locs, Pt.cells, Pt.slots] at X7 l7 y7 z7 st7 hQ7
  rw [l7, y7, z7] at X7
  obtain ⟨rfl, N7q, Kp7, vs7, ks7, sv7, Sb7⟩ := hQ7
  have N7 := Fr.app N0 N7q
  have Zs7 : n0 ≤ T7.heap.size := Nat.le_trans Zs1 Kp7.1
  have Kk7 : Keep h0 T7.heap [] := K1.trans Kp7 (allS (Or.inr sz_b1) all0)
  have shv : h0.size ≤ vs7 := Nat.le_trans K1.1 sv7
  obtain ⟨fs, hr, hrun, hended, hW, hsame⟩ := X7.leave (v := some (.ref b1)) (fun h => by rw [Bd.returns] at h; cases h)
  refine ⟨_, _, pre0 _ ?_, hrun, hended, _, _, rfl, ?_, ⟨_, rfl⟩, hW, hsame.mono (by decide) (by decide)⟩
  · skip
    refine st1 _ ?_
    refine XS.dup X1.here hx rfl (hb hby d23_3) rfl rfl ?_
    refine XS.aloadN X1.here hx rfl (hb hby d23_4) rfl rfl ?_
    show Steps p.tables e below (T1.setTop (mkF m 5 #[vR o0] [(.ref o0), (.ref b1), (.ref b1)])) _
    refine st7.trans ?_
    show Steps p.tables e below (T7.setTop (mkF m 8 #[vR o0] [(.ref b1)])) _
    jvm_step X7.here [X7.here.top, hx, (hb hby d23_8), X7.method', Bd.returns, Value.isRef, FieldType.isReference]
    first | (intro acts; rw [hr _ acts rfl rfl rfl]) | rw [hr _ _ rfl rfl rfl]
    exact Steps.refl _
  · show QTs Z nb f h0 n0 _ T7.heap _
    exact ⟨_, vs7, ks7, rfl, N7, Kk7, sz_b1, shv, Sb7⟩
/-- the words on Throwable that this sheet bears -/
def ownL (rc : String) : List Jvm.Cond := (Jvm.Free.Exc.excAtoms rc).filter fun d => decide (d ≠ .lays tN tN "suppressedExceptions" listD)
theorem own_in : ∀ d ∈ ownL "com/example/tollplan/tollplan/CommandException", d ∈ tables_1 := by decide +kernel
theorem own_has {rc : String} {d : Jvm.Cond} (h : d ∈ Jvm.Free.Exc.excAtoms rc) (n : d ≠ .lays tN tN "suppressedExceptions" listD) : d ∈ ownL rc := List.mem_filter.mpr ⟨h, decide_eq_true n⟩
theorem own_links {rc : String} {args : Array Value} {s : State} {pl : Platform} (howns : pl.frameOwnsMonitors = true) (hfin : pl.finalization = false) (hpl : pl.magicAccessors = ({} : Platform).magicAccessors) (hrc : rc ≠ tN) (w : ∀ d ∈ ownL rc, d.before args s = true) :
    ∃ T : ThrowableC, T.Links pl s ∧ s.vm.findClass tN = some T.cT ∧ s.methodNamed? tFill = some T.fill ∧ s.methodNamed? tFill0 = some T.fill0 ∧ s.fieldFound? tN "stackTrace" steD = some (T.cT, T.kT, T.i17, T.fStack) ∧ s.fieldFound? tN "UNASSIGNED_STACK" steD = some (T.cT, T.kT, T.i13, T.fUnassigned) ∧ T.fStack.type = .array (.object "java/lang/StackTraceElement") ∧ T.fStack.name = "stackTrace" ∧ ∃ cell, s.heap[T.aS]? = some cell ∧ cell.vm.isStatics = true := by
  have a : ∀ d, d ∈ Jvm.Free.Exc.excAtoms rc → d ≠ .lays tN tN "suppressedExceptions" listD → d.holds args s none s [] = true := fun d h n => w d (own_has h n)
  -- the class
  obtain ⟨⟨c, i0⟩, mt0, nm0, at0, nat0, nocode0, nolock0, sig0⟩ := Cond.native_spec (a (.native tFill0) (by simp [Exc.excAtoms, throwableAtoms]) (by simp))
  have hc : s.vm.findClass tN = some c := findClass_of_methodNamed nm0
  obtain ⟨k, hk, kname⟩ := Vm.findClass_spec hc
  have kboot := Vm.findClass_boot hc hk
  have kinit := Cond.initialized_spec hc hk (a (.initialized tN) (by simp [Exc.excAtoms, throwableAtoms]) (by simp))
  obtain ⟨_, k', _, -, hk', -, -, kord, -, kface⟩ := Cond.superclass_spec hc (a (.superclass tN "java/lang/Object") (by simp [Exc.excAtoms, throwableAtoms]) (by simp))
  cases hk.symm.trans hk'
  -- its methods
  obtain ⟨iF, mtF, nmF, atF, idxF, statF, absF, -, -⟩ := Cond.ownMethod (x := tFill) hc hk (a (.instanceMethod tFill) (by simp [Exc.excAtoms, throwableAtoms]) (by simp))
  obtain ⟨_, cdF, atF', hasF, bytF, locF, retF, lckF, -, sigF⟩ := Cond.codeSync_spec nmF (a (.codeSync tFill LibCode.Throwable.Fill.code 1 (some (.object tN))) (by simp [Exc.excAtoms, throwableAtoms]) (by simp))
  cases atF.symm.trans atF'
  obtain ⟨i0', _, nm0', at0', idx0, stat0, abs0, name0, desc0⟩ := Cond.ownMethod (x := tFill0) hc hk (a (.instanceMethod tFill0) (by simp [Exc.excAtoms, throwableAtoms]) (by simp))
  cases nm0.symm.trans nm0'
  cases at0.symm.trans at0'
  obtain ⟨iZ, mtZ, nmZ, atZ, idxZ, -⟩ := Cond.ownMethod (x := tInit0) hc hk (a (.instanceMethod tInit0) (by simp [Exc.excAtoms, throwableAtoms]) (by simp))
  obtain ⟨_, cdZ, atZ', hasZ, -⟩ := Cond.code_spec nmZ (a (.code tInit0 LibCode.Throwable.Init0.code 1 none) (by simp [Exc.excAtoms, throwableAtoms]) (by simp))
  cases atZ.symm.trans atZ'
  obtain ⟨mO, mtO, nmO, atO, statO, absO⟩ := Cond.instanceMethod_spec (a (.instanceMethod oInit) (by simp [Exc.excAtoms, throwableAtoms]) (by simp))
  obtain ⟨_, cdO, atO', hasO, bytO, locO, -, lckO, -, sigO⟩ := Cond.code_spec nmO (a (.code oInit ⟨#[0xb1]⟩ 1 none) (by simp [Exc.excAtoms, throwableAtoms]) (by simp))
  cases atO.symm.trans atO'
  obtain ⟨kO, hkO, nameO⟩ := Vm.findClass_spec (findClass_of_methodNamed nmO)
  obtain ⟨nameIO, descIO⟩ := name_of_methodNamed nmO atO
  -- its links
  obtain ⟨ci1, n1, cf, l1, r1, hcf, p1⟩ := Cond.linkedMethod hc hk nmO (a (.methodLink tN 1 oInit) (by simp [Exc.excAtoms, throwableAtoms]) (by simp)) pl hpl
  obtain ⟨ci27, n27, _, l27, r27, hcf1, p27⟩ := Cond.linkedMethod hc hk nmF (a (.methodLink tN 27 tFill) (by simp [Exc.excAtoms, throwableAtoms]) (by simp)) pl hpl
  cases hcf.symm.trans hcf1
  obtain ⟨ci202, n202, _, l202, r202, hcf2, p202⟩ := Cond.linkedMethod hc hk nm0 (a (.methodLink tN 202 tFill0) (by simp [Exc.excAtoms, throwableAtoms]) (by simp)) pl hpl
  cases hcf.symm.trans hcf2
  -- its fields; suppressedExceptions by the word on the subclass
  obtain ⟨ci7, i7, f7, l7, r7, at7, st7, fi7, nn7, ty7, ff7⟩ := Cond.ownField (t := .object tN) hc hk (by decide +kernel) (a (.fieldLink tN 7 tN "cause" "Ljava/lang/Throwable;") (by simp [Exc.excAtoms, throwableAtoms]) (by simp)) (a (.lays tN tN "cause" "Ljava/lang/Throwable;") (by simp [Exc.excAtoms, throwableAtoms]) (by simp)) pl hpl
  obtain ⟨ci17, i17, f17, l17, r17, at17, st17, fi17, nn17, ty17, ff17⟩ := Cond.ownField (t := .array (.object "java/lang/StackTraceElement")) hc hk (by decide +kernel) (a (.fieldLink tN 17 tN "stackTrace" steD) (by simp [Exc.excAtoms, throwableAtoms]) (by simp)) (a (.lays tN tN "stackTrace" steD) (by simp [Exc.excAtoms, throwableAtoms]) (by simp)) pl hpl
  have nrc : ∀ {n d : String}, Jvm.Cond.lays rc tN n d ≠ Jvm.Cond.lays tN tN "suppressedExceptions" listD := fun q => by injection q with q1; exact hrc q1
  obtain ⟨ci24, i24, f24, l24, r24, at24, st24, fi24, nn24, ty24, ff24⟩ := Cond.ownField (C' := rc) (t := .object "java/util/List") hc hk (by decide +kernel) (a (.fieldLink tN 24 tN "suppressedExceptions" listD) (by simp [Exc.excAtoms, throwableAtoms]) (by simp)) (a (.lays rc tN "suppressedExceptions" listD) (by simp [Exc.excAtoms]) nrc) pl hpl
  obtain ⟨ci13, i13, f13, aS, cellS, l13, r13, at13, st13, -, -, sta, hcS, isS, -, -, ff13⟩ := Cond.ownStatic (t := .array (.object "java/lang/StackTraceElement")) hc hk (by decide +kernel) (a (.fieldLink tN 13 tN "UNASSIGNED_STACK" steD) (by simp [Exc.excAtoms, throwableAtoms]) (by simp)) (a (.laysStatic tN "UNASSIGNED_STACK" steD) (by simp [Exc.excAtoms, throwableAtoms]) (by simp)) pl hpl
  obtain ⟨ci20, i20, f20, _, _, l20, r20, at20, st20, -⟩ := Cond.ownStatic (t := .object "java/util/List") hc hk (by decide +kernel) (a (.fieldLink tN 20 tN "SUPPRESSED_SENTINEL" listD) (by simp [Exc.excAtoms, throwableAtoms]) (by simp)) (a (.laysStatic tN "SUPPRESSED_SENTINEL" listD) (by simp [Exc.excAtoms, throwableAtoms]) (by simp)) pl hpl
  obtain ⟨_, _, cM, kM, iM, fM, -, -, ffM, stM, fiM, -⟩ := Cond.lays_spec (a (.lays tN tN "detailMessage" "Ljava/lang/String;") (by simp [Exc.excAtoms, throwableAtoms]) (by simp))
  -- the two slots, by the words on the subclass
  have apart : f17.slot ≠ f24.slot := by
    have q := slot_ne (Z := s) (a0 := args) (C := rc) (Or.inl (a (.lays rc tN "stackTrace" steD) (by simp [Exc.excAtoms]) nrc)) (Or.inl (a (.lays rc tN "suppressedExceptions" listD) (by simp [Exc.excAtoms]) nrc)) (by decide) (t := .array (.object "java/lang/StackTraceElement")) (t' := .object "java/util/List") (by decide +kernel) (by decide +kernel)
    have e1 : Jvm.RoadKit.slotOf s tN "stackTrace" steD = f17.slot := by simp only [Jvm.RoadKit.slotOf, ff17]; rfl
    have e2 : Jvm.RoadKit.slotOf s tN "suppressedExceptions" listD = f24.slot := by simp only [Jvm.RoadKit.slotOf, ff24]; rfl
    rw [e1, e2] at q; exact q
  have parF : mtF.sig.parameters = [] := by
    have q : (parseMethodDescriptor tFill.desc).map (·.parameters) = some [] := by decide +kernel
    rw [sigF] at q; simpa using q
  have par0 : mt0.sig.parameters = [.int] := by
    have q : (parseMethodDescriptor tFill0.desc).map (·.parameters) = some [.int] := by decide +kernel
    rw [sig0] at q; simpa using q
  have parO : mtO.sig.parameters.length = 0 := by
    have q : (parseMethodDescriptor oInit.desc).map (·.parameters) = some [] := by decide +kernel
    rw [sigO] at q
    have q' : mtO.sig.parameters = [] := by simpa using q
    rw [q']; rfl
  have fnd : lookupSpecial s.vm mO.cls "<init>" mtO.desc = .method mO := by rw [descIO]; exact lookupSpecial_of_named nmO atO statO
  refine ⟨{ cT := c, kT := k, cO := c, aS := aS, fillIdx := iF, fill0Idx := i0, initSIdx := iZ, obj := mO, kObj := kO, methFill := mtF, methFill0 := mt0, methInitS := mtZ, methObj := mtO, codeFill := cdF, codeInitS := cdZ, codeObj := cdO, fBack := f7, fDepth := f7, fStack := f17, fCause := f7, fSupp := f24, fMsg := fM, fUnassigned := f13, fSentinel := f20, cfT := cf, ci1 := ci1, n1 := n1, ci27 := ci27, n27 := n27, ci202 := ci202, n202 := n202, ci7 := ci7, i7 := i7, ci13 := ci13, i13 := i13, ci17 := ci17, i17 := i17, ci20 := ci20, i20 := i20, ci24 := ci24, i24 := i24 }, ?_, hc, nmF, nm0, ff17, ff13, ty17, nn17, cellS, hcS, isS⟩
  constructor <;> first | assumption | exact kname | exact nameO
theorem own_xok {rc : String} : ∀ d ∈ ownL rc, xOk d = true := fun d hd => List.all_eq_true.mp exc_ok d (List.mem_filter.mp hd).1
theorem own_ff {Z s : State} (hZ : Z.Warmed39 s.vm) {C n d : String} {cf cf' i i' : Nat} {k k' : Class} {f f' : Field} (h : Z.fieldFound? C n d = some (cf, k, i, f)) (h' : s.fieldFound? C n d = some (cf', k', i', f')) : cf = cf' ∧ f = f' ∧ k.statics = k'.statics := by
  obtain ⟨k2, q, ek⟩ := State.fieldFound?_setVm (s := Z) hZ.alike h
  have q' : s.fieldFound? C n d = some (cf, k2, i, f) := q
  cases q'.symm.trans h'
  exact ⟨rfl, rfl, by rw [ek]⟩
/-- **fillInStackTrace() on an object that the walk itself has made**, from the words that the sheet bears -/
theorem own_fill {p : Program} {l : Launch} {e : Env} {R : Room} {s : State} {m : MethodId} {args : Array Value} {below : List Frame} {meth : Method} {c : Code} {T : State} {locs : List Loc} {cells slots : Nat} {Z : State} {a0 : Array Value} {h : Heap}
    (X : Stand p l e R s m args below meth c T locs cells slots) (hx : p.tables.exec = Jvm.exec) (hl : l.stackTraces = true) (hZ : Z.Warmed39 s.vm) (hown : s.vm.findClass tN = some m.cls) {rc : String} {kk : Nat} (hrc : rc ≠ tN) (hw : ∀ d ∈ ownL rc, d.before a0 Z = true) (wi : (Jvm.Cond.instantiable rc kk).before a0 Z = true)
    (hT0 : ThS Z s.heap) (hTK : s.vm.MethodsKnown) (hBelow : s.vm.FramesKnown below) (eT : T.heap = h) {a : Addr} (E : Exa Z h a rc) (N : Unt h a) {u : Value} (hu : u.isRef = true) (FS : Fld Z h a tN "stackTrace" steD u) (SU : Sta Z h tN "UNASSIGNED_STACK" steD u) (FB : Fld Z h a tN "backtrace" Exc.obD .null)
    {g : JFrame} (hg : g.method = m) (hsize : g.locals.size = c.maxLocals) {rest : List Value} (hs : g.stack = .ref a :: rest) (hd : decode c.code g.pc = .ok (.invokevirtual 27, 3)) (hf : 3 ≤ R.frames) {W : Nat} (hW : 2 * g.monitorRoom + (rest.map fun v => v.category).sum ≤ W) (hlo : W + 42 ≤ R.locals) (hc : cells + 1 ≤ R.cells) (hsl : slots + 2752 ≤ R.slots) :
    ∃ (T' : State) (cell C : Cell), h[a]? = some cell ∧ T'.heap[a]? = some C ∧ C.cls = cell.cls ∧ C.vm = cell.vm ∧ C.slots.size = cell.slots.size ∧ (∀ i, i ≠ Jvm.RoadKit.slotOf Z tN "backtrace" Exc.obD → i ≠ Jvm.RoadKit.slotOf Z tN "depth" "I" → i ≠ Jvm.RoadKit.slotOf Z tN "stackTrace" steD → C.slots[i]? = cell.slots[i]?) ∧
      Stand p l e R s m args below meth c T' (locs ++ [⟨a, Jvm.RoadKit.slotOf Z tN "backtrace" Exc.obD⟩, ⟨a, Jvm.RoadKit.slotOf Z tN "depth" "I"⟩, ⟨a, Jvm.RoadKit.slotOf Z tN "stackTrace" steD⟩]) (cells + 1) (slots + 2752) ∧
      ∀ target, Steps p.tables e below (T'.setTop { g with pc := g.pc + 3, stack := .ref a :: rest }) target → Steps p.tables e below (T.setTop g) target := by
  have w : ∀ d ∈ ownL rc, d.before args s = true := fun d hd => mvX hT0 hZ (own_xok d hd) (hw d hd)
  have aw : ∀ d, d ∈ Jvm.Free.Exc.excAtoms rc → d ≠ .lays tN tN "suppressedExceptions" listD → d.before args s = true := fun d h n => w d (own_has h n)
  have nrc : ∀ {n d : String}, Jvm.Cond.lays rc tN n d ≠ Jvm.Cond.lays tN tN "suppressedExceptions" listD := fun q => by injection q with q1; exact hrc q1
  have htr : e.platform.stackTraces = true := by rw [X.admits.platform]; exact hl
  have howns : e.platform.frameOwnsMonitors = true := by rw [X.admits.platform]
  have hfin : e.platform.finalization = false := by rw [X.admits.platform]
  have hpl : e.platform.magicAccessors = ({} : Platform).magicAccessors := by rw [X.admits.platform]
  obtain ⟨Tc, L, hcT, nFill, nFill0, ffS, ffU, tyS, nnS, -⟩ := own_links howns hfin hpl hrc w
  -- the receiver
  obtain ⟨cell, kZ, h1, h2, h3, h4, h5⟩ := E
  obtain ⟨_, u1, u2, u3⟩ := N
  cases h1.symm.trans u1
  have fnd : s.vm.findClass rc = some cell.cls := by rw [hZ.alike.findClass]; exact h2
  obtain ⟨kX, hkX, ekX⟩ := hZ.alike.2.2 _ _ h3
  obtain ⟨_, _, j1, j2, j3, -⟩ := Cond.instantiable_spec wi
  cases h2.symm.trans j1
  cases h3.symm.trans j2
  have ordX : kX.kind = .ordinary := by rw [ekX]; exact j3
  have szX : cell.slots.size = kX.instanceTypes.size := by rw [ekX]; exact h5 j3
  have tk : ∀ {n d : String} {f : Field} {v : Value}, (Jvm.Cond.lays rc tN n d).before args s = true → (∃ c k i, s.fieldFound? tN n d = some (c, k, i, f)) → fits f.type v = true → Jvm.Takes s cell f v := fun {n d f v} wl hf hv => by
    obtain ⟨_, _, _, _, _, _, b1, b2, b3, -, -, -, b7, -⟩ := Cond.lays_spec wl
    obtain ⟨_, _, _, hf⟩ := hf
    cases b3.symm.trans hf
    cases b1.symm.trans fnd
    cases b2.symm.trans hkX
    obtain ⟨q1, q2⟩ := Takes.of_laid (v := v) hkX ordX b7 hv
    exact ⟨by rw [szX]; simpa using q1, by rw [u2]; exact q2⟩
  -- its fields
  obtain ⟨_, _, _, _, fS, g1, g2, -, -, -, -, g7⟩ := FS
  cases h1.symm.trans g1
  obtain ⟨-, rfl, -⟩ := own_ff hZ g2 ffS
  obtain ⟨_, _, _, _, fB', b1, b2, b3, -, -, -, b7⟩ := FB
  cases h1.symm.trans b1
  obtain ⟨_, _, _, _, st, cellU, s1, -, -, s4, s5, s6, s7⟩ := SU
  obtain ⟨-, rfl, sst⟩ := own_ff hZ s1 ffU
  have est : Tc.aS = st := Option.some.inj (L.statics.symm.trans (sst.symm.trans s4))
  obtain ⟨ci198, i198, fB, lk, rt, at198, stB, -, nnB, tyB, ffB⟩ := Cond.ownField (t := .object "java/lang/Object") hcT L.cls (by decide +kernel) (aw (.fieldLink tN 198 tN "backtrace" Exc.obD) (by simp [Exc.excAtoms]) (by simp)) (aw (.lays tN tN "backtrace" Exc.obD) (by simp [Exc.excAtoms]) (by simp)) e.platform hpl
  obtain ⟨-, rfl, -⟩ := own_ff hZ b2 ffB
  obtain ⟨_, _, _, _, iD, fD, -, -, ffD, stD, -⟩ := Cond.lays_spec (aw (.lays rc tN "depth" "I") (by simp [Exc.excAtoms]) nrc)
  cases Option.some.inj ((Cond.lays_declared (aw (.lays rc tN "depth" "I") (by simp [Exc.excAtoms]) nrc) ffD).symm.trans hcT)
  obtain ⟨kD, atD⟩ := State.fieldFound?_spec ffD
  cases Option.some.inj (kD.symm.trans L.cls)
  obtain ⟨nnD, tyD⟩ := State.fieldFound?_type ffD (t := .int) (by decide +kernel)
  have fb := Cond.soleField_find hcT L.cls (aw (.soleField tN "backtrace") (by simp [Exc.excAtoms]) (by simp)) at198 nnB stB
  have fd := Cond.soleField_find hcT L.cls (aw (.soleField tN "depth") (by simp [Exc.excAtoms]) (by simp)) atD nnD stD
  obtain ⟨comp, cO, kO, -, -, hkO, kindO, hO⟩ := Cond.arrayOver_spec (aw (.arrayOver (.object "java/lang/Object")) (by simp [Exc.excAtoms]) (by simp))
  have sel0 : selectMethod e.platform s.vm cell.cls Tc.fill0 = .method Tc.fill0 := by
    obtain ⟨_, _, _, q1, q2, q3, q4, -⟩ := Cond.selects_spec (aw (.selects rc tFill0 tFill0) (by simp [Exc.excAtoms]) (by simp))
    cases q1.symm.trans fnd
    cases q2.symm.trans (State.methodFound?_of_named nFill0 (by decide))
    cases q3.symm.trans nFill0
    rw [Launch.admits_selectMethod X.admits]; exact q4
  have neS : Tc.aS ≠ a := fun q => by
    rw [est] at q; rw [q] at s5
    cases h1.symm.trans s5
    rw [h4] at s6; cases s6
  have slB : Jvm.RoadKit.slotOf Z tN "backtrace" Exc.obD = fB'.slot := by simp only [Jvm.RoadKit.slotOf, b2]; rfl
  have slS : Jvm.RoadKit.slotOf Z tN "stackTrace" steD = Tc.fStack.slot := by simp only [Jvm.RoadKit.slotOf, g2]; rfl
  have slD : Jvm.RoadKit.slotOf Z tN "depth" "I" = fD.slot := by
    obtain ⟨k2, q, -⟩ := State.fieldFound?_setVm (s := s) (vm' := Z.vm) hZ.alike.symm ffD
    have q' : Z.fieldFound? tN "depth" "I" = some (_, k2, iD, fD) := q
    simp only [Jvm.RoadKit.slotOf, q']; rfl
  have hSE := aw (.selects rc tFill tFill) (by simp [Exc.excAtoms]) (by simp)
  obtain ⟨v6, vm6, ⟨T6, L6, c6, n6⟩, -, X6, ⟨rfl, C6, n, hn, hD6, q1, q2, q3, q4, rfl, rfl, rfl⟩, come⟩ := X.virtualBack hx (own := tN) (C := rc) (index := 27) (y := tFill) (z := tFill) hown (aw (.methodLink tN 27 tFill) (by simp [Exc.excAtoms, throwableAtoms]) (by simp)) (aw (.declares tFill) (by simp [Exc.excAtoms]) (by simp)) (notFace_of_selects hSE) hSE (aw (.instanceMethod tFill) (by simp [Exc.excAtoms, throwableAtoms]) (by simp)) (by decide)
    (Exc.fillPaysAny (l := l) (W := W) hx htr Tc L nFill (u0 := ⟨u, hu⟩) (self := a) (cell := cell) (cellS := cellU) (fun _ => by rw [u2]; simp) (by rw [u2]; simp) (by rw [u3]) (by rw [u3]) g7 sel0 neS (fun q => by rw [q] at s6; cases s6) s7
      (tk (aw (.lays rc tN "stackTrace" steD) (by simp [Exc.excAtoms]) nrc) ⟨_, _, _, ffS⟩ (by rw [tyS]; exact fits_refV_array _ ⟨u, hu⟩))
      ⟨{ ci198 := ci198, i198 := i198, fBack := fB' }, ⟨lk, rt, at198, stB⟩, b7⟩ hTK hBelow hcT hO hkO kindO fb fd
      (fun x => tk (aw (.lays rc tN "backtrace" Exc.obD) (by simp [Exc.excAtoms]) nrc) ⟨_, _, _, ffB⟩ (by rw [tyB]; rfl)) (fun x => tk (aw (.lays rc tN "depth" "I") (by simp [Exc.excAtoms]) nrc) ⟨_, _, _, ffD⟩ (by rw [tyD]; rfl)) (by omega) (by omega))
    (b := a) (cB := cell.cls) fnd ⟨cell, by rw [eT]; exact h1, rfl, h4⟩ (g := g) hg hsize (Steps.refl _) (argsL := []) (rest := rest)
    (fun sig h => by rw [show parseMethodDescriptor tFill.desc = some ⟨[], some (.object tN)⟩ from by decide +kernel] at h; rw [← Option.some.inj h]; rfl) hs hW hd
    (fun vmx hWx => ⟨rfl, hc, hsl, by show T.heap[a]? = _; rw [eT]; exact h1, by show T.heap[Tc.aS]? = _; rw [eT, est]; exact s5⟩)
  dsimp only [Pt.U, Pt.locs, Pt.cells, Pt.slots] at X6 hD6 come
  refine ⟨T6, cell, C6, h1, hD6, q1, q2, q3, fun i i1 i2 i3 => q4 i (slB ▸ i1) (slD ▸ i2) (slS ▸ i3), ?_, fun target k => come.trans k⟩
  rw [slB, slD, slS]
  exact X6.more (Nat.le_refl _) (Nat.add_le_add_left hn _)
theorem own_sub : ∀ a ∈ Bundle.stringAtoms, a ∈ tables_1 := by decide +kernel
theorem own_strings {Z : State} {a0 : Array Value} (hw : ∀ d ∈ tables_1, d.before a0 Z = true) : ∀ a ∈ Bundle.stringAtoms, a.before a0 Z = true := fun a ha => hw a (own_sub a ha)
theorem own_words {Z : State} {a0 : Array Value} (hw : ∀ d ∈ tables_1, d.before a0 Z = true) : ∀ d ∈ ownL "com/example/tollplan/tollplan/CommandException", d.before a0 Z = true := fun d hd => hw d (own_in d hd)
theorem own_keep_stand {p : Program} {l : Launch} {e : Env} {R : Room} {s : State} {m : MethodId} {args : Array Value} {below : List Frame} {meth : Method} {c : Code} {T : State} {locs : List Loc} {cells slots : Nat} {h0 : Heap} {a : Addr} (X : Stand p l e R s m args below meth c T locs cells slots) (hh : s.heap = h0) (hb : ∀ x ∈ locs, x.base = a) : Keep h0 T.heap [a] := by
  subst hh
  obtain ⟨-, q1, -, -, -, q⟩ := X.same
  have q1' : s.heap.size ≤ T.heap.size := q1
  have q' : ∀ x cl, s.heap[x]? = some cl → ∃ c' : Cell, T.heap[x]? = some c' ∧ c' = { cl with slots := c'.slots } ∧ c'.slots.size = cl.slots.size ∧ ∀ i, (⟨x, i⟩ : Loc) ∉ locs → c'.slots[i]? = cl.slots[i]? := q
  refine ⟨q1', fun x cl hx hn => ?_, fun x cl hx => ?_⟩
  · obtain ⟨c', e1, e2, e3, e4⟩ := q' x cl hx
    have : c'.slots = cl.slots := Array.ext_getElem? fun i => e4 i fun hm => hn (by have := hb _ hm; simp at this; simp [this])
    rw [e1, e2, this]
  · obtain ⟨c', e1, e2, e3, -⟩ := q' x cl hx
    exact ⟨c', e1, by rw [e2], by rw [e2], e3⟩
theorem own_unt_stand {p : Program} {l : Launch} {e : Env} {R : Room} {s : State} {m : MethodId} {args : Array Value} {below : List Frame} {meth : Method} {c : Code} {T : State} {locs : List Loc} {cells slots : Nat} {h0 : Heap} {a : Addr} (X : Stand p l e R s m args below meth c T locs cells slots) (hh : s.heap = h0) (U : Unt h0 a) : Unt T.heap a := by
  subst hh
  obtain ⟨-, -, -, -, -, q⟩ := X.same
  have q' : ∀ x cl, s.heap[x]? = some cl → ∃ c' : Cell, T.heap[x]? = some c' ∧ c' = { cl with slots := c'.slots } ∧ c'.slots.size = cl.slots.size ∧ ∀ i, (⟨x, i⟩ : Loc) ∉ locs → c'.slots[i]? = cl.slots[i]? := q
  obtain ⟨cell, u1, u2, u3⟩ := U
  obtain ⟨c', e1, e2, -⟩ := q' a cell u1
  exact ⟨c', e1, by rw [e2]; exact u2, by rw [e2]; exact u3⟩
theorem own_fld_cell {Z : State} {h h' : Heap} {a : Addr} {O n d : String} {v : Value} {cell C : Cell} (F : Fld Z h a O n d v) (h1 : h[a]? = some cell) (h2 : h'[a]? = some C) (c1 : C.cls = cell.cls) (c2 : C.vm = cell.vm) (q : C.slots[Jvm.RoadKit.slotOf Z O n d]? = cell.slots[Jvm.RoadKit.slotOf Z O n d]?) : Fld Z h' a O n d v := by
  obtain ⟨cl, cf, k, i, f, g1, g2, g3, g4, g5, g6, g7⟩ := F
  cases h1.symm.trans g1
  have e : Jvm.RoadKit.slotOf Z O n d = f.slot := by simp only [Jvm.RoadKit.slotOf, g2]; rfl
  rw [e] at q
  exact ⟨C, cf, k, i, f, h2, g2, g3, by rw [c2]; exact g4, by rw [c2]; exact g5, by rw [c1]; exact g6, q.trans g7⟩
theorem own_exa_cell {Z : State} {h h' : Heap} {a : Addr} {K : String} {cell C : Cell} (E : Exa Z h a K) (h1 : h[a]? = some cell) (h2 : h'[a]? = some C) (c1 : C.cls = cell.cls) (c2 : C.vm = cell.vm) (c3 : C.slots.size = cell.slots.size) : Exa Z h' a K := by
  obtain ⟨cl, k, g1, g2, g3, g4, g5⟩ := E
  cases h1.symm.trans g1
  exact ⟨C, k, h2, by rw [c1]; exact g2, by rw [c1]; exact g3, by rw [c2]; exact g4, by rw [c3]; exact g5⟩
def QI (Z : State) (o k msg : Addr) (h0 : Heap) (n0 : Nat) (v : Option Value) (h : Heap) (L : List Loc) : Prop := v = none ∧ Fr n0 L ∧ Keep h0 h [o] ∧ Exa Z h o "com/example/tollplan/tollplan/CommandException" ∧ Fld Z h o "com/example/tollplan/tollplan/CommandException" "kind" "Lcom/example/tollplan/tollplan/CommandException$Kind;" (.ref k) ∧ Fld Z h o "java/lang/Throwable" "detailMessage" "Ljava/lang/String;" (.ref msg) ∧ Fld Z h o "java/lang/Throwable" "cause" "Ljava/lang/Throwable;" (.ref o) ∧ Unt h o
def QT (Z : State) (o msg : Addr) (h0 : Heap) (n0 : Nat) (v : Option Value) (h : Heap) (L : List Loc) : Prop := v = none ∧ Fr n0 L ∧ Keep h0 h [o] ∧ Exa Z h o "com/example/tollplan/tollplan/CommandException" ∧ Fld Z h o "com/example/tollplan/tollplan/CommandException" "kind" "Lcom/example/tollplan/tollplan/CommandException$Kind;" .null ∧ Fld Z h o "java/lang/Throwable" "detailMessage" "Ljava/lang/String;" (.ref msg) ∧ Fld Z h o "java/lang/Throwable" "cause" "Ljava/lang/Throwable;" (.ref o) ∧ Unt h o
def QA (Z : State) (k : Addr) (h0 : Heap) (n0 : Nat) (v : Option Value) (h : Heap) (L : List Loc) : Prop := ∃ b : Addr, v = some (.ref b) ∧ Fr n0 L ∧ Keep h0 h [] ∧ Exa Z h b "com/example/tollplan/tollplan/CommandException" ∧ Fld Z h b "com/example/tollplan/tollplan/CommandException" "kind" "Lcom/example/tollplan/tollplan/CommandException$Kind;" (.ref k)
theorem d34_0 : decode jdk_78_method_2_code 0 = .ok (.aload_n 0, 1) := by decide +kernel
theorem d34_1 : decode jdk_78_method_2_code 1 = .ok (.invokespecial 1, 3) := by decide +kernel
theorem d34_4 : decode jdk_78_method_2_code 4 = .ok (.aload_n 0, 1) := by decide +kernel
theorem d34_5 : decode jdk_78_method_2_code 5 = .ok (.aload_n 0, 1) := by decide +kernel
theorem d34_6 : decode jdk_78_method_2_code 6 = .ok (.putfield 7, 3) := by decide +kernel
theorem d34_9 : decode jdk_78_method_2_code 9 = .ok (.aload_n 0, 1) := by decide +kernel
theorem d34_10 : decode jdk_78_method_2_code 10 = .ok (.getstatic 13, 3) := by decide +kernel
theorem d34_13 : decode jdk_78_method_2_code 13 = .ok (.putfield 17, 3) := by decide +kernel
theorem d34_16 : decode jdk_78_method_2_code 16 = .ok (.aload_n 0, 1) := by decide +kernel
theorem d34_17 : decode jdk_78_method_2_code 17 = .ok (.getstatic 20, 3) := by decide +kernel
theorem d34_20 : decode jdk_78_method_2_code 20 = .ok (.putfield 24, 3) := by decide +kernel
theorem d34_23 : decode jdk_78_method_2_code 23 = .ok (.aload_n 0, 1) := by decide +kernel
theorem d34_24 : decode jdk_78_method_2_code 24 = .ok (.invokevirtual 27, 3) := by decide +kernel
theorem d34_27 : decode jdk_78_method_2_code 27 = .ok (.pop, 1) := by decide +kernel
theorem d34_28 : decode jdk_78_method_2_code 28 = .ok (.aload_n 0, 1) := by decide +kernel
theorem d34_29 : decode jdk_78_method_2_code 29 = .ok (.aload_n 1, 1) := by decide +kernel
theorem d34_30 : decode jdk_78_method_2_code 30 = .ok (.putfield 31, 3) := by decide +kernel
theorem d34_33 : decode jdk_78_method_2_code 33 = .ok (.return_, 1) := by decide +kernel
theorem pn_34 : plainName "java/lang/Throwable" = true := by first | (simp [plainName, overriddenIn]; done) | decide +kernel
theorem ef_rm4 (m : MethodId) (x0 : Addr) (x1 : Addr) : entryFrame m #[(.ref x0), (.ref x1)] 2 = mkF m 0 #[.val (.ref x0), .val (.ref x1)] [] := by first | (simp [entryFrame, mkF, argsToLocals, Value.category]; done) | rfl
set_option maxRecDepth 65536 in
set_option maxHeartbeats 40000000 in
theorem rm4 (l : Launch) (Z : State) (a0 : Array Value) (hw : ∀ d ∈ tables_1, d.before a0 Z = true) (ws : List Jvm.Cond) (o0 : Addr) (o1 : Addr) (h0 : Heap) (n0 : Nat) (Z0 : n0 ≤ h0.size) (hl : l.stackTraces = true) (TH : ThS Z h0) (u1 u2 : Value) (hu1 : u1.isRef = true) (hu2 : u2.isRef = true) (S_U : Sta Z h0 "java/lang/Throwable" "UNASSIGNED_STACK" "[Ljava/lang/StackTraceElement;" u1) (S_N : Sta Z h0 "java/lang/Throwable" "SUPPRESSED_SENTINEL" "Ljava/util/List;" u2) (E_o : Exa Z h0 o0 "com/example/tollplan/tollplan/CommandException") (U_o : Unt h0 o0) (g_o : n0 ≤ o0) (F_c : Fld Z h0 o0 "java/lang/Throwable" "cause" "Ljava/lang/Throwable;" .null) (F_s : Fld Z h0 o0 "java/lang/Throwable" "stackTrace" "[Ljava/lang/StackTraceElement;" .null) (F_x : Fld Z h0 o0 "java/lang/Throwable" "suppressedExceptions" "Ljava/util/List;" .null) (F_b : Fld Z h0 o0 "java/lang/Throwable" "backtrace" "Ljava/lang/Object;" .null) (F_m : Fld Z h0 o0 "java/lang/Throwable" "detailMessage" "Ljava/lang/String;" .null) (F_k : Fld Z h0 o0 "com/example/tollplan/tollplan/CommandException" "kind" "Lcom/example/tollplan/tollplan/CommandException$Kind;" .null) :
    MetFree l (⟨"java/lang/Throwable", "<init>", "(Ljava/lang/String;)V"⟩ : MethodName) (head1 (Jvm.Cond.code (⟨"java/lang/Throwable", "<init>", "(Ljava/lang/String;)V"⟩ : MethodName) jdk_78_method_2_code 2 none :: ws) ({ frames := 3, cells := 1, slots := 2752, locals := 42 } : Room)) (fun a U => a = #[(.ref o0), (.ref o1)] ∧ Z.Warmed39 U.vm ∧ U.heap = h0) (fun _ _ bl s _ => s.vm.MethodsKnown ∧ s.vm.FramesKnown bl) (fun _ U o U' => ∃ v L, o = .returned v ∧ QT Z o0 o1 h0 n0 v U'.heap L ∧ FrameEnd U o U' L ({ frames := 3, cells := 1, slots := 2752, locals := 42 } : Room).cells ({ frames := 3, cells := 1, slots := 2752, locals := 42 } : Room).slots) := by
  refine MetFree.of_bodySF (plainFor_of_name pn_34) hisR ?_
  intro p e s m args below meth c s₁ Bd hml0 hP hK
  obtain ⟨rfl, hZ, hh⟩ := hP
  obtain ⟨hTK, hBelow⟩ := hK
  have hx := Bd.exec
  have hby := Bd.bytes
  have hml : c.maxLocals = 2 := hml0
  have hown : s.vm.findClass "java/lang/Throwable" = some m.cls := findClass_of_methodNamed Bd.named
  have hnm := (name_of_methodNamed Bd.named Bd.method).1
  have X0 : Stand p l e ({ frames := 3, cells := 1, slots := 2752, locals := 42 } : Room) s m #[(.ref o0), (.ref o1)] below meth c s₁ [] 0 0 := Stand.of_body Bd
  have e0 : s₁.heap = h0 := by rw [← hh, Bd.state]; rfl
  have N0 := Fr.nil n0
  have pre0 : ∀ t, Steps p.tables e below (s₁.setTop (mkF m 0 #[vR o0, vR o1] [])) t → Steps p.tables e below (s₁.setTop (entryFrame m #[(.ref o0), (.ref o1)] 2)) t := fun t k => castTop (ef_rm4 m o0 o1) k
  obtain ⟨T1, X1, e1, st1⟩ := initO X0 hx hZ hown (wd hw 188 rfl) (wd hw 23 rfl) (wd hw 24 rfl) e0 (g := (mkF m 1 #[vR o0, vR o1] [(.ref o0)])) rfl (by rw [hml]; rfl) rfl (hb hby d34_1) (by decide) (W := 0) (by show 2 * 0 + _ ≤ _; exact Nat.le_of_eq rfl) (by decide)
  obtain ⟨T2, h2, X2, e2, W2, st2⟩ := putF X1 hx hZ hown (host := "") (Or.inl (wd hw 189 rfl)) Via.refl e1 F_c E_o (Or.inl (wd hw 190 rfl)) (wd hw 6 rfl) (ty := (.object "java/lang/Throwable")) (by decide) rfl rfl (g := (mkF m 6 #[vR o0, vR o1] [(.ref o0), (.ref o0)])) rfl rfl (hb hby d34_6)
  have Fw2 := F_c.same W2
  have Zs2 : n0 ≤ h2.size := Nat.le_trans Z0 (Nat.le_of_eq W2.size.symm)
  have K2 : Keep h0 h2 [o0] := (Keep.refl h0 [o0]).wr W2 (Or.inl (List.mem_of_getElem? (i := 0) rfl))
  have N2 := Fr.snoc X2 N0 g_o
  have S_U_3 := (S_U.wr W2)
  obtain ⟨T4, X4, e4, st4⟩ := getS2 X2 hx hZ hown (host := "") (Or.inl (wd hw 191 rfl)) Via.refl e2 S_U_3 (g := (mkF m 10 #[vR o0, vR o1] [(.ref o0)])) rfl (hb hby d34_10)
  have F_s_5 := (F_s.other W2 (Or.inr (slot_ne (Or.inl (wd hw 193 rfl)) (Or.inl (wd hw 190 rfl)) (by decide) (t := (.array (.object "java/lang/StackTraceElement"))) (t' := (.object "java/lang/Throwable")) (by decide) (by decide))))
  have E_o_6 := (E_o.wr W2)
  obtain ⟨T7, h7, X7, e7, W7, st7⟩ := putF X4 hx hZ hown (host := "") (Or.inl (wd hw 192 rfl)) Via.refl e4 F_s_5 E_o_6 (Or.inl (wd hw 193 rfl)) (wd hw 6 rfl) (ty := (.array (.object "java/lang/StackTraceElement"))) (by decide) (narrow_refV _ ⟨u1, hu1⟩) (fits_refV_array _ ⟨u1, hu1⟩) (g := (mkF m 13 #[vR o0, vR o1] [u1, (.ref o0)])) rfl rfl (hb hby d34_13)
  have Fw7 := F_s_5.same W7
  have Zs7 : n0 ≤ h7.size := Nat.le_trans Zs2 (Nat.le_of_eq W7.size.symm)
  have K7 : Keep h0 h7 [o0] := K2.wr W7 (Or.inl (List.mem_of_getElem? (i := 0) rfl))
  have N7 := Fr.snoc X7 N2 g_o
  have S_N_8 := ((S_N.wr W2).wr W7)
  obtain ⟨T9, X9, e9, st9⟩ := getS2 X7 hx hZ hown (host := "") (Or.inl (wd hw 194 rfl)) Via.refl e7 S_N_8 (g := (mkF m 17 #[vR o0, vR o1] [(.ref o0)])) rfl (hb hby d34_17)
  have F_x_10 := ((F_x.other W2 (Or.inr (slot_ne (Or.inl (wd hw 196 rfl)) (Or.inl (wd hw 190 rfl)) (by decide) (t := (.object "java/util/List")) (t' := (.object "java/lang/Throwable")) (by decide) (by decide)))).other W7 (Or.inr (slot_ne (Or.inl (wd hw 196 rfl)) (Or.inl (wd hw 193 rfl)) (by decide) (t := (.object "java/util/List")) (t' := (.array (.object "java/lang/StackTraceElement"))) (by decide) (by decide))))
  have E_o_11 := (E_o_6.wr W7)
  obtain ⟨T12, h12, X12, e12, W12, st12⟩ := putF X9 hx hZ hown (host := "") (Or.inl (wd hw 195 rfl)) Via.refl e9 F_x_10 E_o_11 (Or.inl (wd hw 196 rfl)) (wd hw 6 rfl) (ty := (.object "java/util/List")) (by decide) (narrow_refV _ ⟨u2, hu2⟩) (fits_refV_object _ ⟨u2, hu2⟩) (g := (mkF m 20 #[vR o0, vR o1] [u2, (.ref o0)])) rfl rfl (hb hby d34_20)
  have Fw12 := F_x_10.same W12
  have Zs12 : n0 ≤ h12.size := Nat.le_trans Zs7 (Nat.le_of_eq W12.size.symm)
  have K12 : Keep h0 h12 [o0] := K7.wr W12 (Or.inl (List.mem_of_getElem? (i := 0) rfl))
  have N12 := Fr.snoc X12 N7 g_o
  have U_o_14 := (Unt.wr W12 (Unt.wr W7 (Unt.wr W2 U_o)))
  have E_o_15 := (E_o_11.wr W12)
  have Fw7_16 := (Fw7.other W12 (Or.inr (slot_ne (Or.inl (wd hw 193 rfl)) (Or.inl (wd hw 196 rfl)) (by decide) (t := (.array (.object "java/lang/StackTraceElement"))) (t' := (.object "java/util/List")) (by decide) (by decide))))
  have S_U_17 := ((S_U_3.wr W7).wr W12)
  have F_b_18 := (((F_b.other W2 (Or.inr (slot_ne (Or.inl (wd hw 221 rfl)) (Or.inl (wd hw 190 rfl)) (by decide) (t := (.object "java/lang/Object")) (t' := (.object "java/lang/Throwable")) (by decide) (by decide)))).other W7 (Or.inr (slot_ne (Or.inl (wd hw 221 rfl)) (Or.inl (wd hw 193 rfl)) (by decide) (t := (.object "java/lang/Object")) (t' := (.array (.object "java/lang/StackTraceElement"))) (by decide) (by decide)))).other W12 (Or.inr (slot_ne (Or.inl (wd hw 221 rfl)) (Or.inl (wd hw 196 rfl)) (by decide) (t := (.object "java/lang/Object")) (t' := (.object "java/util/List")) (by decide) (by decide))))
  have F_m_19 := (((F_m.other W2 (Or.inr (slot_ne (Or.inl (wd hw 220 rfl)) (Or.inl (wd hw 190 rfl)) (by decide) (t := (.object "java/lang/String")) (t' := (.object "java/lang/Throwable")) (by decide) (by decide)))).other W7 (Or.inr (slot_ne (Or.inl (wd hw 220 rfl)) (Or.inl (wd hw 193 rfl)) (by decide) (t := (.object "java/lang/String")) (t' := (.array (.object "java/lang/StackTraceElement"))) (by decide) (by decide)))).other W12 (Or.inr (slot_ne (Or.inl (wd hw 220 rfl)) (Or.inl (wd hw 196 rfl)) (by decide) (t := (.object "java/lang/String")) (t' := (.object "java/util/List")) (by decide) (by decide))))
  have Fw2_20 := ((Fw2.other W7 (Or.inr (slot_ne (Or.inl (wd hw 190 rfl)) (Or.inl (wd hw 193 rfl)) (by decide) (t := (.object "java/lang/Throwable")) (t' := (.array (.object "java/lang/StackTraceElement"))) (by decide) (by decide)))).other W12 (Or.inr (slot_ne (Or.inl (wd hw 190 rfl)) (Or.inl (wd hw 196 rfl)) (by decide) (t := (.object "java/lang/Throwable")) (t' := (.object "java/util/List")) (by decide) (by decide))))
  have F_k_21 := (((F_k.other W2 (Or.inr (slot_ne (Or.inr (wd hw 226 rfl)) (Or.inl (wd hw 190 rfl)) (by decide) (t := (.object "com/example/tollplan/tollplan/CommandException$Kind")) (t' := (.object "java/lang/Throwable")) (by decide) (by decide)))).other W7 (Or.inr (slot_ne (Or.inr (wd hw 226 rfl)) (Or.inl (wd hw 193 rfl)) (by decide) (t := (.object "com/example/tollplan/tollplan/CommandException$Kind")) (t' := (.array (.object "java/lang/StackTraceElement"))) (by decide) (by decide)))).other W12 (Or.inr (slot_ne (Or.inr (wd hw 226 rfl)) (Or.inl (wd hw 196 rfl)) (by decide) (t := (.object "com/example/tollplan/tollplan/CommandException$Kind")) (t' := (.object "java/util/List")) (by decide) (by decide))))
  obtain ⟨T13, cl13, C13, a1, a2, a3, a4, a5, a6, X13, st13⟩ := own_fill X12 hx hl hZ hown (rc := "com/example/tollplan/tollplan/CommandException") (by decide) (own_words hw) (wd hw 6 rfl) (by rw [hh]; exact TH) hTK hBelow e12 E_o_15 U_o_14 hu1 Fw7_16 S_U_17 F_b_18 (g := (mkF m 24 #[vR o0, vR o1] [(.ref o0)])) rfl (by rw [hml]; rfl) rfl (hb hby d34_24) (by decide) (W := 0) (by show 2 * 0 + 0 ≤ 0; decide) (by decide) (by decide) (by decide)
  have Ea13 := own_exa_cell E_o_15 a1 a2 a3 a4 a5
  have Fm13 := own_fld_cell F_m_19 a1 a2 a3 a4 (a6 _ (slot_ne (Or.inl (wd hw 220 rfl)) (Or.inl (wd hw 221 rfl)) (by decide) (t := (.object "java/lang/String")) (t' := (.object "java/lang/Object")) (by decide) (by decide)) (slot_ne (Or.inl (wd hw 220 rfl)) (Or.inl (wd hw 222 rfl)) (by decide) (t := (.object "java/lang/String")) (t' := .int) (by decide) (by decide)) (slot_ne (Or.inl (wd hw 220 rfl)) (Or.inl (wd hw 193 rfl)) (by decide) (t := (.object "java/lang/String")) (t' := (.array (.object "java/lang/StackTraceElement"))) (by decide) (by decide)))
  have Fc13 := own_fld_cell Fw2_20 a1 a2 a3 a4 (a6 _ (slot_ne (Or.inl (wd hw 190 rfl)) (Or.inl (wd hw 221 rfl)) (by decide) (t := (.object "java/lang/Throwable")) (t' := (.object "java/lang/Object")) (by decide) (by decide)) (slot_ne (Or.inl (wd hw 190 rfl)) (Or.inl (wd hw 222 rfl)) (by decide) (t := (.object "java/lang/Throwable")) (t' := .int) (by decide) (by decide)) (slot_ne (Or.inl (wd hw 190 rfl)) (Or.inl (wd hw 193 rfl)) (by decide) (t := (.object "java/lang/Throwable")) (t' := (.array (.object "java/lang/StackTraceElement"))) (by decide) (by decide)))
  have Fk13 := own_fld_cell F_k_21 a1 a2 a3 a4 (a6 _ (slot_ne (Or.inr (wd hw 226 rfl)) (Or.inl (wd hw 221 rfl)) (by decide) (t := (.object "com/example/tollplan/tollplan/CommandException$Kind")) (t' := (.object "java/lang/Object")) (by decide) (by decide)) (slot_ne (Or.inr (wd hw 226 rfl)) (Or.inl (wd hw 222 rfl)) (by decide) (t := (.object "com/example/tollplan/tollplan/CommandException$Kind")) (t' := .int) (by decide) (by decide)) (slot_ne (Or.inr (wd hw 226 rfl)) (Or.inl (wd hw 193 rfl)) (by decide) (t := (.object "com/example/tollplan/tollplan/CommandException$Kind")) (t' := (.array (.object "java/lang/StackTraceElement"))) (by decide) (by decide)))
  have K13 : Keep h0 T13.heap [o0] := own_keep_stand X13 hh (fun x hx => by simp at hx; rcases hx with h | h | h | h | h | h <;> rw [h])
  have Zs13 : n0 ≤ T13.heap.size := Nat.le_trans Z0 K13.1
  have N13 : Fr n0 _ := Fr.app N12 (L' := [⟨o0, Jvm.RoadKit.slotOf Z "java/lang/Throwable" "backtrace" "Ljava/lang/Object;"⟩, ⟨o0, Jvm.RoadKit.slotOf Z "java/lang/Throwable" "depth" "I"⟩, ⟨o0, Jvm.RoadKit.slotOf Z "java/lang/Throwable" "stackTrace" "[Ljava/lang/StackTraceElement;"⟩]) (fun y hy => by simp at hy; rcases hy with h | h | h <;> (rw [h]; exact g_o))
  obtain ⟨T22, h22, X22, e22, W22, st22⟩ := putF X13 hx hZ hown (host := "") (Or.inl (wd hw 224 rfl)) Via.refl rfl Fm13 Ea13 (Or.inl (wd hw 220 rfl)) (wd hw 6 rfl) (ty := (.object "java/lang/String")) (by decide) rfl rfl (g := (mkF m 30 #[vR o0, vR o1] [(.ref o1), (.ref o0)])) rfl rfl (hb hby d34_30)
  have Fw22 := Fm13.same W22
  have Zs22 : n0 ≤ h22.size := Nat.le_trans Zs13 (Nat.le_of_eq W22.size.symm)
  have K22 : Keep h0 h22 [o0] := K13.wr W22 (Or.inl (List.mem_of_getElem? (i := 0) rfl))
  have N22 := Fr.snoc X22 N13 g_o
  have Ea13_23 := (Ea13.wr W22)
  have Fk13_24 := (Fk13.other W22 (Or.inr (slot_ne (Or.inr (wd hw 226 rfl)) (Or.inl (wd hw 220 rfl)) (by decide) (t := (.object "com/example/tollplan/tollplan/CommandException$Kind")) (t' := (.object "java/lang/String")) (by decide) (by decide))))
  have Fc13_25 := (Fc13.other W22 (Or.inr (slot_ne (Or.inl (wd hw 190 rfl)) (Or.inl (wd hw 220 rfl)) (by decide) (t := (.object "java/lang/Throwable")) (t' := (.object "java/lang/String")) (by decide) (by decide))))
  obtain ⟨fs, hr, hrun, hended, hW, hsame⟩ := X22.leave (v := none) (fun _ => rfl)
  refine ⟨_, _, pre0 _ ?_, hrun, hended, _, _, rfl, ?_, ⟨_, rfl⟩, hW, hsame.mono (by decide) (by decide)⟩
  · skip
    refine XS.aloadN X0.here hx rfl (hb hby d34_0) rfl rfl ?_
    refine st1 _ ?_
    refine XS.aloadN X1.here hx rfl (hb hby d34_4) rfl rfl ?_
    show Steps p.tables e below (T1.setTop (mkF m 5 #[vR o0, vR o1] [(.ref o0)])) _
    refine XS.aloadN X1.here hx rfl (hb hby d34_5) rfl rfl ?_
    refine st2 _ ?_
    refine XS.aloadN X2.here hx rfl (hb hby d34_9) rfl rfl ?_
    refine st4 _ ?_
    show Steps p.tables e below (T4.setTop (mkF m 13 #[vR o0, vR o1] [u1, (.ref o0)])) _
    refine st7 _ ?_
    refine XS.aloadN X7.here hx rfl (hb hby d34_16) rfl rfl ?_
    refine st9 _ ?_
    refine st12 _ ?_
    show Steps p.tables e below (T12.setTop (mkF m 23 #[vR o0, vR o1] [])) _
    refine XS.aloadN X12.here hx rfl (hb hby d34_23) rfl rfl ?_
    show Steps p.tables e below (T12.setTop (mkF m 24 #[vR o0, vR o1] [(.ref o0)])) _
    refine st13 _ ?_
    refine XS.pop X13.here hx rfl (hb hby d34_27) rfl rfl ?_
    refine XS.aloadN X13.here hx rfl (hb hby d34_28) rfl rfl ?_
    refine XS.aloadN X13.here hx rfl (hb hby d34_29) rfl rfl ?_
    show Steps p.tables e below (T13.setTop (mkF m 30 #[vR o0, vR o1] [(.ref o1), (.ref o0)])) _
    refine st22 _ ?_
    show Steps p.tables e below (T22.setTop (mkF m 33 #[vR o0, vR o1] [])) _
    exact X22.returnOut hx Bd.returns (hb hby d34_33) hr
  · show QT Z o0 o1 h0 n0 _ T22.heap _
    rw [e22]
    exact ⟨rfl, N22, K22, Ea13_23, Fk13_24, Fw22, Fc13_25, (by first | exact own_unt_stand X22 hh U_o | (rw [← e22]; exact own_unt_stand X22 hh U_o))⟩
theorem d33_0 : decode jdk_59_method_2_code 0 = .ok (.aload_n 0, 1) := by decide +kernel
theorem d33_1 : decode jdk_59_method_2_code 1 = .ok (.aload_n 1, 1) := by decide +kernel
theorem d33_2 : decode jdk_59_method_2_code 2 = .ok (.invokespecial 7, 3) := by decide +kernel
theorem d33_5 : decode jdk_59_method_2_code 5 = .ok (.return_, 1) := by decide +kernel
theorem pn_33 : plainName "java/lang/Exception" = true := by first | (simp [plainName, overriddenIn]; done) | decide +kernel
theorem ef_rm3 (m : MethodId) (x0 : Addr) (x1 : Addr) : entryFrame m #[(.ref x0), (.ref x1)] 2 = mkF m 0 #[.val (.ref x0), .val (.ref x1)] [] := by first | (simp [entryFrame, mkF, argsToLocals, Value.category]; done) | rfl
set_option maxRecDepth 65536 in
set_option maxHeartbeats 40000000 in
theorem rm3 (l : Launch) (Z : State) (a0 : Array Value) (hw : ∀ d ∈ tables_1, d.before a0 Z = true) (ws : List Jvm.Cond) (o0 : Addr) (o1 : Addr) (h0 : Heap) (n0 : Nat) (Z0 : n0 ≤ h0.size) (hl : l.stackTraces = true) (TH : ThS Z h0) (u1 u2 : Value) (hu1 : u1.isRef = true) (hu2 : u2.isRef = true) (S_U : Sta Z h0 "java/lang/Throwable" "UNASSIGNED_STACK" "[Ljava/lang/StackTraceElement;" u1) (S_N : Sta Z h0 "java/lang/Throwable" "SUPPRESSED_SENTINEL" "Ljava/util/List;" u2) (E_o : Exa Z h0 o0 "com/example/tollplan/tollplan/CommandException") (U_o : Unt h0 o0) (g_o : n0 ≤ o0) (F_c : Fld Z h0 o0 "java/lang/Throwable" "cause" "Ljava/lang/Throwable;" .null) (F_s : Fld Z h0 o0 "java/lang/Throwable" "stackTrace" "[Ljava/lang/StackTraceElement;" .null) (F_x : Fld Z h0 o0 "java/lang/Throwable" "suppressedExceptions" "Ljava/util/List;" .null) (F_b : Fld Z h0 o0 "java/lang/Throwable" "backtrace" "Ljava/lang/Object;" .null) (F_m : Fld Z h0 o0 "java/lang/Throwable" "detailMessage" "Ljava/lang/String;" .null) (F_k : Fld Z h0 o0 "com/example/tollplan/tollplan/CommandException" "kind" "Lcom/example/tollplan/tollplan/CommandException$Kind;" .null) :
    MetFree l (⟨"java/lang/Exception", "<init>", "(Ljava/lang/String;)V"⟩ : MethodName) (head1 (Jvm.Cond.code (⟨"java/lang/Exception", "<init>", "(Ljava/lang/String;)V"⟩ : MethodName) jdk_59_method_2_code 2 none :: ws) ({ frames := 4, cells := 1, slots := 2752, locals := 55 } : Room)) (fun a U => a = #[(.ref o0), (.ref o1)] ∧ Z.Warmed39 U.vm ∧ U.heap = h0) (fun _ _ bl s _ => s.vm.MethodsKnown ∧ s.vm.FramesKnown bl) (fun _ U o U' => ∃ v L, o = .returned v ∧ QT Z o0 o1 h0 n0 v U'.heap L ∧ FrameEnd U o U' L ({ frames := 4, cells := 1, slots := 2752, locals := 55 } : Room).cells ({ frames := 4, cells := 1, slots := 2752, locals := 55 } : Room).slots) := by
  refine MetFree.of_bodySF (plainFor_of_name pn_33) hisR ?_
  intro p e s m args below meth c s₁ Bd hml0 hP hK
  obtain ⟨rfl, hZ, hh⟩ := hP
  obtain ⟨hTK, hBelow⟩ := hK
  have hx := Bd.exec
  have hby := Bd.bytes
  have hml : c.maxLocals = 2 := hml0
  have hown : s.vm.findClass "java/lang/Exception" = some m.cls := findClass_of_methodNamed Bd.named
  have hnm := (name_of_methodNamed Bd.named Bd.method).1
  have X0 : Stand p l e ({ frames := 4, cells := 1, slots := 2752, locals := 55 } : Room) s m #[(.ref o0), (.ref o1)] below meth c s₁ [] 0 0 := Stand.of_body Bd
  have e0 : s₁.heap = h0 := by rw [← hh, Bd.state]; rfl
  have N0 := Fr.nil n0
  have pre0 : ∀ t, Steps p.tables e below (s₁.setTop (mkF m 0 #[vR o0, vR o1] [])) t → Steps p.tables e below (s₁.setTop (entryFrame m #[(.ref o0), (.ref o1)] 2)) t := fun t k => castTop (ef_rm3 m o0 o1) k
  obtain ⟨_, _, ⟨T1, L1, k1, n1⟩, -, X1, ⟨Lc1, hQ1, l1, y1, z1⟩, st1⟩ := X0.specialBack hx (y := (⟨"java/lang/Throwable", "<init>", "(Ljava/lang/String;)V"⟩ : MethodName)) rfl hown (mvT hZ (wd hw 182 rfl)) (mvT hZ (wd hw 183 rfl)) (mvT hZ (wd hw 187 rfl)) (by decide) (backOfKL (W := 0) (rm4 l Z a0 hw [] o0 o1 h0 n0 Z0 hl TH u1 u2 hu1 hu2 S_U S_N E_o U_o g_o F_c F_s F_x F_b F_m F_k) hZ (wd hw 187 rfl) (wd hw 186 rfl) (by decide) (by decide) hTK hBelow) (g := (mkF m 2 #[vR o0, vR o1] [(.ref o1), (.ref o0)])) rfl (by rw [hml]; rfl) (Steps.refl _) (a := o0) (argsL := [(.ref o1)]) (rest := []) (lenOf pd__Ljava_lang_String__V rfl) rfl (by show 2 * 0 + _ ≤ _; exact Nat.le_of_eq rfl) (hb hby d33_2) (fun _ _ => ⟨rfl, e0, (by decide : 0 + 1 ≤ _), (by decide : 0 + 2752 ≤ _)⟩)
  dsimp only [Pt.U, Pt.locs, Pt.cells, Pt.slots] at X1 l1 y1 z1 st1 hQ1
  rw [l1, y1, z1] at X1
  obtain ⟨rfl, N1q, Kp1, Ea1, Fk1, Fm1, Fc1, Un1⟩ := hQ1
  have N1 := Fr.app N0 N1q
  have Zs1 : n0 ≤ T1.heap.size := Nat.le_trans Z0 Kp1.1
  have Kk1 : Keep h0 T1.heap [o0] := (Keep.refl h0 [o0]).trans Kp1 (allS (Or.inl (List.mem_of_getElem? (i := 0) rfl)) all0)
  obtain ⟨fs, hr, hrun, hended, hW, hsame⟩ := X1.leave (v := none) (fun _ => rfl)
  refine ⟨_, _, pre0 _ ?_, hrun, hended, _, _, rfl, ?_, ⟨_, rfl⟩, hW, hsame.mono (by decide) (by decide)⟩
  · skip
    refine XS.aloadN X0.here hx rfl (hb hby d33_0) rfl rfl ?_
    refine XS.aloadN X0.here hx rfl (hb hby d33_1) rfl rfl ?_
    refine st1.trans ?_
    show Steps p.tables e below (T1.setTop (mkF m 5 #[vR o0, vR o1] [])) _
    exact X1.returnOut hx Bd.returns (hb hby d33_5) hr
  · show QT Z o0 o1 h0 n0 _ T1.heap _
    exact ⟨rfl, N1, Kk1, Ea1, Fk1, Fm1, Fc1, (by first | exact own_unt_stand X1 hh U_o | (rw [← hh]; exact own_unt_stand X1 hh U_o))⟩
theorem d32_0 : decode prog_4_method_1_code 0 = .ok (.aload_n 0, 1) := by decide +kernel
theorem d32_1 : decode prog_4_method_1_code 1 = .ok (.aload_n 2, 1) := by decide +kernel
theorem d32_2 : decode prog_4_method_1_code 2 = .ok (.invokespecial 1, 3) := by decide +kernel
theorem d32_5 : decode prog_4_method_1_code 5 = .ok (.aload_n 0, 1) := by decide +kernel
theorem d32_6 : decode prog_4_method_1_code 6 = .ok (.aload_n 1, 1) := by decide +kernel
theorem d32_7 : decode prog_4_method_1_code 7 = .ok (.putfield 7, 3) := by decide +kernel
theorem d32_10 : decode prog_4_method_1_code 10 = .ok (.return_, 1) := by decide +kernel
theorem pn_32 : plainName "com/example/tollplan/tollplan/CommandException" = true := by first | (simp [plainName, overriddenIn]; done) | decide +kernel
theorem ef_rm2 (m : MethodId) (x0 : Addr) (x1 : Addr) (x2 : Addr) : entryFrame m #[(.ref x0), (.ref x1), (.ref x2)] 3 = mkF m 0 #[.val (.ref x0), .val (.ref x1), .val (.ref x2)] [] := by first | (simp [entryFrame, mkF, argsToLocals, Value.category]; done) | rfl
set_option maxRecDepth 65536 in
set_option maxHeartbeats 40000000 in
theorem rm2 (l : Launch) (Z : State) (a0 : Array Value) (hw : ∀ d ∈ tables_1, d.before a0 Z = true) (ws : List Jvm.Cond) (o0 : Addr) (o1 : Addr) (o2 : Addr) (h0 : Heap) (n0 : Nat) (Z0 : n0 ≤ h0.size) (hl : l.stackTraces = true) (TH : ThS Z h0) (u1 u2 : Value) (hu1 : u1.isRef = true) (hu2 : u2.isRef = true) (S_U : Sta Z h0 "java/lang/Throwable" "UNASSIGNED_STACK" "[Ljava/lang/StackTraceElement;" u1) (S_N : Sta Z h0 "java/lang/Throwable" "SUPPRESSED_SENTINEL" "Ljava/util/List;" u2) (E_o : Exa Z h0 o0 "com/example/tollplan/tollplan/CommandException") (U_o : Unt h0 o0) (g_o : n0 ≤ o0) (F_c : Fld Z h0 o0 "java/lang/Throwable" "cause" "Ljava/lang/Throwable;" .null) (F_s : Fld Z h0 o0 "java/lang/Throwable" "stackTrace" "[Ljava/lang/StackTraceElement;" .null) (F_x : Fld Z h0 o0 "java/lang/Throwable" "suppressedExceptions" "Ljava/util/List;" .null) (F_b : Fld Z h0 o0 "java/lang/Throwable" "backtrace" "Ljava/lang/Object;" .null) (F_m : Fld Z h0 o0 "java/lang/Throwable" "detailMessage" "Ljava/lang/String;" .null) (F_k : Fld Z h0 o0 "com/example/tollplan/tollplan/CommandException" "kind" "Lcom/example/tollplan/tollplan/CommandException$Kind;" .null) :
    MetFree l (⟨"com/example/tollplan/tollplan/CommandException", "<init>", "(Lcom/example/tollplan/tollplan/CommandException$Kind;Ljava/lang/String;)V"⟩ : MethodName) (head1 (Jvm.Cond.code (⟨"com/example/tollplan/tollplan/CommandException", "<init>", "(Lcom/example/tollplan/tollplan/CommandException$Kind;Ljava/lang/String;)V"⟩ : MethodName) prog_4_method_1_code 3 none :: ws) ({ frames := 5, cells := 1, slots := 2752, locals := 68 } : Room)) (fun a U => a = #[(.ref o0), (.ref o1), (.ref o2)] ∧ Z.Warmed39 U.vm ∧ U.heap = h0) (fun _ _ bl s _ => s.vm.MethodsKnown ∧ s.vm.FramesKnown bl) (fun _ U o U' => ∃ v L, o = .returned v ∧ QI Z o0 o1 o2 h0 n0 v U'.heap L ∧ FrameEnd U o U' L ({ frames := 5, cells := 1, slots := 2752, locals := 68 } : Room).cells ({ frames := 5, cells := 1, slots := 2752, locals := 68 } : Room).slots) := by
  refine MetFree.of_bodySF (plainFor_of_name pn_32) hisR ?_
  intro p e s m args below meth c s₁ Bd hml0 hP hK
  obtain ⟨rfl, hZ, hh⟩ := hP
  obtain ⟨hTK, hBelow⟩ := hK
  have hx := Bd.exec
  have hby := Bd.bytes
  have hml : c.maxLocals = 3 := hml0
  have hown : s.vm.findClass "com/example/tollplan/tollplan/CommandException" = some m.cls := findClass_of_methodNamed Bd.named
  have hnm := (name_of_methodNamed Bd.named Bd.method).1
  have X0 : Stand p l e ({ frames := 5, cells := 1, slots := 2752, locals := 68 } : Room) s m #[(.ref o0), (.ref o1), (.ref o2)] below meth c s₁ [] 0 0 := Stand.of_body Bd
  have e0 : s₁.heap = h0 := by rw [← hh, Bd.state]; rfl
  have N0 := Fr.nil n0
  have pre0 : ∀ t, Steps p.tables e below (s₁.setTop (mkF m 0 #[vR o0, vR o1, vR o2] [])) t → Steps p.tables e below (s₁.setTop (entryFrame m #[(.ref o0), (.ref o1), (.ref o2)] 3)) t := fun t k => castTop (ef_rm2 m o0 o1 o2) k
  obtain ⟨_, _, ⟨T1, L1, k1, n1⟩, -, X1, ⟨Lc1, hQ1, l1, y1, z1⟩, st1⟩ := X0.specialBack hx (y := (⟨"java/lang/Exception", "<init>", "(Ljava/lang/String;)V"⟩ : MethodName)) rfl hown (mvT hZ (wd hw 177 rfl)) (mvT hZ (wd hw 178 rfl)) (mvT hZ (wd hw 181 rfl)) (by decide) (backOfKL (W := 0) (rm3 l Z a0 hw [] o0 o2 h0 n0 Z0 hl TH u1 u2 hu1 hu2 S_U S_N E_o U_o g_o F_c F_s F_x F_b F_m F_k) hZ (wd hw 181 rfl) (wd hw 180 rfl) (by decide) (by decide) hTK hBelow) (g := (mkF m 2 #[vR o0, vR o1, vR o2] [(.ref o2), (.ref o0)])) rfl (by rw [hml]; rfl) (Steps.refl _) (a := o0) (argsL := [(.ref o2)]) (rest := []) (lenOf pd__Ljava_lang_String__V rfl) rfl (by show 2 * 0 + _ ≤ _; exact Nat.le_of_eq rfl) (hb hby d32_2) (fun _ _ => ⟨rfl, e0, (by decide : 0 + 1 ≤ _), (by decide : 0 + 2752 ≤ _)⟩)
  dsimp only [Pt.U, Pt.locs, Pt.cells, Pt.slots] at X1 l1 y1 z1 st1 hQ1
  rw [l1, y1, z1] at X1
  obtain ⟨rfl, N1q, Kp1, Ea1, Fk1, Fm1, Fc1, Un1⟩ := hQ1
  have N1 := Fr.app N0 N1q
  have Zs1 : n0 ≤ T1.heap.size := Nat.le_trans Z0 Kp1.1
  have Kk1 : Keep h0 T1.heap [o0] := (Keep.refl h0 [o0]).trans Kp1 (allS (Or.inl (List.mem_of_getElem? (i := 0) rfl)) all0)
  obtain ⟨T2, h2, X2, e2, W2, st2⟩ := putF X1 hx hZ hown (host := "") (Or.inl (wd hw 225 rfl)) Via.refl rfl Fk1 Ea1 (Or.inr ⟨(wd hw 226 rfl), rfl, hnm⟩) (wd hw 6 rfl) (ty := (.object "com/example/tollplan/tollplan/CommandException$Kind")) (by decide) rfl rfl (g := (mkF m 7 #[vR o0, vR o1, vR o2] [(.ref o1), (.ref o0)])) rfl rfl (hb hby d32_7)
  have Fw2 := Fk1.same W2
  have Zs2 : n0 ≤ h2.size := Nat.le_trans Zs1 (Nat.le_of_eq W2.size.symm)
  have K2 : Keep h0 h2 [o0] := Kk1.wr W2 (Or.inl (List.mem_of_getElem? (i := 0) rfl))
  have N2 := Fr.snoc X2 N1 g_o
  have Ea1_3 := (Ea1.wr W2)
  have Fm1_4 := (Fm1.other W2 (Or.inr (slot_ne (Or.inl (wd hw 220 rfl)) (Or.inr (wd hw 226 rfl)) (by decide) (t := (.object "java/lang/String")) (t' := (.object "com/example/tollplan/tollplan/CommandException$Kind")) (by decide) (by decide))))
  have Fc1_5 := (Fc1.other W2 (Or.inr (slot_ne (Or.inl (wd hw 190 rfl)) (Or.inr (wd hw 226 rfl)) (by decide) (t := (.object "java/lang/Throwable")) (t' := (.object "com/example/tollplan/tollplan/CommandException$Kind")) (by decide) (by decide))))
  obtain ⟨fs, hr, hrun, hended, hW, hsame⟩ := X2.leave (v := none) (fun _ => rfl)
  refine ⟨_, _, pre0 _ ?_, hrun, hended, _, _, rfl, ?_, ⟨_, rfl⟩, hW, hsame.mono (by decide) (by decide)⟩
  · skip
    refine XS.aloadN X0.here hx rfl (hb hby d32_0) rfl rfl ?_
    refine XS.aloadN X0.here hx rfl (hb hby d32_1) rfl rfl ?_
    refine st1.trans ?_
    show Steps p.tables e below (T1.setTop (mkF m 5 #[vR o0, vR o1, vR o2] [])) _
    refine XS.aloadN X1.here hx rfl (hb hby d32_5) rfl rfl ?_
    refine XS.aloadN X1.here hx rfl (hb hby d32_6) rfl rfl ?_
    refine st2 _ ?_
    show Steps p.tables e below (T2.setTop (mkF m 10 #[vR o0, vR o1, vR o2] [])) _
    exact X2.returnOut hx Bd.returns (hb hby d32_10) hr
  · show QI Z o0 o1 o2 h0 n0 _ T2.heap _
    rw [e2]
    exact ⟨rfl, N2, K2, Ea1_3, Fw2, Fm1_4, Fc1_5, (by first | exact own_unt_stand X2 hh U_o | (rw [← e2]; exact own_unt_stand X2 hh U_o))⟩
def preL : List Nat := [111, 117, 116, 32, 111, 102, 32, 109, 101, 109, 111, 114, 121, 58, 32, 116, 104, 101, 32, 99, 111, 109, 109, 97, 110, 100, 39, 115, 32, 119, 111, 114, 107, 32, 111, 117, 116, 103, 114, 101, 119, 32, 116, 104, 101, 32, 74, 97, 118, 97, 32, 104, 101, 97, 112, 32, 111, 102, 32]
def sufL : List Nat := [32, 77, 105, 66, 59, 32, 114, 117, 110, 32, 106, 97, 118, 97, 32, 119, 105, 116, 104, 32, 97, 32, 108, 97, 114, 103, 101, 114, 32, 45, 88, 109, 120]
theorem own_lget : ∀ (us : List Nat), (us.all fun u => decide (u < 128)) = true → Asc (fun i => us.getD i 0) := fun us h i => by
  show us.getD i 0 < 128
  rw [List.getD_eq_getElem?_getD]
  cases e : us[i]? with
  | none => decide
  | some u => exact of_decide_eq_true (List.all_eq_true.mp h u (List.mem_of_getElem? e))
theorem preA : Asc (fun i => preL.getD i 0) := own_lget preL (by decide +kernel)
theorem sufA : Asc (fun i => sufL.getD i 0) := own_lget sufL (by decide +kernel)
/-- the message's bytes -/
def txt (xx : Int64) (nn sz j : Nat) : Nat := if 59 + sz ≤ j ∧ j < 59 + sz + 33 then sufL.getD (j - (59 + sz)) 0 else gcF xx nn (59 + sz) (fun i => preL.getD i 0) j
theorem txtA (xx : Int64) (nn sz : Nat) : Asc (txt xx nn sz) := fun j => by
  unfold txt; split
  · exact sufA _
  · exact gcF_asc preA j
theorem own_arvN {Z : State} {h : Heap} {a : Addr} {k : ClassId} {z : Int32} {us : List Nat} {N : Nat} (A : Arv Z h a k .byte z (us.map fun u => Value.int (Int32.ofNat u)) (.int 0)) (hN : z.toNatClampNeg = N) : GA Z h a k .byte N (fun i => .int (Int32.ofNat (us.getD i 0))) := by
  obtain ⟨cl, Ar, qa, Sa, -, Ha, -⟩ := A
  refine ⟨cl, Ar, qa, by rw [Sa]; exact hN, fun i hi => ?_⟩
  rw [Ha i (by rw [Sa, hN]; exact hi)]
  simp only [List.getD_eq_getElem?_getD, List.getElem?_map]
  cases us[i]? <;> rfl
theorem own_safeOr {Z : State} {EL : List (String × Nat)} {vm : Vm} {h : Heap} {a v : Addr} (q : h.size ≤ a ∨ a = v) (S : Safe Z EL vm h v) : Safe Z EL vm h a := by
  rcases q with q | rfl
  · exact Safe.new q
  · exact S
theorem own_txt {xx : Int64} {nn sz : Nat} (hsz : Jvm.Free.SBG.digitsL nn + Jvm.Free.SBG.GetCharsL.sgnL xx = sz) (j : Nat) (hj : j < 59 + sz + 33) :
    (if 59 + sz ≤ j ∧ j < 59 + sz + 33 then sufL.getD (j - (59 + sz)) 0 else gcF xx nn (59 + sz) (fun i => if i < 59 then (if 0 ≤ i ∧ i < 0 + 59 then preL.getD (i - 0) 0 else if i < 16 then 0 else 0) else 0) j) = txt xx nn sz j := by
  unfold txt
  by_cases e : 59 + sz ≤ j ∧ j < 59 + sz + 33
  · rw [if_pos e, if_pos e]
  · rw [if_neg e, if_neg e]
    unfold gcF
    by_cases e1 : 59 + sz - Jvm.Free.SBG.digitsL nn ≤ j ∧ j < 59 + sz
    · rw [if_pos e1, if_pos e1]
    · rw [if_neg e1, if_neg e1]
      by_cases e2 : xx < 0 ∧ j = 59 + sz - Jvm.Free.SBG.digitsL nn - 1
      · rw [if_pos e2, if_pos e2]
      · rw [if_neg e2, if_neg e2]
        have hs : xx < 0 ∨ Jvm.Free.SBG.GetCharsL.sgnL xx = 0 := by
          unfold Jvm.Free.SBG.GetCharsL.sgnL; by_cases q : xx < 0
          · exact Or.inl q
          · exact Or.inr (if_neg q)
        have hs1 : Jvm.Free.SBG.GetCharsL.sgnL xx ≤ 1 := by unfold Jvm.Free.SBG.GetCharsL.sgnL; split <;> omega
        have hj2 : j < 59 := by
          rcases hs with q | q
          · have : j ≠ 59 + sz - Jvm.Free.SBG.digitsL nn - 1 := fun z => e2 ⟨q, z⟩
            omega
          · omega
        show (if j < 59 then (if 0 ≤ j ∧ j < 0 + 59 then preL.getD (j - 0) 0 else if j < 16 then 0 else 0) else 0) = preL.getD j 0
        rw [if_pos hj2, if_pos (by omega), Nat.sub_zero]
def QO (Z : State) (kL : Addr) (xx : Int64) (nn sz : Nat) (h0 : Heap) (n0 : Nat) (v : Option Value) (h : Heap) (L : List Loc) : Prop := ∃ (e s w : Addr) (k : ClassId), v = some (.ref e) ∧ Fr n0 L ∧ Keep h0 h [] ∧ Exa Z h e "com/example/tollplan/tollplan/CommandException" ∧ Fld Z h e "com/example/tollplan/tollplan/CommandException" "kind" "Lcom/example/tollplan/tollplan/CommandException$Kind;" (.ref kL) ∧ Fld Z h e "java/lang/Throwable" "detailMessage" "Ljava/lang/String;" (.ref s) ∧ Fld Z h e "java/lang/Throwable" "cause" "Ljava/lang/Throwable;" (.ref e) ∧ Unt h e ∧ SB Z h s w k (59 + sz + 33) (fun i => Int32.ofNat (txt xx nn sz i))
theorem d1_0 : decode prog_4_method_7_code 0 = .ok (.new 8, 3) := by decide +kernel
theorem d1_3 : decode prog_4_method_7_code 3 = .ok (.dup, 1) := by decide +kernel
theorem d1_4 : decode prog_4_method_7_code 4 = .ok (.getstatic 58, 3) := by decide +kernel
theorem d1_7 : decode prog_4_method_7_code 7 = .ok (.new 16, 3) := by decide +kernel
theorem d1_10 : decode prog_4_method_7_code 10 = .ok (.dup, 1) := by decide +kernel
theorem d1_11 : decode prog_4_method_7_code 11 = .ok (.invokespecial 18, 3) := by decide +kernel
theorem pd___V : parseMethodDescriptor "()V" = some ⟨[], none⟩ := by decide +kernel
theorem d1_14 : decode prog_4_method_7_code 14 = .ok (.ldc 61, 2) := by decide +kernel
theorem d1_16 : decode prog_4_method_7_code 16 = .ok (.invokevirtual 23, 3) := by decide +kernel
theorem pd__Ljava_lang_String__Ljava_lang_StringBuilder_ : parseMethodDescriptor "(Ljava/lang/String;)Ljava/lang/StringBuilder;" = some ⟨[(.object "java/lang/String")], some (.object "java/lang/StringBuilder")⟩ := by decide +kernel
theorem d1_19 : decode prog_4_method_7_code 19 = .ok (.lload_n 0, 1) := by decide +kernel
theorem d1_20 : decode prog_4_method_7_code 20 = .ok (.bipush 20, 2) := by decide +kernel
theorem d1_22 : decode prog_4_method_7_code 22 = .ok (.lshr, 1) := by decide +kernel
theorem d1_23 : decode prog_4_method_7_code 23 = .ok (.invokevirtual 63, 3) := by decide +kernel
theorem pd__J_Ljava_lang_StringBuilder_ : parseMethodDescriptor "(J)Ljava/lang/StringBuilder;" = some ⟨[.long], some (.object "java/lang/StringBuilder")⟩ := by decide +kernel
theorem d1_26 : decode prog_4_method_7_code 26 = .ok (.ldc 66, 2) := by decide +kernel
theorem d1_28 : decode prog_4_method_7_code 28 = .ok (.invokevirtual 23, 3) := by decide +kernel
theorem d1_31 : decode prog_4_method_7_code 31 = .ok (.invokevirtual 38, 3) := by decide +kernel
theorem pd___Ljava_lang_String_ : parseMethodDescriptor "()Ljava/lang/String;" = some ⟨[], some (.object "java/lang/String")⟩ := by decide +kernel
theorem d1_34 : decode prog_4_method_7_code 34 = .ok (.invokespecial 68, 3) := by decide +kernel
theorem pd__Lcom_example_tollplan_tollplan_CommandException_Kind_Ljava_lang_String__V : parseMethodDescriptor "(Lcom/example/tollplan/tollplan/CommandException$Kind;Ljava/lang/String;)V" = some ⟨[(.object "com/example/tollplan/tollplan/CommandException$Kind"), (.object "java/lang/String")], none⟩ := by decide +kernel
theorem d1_37 : decode prog_4_method_7_code 37 = .ok (.areturn, 1) := by decide +kernel
theorem pn_1 : plainName "com/example/tollplan/tollplan/CommandException" = true := by first | (simp [plainName, overriddenIn]; done) | decide +kernel
theorem ef_oOM (m : MethodId) (x0 : Int64) : entryFrame m #[(.long x0)] 2 = mkF m 0 #[.val (.long x0), .second] [] := by first | (simp [entryFrame, mkF, argsToLocals, Value.category]; done) | rfl
set_option maxRecDepth 65536 in
set_option maxHeartbeats 40000000 in
theorem oOM (l : Launch) (Z : State) (a0 : Array Value) (hw : ∀ d ∈ tables_1, d.before a0 Z = true) (ws : List Jvm.Cond) (q0 : Int64) (hEL : EW Z a0 consts_1) (kL : Addr) (xx : Int64) (nn sz : Nat) (hnn : nn ≤ 2 ^ 63) (hxn : (if xx < 0 then xx else -xx) = SBG.negL nn) (hsz : SBG.digitsL nn + SBG.GetCharsL.sgnL xx = sz) (hxx : (q0 >>> ((20 : Int32) &&& 0x3f).toInt64) = xx) (h0 : Heap) (n0 : Nat) (Z0 : n0 ≤ h0.size) (KZ : Keep Z.heap h0 []) (hz : Z.heap.size ≤ n0) (hl : l.stackTraces = true) (TH : ThS Z h0) (u1 u2 : Value) (hu1 : u1.isRef = true) (hu2 : u2.isRef = true) (S_U : Sta Z h0 "java/lang/Throwable" "UNASSIGNED_STACK" "[Ljava/lang/StackTraceElement;" u1) (S_N : Sta Z h0 "java/lang/Throwable" "SUPPRESSED_SENTINEL" "Ljava/util/List;" u2) (S_L : Sta Z h0 "com/example/tollplan/tollplan/CommandException$Kind" "LOCAL" "Lcom/example/tollplan/tollplan/CommandException$Kind;" (.ref kL)) (stI dgA dgB : Addr) (DgA DgB : Cell) (tbA : SBG.Tbl Z "DigitOnes" stI dgA DgA) (tbB : SBG.Tbl Z "DigitTens" stI dgB DgB) (onA : SBG.Ones DgA) (teB : SBG.Tens DgB) (cs : Int32) (hcs : ¬ cs = (0 : Int32)) (S_Cz : Sta Z Z.heap "java/lang/String" "COMPACT_STRINGS" "Z" (.int cs)) :
    MetFree l (⟨"com/example/tollplan/tollplan/CommandException", "outOfMemory", "(J)Lcom/example/tollplan/tollplan/CommandException;"⟩ : MethodName) (head1 (Jvm.Cond.code (⟨"com/example/tollplan/tollplan/CommandException", "outOfMemory", "(J)Lcom/example/tollplan/tollplan/CommandException;"⟩ : MethodName) prog_4_method_7_code 2 (some (.object "com/example/tollplan/tollplan/CommandException")) :: ws) ({ frames := 7, cells := 14, slots := 4200, locals := 150 } : Room)) (fun a U => a = #[(.long q0)] ∧ Z.Warmed39 U.vm ∧ U.heap = h0 ∧ CHv Z consts_1 U.vm h0) (fun _ _ bl s _ => s.vm.MethodsKnown ∧ s.vm.FramesKnown bl) (fun _ U o U' => ∃ v L, o = .returned v ∧ QO Z kL xx nn sz h0 n0 v U'.heap L ∧ CHr Z consts_1 U.vm U.heap U'.vm U'.heap ∧ ReturnedEndW U o U' L ({ frames := 7, cells := 14, slots := 4200, locals := 150 } : Room).cells ({ frames := 7, cells := 14, slots := 4200, locals := 150 } : Room).slots) := by
  refine MetFree.of_bodySF (plainFor_of_name pn_1) hisR ?_
  intro p e s m args below meth c s₁ Bd hml0 hP hK
  obtain ⟨rfl, hZ, hh, hCH⟩ := hP
  obtain ⟨hTK, hBelow⟩ := hK
  have hx := Bd.exec
  have hby := Bd.bytes
  have hml : c.maxLocals = 2 := hml0
  have hown : s.vm.findClass "com/example/tollplan/tollplan/CommandException" = some m.cls := findClass_of_methodNamed Bd.named
  have hnm := (name_of_methodNamed Bd.named Bd.method).1
  have X0 : Stand p l e ({ frames := 7, cells := 14, slots := 4200, locals := 150 } : Room) (s.setVm s.vm) m #[(.long q0)] below meth c s₁ [] 0 0 := Stand.of_body Bd
  have e0 : s₁.heap = h0 := by rw [← hh, Bd.state]; rfl
  have N0 := Fr.nil n0
  have hS0 : s.Since s.vm 0 := (State.WarmedH.refl s).since 0
  have hCR0 : CHr Z consts_1 s.vm h0 s.vm h0 := CHr.refl hCH
  have pre0 : ∀ t, Steps p.tables e below (s₁.setTop (mkF m 0 #[vJ q0, zS] [])) t → Steps p.tables e below (s₁.setTop (entryFrame m #[(.long q0)] 2)) t := fun t k => castTop (ef_oOM m q0) k
  have hsz21 : sz ≤ 21 := by have h1 := (SBG.digitsL_pos nn).2; have h2 := sgnle xx; omega
  obtain ⟨T1, h1, X1, e1, E1, A1, D1, U1, st1⟩ := newO X0 hx hZ hown (wd hw 5 rfl) (wd hw 6 rfl) (wd hw 3 rfl) e0 (g := (mkF m 0 #[vJ q0, zS] [])) rfl (hb hby d1_0) (by decide) (by decide)
  obtain ⟨b1, g1⟩ : ∃ z, z = h0.size := ⟨_, rfl⟩
  rw [← g1] at A1 D1 U1 st1
  have g_b1 : n0 ≤ b1 := Nat.le_trans Z0 (Nat.le_of_eq g1.symm)
  have sz_b1 : h0.size ≤ b1 := Nat.le_trans (Keep.refl h0 []).1 (Nat.le_of_eq g1.symm)
  have hCR2 : CHr Z consts_1 s.vm h0 s.vm h1 := hCR0.trans (CHr.ext E1 hCR0.1)
  have Zs1 : n0 ≤ h1.size := Nat.le_trans Z0 E1.1
  have K1 : Keep h0 h1 [] := (Keep.refl h0 []).ext E1
  have F1_cause : Fld Z h1 b1 "java/lang/Throwable" "cause" "Ljava/lang/Throwable;" .null := D1 (Or.inl (wd hw 190 rfl)) (ty := (.object "java/lang/Throwable")) (by decide)
  have F1_stackTrace : Fld Z h1 b1 "java/lang/Throwable" "stackTrace" "[Ljava/lang/StackTraceElement;" .null := D1 (Or.inl (wd hw 193 rfl)) (ty := (.array (.object "java/lang/StackTraceElement"))) (by decide)
  have F1_suppressedExceptions : Fld Z h1 b1 "java/lang/Throwable" "suppressedExceptions" "Ljava/util/List;" .null := D1 (Or.inl (wd hw 196 rfl)) (ty := (.object "java/util/List")) (by decide)
  have F1_detailMessage : Fld Z h1 b1 "java/lang/Throwable" "detailMessage" "Ljava/lang/String;" .null := D1 (Or.inl (wd hw 220 rfl)) (ty := (.object "java/lang/String")) (by decide)
  have F1_backtrace : Fld Z h1 b1 "java/lang/Throwable" "backtrace" "Ljava/lang/Object;" .null := D1 (Or.inl (wd hw 221 rfl)) (ty := (.object "java/lang/Object")) (by decide)
  have F1_depth : Fld Z h1 b1 "java/lang/Throwable" "depth" "I" (.int (0 : Int32)) := D1 (Or.inl (wd hw 222 rfl)) (ty := .int) (by decide)
  have F1_kind : Fld Z h1 b1 "com/example/tollplan/tollplan/CommandException" "kind" "Lcom/example/tollplan/tollplan/CommandException$Kind;" .null := D1 (Or.inr (wd hw 226 rfl)) (ty := (.object "com/example/tollplan/tollplan/CommandException$Kind")) (by decide)
  have U_b1 : Unt h1 b1 := U1
  have S_L_3 := (S_L.ext E1)
  obtain ⟨T4, X4, e4, st4⟩ := getS2 X1 hx hZ hown (host := "") (Or.inl (wd hw 7 rfl)) Via.refl e1 S_L_3 (g := (mkF m 4 #[vJ q0, zS] [(.ref b1), (.ref b1)])) rfl (hb hby d1_4)
  obtain ⟨T5, h5, X5, e5, E5, A5, D5, U5, st5⟩ := newO X4 hx hZ hown (wd hw 10 rfl) (wd hw 11 rfl) (wd hw 12 rfl) e4 (g := (mkF m 7 #[vJ q0, zS] [(.ref kL), (.ref b1), (.ref b1)])) rfl (hb hby d1_7) (by decide) (by decide)
  obtain ⟨b5, g5⟩ : ∃ z, z = h1.size := ⟨_, rfl⟩
  rw [← g5] at A5 D5 U5 st5
  have g_b5 : n0 ≤ b5 := Nat.le_trans Zs1 (Nat.le_of_eq g5.symm)
  have sz_b5 : h0.size ≤ b5 := Nat.le_trans K1.1 (Nat.le_of_eq g5.symm)
  have ne5_b1 : b1 ≠ b5 := Nat.ne_of_lt (Nat.lt_of_lt_of_le (A1).lt (Nat.le_of_eq g5.symm))
  have hCR6 : CHr Z consts_1 s.vm h0 s.vm h5 := hCR2.trans (CHr.ext E5 hCR2.1)
  have Zs5 : n0 ≤ h5.size := Nat.le_trans Zs1 E5.1
  have K5 : Keep h0 h5 [] := K1.ext E5
  have F5_value : Fld Z h5 b5 "java/lang/AbstractStringBuilder" "value" "[B" .null := D5 (Or.inl (wd hw 29 rfl)) (ty := (.array .byte)) (by decide)
  have F5_coder : Fld Z h5 b5 "java/lang/AbstractStringBuilder" "coder" "B" (.int (0 : Int32)) := D5 (Or.inl (wd hw 31 rfl)) (ty := .byte) (by decide)
  have F5_count : Fld Z h5 b5 "java/lang/AbstractStringBuilder" "count" "I" (.int (0 : Int32)) := D5 (Or.inl (wd hw 62 rfl)) (ty := .int) (by decide)
  have A1_7 := (A1.ext E5)
  obtain ⟨_, _, ⟨T8, L8, k8, n8⟩, -, X8, ⟨Lc8, hQ8, l8, y8, z8⟩, st8⟩ := X5.specialBack hx (y := (⟨"java/lang/StringBuilder", "<init>", "()V"⟩ : MethodName)) rfl hown (mvT hZ (wd hw 13 rfl)) (mvT hZ (wd hw 14 rfl)) (mvT hZ (wd hw 15 rfl)) (by decide) (backOf (W := 4) (bIn l Z a0 hw [] b5 h5 n0 Zs5 (KZ.trans K5 all0) hz A5 g_b5 F5_value F5_coder F5_count cs hcs S_Cz) hZ (wd hw 15 rfl) (wd hw 12 rfl) (by decide) (by decide)) (g := (mkF m 11 #[vJ q0, zS] [(.ref b5), (.ref b5), (.ref kL), (.ref b1), (.ref b1)])) rfl (by rw [hml]; rfl) (Steps.refl _) (a := b5) (argsL := []) (rest := [(.ref b5), (.ref kL), (.ref b1), (.ref b1)]) (lenOf pd___V rfl) rfl (by show 2 * 0 + _ ≤ _; exact Nat.le_of_eq rfl) (hb hby d1_11) (fun _ _ => ⟨rfl, e5, (by decide : 2 + 1 ≤ _), (by decide : 11 + 16 ≤ _)⟩)
  dsimp only [Pt.U, Pt.locs, Pt.cells, Pt.slots] at X8 l8 y8 z8 st8 hQ8
  rw [l8, y8, z8] at X8
  obtain ⟨rfl, N8q, Kp8, va8, ka8, ga8, sv8, Bd8⟩ := hQ8
  have N8 := Fr.app N0 N8q
  have hCR9 : CHr Z consts_1 s.vm h0 s.vm T8.heap := hCR6.trans (CHr.keep Kp8 (allS (Safe.exa (EL := consts_1) hZ.alike A5 (by decide) (by decide)) all0) hCR6.1)
  have Zs8 : n0 ≤ T8.heap.size := Nat.le_trans Zs5 Kp8.1
  have Kk8 : Keep h0 T8.heap [] := K5.trans Kp8 (allS (Or.inr sz_b5) all0)
  obtain ⟨EB8, FcB8, FnB8, FvB8, VB8⟩ := id Bd8
  have sz8a : h0.size ≤ va8 := Nat.le_trans K5.1 sv8
  have nv8 : b5 ≠ va8 := Nat.ne_of_lt (Nat.lt_of_lt_of_le (A5).lt sv8)
  have nw8 : b1 ≠ va8 := Nat.ne_of_lt (Nat.lt_of_lt_of_le (A1_7).lt sv8)
  have sfv8 := Safe.keep Kp8 (allS (Safe.exa (EL := consts_1) hZ.alike A5 (by decide) (by decide)) all0) hCR6.1 (Safe.new sv8)
  have ltv8 : va8 < T8.heap.size := VB8.lt
  obtain ⟨a10, T10, h10, kk10, bb10, kb10, X10, e10, E10, hS10, hk10, hZ10, hown10, Ex10, Fc10, Fv10, Va10, la10, lb10, hC10, Lt10, sf10, st10⟩ := ldcCH (s := s) X8 hx hZ hown (wd hw 32 rfl) (own_strings hw) rfl hS0 (Nat.le_trans (Nat.le_trans (Nat.le_trans (Nat.zero_le _) E1.1) E5.1) Kp8.1) hEL (by decide) hCR9.1 (vs := (preL.map fun u => Value.int (Int32.ofNat u))) (z := (59 : Int32)) ⟨by decide +kernel, by decide +kernel⟩ (by decide) (by decide +kernel) (g := (mkF m 14 #[vJ q0, zS] [(.ref b5), (.ref kL), (.ref b1), (.ref b1)])) rfl (hb hby d1_14) (n := 240) (by decide +kernel) (by decide) (by decide) (by decide)
  have Zs10 : n0 ≤ h10.size := Nat.le_trans Zs8 E10.1
  have K10 : Keep h0 h10 [] := Kk8.ext E10
  have hCs11 : CHr Z consts_1 s.vm T8.heap T10.vm h10 := hC10
  have sf_va8_11 := hCs11.safe ltv8 sfv8
  have lt_va8_11 : va8 < h10.size := Nat.lt_of_lt_of_le ltv8 hCs11.2.1
  have hCR11 : CHr Z consts_1 s.vm h0 T10.vm h10 := hCR9.trans hCs11
  have hTK10 : (s.setVm T10.vm).vm.MethodsKnown := Vm.MethodsKnown.alikeC hS10.1.alike hTK
  have hBl10 : (s.setVm T10.vm).vm.FramesKnown below := Vm.FramesKnown.alikeC hS10.1.alike hBelow
  have EB8_12 := (EB8.ext E10)
  have A1_13 := ((A1_7.keep Kp8).ext E10)
  have VB8_14 := (VB8.ext E10)
  have ne10b := sf10 _ (Safe.exa (EL := consts_1) hZ10.alike EB8_12 (by decide) (by decide))
  have ne10v := sf10 _ sf_va8_11
  have FcB8_15 := (FcB8.ext E10)
  have FnB8_16 := (FnB8.ext E10)
  have FvB8_17 := (FvB8.ext E10)
  obtain ⟨cq18, kq18, q18a, q18b, q18c⟩ := isOf hZ10 e10 EB8_12
  obtain ⟨_, _, ⟨T18, L18, k18, n18⟩, -, X18, ⟨Lc18, hQ18, l18, y18, z18⟩, st18⟩ := X10.virtualBack hx (y := (⟨"java/lang/StringBuilder", "append", "(Ljava/lang/String;)Ljava/lang/StringBuilder;"⟩ : MethodName)) (z := (⟨"java/lang/StringBuilder", "append", "(Ljava/lang/String;)Ljava/lang/StringBuilder;"⟩ : MethodName)) hown10 (mvT hZ10 (wd hw 38 rfl)) (mvT hZ10 (wd hw 39 rfl)) (notFace_of_selects (args := #[]) (mvT hZ10 (wd hw 41 rfl))) (mvT hZ10 (wd hw 41 rfl)) (mvT hZ10 (wd hw 40 rfl)) (by decide) (backOf (W := 3) (sAs1 l Z a0 hw [] b5 a10 va8 ka8 16 0 (fun _ => 0) bb10 kb10 59 (fun i => preL.getD i 0) (by decide) preA 43 59 (by decide) (by decide) (by decide) (by decide) (by decide) (by decide) (fun _ => (by decide : 0 < 128)) h10 n0 Zs10 (KZ.trans K10 all0) hz ⟨EB8_12, FcB8_15, FnB8_16, FvB8_17, VB8_14⟩ ⟨Ex10, Fc10, Fv10, own_arvN (us := preL) Va10 rfl⟩ g_b5 ga8 nv8 (Ne.symm ne10b.1) (Ne.symm ne10b.2) (Ne.symm ne10v.1) (Ne.symm ne10v.2) cs hcs S_Cz) hZ10 (wd hw 42 rfl) (wd hw 12 rfl) (by decide) (by decide)) q18a q18c (g := (mkF m 16 #[vJ q0, zS] [(.ref a10), (.ref b5), (.ref kL), (.ref b1), (.ref b1)])) rfl (by rw [hml]; rfl) (Steps.refl _) (argsL := [(.ref a10)]) (rest := [(.ref kL), (.ref b1), (.ref b1)]) (lenOf pd__Ljava_lang_String__Ljava_lang_StringBuilder_ rfl) rfl (by show 2 * 0 + _ ≤ _; exact Nat.le_of_eq rfl) (hb hby d1_16) (fun _ _ => ⟨rfl, e10, (by decide : 5 + 1 ≤ _), (by decide : 271 + 200 ≤ _)⟩)
  dsimp only [Pt.U, Pt.locs, Pt.cells, Pt.slots] at X18 l18 y18 z18 st18 hQ18
  rw [l18, y18, z18] at X18
  obtain ⟨rfl, N18q, Kp18, va18, ka18, ga18, no18, or18, Bd18⟩ := hQ18
  have N18 := Fr.app N8 N18q
  have hCs19 : CHr Z consts_1 T10.vm h10 T10.vm T18.heap := (CHr.keep Kp18 (allS (Safe.exa (EL := consts_1) hZ10.alike EB8_12 (by decide) (by decide)) (allS sf_va8_11 all0)) hCR11.1)
  have sf_va8_19 := hCs19.safe lt_va8_11 sf_va8_11
  have lt_va8_19 : va8 < T18.heap.size := Nat.lt_of_lt_of_le lt_va8_11 hCs19.2.1
  have hCR19 : CHr Z consts_1 s.vm h0 T10.vm T18.heap := hCR11.trans hCs19
  have Zs18 : n0 ≤ T18.heap.size := Nat.le_trans Zs10 Kp18.1
  have Kk18 : Keep h0 T18.heap [] := K10.trans Kp18 (allS (Or.inr sz_b5) (allS (Or.inr sz8a) all0))
  obtain ⟨EB18, FcB18, FnB18, FvB18, VB18⟩ := id Bd18
  have sz18a : h0.size ≤ va18 := by rcases or18 with q | q; exact Nat.le_trans K10.1 q; rw [q]; exact sz8a
  have nw18 : b1 ≠ va18 := by rcases or18 with q | q; exact Nat.ne_of_lt (Nat.lt_of_lt_of_le (A1_13).lt q); rw [q]; exact nw8
  have sfv18 := Safe.keep Kp18 (allS (Safe.exa (EL := consts_1) hZ10.alike EB8_12 (by decide) (by decide)) (allS sf_va8_11 all0)) hCR11.1 (own_safeOr or18 sf_va8_11)
  have ltv18 : va18 < T18.heap.size := VB18.lt
  have A1_20 := (A1_13.keep Kp18)
  have asc1 : Asc (fun j => if 0 ≤ j ∧ j < 0 + 59 then preL.getD (j - 0) 0 else if j < 16 then 0 else 0) := (fun i => by show (if 0 ≤ i ∧ i < 0 + 59 then preL.getD (i - 0) 0 else if i < 16 then 0 else 0) < 128; split; exact preA _; split <;> decide)
  have asc2 : Asc (fun i => if i < 59 then (fun j => if 0 ≤ j ∧ j < 0 + 59 then preL.getD (j - 0) 0 else if j < 16 then 0 else 0) i else 0) := fun i => by show (if i < 59 then (fun j => if 0 ≤ j ∧ j < 0 + 59 then preL.getD (j - 0) 0 else if j < 16 then 0 else 0) i else 0) < 128; split; exact asc1 i; decide
  obtain ⟨cq21, kq21, q21a, q21b, q21c⟩ := isOf hZ10 rfl EB18
  obtain ⟨_, _, ⟨T21, L21, k21, n21⟩, -, X21, ⟨Lc21, hQ21, l21, y21, z21⟩, st21⟩ := X18.virtualBack hx (y := (⟨"java/lang/StringBuilder", "append", "(J)Ljava/lang/StringBuilder;"⟩ : MethodName)) (z := (⟨"java/lang/StringBuilder", "append", "(J)Ljava/lang/StringBuilder;"⟩ : MethodName)) hown10 (mvT hZ10 (wd hw 111 rfl)) (mvT hZ10 (wd hw 112 rfl)) (notFace_of_selects (args := #[]) (mvT hZ10 (wd hw 114 rfl))) (mvT hZ10 (wd hw 114 rfl)) (mvT hZ10 (wd hw 113 rfl)) (by decide) (backOf (W := 3) (sAj l Z a0 hw [] b5 xx va18 ka18 59 59 (fun j => if 0 ≤ j ∧ j < 0 + 59 then preL.getD (j - 0) 0 else if j < 16 then 0 else 0) nn sz hnn hxn hsz 61 120 (by have := (SBG.digitsL_pos nn).1; omega) (by constructor <;> intro _ <;> omega) (by decide) (by decide) (by decide) (by decide) asc1 T18.heap n0 Zs18 (KZ.trans Kk18 all0) hz ⟨EB18, FcB18, FnB18, FvB18, VB18⟩ g_b5 ga18 no18 stI dgA dgB DgA DgB tbA tbB onA teB cs hcs S_Cz) hZ10 (wd hw 115 rfl) (wd hw 12 rfl) (by decide) (by decide)) q21a q21c (g := (mkF m 23 #[vJ q0, zS] [(.long xx), (.ref b5), (.ref kL), (.ref b1), (.ref b1)])) rfl (by rw [hml]; rfl) (Steps.refl _) (argsL := [(.long xx)]) (rest := [(.ref kL), (.ref b1), (.ref b1)]) (lenOf pd__J_Ljava_lang_StringBuilder_ rfl) rfl (by show 2 * 0 + _ ≤ _; exact Nat.le_of_eq rfl) (hb hby d1_23) (fun _ _ => ⟨rfl, rfl, (by decide : 6 + 1 ≤ _), (by decide : 471 + 200 ≤ _)⟩)
  dsimp only [Pt.U, Pt.locs, Pt.cells, Pt.slots] at X21 l21 y21 z21 st21 hQ21
  rw [l21, y21, z21] at X21
  obtain ⟨rfl, N21q, Kp21, va21, ka21, ga21, no21, or21, Bd21⟩ := hQ21
  have N21 := Fr.app N18 N21q
  have hCs22 : CHr Z consts_1 T10.vm T18.heap T10.vm T21.heap := (CHr.keep Kp21 (allS (Safe.exa (EL := consts_1) hZ10.alike EB18 (by decide) (by decide)) (allS sfv18 all0)) hCR19.1)
  have sf_va18_22 := hCs22.safe ltv18 sfv18
  have lt_va18_22 : va18 < T21.heap.size := Nat.lt_of_lt_of_le ltv18 hCs22.2.1
  have hCR22 : CHr Z consts_1 s.vm h0 T10.vm T21.heap := hCR19.trans hCs22
  have Zs21 : n0 ≤ T21.heap.size := Nat.le_trans Zs18 Kp21.1
  have Kk21 : Keep h0 T21.heap [] := Kk18.trans Kp21 (allS (Or.inr sz_b5) (allS (Or.inr sz18a) all0))
  obtain ⟨EB21, FcB21, FnB21, FvB21, VB21⟩ := id Bd21
  have sz21a : h0.size ≤ va21 := by rcases or21 with q | q; exact Nat.le_trans Kk18.1 q; rw [q]; exact sz18a
  have nw21 : b1 ≠ va21 := by rcases or21 with q | q; exact Nat.ne_of_lt (Nat.lt_of_lt_of_le (A1_20).lt q); rw [q]; exact nw18
  have sfv21 := Safe.keep Kp21 (allS (Safe.exa (EL := consts_1) hZ10.alike EB18 (by decide) (by decide)) (allS sfv18 all0)) hCR19.1 (own_safeOr or21 sfv18)
  have ltv21 : va21 < T21.heap.size := VB21.lt
  obtain ⟨a23, T23, h23, kk23, bb23, kb23, X23, e23, E23, hS23, hk23, hZ23, hown23, Ex23, Fc23, Fv23, Va23, la23, lb23, hC23, Lt23, sf23, st23⟩ := ldcCH (s := s) X21 hx hZ10 hown10 (wd hw 136 rfl) (own_strings hw) rfl hS10 (Nat.le_trans (Nat.le_trans hk10 Kp18.1) Kp21.1) hEL (by decide) hCR22.1 (vs := (sufL.map fun u => Value.int (Int32.ofNat u))) (z := (33 : Int32)) ⟨by decide +kernel, by decide +kernel⟩ (by decide) (by decide +kernel) (g := (mkF m 26 #[vJ q0, zS] [(.ref b5), (.ref kL), (.ref b1), (.ref b1)])) rfl (hb hby d1_26) (n := 240) (by decide +kernel) (by decide) (by decide) (by decide)
  have Zs23 : n0 ≤ h23.size := Nat.le_trans Zs21 E23.1
  have K23 : Keep h0 h23 [] := Kk21.ext E23
  have hCs24 : CHr Z consts_1 T10.vm T21.heap T23.vm h23 := hC23
  have sf_va21_24 := hCs24.safe ltv21 sfv21
  have lt_va21_24 : va21 < h23.size := Nat.lt_of_lt_of_le ltv21 hCs24.2.1
  have hCR24 : CHr Z consts_1 s.vm h0 T23.vm h23 := hCR22.trans hCs24
  have hTK23 : (s.setVm T23.vm).vm.MethodsKnown := Vm.MethodsKnown.alikeC hS23.1.alike hTK
  have hBl23 : (s.setVm T23.vm).vm.FramesKnown below := Vm.FramesKnown.alikeC hS23.1.alike hBelow
  have EB21_25 := (EB21.ext E23)
  have A1_26 := ((A1_20.keep Kp21).ext E23)
  have VB21_27 := (VB21.ext E23)
  have ne23b := sf23 _ (Safe.exa (EL := consts_1) hZ23.alike EB21_25 (by decide) (by decide))
  have ne23v := sf23 _ sf_va21_24
  have FcB21_28 := (FcB21.ext E23)
  have FnB21_29 := (FnB21.ext E23)
  have FvB21_30 := (FvB21.ext E23)
  obtain ⟨cq31, kq31, q31a, q31b, q31c⟩ := isOf hZ23 e23 EB21_25
  obtain ⟨_, _, ⟨T31, L31, k31, n31⟩, -, X31, ⟨Lc31, hQ31, l31, y31, z31⟩, st31⟩ := X23.virtualBack hx (y := (⟨"java/lang/StringBuilder", "append", "(Ljava/lang/String;)Ljava/lang/StringBuilder;"⟩ : MethodName)) (z := (⟨"java/lang/StringBuilder", "append", "(Ljava/lang/String;)Ljava/lang/StringBuilder;"⟩ : MethodName)) hown23 (mvT hZ23 (wd hw 38 rfl)) (mvT hZ23 (wd hw 39 rfl)) (notFace_of_selects (args := #[]) (mvT hZ23 (wd hw 41 rfl))) (mvT hZ23 (wd hw 41 rfl)) (mvT hZ23 (wd hw 40 rfl)) (by decide) (backOf (W := 3) (sAs0 l Z a0 hw [] b5 a23 va21 ka21 120 (59 + sz) (gcF xx nn (59 + sz) (fun i => if i < 59 then (fun j => if 0 ≤ j ∧ j < 0 + 59 then preL.getD (j - 0) 0 else if j < 16 then 0 else 0) i else 0)) bb23 kb23 33 (fun i => sufL.getD i 0) (by decide) sufA (by decide) (by omega) (gcF_asc asc2) h23 n0 Zs23 (KZ.trans K23 all0) hz ⟨EB21_25, FcB21_28, FnB21_29, FvB21_30, VB21_27⟩ (by omega) ⟨Ex23, Fc23, Fv23, own_arvN (us := sufL) Va23 rfl⟩ g_b5 ga21 no21 (Ne.symm ne23b.1) (Ne.symm ne23b.2) (Ne.symm ne23v.1) (Ne.symm ne23v.2) cs hcs S_Cz) hZ23 (wd hw 42 rfl) (wd hw 12 rfl) (by decide) (by decide)) q31a q31c (g := (mkF m 28 #[vJ q0, zS] [(.ref a23), (.ref b5), (.ref kL), (.ref b1), (.ref b1)])) rfl (by rw [hml]; rfl) (Steps.refl _) (argsL := [(.ref a23)]) (rest := [(.ref kL), (.ref b1), (.ref b1)]) (lenOf pd__Ljava_lang_String__Ljava_lang_StringBuilder_ rfl) rfl (by show 2 * 0 + _ ≤ _; exact Nat.le_of_eq rfl) (hb hby d1_28) (fun _ _ => ⟨rfl, e23, (by decide : 9 + 1 ≤ _), (by decide : 915 + 200 ≤ _)⟩)
  dsimp only [Pt.U, Pt.locs, Pt.cells, Pt.slots] at X31 l31 y31 z31 st31 hQ31
  rw [l31, y31, z31] at X31
  obtain ⟨rfl, N31q, Kp31, va31, ka31, ga31, no31, or31, Bd31⟩ := hQ31
  have N31 := Fr.app N21 N31q
  have hCs32 : CHr Z consts_1 T23.vm h23 T23.vm T31.heap := (CHr.keep Kp31 (allS (Safe.exa (EL := consts_1) hZ23.alike EB21_25 (by decide) (by decide)) (allS sf_va21_24 all0)) hCR24.1)
  have sf_va21_32 := hCs32.safe lt_va21_24 sf_va21_24
  have lt_va21_32 : va21 < T31.heap.size := Nat.lt_of_lt_of_le lt_va21_24 hCs32.2.1
  have hCR32 : CHr Z consts_1 s.vm h0 T23.vm T31.heap := hCR24.trans hCs32
  have Zs31 : n0 ≤ T31.heap.size := Nat.le_trans Zs23 Kp31.1
  have Kk31 : Keep h0 T31.heap [] := K23.trans Kp31 (allS (Or.inr sz_b5) (allS (Or.inr sz21a) all0))
  obtain ⟨EB31, FcB31, FnB31, FvB31, VB31⟩ := id Bd31
  have sz31a : h0.size ≤ va31 := by rcases or31 with q | q; exact Nat.le_trans K23.1 q; rw [q]; exact sz21a
  have nw31 : b1 ≠ va31 := by rcases or31 with q | q; exact Nat.ne_of_lt (Nat.lt_of_lt_of_le (A1_26).lt q); rw [q]; exact nw21
  have sfv31 := Safe.keep Kp31 (allS (Safe.exa (EL := consts_1) hZ23.alike EB21_25 (by decide) (by decide)) (allS sf_va21_24 all0)) hCR24.1 (own_safeOr or31 sf_va21_24)
  have ltv31 : va31 < T31.heap.size := VB31.lt
  have A1_33 := (A1_26.keep Kp31)
  have asc3 : Asc (fun j => if 59 + sz ≤ j ∧ j < 59 + sz + 33 then sufL.getD (j - (59 + sz)) 0 else (gcF xx nn (59 + sz) (fun i => if i < 59 then (fun j => if 0 ≤ j ∧ j < 0 + 59 then preL.getD (j - 0) 0 else if j < 16 then 0 else 0) i else 0)) j) := fun j => by show (if _ then _ else _) < 128; split; exact sufA _; exact (gcF_asc asc2) j
  obtain ⟨cq34, kq34, q34a, q34b, q34c⟩ := isOf hZ23 rfl EB31
  obtain ⟨_, _, ⟨T34, L34, k34, n34⟩, -, X34, ⟨Lc34, hQ34, l34, y34, z34⟩, st34⟩ := X31.virtualBack hx (y := (⟨"java/lang/StringBuilder", "toString", "()Ljava/lang/String;"⟩ : MethodName)) (z := (⟨"java/lang/StringBuilder", "toString", "()Ljava/lang/String;"⟩ : MethodName)) hown23 (mvT hZ23 (wd hw 137 rfl)) (mvT hZ23 (wd hw 138 rfl)) (notFace_of_selects (args := #[]) (mvT hZ23 (wd hw 140 rfl))) (mvT hZ23 (wd hw 140 rfl)) (mvT hZ23 (wd hw 139 rfl)) (by decide) (backOf (W := 3) (bTs l Z a0 hw [] b5 va31 ka31 120 (59 + sz + 33) (fun j => if 59 + sz ≤ j ∧ j < 59 + sz + 33 then sufL.getD (j - (59 + sz)) 0 else (gcF xx nn (59 + sz) (fun i => if i < 59 then (fun j => if 0 ≤ j ∧ j < 0 + 59 then preL.getD (j - 0) 0 else if j < 16 then 0 else 0) i else 0)) j) (by decide) (by omega) (by omega) asc3 T31.heap n0 Zs31 (KZ.trans Kk31 all0) hz ⟨EB31, FcB31, FnB31, FvB31, VB31⟩ cs hcs S_Cz) hZ23 (wd hw 141 rfl) (wd hw 12 rfl) (by decide) (by decide)) q34a q34c (g := (mkF m 31 #[vJ q0, zS] [(.ref b5), (.ref kL), (.ref b1), (.ref b1)])) rfl (by rw [hml]; rfl) (Steps.refl _) (argsL := []) (rest := [(.ref kL), (.ref b1), (.ref b1)]) (lenOf pd___Ljava_lang_String_ rfl) rfl (by show 2 * 0 + _ ≤ _; exact Nat.le_of_eq rfl) (hb hby d1_31) (fun _ _ => ⟨rfl, rfl, (by decide : 10 + 2 ≤ _), (by decide : 1115 + 204 ≤ _)⟩)
  dsimp only [Pt.U, Pt.locs, Pt.cells, Pt.slots] at X34 l34 y34 z34 st34 hQ34
  rw [l34, y34, z34] at X34
  obtain ⟨sx34, wx34, kx34, rfl, N34q, Kp34, sh34, si34, Sx34⟩ := hQ34
  have N34 := Fr.app N31 N34q
  have hCs35 : CHr Z consts_1 T23.vm T31.heap T23.vm T34.heap := (CHr.keep Kp34 all0 hCR32.1)
  have sf_va31_35 := hCs35.safe ltv31 sfv31
  have lt_va31_35 : va31 < T34.heap.size := Nat.lt_of_lt_of_le ltv31 hCs35.2.1
  have hCR35 : CHr Z consts_1 s.vm h0 T23.vm T34.heap := hCR32.trans hCs35
  have Zs34 : n0 ≤ T34.heap.size := Nat.le_trans Zs31 Kp34.1
  have Kk34 : Keep h0 T34.heap [] := Kk31.trans Kp34 all0
  have nx34 : sx34 ≠ b1 := Nat.ne_of_gt (Nat.lt_of_lt_of_le (A1_33).lt sh34)
  have ny34 : wx34 ≠ b1 := Nat.ne_of_gt (Nat.lt_of_lt_of_le (A1_33).lt si34)
  have Sy34 : SB Z T34.heap sx34 wx34 kx34 (59 + sz + 33) (fun i => Int32.ofNat (txt xx nn sz i)) := ⟨Sx34.1, Sx34.2.1, Sx34.2.2.1, Sx34.2.2.2.eqv fun j hj => by show Value.int (Int32.ofNat _) = Value.int (Int32.ofNat _); rw [← own_txt hsz j hj]⟩
  have A1_36 := (A1_33.keep Kp34)
  have TH_37 := (ThS.keep Kp34 (own_nst all0) (ThS.keep Kp31 (own_nst (allS (own_ns EB21_25) (allS (own_ov VB21_27) all0))) (ThS.ext E23 (ThS.keep Kp21 (own_nst (allS (own_ns EB18) (allS (own_ov VB18) all0))) (ThS.keep Kp18 (own_nst (allS (own_ns EB8_12) (allS (own_ov VB8_14) all0))) (ThS.ext E10 (ThS.keep Kp8 (own_nst (allS (own_ns A5) all0)) (ThS.ext E5 (ThS.ext E1 TH)))))))))
  have S_U_38 := (own_sta_keep (own_sta_keep ((own_sta_keep (own_sta_keep ((own_sta_keep ((S_U.ext E1).ext E5) Kp8 (allS (own_ns A5) all0)).ext E10) Kp18 (allS (own_ns EB8_12) (allS (own_ov VB8_14) all0))) Kp21 (allS (own_ns EB18) (allS (own_ov VB18) all0))).ext E23) Kp31 (allS (own_ns EB21_25) (allS (own_ov VB21_27) all0))) Kp34 all0)
  have S_N_39 := (own_sta_keep (own_sta_keep ((own_sta_keep (own_sta_keep ((own_sta_keep ((S_N.ext E1).ext E5) Kp8 (allS (own_ns A5) all0)).ext E10) Kp18 (allS (own_ns EB8_12) (allS (own_ov VB8_14) all0))) Kp21 (allS (own_ns EB18) (allS (own_ov VB18) all0))).ext E23) Kp31 (allS (own_ns EB21_25) (allS (own_ov VB21_27) all0))) Kp34 all0)
  have U_b1_40 := (Unt.keep Kp34 nin0 (Unt.keep Kp31 (ninS ne5_b1 (ninS nw21 nin0)) (own_unt_ext E23 (Unt.keep Kp21 (ninS ne5_b1 (ninS nw18 nin0)) (Unt.keep Kp18 (ninS ne5_b1 (ninS nw8 nin0)) (own_unt_ext E10 (Unt.keep Kp8 (ninS ne5_b1 nin0) (own_unt_ext E5 U_b1))))))))
  have F1_cause_41 := ((((((((F1_cause.ext E5).keep Kp8 (ninS ne5_b1 nin0)).ext E10).keep Kp18 (ninS ne5_b1 (ninS nw8 nin0))).keep Kp21 (ninS ne5_b1 (ninS nw18 nin0))).ext E23).keep Kp31 (ninS ne5_b1 (ninS nw21 nin0))).keep Kp34 nin0)
  have F1_stackTrace_42 := ((((((((F1_stackTrace.ext E5).keep Kp8 (ninS ne5_b1 nin0)).ext E10).keep Kp18 (ninS ne5_b1 (ninS nw8 nin0))).keep Kp21 (ninS ne5_b1 (ninS nw18 nin0))).ext E23).keep Kp31 (ninS ne5_b1 (ninS nw21 nin0))).keep Kp34 nin0)
  have F1_suppressedExceptions_43 := ((((((((F1_suppressedExceptions.ext E5).keep Kp8 (ninS ne5_b1 nin0)).ext E10).keep Kp18 (ninS ne5_b1 (ninS nw8 nin0))).keep Kp21 (ninS ne5_b1 (ninS nw18 nin0))).ext E23).keep Kp31 (ninS ne5_b1 (ninS nw21 nin0))).keep Kp34 nin0)
  have F1_backtrace_44 := ((((((((F1_backtrace.ext E5).keep Kp8 (ninS ne5_b1 nin0)).ext E10).keep Kp18 (ninS ne5_b1 (ninS nw8 nin0))).keep Kp21 (ninS ne5_b1 (ninS nw18 nin0))).ext E23).keep Kp31 (ninS ne5_b1 (ninS nw21 nin0))).keep Kp34 nin0)
  have F1_detailMessage_45 := ((((((((F1_detailMessage.ext E5).keep Kp8 (ninS ne5_b1 nin0)).ext E10).keep Kp18 (ninS ne5_b1 (ninS nw8 nin0))).keep Kp21 (ninS ne5_b1 (ninS nw18 nin0))).ext E23).keep Kp31 (ninS ne5_b1 (ninS nw21 nin0))).keep Kp34 nin0)
  have F1_kind_46 := ((((((((F1_kind.ext E5).keep Kp8 (ninS ne5_b1 nin0)).ext E10).keep Kp18 (ninS ne5_b1 (ninS nw8 nin0))).keep Kp21 (ninS ne5_b1 (ninS nw18 nin0))).ext E23).keep Kp31 (ninS ne5_b1 (ninS nw21 nin0))).keep Kp34 nin0)
  obtain ⟨_, _, ⟨T47, L47, k47, n47⟩, -, X47, ⟨Lc47, hQ47, l47, y47, z47⟩, st47⟩ := X34.specialBack hx (y := (⟨"com/example/tollplan/tollplan/CommandException", "<init>", "(Lcom/example/tollplan/tollplan/CommandException$Kind;Ljava/lang/String;)V"⟩ : MethodName)) rfl hown23 (mvT hZ23 (wd hw 174 rfl)) (mvT hZ23 (wd hw 175 rfl)) (mvT hZ23 (wd hw 176 rfl)) (by decide) (backOfKL (W := 1) (rm2 l Z a0 hw [] b1 kL sx34 T34.heap n0 Zs34 hl TH_37 u1 u2 hu1 hu2 S_U_38 S_N_39 A1_36 U_b1_40 g_b1 F1_cause_41 F1_stackTrace_42 F1_suppressedExceptions_43 F1_backtrace_44 F1_detailMessage_45 F1_kind_46) hZ23 (wd hw 176 rfl) (wd hw 3 rfl) (by decide) (by decide) hTK23 hBl23) (g := (mkF m 34 #[vJ q0, zS] [(.ref sx34), (.ref kL), (.ref b1), (.ref b1)])) rfl (by rw [hml]; rfl) (Steps.refl _) (a := b1) (argsL := [(.ref kL), (.ref sx34)]) (rest := [(.ref b1)]) (lenOf pd__Lcom_example_tollplan_tollplan_CommandException_Kind_Ljava_lang_String__V rfl) rfl (by show 2 * 0 + _ ≤ _; exact Nat.le_of_eq rfl) (hb hby d1_34) (fun _ _ => ⟨rfl, rfl, (by decide : 12 + 1 ≤ _), (by decide : 1319 + 2752 ≤ _)⟩)
  dsimp only [Pt.U, Pt.locs, Pt.cells, Pt.slots] at X47 l47 y47 z47 st47 hQ47
  rw [l47, y47, z47] at X47
  obtain ⟨rfl, N47q, Kp47, Ea47, Fk47, Fm47, Fx47, Un47⟩ := hQ47
  have N47 := Fr.app N34 N47q
  have hCs48 : CHr Z consts_1 T23.vm T34.heap T23.vm T47.heap := (CHr.keep Kp47 (allS (Safe.exa (EL := consts_1) hZ23.alike A1_36 (by decide) (by decide)) all0) hCR35.1)
  have sf_va31_48 := hCs48.safe lt_va31_35 sf_va31_35
  have lt_va31_48 : va31 < T47.heap.size := Nat.lt_of_lt_of_le lt_va31_35 hCs48.2.1
  have hCR48 : CHr Z consts_1 s.vm h0 T23.vm T47.heap := hCR35.trans hCs48
  have Zs47 : n0 ≤ T47.heap.size := Nat.le_trans Zs34 Kp47.1
  have Kk47 : Keep h0 T47.heap [] := Kk34.trans Kp47 (allS (Or.inr sz_b1) all0)
  have Sz := Sy34.keep Kp47 (ninS nx34 nin0) (ninS ny34 nin0)
  obtain ⟨fs, hr, hrun, hended, hEnd⟩ := X47.leaveW (s := s) hS23 (Nat.le_trans (Nat.le_trans (Nat.le_trans hk23 Kp31.1) Kp34.1) Kp47.1) (v := some (.ref b1)) (fun h => by rw [Bd.returns] at h; cases h)
  refine ⟨_, _, pre0 _ ?_, hrun, hended, _, _, rfl, ?_, (by show CHr Z consts_1 s.vm s.heap T47.vm T47.heap; rw [hh]; exact hCR48.trans (CHv.at X47 hZ23 hEL hCR48.1)), hEnd.1, hEnd.2.1, hEnd.2.2.1, hEnd.2.2.2.mono (by decide) (by decide)⟩
  · skip
    refine st1 _ ?_
    refine XS.dup X1.here hx rfl (hb hby d1_3) rfl rfl ?_
    refine st4 _ ?_
    show Steps p.tables e below (T4.setTop (mkF m 7 #[vJ q0, zS] [(.ref kL), (.ref b1), (.ref b1)])) _
    refine st5 _ ?_
    refine XS.dup X5.here hx rfl (hb hby d1_10) rfl rfl ?_
    refine st8.trans ?_
    refine st10 _ ?_
    show Steps p.tables e below (T10.setTop (mkF m 16 #[vJ q0, zS] [(.ref a10), (.ref b5), (.ref kL), (.ref b1), (.ref b1)])) _
    refine st18.trans ?_
    refine XS.lloadN X18.here hx rfl (hb hby d1_19) rfl ?_
    refine XS.bipush X18.here hx rfl (hb hby d1_20) ?_
    refine XS.lshr X18.here hx rfl (hb hby d1_22) rfl ?_
    show Steps p.tables e below (T18.setTop (mkF m 23 #[vJ q0, zS] [(.long (q0 >>> ((20 : Int32) &&& 0x3f).toInt64)), (.ref b5), (.ref kL), (.ref b1), (.ref b1)])) _
    rw [hxx]
    show Steps p.tables e below (T18.setTop (mkF m 23 #[vJ q0, zS] [(.long xx), (.ref b5), (.ref kL), (.ref b1), (.ref b1)])) _
    refine st21.trans ?_
    refine st23 _ ?_
    refine st31.trans ?_
    refine st34.trans ?_
    show Steps p.tables e below (T34.setTop (mkF m 34 #[vJ q0, zS] [(.ref sx34), (.ref kL), (.ref b1), (.ref b1)])) _
    refine st47.trans ?_
    show Steps p.tables e below (T47.setTop (mkF m 37 #[vJ q0, zS] [(.ref b1)])) _
    jvm_step X47.here [X47.here.top, hx, (hb hby d1_37), X47.method', Bd.returns, Value.isRef, FieldType.isReference]
    first | (intro acts; rw [hr _ acts rfl rfl rfl]) | rw [hr _ _ rfl rfl rfl]
    exact Steps.refl _
  · show QO Z kL xx nn sz h0 n0 _ T47.heap _
    exact ⟨_, sx34, wx34, kx34, rfl, N47, Kk47, Ea47, Fk47, Fm47, Fx47, Un47, Sz⟩
theorem d37_0 : decode prog_4_method_3_code 0 = .ok (.aload_n 0, 1) := by decide +kernel
theorem d37_1 : decode prog_4_method_3_code 1 = .ok (.getfield 7, 3) := by decide +kernel
theorem d37_4 : decode prog_4_method_3_code 4 = .ok (.areturn, 1) := by decide +kernel
theorem pn_37 : plainName "com/example/tollplan/tollplan/CommandException" = true := by first | (simp [plainName, overriddenIn]; done) | decide +kernel
theorem ef_eKi (m : MethodId) (x0 : Addr) : entryFrame m #[(.ref x0)] 1 = mkF m 0 #[.val (.ref x0)] [] := by first | (simp [entryFrame, mkF, argsToLocals, Value.category]; done) | rfl
set_option maxRecDepth 65536 in
set_option maxHeartbeats 40000000 in
theorem eKi (l : Launch) (Z : State) (a0 : Array Value) (hw : ∀ d ∈ tables_1, d.before a0 Z = true) (ws : List Jvm.Cond) (o0 : Addr) (k : Addr) (h0 : Heap) (n0 : Nat) (Z0 : n0 ≤ h0.size) (F_k : Fld Z h0 o0 "com/example/tollplan/tollplan/CommandException" "kind" "Lcom/example/tollplan/tollplan/CommandException$Kind;" (.ref k)) :
    MetFree l (⟨"com/example/tollplan/tollplan/CommandException", "kind", "()Lcom/example/tollplan/tollplan/CommandException$Kind;"⟩ : MethodName) (head1 (Jvm.Cond.code (⟨"com/example/tollplan/tollplan/CommandException", "kind", "()Lcom/example/tollplan/tollplan/CommandException$Kind;"⟩ : MethodName) prog_4_method_3_code 1 (some (.object "com/example/tollplan/tollplan/CommandException$Kind")) :: ws) ({ frames := 0, cells := 0, slots := 0, locals := 0 } : Room)) (fun a U => a = #[(.ref o0)] ∧ Z.Warmed39 U.vm ∧ U.heap = h0) (fun _ _ _ _ _ => True) (fun _ U o U' => ∃ v L, o = .returned v ∧ QR (.ref k) h0 n0 v U'.heap L ∧ FrameEnd U o U' L ({ frames := 0, cells := 0, slots := 0, locals := 0 } : Room).cells ({ frames := 0, cells := 0, slots := 0, locals := 0 } : Room).slots) := by
  refine MetFree.of_bodySF (plainFor_of_name pn_37) hisR ?_
  intro p e s m args below meth c s₁ Bd hml0 hP hK
  obtain ⟨rfl, hZ, hh⟩ := hP
  have hx := Bd.exec
  have hby := Bd.bytes
  have hml : c.maxLocals = 1 := hml0
  have hown : s.vm.findClass "com/example/tollplan/tollplan/CommandException" = some m.cls := findClass_of_methodNamed Bd.named
  have hnm := (name_of_methodNamed Bd.named Bd.method).1
  have X0 : Stand p l e ({ frames := 0, cells := 0, slots := 0, locals := 0 } : Room) s m #[(.ref o0)] below meth c s₁ [] 0 0 := Stand.of_body Bd
  have e0 : s₁.heap = h0 := by rw [← hh, Bd.state]; rfl
  have N0 := Fr.nil n0
  have pre0 : ∀ t, Steps p.tables e below (s₁.setTop (mkF m 0 #[vR o0] [])) t → Steps p.tables e below (s₁.setTop (entryFrame m #[(.ref o0)] 1)) t := fun t k => castTop (ef_eKi m o0) k
  obtain ⟨T1, X1, e1, st1⟩ := getF X0 hx hZ hown (host := "") (Or.inl (wd hw 225 rfl)) Via.refl e0 F_k (g := (mkF m 1 #[vR o0] [(.ref o0)])) rfl rfl (hb hby d37_1)
  obtain ⟨fs, hr, hrun, hended, hW, hsame⟩ := X1.leave (v := some (.ref k)) (fun h => by rw [Bd.returns] at h; cases h)
  refine ⟨_, _, pre0 _ ?_, hrun, hended, _, _, rfl, ?_, ⟨_, rfl⟩, hW, hsame.mono (by decide) (by decide)⟩
  · skip
    refine XS.aloadN X0.here hx rfl (hb hby d37_0) rfl rfl ?_
    refine st1 _ ?_
    show Steps p.tables e below (T1.setTop (mkF m 4 #[vR o0] [(.ref k)])) _
    jvm_step X1.here [X1.here.top, hx, (hb hby d37_4), X1.method', Bd.returns, Value.isRef, FieldType.isReference]
    first | (intro acts; rw [hr _ acts rfl rfl rfl]) | rw [hr _ _ rfl rfl rfl]
    exact Steps.refl _
  · show QR (.ref k) h0 n0 _ T1.heap _
    rw [e1]
    exact ⟨(by first | rfl | simp []), N0, rfl⟩
theorem d39_0 : decode jdk_78_method_6_code 0 = .ok (.aload_n 0, 1) := by decide +kernel
theorem d39_1 : decode jdk_78_method_6_code 1 = .ok (.getfield 31, 3) := by decide +kernel
theorem d39_4 : decode jdk_78_method_6_code 4 = .ok (.areturn, 1) := by decide +kernel
theorem pn_39 : plainName "java/lang/Throwable" = true := by first | (simp [plainName, overriddenIn]; done) | decide +kernel
theorem ef_eMs (m : MethodId) (x0 : Addr) : entryFrame m #[(.ref x0)] 1 = mkF m 0 #[.val (.ref x0)] [] := by first | (simp [entryFrame, mkF, argsToLocals, Value.category]; done) | rfl
set_option maxRecDepth 65536 in
set_option maxHeartbeats 40000000 in
theorem eMs (l : Launch) (Z : State) (a0 : Array Value) (hw : ∀ d ∈ tables_1, d.before a0 Z = true) (ws : List Jvm.Cond) (o0 : Addr) (k : Addr) (h0 : Heap) (n0 : Nat) (Z0 : n0 ≤ h0.size) (F_k : Fld Z h0 o0 "java/lang/Throwable" "detailMessage" "Ljava/lang/String;" (.ref k)) :
    MetFree l (⟨"java/lang/Throwable", "getMessage", "()Ljava/lang/String;"⟩ : MethodName) (head1 (Jvm.Cond.code (⟨"java/lang/Throwable", "getMessage", "()Ljava/lang/String;"⟩ : MethodName) jdk_78_method_6_code 1 (some (.object "java/lang/String")) :: ws) ({ frames := 0, cells := 0, slots := 0, locals := 0 } : Room)) (fun a U => a = #[(.ref o0)] ∧ Z.Warmed39 U.vm ∧ U.heap = h0) (fun _ _ _ _ _ => True) (fun _ U o U' => ∃ v L, o = .returned v ∧ QR (.ref k) h0 n0 v U'.heap L ∧ FrameEnd U o U' L ({ frames := 0, cells := 0, slots := 0, locals := 0 } : Room).cells ({ frames := 0, cells := 0, slots := 0, locals := 0 } : Room).slots) := by
  refine MetFree.of_bodySF (plainFor_of_name pn_39) hisR ?_
  intro p e s m args below meth c s₁ Bd hml0 hP hK
  obtain ⟨rfl, hZ, hh⟩ := hP
  have hx := Bd.exec
  have hby := Bd.bytes
  have hml : c.maxLocals = 1 := hml0
  have hown : s.vm.findClass "java/lang/Throwable" = some m.cls := findClass_of_methodNamed Bd.named
  have hnm := (name_of_methodNamed Bd.named Bd.method).1
  have X0 : Stand p l e ({ frames := 0, cells := 0, slots := 0, locals := 0 } : Room) s m #[(.ref o0)] below meth c s₁ [] 0 0 := Stand.of_body Bd
  have e0 : s₁.heap = h0 := by rw [← hh, Bd.state]; rfl
  have N0 := Fr.nil n0
  have pre0 : ∀ t, Steps p.tables e below (s₁.setTop (mkF m 0 #[vR o0] [])) t → Steps p.tables e below (s₁.setTop (entryFrame m #[(.ref o0)] 1)) t := fun t k => castTop (ef_eMs m o0) k
  obtain ⟨T1, X1, e1, st1⟩ := getF X0 hx hZ hown (host := "") (Or.inl (wd hw 224 rfl)) Via.refl e0 F_k (g := (mkF m 1 #[vR o0] [(.ref o0)])) rfl rfl (hb hby d39_1)
  obtain ⟨fs, hr, hrun, hended, hW, hsame⟩ := X1.leave (v := some (.ref k)) (fun h => by rw [Bd.returns] at h; cases h)
  refine ⟨_, _, pre0 _ ?_, hrun, hended, _, _, rfl, ?_, ⟨_, rfl⟩, hW, hsame.mono (by decide) (by decide)⟩
  · skip
    refine XS.aloadN X0.here hx rfl (hb hby d39_0) rfl rfl ?_
    refine st1 _ ?_
    show Steps p.tables e below (T1.setTop (mkF m 4 #[vR o0] [(.ref k)])) _
    jvm_step X1.here [X1.here.top, hx, (hb hby d39_4), X1.method', Bd.returns, Value.isRef, FieldType.isReference]
    first | (intro acts; rw [hr _ acts rfl rfl rfl]) | rw [hr _ _ rfl rfl rfl]
    exact Steps.refl _
  · show QR (.ref k) h0 n0 _ T1.heap _
    rw [e1]
    exact ⟨(by first | rfl | simp []), N0, rfl⟩
theorem d40_0 : decode method_2_code 0 = .ok (.lload_n 0, 1) := by decide +kernel
theorem d40_1 : decode method_2_code 1 = .ok (.ldc2_w 7, 3) := by decide +kernel
theorem d40_4 : decode method_2_code 4 = .ok (.lcmp, 1) := by decide +kernel
theorem d40_5 : decode method_2_code 5 = .ok (.ifCond .ge 5, 3) := by decide +kernel
theorem d40_8 : decode method_2_code 8 = .ok (.iconst 1, 1) := by decide +kernel
theorem d40_9 : decode method_2_code 9 = .ok (.ireturn, 1) := by decide +kernel
theorem d40_10 : decode method_2_code 10 = .ok (.lload_n 0, 1) := by decide +kernel
theorem d40_11 : decode method_2_code 11 = .ok (.ldc2_w 9, 3) := by decide +kernel
theorem d40_14 : decode method_2_code 14 = .ok (.lcmp, 1) := by decide +kernel
theorem d40_15 : decode method_2_code 15 = .ok (.ifCond .ge 5, 3) := by decide +kernel
theorem d40_18 : decode method_2_code 18 = .ok (.iconst 2, 1) := by decide +kernel
theorem d40_19 : decode method_2_code 19 = .ok (.ireturn, 1) := by decide +kernel
theorem d40_20 : decode method_2_code 20 = .ok (.lload_n 0, 1) := by decide +kernel
theorem d40_21 : decode method_2_code 21 = .ok (.ldc2_w 11, 3) := by decide +kernel
theorem d40_24 : decode method_2_code 24 = .ok (.lcmp, 1) := by decide +kernel
theorem d40_25 : decode method_2_code 25 = .ok (.ifCond .ge 5, 3) := by decide +kernel
theorem d40_28 : decode method_2_code 28 = .ok (.iconst 3, 1) := by decide +kernel
theorem d40_29 : decode method_2_code 29 = .ok (.ireturn, 1) := by decide +kernel
theorem d40_30 : decode method_2_code 30 = .ok (.lload_n 0, 1) := by decide +kernel
theorem d40_31 : decode method_2_code 31 = .ok (.ldc2_w 13, 3) := by decide +kernel
theorem d40_34 : decode method_2_code 34 = .ok (.lcmp, 1) := by decide +kernel
theorem d40_35 : decode method_2_code 35 = .ok (.ifCond .ge 5, 3) := by decide +kernel
theorem d40_38 : decode method_2_code 38 = .ok (.iconst 4, 1) := by decide +kernel
theorem d40_39 : decode method_2_code 39 = .ok (.ireturn, 1) := by decide +kernel
theorem d40_40 : decode method_2_code 40 = .ok (.lload_n 0, 1) := by decide +kernel
theorem d40_41 : decode method_2_code 41 = .ok (.ldc2_w 15, 3) := by decide +kernel
theorem d40_44 : decode method_2_code 44 = .ok (.lcmp, 1) := by decide +kernel
theorem d40_45 : decode method_2_code 45 = .ok (.ifCond .ge 5, 3) := by decide +kernel
theorem d40_48 : decode method_2_code 48 = .ok (.iconst 5, 1) := by decide +kernel
theorem d40_49 : decode method_2_code 49 = .ok (.ireturn, 1) := by decide +kernel
theorem d40_50 : decode method_2_code 50 = .ok (.lload_n 0, 1) := by decide +kernel
theorem d40_51 : decode method_2_code 51 = .ok (.ldc2_w 17, 3) := by decide +kernel
theorem d40_54 : decode method_2_code 54 = .ok (.lcmp, 1) := by decide +kernel
theorem d40_55 : decode method_2_code 55 = .ok (.ifCond .ge 6, 3) := by decide +kernel
theorem d40_58 : decode method_2_code 58 = .ok (.bipush 6, 2) := by decide +kernel
theorem d40_60 : decode method_2_code 60 = .ok (.ireturn, 1) := by decide +kernel
theorem d40_61 : decode method_2_code 61 = .ok (.lload_n 0, 1) := by decide +kernel
theorem d40_62 : decode method_2_code 62 = .ok (.ldc2_w 19, 3) := by decide +kernel
theorem d40_65 : decode method_2_code 65 = .ok (.lcmp, 1) := by decide +kernel
theorem d40_66 : decode method_2_code 66 = .ok (.ifCond .ge 6, 3) := by decide +kernel
theorem d40_69 : decode method_2_code 69 = .ok (.bipush 7, 2) := by decide +kernel
theorem d40_71 : decode method_2_code 71 = .ok (.ireturn, 1) := by decide +kernel
theorem d40_72 : decode method_2_code 72 = .ok (.lload_n 0, 1) := by decide +kernel
theorem d40_73 : decode method_2_code 73 = .ok (.ldc2_w 21, 3) := by decide +kernel
theorem d40_76 : decode method_2_code 76 = .ok (.lcmp, 1) := by decide +kernel
theorem d40_77 : decode method_2_code 77 = .ok (.ifCond .ge 6, 3) := by decide +kernel
theorem d40_80 : decode method_2_code 80 = .ok (.bipush 8, 2) := by decide +kernel
theorem d40_82 : decode method_2_code 82 = .ok (.ireturn, 1) := by decide +kernel
theorem d40_83 : decode method_2_code 83 = .ok (.lload_n 0, 1) := by decide +kernel
theorem d40_84 : decode method_2_code 84 = .ok (.ldc2_w 23, 3) := by decide +kernel
theorem d40_87 : decode method_2_code 87 = .ok (.lcmp, 1) := by decide +kernel
theorem d40_88 : decode method_2_code 88 = .ok (.ifCond .ge 6, 3) := by decide +kernel
theorem d40_91 : decode method_2_code 91 = .ok (.bipush 9, 2) := by decide +kernel
theorem d40_93 : decode method_2_code 93 = .ok (.ireturn, 1) := by decide +kernel
theorem d40_94 : decode method_2_code 94 = .ok (.lload_n 0, 1) := by decide +kernel
theorem d40_95 : decode method_2_code 95 = .ok (.ldc2_w 25, 3) := by decide +kernel
theorem d40_98 : decode method_2_code 98 = .ok (.lcmp, 1) := by decide +kernel
theorem d40_99 : decode method_2_code 99 = .ok (.ifCond .ge 6, 3) := by decide +kernel
theorem d40_102 : decode method_2_code 102 = .ok (.bipush 10, 2) := by decide +kernel
theorem d40_104 : decode method_2_code 104 = .ok (.ireturn, 1) := by decide +kernel
theorem d40_105 : decode method_2_code 105 = .ok (.lload_n 0, 1) := by decide +kernel
theorem d40_106 : decode method_2_code 106 = .ok (.ldc2_w 27, 3) := by decide +kernel
theorem d40_109 : decode method_2_code 109 = .ok (.lcmp, 1) := by decide +kernel
theorem d40_110 : decode method_2_code 110 = .ok (.ifCond .ge 6, 3) := by decide +kernel
theorem d40_113 : decode method_2_code 113 = .ok (.bipush 11, 2) := by decide +kernel
theorem d40_115 : decode method_2_code 115 = .ok (.ireturn, 1) := by decide +kernel
theorem d40_116 : decode method_2_code 116 = .ok (.lload_n 0, 1) := by decide +kernel
theorem d40_117 : decode method_2_code 117 = .ok (.ldc2_w 29, 3) := by decide +kernel
theorem d40_120 : decode method_2_code 120 = .ok (.lcmp, 1) := by decide +kernel
theorem d40_121 : decode method_2_code 121 = .ok (.ifCond .ge 6, 3) := by decide +kernel
theorem d40_124 : decode method_2_code 124 = .ok (.bipush 12, 2) := by decide +kernel
theorem d40_126 : decode method_2_code 126 = .ok (.ireturn, 1) := by decide +kernel
theorem d40_127 : decode method_2_code 127 = .ok (.lload_n 0, 1) := by decide +kernel
theorem d40_128 : decode method_2_code 128 = .ok (.ldc2_w 31, 3) := by decide +kernel
theorem d40_131 : decode method_2_code 131 = .ok (.lcmp, 1) := by decide +kernel
theorem d40_132 : decode method_2_code 132 = .ok (.ifCond .ge 6, 3) := by decide +kernel
theorem d40_135 : decode method_2_code 135 = .ok (.bipush 13, 2) := by decide +kernel
theorem d40_137 : decode method_2_code 137 = .ok (.ireturn, 1) := by decide +kernel
theorem d40_138 : decode method_2_code 138 = .ok (.lload_n 0, 1) := by decide +kernel
theorem d40_139 : decode method_2_code 139 = .ok (.ldc2_w 33, 3) := by decide +kernel
theorem d40_142 : decode method_2_code 142 = .ok (.lcmp, 1) := by decide +kernel
theorem d40_143 : decode method_2_code 143 = .ok (.ifCond .ge 6, 3) := by decide +kernel
theorem d40_146 : decode method_2_code 146 = .ok (.bipush 14, 2) := by decide +kernel
theorem d40_148 : decode method_2_code 148 = .ok (.ireturn, 1) := by decide +kernel
theorem d40_149 : decode method_2_code 149 = .ok (.lload_n 0, 1) := by decide +kernel
theorem d40_150 : decode method_2_code 150 = .ok (.ldc2_w 35, 3) := by decide +kernel
theorem d40_153 : decode method_2_code 153 = .ok (.lcmp, 1) := by decide +kernel
theorem d40_154 : decode method_2_code 154 = .ok (.ifCond .ge 6, 3) := by decide +kernel
theorem d40_157 : decode method_2_code 157 = .ok (.bipush 15, 2) := by decide +kernel
theorem d40_159 : decode method_2_code 159 = .ok (.ireturn, 1) := by decide +kernel
theorem d40_160 : decode method_2_code 160 = .ok (.lload_n 0, 1) := by decide +kernel
theorem d40_161 : decode method_2_code 161 = .ok (.ldc2_w 37, 3) := by decide +kernel
theorem d40_164 : decode method_2_code 164 = .ok (.lcmp, 1) := by decide +kernel
theorem d40_165 : decode method_2_code 165 = .ok (.ifCond .ge 6, 3) := by decide +kernel
theorem d40_168 : decode method_2_code 168 = .ok (.bipush 16, 2) := by decide +kernel
theorem d40_170 : decode method_2_code 170 = .ok (.ireturn, 1) := by decide +kernel
theorem d40_171 : decode method_2_code 171 = .ok (.lload_n 0, 1) := by decide +kernel
theorem d40_172 : decode method_2_code 172 = .ok (.ldc2_w 39, 3) := by decide +kernel
theorem d40_175 : decode method_2_code 175 = .ok (.lcmp, 1) := by decide +kernel
theorem d40_176 : decode method_2_code 176 = .ok (.ifCond .ge 6, 3) := by decide +kernel
theorem d40_179 : decode method_2_code 179 = .ok (.bipush 17, 2) := by decide +kernel
theorem d40_181 : decode method_2_code 181 = .ok (.ireturn, 1) := by decide +kernel
theorem d40_182 : decode method_2_code 182 = .ok (.lload_n 0, 1) := by decide +kernel
theorem d40_183 : decode method_2_code 183 = .ok (.ldc2_w 41, 3) := by decide +kernel
theorem d40_186 : decode method_2_code 186 = .ok (.lcmp, 1) := by decide +kernel
theorem d40_187 : decode method_2_code 187 = .ok (.ifCond .ge 6, 3) := by decide +kernel
theorem d40_190 : decode method_2_code 190 = .ok (.bipush 18, 2) := by decide +kernel
theorem d40_192 : decode method_2_code 192 = .ok (.ireturn, 1) := by decide +kernel
theorem d40_193 : decode method_2_code 193 = .ok (.bipush 19, 2) := by decide +kernel
theorem d40_195 : decode method_2_code 195 = .ok (.ireturn, 1) := by decide +kernel
theorem pn_40 : plainName "com/example/tollplan/tollplan/CommandExceptionOutOfMemoryPinLaw" = true := by first | (simp [plainName, overriddenIn]; done) | decide +kernel
theorem ef_dDg (m : MethodId) (x0 : Int64) : entryFrame m #[(.long x0)] 2 = mkF m 0 #[.val (.long x0), .second] [] := by first | (simp [entryFrame, mkF, argsToLocals, Value.category]; done) | rfl
set_option maxRecDepth 65536 in
set_option maxHeartbeats 40000000 in
theorem dDg (l : Launch) (Z : State) (a0 : Array Value) (hw : ∀ d ∈ tables_1, d.before a0 Z = true) (ws : List Jvm.Cond) (q0 : Int64) (n d : Nat) (hq : q0.toInt = n) (hd1 : n < 10 ^ d) (hd2 : d = 1 ∨ 10 ^ (d - 1) ≤ n) (hd : 1 ≤ d) (hn63 : n < 10 ^ 19) (h0 : Heap) (n0 : Nat) (Z0 : n0 ≤ h0.size) :
    MetFree l (⟨"com/example/tollplan/tollplan/CommandExceptionOutOfMemoryPinLaw", "digits", "(J)I"⟩ : MethodName) (head1 (Jvm.Cond.code (⟨"com/example/tollplan/tollplan/CommandExceptionOutOfMemoryPinLaw", "digits", "(J)I"⟩ : MethodName) method_2_code 2 (some .int) :: ws) ({ frames := 0, cells := 0, slots := 0, locals := 0 } : Room)) (fun a U => a = #[(.long q0)] ∧ Z.Warmed39 U.vm ∧ U.heap = h0) (fun _ _ _ _ _ => True) (fun _ U o U' => ∃ v L, o = .returned v ∧ QR (.int (Int32.ofNat d)) h0 n0 v U'.heap L ∧ FrameEnd U o U' L ({ frames := 0, cells := 0, slots := 0, locals := 0 } : Room).cells ({ frames := 0, cells := 0, slots := 0, locals := 0 } : Room).slots) := by
  refine MetFree.of_bodySF (plainFor_of_name pn_40) hisR ?_
  intro p e s m args below meth c s₁ Bd hml0 hP hK
  obtain ⟨rfl, hZ, hh⟩ := hP
  have hx := Bd.exec
  have hby := Bd.bytes
  have hml : c.maxLocals = 2 := hml0
  have hown : s.vm.findClass "com/example/tollplan/tollplan/CommandExceptionOutOfMemoryPinLaw" = some m.cls := findClass_of_methodNamed Bd.named
  have hnm := (name_of_methodNamed Bd.named Bd.method).1
  have X0 : Stand p l e ({ frames := 0, cells := 0, slots := 0, locals := 0 } : Room) s m #[(.long q0)] below meth c s₁ [] 0 0 := Stand.of_body Bd
  have e0 : s₁.heap = h0 := by rw [← hh, Bd.state]; rfl
  have N0 := Fr.nil n0
  have pre0 : ∀ t, Steps p.tables e below (s₁.setTop (mkF m 0 #[vJ q0, zS] [])) t → Steps p.tables e below (s₁.setTop (entryFrame m #[(.long q0)] 2)) t := fun t k => castTop (ef_dDg m q0) k
  have pre1 : ∀ t, Steps p.tables e below (s₁.setTop (mkF m 5 #[vJ q0, zS] [(.int (lcmpW q0 (10 : Int64)))])) t → Steps p.tables e below (s₁.setTop (entryFrame m #[(.long q0)] 2)) t := by
    intro t kt
    refine pre0 t ?_
    refine XS.lloadN X0.here hx rfl (hb hby d40_0) rfl ?_
    refine X0.ldc2Long hx hown (mvT hZ (wd hw 251 rfl)) (g := (mkF m 1 #[vJ q0, zS] [(.long q0)])) rfl (hb hby d40_1) _ ?_
    refine XS.lcmp X0.here hx rfl (hb hby d40_4) rfl ?_
    exact kt
  by_cases hc2 : (lcmpW q0 (10 : Int64)) < (0 : Int32)
  · skip
    have hc2' : n < 10 := by have c := c_lcmp q0 (10 : Int64); have e : (10 : Int64).toInt = 10 := rfl; rw [Int32.lt_iff_toInt_lt] at hc2; have e0 : (0 : Int32).toInt = 0 := rfl; omega
    obtain ⟨fs, hr, hrun, hended, hW, hsame⟩ := X0.leave (v := some (.int (1 : Int32))) (fun h => by rw [Bd.returns] at h; cases h)
    refine ⟨_, _, pre1 _ ?_, hrun, hended, _, _, rfl, ?_, ⟨_, rfl⟩, hW, hsame.mono (by decide) (by decide)⟩
    · skip
      show Steps p.tables e below (s₁.setTop (mkF m 5 #[vJ q0, zS] [(.int (lcmpW q0 (10 : Int64)))])) _
      refine XS.ifNo X0.here hx rfl (hb hby d40_5) rfl ((if0 _ _).trans (tlt hc2).2.1) ?_
      refine XS.iconst X0.here hx rfl (hb hby d40_8) ?_
      show Steps p.tables e below (s₁.setTop (mkF m 9 #[vJ q0, zS] [(.int (1 : Int32))])) _
      exact retI X0 hx Bd.returns (hb hby d40_9) hr
    · show QR (.int (Int32.ofNat d)) h0 n0 _ s₁.heap _
      rw [e0]
      exact ⟨(by rw [show d = 1 from own_digU hd1 hd2 hd (by decide) (Nat.lt_of_lt_of_le (show n < 10 by omega) (by decide)) (Or.inl rfl)]; rfl), N0, rfl⟩
  · skip
    have hc2' : 10 ≤ n := by have c := c_lcmp q0 (10 : Int64); have e : (10 : Int64).toInt = 10 := rfl; rw [Int32.lt_iff_toInt_lt] at hc2; have e0 : (0 : Int32).toInt = 0 := rfl; omega
    have pre3 : ∀ t, Steps p.tables e below (s₁.setTop (mkF m 15 #[vJ q0, zS] [(.int (lcmpW q0 (100 : Int64)))])) t → Steps p.tables e below (s₁.setTop (entryFrame m #[(.long q0)] 2)) t := by
      intro t kt
      refine pre1 t ?_
      refine XS.ifYes X0.here hx rfl (pc0 := 5) (pc' := 10) rfl (hb hby d40_5) rfl ((if0 _ _).trans (flt hc2).2.1) (by decide) (by decide) ?_
      refine XS.lloadN X0.here hx rfl (hb hby d40_10) rfl ?_
      show Steps p.tables e below (s₁.setTop (mkF m 11 #[vJ q0, zS] [(.long q0)])) _
      refine X0.ldc2Long hx hown (mvT hZ (wd hw 253 rfl)) (g := (mkF m 11 #[vJ q0, zS] [(.long q0)])) rfl (hb hby d40_11) _ ?_
      refine XS.lcmp X0.here hx rfl (hb hby d40_14) rfl ?_
      exact kt
    by_cases hc4 : (lcmpW q0 (100 : Int64)) < (0 : Int32)
    · skip
      have hc4' : n < 100 := by have c := c_lcmp q0 (100 : Int64); have e : (100 : Int64).toInt = 100 := rfl; rw [Int32.lt_iff_toInt_lt] at hc4; have e0 : (0 : Int32).toInt = 0 := rfl; omega
      obtain ⟨fs, hr, hrun, hended, hW, hsame⟩ := X0.leave (v := some (.int (2 : Int32))) (fun h => by rw [Bd.returns] at h; cases h)
      refine ⟨_, _, pre3 _ ?_, hrun, hended, _, _, rfl, ?_, ⟨_, rfl⟩, hW, hsame.mono (by decide) (by decide)⟩
      · skip
        refine XS.ifNo X0.here hx rfl (hb hby d40_15) rfl ((if0 _ _).trans (tlt hc4).2.1) ?_
        refine XS.iconst X0.here hx rfl (hb hby d40_18) ?_
        show Steps p.tables e below (s₁.setTop (mkF m 19 #[vJ q0, zS] [(.int (2 : Int32))])) _
        exact retI X0 hx Bd.returns (hb hby d40_19) hr
      · show QR (.int (Int32.ofNat d)) h0 n0 _ s₁.heap _
        rw [e0]
        exact ⟨(by rw [show d = 2 from own_digU hd1 hd2 hd (by decide) (Nat.lt_of_lt_of_le (show n < 100 by omega) (by decide)) (Or.inr (Nat.le_trans (show 10 ^ 1 ≤ 10 by decide) (by omega)))]; rfl), N0, rfl⟩
    · skip
      have hc4' : 100 ≤ n := by have c := c_lcmp q0 (100 : Int64); have e : (100 : Int64).toInt = 100 := rfl; rw [Int32.lt_iff_toInt_lt] at hc4; have e0 : (0 : Int32).toInt = 0 := rfl; omega
      have pre5 : ∀ t, Steps p.tables e below (s₁.setTop (mkF m 25 #[vJ q0, zS] [(.int (lcmpW q0 (1000 : Int64)))])) t → Steps p.tables e below (s₁.setTop (entryFrame m #[(.long q0)] 2)) t := by
        intro t kt
        refine pre3 t ?_
        show Steps p.tables e below (s₁.setTop (mkF m 15 #[vJ q0, zS] [(.int (lcmpW q0 (100 : Int64)))])) _
        refine XS.ifYes X0.here hx rfl (pc0 := 15) (pc' := 20) rfl (hb hby d40_15) rfl ((if0 _ _).trans (flt hc4).2.1) (by decide) (by decide) ?_
        refine XS.lloadN X0.here hx rfl (hb hby d40_20) rfl ?_
        refine X0.ldc2Long hx hown (mvT hZ (wd hw 254 rfl)) (g := (mkF m 21 #[vJ q0, zS] [(.long q0)])) rfl (hb hby d40_21) _ ?_
        refine XS.lcmp X0.here hx rfl (hb hby d40_24) rfl ?_
        exact kt
      by_cases hc6 : (lcmpW q0 (1000 : Int64)) < (0 : Int32)
      · skip
        have hc6' : n < 1000 := by have c := c_lcmp q0 (1000 : Int64); have e : (1000 : Int64).toInt = 1000 := rfl; rw [Int32.lt_iff_toInt_lt] at hc6; have e0 : (0 : Int32).toInt = 0 := rfl; omega
        obtain ⟨fs, hr, hrun, hended, hW, hsame⟩ := X0.leave (v := some (.int (3 : Int32))) (fun h => by rw [Bd.returns] at h; cases h)
        refine ⟨_, _, pre5 _ ?_, hrun, hended, _, _, rfl, ?_, ⟨_, rfl⟩, hW, hsame.mono (by decide) (by decide)⟩
        · skip
          show Steps p.tables e below (s₁.setTop (mkF m 25 #[vJ q0, zS] [(.int (lcmpW q0 (1000 : Int64)))])) _
          refine XS.ifNo X0.here hx rfl (hb hby d40_25) rfl ((if0 _ _).trans (tlt hc6).2.1) ?_
          refine XS.iconst X0.here hx rfl (hb hby d40_28) ?_
          show Steps p.tables e below (s₁.setTop (mkF m 29 #[vJ q0, zS] [(.int (3 : Int32))])) _
          exact retI X0 hx Bd.returns (hb hby d40_29) hr
        · show QR (.int (Int32.ofNat d)) h0 n0 _ s₁.heap _
          rw [e0]
          exact ⟨(by rw [show d = 3 from own_digU hd1 hd2 hd (by decide) (Nat.lt_of_lt_of_le (show n < 1000 by omega) (by decide)) (Or.inr (Nat.le_trans (show 10 ^ 2 ≤ 100 by decide) (by omega)))]; rfl), N0, rfl⟩
      · skip
        have hc6' : 1000 ≤ n := by have c := c_lcmp q0 (1000 : Int64); have e : (1000 : Int64).toInt = 1000 := rfl; rw [Int32.lt_iff_toInt_lt] at hc6; have e0 : (0 : Int32).toInt = 0 := rfl; omega
        have pre7 : ∀ t, Steps p.tables e below (s₁.setTop (mkF m 35 #[vJ q0, zS] [(.int (lcmpW q0 (10000 : Int64)))])) t → Steps p.tables e below (s₁.setTop (entryFrame m #[(.long q0)] 2)) t := by
          intro t kt
          refine pre5 t ?_
          refine XS.ifYes X0.here hx rfl (pc0 := 25) (pc' := 30) rfl (hb hby d40_25) rfl ((if0 _ _).trans (flt hc6).2.1) (by decide) (by decide) ?_
          refine XS.lloadN X0.here hx rfl (hb hby d40_30) rfl ?_
          show Steps p.tables e below (s₁.setTop (mkF m 31 #[vJ q0, zS] [(.long q0)])) _
          refine X0.ldc2Long hx hown (mvT hZ (wd hw 255 rfl)) (g := (mkF m 31 #[vJ q0, zS] [(.long q0)])) rfl (hb hby d40_31) _ ?_
          refine XS.lcmp X0.here hx rfl (hb hby d40_34) rfl ?_
          exact kt
        by_cases hc8 : (lcmpW q0 (10000 : Int64)) < (0 : Int32)
        · skip
          have hc8' : n < 10000 := by have c := c_lcmp q0 (10000 : Int64); have e : (10000 : Int64).toInt = 10000 := rfl; rw [Int32.lt_iff_toInt_lt] at hc8; have e0 : (0 : Int32).toInt = 0 := rfl; omega
          obtain ⟨fs, hr, hrun, hended, hW, hsame⟩ := X0.leave (v := some (.int (4 : Int32))) (fun h => by rw [Bd.returns] at h; cases h)
          refine ⟨_, _, pre7 _ ?_, hrun, hended, _, _, rfl, ?_, ⟨_, rfl⟩, hW, hsame.mono (by decide) (by decide)⟩
          · skip
            refine XS.ifNo X0.here hx rfl (hb hby d40_35) rfl ((if0 _ _).trans (tlt hc8).2.1) ?_
            refine XS.iconst X0.here hx rfl (hb hby d40_38) ?_
            show Steps p.tables e below (s₁.setTop (mkF m 39 #[vJ q0, zS] [(.int (4 : Int32))])) _
            exact retI X0 hx Bd.returns (hb hby d40_39) hr
          · show QR (.int (Int32.ofNat d)) h0 n0 _ s₁.heap _
            rw [e0]
            exact ⟨(by rw [show d = 4 from own_digU hd1 hd2 hd (by decide) (Nat.lt_of_lt_of_le (show n < 10000 by omega) (by decide)) (Or.inr (Nat.le_trans (show 10 ^ 3 ≤ 1000 by decide) (by omega)))]; rfl), N0, rfl⟩
        · skip
          have hc8' : 10000 ≤ n := by have c := c_lcmp q0 (10000 : Int64); have e : (10000 : Int64).toInt = 10000 := rfl; rw [Int32.lt_iff_toInt_lt] at hc8; have e0 : (0 : Int32).toInt = 0 := rfl; omega
          have pre9 : ∀ t, Steps p.tables e below (s₁.setTop (mkF m 45 #[vJ q0, zS] [(.int (lcmpW q0 (100000 : Int64)))])) t → Steps p.tables e below (s₁.setTop (entryFrame m #[(.long q0)] 2)) t := by
            intro t kt
            refine pre7 t ?_
            show Steps p.tables e below (s₁.setTop (mkF m 35 #[vJ q0, zS] [(.int (lcmpW q0 (10000 : Int64)))])) _
            refine XS.ifYes X0.here hx rfl (pc0 := 35) (pc' := 40) rfl (hb hby d40_35) rfl ((if0 _ _).trans (flt hc8).2.1) (by decide) (by decide) ?_
            refine XS.lloadN X0.here hx rfl (hb hby d40_40) rfl ?_
            refine X0.ldc2Long hx hown (mvT hZ (wd hw 256 rfl)) (g := (mkF m 41 #[vJ q0, zS] [(.long q0)])) rfl (hb hby d40_41) _ ?_
            refine XS.lcmp X0.here hx rfl (hb hby d40_44) rfl ?_
            exact kt
          by_cases hc10 : (lcmpW q0 (100000 : Int64)) < (0 : Int32)
          · skip
            have hc10' : n < 100000 := by have c := c_lcmp q0 (100000 : Int64); have e : (100000 : Int64).toInt = 100000 := rfl; rw [Int32.lt_iff_toInt_lt] at hc10; have e0 : (0 : Int32).toInt = 0 := rfl; omega
            obtain ⟨fs, hr, hrun, hended, hW, hsame⟩ := X0.leave (v := some (.int (5 : Int32))) (fun h => by rw [Bd.returns] at h; cases h)
            refine ⟨_, _, pre9 _ ?_, hrun, hended, _, _, rfl, ?_, ⟨_, rfl⟩, hW, hsame.mono (by decide) (by decide)⟩
            · skip
              show Steps p.tables e below (s₁.setTop (mkF m 45 #[vJ q0, zS] [(.int (lcmpW q0 (100000 : Int64)))])) _
              refine XS.ifNo X0.here hx rfl (hb hby d40_45) rfl ((if0 _ _).trans (tlt hc10).2.1) ?_
              refine XS.iconst X0.here hx rfl (hb hby d40_48) ?_
              show Steps p.tables e below (s₁.setTop (mkF m 49 #[vJ q0, zS] [(.int (5 : Int32))])) _
              exact retI X0 hx Bd.returns (hb hby d40_49) hr
            · show QR (.int (Int32.ofNat d)) h0 n0 _ s₁.heap _
              rw [e0]
              exact ⟨(by rw [show d = 5 from own_digU hd1 hd2 hd (by decide) (Nat.lt_of_lt_of_le (show n < 100000 by omega) (by decide)) (Or.inr (Nat.le_trans (show 10 ^ 4 ≤ 10000 by decide) (by omega)))]; rfl), N0, rfl⟩
          · skip
            have hc10' : 100000 ≤ n := by have c := c_lcmp q0 (100000 : Int64); have e : (100000 : Int64).toInt = 100000 := rfl; rw [Int32.lt_iff_toInt_lt] at hc10; have e0 : (0 : Int32).toInt = 0 := rfl; omega
            have pre11 : ∀ t, Steps p.tables e below (s₁.setTop (mkF m 55 #[vJ q0, zS] [(.int (lcmpW q0 (1000000 : Int64)))])) t → Steps p.tables e below (s₁.setTop (entryFrame m #[(.long q0)] 2)) t := by
              intro t kt
              refine pre9 t ?_
              refine XS.ifYes X0.here hx rfl (pc0 := 45) (pc' := 50) rfl (hb hby d40_45) rfl ((if0 _ _).trans (flt hc10).2.1) (by decide) (by decide) ?_
              refine XS.lloadN X0.here hx rfl (hb hby d40_50) rfl ?_
              show Steps p.tables e below (s₁.setTop (mkF m 51 #[vJ q0, zS] [(.long q0)])) _
              refine X0.ldc2Long hx hown (mvT hZ (wd hw 257 rfl)) (g := (mkF m 51 #[vJ q0, zS] [(.long q0)])) rfl (hb hby d40_51) _ ?_
              refine XS.lcmp X0.here hx rfl (hb hby d40_54) rfl ?_
              exact kt
            by_cases hc12 : (lcmpW q0 (1000000 : Int64)) < (0 : Int32)
            · skip
              have hc12' : n < 1000000 := by have c := c_lcmp q0 (1000000 : Int64); have e : (1000000 : Int64).toInt = 1000000 := rfl; rw [Int32.lt_iff_toInt_lt] at hc12; have e0 : (0 : Int32).toInt = 0 := rfl; omega
              obtain ⟨fs, hr, hrun, hended, hW, hsame⟩ := X0.leave (v := some (.int (6 : Int32))) (fun h => by rw [Bd.returns] at h; cases h)
              refine ⟨_, _, pre11 _ ?_, hrun, hended, _, _, rfl, ?_, ⟨_, rfl⟩, hW, hsame.mono (by decide) (by decide)⟩
              · skip
                refine XS.ifNo X0.here hx rfl (hb hby d40_55) rfl ((if0 _ _).trans (tlt hc12).2.1) ?_
                refine XS.bipush X0.here hx rfl (hb hby d40_58) ?_
                show Steps p.tables e below (s₁.setTop (mkF m 60 #[vJ q0, zS] [(.int (6 : Int32))])) _
                exact retI X0 hx Bd.returns (hb hby d40_60) hr
              · show QR (.int (Int32.ofNat d)) h0 n0 _ s₁.heap _
                rw [e0]
                exact ⟨(by rw [show d = 6 from own_digU hd1 hd2 hd (by decide) (Nat.lt_of_lt_of_le (show n < 1000000 by omega) (by decide)) (Or.inr (Nat.le_trans (show 10 ^ 5 ≤ 100000 by decide) (by omega)))]; rfl), N0, rfl⟩
            · skip
              have hc12' : 1000000 ≤ n := by have c := c_lcmp q0 (1000000 : Int64); have e : (1000000 : Int64).toInt = 1000000 := rfl; rw [Int32.lt_iff_toInt_lt] at hc12; have e0 : (0 : Int32).toInt = 0 := rfl; omega
              have pre13 : ∀ t, Steps p.tables e below (s₁.setTop (mkF m 66 #[vJ q0, zS] [(.int (lcmpW q0 (10000000 : Int64)))])) t → Steps p.tables e below (s₁.setTop (entryFrame m #[(.long q0)] 2)) t := by
                intro t kt
                refine pre11 t ?_
                show Steps p.tables e below (s₁.setTop (mkF m 55 #[vJ q0, zS] [(.int (lcmpW q0 (1000000 : Int64)))])) _
                refine XS.ifYes X0.here hx rfl (pc0 := 55) (pc' := 61) rfl (hb hby d40_55) rfl ((if0 _ _).trans (flt hc12).2.1) (by decide) (by decide) ?_
                refine XS.lloadN X0.here hx rfl (hb hby d40_61) rfl ?_
                refine X0.ldc2Long hx hown (mvT hZ (wd hw 258 rfl)) (g := (mkF m 62 #[vJ q0, zS] [(.long q0)])) rfl (hb hby d40_62) _ ?_
                refine XS.lcmp X0.here hx rfl (hb hby d40_65) rfl ?_
                exact kt
              by_cases hc14 : (lcmpW q0 (10000000 : Int64)) < (0 : Int32)
              · skip
                have hc14' : n < 10000000 := by have c := c_lcmp q0 (10000000 : Int64); have e : (10000000 : Int64).toInt = 10000000 := rfl; rw [Int32.lt_iff_toInt_lt] at hc14; have e0 : (0 : Int32).toInt = 0 := rfl; omega
                obtain ⟨fs, hr, hrun, hended, hW, hsame⟩ := X0.leave (v := some (.int (7 : Int32))) (fun h => by rw [Bd.returns] at h; cases h)
                refine ⟨_, _, pre13 _ ?_, hrun, hended, _, _, rfl, ?_, ⟨_, rfl⟩, hW, hsame.mono (by decide) (by decide)⟩
                · skip
                  show Steps p.tables e below (s₁.setTop (mkF m 66 #[vJ q0, zS] [(.int (lcmpW q0 (10000000 : Int64)))])) _
                  refine XS.ifNo X0.here hx rfl (hb hby d40_66) rfl ((if0 _ _).trans (tlt hc14).2.1) ?_
                  refine XS.bipush X0.here hx rfl (hb hby d40_69) ?_
                  show Steps p.tables e below (s₁.setTop (mkF m 71 #[vJ q0, zS] [(.int (7 : Int32))])) _
                  exact retI X0 hx Bd.returns (hb hby d40_71) hr
                · show QR (.int (Int32.ofNat d)) h0 n0 _ s₁.heap _
                  rw [e0]
                  exact ⟨(by rw [show d = 7 from own_digU hd1 hd2 hd (by decide) (Nat.lt_of_lt_of_le (show n < 10000000 by omega) (by decide)) (Or.inr (Nat.le_trans (show 10 ^ 6 ≤ 1000000 by decide) (by omega)))]; rfl), N0, rfl⟩
              · skip
                have hc14' : 10000000 ≤ n := by have c := c_lcmp q0 (10000000 : Int64); have e : (10000000 : Int64).toInt = 10000000 := rfl; rw [Int32.lt_iff_toInt_lt] at hc14; have e0 : (0 : Int32).toInt = 0 := rfl; omega
                have pre15 : ∀ t, Steps p.tables e below (s₁.setTop (mkF m 77 #[vJ q0, zS] [(.int (lcmpW q0 (100000000 : Int64)))])) t → Steps p.tables e below (s₁.setTop (entryFrame m #[(.long q0)] 2)) t := by
                  intro t kt
                  refine pre13 t ?_
                  refine XS.ifYes X0.here hx rfl (pc0 := 66) (pc' := 72) rfl (hb hby d40_66) rfl ((if0 _ _).trans (flt hc14).2.1) (by decide) (by decide) ?_
                  refine XS.lloadN X0.here hx rfl (hb hby d40_72) rfl ?_
                  show Steps p.tables e below (s₁.setTop (mkF m 73 #[vJ q0, zS] [(.long q0)])) _
                  refine X0.ldc2Long hx hown (mvT hZ (wd hw 259 rfl)) (g := (mkF m 73 #[vJ q0, zS] [(.long q0)])) rfl (hb hby d40_73) _ ?_
                  refine XS.lcmp X0.here hx rfl (hb hby d40_76) rfl ?_
                  exact kt
                by_cases hc16 : (lcmpW q0 (100000000 : Int64)) < (0 : Int32)
                · skip
                  have hc16' : n < 100000000 := by have c := c_lcmp q0 (100000000 : Int64); have e : (100000000 : Int64).toInt = 100000000 := rfl; rw [Int32.lt_iff_toInt_lt] at hc16; have e0 : (0 : Int32).toInt = 0 := rfl; omega
                  obtain ⟨fs, hr, hrun, hended, hW, hsame⟩ := X0.leave (v := some (.int (8 : Int32))) (fun h => by rw [Bd.returns] at h; cases h)
                  refine ⟨_, _, pre15 _ ?_, hrun, hended, _, _, rfl, ?_, ⟨_, rfl⟩, hW, hsame.mono (by decide) (by decide)⟩
                  · skip
                    refine XS.ifNo X0.here hx rfl (hb hby d40_77) rfl ((if0 _ _).trans (tlt hc16).2.1) ?_
                    refine XS.bipush X0.here hx rfl (hb hby d40_80) ?_
                    show Steps p.tables e below (s₁.setTop (mkF m 82 #[vJ q0, zS] [(.int (8 : Int32))])) _
                    exact retI X0 hx Bd.returns (hb hby d40_82) hr
                  · show QR (.int (Int32.ofNat d)) h0 n0 _ s₁.heap _
                    rw [e0]
                    exact ⟨(by rw [show d = 8 from own_digU hd1 hd2 hd (by decide) (Nat.lt_of_lt_of_le (show n < 100000000 by omega) (by decide)) (Or.inr (Nat.le_trans (show 10 ^ 7 ≤ 10000000 by decide) (by omega)))]; rfl), N0, rfl⟩
                · skip
                  have hc16' : 100000000 ≤ n := by have c := c_lcmp q0 (100000000 : Int64); have e : (100000000 : Int64).toInt = 100000000 := rfl; rw [Int32.lt_iff_toInt_lt] at hc16; have e0 : (0 : Int32).toInt = 0 := rfl; omega
                  have pre17 : ∀ t, Steps p.tables e below (s₁.setTop (mkF m 88 #[vJ q0, zS] [(.int (lcmpW q0 (1000000000 : Int64)))])) t → Steps p.tables e below (s₁.setTop (entryFrame m #[(.long q0)] 2)) t := by
                    intro t kt
                    refine pre15 t ?_
                    show Steps p.tables e below (s₁.setTop (mkF m 77 #[vJ q0, zS] [(.int (lcmpW q0 (100000000 : Int64)))])) _
                    refine XS.ifYes X0.here hx rfl (pc0 := 77) (pc' := 83) rfl (hb hby d40_77) rfl ((if0 _ _).trans (flt hc16).2.1) (by decide) (by decide) ?_
                    refine XS.lloadN X0.here hx rfl (hb hby d40_83) rfl ?_
                    refine X0.ldc2Long hx hown (mvT hZ (wd hw 260 rfl)) (g := (mkF m 84 #[vJ q0, zS] [(.long q0)])) rfl (hb hby d40_84) _ ?_
                    refine XS.lcmp X0.here hx rfl (hb hby d40_87) rfl ?_
                    exact kt
                  by_cases hc18 : (lcmpW q0 (1000000000 : Int64)) < (0 : Int32)
                  · skip
                    have hc18' : n < 1000000000 := by have c := c_lcmp q0 (1000000000 : Int64); have e : (1000000000 : Int64).toInt = 1000000000 := rfl; rw [Int32.lt_iff_toInt_lt] at hc18; have e0 : (0 : Int32).toInt = 0 := rfl; omega
                    obtain ⟨fs, hr, hrun, hended, hW, hsame⟩ := X0.leave (v := some (.int (9 : Int32))) (fun h => by rw [Bd.returns] at h; cases h)
                    refine ⟨_, _, pre17 _ ?_, hrun, hended, _, _, rfl, ?_, ⟨_, rfl⟩, hW, hsame.mono (by decide) (by decide)⟩
                    · skip
                      show Steps p.tables e below (s₁.setTop (mkF m 88 #[vJ q0, zS] [(.int (lcmpW q0 (1000000000 : Int64)))])) _
                      refine XS.ifNo X0.here hx rfl (hb hby d40_88) rfl ((if0 _ _).trans (tlt hc18).2.1) ?_
                      refine XS.bipush X0.here hx rfl (hb hby d40_91) ?_
                      show Steps p.tables e below (s₁.setTop (mkF m 93 #[vJ q0, zS] [(.int (9 : Int32))])) _
                      exact retI X0 hx Bd.returns (hb hby d40_93) hr
                    · show QR (.int (Int32.ofNat d)) h0 n0 _ s₁.heap _
                      rw [e0]
                      exact ⟨(by rw [show d = 9 from own_digU hd1 hd2 hd (by decide) (Nat.lt_of_lt_of_le (show n < 1000000000 by omega) (by decide)) (Or.inr (Nat.le_trans (show 10 ^ 8 ≤ 100000000 by decide) (by omega)))]; rfl), N0, rfl⟩
                  · skip
                    have hc18' : 1000000000 ≤ n := by have c := c_lcmp q0 (1000000000 : Int64); have e : (1000000000 : Int64).toInt = 1000000000 := rfl; rw [Int32.lt_iff_toInt_lt] at hc18; have e0 : (0 : Int32).toInt = 0 := rfl; omega
                    have pre19 : ∀ t, Steps p.tables e below (s₁.setTop (mkF m 99 #[vJ q0, zS] [(.int (lcmpW q0 (10000000000 : Int64)))])) t → Steps p.tables e below (s₁.setTop (entryFrame m #[(.long q0)] 2)) t := by
                      intro t kt
                      refine pre17 t ?_
                      refine XS.ifYes X0.here hx rfl (pc0 := 88) (pc' := 94) rfl (hb hby d40_88) rfl ((if0 _ _).trans (flt hc18).2.1) (by decide) (by decide) ?_
                      refine XS.lloadN X0.here hx rfl (hb hby d40_94) rfl ?_
                      show Steps p.tables e below (s₁.setTop (mkF m 95 #[vJ q0, zS] [(.long q0)])) _
                      refine X0.ldc2Long hx hown (mvT hZ (wd hw 261 rfl)) (g := (mkF m 95 #[vJ q0, zS] [(.long q0)])) rfl (hb hby d40_95) _ ?_
                      refine XS.lcmp X0.here hx rfl (hb hby d40_98) rfl ?_
                      exact kt
                    by_cases hc20 : (lcmpW q0 (10000000000 : Int64)) < (0 : Int32)
                    · skip
                      have hc20' : n < 10000000000 := by have c := c_lcmp q0 (10000000000 : Int64); have e : (10000000000 : Int64).toInt = 10000000000 := rfl; rw [Int32.lt_iff_toInt_lt] at hc20; have e0 : (0 : Int32).toInt = 0 := rfl; omega
                      obtain ⟨fs, hr, hrun, hended, hW, hsame⟩ := X0.leave (v := some (.int (10 : Int32))) (fun h => by rw [Bd.returns] at h; cases h)
                      refine ⟨_, _, pre19 _ ?_, hrun, hended, _, _, rfl, ?_, ⟨_, rfl⟩, hW, hsame.mono (by decide) (by decide)⟩
                      · skip
                        refine XS.ifNo X0.here hx rfl (hb hby d40_99) rfl ((if0 _ _).trans (tlt hc20).2.1) ?_
                        refine XS.bipush X0.here hx rfl (hb hby d40_102) ?_
                        show Steps p.tables e below (s₁.setTop (mkF m 104 #[vJ q0, zS] [(.int (10 : Int32))])) _
                        exact retI X0 hx Bd.returns (hb hby d40_104) hr
                      · show QR (.int (Int32.ofNat d)) h0 n0 _ s₁.heap _
                        rw [e0]
                        exact ⟨(by rw [show d = 10 from own_digU hd1 hd2 hd (by decide) (Nat.lt_of_lt_of_le (show n < 10000000000 by omega) (by decide)) (Or.inr (Nat.le_trans (show 10 ^ 9 ≤ 1000000000 by decide) (by omega)))]; rfl), N0, rfl⟩
                    · skip
                      have hc20' : 10000000000 ≤ n := by have c := c_lcmp q0 (10000000000 : Int64); have e : (10000000000 : Int64).toInt = 10000000000 := rfl; rw [Int32.lt_iff_toInt_lt] at hc20; have e0 : (0 : Int32).toInt = 0 := rfl; omega
                      have pre21 : ∀ t, Steps p.tables e below (s₁.setTop (mkF m 110 #[vJ q0, zS] [(.int (lcmpW q0 (100000000000 : Int64)))])) t → Steps p.tables e below (s₁.setTop (entryFrame m #[(.long q0)] 2)) t := by
                        intro t kt
                        refine pre19 t ?_
                        show Steps p.tables e below (s₁.setTop (mkF m 99 #[vJ q0, zS] [(.int (lcmpW q0 (10000000000 : Int64)))])) _
                        refine XS.ifYes X0.here hx rfl (pc0 := 99) (pc' := 105) rfl (hb hby d40_99) rfl ((if0 _ _).trans (flt hc20).2.1) (by decide) (by decide) ?_
                        refine XS.lloadN X0.here hx rfl (hb hby d40_105) rfl ?_
                        refine X0.ldc2Long hx hown (mvT hZ (wd hw 262 rfl)) (g := (mkF m 106 #[vJ q0, zS] [(.long q0)])) rfl (hb hby d40_106) _ ?_
                        refine XS.lcmp X0.here hx rfl (hb hby d40_109) rfl ?_
                        exact kt
                      by_cases hc22 : (lcmpW q0 (100000000000 : Int64)) < (0 : Int32)
                      · skip
                        have hc22' : n < 100000000000 := by have c := c_lcmp q0 (100000000000 : Int64); have e : (100000000000 : Int64).toInt = 100000000000 := rfl; rw [Int32.lt_iff_toInt_lt] at hc22; have e0 : (0 : Int32).toInt = 0 := rfl; omega
                        obtain ⟨fs, hr, hrun, hended, hW, hsame⟩ := X0.leave (v := some (.int (11 : Int32))) (fun h => by rw [Bd.returns] at h; cases h)
                        refine ⟨_, _, pre21 _ ?_, hrun, hended, _, _, rfl, ?_, ⟨_, rfl⟩, hW, hsame.mono (by decide) (by decide)⟩
                        · skip
                          show Steps p.tables e below (s₁.setTop (mkF m 110 #[vJ q0, zS] [(.int (lcmpW q0 (100000000000 : Int64)))])) _
                          refine XS.ifNo X0.here hx rfl (hb hby d40_110) rfl ((if0 _ _).trans (tlt hc22).2.1) ?_
                          refine XS.bipush X0.here hx rfl (hb hby d40_113) ?_
                          show Steps p.tables e below (s₁.setTop (mkF m 115 #[vJ q0, zS] [(.int (11 : Int32))])) _
                          exact retI X0 hx Bd.returns (hb hby d40_115) hr
                        · show QR (.int (Int32.ofNat d)) h0 n0 _ s₁.heap _
                          rw [e0]
                          exact ⟨(by rw [show d = 11 from own_digU hd1 hd2 hd (by decide) (Nat.lt_of_lt_of_le (show n < 100000000000 by omega) (by decide)) (Or.inr (Nat.le_trans (show 10 ^ 10 ≤ 10000000000 by decide) (by omega)))]; rfl), N0, rfl⟩
                      · skip
                        have hc22' : 100000000000 ≤ n := by have c := c_lcmp q0 (100000000000 : Int64); have e : (100000000000 : Int64).toInt = 100000000000 := rfl; rw [Int32.lt_iff_toInt_lt] at hc22; have e0 : (0 : Int32).toInt = 0 := rfl; omega
                        have pre23 : ∀ t, Steps p.tables e below (s₁.setTop (mkF m 121 #[vJ q0, zS] [(.int (lcmpW q0 (1000000000000 : Int64)))])) t → Steps p.tables e below (s₁.setTop (entryFrame m #[(.long q0)] 2)) t := by
                          intro t kt
                          refine pre21 t ?_
                          refine XS.ifYes X0.here hx rfl (pc0 := 110) (pc' := 116) rfl (hb hby d40_110) rfl ((if0 _ _).trans (flt hc22).2.1) (by decide) (by decide) ?_
                          refine XS.lloadN X0.here hx rfl (hb hby d40_116) rfl ?_
                          show Steps p.tables e below (s₁.setTop (mkF m 117 #[vJ q0, zS] [(.long q0)])) _
                          refine X0.ldc2Long hx hown (mvT hZ (wd hw 263 rfl)) (g := (mkF m 117 #[vJ q0, zS] [(.long q0)])) rfl (hb hby d40_117) _ ?_
                          refine XS.lcmp X0.here hx rfl (hb hby d40_120) rfl ?_
                          exact kt
                        by_cases hc24 : (lcmpW q0 (1000000000000 : Int64)) < (0 : Int32)
                        · skip
                          have hc24' : n < 1000000000000 := by have c := c_lcmp q0 (1000000000000 : Int64); have e : (1000000000000 : Int64).toInt = 1000000000000 := rfl; rw [Int32.lt_iff_toInt_lt] at hc24; have e0 : (0 : Int32).toInt = 0 := rfl; omega
                          obtain ⟨fs, hr, hrun, hended, hW, hsame⟩ := X0.leave (v := some (.int (12 : Int32))) (fun h => by rw [Bd.returns] at h; cases h)
                          refine ⟨_, _, pre23 _ ?_, hrun, hended, _, _, rfl, ?_, ⟨_, rfl⟩, hW, hsame.mono (by decide) (by decide)⟩
                          · skip
                            refine XS.ifNo X0.here hx rfl (hb hby d40_121) rfl ((if0 _ _).trans (tlt hc24).2.1) ?_
                            refine XS.bipush X0.here hx rfl (hb hby d40_124) ?_
                            show Steps p.tables e below (s₁.setTop (mkF m 126 #[vJ q0, zS] [(.int (12 : Int32))])) _
                            exact retI X0 hx Bd.returns (hb hby d40_126) hr
                          · show QR (.int (Int32.ofNat d)) h0 n0 _ s₁.heap _
                            rw [e0]
                            exact ⟨(by rw [show d = 12 from own_digU hd1 hd2 hd (by decide) (Nat.lt_of_lt_of_le (show n < 1000000000000 by omega) (by decide)) (Or.inr (Nat.le_trans (show 10 ^ 11 ≤ 100000000000 by decide) (by omega)))]; rfl), N0, rfl⟩
                        · skip
                          have hc24' : 1000000000000 ≤ n := by have c := c_lcmp q0 (1000000000000 : Int64); have e : (1000000000000 : Int64).toInt = 1000000000000 := rfl; rw [Int32.lt_iff_toInt_lt] at hc24; have e0 : (0 : Int32).toInt = 0 := rfl; omega
                          have pre25 : ∀ t, Steps p.tables e below (s₁.setTop (mkF m 132 #[vJ q0, zS] [(.int (lcmpW q0 (10000000000000 : Int64)))])) t → Steps p.tables e below (s₁.setTop (entryFrame m #[(.long q0)] 2)) t := by
                            intro t kt
                            refine pre23 t ?_
                            show Steps p.tables e below (s₁.setTop (mkF m 121 #[vJ q0, zS] [(.int (lcmpW q0 (1000000000000 : Int64)))])) _
                            refine XS.ifYes X0.here hx rfl (pc0 := 121) (pc' := 127) rfl (hb hby d40_121) rfl ((if0 _ _).trans (flt hc24).2.1) (by decide) (by decide) ?_
                            refine XS.lloadN X0.here hx rfl (hb hby d40_127) rfl ?_
                            refine X0.ldc2Long hx hown (mvT hZ (wd hw 264 rfl)) (g := (mkF m 128 #[vJ q0, zS] [(.long q0)])) rfl (hb hby d40_128) _ ?_
                            refine XS.lcmp X0.here hx rfl (hb hby d40_131) rfl ?_
                            exact kt
                          by_cases hc26 : (lcmpW q0 (10000000000000 : Int64)) < (0 : Int32)
                          · skip
                            have hc26' : n < 10000000000000 := by have c := c_lcmp q0 (10000000000000 : Int64); have e : (10000000000000 : Int64).toInt = 10000000000000 := rfl; rw [Int32.lt_iff_toInt_lt] at hc26; have e0 : (0 : Int32).toInt = 0 := rfl; omega
                            obtain ⟨fs, hr, hrun, hended, hW, hsame⟩ := X0.leave (v := some (.int (13 : Int32))) (fun h => by rw [Bd.returns] at h; cases h)
                            refine ⟨_, _, pre25 _ ?_, hrun, hended, _, _, rfl, ?_, ⟨_, rfl⟩, hW, hsame.mono (by decide) (by decide)⟩
                            · skip
                              show Steps p.tables e below (s₁.setTop (mkF m 132 #[vJ q0, zS] [(.int (lcmpW q0 (10000000000000 : Int64)))])) _
                              refine XS.ifNo X0.here hx rfl (hb hby d40_132) rfl ((if0 _ _).trans (tlt hc26).2.1) ?_
                              refine XS.bipush X0.here hx rfl (hb hby d40_135) ?_
                              show Steps p.tables e below (s₁.setTop (mkF m 137 #[vJ q0, zS] [(.int (13 : Int32))])) _
                              exact retI X0 hx Bd.returns (hb hby d40_137) hr
                            · show QR (.int (Int32.ofNat d)) h0 n0 _ s₁.heap _
                              rw [e0]
                              exact ⟨(by rw [show d = 13 from own_digU hd1 hd2 hd (by decide) (Nat.lt_of_lt_of_le (show n < 10000000000000 by omega) (by decide)) (Or.inr (Nat.le_trans (show 10 ^ 12 ≤ 1000000000000 by decide) (by omega)))]; rfl), N0, rfl⟩
                          · skip
                            have hc26' : 10000000000000 ≤ n := by have c := c_lcmp q0 (10000000000000 : Int64); have e : (10000000000000 : Int64).toInt = 10000000000000 := rfl; rw [Int32.lt_iff_toInt_lt] at hc26; have e0 : (0 : Int32).toInt = 0 := rfl; omega
                            have pre27 : ∀ t, Steps p.tables e below (s₁.setTop (mkF m 143 #[vJ q0, zS] [(.int (lcmpW q0 (100000000000000 : Int64)))])) t → Steps p.tables e below (s₁.setTop (entryFrame m #[(.long q0)] 2)) t := by
                              intro t kt
                              refine pre25 t ?_
                              refine XS.ifYes X0.here hx rfl (pc0 := 132) (pc' := 138) rfl (hb hby d40_132) rfl ((if0 _ _).trans (flt hc26).2.1) (by decide) (by decide) ?_
                              refine XS.lloadN X0.here hx rfl (hb hby d40_138) rfl ?_
                              show Steps p.tables e below (s₁.setTop (mkF m 139 #[vJ q0, zS] [(.long q0)])) _
                              refine X0.ldc2Long hx hown (mvT hZ (wd hw 265 rfl)) (g := (mkF m 139 #[vJ q0, zS] [(.long q0)])) rfl (hb hby d40_139) _ ?_
                              refine XS.lcmp X0.here hx rfl (hb hby d40_142) rfl ?_
                              exact kt
                            by_cases hc28 : (lcmpW q0 (100000000000000 : Int64)) < (0 : Int32)
                            · skip
                              have hc28' : n < 100000000000000 := by have c := c_lcmp q0 (100000000000000 : Int64); have e : (100000000000000 : Int64).toInt = 100000000000000 := rfl; rw [Int32.lt_iff_toInt_lt] at hc28; have e0 : (0 : Int32).toInt = 0 := rfl; omega
                              obtain ⟨fs, hr, hrun, hended, hW, hsame⟩ := X0.leave (v := some (.int (14 : Int32))) (fun h => by rw [Bd.returns] at h; cases h)
                              refine ⟨_, _, pre27 _ ?_, hrun, hended, _, _, rfl, ?_, ⟨_, rfl⟩, hW, hsame.mono (by decide) (by decide)⟩
                              · skip
                                refine XS.ifNo X0.here hx rfl (hb hby d40_143) rfl ((if0 _ _).trans (tlt hc28).2.1) ?_
                                refine XS.bipush X0.here hx rfl (hb hby d40_146) ?_
                                show Steps p.tables e below (s₁.setTop (mkF m 148 #[vJ q0, zS] [(.int (14 : Int32))])) _
                                exact retI X0 hx Bd.returns (hb hby d40_148) hr
                              · show QR (.int (Int32.ofNat d)) h0 n0 _ s₁.heap _
                                rw [e0]
                                exact ⟨(by rw [show d = 14 from own_digU hd1 hd2 hd (by decide) (Nat.lt_of_lt_of_le (show n < 100000000000000 by omega) (by decide)) (Or.inr (Nat.le_trans (show 10 ^ 13 ≤ 10000000000000 by decide) (by omega)))]; rfl), N0, rfl⟩
                            · skip
                              have hc28' : 100000000000000 ≤ n := by have c := c_lcmp q0 (100000000000000 : Int64); have e : (100000000000000 : Int64).toInt = 100000000000000 := rfl; rw [Int32.lt_iff_toInt_lt] at hc28; have e0 : (0 : Int32).toInt = 0 := rfl; omega
                              have pre29 : ∀ t, Steps p.tables e below (s₁.setTop (mkF m 154 #[vJ q0, zS] [(.int (lcmpW q0 (1000000000000000 : Int64)))])) t → Steps p.tables e below (s₁.setTop (entryFrame m #[(.long q0)] 2)) t := by
                                intro t kt
                                refine pre27 t ?_
                                show Steps p.tables e below (s₁.setTop (mkF m 143 #[vJ q0, zS] [(.int (lcmpW q0 (100000000000000 : Int64)))])) _
                                refine XS.ifYes X0.here hx rfl (pc0 := 143) (pc' := 149) rfl (hb hby d40_143) rfl ((if0 _ _).trans (flt hc28).2.1) (by decide) (by decide) ?_
                                refine XS.lloadN X0.here hx rfl (hb hby d40_149) rfl ?_
                                refine X0.ldc2Long hx hown (mvT hZ (wd hw 266 rfl)) (g := (mkF m 150 #[vJ q0, zS] [(.long q0)])) rfl (hb hby d40_150) _ ?_
                                refine XS.lcmp X0.here hx rfl (hb hby d40_153) rfl ?_
                                exact kt
                              by_cases hc30 : (lcmpW q0 (1000000000000000 : Int64)) < (0 : Int32)
                              · skip
                                have hc30' : n < 1000000000000000 := by have c := c_lcmp q0 (1000000000000000 : Int64); have e : (1000000000000000 : Int64).toInt = 1000000000000000 := rfl; rw [Int32.lt_iff_toInt_lt] at hc30; have e0 : (0 : Int32).toInt = 0 := rfl; omega
                                obtain ⟨fs, hr, hrun, hended, hW, hsame⟩ := X0.leave (v := some (.int (15 : Int32))) (fun h => by rw [Bd.returns] at h; cases h)
                                refine ⟨_, _, pre29 _ ?_, hrun, hended, _, _, rfl, ?_, ⟨_, rfl⟩, hW, hsame.mono (by decide) (by decide)⟩
                                · skip
                                  show Steps p.tables e below (s₁.setTop (mkF m 154 #[vJ q0, zS] [(.int (lcmpW q0 (1000000000000000 : Int64)))])) _
                                  refine XS.ifNo X0.here hx rfl (hb hby d40_154) rfl ((if0 _ _).trans (tlt hc30).2.1) ?_
                                  refine XS.bipush X0.here hx rfl (hb hby d40_157) ?_
                                  show Steps p.tables e below (s₁.setTop (mkF m 159 #[vJ q0, zS] [(.int (15 : Int32))])) _
                                  exact retI X0 hx Bd.returns (hb hby d40_159) hr
                                · show QR (.int (Int32.ofNat d)) h0 n0 _ s₁.heap _
                                  rw [e0]
                                  exact ⟨(by rw [show d = 15 from own_digU hd1 hd2 hd (by decide) (Nat.lt_of_lt_of_le (show n < 1000000000000000 by omega) (by decide)) (Or.inr (Nat.le_trans (show 10 ^ 14 ≤ 100000000000000 by decide) (by omega)))]; rfl), N0, rfl⟩
                              · skip
                                have hc30' : 1000000000000000 ≤ n := by have c := c_lcmp q0 (1000000000000000 : Int64); have e : (1000000000000000 : Int64).toInt = 1000000000000000 := rfl; rw [Int32.lt_iff_toInt_lt] at hc30; have e0 : (0 : Int32).toInt = 0 := rfl; omega
                                have pre31 : ∀ t, Steps p.tables e below (s₁.setTop (mkF m 165 #[vJ q0, zS] [(.int (lcmpW q0 (10000000000000000 : Int64)))])) t → Steps p.tables e below (s₁.setTop (entryFrame m #[(.long q0)] 2)) t := by
                                  intro t kt
                                  refine pre29 t ?_
                                  refine XS.ifYes X0.here hx rfl (pc0 := 154) (pc' := 160) rfl (hb hby d40_154) rfl ((if0 _ _).trans (flt hc30).2.1) (by decide) (by decide) ?_
                                  refine XS.lloadN X0.here hx rfl (hb hby d40_160) rfl ?_
                                  show Steps p.tables e below (s₁.setTop (mkF m 161 #[vJ q0, zS] [(.long q0)])) _
                                  refine X0.ldc2Long hx hown (mvT hZ (wd hw 267 rfl)) (g := (mkF m 161 #[vJ q0, zS] [(.long q0)])) rfl (hb hby d40_161) _ ?_
                                  refine XS.lcmp X0.here hx rfl (hb hby d40_164) rfl ?_
                                  exact kt
                                by_cases hc32 : (lcmpW q0 (10000000000000000 : Int64)) < (0 : Int32)
                                · skip
                                  have hc32' : n < 10000000000000000 := by have c := c_lcmp q0 (10000000000000000 : Int64); have e : (10000000000000000 : Int64).toInt = 10000000000000000 := rfl; rw [Int32.lt_iff_toInt_lt] at hc32; have e0 : (0 : Int32).toInt = 0 := rfl; omega
                                  obtain ⟨fs, hr, hrun, hended, hW, hsame⟩ := X0.leave (v := some (.int (16 : Int32))) (fun h => by rw [Bd.returns] at h; cases h)
                                  refine ⟨_, _, pre31 _ ?_, hrun, hended, _, _, rfl, ?_, ⟨_, rfl⟩, hW, hsame.mono (by decide) (by decide)⟩
                                  · skip
                                    refine XS.ifNo X0.here hx rfl (hb hby d40_165) rfl ((if0 _ _).trans (tlt hc32).2.1) ?_
                                    refine XS.bipush X0.here hx rfl (hb hby d40_168) ?_
                                    show Steps p.tables e below (s₁.setTop (mkF m 170 #[vJ q0, zS] [(.int (16 : Int32))])) _
                                    exact retI X0 hx Bd.returns (hb hby d40_170) hr
                                  · show QR (.int (Int32.ofNat d)) h0 n0 _ s₁.heap _
                                    rw [e0]
                                    exact ⟨(by rw [show d = 16 from own_digU hd1 hd2 hd (by decide) (Nat.lt_of_lt_of_le (show n < 10000000000000000 by omega) (by decide)) (Or.inr (Nat.le_trans (show 10 ^ 15 ≤ 1000000000000000 by decide) (by omega)))]; rfl), N0, rfl⟩
                                · skip
                                  have hc32' : 10000000000000000 ≤ n := by have c := c_lcmp q0 (10000000000000000 : Int64); have e : (10000000000000000 : Int64).toInt = 10000000000000000 := rfl; rw [Int32.lt_iff_toInt_lt] at hc32; have e0 : (0 : Int32).toInt = 0 := rfl; omega
                                  have pre33 : ∀ t, Steps p.tables e below (s₁.setTop (mkF m 176 #[vJ q0, zS] [(.int (lcmpW q0 (100000000000000000 : Int64)))])) t → Steps p.tables e below (s₁.setTop (entryFrame m #[(.long q0)] 2)) t := by
                                    intro t kt
                                    refine pre31 t ?_
                                    show Steps p.tables e below (s₁.setTop (mkF m 165 #[vJ q0, zS] [(.int (lcmpW q0 (10000000000000000 : Int64)))])) _
                                    refine XS.ifYes X0.here hx rfl (pc0 := 165) (pc' := 171) rfl (hb hby d40_165) rfl ((if0 _ _).trans (flt hc32).2.1) (by decide) (by decide) ?_
                                    refine XS.lloadN X0.here hx rfl (hb hby d40_171) rfl ?_
                                    refine X0.ldc2Long hx hown (mvT hZ (wd hw 268 rfl)) (g := (mkF m 172 #[vJ q0, zS] [(.long q0)])) rfl (hb hby d40_172) _ ?_
                                    refine XS.lcmp X0.here hx rfl (hb hby d40_175) rfl ?_
                                    exact kt
                                  by_cases hc34 : (lcmpW q0 (100000000000000000 : Int64)) < (0 : Int32)
                                  · skip
                                    have hc34' : n < 100000000000000000 := by have c := c_lcmp q0 (100000000000000000 : Int64); have e : (100000000000000000 : Int64).toInt = 100000000000000000 := rfl; rw [Int32.lt_iff_toInt_lt] at hc34; have e0 : (0 : Int32).toInt = 0 := rfl; omega
                                    obtain ⟨fs, hr, hrun, hended, hW, hsame⟩ := X0.leave (v := some (.int (17 : Int32))) (fun h => by rw [Bd.returns] at h; cases h)
                                    refine ⟨_, _, pre33 _ ?_, hrun, hended, _, _, rfl, ?_, ⟨_, rfl⟩, hW, hsame.mono (by decide) (by decide)⟩
                                    · skip
                                      show Steps p.tables e below (s₁.setTop (mkF m 176 #[vJ q0, zS] [(.int (lcmpW q0 (100000000000000000 : Int64)))])) _
                                      refine XS.ifNo X0.here hx rfl (hb hby d40_176) rfl ((if0 _ _).trans (tlt hc34).2.1) ?_
                                      refine XS.bipush X0.here hx rfl (hb hby d40_179) ?_
                                      show Steps p.tables e below (s₁.setTop (mkF m 181 #[vJ q0, zS] [(.int (17 : Int32))])) _
                                      exact retI X0 hx Bd.returns (hb hby d40_181) hr
                                    · show QR (.int (Int32.ofNat d)) h0 n0 _ s₁.heap _
                                      rw [e0]
                                      exact ⟨(by rw [show d = 17 from own_digU hd1 hd2 hd (by decide) (Nat.lt_of_lt_of_le (show n < 100000000000000000 by omega) (by decide)) (Or.inr (Nat.le_trans (show 10 ^ 16 ≤ 10000000000000000 by decide) (by omega)))]; rfl), N0, rfl⟩
                                  · skip
                                    have hc34' : 100000000000000000 ≤ n := by have c := c_lcmp q0 (100000000000000000 : Int64); have e : (100000000000000000 : Int64).toInt = 100000000000000000 := rfl; rw [Int32.lt_iff_toInt_lt] at hc34; have e0 : (0 : Int32).toInt = 0 := rfl; omega
                                    have pre35 : ∀ t, Steps p.tables e below (s₁.setTop (mkF m 187 #[vJ q0, zS] [(.int (lcmpW q0 (1000000000000000000 : Int64)))])) t → Steps p.tables e below (s₁.setTop (entryFrame m #[(.long q0)] 2)) t := by
                                      intro t kt
                                      refine pre33 t ?_
                                      refine XS.ifYes X0.here hx rfl (pc0 := 176) (pc' := 182) rfl (hb hby d40_176) rfl ((if0 _ _).trans (flt hc34).2.1) (by decide) (by decide) ?_
                                      refine XS.lloadN X0.here hx rfl (hb hby d40_182) rfl ?_
                                      show Steps p.tables e below (s₁.setTop (mkF m 183 #[vJ q0, zS] [(.long q0)])) _
                                      refine X0.ldc2Long hx hown (mvT hZ (wd hw 269 rfl)) (g := (mkF m 183 #[vJ q0, zS] [(.long q0)])) rfl (hb hby d40_183) _ ?_
                                      refine XS.lcmp X0.here hx rfl (hb hby d40_186) rfl ?_
                                      exact kt
                                    by_cases hc36 : (lcmpW q0 (1000000000000000000 : Int64)) < (0 : Int32)
                                    · skip
                                      have hc36' : n < 1000000000000000000 := by have c := c_lcmp q0 (1000000000000000000 : Int64); have e : (1000000000000000000 : Int64).toInt = 1000000000000000000 := rfl; rw [Int32.lt_iff_toInt_lt] at hc36; have e0 : (0 : Int32).toInt = 0 := rfl; omega
                                      obtain ⟨fs, hr, hrun, hended, hW, hsame⟩ := X0.leave (v := some (.int (18 : Int32))) (fun h => by rw [Bd.returns] at h; cases h)
                                      refine ⟨_, _, pre35 _ ?_, hrun, hended, _, _, rfl, ?_, ⟨_, rfl⟩, hW, hsame.mono (by decide) (by decide)⟩
                                      · skip
                                        refine XS.ifNo X0.here hx rfl (hb hby d40_187) rfl ((if0 _ _).trans (tlt hc36).2.1) ?_
                                        refine XS.bipush X0.here hx rfl (hb hby d40_190) ?_
                                        show Steps p.tables e below (s₁.setTop (mkF m 192 #[vJ q0, zS] [(.int (18 : Int32))])) _
                                        exact retI X0 hx Bd.returns (hb hby d40_192) hr
                                      · show QR (.int (Int32.ofNat d)) h0 n0 _ s₁.heap _
                                        rw [e0]
                                        exact ⟨(by rw [show d = 18 from own_digU hd1 hd2 hd (by decide) (Nat.lt_of_lt_of_le (show n < 1000000000000000000 by omega) (by decide)) (Or.inr (Nat.le_trans (show 10 ^ 17 ≤ 100000000000000000 by decide) (by omega)))]; rfl), N0, rfl⟩
                                    · skip
                                      have hc36' : 1000000000000000000 ≤ n := by have c := c_lcmp q0 (1000000000000000000 : Int64); have e : (1000000000000000000 : Int64).toInt = 1000000000000000000 := rfl; rw [Int32.lt_iff_toInt_lt] at hc36; have e0 : (0 : Int32).toInt = 0 := rfl; omega
                                      obtain ⟨fs, hr, hrun, hended, hW, hsame⟩ := X0.leave (v := some (.int (19 : Int32))) (fun h => by rw [Bd.returns] at h; cases h)
                                      refine ⟨_, _, pre35 _ ?_, hrun, hended, _, _, rfl, ?_, ⟨_, rfl⟩, hW, hsame.mono (by decide) (by decide)⟩
                                      · skip
                                        show Steps p.tables e below (s₁.setTop (mkF m 187 #[vJ q0, zS] [(.int (lcmpW q0 (1000000000000000000 : Int64)))])) _
                                        refine XS.ifYes X0.here hx rfl (pc0 := 187) (pc' := 193) rfl (hb hby d40_187) rfl ((if0 _ _).trans (flt hc36).2.1) (by decide) (by decide) ?_
                                        refine XS.bipush X0.here hx rfl (hb hby d40_193) ?_
                                        show Steps p.tables e below (s₁.setTop (mkF m 195 #[vJ q0, zS] [(.int (19 : Int32))])) _
                                        exact retI X0 hx Bd.returns (hb hby d40_195) hr
                                      · show QR (.int (Int32.ofNat d)) h0 n0 _ s₁.heap _
                                        rw [e0]
                                        exact ⟨(by rw [show d = 19 from own_digU hd1 hd2 hd (by decide) hn63 (Or.inr (Nat.le_trans (show 10 ^ 18 ≤ 1000000000000000000 by decide) (by omega)))]; rfl), N0, rfl⟩
section OwnTxt
open Jvm.Free.SBG (digitsL negL)
open Jvm.Free.SBG.GetCharsL (sgnL)
theorem sgn1 {xx : Int64} (h : xx < 0) : sgnL xx = 1 := if_pos h
theorem sgn0 {xx : Int64} (h : ¬ xx < 0) : sgnL xx = 0 := if_neg h
variable {xx : Int64} {nn sz dd : Nat}
theorem own_tS (hsz : digitsL nn + sgnL xx = sz) : txt xx nn sz (59 + sz) = 32 := by
  unfold txt; rw [if_pos (by omega), Nat.sub_self]; decide
theorem own_tE : txt xx nn sz (59 + sz + 33 - 1) = 120 := by
  unfold txt; rw [if_pos (by omega), show 59 + sz + 33 - 1 - (59 + sz) = 32 from by omega]; decide
theorem own_tP (hsz : digitsL nn + sgnL xx = sz) (hs : sgnL xx ≤ 1) {j : Nat} (hj : j < 59) : txt xx nn sz j = preL.getD j 0 := by
  unfold txt gcF; rw [if_neg (by omega), if_neg (by omega), if_neg (by rintro ⟨h1, h2⟩; have := sgn1 h1; omega)]
theorem own_t0 (hsz : digitsL nn + sgnL xx = sz) : txt xx nn sz 0 = 111 := by rw [own_tP hsz (sgnle xx) (by decide)]; decide
theorem own_t58 (hsz : digitsL nn + sgnL xx = sz) : txt xx nn sz 58 = 32 := by rw [own_tP hsz (sgnle xx) (by decide)]; decide
theorem own_tN (hsz : digitsL nn + sgnL xx = sz) (h : xx < 0) : txt xx nn sz 59 = 45 := by
  have h1 := sgn1 h
  unfold txt gcF; rw [if_neg (by omega), if_neg (by omega), if_pos ⟨h, by omega⟩]
theorem own_tD (hsz : digitsL nn + sgnL xx = sz) {j : Nat} (h1 : 59 + sgnL xx ≤ j) (h2 : j < 59 + sz) : txt xx nn sz j = 48 + nn / 10 ^ (59 + sz - 1 - j) % 10 := by
  unfold txt gcF; rw [if_neg (by omega), if_pos (by omega)]
theorem own_tF (hnn : nn ≤ 2 ^ 63) (hsz : digitsL nn + sgnL xx = sz) : txt xx nn sz (59 + sgnL xx) = 48 + nn / 10 ^ (digitsL nn - 1) := by
  have hp := (Jvm.Free.SBG.digitsL_pos nn).1
  rw [own_tD hsz (Nat.le_refl _) (by omega), show 59 + sz - 1 - (59 + sgnL xx) = digitsL nn - 1 from by omega, Nat.mod_eq_of_lt]
  have := (own_digits hnn).1
  apply Nat.div_lt_of_lt_mul
  rw [show digitsL nn = (digitsL nn - 1) + 1 from by omega, Nat.pow_succ] at this
  exact this
theorem own_fd (hnn : nn ≤ 2 ^ 63) : nn / 10 ^ (digitsL nn - 1) < 10 := by
  have hp := (Jvm.Free.SBG.digitsL_pos nn).1
  have := (own_digits hnn).1
  apply Nat.div_lt_of_lt_mul
  rw [show digitsL nn = (digitsL nn - 1) + 1 from by omega, Nat.pow_succ] at this
  exact this
theorem own_tL (hsz : digitsL nn + sgnL xx = sz) : txt xx nn sz (59 + sz - 1) = 48 + nn % 10 := by
  have hp := (Jvm.Free.SBG.digitsL_pos nn).1
  rw [own_tD hsz (by omega) (by omega), Nat.sub_self, Nat.pow_zero, Nat.div_one]
theorem own_dle {nn : Nat} (h : nn < 10 ^ 18) : digitsL nn ≤ 18 := by
  have hn : nn ≤ 2 ^ 63 := Nat.le_of_lt (Nat.lt_of_lt_of_le h (by decide))
  rcases (own_digits hn).2 with q | q
  · omega
  · rcases Nat.lt_or_ge 18 (digitsL nn) with z | z
    · have := Nat.pow_le_pow_right (n := 10) (by decide) (show 18 ≤ digitsL nn - 1 by omega)
      omega
    · exact z
/-- from the number to what it is -/
theorem own_mag {xx : Int64} {nn : Nat} (hn : nn < 10 ^ 18) (hxn : (if xx < 0 then xx else -xx) = negL nn) : (xx < 0 → (-xx).toInt = nn ∧ xx.toInt = -nn) ∧ (¬ xx < 0 → xx.toInt = nn) := by
  have h63 : nn ≤ 2 ^ 63 := Nat.le_of_lt (Nat.lt_of_lt_of_le hn (by decide))
  have h18 : (10 : Nat) ^ 18 = 1000000000000000000 := by decide
  have e := Jvm.Free.SBG.negL_toInt h63
  constructor
  · intro h
    rw [if_pos h] at hxn
    have e1 : xx.toInt = -nn := by rw [hxn]; exact e
    refine ⟨?_, e1⟩
    have := c_lneg xx
    have b1 := (-xx).toInt_lt
    have b2 := (-xx).le_toInt
    omega
  · intro h
    rw [if_neg h] at hxn
    have e1 : (-xx).toInt = -nn := by rw [hxn]; exact e
    have := c_lneg xx
    have b1 := xx.toInt_lt
    have b2 := xx.le_toInt
    omega
theorem own_i2cN {k : Nat} (h : k < 128) : (Int32.ofNat k).toUInt32.toUInt16.toUInt32.toInt32 = Int32.ofNat k := own_chr2 k h
theorem own_q10 {mg : Int64} {nn e : Nat} (hm : mg.toInt = nn) (hn : nn < 10 ^ 18) (he : e < 19) (hq : nn / 10 ^ e < 10) : ((48 : Int32) + (mg / Int64.ofNat (10 ^ e)).toInt32).toUInt32.toUInt16.toUInt32.toInt32 = Int32.ofNat (48 + nn / 10 ^ e) := by
  have h63 : (10 : Nat) ^ e < 9223372036854775808 := by
    have := Nat.pow_le_pow_right (n := 10) (by decide) (show e ≤ 18 by omega)
    have : (10 : Nat) ^ 18 < 9223372036854775808 := by decide
    omega
  have hy : (Int64.ofNat (10 ^ e)).toInt = ((10 ^ e : Nat) : Int) := own_i64 h63
  have hp : 0 < 10 ^ e := Nat.pow_pos (by decide)
  have hd := (c_ldiv mg (Int64.ofNat (10 ^ e)) _ hy (fun q => by
    have := congrArg Int64.toInt q; rw [hy] at this; have e1 : (-1 : Int64).toInt = -1 := rfl
    omega)).1 (by omega)
  rw [hm, ← Int.natCast_ediv] at hd
  have hl := c_l2i (mg / Int64.ofNat (10 ^ e))
  rw [hd] at hl
  generalize nn / 10 ^ e = Q at hl hq ⊢
  have b1 := ((mg / Int64.ofNat (10 ^ e)).toInt32).toInt_lt
  have b2 := ((mg / Int64.ofNat (10 ^ e)).toInt32).le_toInt
  have ez : (mg / Int64.ofNat (10 ^ e)).toInt32 = Int32.ofNat Q := by
    apply Int32.toInt_inj.mp; rw [own_i32 (by omega)]; omega
  rw [ez, show (48 : Int32) + Int32.ofNat Q = Int32.ofNat (48 + Q) from own_addN 48 _]
  exact own_i2cN (by omega)
theorem own_r10 {mg : Int64} {nn : Nat} (hm : mg.toInt = nn) (hn : nn < 10 ^ 18) : ((48 : Int32) + (mg - (mg / (10 : Int64)) * (10 : Int64)).toInt32).toUInt32.toUInt16.toUInt32.toInt32 = Int32.ofNat (48 + nn % 10) := by
  have hd := (c_lrem mg 10 10 rfl).1 (by omega)
  rw [hm] at hd
  have hl := c_l2i (mg - (mg / (10 : Int64)) * (10 : Int64))
  rw [hd] at hl
  have b1 := ((mg - (mg / (10 : Int64)) * (10 : Int64)).toInt32).toInt_lt
  have b2 := ((mg - (mg / (10 : Int64)) * (10 : Int64)).toInt32).le_toInt
  have ez : (mg - (mg / (10 : Int64)) * (10 : Int64)).toInt32 = Int32.ofNat (nn % 10) := by
    apply Int32.toInt_inj.mp; rw [own_i32 (by omega)]; omega
  rw [ez, show (48 : Int32) + Int32.ofNat (nn % 10) = Int32.ofNat (48 + nn % 10) from own_addN 48 _]
  exact own_i2cN (by omega)
/-- two messages that are the same come from one number -/
theorem own_tinj {xx xy : Int64} {nn sz ny sy : Nat} (hn : nn < 10 ^ 18) (hy : ny < 10 ^ 18) (hxn : (if xx < 0 then xx else -xx) = negL nn) (hyn : (if xy < 0 then xy else -xy) = negL ny) (hsz : digitsL nn + sgnL xx = sz) (hsy : digitsL ny + sgnL xy = sy)
    (h : Same (59 + sz + 33) (59 + sy + 33) (fun i => Int32.ofNat (txt xx nn sz i)) (fun i => Int32.ofNat (txt xy ny sy i))) : xx = xy := by
  obtain ⟨e, q⟩ := h
  have es : sz = sy := by omega
  subst es
  have h63 : ∀ {n : Nat}, n < 10 ^ 18 → n ≤ 2 ^ 63 := fun {n} h => by
    have : (10 : Nat) ^ 18 ≤ 2 ^ 63 := by decide
    omega
  have q' : ∀ i, i < 59 + sz + 33 → txt xx nn sz i = txt xy ny sz i := fun i hi => by
    have a1 := txtA xx nn sz i
    have a2 := txtA xy ny sz i
    exact (own_inj (by omega) (by omega)).mp (q i hi)
  have p1 := (Jvm.Free.SBG.digitsL_pos nn).1
  have p2 := (Jvm.Free.SBG.digitsL_pos ny).1
  have m1 := own_mag hn hxn
  have m2 := own_mag hy hyn
  have hd : ∀ (a b : Int64) (n k : Nat), digitsL n + sgnL a = sz → digitsL k + sgnL b = sz → a < 0 → ¬ b < 0 → txt a n sz 59 = txt b k sz 59 → False := fun a b n k z1 z2 ha hb hq => by
    rw [own_tN z1 ha, own_tD z2 (by rw [sgn0 hb]; exact Nat.le_refl _) (by have := (Jvm.Free.SBG.digitsL_pos n).1; omega)] at hq
    omega
  have same : sgnL xx = sgnL xy := by
    by_cases u : xx < 0
    · by_cases v : xy < 0
      · rw [sgn1 u, sgn1 v]
      · exact absurd (hd xx xy nn ny hsz hsy u v (q' 59 (by omega))) id
    · by_cases v : xy < 0
      · exact absurd (hd xy xx ny nn hsy hsz v u (q' 59 (by omega)).symm) id
      · rw [sgn0 u, sgn0 v]
  have en : nn = ny := by
    refine own_dinj (digitsL nn) nn ny (own_digits (h63 hn)).1 (by have := (own_digits (h63 hy)).1; rw [show digitsL nn = digitsL ny from by omega]; exact this) fun i hi => ?_
    have := q' (59 + sz - 1 - i) (by omega)
    rw [own_tD hsz (by omega) (by omega), own_tD hsy (by omega) (by omega), show 59 + sz - 1 - (59 + sz - 1 - i) = i from by omega] at this
    omega
  subst en
  apply Int64.toInt_inj.mp
  by_cases u : xx < 0
  · by_cases v : xy < 0
    · rw [(m1.1 u).2, (m2.1 v).2]
    · rw [sgn1 u, sgn0 v] at same; omega
  · by_cases v : xy < 0
    · rw [sgn0 u, sgn1 v] at same; omega
    · rw [m1.2 u, m2.2 v]
/-- a number that was shifted right by 20 is small -/
theorem own_small {h xx : Int64} {nn : Nat} (hx : (h >>> ((20 : Int32) &&& 0x3f).toInt64) = xx) (hnn : nn ≤ 2 ^ 63) (hxn : (if xx < 0 then xx else -xx) = negL nn) : nn < 10 ^ 18 := by
  have e := c_lshr h 20 20 (by decide)
  rw [hx] at e
  have b1 := h.toInt_lt
  have b2 := h.le_toInt
  have hp : ((2 ^ 20 : Nat) : Int) = 1048576 := by decide
  rw [hp] at e
  have h18 : (10 : Nat) ^ 18 = 1000000000000000000 := by decide
  have en := Jvm.Free.SBG.negL_toInt hnn
  rw [← hxn] at en
  by_cases u : xx < 0
  · rw [if_pos u] at en; omega
  · rw [if_neg u] at en
    have := c_lneg xx
    have b3 := (-xx).toInt_lt
    have b4 := (-xx).le_toInt
    omega
end OwnTxt
theorem pd__J_Lcom_example_tollplan_tollplan_CommandException_ : parseMethodDescriptor "(J)Lcom/example/tollplan/tollplan/CommandException;" = some ⟨[.long], some (.object "com/example/tollplan/tollplan/CommandException")⟩ := by decide +kernel
theorem pd___Lcom_example_tollplan_tollplan_CommandException_Kind_ : parseMethodDescriptor "()Lcom/example/tollplan/tollplan/CommandException$Kind;" = some ⟨[], some (.object "com/example/tollplan/tollplan/CommandException$Kind")⟩ := by decide +kernel
theorem pd___Ljava_lang_Throwable_ : parseMethodDescriptor "()Ljava/lang/Throwable;" = some ⟨[], some (.object "java/lang/Throwable")⟩ := by decide +kernel
set_option maxRecDepth 65536 in
set_option maxHeartbeats 40000000 in
theorem lw1 {p : Program} {l : Launch} {e : Env} {s : State} {m : MethodId} {args : Array Value} {below : List Frame} {meth : Method} {c : Code} {T0 : State} {locs : List Loc} {Z : State} {a0 : Array Value} {h0 : Heap} {vm0 : Vm} {k0 : Nat} (qa qb : Int64) (pa pb : Int32) (hh : Int64) (sm : Int32) (mm : Int64) (xx : Int64) (nn sz : Nat) (X0 : Stand p l e room_1 (s.setVm vm0) m args below meth c T0 locs 0 0) (hx : p.tables.exec = Jvm.exec) (hZ : Z.Warmed39 vm0) (hw : ∀ d ∈ tables_1, d.before a0 Z = true) (hby : c.code = code) (hml : c.maxLocals = 32) (hown : vm0.findClass "com/example/tollplan/tollplan/CommandExceptionOutOfMemoryPinLaw" = some m.cls) (e0 : T0.heap = h0) (hS0 : s.Since vm0 k0) (hk0 : k0 ≤ h0.size) (hEL : EW Z a0 consts_1) (hCH : CHv Z consts_1 vm0 h0) (hTK : s.vm.MethodsKnown) (hBelow : s.vm.FramesKnown below) (n0 : Nat) (hz : Z.heap.size ≤ n0) (hl : l.stackTraces = true) (THz : ThS Z Z.heap) (u1 u2 : Value) (hu1 : u1.isRef = true) (hu2 : u2.isRef = true) (S_Uz : Sta Z Z.heap "java/lang/Throwable" "UNASSIGNED_STACK" "[Ljava/lang/StackTraceElement;" u1) (S_Nz : Sta Z Z.heap "java/lang/Throwable" "SUPPRESSED_SENTINEL" "Ljava/util/List;" u2) (kL : Addr) (S_Lz : Sta Z Z.heap "com/example/tollplan/tollplan/CommandException$Kind" "LOCAL" "Lcom/example/tollplan/tollplan/CommandException$Kind;" (.ref kL)) (stI dgA dgB : Addr) (DgA DgB : Cell) (tbA : SBG.Tbl Z "DigitOnes" stI dgA DgA) (tbB : SBG.Tbl Z "DigitTens" stI dgB DgB) (onA : SBG.Ones DgA) (teB : SBG.Tens DgB) (cs : Int32) (hcs : ¬ cs = (0 : Int32)) (S_Cz : Sta Z Z.heap "java/lang/String" "COMPACT_STRINGS" "Z" (.int cs)) (fm : Value) (hfm : fm.isRef = true) (S_Fz : Sta Z Z.heap "jdk/internal/util/Preconditions" "SIOOBE_FORMATTER" "Ljava/util/function/BiFunction;" fm) (N0 : Fr n0 locs) (Z0 : n0 ≤ h0.size) (KZ : Keep Z.heap h0 []) (hnn : nn ≤ 2 ^ 63) (hxn : (if xx < 0 then xx else -xx) = SBG.negL nn) (hsz : SBG.digitsL nn + SBG.GetCharsL.sgnL xx = sz) (hxx : (hh >>> ((20 : Int32) &&& 0x3f).toInt64) = xx) :
    ∃ (T' : State) (vm' : Vm) (k' : Nat) (locs' : List Loc) (ee ms mv : Addr) (mk : ClassId), Stand p l e room_1 (s.setVm vm') m args below meth c T' locs' 14 4200 ∧ s.Since vm' k' ∧ k' ≤ T'.heap.size ∧ Z.Warmed39 vm' ∧ vm'.findClass "com/example/tollplan/tollplan/CommandExceptionOutOfMemoryPinLaw" = some m.cls ∧ CHr Z consts_1 vm0 h0 vm' T'.heap ∧ Keep h0 T'.heap [] ∧ Fr n0 locs' ∧ SB Z T'.heap ms mv mk (59 + sz + 33) (fun i => Int32.ofNat ((txt xx nn sz) i)) ∧ ∀ target, Steps p.tables e below (T'.setTop (mkF m 98 #[vJ qa, zS, vJ qb, zS, vI pa, vI pb, vJ hh, zS, vI sm, vJ mm, zS, vJ xx, zS, vR ee, vR ms, zU, zU, zU, zU, zU, zU, zU, zU, zU, zU, zU, zU, zU, zU, zU, zU, zU] [])) target → Steps p.tables e below (T0.setTop (mkF m 47 #[vJ qa, zS, vJ qb, zS, vI pa, vI pb, vJ hh, zS, vI sm, vJ mm, zS, zU, zU, zU, zU, zU, zU, zU, zU, zU, zU, zU, zU, zU, zU, zU, zU, zU, zU, zU, zU, zU] [])) target := by
  have hCR0 : CHr Z consts_1 vm0 h0 vm0 h0 := CHr.refl hCH
  have hTKs : (s.setVm vm0).vm.MethodsKnown := Vm.MethodsKnown.alikeC hS0.1.alike hTK
  have hBls : (s.setVm vm0).vm.FramesKnown below := Vm.FramesKnown.alikeC hS0.1.alike hBelow
  have pre0 : ∀ t, Steps p.tables e below (T0.setTop (mkF m 47 #[vJ qa, zS, vJ qb, zS, vI pa, vI pb, vJ hh, zS, vI sm, vJ mm, zS, zU, zU, zU, zU, zU, zU, zU, zU, zU, zU, zU, zU, zU, zU, zU, zU, zU, zU, zU, zU, zU] [])) t → Steps p.tables e below (T0.setTop (mkF m 47 #[vJ qa, zS, vJ qb, zS, vI pa, vI pb, vJ hh, zS, vI sm, vJ mm, zS, zU, zU, zU, zU, zU, zU, zU, zU, zU, zU, zU, zU, zU, zU, zU, zU, zU, zU, zU, zU, zU] [])) t := fun _ k => k
  have S_C := own_sta_keep S_Cz KZ all0
  have S_F := own_sta_keep S_Fz KZ all0
  have S_U := own_sta_keep S_Uz KZ all0
  have S_N := own_sta_keep S_Nz KZ all0
  have S_L := own_sta_keep S_Lz KZ all0
  have TH := ThS.keep KZ (own_nst all0) THz
  obtain ⟨_, _, ⟨T1, L1, k1, n1⟩, -, X1, hSi1, hgr1, ⟨Lc1, hQ1, l1, y1, z1, hC1⟩, st1⟩ := callSS X0 hx (y := (⟨"com/example/tollplan/tollplan/CommandException", "outOfMemory", "(J)Lcom/example/tollplan/tollplan/CommandException;"⟩ : MethodName)) hown (mvT hZ (wd hw 1 rfl)) (mvT hZ (wd hw 2 rfl)) (mvT hZ (wd hw 3 rfl)) (mvT hZ (wd hw 4 rfl)) (by decide) (backOfSKH (W := 0) (oOM l Z a0 hw [] hh hEL kL xx nn sz hnn hxn hsz hxx h0 n0 Z0 (KZ.trans (Keep.refl h0 []) all0) hz hl TH u1 u2 hu1 hu2 S_U S_N S_L stI dgA dgB DgA DgB tbA tbB onA teB cs hcs S_Cz) hZ (wd hw 4 rfl) (wd hw 3 rfl) (by decide) (by decide) hEL hCR0.1 hTKs hBls) (g := (mkF m 56 #[vJ qa, zS, vJ qb, zS, vI pa, vI pb, vJ hh, zS, vI sm, vJ mm, zS, vJ xx, zS, zU, zU, zU, zU, zU, zU, zU, zU, zU, zU, zU, zU, zU, zU, zU, zU, zU, zU, zU] [(.long hh)])) rfl (by rw [hml]; rfl) (argsL := [(.long hh)]) (rest := []) (lenOf pd__J_Lcom_example_tollplan_tollplan_CommandException_ rfl) rfl (by show 2 * 0 + _ ≤ _; exact Nat.le_of_eq rfl) (hb hby at_56) (fun _ _ => ⟨rfl, e0, (by decide : 0 + 14 ≤ _), (by decide : 0 + 4200 ≤ _)⟩)
  dsimp only [Pt.U, Pt.locs, Pt.cells, Pt.slots] at X1 l1 y1 z1 st1 hQ1 hSi1 hgr1
  rw [l1, y1, z1] at X1
  have hS1 : s.Since T1.vm T1.heap.size := foldS hS0 (by rw [e0]; exact hk0) hSi1 hgr1
  have hZ1 : Z.Warmed39 (s.setVm T1.vm).vm := State.Warmed39.trans (t := s.setVm vm0) hZ hSi1.1
  have hown1 : (s.setVm T1.vm).vm.findClass "com/example/tollplan/tollplan/CommandExceptionOutOfMemoryPinLaw" = some m.cls := by rw [show (s.setVm T1.vm).vm = T1.vm from rfl, hSi1.1.alike.findClass]; exact hown
  have X1 : Stand p l e room_1 (s.setVm T1.vm) m args below meth c T1 _ _ _ := X1
  have hkc1 : T1.heap.size ≤ T1.heap.size := Nat.le_refl _
  have hTK1 : (s.setVm T1.vm).vm.MethodsKnown := Vm.MethodsKnown.alikeC hS1.1.alike hTK
  have hBl1 : (s.setVm T1.vm).vm.FramesKnown below := Vm.FramesKnown.alikeC hS1.1.alike hBelow
  dsimp only [Pt.U] at hC1
  have hCR2 : CHr Z consts_1 vm0 h0 T1.vm T1.heap := hCR0.trans hC1
  obtain ⟨ex1, ms1, mv1, mk1, rfl, N1q, Kp1, Ea1, Fk1, Fm1, Fx1, Un1, Sm1⟩ := hQ1
  have N1 := Fr.app N0 N1q
  have Zs1 : n0 ≤ T1.heap.size := Nat.le_trans Z0 Kp1.1
  have Kk1 : Keep h0 T1.heap [] := (Keep.refl h0 []).trans Kp1 all0
  obtain ⟨cq3, kq3, q3a, q3b, q3c⟩ := isOf hZ1 rfl Ea1
  obtain ⟨_, _, ⟨T3, L3, k3, n3⟩, -, X3, ⟨Lc3, hQ3, l3, y3, z3⟩, st3⟩ := X1.virtualBack hx (y := (⟨"com/example/tollplan/tollplan/CommandException", "kind", "()Lcom/example/tollplan/tollplan/CommandException$Kind;"⟩ : MethodName)) (z := (⟨"com/example/tollplan/tollplan/CommandException", "kind", "()Lcom/example/tollplan/tollplan/CommandException$Kind;"⟩ : MethodName)) hown1 (mvT hZ1 (wd hw 227 rfl)) (mvT hZ1 (wd hw 228 rfl)) (notFace_of_selects (args := #[]) (mvT hZ1 (wd hw 230 rfl))) (mvT hZ1 (wd hw 230 rfl)) (mvT hZ1 (wd hw 229 rfl)) (by decide) (backOf (W := 0) (eKi l Z a0 hw [] ex1 kL T1.heap n0 Zs1 Fk1) hZ1 (wd hw 231 rfl) (wd hw 3 rfl) (by decide) (by decide)) q3a q3c (g := (mkF m 63 #[vJ qa, zS, vJ qb, zS, vI pa, vI pb, vJ hh, zS, vI sm, vJ mm, zS, vJ xx, zS, vR ex1, zU, zU, zU, zU, zU, zU, zU, zU, zU, zU, zU, zU, zU, zU, zU, zU, zU, zU] [(.ref ex1)])) rfl (by rw [hml]; rfl) (Steps.refl _) (argsL := []) (rest := []) (lenOf pd___Lcom_example_tollplan_tollplan_CommandException_Kind_ rfl) rfl (by show 2 * 0 + _ ≤ _; exact Nat.le_of_eq rfl) (hb hby at_63) (fun _ _ => ⟨rfl, rfl, (by decide : 14 + 0 ≤ _), (by decide : 4200 + 0 ≤ _)⟩)
  dsimp only [Pt.U, Pt.locs, Pt.cells, Pt.slots] at X3 l3 y3 z3 st3 hQ3
  rw [l3, y3, z3] at X3
  obtain ⟨rfl, N3q, e3⟩ := hQ3
  have N3 := Fr.app N1 N3q
  have S_L_4 := (own_sta_keep S_L Kp1 all0)
  obtain ⟨T5, X5, e5, st5⟩ := getS2 X3 hx hZ1 hown1 (host := "") (Or.inl (wd hw 232 rfl)) Via.refl e3 S_L_4 (g := (mkF m 66 #[vJ qa, zS, vJ qb, zS, vI pa, vI pb, vJ hh, zS, vI sm, vJ mm, zS, vJ xx, zS, vR ex1, zU, zU, zU, zU, zU, zU, zU, zU, zU, zU, zU, zU, zU, zU, zU, zU, zU, zU] [(.ref kL)])) rfl (hb hby at_66)
  obtain ⟨cq6, kq6, q6a, q6b, q6c⟩ := isOf hZ1 e5 Ea1
  obtain ⟨_, _, ⟨T6, L6, k6, n6⟩, -, X6, ⟨hv6, e6, l6, y6, z6⟩, st6⟩ := X5.virtualBackUp hx (x := (⟨"com/example/tollplan/tollplan/CommandException", "getCause", "()Ljava/lang/Throwable;"⟩ : MethodName)) (y := (⟨"java/lang/Throwable", "getCause", "()Ljava/lang/Throwable;"⟩ : MethodName)) (owner := "java/lang/Throwable") hown1 (mvT hZ1 (wd hw 233 rfl)) (mvT hZ1 (wd hw 234 rfl)) (mvT hZ1 (wd hw 235 rfl)) (by decide) (mvT hZ1 (wd hw 237 rfl)) (mvT hZ1 (wd hw 236 rfl)) (gcBackPure (rm := ({ frames := 0, cells := 0, slots := 0, locals := 0 } : Room)) (W := 0) hZ1 (wd hw 238 rfl) (wd hw 236 rfl) (wd hw 186 rfl) (wd hw 189 rfl) Un1 Fx1 rfl (by decide) (by decide)) q6a q6c (g := (mkF m 76 #[vJ qa, zS, vJ qb, zS, vI pa, vI pb, vJ hh, zS, vI sm, vJ mm, zS, vJ xx, zS, vR ex1, zU, zU, zU, zU, zU, zU, zU, zU, zU, zU, zU, zU, zU, zU, zU, zU, zU, zU] [(.ref ex1)])) rfl (by rw [hml]; rfl) (Steps.refl _) (argsL := []) (rest := []) (lenOf pd___Ljava_lang_Throwable_ rfl) rfl (by show 2 * 0 + _ ≤ _; exact Nat.le_of_eq rfl) (hb hby at_76) (fun _ _ => ⟨rfl, e5, (by decide : 14 + 0 ≤ _), (by decide : 4200 + 0 ≤ _)⟩)
  dsimp only [Pt.U, Pt.locs, Pt.cells, Pt.slots] at X6 hv6 e6 l6 y6 z6 st6
  rw [l6, y6, z6] at X6
  rw [show gcV ex1 (.ref ex1) = .null from if_pos rfl] at hv6; subst hv6
  obtain ⟨cq7, kq7, q7a, q7b, q7c⟩ := isOf hZ1 e6 Ea1
  obtain ⟨_, _, ⟨T7, L7, k7, n7⟩, -, X7, ⟨Lc7, hQ7, l7, y7, z7⟩, st7⟩ := X6.virtualBackUp hx (x := (⟨"com/example/tollplan/tollplan/CommandException", "getMessage", "()Ljava/lang/String;"⟩ : MethodName)) (y := (⟨"java/lang/Throwable", "getMessage", "()Ljava/lang/String;"⟩ : MethodName)) (owner := "java/lang/Throwable") hown1 (mvT hZ1 (wd hw 239 rfl)) (mvT hZ1 (wd hw 240 rfl)) (mvT hZ1 (wd hw 241 rfl)) (by decide) (mvT hZ1 (wd hw 243 rfl)) (mvT hZ1 (wd hw 242 rfl)) (backOf (W := 0) (eMs l Z a0 hw [] ex1 ms1 T1.heap n0 Zs1 Fm1) hZ1 (wd hw 244 rfl) (wd hw 186 rfl) (by decide) (by decide)) q7a q7c (g := (mkF m 86 #[vJ qa, zS, vJ qb, zS, vI pa, vI pb, vJ hh, zS, vI sm, vJ mm, zS, vJ xx, zS, vR ex1, zU, zU, zU, zU, zU, zU, zU, zU, zU, zU, zU, zU, zU, zU, zU, zU, zU, zU] [(.ref ex1)])) rfl (by rw [hml]; rfl) (Steps.refl _) (argsL := []) (rest := []) (lenOf pd___Ljava_lang_String_ rfl) rfl (by show 2 * 0 + _ ≤ _; exact Nat.le_of_eq rfl) (hb hby at_86) (fun _ _ => ⟨rfl, e6, (by decide : 14 + 0 ≤ _), (by decide : 4200 + 0 ≤ _)⟩)
  dsimp only [Pt.U, Pt.locs, Pt.cells, Pt.slots] at X7 l7 y7 z7 st7 hQ7
  rw [l7, y7, z7] at X7
  obtain ⟨rfl, N7q, e7⟩ := hQ7
  have N7 := Fr.app N3 N7q
  have pre8 : ∀ t, Steps p.tables e below (T7.setTop (mkF m 98 #[vJ qa, zS, vJ qb, zS, vI pa, vI pb, vJ hh, zS, vI sm, vJ mm, zS, vJ xx, zS, vR ex1, vR ms1, zU, zU, zU, zU, zU, zU, zU, zU, zU, zU, zU, zU, zU, zU, zU, zU, zU] [])) t → Steps p.tables e below (T0.setTop (mkF m 47 #[vJ qa, zS, vJ qb, zS, vI pa, vI pb, vJ hh, zS, vI sm, vJ mm, zS, zU, zU, zU, zU, zU, zU, zU, zU, zU, zU, zU, zU, zU, zU, zU, zU, zU, zU, zU, zU, zU] [])) t := by
    intro t kt
    refine pre0 t ?_
    refine XS.lload X0.here hx rfl (hb hby at_47) rfl ?_
    refine XS.bipush X0.here hx rfl (hb hby at_49) ?_
    refine XS.lshr X0.here hx rfl (hb hby at_51) rfl ?_
    show Steps p.tables e below (T0.setTop (mkF m 52 #[vJ qa, zS, vJ qb, zS, vI pa, vI pb, vJ hh, zS, vI sm, vJ mm, zS, zU, zU, zU, zU, zU, zU, zU, zU, zU, zU, zU, zU, zU, zU, zU, zU, zU, zU, zU, zU, zU] [(.long (hh >>> ((20 : Int32) &&& 0x3f).toInt64))])) _
    rw [hxx]
    show Steps p.tables e below (T0.setTop (mkF m 52 #[vJ qa, zS, vJ qb, zS, vI pa, vI pb, vJ hh, zS, vI sm, vJ mm, zS, zU, zU, zU, zU, zU, zU, zU, zU, zU, zU, zU, zU, zU, zU, zU, zU, zU, zU, zU, zU, zU] [(.long xx)])) _
    refine XS.lstore X0.here hx rfl (hb hby at_52) rfl (l' := #[vJ qa, zS, vJ qb, zS, vI pa, vI pb, vJ hh, zS, vI sm, vJ mm, zS, vJ xx, zS, zU, zU, zU, zU, zU, zU, zU, zU, zU, zU, zU, zU, zU, zU, zU, zU, zU, zU, zU]) rfl ?_
    refine XS.lload X0.here hx rfl (hb hby at_54) rfl ?_
    refine st1.trans ?_
    refine XS.astore X1.here hx rfl (hb hby at_59) rfl rfl (l' := #[vJ qa, zS, vJ qb, zS, vI pa, vI pb, vJ hh, zS, vI sm, vJ mm, zS, vJ xx, zS, vR ex1, zU, zU, zU, zU, zU, zU, zU, zU, zU, zU, zU, zU, zU, zU, zU, zU, zU, zU]) rfl ?_
    show Steps p.tables e below (T1.setTop (mkF m 61 #[vJ qa, zS, vJ qb, zS, vI pa, vI pb, vJ hh, zS, vI sm, vJ mm, zS, vJ xx, zS, vR ex1, zU, zU, zU, zU, zU, zU, zU, zU, zU, zU, zU, zU, zU, zU, zU, zU, zU, zU] [])) _
    refine XS.aload X1.here hx rfl (hb hby at_61) rfl rfl ?_
    refine st3.trans ?_
    refine st5 _ ?_
    show Steps p.tables e below (T5.setTop (mkF m 69 #[vJ qa, zS, vJ qb, zS, vI pa, vI pb, vJ hh, zS, vI sm, vJ mm, zS, vJ xx, zS, vR ex1, zU, zU, zU, zU, zU, zU, zU, zU, zU, zU, zU, zU, zU, zU, zU, zU, zU, zU] [(.ref kL), (.ref kL)])) _
    refine Jvm.RoadKit.acmp (g := (mkF m 69 #[vJ qa, zS, vJ qb, zS, vI pa, vI pb, vJ hh, zS, vI sm, vJ mm, zS, vJ xx, zS, vR ex1, zU, zU, zU, zU, zU, zU, zU, zU, zU, zU, zU, zU, zU, zU, zU, zU, zU, zU] [(.ref kL), (.ref kL)])) X5 hx rfl rfl rfl (pc0 := 69) (pc' := 74) (same := true) rfl (hb hby at_69) rfl (decide_eq_true rfl) (by decide) (by decide) ?_
    refine XS.aload X5.here hx rfl (hb hby at_74) rfl rfl ?_
    show Steps p.tables e below (T5.setTop (mkF m 76 #[vJ qa, zS, vJ qb, zS, vI pa, vI pb, vJ hh, zS, vI sm, vJ mm, zS, vJ xx, zS, vR ex1, zU, zU, zU, zU, zU, zU, zU, zU, zU, zU, zU, zU, zU, zU, zU, zU, zU, zU] [(.ref ex1)])) _
    refine st6.trans ?_
    show Steps p.tables e below (T6.setTop (mkF m 79 #[vJ qa, zS, vJ qb, zS, vI pa, vI pb, vJ hh, zS, vI sm, vJ mm, zS, vJ xx, zS, vR ex1, zU, zU, zU, zU, zU, zU, zU, zU, zU, zU, zU, zU, zU, zU, zU, zU, zU, zU] [.null])) _
    refine XS.ifnullYes X6.here hx rfl (pc0 := 79) (pc' := 84) rfl (hb hby at_79) rfl (by decide) (by decide) ?_
    refine XS.aload X6.here hx rfl (hb hby at_84) rfl rfl ?_
    refine st7.trans ?_
    refine XS.astore X7.here hx rfl (hb hby at_89) rfl rfl (l' := #[vJ qa, zS, vJ qb, zS, vI pa, vI pb, vJ hh, zS, vI sm, vJ mm, zS, vJ xx, zS, vR ex1, vR ms1, zU, zU, zU, zU, zU, zU, zU, zU, zU, zU, zU, zU, zU, zU, zU, zU, zU]) rfl ?_
    show Steps p.tables e below (T7.setTop (mkF m 91 #[vJ qa, zS, vJ qb, zS, vI pa, vI pb, vJ hh, zS, vI sm, vJ mm, zS, vJ xx, zS, vR ex1, vR ms1, zU, zU, zU, zU, zU, zU, zU, zU, zU, zU, zU, zU, zU, zU, zU, zU, zU] [])) _
    refine XS.aload X7.here hx rfl (hb hby at_91) rfl rfl ?_
    refine XS.ifnonnullYes X7.here hx rfl (pc0 := 93) (pc' := 98) rfl (hb hby at_93) rfl (by decide) (by decide) ?_
    exact kt
  exact ⟨T7, T1.vm, _, _, ex1, ms1, mv1, mk1, X7, hS1, (by rw [e7]; exact (hkc1)), hZ1, hown1, (by rw [e7]; exact hCR2), (by rw [e7]; exact Kk1), N7, (by rw [e7]; exact Sm1), fun target kt => pre8 target kt⟩
set_option maxRecDepth 65536 in
set_option maxHeartbeats 40000000 in
theorem lw2 {p : Program} {l : Launch} {e : Env} {s : State} {m : MethodId} {args : Array Value} {below : List Frame} {meth : Method} {c : Code} {T0 : State} {locs : List Loc} {Z : State} {a0 : Array Value} {h0 : Heap} {vm0 : Vm} {k0 : Nat} (qa qb : Int64) (pa pb : Int32) (hh : Int64) (sm : Int32) (mm : Int64) (xx : Int64) (nn sz : Nat) (ee ms mv : Addr) (mk : ClassId) (X0 : Stand p l e room_1 (s.setVm vm0) m args below meth c T0 locs 14 4200) (hx : p.tables.exec = Jvm.exec) (hZ : Z.Warmed39 vm0) (hw : ∀ d ∈ tables_1, d.before a0 Z = true) (hby : c.code = code) (hml : c.maxLocals = 32) (hown : vm0.findClass "com/example/tollplan/tollplan/CommandExceptionOutOfMemoryPinLaw" = some m.cls) (e0 : T0.heap = h0) (hS0 : s.Since vm0 k0) (hk0 : k0 ≤ h0.size) (hEL : EW Z a0 consts_1) (hCH : CHv Z consts_1 vm0 h0) (hTK : s.vm.MethodsKnown) (hBelow : s.vm.FramesKnown below) (n0 : Nat) (hz : Z.heap.size ≤ n0) (hl : l.stackTraces = true) (THz : ThS Z Z.heap) (u1 u2 : Value) (hu1 : u1.isRef = true) (hu2 : u2.isRef = true) (S_Uz : Sta Z Z.heap "java/lang/Throwable" "UNASSIGNED_STACK" "[Ljava/lang/StackTraceElement;" u1) (S_Nz : Sta Z Z.heap "java/lang/Throwable" "SUPPRESSED_SENTINEL" "Ljava/util/List;" u2) (kL : Addr) (S_Lz : Sta Z Z.heap "com/example/tollplan/tollplan/CommandException$Kind" "LOCAL" "Lcom/example/tollplan/tollplan/CommandException$Kind;" (.ref kL)) (stI dgA dgB : Addr) (DgA DgB : Cell) (tbA : SBG.Tbl Z "DigitOnes" stI dgA DgA) (tbB : SBG.Tbl Z "DigitTens" stI dgB DgB) (onA : SBG.Ones DgA) (teB : SBG.Tens DgB) (cs : Int32) (hcs : ¬ cs = (0 : Int32)) (S_Cz : Sta Z Z.heap "java/lang/String" "COMPACT_STRINGS" "Z" (.int cs)) (fm : Value) (hfm : fm.isRef = true) (S_Fz : Sta Z Z.heap "jdk/internal/util/Preconditions" "SIOOBE_FORMATTER" "Ljava/util/function/BiFunction;" fm) (N0 : Fr n0 locs) (Z0 : n0 ≤ h0.size) (KZ : Keep Z.heap h0 []) (hnn : nn ≤ 2 ^ 63) (hxn : (if xx < 0 then xx else -xx) = SBG.negL nn) (hsz : SBG.digitsL nn + SBG.GetCharsL.sgnL xx = sz) (hn18 : nn < 10 ^ 18) (R_m : SB Z h0 ms mv mk (59 + sz + 33) (fun i => Int32.ofNat ((txt xx nn sz) i))) :
    ∃ (T' : State) (vm' : Vm) (k' : Nat) (locs' : List Loc) (aP bP aS bS : Addr) (kP kS : ClassId) (sg : Int32) (mg : Int64), Stand p l e room_1 (s.setVm vm') m args below meth c T' locs' 18 4688 ∧ s.Since vm' k' ∧ k' ≤ T'.heap.size ∧ Z.Warmed39 vm' ∧ vm'.findClass "com/example/tollplan/tollplan/CommandExceptionOutOfMemoryPinLaw" = some m.cls ∧ CHr Z consts_1 vm0 h0 vm' T'.heap ∧ Keep h0 T'.heap [] ∧ Fr n0 locs' ∧ SB Z T'.heap ms mv mk (59 + sz + 33) (fun i => Int32.ofNat ((txt xx nn sz) i)) ∧ SB Z T'.heap aP bP kP 59 (fun i => Int32.ofNat ((fun i => preL.getD i 0) i)) ∧ SB Z T'.heap aS bS kS 33 (fun i => Int32.ofNat ((fun i => sufL.getD i 0) i)) ∧ mg.toInt = nn ∧ ((sg = 0 ∧ ¬ xx < 0) ∨ (sg = 1 ∧ xx < 0)) ∧ ∀ target, Steps p.tables e below (T'.setTop (mkF m 142 #[vJ qa, zS, vJ qb, zS, vI pa, vI pb, vJ hh, zS, vI sm, vJ mm, zS, vJ xx, zS, vR ee, vR ms, vR aP, vR aS, vI sg, vJ mg, zS, vI (Int32.ofNat (SBG.digitsL nn)), zU, zU, zU, zU, zU, zU, zU, zU, zU, zU, zU] [])) target → Steps p.tables e below (T0.setTop (mkF m 98 #[vJ qa, zS, vJ qb, zS, vI pa, vI pb, vJ hh, zS, vI sm, vJ mm, zS, vJ xx, zS, vR ee, vR ms, zU, zU, zU, zU, zU, zU, zU, zU, zU, zU, zU, zU, zU, zU, zU, zU, zU] [])) target := by
  have hCR0 : CHr Z consts_1 vm0 h0 vm0 h0 := CHr.refl hCH
  have hTKs : (s.setVm vm0).vm.MethodsKnown := Vm.MethodsKnown.alikeC hS0.1.alike hTK
  have hBls : (s.setVm vm0).vm.FramesKnown below := Vm.FramesKnown.alikeC hS0.1.alike hBelow
  have pre0 : ∀ t, Steps p.tables e below (T0.setTop (mkF m 98 #[vJ qa, zS, vJ qb, zS, vI pa, vI pb, vJ hh, zS, vI sm, vJ mm, zS, vJ xx, zS, vR ee, vR ms, zU, zU, zU, zU, zU, zU, zU, zU, zU, zU, zU, zU, zU, zU, zU, zU, zU] [])) t → Steps p.tables e below (T0.setTop (mkF m 98 #[vJ qa, zS, vJ qb, zS, vI pa, vI pb, vJ hh, zS, vI sm, vJ mm, zS, vJ xx, zS, vR ee, vR ms, zU, zU, zU, zU, zU, zU, zU, zU, zU, zU, zU, zU, zU, zU, zU, zU, zU] [])) t := fun _ k => k
  have S_C := own_sta_keep S_Cz KZ all0
  have S_F := own_sta_keep S_Fz KZ all0
  have S_U := own_sta_keep S_Uz KZ all0
  have S_N := own_sta_keep S_Nz KZ all0
  have S_L := own_sta_keep S_Lz KZ all0
  have TH := ThS.keep KZ (own_nst all0) THz
  have hmag := own_mag hn18 hxn
  have hdg := own_digits hnn
  obtain ⟨a1, T1, h1, kk1, bb1, kb1, X1, e1, E1, hS1, hk1, hZ1, hown1, Ex1, Fc1, Fv1, Va1, la1, lb1, hC1, Lt1, sf1, st1⟩ := ldcCH (s := s) X0 hx hZ hown (wd hw 245 rfl) (own_strings hw) e0 hS0 hk0 hEL (by decide) hCR0.1 (vs := (preL.map fun u => Value.int (Int32.ofNat u))) (z := (59 : Int32)) ⟨by decide +kernel, by decide +kernel⟩ (by decide) (by decide +kernel) (g := (mkF m 98 #[vJ qa, zS, vJ qb, zS, vI pa, vI pb, vJ hh, zS, vI sm, vJ mm, zS, vJ xx, zS, vR ee, vR ms, zU, zU, zU, zU, zU, zU, zU, zU, zU, zU, zU, zU, zU, zU, zU, zU, zU] [])) rfl (hb hby at_98) (n := 240) (by decide +kernel) (by decide) (by decide) (by decide)
  have Zs1 : n0 ≤ h1.size := Nat.le_trans Z0 E1.1
  have K1 : Keep h0 h1 [] := (Keep.refl h0 []).ext E1
  have hCR2 : CHr Z consts_1 vm0 h0 T1.vm h1 := hCR0.trans hC1
  have hTK1 : (s.setVm T1.vm).vm.MethodsKnown := Vm.MethodsKnown.alikeC hS1.1.alike hTK
  have hBl1 : (s.setVm T1.vm).vm.FramesKnown below := Vm.FramesKnown.alikeC hS1.1.alike hBelow
  obtain ⟨a3, T3, h3, kk3, bb3, kb3, X3, e3, E3, hS3, hk3, hZ3, hown3, Ex3, Fc3, Fv3, Va3, la3, lb3, hC3, Lt3, sf3, st3⟩ := ldcCH (s := s) X1 hx hZ1 hown1 (wd hw 246 rfl) (own_strings hw) e1 hS1 hk1 hEL (by decide) hCR2.1 (vs := (sufL.map fun u => Value.int (Int32.ofNat u))) (z := (33 : Int32)) ⟨by decide +kernel, by decide +kernel⟩ (by decide) (by decide +kernel) (g := (mkF m 102 #[vJ qa, zS, vJ qb, zS, vI pa, vI pb, vJ hh, zS, vI sm, vJ mm, zS, vJ xx, zS, vR ee, vR ms, vR a1, zU, zU, zU, zU, zU, zU, zU, zU, zU, zU, zU, zU, zU, zU, zU, zU] [])) rfl (hb hby at_102) (n := 240) (by decide +kernel) (by decide) (by decide) (by decide)
  have Zs3 : n0 ≤ h3.size := Nat.le_trans Zs1 E3.1
  have K3 : Keep h0 h3 [] := K1.ext E3
  have hCR4 : CHr Z consts_1 vm0 h0 T3.vm h3 := hCR2.trans hC3
  have hTK3 : (s.setVm T3.vm).vm.MethodsKnown := Vm.MethodsKnown.alikeC hS3.1.alike hTK
  have hBl3 : (s.setVm T3.vm).vm.FramesKnown below := Vm.FramesKnown.alikeC hS3.1.alike hBelow
  have pre5 : ∀ t, Steps p.tables e below (T3.setTop (mkF m 110 #[vJ qa, zS, vJ qb, zS, vI pa, vI pb, vJ hh, zS, vI sm, vJ mm, zS, vJ xx, zS, vR ee, vR ms, vR a1, vR a3, zU, zU, zU, zU, zU, zU, zU, zU, zU, zU, zU, zU, zU, zU, zU] [(.int (lcmpW xx (0 : Int64)))])) t → Steps p.tables e below (T0.setTop (mkF m 98 #[vJ qa, zS, vJ qb, zS, vI pa, vI pb, vJ hh, zS, vI sm, vJ mm, zS, vJ xx, zS, vR ee, vR ms, zU, zU, zU, zU, zU, zU, zU, zU, zU, zU, zU, zU, zU, zU, zU, zU, zU] [])) t := by
    intro t kt
    refine pre0 t ?_
    refine st1 _ ?_
    refine XS.astore X1.here hx rfl (hb hby at_100) rfl rfl (l' := #[vJ qa, zS, vJ qb, zS, vI pa, vI pb, vJ hh, zS, vI sm, vJ mm, zS, vJ xx, zS, vR ee, vR ms, vR a1, zU, zU, zU, zU, zU, zU, zU, zU, zU, zU, zU, zU, zU, zU, zU, zU]) rfl ?_
    refine st3 _ ?_
    show Steps p.tables e below (T3.setTop (mkF m 104 #[vJ qa, zS, vJ qb, zS, vI pa, vI pb, vJ hh, zS, vI sm, vJ mm, zS, vJ xx, zS, vR ee, vR ms, vR a1, zU, zU, zU, zU, zU, zU, zU, zU, zU, zU, zU, zU, zU, zU, zU, zU] [(.ref a3)])) _
    refine XS.astore X3.here hx rfl (hb hby at_104) rfl rfl (l' := #[vJ qa, zS, vJ qb, zS, vI pa, vI pb, vJ hh, zS, vI sm, vJ mm, zS, vJ xx, zS, vR ee, vR ms, vR a1, vR a3, zU, zU, zU, zU, zU, zU, zU, zU, zU, zU, zU, zU, zU, zU, zU]) rfl ?_
    refine XS.lload X3.here hx rfl (hb hby at_106) rfl ?_
    refine XS.lconst X3.here hx rfl (hb hby at_108) ?_
    refine XS.lcmp X3.here hx rfl (hb hby at_109) rfl ?_
    exact kt
  by_cases hc6 : (lcmpW xx (0 : Int64)) < (0 : Int32)
  · skip
    have hc6' : xx < 0 := by have c := c_lcmp xx (0 : Int64); have e : (0 : Int64).toInt = 0 := rfl; rw [Int32.lt_iff_toInt_lt] at hc6; have e0 : (0 : Int32).toInt = 0 := rfl; rw [Int64.lt_iff_toInt_lt]; omega
    obtain ⟨_, _, ⟨T7, L7, k7, n7⟩, -, X7, ⟨Lc7, hQ7, l7, y7, z7⟩, st7⟩ := Jvm.LawKit.callS X3 hx (y := (⟨"com/example/tollplan/tollplan/CommandExceptionOutOfMemoryPinLaw", "digits", "(J)I"⟩ : MethodName)) hown3 (mvT hZ3 (wd hw 247 rfl)) (mvT hZ3 (wd hw 248 rfl)) (mvT hZ3 (wd hw 249 rfl)) (mvT hZ3 (wd hw 250 rfl)) (by decide) (backOf (W := 0) (dDg l Z a0 hw [] (-xx) nn (SBG.digitsL nn) (hmag.1 hc6').1 hdg.1 hdg.2 (SBG.digitsL_pos nn).1 (Nat.lt_of_lt_of_le hn18 (by decide)) h3 n0 Zs3) hZ3 (wd hw 250 rfl) (wd hw 249 rfl) (by decide) (by decide)) (g := (mkF m 137 #[vJ qa, zS, vJ qb, zS, vI pa, vI pb, vJ hh, zS, vI sm, vJ mm, zS, vJ xx, zS, vR ee, vR ms, vR a1, vR a3, vI (1 : Int32), vJ (-xx), zS, zU, zU, zU, zU, zU, zU, zU, zU, zU, zU, zU, zU] [(.long (-xx))])) rfl (by rw [hml]; rfl) (argsL := [(.long (-xx))]) (rest := []) (lenOf pd__J_I rfl) rfl (by show 2 * 0 + _ ≤ _; exact Nat.le_of_eq rfl) (hb hby at_137) (fun _ _ => ⟨rfl, e3, (by decide : 18 + 0 ≤ _), (by decide : 4688 + 0 ≤ _)⟩)
    dsimp only [Pt.U, Pt.locs, Pt.cells, Pt.slots] at X7 l7 y7 z7 st7 hQ7
    rw [l7, y7, z7] at X7
    obtain ⟨rfl, N7q, e7⟩ := hQ7
    have N7 := Fr.app N0 N7q
    have pre8 : ∀ t, Steps p.tables e below (T7.setTop (mkF m 142 #[vJ qa, zS, vJ qb, zS, vI pa, vI pb, vJ hh, zS, vI sm, vJ mm, zS, vJ xx, zS, vR ee, vR ms, vR a1, vR a3, vI (1 : Int32), vJ (-xx), zS, vI (Int32.ofNat (SBG.digitsL nn)), zU, zU, zU, zU, zU, zU, zU, zU, zU, zU, zU] [])) t → Steps p.tables e below (T0.setTop (mkF m 98 #[vJ qa, zS, vJ qb, zS, vI pa, vI pb, vJ hh, zS, vI sm, vJ mm, zS, vJ xx, zS, vR ee, vR ms, zU, zU, zU, zU, zU, zU, zU, zU, zU, zU, zU, zU, zU, zU, zU, zU, zU] [])) t := by
      intro t kt
      refine pre5 t ?_
      show Steps p.tables e below (T3.setTop (mkF m 110 #[vJ qa, zS, vJ qb, zS, vI pa, vI pb, vJ hh, zS, vI sm, vJ mm, zS, vJ xx, zS, vR ee, vR ms, vR a1, vR a3, zU, zU, zU, zU, zU, zU, zU, zU, zU, zU, zU, zU, zU, zU, zU] [(.int (lcmpW xx (0 : Int64)))])) _
      refine XS.ifNo X3.here hx rfl (hb hby at_110) rfl ((if0 _ _).trans (tlt hc6).2.1) ?_
      refine XS.iconst X3.here hx rfl (hb hby at_113) ?_
      refine XS.goto X3.here hx rfl (pc0 := 114) (pc' := 118) rfl (hb hby at_114) (by decide) (by decide) ?_
      refine XS.istore X3.here hx rfl (hb hby at_118) rfl (l' := #[vJ qa, zS, vJ qb, zS, vI pa, vI pb, vJ hh, zS, vI sm, vJ mm, zS, vJ xx, zS, vR ee, vR ms, vR a1, vR a3, vI (1 : Int32), zU, zU, zU, zU, zU, zU, zU, zU, zU, zU, zU, zU, zU, zU]) rfl ?_
      show Steps p.tables e below (T3.setTop (mkF m 120 #[vJ qa, zS, vJ qb, zS, vI pa, vI pb, vJ hh, zS, vI sm, vJ mm, zS, vJ xx, zS, vR ee, vR ms, vR a1, vR a3, vI (1 : Int32), zU, zU, zU, zU, zU, zU, zU, zU, zU, zU, zU, zU, zU, zU] [])) _
      refine XS.iload X3.here hx rfl (hb hby at_120) rfl ?_
      refine XS.ifNo X3.here hx rfl (hb hby at_122) rfl ((if0 _ _).trans (feq (by decide : ¬ ((1 : Int32) = (0 : Int32)))).1) ?_
      refine XS.lload X3.here hx rfl (hb hby at_125) rfl ?_
      refine XS.lneg X3.here hx rfl (hb hby at_127) rfl ?_
      show Steps p.tables e below (T3.setTop (mkF m 128 #[vJ qa, zS, vJ qb, zS, vI pa, vI pb, vJ hh, zS, vI sm, vJ mm, zS, vJ xx, zS, vR ee, vR ms, vR a1, vR a3, vI (1 : Int32), zU, zU, zU, zU, zU, zU, zU, zU, zU, zU, zU, zU, zU, zU] [(.long (-xx))])) _
      refine XS.goto X3.here hx rfl (pc0 := 128) (pc' := 133) rfl (hb hby at_128) (by decide) (by decide) ?_
      refine XS.lstore X3.here hx rfl (hb hby at_133) rfl (l' := #[vJ qa, zS, vJ qb, zS, vI pa, vI pb, vJ hh, zS, vI sm, vJ mm, zS, vJ xx, zS, vR ee, vR ms, vR a1, vR a3, vI (1 : Int32), vJ (-xx), zS, zU, zU, zU, zU, zU, zU, zU, zU, zU, zU, zU, zU]) rfl ?_
      refine XS.lload X3.here hx rfl (hb hby at_135) rfl ?_
      refine st7 _ ?_
      show Steps p.tables e below (T7.setTop (mkF m 140 #[vJ qa, zS, vJ qb, zS, vI pa, vI pb, vJ hh, zS, vI sm, vJ mm, zS, vJ xx, zS, vR ee, vR ms, vR a1, vR a3, vI (1 : Int32), vJ (-xx), zS, zU, zU, zU, zU, zU, zU, zU, zU, zU, zU, zU, zU] [(.int (Int32.ofNat (SBG.digitsL nn)))])) _
      refine XS.istore X7.here hx rfl (hb hby at_140) rfl (l' := #[vJ qa, zS, vJ qb, zS, vI pa, vI pb, vJ hh, zS, vI sm, vJ mm, zS, vJ xx, zS, vR ee, vR ms, vR a1, vR a3, vI (1 : Int32), vJ (-xx), zS, vI (Int32.ofNat (SBG.digitsL nn)), zU, zU, zU, zU, zU, zU, zU, zU, zU, zU, zU]) rfl ?_
      exact kt
    have Ex1_9 := (Ex1.ext E3)
    have Fc1_10 := (Fc1.ext E3)
    have Fv1_11 := (Fv1.ext E3)
    have Va1_12 := (Va1.ext E3)
    exact ⟨T7, T3.vm, _, _, a1, bb1, a3, bb3, kb1, kb3, _, _, X7, hS3, (by rw [e7]; exact hk3), hZ3, hown3, (by rw [e7]; exact hCR4), (by rw [e7]; exact K3), N7, (by rw [e7]; exact (R_m.keep K3 nin0 nin0)), (by rw [e7]; exact ⟨Ex1_9, Fc1_10, Fv1_11, own_arvN (us := preL) Va1_12 rfl⟩), (by rw [e7]; exact ⟨Ex3, Fc3, Fv3, own_arvN (us := sufL) Va3 rfl⟩), (hmag.1 hc6').1, Or.inr ⟨rfl, hc6'⟩, fun target kt => pre8 target kt⟩
  · skip
    have hc6' : ¬ xx < 0 := by have c := c_lcmp xx (0 : Int64); have e : (0 : Int64).toInt = 0 := rfl; rw [Int32.lt_iff_toInt_lt] at hc6; have e0 : (0 : Int32).toInt = 0 := rfl; rw [Int64.lt_iff_toInt_lt]; omega
    obtain ⟨_, _, ⟨T13, L13, k13, n13⟩, -, X13, ⟨Lc13, hQ13, l13, y13, z13⟩, st13⟩ := Jvm.LawKit.callS X3 hx (y := (⟨"com/example/tollplan/tollplan/CommandExceptionOutOfMemoryPinLaw", "digits", "(J)I"⟩ : MethodName)) hown3 (mvT hZ3 (wd hw 247 rfl)) (mvT hZ3 (wd hw 248 rfl)) (mvT hZ3 (wd hw 249 rfl)) (mvT hZ3 (wd hw 250 rfl)) (by decide) (backOf (W := 0) (dDg l Z a0 hw [] xx nn (SBG.digitsL nn) (hmag.2 hc6') hdg.1 hdg.2 (SBG.digitsL_pos nn).1 (Nat.lt_of_lt_of_le hn18 (by decide)) h3 n0 Zs3) hZ3 (wd hw 250 rfl) (wd hw 249 rfl) (by decide) (by decide)) (g := (mkF m 137 #[vJ qa, zS, vJ qb, zS, vI pa, vI pb, vJ hh, zS, vI sm, vJ mm, zS, vJ xx, zS, vR ee, vR ms, vR a1, vR a3, vI (0 : Int32), vJ xx, zS, zU, zU, zU, zU, zU, zU, zU, zU, zU, zU, zU, zU] [(.long xx)])) rfl (by rw [hml]; rfl) (argsL := [(.long xx)]) (rest := []) (lenOf pd__J_I rfl) rfl (by show 2 * 0 + _ ≤ _; exact Nat.le_of_eq rfl) (hb hby at_137) (fun _ _ => ⟨rfl, e3, (by decide : 18 + 0 ≤ _), (by decide : 4688 + 0 ≤ _)⟩)
    dsimp only [Pt.U, Pt.locs, Pt.cells, Pt.slots] at X13 l13 y13 z13 st13 hQ13
    rw [l13, y13, z13] at X13
    obtain ⟨rfl, N13q, e13⟩ := hQ13
    have N13 := Fr.app N0 N13q
    have pre14 : ∀ t, Steps p.tables e below (T13.setTop (mkF m 142 #[vJ qa, zS, vJ qb, zS, vI pa, vI pb, vJ hh, zS, vI sm, vJ mm, zS, vJ xx, zS, vR ee, vR ms, vR a1, vR a3, vI (0 : Int32), vJ xx, zS, vI (Int32.ofNat (SBG.digitsL nn)), zU, zU, zU, zU, zU, zU, zU, zU, zU, zU, zU] [])) t → Steps p.tables e below (T0.setTop (mkF m 98 #[vJ qa, zS, vJ qb, zS, vI pa, vI pb, vJ hh, zS, vI sm, vJ mm, zS, vJ xx, zS, vR ee, vR ms, zU, zU, zU, zU, zU, zU, zU, zU, zU, zU, zU, zU, zU, zU, zU, zU, zU] [])) t := by
      intro t kt
      refine pre5 t ?_
      refine XS.ifYes X3.here hx rfl (pc0 := 110) (pc' := 117) rfl (hb hby at_110) rfl ((if0 _ _).trans (flt hc6).2.1) (by decide) (by decide) ?_
      refine XS.iconst X3.here hx rfl (hb hby at_117) ?_
      refine XS.istore X3.here hx rfl (hb hby at_118) rfl (l' := #[vJ qa, zS, vJ qb, zS, vI pa, vI pb, vJ hh, zS, vI sm, vJ mm, zS, vJ xx, zS, vR ee, vR ms, vR a1, vR a3, vI (0 : Int32), zU, zU, zU, zU, zU, zU, zU, zU, zU, zU, zU, zU, zU, zU]) rfl ?_
      show Steps p.tables e below (T3.setTop (mkF m 120 #[vJ qa, zS, vJ qb, zS, vI pa, vI pb, vJ hh, zS, vI sm, vJ mm, zS, vJ xx, zS, vR ee, vR ms, vR a1, vR a3, vI (0 : Int32), zU, zU, zU, zU, zU, zU, zU, zU, zU, zU, zU, zU, zU, zU] [])) _
      refine XS.iload X3.here hx rfl (hb hby at_120) rfl ?_
      refine XS.ifYes X3.here hx rfl (pc0 := 122) (pc' := 131) rfl (hb hby at_122) rfl ((if0 _ _).trans (teq (by decide : (0 : Int32) = (0 : Int32))).1) (by decide) (by decide) ?_
      refine XS.lload X3.here hx rfl (hb hby at_131) rfl ?_
      refine XS.lstore X3.here hx rfl (hb hby at_133) rfl (l' := #[vJ qa, zS, vJ qb, zS, vI pa, vI pb, vJ hh, zS, vI sm, vJ mm, zS, vJ xx, zS, vR ee, vR ms, vR a1, vR a3, vI (0 : Int32), vJ xx, zS, zU, zU, zU, zU, zU, zU, zU, zU, zU, zU, zU, zU]) rfl ?_
      show Steps p.tables e below (T3.setTop (mkF m 135 #[vJ qa, zS, vJ qb, zS, vI pa, vI pb, vJ hh, zS, vI sm, vJ mm, zS, vJ xx, zS, vR ee, vR ms, vR a1, vR a3, vI (0 : Int32), vJ xx, zS, zU, zU, zU, zU, zU, zU, zU, zU, zU, zU, zU, zU] [])) _
      refine XS.lload X3.here hx rfl (hb hby at_135) rfl ?_
      refine st13 _ ?_
      refine XS.istore X13.here hx rfl (hb hby at_140) rfl (l' := #[vJ qa, zS, vJ qb, zS, vI pa, vI pb, vJ hh, zS, vI sm, vJ mm, zS, vJ xx, zS, vR ee, vR ms, vR a1, vR a3, vI (0 : Int32), vJ xx, zS, vI (Int32.ofNat (SBG.digitsL nn)), zU, zU, zU, zU, zU, zU, zU, zU, zU, zU, zU]) rfl ?_
      exact kt
    have Ex1_15 := (Ex1.ext E3)
    have Fc1_16 := (Fc1.ext E3)
    have Fv1_17 := (Fv1.ext E3)
    have Va1_18 := (Va1.ext E3)
    exact ⟨T13, T3.vm, _, _, a1, bb1, a3, bb3, kb1, kb3, _, _, X13, hS3, (by rw [e13]; exact hk3), hZ3, hown3, (by rw [e13]; exact hCR4), (by rw [e13]; exact K3), N13, (by rw [e13]; exact (R_m.keep K3 nin0 nin0)), (by rw [e13]; exact ⟨Ex1_15, Fc1_16, Fv1_17, own_arvN (us := preL) Va1_18 rfl⟩), (by rw [e13]; exact ⟨Ex3, Fc3, Fv3, own_arvN (us := sufL) Va3 rfl⟩), (hmag.2 hc6'), Or.inl ⟨rfl, hc6'⟩, fun target kt => pre14 target kt⟩
theorem own_pnz {e : Nat} (h : e < 19) : Int64.ofNat (10 ^ e) ≠ 0 := by
  have : ∀ k, k < 19 → Int64.ofNat (10 ^ k) ≠ 0 := by decide +kernel
  exact this e h
theorem pd__I_C : parseMethodDescriptor "(I)C" = some ⟨[.int], some .char⟩ := by decide +kernel
set_option maxRecDepth 65536 in
set_option maxHeartbeats 40000000 in
theorem lw3p {p : Program} {l : Launch} {e : Env} {s : State} {m : MethodId} {args : Array Value} {below : List Frame} {meth : Method} {c : Code} {T0 : State} {locs : List Loc} {Z : State} {a0 : Array Value} {h0 : Heap} (qa qb : Int64) (pa pb : Int32) (hh : Int64) (sm : Int32) (mm : Int64) (xx : Int64) (nn sz : Nat) (ee ms mv : Addr) (mk : ClassId) (aP bP aS bS : Addr) (kP kS : ClassId) (mg : Int64) (X0 : Stand p l e room_1 s m args below meth c T0 locs 18 4688) (hx : p.tables.exec = Jvm.exec) (hZ : Z.Warmed39 s.vm) (hw : ∀ d ∈ tables_1, d.before a0 Z = true) (hby : c.code = code) (hml : c.maxLocals = 32) (hown : s.vm.findClass "com/example/tollplan/tollplan/CommandExceptionOutOfMemoryPinLaw" = some m.cls) (e0 : T0.heap = h0) (n0 : Nat) (hz : Z.heap.size ≤ n0) (hl : l.stackTraces = true) (THz : ThS Z Z.heap) (u1 u2 : Value) (hu1 : u1.isRef = true) (hu2 : u2.isRef = true) (S_Uz : Sta Z Z.heap "java/lang/Throwable" "UNASSIGNED_STACK" "[Ljava/lang/StackTraceElement;" u1) (S_Nz : Sta Z Z.heap "java/lang/Throwable" "SUPPRESSED_SENTINEL" "Ljava/util/List;" u2) (kL : Addr) (S_Lz : Sta Z Z.heap "com/example/tollplan/tollplan/CommandException$Kind" "LOCAL" "Lcom/example/tollplan/tollplan/CommandException$Kind;" (.ref kL)) (stI dgA dgB : Addr) (DgA DgB : Cell) (tbA : SBG.Tbl Z "DigitOnes" stI dgA DgA) (tbB : SBG.Tbl Z "DigitTens" stI dgB DgB) (onA : SBG.Ones DgA) (teB : SBG.Tens DgB) (cs : Int32) (hcs : ¬ cs = (0 : Int32)) (S_Cz : Sta Z Z.heap "java/lang/String" "COMPACT_STRINGS" "Z" (.int cs)) (fm : Value) (hfm : fm.isRef = true) (S_Fz : Sta Z Z.heap "jdk/internal/util/Preconditions" "SIOOBE_FORMATTER" "Ljava/util/function/BiFunction;" fm) (N0 : Fr n0 locs) (Z0 : n0 ≤ h0.size) (KZ : Keep Z.heap h0 []) (hnn : nn ≤ 2 ^ 63) (hxn : (if xx < 0 then xx else -xx) = SBG.negL nn) (hsz : SBG.digitsL nn + SBG.GetCharsL.sgnL xx = sz) (hn18 : nn < 10 ^ 18) (R_m : SB Z h0 ms mv mk (59 + sz + 33) (fun i => Int32.ofNat ((txt xx nn sz) i))) (R_p : SB Z h0 aP bP kP 59 (fun i => Int32.ofNat ((fun i => preL.getD i 0) i))) (R_s : SB Z h0 aS bS kS 33 (fun i => Int32.ofNat ((fun i => sufL.getD i 0) i))) (hmg : mg.toInt = nn) (hng : ¬ xx < 0) :
    ∃ (T' : State) (locs' : List Loc) (a21 : Addr) (c24 c25 : Int32), Stand p l e room_1 s m args below meth c T' locs' 19 4707 ∧ Keep h0 T'.heap [] ∧ Fr n0 locs' ∧ ∀ target, Steps p.tables e below (T'.setTop (mkF m 470 #[vJ qa, zS, vJ qb, zS, vI pa, vI pb, vJ hh, zS, vI sm, vJ mm, zS, vJ xx, zS, vR ee, vR ms, vR aP, vR aS, vI (0 : Int32), vJ mg, zS, vI (Int32.ofNat (SBG.digitsL nn)), vR a21, vI (Int32.ofNat 59), vI (Int32.ofNat sz), vI c24, vI c25, zU, zU, zU, zU, zU, zU] [])) target → Steps p.tables e below (T0.setTop (mkF m 142 #[vJ qa, zS, vJ qb, zS, vI pa, vI pb, vJ hh, zS, vI sm, vJ mm, zS, vJ xx, zS, vR ee, vR ms, vR aP, vR aS, vI (0 : Int32), vJ mg, zS, vI (Int32.ofNat (SBG.digitsL nn)), zU, zU, zU, zU, zU, zU, zU, zU, zU, zU, zU] [])) target := by
  have pre0 : ∀ t, Steps p.tables e below (T0.setTop (mkF m 142 #[vJ qa, zS, vJ qb, zS, vI pa, vI pb, vJ hh, zS, vI sm, vJ mm, zS, vJ xx, zS, vR ee, vR ms, vR aP, vR aS, vI (0 : Int32), vJ mg, zS, vI (Int32.ofNat (SBG.digitsL nn)), zU, zU, zU, zU, zU, zU, zU, zU, zU, zU, zU] [])) t → Steps p.tables e below (T0.setTop (mkF m 142 #[vJ qa, zS, vJ qb, zS, vI pa, vI pb, vJ hh, zS, vI sm, vJ mm, zS, vJ xx, zS, vR ee, vR ms, vR aP, vR aS, vI (0 : Int32), vJ mg, zS, vI (Int32.ofNat (SBG.digitsL nn)), zU, zU, zU, zU, zU, zU, zU, zU, zU, zU, zU] [])) t := fun _ k => k
  have S_C := own_sta_keep S_Cz KZ all0
  have S_F := own_sta_keep S_Fz KZ all0
  have S_U := own_sta_keep S_Uz KZ all0
  have S_N := own_sta_keep S_Nz KZ all0
  have S_L := own_sta_keep S_Lz KZ all0
  have TH := ThS.keep KZ (own_nst all0) THz
  have hsg : SBG.GetCharsL.sgnL xx = 0 := sgn0 hng
  have hdp := (SBG.digitsL_pos nn).1
  have hd18 := own_dle hn18
  have hszn : sz ≤ 19 := by omega
  have E_ms := R_m.1
  have E_aP := R_p.1
  have E_aS := R_s.1
  obtain ⟨T1, h1, k1, X1, e1, E1, A1, st1⟩ := newP X0 hx hZ (wd hw 252 rfl) e0 (g := (mkF m 144 #[vJ qa, zS, vJ qb, zS, vI pa, vI pb, vJ hh, zS, vI sm, vJ mm, zS, vJ xx, zS, vR ee, vR ms, vR aP, vR aS, vI (0 : Int32), vJ mg, zS, vI (Int32.ofNat (SBG.digitsL nn)), zU, zU, zU, zU, zU, zU, zU, zU, zU, zU, zU] [(.int (19 : Int32))])) rfl (hb hby at_144) rfl (by decide) (cap := 19) (by decide) (by decide) (by decide) (by decide)
  obtain ⟨b1, g1⟩ : ∃ z, z = h0.size := ⟨_, rfl⟩
  rw [← g1] at A1 st1
  have g_b1 : n0 ≤ b1 := Nat.le_trans Z0 (Nat.le_of_eq g1.symm)
  have sz_b1 : h0.size ≤ b1 := Nat.le_trans (Keep.refl h0 []).1 (Nat.le_of_eq g1.symm)
  have Zs1 : n0 ≤ h1.size := Nat.le_trans Z0 E1.1
  have K1 : Keep h0 h1 [] := (Keep.refl h0 []).ext E1
  have V1 : Arv Z h1 b1 k1 .long (19 : Int32) [(.long (0 : Int64)), (.long (0 : Int64)), (.long (0 : Int64)), (.long (0 : Int64)), (.long (0 : Int64)), (.long (0 : Int64)), (.long (0 : Int64)), (.long (0 : Int64)), (.long (0 : Int64)), (.long (0 : Int64)), (.long (0 : Int64)), (.long (0 : Int64)), (.long (0 : Int64)), (.long (0 : Int64)), (.long (0 : Int64)), (.long (0 : Int64)), (.long (0 : Int64)), (.long (0 : Int64)), (.long (0 : Int64))] (.long (0 : Int64)) := (Arv.new A1 (by decide)).pad (pad_rep [] (.long (0 : Int64)) 19)
  obtain ⟨cl2, Ar2, qa2, Sa2, Na2, Ha2, Ga2⟩ := id V1
  have hin2 : ¬ ((0 : Int32) < 0 ∨ cl2.slots.size ≤ ((0 : Int32)).toNatClampNeg) := inb_of Sa2 ⟨by decide, by decide⟩
  obtain ⟨T3, h3, X3, e3, W3, st3⟩ := stJ X1 hx hZ e1 Ar2 (j := (0 : Int32)) hin2 (g := (mkF m 149 #[vJ qa, zS, vJ qb, zS, vI pa, vI pb, vJ hh, zS, vI sm, vJ mm, zS, vJ xx, zS, vR ee, vR ms, vR aP, vR aS, vI (0 : Int32), vJ mg, zS, vI (Int32.ofNat (SBG.digitsL nn)), zU, zU, zU, zU, zU, zU, zU, zU, zU, zU, zU] [(.long (1 : Int64)), (.int (0 : Int32)), (.ref b1), (.ref b1)])) rfl rfl (hb hby at_149)
  have V3 : Arv Z h3 b1 k1 .long (19 : Int32) [(.long (1 : Int64)), (.long (0 : Int64)), (.long (0 : Int64)), (.long (0 : Int64)), (.long (0 : Int64)), (.long (0 : Int64)), (.long (0 : Int64)), (.long (0 : Int64)), (.long (0 : Int64)), (.long (0 : Int64)), (.long (0 : Int64)), (.long (0 : Int64)), (.long (0 : Int64)), (.long (0 : Int64)), (.long (0 : Int64)), (.long (0 : Int64)), (.long (0 : Int64)), (.long (0 : Int64)), (.long (0 : Int64))] (.long (0 : Int64)) := Arv.set Ar2 qa2 Sa2 Na2 Ha2 Ga2 rfl W3 0 rfl (Nat.le_of_ble_eq_true rfl)
  have Zs3 : n0 ≤ h3.size := Nat.le_trans Zs1 (Nat.le_of_eq W3.size.symm)
  have K3 : Keep h0 h3 [] := K1.wr W3 (Or.inr sz_b1)
  have N3 := Fr.snoc X3 N0 g_b1
  obtain ⟨cl4, Ar4, qa4, Sa4, Na4, Ha4, Ga4⟩ := id V3
  have hin4 : ¬ ((1 : Int32) < 0 ∨ cl4.slots.size ≤ ((1 : Int32)).toNatClampNeg) := inb_of Sa4 ⟨by decide, by decide⟩
  obtain ⟨T5, h5, X5, e5, W5, st5⟩ := stJ X3 hx hZ e3 Ar4 (j := (1 : Int32)) hin4 (g := (mkF m 155 #[vJ qa, zS, vJ qb, zS, vI pa, vI pb, vJ hh, zS, vI sm, vJ mm, zS, vJ xx, zS, vR ee, vR ms, vR aP, vR aS, vI (0 : Int32), vJ mg, zS, vI (Int32.ofNat (SBG.digitsL nn)), zU, zU, zU, zU, zU, zU, zU, zU, zU, zU, zU] [(.long (10 : Int64)), (.int (1 : Int32)), (.ref b1), (.ref b1)])) rfl rfl (hb hby at_155)
  have V5 : Arv Z h5 b1 k1 .long (19 : Int32) [(.long (1 : Int64)), (.long (10 : Int64)), (.long (0 : Int64)), (.long (0 : Int64)), (.long (0 : Int64)), (.long (0 : Int64)), (.long (0 : Int64)), (.long (0 : Int64)), (.long (0 : Int64)), (.long (0 : Int64)), (.long (0 : Int64)), (.long (0 : Int64)), (.long (0 : Int64)), (.long (0 : Int64)), (.long (0 : Int64)), (.long (0 : Int64)), (.long (0 : Int64)), (.long (0 : Int64)), (.long (0 : Int64))] (.long (0 : Int64)) := Arv.set Ar4 qa4 Sa4 Na4 Ha4 Ga4 rfl W5 1 rfl (Nat.le_of_ble_eq_true rfl)
  have Zs5 : n0 ≤ h5.size := Nat.le_trans Zs3 (Nat.le_of_eq W5.size.symm)
  have K5 : Keep h0 h5 [] := K3.wr W5 (Or.inr sz_b1)
  have N5 := Fr.snoc X5 N3 g_b1
  obtain ⟨cl6, Ar6, qa6, Sa6, Na6, Ha6, Ga6⟩ := id V5
  have hin6 : ¬ ((2 : Int32) < 0 ∨ cl6.slots.size ≤ ((2 : Int32)).toNatClampNeg) := inb_of Sa6 ⟨by decide, by decide⟩
  obtain ⟨T7, h7, X7, e7, W7, st7⟩ := stJ X5 hx hZ e5 Ar6 (j := (2 : Int32)) hin6 (g := (mkF m 161 #[vJ qa, zS, vJ qb, zS, vI pa, vI pb, vJ hh, zS, vI sm, vJ mm, zS, vJ xx, zS, vR ee, vR ms, vR aP, vR aS, vI (0 : Int32), vJ mg, zS, vI (Int32.ofNat (SBG.digitsL nn)), zU, zU, zU, zU, zU, zU, zU, zU, zU, zU, zU] [(.long (100 : Int64)), (.int (2 : Int32)), (.ref b1), (.ref b1)])) rfl rfl (hb hby at_161)
  have V7 : Arv Z h7 b1 k1 .long (19 : Int32) [(.long (1 : Int64)), (.long (10 : Int64)), (.long (100 : Int64)), (.long (0 : Int64)), (.long (0 : Int64)), (.long (0 : Int64)), (.long (0 : Int64)), (.long (0 : Int64)), (.long (0 : Int64)), (.long (0 : Int64)), (.long (0 : Int64)), (.long (0 : Int64)), (.long (0 : Int64)), (.long (0 : Int64)), (.long (0 : Int64)), (.long (0 : Int64)), (.long (0 : Int64)), (.long (0 : Int64)), (.long (0 : Int64))] (.long (0 : Int64)) := Arv.set Ar6 qa6 Sa6 Na6 Ha6 Ga6 rfl W7 2 rfl (Nat.le_of_ble_eq_true rfl)
  have Zs7 : n0 ≤ h7.size := Nat.le_trans Zs5 (Nat.le_of_eq W7.size.symm)
  have K7 : Keep h0 h7 [] := K5.wr W7 (Or.inr sz_b1)
  have N7 := Fr.snoc X7 N5 g_b1
  obtain ⟨cl8, Ar8, qa8, Sa8, Na8, Ha8, Ga8⟩ := id V7
  have hin8 : ¬ ((3 : Int32) < 0 ∨ cl8.slots.size ≤ ((3 : Int32)).toNatClampNeg) := inb_of Sa8 ⟨by decide, by decide⟩
  obtain ⟨T9, h9, X9, e9, W9, st9⟩ := stJ X7 hx hZ e7 Ar8 (j := (3 : Int32)) hin8 (g := (mkF m 167 #[vJ qa, zS, vJ qb, zS, vI pa, vI pb, vJ hh, zS, vI sm, vJ mm, zS, vJ xx, zS, vR ee, vR ms, vR aP, vR aS, vI (0 : Int32), vJ mg, zS, vI (Int32.ofNat (SBG.digitsL nn)), zU, zU, zU, zU, zU, zU, zU, zU, zU, zU, zU] [(.long (1000 : Int64)), (.int (3 : Int32)), (.ref b1), (.ref b1)])) rfl rfl (hb hby at_167)
  have V9 : Arv Z h9 b1 k1 .long (19 : Int32) [(.long (1 : Int64)), (.long (10 : Int64)), (.long (100 : Int64)), (.long (1000 : Int64)), (.long (0 : Int64)), (.long (0 : Int64)), (.long (0 : Int64)), (.long (0 : Int64)), (.long (0 : Int64)), (.long (0 : Int64)), (.long (0 : Int64)), (.long (0 : Int64)), (.long (0 : Int64)), (.long (0 : Int64)), (.long (0 : Int64)), (.long (0 : Int64)), (.long (0 : Int64)), (.long (0 : Int64)), (.long (0 : Int64))] (.long (0 : Int64)) := Arv.set Ar8 qa8 Sa8 Na8 Ha8 Ga8 rfl W9 3 rfl (Nat.le_of_ble_eq_true rfl)
  have Zs9 : n0 ≤ h9.size := Nat.le_trans Zs7 (Nat.le_of_eq W9.size.symm)
  have K9 : Keep h0 h9 [] := K7.wr W9 (Or.inr sz_b1)
  have N9 := Fr.snoc X9 N7 g_b1
  obtain ⟨cl10, Ar10, qa10, Sa10, Na10, Ha10, Ga10⟩ := id V9
  have hin10 : ¬ ((4 : Int32) < 0 ∨ cl10.slots.size ≤ ((4 : Int32)).toNatClampNeg) := inb_of Sa10 ⟨by decide, by decide⟩
  obtain ⟨T11, h11, X11, e11, W11, st11⟩ := stJ X9 hx hZ e9 Ar10 (j := (4 : Int32)) hin10 (g := (mkF m 173 #[vJ qa, zS, vJ qb, zS, vI pa, vI pb, vJ hh, zS, vI sm, vJ mm, zS, vJ xx, zS, vR ee, vR ms, vR aP, vR aS, vI (0 : Int32), vJ mg, zS, vI (Int32.ofNat (SBG.digitsL nn)), zU, zU, zU, zU, zU, zU, zU, zU, zU, zU, zU] [(.long (10000 : Int64)), (.int (4 : Int32)), (.ref b1), (.ref b1)])) rfl rfl (hb hby at_173)
  have V11 : Arv Z h11 b1 k1 .long (19 : Int32) [(.long (1 : Int64)), (.long (10 : Int64)), (.long (100 : Int64)), (.long (1000 : Int64)), (.long (10000 : Int64)), (.long (0 : Int64)), (.long (0 : Int64)), (.long (0 : Int64)), (.long (0 : Int64)), (.long (0 : Int64)), (.long (0 : Int64)), (.long (0 : Int64)), (.long (0 : Int64)), (.long (0 : Int64)), (.long (0 : Int64)), (.long (0 : Int64)), (.long (0 : Int64)), (.long (0 : Int64)), (.long (0 : Int64))] (.long (0 : Int64)) := Arv.set Ar10 qa10 Sa10 Na10 Ha10 Ga10 rfl W11 4 rfl (Nat.le_of_ble_eq_true rfl)
  have Zs11 : n0 ≤ h11.size := Nat.le_trans Zs9 (Nat.le_of_eq W11.size.symm)
  have K11 : Keep h0 h11 [] := K9.wr W11 (Or.inr sz_b1)
  have N11 := Fr.snoc X11 N9 g_b1
  obtain ⟨cl12, Ar12, qa12, Sa12, Na12, Ha12, Ga12⟩ := id V11
  have hin12 : ¬ ((5 : Int32) < 0 ∨ cl12.slots.size ≤ ((5 : Int32)).toNatClampNeg) := inb_of Sa12 ⟨by decide, by decide⟩
  obtain ⟨T13, h13, X13, e13, W13, st13⟩ := stJ X11 hx hZ e11 Ar12 (j := (5 : Int32)) hin12 (g := (mkF m 179 #[vJ qa, zS, vJ qb, zS, vI pa, vI pb, vJ hh, zS, vI sm, vJ mm, zS, vJ xx, zS, vR ee, vR ms, vR aP, vR aS, vI (0 : Int32), vJ mg, zS, vI (Int32.ofNat (SBG.digitsL nn)), zU, zU, zU, zU, zU, zU, zU, zU, zU, zU, zU] [(.long (100000 : Int64)), (.int (5 : Int32)), (.ref b1), (.ref b1)])) rfl rfl (hb hby at_179)
  have V13 : Arv Z h13 b1 k1 .long (19 : Int32) [(.long (1 : Int64)), (.long (10 : Int64)), (.long (100 : Int64)), (.long (1000 : Int64)), (.long (10000 : Int64)), (.long (100000 : Int64)), (.long (0 : Int64)), (.long (0 : Int64)), (.long (0 : Int64)), (.long (0 : Int64)), (.long (0 : Int64)), (.long (0 : Int64)), (.long (0 : Int64)), (.long (0 : Int64)), (.long (0 : Int64)), (.long (0 : Int64)), (.long (0 : Int64)), (.long (0 : Int64)), (.long (0 : Int64))] (.long (0 : Int64)) := Arv.set Ar12 qa12 Sa12 Na12 Ha12 Ga12 rfl W13 5 rfl (Nat.le_of_ble_eq_true rfl)
  have Zs13 : n0 ≤ h13.size := Nat.le_trans Zs11 (Nat.le_of_eq W13.size.symm)
  have K13 : Keep h0 h13 [] := K11.wr W13 (Or.inr sz_b1)
  have N13 := Fr.snoc X13 N11 g_b1
  obtain ⟨cl14, Ar14, qa14, Sa14, Na14, Ha14, Ga14⟩ := id V13
  have hin14 : ¬ ((6 : Int32) < 0 ∨ cl14.slots.size ≤ ((6 : Int32)).toNatClampNeg) := inb_of Sa14 ⟨by decide, by decide⟩
  obtain ⟨T15, h15, X15, e15, W15, st15⟩ := stJ X13 hx hZ e13 Ar14 (j := (6 : Int32)) hin14 (g := (mkF m 186 #[vJ qa, zS, vJ qb, zS, vI pa, vI pb, vJ hh, zS, vI sm, vJ mm, zS, vJ xx, zS, vR ee, vR ms, vR aP, vR aS, vI (0 : Int32), vJ mg, zS, vI (Int32.ofNat (SBG.digitsL nn)), zU, zU, zU, zU, zU, zU, zU, zU, zU, zU, zU] [(.long (1000000 : Int64)), (.int (6 : Int32)), (.ref b1), (.ref b1)])) rfl rfl (hb hby at_186)
  have V15 : Arv Z h15 b1 k1 .long (19 : Int32) [(.long (1 : Int64)), (.long (10 : Int64)), (.long (100 : Int64)), (.long (1000 : Int64)), (.long (10000 : Int64)), (.long (100000 : Int64)), (.long (1000000 : Int64)), (.long (0 : Int64)), (.long (0 : Int64)), (.long (0 : Int64)), (.long (0 : Int64)), (.long (0 : Int64)), (.long (0 : Int64)), (.long (0 : Int64)), (.long (0 : Int64)), (.long (0 : Int64)), (.long (0 : Int64)), (.long (0 : Int64)), (.long (0 : Int64))] (.long (0 : Int64)) := Arv.set Ar14 qa14 Sa14 Na14 Ha14 Ga14 rfl W15 6 rfl (Nat.le_of_ble_eq_true rfl)
  have Zs15 : n0 ≤ h15.size := Nat.le_trans Zs13 (Nat.le_of_eq W15.size.symm)
  have K15 : Keep h0 h15 [] := K13.wr W15 (Or.inr sz_b1)
  have N15 := Fr.snoc X15 N13 g_b1
  obtain ⟨cl16, Ar16, qa16, Sa16, Na16, Ha16, Ga16⟩ := id V15
  have hin16 : ¬ ((7 : Int32) < 0 ∨ cl16.slots.size ≤ ((7 : Int32)).toNatClampNeg) := inb_of Sa16 ⟨by decide, by decide⟩
  obtain ⟨T17, h17, X17, e17, W17, st17⟩ := stJ X15 hx hZ e15 Ar16 (j := (7 : Int32)) hin16 (g := (mkF m 193 #[vJ qa, zS, vJ qb, zS, vI pa, vI pb, vJ hh, zS, vI sm, vJ mm, zS, vJ xx, zS, vR ee, vR ms, vR aP, vR aS, vI (0 : Int32), vJ mg, zS, vI (Int32.ofNat (SBG.digitsL nn)), zU, zU, zU, zU, zU, zU, zU, zU, zU, zU, zU] [(.long (10000000 : Int64)), (.int (7 : Int32)), (.ref b1), (.ref b1)])) rfl rfl (hb hby at_193)
  have V17 : Arv Z h17 b1 k1 .long (19 : Int32) [(.long (1 : Int64)), (.long (10 : Int64)), (.long (100 : Int64)), (.long (1000 : Int64)), (.long (10000 : Int64)), (.long (100000 : Int64)), (.long (1000000 : Int64)), (.long (10000000 : Int64)), (.long (0 : Int64)), (.long (0 : Int64)), (.long (0 : Int64)), (.long (0 : Int64)), (.long (0 : Int64)), (.long (0 : Int64)), (.long (0 : Int64)), (.long (0 : Int64)), (.long (0 : Int64)), (.long (0 : Int64)), (.long (0 : Int64))] (.long (0 : Int64)) := Arv.set Ar16 qa16 Sa16 Na16 Ha16 Ga16 rfl W17 7 rfl (Nat.le_of_ble_eq_true rfl)
  have Zs17 : n0 ≤ h17.size := Nat.le_trans Zs15 (Nat.le_of_eq W17.size.symm)
  have K17 : Keep h0 h17 [] := K15.wr W17 (Or.inr sz_b1)
  have N17 := Fr.snoc X17 N15 g_b1
  obtain ⟨cl18, Ar18, qa18, Sa18, Na18, Ha18, Ga18⟩ := id V17
  have hin18 : ¬ ((8 : Int32) < 0 ∨ cl18.slots.size ≤ ((8 : Int32)).toNatClampNeg) := inb_of Sa18 ⟨by decide, by decide⟩
  obtain ⟨T19, h19, X19, e19, W19, st19⟩ := stJ X17 hx hZ e17 Ar18 (j := (8 : Int32)) hin18 (g := (mkF m 200 #[vJ qa, zS, vJ qb, zS, vI pa, vI pb, vJ hh, zS, vI sm, vJ mm, zS, vJ xx, zS, vR ee, vR ms, vR aP, vR aS, vI (0 : Int32), vJ mg, zS, vI (Int32.ofNat (SBG.digitsL nn)), zU, zU, zU, zU, zU, zU, zU, zU, zU, zU, zU] [(.long (100000000 : Int64)), (.int (8 : Int32)), (.ref b1), (.ref b1)])) rfl rfl (hb hby at_200)
  have V19 : Arv Z h19 b1 k1 .long (19 : Int32) [(.long (1 : Int64)), (.long (10 : Int64)), (.long (100 : Int64)), (.long (1000 : Int64)), (.long (10000 : Int64)), (.long (100000 : Int64)), (.long (1000000 : Int64)), (.long (10000000 : Int64)), (.long (100000000 : Int64)), (.long (0 : Int64)), (.long (0 : Int64)), (.long (0 : Int64)), (.long (0 : Int64)), (.long (0 : Int64)), (.long (0 : Int64)), (.long (0 : Int64)), (.long (0 : Int64)), (.long (0 : Int64)), (.long (0 : Int64))] (.long (0 : Int64)) := Arv.set Ar18 qa18 Sa18 Na18 Ha18 Ga18 rfl W19 8 rfl (Nat.le_of_ble_eq_true rfl)
  have Zs19 : n0 ≤ h19.size := Nat.le_trans Zs17 (Nat.le_of_eq W19.size.symm)
  have K19 : Keep h0 h19 [] := K17.wr W19 (Or.inr sz_b1)
  have N19 := Fr.snoc X19 N17 g_b1
  obtain ⟨cl20, Ar20, qa20, Sa20, Na20, Ha20, Ga20⟩ := id V19
  have hin20 : ¬ ((9 : Int32) < 0 ∨ cl20.slots.size ≤ ((9 : Int32)).toNatClampNeg) := inb_of Sa20 ⟨by decide, by decide⟩
  obtain ⟨T21, h21, X21, e21, W21, st21⟩ := stJ X19 hx hZ e19 Ar20 (j := (9 : Int32)) hin20 (g := (mkF m 207 #[vJ qa, zS, vJ qb, zS, vI pa, vI pb, vJ hh, zS, vI sm, vJ mm, zS, vJ xx, zS, vR ee, vR ms, vR aP, vR aS, vI (0 : Int32), vJ mg, zS, vI (Int32.ofNat (SBG.digitsL nn)), zU, zU, zU, zU, zU, zU, zU, zU, zU, zU, zU] [(.long (1000000000 : Int64)), (.int (9 : Int32)), (.ref b1), (.ref b1)])) rfl rfl (hb hby at_207)
  have V21 : Arv Z h21 b1 k1 .long (19 : Int32) [(.long (1 : Int64)), (.long (10 : Int64)), (.long (100 : Int64)), (.long (1000 : Int64)), (.long (10000 : Int64)), (.long (100000 : Int64)), (.long (1000000 : Int64)), (.long (10000000 : Int64)), (.long (100000000 : Int64)), (.long (1000000000 : Int64)), (.long (0 : Int64)), (.long (0 : Int64)), (.long (0 : Int64)), (.long (0 : Int64)), (.long (0 : Int64)), (.long (0 : Int64)), (.long (0 : Int64)), (.long (0 : Int64)), (.long (0 : Int64))] (.long (0 : Int64)) := Arv.set Ar20 qa20 Sa20 Na20 Ha20 Ga20 rfl W21 9 rfl (Nat.le_of_ble_eq_true rfl)
  have Zs21 : n0 ≤ h21.size := Nat.le_trans Zs19 (Nat.le_of_eq W21.size.symm)
  have K21 : Keep h0 h21 [] := K19.wr W21 (Or.inr sz_b1)
  have N21 := Fr.snoc X21 N19 g_b1
  obtain ⟨cl22, Ar22, qa22, Sa22, Na22, Ha22, Ga22⟩ := id V21
  have hin22 : ¬ ((10 : Int32) < 0 ∨ cl22.slots.size ≤ ((10 : Int32)).toNatClampNeg) := inb_of Sa22 ⟨by decide, by decide⟩
  obtain ⟨T23, h23, X23, e23, W23, st23⟩ := stJ X21 hx hZ e21 Ar22 (j := (10 : Int32)) hin22 (g := (mkF m 214 #[vJ qa, zS, vJ qb, zS, vI pa, vI pb, vJ hh, zS, vI sm, vJ mm, zS, vJ xx, zS, vR ee, vR ms, vR aP, vR aS, vI (0 : Int32), vJ mg, zS, vI (Int32.ofNat (SBG.digitsL nn)), zU, zU, zU, zU, zU, zU, zU, zU, zU, zU, zU] [(.long (10000000000 : Int64)), (.int (10 : Int32)), (.ref b1), (.ref b1)])) rfl rfl (hb hby at_214)
  have V23 : Arv Z h23 b1 k1 .long (19 : Int32) [(.long (1 : Int64)), (.long (10 : Int64)), (.long (100 : Int64)), (.long (1000 : Int64)), (.long (10000 : Int64)), (.long (100000 : Int64)), (.long (1000000 : Int64)), (.long (10000000 : Int64)), (.long (100000000 : Int64)), (.long (1000000000 : Int64)), (.long (10000000000 : Int64)), (.long (0 : Int64)), (.long (0 : Int64)), (.long (0 : Int64)), (.long (0 : Int64)), (.long (0 : Int64)), (.long (0 : Int64)), (.long (0 : Int64)), (.long (0 : Int64))] (.long (0 : Int64)) := Arv.set Ar22 qa22 Sa22 Na22 Ha22 Ga22 rfl W23 10 rfl (Nat.le_of_ble_eq_true rfl)
  have Zs23 : n0 ≤ h23.size := Nat.le_trans Zs21 (Nat.le_of_eq W23.size.symm)
  have K23 : Keep h0 h23 [] := K21.wr W23 (Or.inr sz_b1)
  have N23 := Fr.snoc X23 N21 g_b1
  obtain ⟨cl24, Ar24, qa24, Sa24, Na24, Ha24, Ga24⟩ := id V23
  have hin24 : ¬ ((11 : Int32) < 0 ∨ cl24.slots.size ≤ ((11 : Int32)).toNatClampNeg) := inb_of Sa24 ⟨by decide, by decide⟩
  obtain ⟨T25, h25, X25, e25, W25, st25⟩ := stJ X23 hx hZ e23 Ar24 (j := (11 : Int32)) hin24 (g := (mkF m 221 #[vJ qa, zS, vJ qb, zS, vI pa, vI pb, vJ hh, zS, vI sm, vJ mm, zS, vJ xx, zS, vR ee, vR ms, vR aP, vR aS, vI (0 : Int32), vJ mg, zS, vI (Int32.ofNat (SBG.digitsL nn)), zU, zU, zU, zU, zU, zU, zU, zU, zU, zU, zU] [(.long (100000000000 : Int64)), (.int (11 : Int32)), (.ref b1), (.ref b1)])) rfl rfl (hb hby at_221)
  have V25 : Arv Z h25 b1 k1 .long (19 : Int32) [(.long (1 : Int64)), (.long (10 : Int64)), (.long (100 : Int64)), (.long (1000 : Int64)), (.long (10000 : Int64)), (.long (100000 : Int64)), (.long (1000000 : Int64)), (.long (10000000 : Int64)), (.long (100000000 : Int64)), (.long (1000000000 : Int64)), (.long (10000000000 : Int64)), (.long (100000000000 : Int64)), (.long (0 : Int64)), (.long (0 : Int64)), (.long (0 : Int64)), (.long (0 : Int64)), (.long (0 : Int64)), (.long (0 : Int64)), (.long (0 : Int64))] (.long (0 : Int64)) := Arv.set Ar24 qa24 Sa24 Na24 Ha24 Ga24 rfl W25 11 rfl (Nat.le_of_ble_eq_true rfl)
  have Zs25 : n0 ≤ h25.size := Nat.le_trans Zs23 (Nat.le_of_eq W25.size.symm)
  have K25 : Keep h0 h25 [] := K23.wr W25 (Or.inr sz_b1)
  have N25 := Fr.snoc X25 N23 g_b1
  obtain ⟨cl26, Ar26, qa26, Sa26, Na26, Ha26, Ga26⟩ := id V25
  have hin26 : ¬ ((12 : Int32) < 0 ∨ cl26.slots.size ≤ ((12 : Int32)).toNatClampNeg) := inb_of Sa26 ⟨by decide, by decide⟩
  obtain ⟨T27, h27, X27, e27, W27, st27⟩ := stJ X25 hx hZ e25 Ar26 (j := (12 : Int32)) hin26 (g := (mkF m 228 #[vJ qa, zS, vJ qb, zS, vI pa, vI pb, vJ hh, zS, vI sm, vJ mm, zS, vJ xx, zS, vR ee, vR ms, vR aP, vR aS, vI (0 : Int32), vJ mg, zS, vI (Int32.ofNat (SBG.digitsL nn)), zU, zU, zU, zU, zU, zU, zU, zU, zU, zU, zU] [(.long (1000000000000 : Int64)), (.int (12 : Int32)), (.ref b1), (.ref b1)])) rfl rfl (hb hby at_228)
  have V27 : Arv Z h27 b1 k1 .long (19 : Int32) [(.long (1 : Int64)), (.long (10 : Int64)), (.long (100 : Int64)), (.long (1000 : Int64)), (.long (10000 : Int64)), (.long (100000 : Int64)), (.long (1000000 : Int64)), (.long (10000000 : Int64)), (.long (100000000 : Int64)), (.long (1000000000 : Int64)), (.long (10000000000 : Int64)), (.long (100000000000 : Int64)), (.long (1000000000000 : Int64)), (.long (0 : Int64)), (.long (0 : Int64)), (.long (0 : Int64)), (.long (0 : Int64)), (.long (0 : Int64)), (.long (0 : Int64))] (.long (0 : Int64)) := Arv.set Ar26 qa26 Sa26 Na26 Ha26 Ga26 rfl W27 12 rfl (Nat.le_of_ble_eq_true rfl)
  have Zs27 : n0 ≤ h27.size := Nat.le_trans Zs25 (Nat.le_of_eq W27.size.symm)
  have K27 : Keep h0 h27 [] := K25.wr W27 (Or.inr sz_b1)
  have N27 := Fr.snoc X27 N25 g_b1
  obtain ⟨cl28, Ar28, qa28, Sa28, Na28, Ha28, Ga28⟩ := id V27
  have hin28 : ¬ ((13 : Int32) < 0 ∨ cl28.slots.size ≤ ((13 : Int32)).toNatClampNeg) := inb_of Sa28 ⟨by decide, by decide⟩
  obtain ⟨T29, h29, X29, e29, W29, st29⟩ := stJ X27 hx hZ e27 Ar28 (j := (13 : Int32)) hin28 (g := (mkF m 235 #[vJ qa, zS, vJ qb, zS, vI pa, vI pb, vJ hh, zS, vI sm, vJ mm, zS, vJ xx, zS, vR ee, vR ms, vR aP, vR aS, vI (0 : Int32), vJ mg, zS, vI (Int32.ofNat (SBG.digitsL nn)), zU, zU, zU, zU, zU, zU, zU, zU, zU, zU, zU] [(.long (10000000000000 : Int64)), (.int (13 : Int32)), (.ref b1), (.ref b1)])) rfl rfl (hb hby at_235)
  have V29 : Arv Z h29 b1 k1 .long (19 : Int32) [(.long (1 : Int64)), (.long (10 : Int64)), (.long (100 : Int64)), (.long (1000 : Int64)), (.long (10000 : Int64)), (.long (100000 : Int64)), (.long (1000000 : Int64)), (.long (10000000 : Int64)), (.long (100000000 : Int64)), (.long (1000000000 : Int64)), (.long (10000000000 : Int64)), (.long (100000000000 : Int64)), (.long (1000000000000 : Int64)), (.long (10000000000000 : Int64)), (.long (0 : Int64)), (.long (0 : Int64)), (.long (0 : Int64)), (.long (0 : Int64)), (.long (0 : Int64))] (.long (0 : Int64)) := Arv.set Ar28 qa28 Sa28 Na28 Ha28 Ga28 rfl W29 13 rfl (Nat.le_of_ble_eq_true rfl)
  have Zs29 : n0 ≤ h29.size := Nat.le_trans Zs27 (Nat.le_of_eq W29.size.symm)
  have K29 : Keep h0 h29 [] := K27.wr W29 (Or.inr sz_b1)
  have N29 := Fr.snoc X29 N27 g_b1
  obtain ⟨cl30, Ar30, qa30, Sa30, Na30, Ha30, Ga30⟩ := id V29
  have hin30 : ¬ ((14 : Int32) < 0 ∨ cl30.slots.size ≤ ((14 : Int32)).toNatClampNeg) := inb_of Sa30 ⟨by decide, by decide⟩
  obtain ⟨T31, h31, X31, e31, W31, st31⟩ := stJ X29 hx hZ e29 Ar30 (j := (14 : Int32)) hin30 (g := (mkF m 242 #[vJ qa, zS, vJ qb, zS, vI pa, vI pb, vJ hh, zS, vI sm, vJ mm, zS, vJ xx, zS, vR ee, vR ms, vR aP, vR aS, vI (0 : Int32), vJ mg, zS, vI (Int32.ofNat (SBG.digitsL nn)), zU, zU, zU, zU, zU, zU, zU, zU, zU, zU, zU] [(.long (100000000000000 : Int64)), (.int (14 : Int32)), (.ref b1), (.ref b1)])) rfl rfl (hb hby at_242)
  have V31 : Arv Z h31 b1 k1 .long (19 : Int32) [(.long (1 : Int64)), (.long (10 : Int64)), (.long (100 : Int64)), (.long (1000 : Int64)), (.long (10000 : Int64)), (.long (100000 : Int64)), (.long (1000000 : Int64)), (.long (10000000 : Int64)), (.long (100000000 : Int64)), (.long (1000000000 : Int64)), (.long (10000000000 : Int64)), (.long (100000000000 : Int64)), (.long (1000000000000 : Int64)), (.long (10000000000000 : Int64)), (.long (100000000000000 : Int64)), (.long (0 : Int64)), (.long (0 : Int64)), (.long (0 : Int64)), (.long (0 : Int64))] (.long (0 : Int64)) := Arv.set Ar30 qa30 Sa30 Na30 Ha30 Ga30 rfl W31 14 rfl (Nat.le_of_ble_eq_true rfl)
  have Zs31 : n0 ≤ h31.size := Nat.le_trans Zs29 (Nat.le_of_eq W31.size.symm)
  have K31 : Keep h0 h31 [] := K29.wr W31 (Or.inr sz_b1)
  have N31 := Fr.snoc X31 N29 g_b1
  obtain ⟨cl32, Ar32, qa32, Sa32, Na32, Ha32, Ga32⟩ := id V31
  have hin32 : ¬ ((15 : Int32) < 0 ∨ cl32.slots.size ≤ ((15 : Int32)).toNatClampNeg) := inb_of Sa32 ⟨by decide, by decide⟩
  obtain ⟨T33, h33, X33, e33, W33, st33⟩ := stJ X31 hx hZ e31 Ar32 (j := (15 : Int32)) hin32 (g := (mkF m 249 #[vJ qa, zS, vJ qb, zS, vI pa, vI pb, vJ hh, zS, vI sm, vJ mm, zS, vJ xx, zS, vR ee, vR ms, vR aP, vR aS, vI (0 : Int32), vJ mg, zS, vI (Int32.ofNat (SBG.digitsL nn)), zU, zU, zU, zU, zU, zU, zU, zU, zU, zU, zU] [(.long (1000000000000000 : Int64)), (.int (15 : Int32)), (.ref b1), (.ref b1)])) rfl rfl (hb hby at_249)
  have V33 : Arv Z h33 b1 k1 .long (19 : Int32) [(.long (1 : Int64)), (.long (10 : Int64)), (.long (100 : Int64)), (.long (1000 : Int64)), (.long (10000 : Int64)), (.long (100000 : Int64)), (.long (1000000 : Int64)), (.long (10000000 : Int64)), (.long (100000000 : Int64)), (.long (1000000000 : Int64)), (.long (10000000000 : Int64)), (.long (100000000000 : Int64)), (.long (1000000000000 : Int64)), (.long (10000000000000 : Int64)), (.long (100000000000000 : Int64)), (.long (1000000000000000 : Int64)), (.long (0 : Int64)), (.long (0 : Int64)), (.long (0 : Int64))] (.long (0 : Int64)) := Arv.set Ar32 qa32 Sa32 Na32 Ha32 Ga32 rfl W33 15 rfl (Nat.le_of_ble_eq_true rfl)
  have Zs33 : n0 ≤ h33.size := Nat.le_trans Zs31 (Nat.le_of_eq W33.size.symm)
  have K33 : Keep h0 h33 [] := K31.wr W33 (Or.inr sz_b1)
  have N33 := Fr.snoc X33 N31 g_b1
  obtain ⟨cl34, Ar34, qa34, Sa34, Na34, Ha34, Ga34⟩ := id V33
  have hin34 : ¬ ((16 : Int32) < 0 ∨ cl34.slots.size ≤ ((16 : Int32)).toNatClampNeg) := inb_of Sa34 ⟨by decide, by decide⟩
  obtain ⟨T35, h35, X35, e35, W35, st35⟩ := stJ X33 hx hZ e33 Ar34 (j := (16 : Int32)) hin34 (g := (mkF m 256 #[vJ qa, zS, vJ qb, zS, vI pa, vI pb, vJ hh, zS, vI sm, vJ mm, zS, vJ xx, zS, vR ee, vR ms, vR aP, vR aS, vI (0 : Int32), vJ mg, zS, vI (Int32.ofNat (SBG.digitsL nn)), zU, zU, zU, zU, zU, zU, zU, zU, zU, zU, zU] [(.long (10000000000000000 : Int64)), (.int (16 : Int32)), (.ref b1), (.ref b1)])) rfl rfl (hb hby at_256)
  have V35 : Arv Z h35 b1 k1 .long (19 : Int32) [(.long (1 : Int64)), (.long (10 : Int64)), (.long (100 : Int64)), (.long (1000 : Int64)), (.long (10000 : Int64)), (.long (100000 : Int64)), (.long (1000000 : Int64)), (.long (10000000 : Int64)), (.long (100000000 : Int64)), (.long (1000000000 : Int64)), (.long (10000000000 : Int64)), (.long (100000000000 : Int64)), (.long (1000000000000 : Int64)), (.long (10000000000000 : Int64)), (.long (100000000000000 : Int64)), (.long (1000000000000000 : Int64)), (.long (10000000000000000 : Int64)), (.long (0 : Int64)), (.long (0 : Int64))] (.long (0 : Int64)) := Arv.set Ar34 qa34 Sa34 Na34 Ha34 Ga34 rfl W35 16 rfl (Nat.le_of_ble_eq_true rfl)
  have Zs35 : n0 ≤ h35.size := Nat.le_trans Zs33 (Nat.le_of_eq W35.size.symm)
  have K35 : Keep h0 h35 [] := K33.wr W35 (Or.inr sz_b1)
  have N35 := Fr.snoc X35 N33 g_b1
  obtain ⟨cl36, Ar36, qa36, Sa36, Na36, Ha36, Ga36⟩ := id V35
  have hin36 : ¬ ((17 : Int32) < 0 ∨ cl36.slots.size ≤ ((17 : Int32)).toNatClampNeg) := inb_of Sa36 ⟨by decide, by decide⟩
  obtain ⟨T37, h37, X37, e37, W37, st37⟩ := stJ X35 hx hZ e35 Ar36 (j := (17 : Int32)) hin36 (g := (mkF m 263 #[vJ qa, zS, vJ qb, zS, vI pa, vI pb, vJ hh, zS, vI sm, vJ mm, zS, vJ xx, zS, vR ee, vR ms, vR aP, vR aS, vI (0 : Int32), vJ mg, zS, vI (Int32.ofNat (SBG.digitsL nn)), zU, zU, zU, zU, zU, zU, zU, zU, zU, zU, zU] [(.long (100000000000000000 : Int64)), (.int (17 : Int32)), (.ref b1), (.ref b1)])) rfl rfl (hb hby at_263)
  have V37 : Arv Z h37 b1 k1 .long (19 : Int32) [(.long (1 : Int64)), (.long (10 : Int64)), (.long (100 : Int64)), (.long (1000 : Int64)), (.long (10000 : Int64)), (.long (100000 : Int64)), (.long (1000000 : Int64)), (.long (10000000 : Int64)), (.long (100000000 : Int64)), (.long (1000000000 : Int64)), (.long (10000000000 : Int64)), (.long (100000000000 : Int64)), (.long (1000000000000 : Int64)), (.long (10000000000000 : Int64)), (.long (100000000000000 : Int64)), (.long (1000000000000000 : Int64)), (.long (10000000000000000 : Int64)), (.long (100000000000000000 : Int64)), (.long (0 : Int64))] (.long (0 : Int64)) := Arv.set Ar36 qa36 Sa36 Na36 Ha36 Ga36 rfl W37 17 rfl (Nat.le_of_ble_eq_true rfl)
  have Zs37 : n0 ≤ h37.size := Nat.le_trans Zs35 (Nat.le_of_eq W37.size.symm)
  have K37 : Keep h0 h37 [] := K35.wr W37 (Or.inr sz_b1)
  have N37 := Fr.snoc X37 N35 g_b1
  obtain ⟨cl38, Ar38, qa38, Sa38, Na38, Ha38, Ga38⟩ := id V37
  have hin38 : ¬ ((18 : Int32) < 0 ∨ cl38.slots.size ≤ ((18 : Int32)).toNatClampNeg) := inb_of Sa38 ⟨by decide, by decide⟩
  obtain ⟨T39, h39, X39, e39, W39, st39⟩ := stJ X37 hx hZ e37 Ar38 (j := (18 : Int32)) hin38 (g := (mkF m 270 #[vJ qa, zS, vJ qb, zS, vI pa, vI pb, vJ hh, zS, vI sm, vJ mm, zS, vJ xx, zS, vR ee, vR ms, vR aP, vR aS, vI (0 : Int32), vJ mg, zS, vI (Int32.ofNat (SBG.digitsL nn)), zU, zU, zU, zU, zU, zU, zU, zU, zU, zU, zU] [(.long (1000000000000000000 : Int64)), (.int (18 : Int32)), (.ref b1), (.ref b1)])) rfl rfl (hb hby at_270)
  have V39 : Arv Z h39 b1 k1 .long (19 : Int32) [(.long (1 : Int64)), (.long (10 : Int64)), (.long (100 : Int64)), (.long (1000 : Int64)), (.long (10000 : Int64)), (.long (100000 : Int64)), (.long (1000000 : Int64)), (.long (10000000 : Int64)), (.long (100000000 : Int64)), (.long (1000000000 : Int64)), (.long (10000000000 : Int64)), (.long (100000000000 : Int64)), (.long (1000000000000 : Int64)), (.long (10000000000000 : Int64)), (.long (100000000000000 : Int64)), (.long (1000000000000000 : Int64)), (.long (10000000000000000 : Int64)), (.long (100000000000000000 : Int64)), (.long (1000000000000000000 : Int64))] (.long (0 : Int64)) := Arv.set Ar38 qa38 Sa38 Na38 Ha38 Ga38 rfl W39 18 rfl (Nat.le_of_ble_eq_true rfl)
  have Zs39 : n0 ≤ h39.size := Nat.le_trans Zs37 (Nat.le_of_eq W39.size.symm)
  have K39 : Keep h0 h39 [] := K37.wr W39 (Or.inr sz_b1)
  have N39 := Fr.snoc X39 N37 g_b1
  have E_aP_41 := ((((((((((((((((((((E_aP.ext E1).wr W3).wr W5).wr W7).wr W9).wr W11).wr W13).wr W15).wr W17).wr W19).wr W21).wr W23).wr W25).wr W27).wr W29).wr W31).wr W33).wr W35).wr W37).wr W39)
  obtain ⟨cq40, kq40, q40a, q40b, q40c⟩ := isOf hZ e39 E_aP_41
  obtain ⟨_, _, ⟨T40, L40, k40, n40⟩, -, X40, ⟨Lc40, hQ40, l40, y40, z40⟩, st40⟩ := X39.virtualBack hx (y := (⟨"java/lang/String", "length", "()I"⟩ : MethodName)) (z := (⟨"java/lang/String", "length", "()I"⟩ : MethodName)) hown (mvT hZ (wd hw 270 rfl)) (mvT hZ (wd hw 49 rfl)) (notFace_of_selects (args := #[]) (mvT hZ (wd hw 51 rfl))) (mvT hZ (wd hw 51 rfl)) (mvT hZ (wd hw 50 rfl)) (by decide) (backOf (W := 0) (rLen l Z a0 hw [] aP bP kP 59 (fun i => preL.getD i 0) (by omega) h39 n0 Zs39 (KZ.trans K39 all0) hz (R_p.keep K39 nin0 nin0) cs hcs S_Cz) hZ (wd hw 52 rfl) (wd hw 26 rfl) (by decide) (by decide)) q40a q40c (g := (mkF m 275 #[vJ qa, zS, vJ qb, zS, vI pa, vI pb, vJ hh, zS, vI sm, vJ mm, zS, vJ xx, zS, vR ee, vR ms, vR aP, vR aS, vI (0 : Int32), vJ mg, zS, vI (Int32.ofNat (SBG.digitsL nn)), vR b1, zU, zU, zU, zU, zU, zU, zU, zU, zU, zU] [(.ref aP)])) rfl (by rw [hml]; rfl) (Steps.refl _) (argsL := []) (rest := []) (lenOf pd___I rfl) rfl (by show 2 * 0 + _ ≤ _; exact Nat.le_of_eq rfl) (hb hby at_275) (fun _ _ => ⟨rfl, e39, (by decide : 19 + 0 ≤ _), (by decide : 4707 + 0 ≤ _)⟩)
  dsimp only [Pt.U, Pt.locs, Pt.cells, Pt.slots] at X40 l40 y40 z40 st40 hQ40
  rw [l40, y40, z40] at X40
  obtain ⟨rfl, N40q, e40⟩ := hQ40
  have N40 := Fr.app N39 N40q
  have E_ms_43 := ((((((((((((((((((((E_ms.ext E1).wr W3).wr W5).wr W7).wr W9).wr W11).wr W13).wr W15).wr W17).wr W19).wr W21).wr W23).wr W25).wr W27).wr W29).wr W31).wr W33).wr W35).wr W37).wr W39)
  obtain ⟨cq42, kq42, q42a, q42b, q42c⟩ := isOf hZ e40 E_ms_43
  obtain ⟨_, _, ⟨T42, L42, k42, n42⟩, -, X42, ⟨Lc42, hQ42, l42, y42, z42⟩, st42⟩ := X40.virtualBack hx (y := (⟨"java/lang/String", "length", "()I"⟩ : MethodName)) (z := (⟨"java/lang/String", "length", "()I"⟩ : MethodName)) hown (mvT hZ (wd hw 270 rfl)) (mvT hZ (wd hw 49 rfl)) (notFace_of_selects (args := #[]) (mvT hZ (wd hw 51 rfl))) (mvT hZ (wd hw 51 rfl)) (mvT hZ (wd hw 50 rfl)) (by decide) (backOf (W := 0) (rLen l Z a0 hw [] ms mv mk (59 + sz + 33) (txt xx nn sz) (by omega) h39 n0 Zs39 (KZ.trans K39 all0) hz (R_m.keep K39 nin0 nin0) cs hcs S_Cz) hZ (wd hw 52 rfl) (wd hw 26 rfl) (by decide) (by decide)) q42a q42c (g := (mkF m 297 #[vJ qa, zS, vJ qb, zS, vI pa, vI pb, vJ hh, zS, vI sm, vJ mm, zS, vJ xx, zS, vR ee, vR ms, vR aP, vR aS, vI (0 : Int32), vJ mg, zS, vI (Int32.ofNat (SBG.digitsL nn)), vR b1, vI (Int32.ofNat 59), vI (Int32.ofNat sz), zU, zU, zU, zU, zU, zU, zU, zU] [(.ref ms)])) rfl (by rw [hml]; rfl) (Steps.refl _) (argsL := []) (rest := []) (lenOf pd___I rfl) rfl (by show 2 * 0 + _ ≤ _; exact Nat.le_of_eq rfl) (hb hby at_297) (fun _ _ => ⟨rfl, e40, (by decide : 19 + 0 ≤ _), (by decide : 4707 + 0 ≤ _)⟩)
  dsimp only [Pt.U, Pt.locs, Pt.cells, Pt.slots] at X42 l42 y42 z42 st42 hQ42
  rw [l42, y42, z42] at X42
  obtain ⟨rfl, N42q, e42⟩ := hQ42
  have N42 := Fr.app N40 N42q
  have E_aS_45 := ((((((((((((((((((((E_aS.ext E1).wr W3).wr W5).wr W7).wr W9).wr W11).wr W13).wr W15).wr W17).wr W19).wr W21).wr W23).wr W25).wr W27).wr W29).wr W31).wr W33).wr W35).wr W37).wr W39)
  obtain ⟨cq44, kq44, q44a, q44b, q44c⟩ := isOf hZ e42 E_aS_45
  obtain ⟨_, _, ⟨T44, L44, k44, n44⟩, -, X44, ⟨Lc44, hQ44, l44, y44, z44⟩, st44⟩ := X42.virtualBack hx (y := (⟨"java/lang/String", "length", "()I"⟩ : MethodName)) (z := (⟨"java/lang/String", "length", "()I"⟩ : MethodName)) hown (mvT hZ (wd hw 270 rfl)) (mvT hZ (wd hw 49 rfl)) (notFace_of_selects (args := #[]) (mvT hZ (wd hw 51 rfl))) (mvT hZ (wd hw 51 rfl)) (mvT hZ (wd hw 50 rfl)) (by decide) (backOf (W := 2) (rLen l Z a0 hw [] aS bS kS 33 (fun i => sufL.getD i 0) (by omega) h39 n0 Zs39 (KZ.trans K39 all0) hz (R_s.keep K39 nin0 nin0) cs hcs S_Cz) hZ (wd hw 52 rfl) (wd hw 26 rfl) (by decide) (by decide)) q44a q44c (g := (mkF m 307 #[vJ qa, zS, vJ qb, zS, vI pa, vI pb, vJ hh, zS, vI sm, vJ mm, zS, vJ xx, zS, vR ee, vR ms, vR aP, vR aS, vI (0 : Int32), vJ mg, zS, vI (Int32.ofNat (SBG.digitsL nn)), vR b1, vI (Int32.ofNat 59), vI (Int32.ofNat sz), zU, zU, zU, zU, zU, zU, zU, zU] [(.ref aS), (.int (Int32.ofNat (59 + sz))), (.int (Int32.ofNat (59 + sz + 33)))])) rfl (by rw [hml]; rfl) (Steps.refl _) (argsL := []) (rest := [(.int (Int32.ofNat (59 + sz))), (.int (Int32.ofNat (59 + sz + 33)))]) (lenOf pd___I rfl) rfl (by show 2 * 0 + _ ≤ _; exact Nat.le_of_eq rfl) (hb hby at_307) (fun _ _ => ⟨rfl, e42, (by decide : 19 + 0 ≤ _), (by decide : 4707 + 0 ≤ _)⟩)
  dsimp only [Pt.U, Pt.locs, Pt.cells, Pt.slots] at X44 l44 y44 z44 st44 hQ44
  rw [l44, y44, z44] at X44
  obtain ⟨rfl, N44q, e44⟩ := hQ44
  have N44 := Fr.app N42 N44q
  have hpw : ∀ k, k < 19 → ([(.long (1 : Int64)), (.long (10 : Int64)), (.long (100 : Int64)), (.long (1000 : Int64)), (.long (10000 : Int64)), (.long (100000 : Int64)), (.long (1000000 : Int64)), (.long (10000000 : Int64)), (.long (100000000 : Int64)), (.long (1000000000 : Int64)), (.long (10000000000 : Int64)), (.long (100000000000 : Int64)), (.long (1000000000000 : Int64)), (.long (10000000000000 : Int64)), (.long (100000000000000 : Int64)), (.long (1000000000000000 : Int64)), (.long (10000000000000000 : Int64)), (.long (100000000000000000 : Int64)), (.long (1000000000000000000 : Int64))] : List Value).getD k (.long (0 : Int64)) = .long (Int64.ofNat (10 ^ k)) := by decide +kernel
  obtain ⟨cl46, Ar46, qa46, Sa46, Na46, Ha46, Ga46⟩ := id V39
  have hin46 : ¬ ((Int32.ofNat (SBG.digitsL nn - 1)) < 0 ∨ cl46.slots.size ≤ ((Int32.ofNat (SBG.digitsL nn - 1))).toNatClampNeg) := inb_of Sa46 ⟨by rw [Int32.lt_iff_toInt_lt, own_i32 (by omega)]; show ¬ (((SBG.digitsL nn - 1) : Nat) : Int) < 0; omega, (own_ltI (j := 19) (by omega) (by decide)).mpr (by omega)⟩
  have hat46 := Ha46.at hin46 (v := (.long (Int64.ofNat (10 ^ (SBG.digitsL nn - 1))))) (by rw [own_cl (by omega)]; exact hpw _ (by omega))
  obtain ⟨cq47, kq47, q47a, q47b, q47c⟩ := isOf hZ e44 E_ms_43
  obtain ⟨_, _, ⟨T47, L47, k47, n47⟩, -, X47, ⟨Lc47, hQ47, l47, y47, z47⟩, st47⟩ := X44.virtualBack hx (y := (⟨"java/lang/String", "charAt", "(I)C"⟩ : MethodName)) (z := (⟨"java/lang/String", "charAt", "(I)C"⟩ : MethodName)) hown (mvT hZ (wd hw 271 rfl)) (mvT hZ (wd hw 272 rfl)) (notFace_of_selects (args := #[]) (mvT hZ (wd hw 274 rfl))) (mvT hZ (wd hw 274 rfl)) (mvT hZ (wd hw 273 rfl)) (by decide) (backOf (W := 0) (rCh l Z a0 hw [] ms mv mk (59 + sz + 33) (txt xx nn sz) (59 + 0) (by omega) (txtA xx nn sz) (by omega) h39 n0 Zs39 (KZ.trans K39 all0) hz (R_m.keep K39 nin0 nin0) cs hcs S_Cz fm hfm S_Fz) hZ (wd hw 275 rfl) (wd hw 26 rfl) (by decide) (by decide)) q47a q47c (g := (mkF m 367 #[vJ qa, zS, vJ qb, zS, vI pa, vI pb, vJ hh, zS, vI sm, vJ mm, zS, vJ xx, zS, vR ee, vR ms, vR aP, vR aS, vI (0 : Int32), vJ mg, zS, vI (Int32.ofNat (SBG.digitsL nn)), vR b1, vI (Int32.ofNat 59), vI (Int32.ofNat sz), vI (Int32.ofNat (48 + nn / 10 ^ (SBG.digitsL nn - 1))), zU, zU, zU, zU, zU, zU, zU] [(.int (Int32.ofNat (59 + 0))), (.ref ms)])) rfl (by rw [hml]; rfl) (Steps.refl _) (argsL := [(.int (Int32.ofNat (59 + 0)))]) (rest := []) (lenOf pd__I_C rfl) rfl (by show 2 * 0 + _ ≤ _; exact Nat.le_of_eq rfl) (hb hby at_367) (fun _ _ => ⟨rfl, e44, (by decide : 19 + 0 ≤ _), (by decide : 4707 + 0 ≤ _)⟩)
  dsimp only [Pt.U, Pt.locs, Pt.cells, Pt.slots] at X47 l47 y47 z47 st47 hQ47
  rw [l47, y47, z47] at X47
  obtain ⟨rfl, N47q, e47⟩ := hQ47
  have N47 := Fr.app N44 N47q
  obtain ⟨cq48, kq48, q48a, q48b, q48c⟩ := isOf hZ e47 E_ms_43
  obtain ⟨_, _, ⟨T48, L48, k48, n48⟩, -, X48, ⟨Lc48, hQ48, l48, y48, z48⟩, st48⟩ := X47.virtualBack hx (y := (⟨"java/lang/String", "charAt", "(I)C"⟩ : MethodName)) (z := (⟨"java/lang/String", "charAt", "(I)C"⟩ : MethodName)) hown (mvT hZ (wd hw 271 rfl)) (mvT hZ (wd hw 272 rfl)) (notFace_of_selects (args := #[]) (mvT hZ (wd hw 274 rfl))) (mvT hZ (wd hw 274 rfl)) (mvT hZ (wd hw 273 rfl)) (by decide) (backOf (W := 0) (rCh l Z a0 hw [] ms mv mk (59 + sz + 33) (txt xx nn sz) (59 + sz - 1) (by omega) (txtA xx nn sz) (by omega) h39 n0 Zs39 (KZ.trans K39 all0) hz (R_m.keep K39 nin0 nin0) cs hcs S_Cz fm hfm S_Fz) hZ (wd hw 275 rfl) (wd hw 26 rfl) (by decide) (by decide)) q48a q48c (g := (mkF m 399 #[vJ qa, zS, vJ qb, zS, vI pa, vI pb, vJ hh, zS, vI sm, vJ mm, zS, vJ xx, zS, vR ee, vR ms, vR aP, vR aS, vI (0 : Int32), vJ mg, zS, vI (Int32.ofNat (SBG.digitsL nn)), vR b1, vI (Int32.ofNat 59), vI (Int32.ofNat sz), vI (Int32.ofNat (48 + nn / 10 ^ (SBG.digitsL nn - 1))), vI (Int32.ofNat (48 + nn % 10)), zU, zU, zU, zU, zU, zU] [(.int (Int32.ofNat (59 + sz - 1))), (.ref ms)])) rfl (by rw [hml]; rfl) (Steps.refl _) (argsL := [(.int (Int32.ofNat (59 + sz - 1)))]) (rest := []) (lenOf pd__I_C rfl) rfl (by show 2 * 0 + _ ≤ _; exact Nat.le_of_eq rfl) (hb hby at_399) (fun _ _ => ⟨rfl, e47, (by decide : 19 + 0 ≤ _), (by decide : 4707 + 0 ≤ _)⟩)
  dsimp only [Pt.U, Pt.locs, Pt.cells, Pt.slots] at X48 l48 y48 z48 st48 hQ48
  rw [l48, y48, z48] at X48
  obtain ⟨rfl, N48q, e48⟩ := hQ48
  have N48 := Fr.app N47 N48q
  obtain ⟨cq49, kq49, q49a, q49b, q49c⟩ := isOf hZ e48 E_ms_43
  obtain ⟨_, _, ⟨T49, L49, k49, n49⟩, -, X49, ⟨Lc49, hQ49, l49, y49, z49⟩, st49⟩ := X48.virtualBack hx (y := (⟨"java/lang/String", "charAt", "(I)C"⟩ : MethodName)) (z := (⟨"java/lang/String", "charAt", "(I)C"⟩ : MethodName)) hown (mvT hZ (wd hw 271 rfl)) (mvT hZ (wd hw 272 rfl)) (notFace_of_selects (args := #[]) (mvT hZ (wd hw 274 rfl))) (mvT hZ (wd hw 274 rfl)) (mvT hZ (wd hw 273 rfl)) (by decide) (backOf (W := 0) (rCh l Z a0 hw [] ms mv mk (59 + sz + 33) (txt xx nn sz) 0 (by omega) (txtA xx nn sz) (by omega) h39 n0 Zs39 (KZ.trans K39 all0) hz (R_m.keep K39 nin0 nin0) cs hcs S_Cz fm hfm S_Fz) hZ (wd hw 275 rfl) (wd hw 26 rfl) (by decide) (by decide)) q49a q49c (g := (mkF m 412 #[vJ qa, zS, vJ qb, zS, vI pa, vI pb, vJ hh, zS, vI sm, vJ mm, zS, vJ xx, zS, vR ee, vR ms, vR aP, vR aS, vI (0 : Int32), vJ mg, zS, vI (Int32.ofNat (SBG.digitsL nn)), vR b1, vI (Int32.ofNat 59), vI (Int32.ofNat sz), vI (Int32.ofNat (48 + nn / 10 ^ (SBG.digitsL nn - 1))), vI (Int32.ofNat (48 + nn % 10)), zU, zU, zU, zU, zU, zU] [(.int (Int32.ofNat 0)), (.ref ms)])) rfl (by rw [hml]; rfl) (Steps.refl _) (argsL := [(.int (Int32.ofNat 0))]) (rest := []) (lenOf pd__I_C rfl) rfl (by show 2 * 0 + _ ≤ _; exact Nat.le_of_eq rfl) (hb hby at_412) (fun _ _ => ⟨rfl, e48, (by decide : 19 + 0 ≤ _), (by decide : 4707 + 0 ≤ _)⟩)
  dsimp only [Pt.U, Pt.locs, Pt.cells, Pt.slots] at X49 l49 y49 z49 st49 hQ49
  rw [l49, y49, z49] at X49
  obtain ⟨rfl, N49q, e49⟩ := hQ49
  have N49 := Fr.app N48 N49q
  obtain ⟨cq50, kq50, q50a, q50b, q50c⟩ := isOf hZ e49 E_ms_43
  obtain ⟨_, _, ⟨T50, L50, k50, n50⟩, -, X50, ⟨Lc50, hQ50, l50, y50, z50⟩, st50⟩ := X49.virtualBack hx (y := (⟨"java/lang/String", "charAt", "(I)C"⟩ : MethodName)) (z := (⟨"java/lang/String", "charAt", "(I)C"⟩ : MethodName)) hown (mvT hZ (wd hw 271 rfl)) (mvT hZ (wd hw 272 rfl)) (notFace_of_selects (args := #[]) (mvT hZ (wd hw 274 rfl))) (mvT hZ (wd hw 274 rfl)) (mvT hZ (wd hw 273 rfl)) (by decide) (backOf (W := 0) (rCh l Z a0 hw [] ms mv mk (59 + sz + 33) (txt xx nn sz) 58 (by omega) (txtA xx nn sz) (by omega) h39 n0 Zs39 (KZ.trans K39 all0) hz (R_m.keep K39 nin0 nin0) cs hcs S_Cz fm hfm S_Fz) hZ (wd hw 275 rfl) (wd hw 26 rfl) (by decide) (by decide)) q50a q50c (g := (mkF m 426 #[vJ qa, zS, vJ qb, zS, vI pa, vI pb, vJ hh, zS, vI sm, vJ mm, zS, vJ xx, zS, vR ee, vR ms, vR aP, vR aS, vI (0 : Int32), vJ mg, zS, vI (Int32.ofNat (SBG.digitsL nn)), vR b1, vI (Int32.ofNat 59), vI (Int32.ofNat sz), vI (Int32.ofNat (48 + nn / 10 ^ (SBG.digitsL nn - 1))), vI (Int32.ofNat (48 + nn % 10)), zU, zU, zU, zU, zU, zU] [(.int (Int32.ofNat 58)), (.ref ms)])) rfl (by rw [hml]; rfl) (Steps.refl _) (argsL := [(.int (Int32.ofNat 58))]) (rest := []) (lenOf pd__I_C rfl) rfl (by show 2 * 0 + _ ≤ _; exact Nat.le_of_eq rfl) (hb hby at_426) (fun _ _ => ⟨rfl, e49, (by decide : 19 + 0 ≤ _), (by decide : 4707 + 0 ≤ _)⟩)
  dsimp only [Pt.U, Pt.locs, Pt.cells, Pt.slots] at X50 l50 y50 z50 st50 hQ50
  rw [l50, y50, z50] at X50
  obtain ⟨rfl, N50q, e50⟩ := hQ50
  have N50 := Fr.app N49 N50q
  obtain ⟨cq51, kq51, q51a, q51b, q51c⟩ := isOf hZ e50 E_ms_43
  obtain ⟨_, _, ⟨T51, L51, k51, n51⟩, -, X51, ⟨Lc51, hQ51, l51, y51, z51⟩, st51⟩ := X50.virtualBack hx (y := (⟨"java/lang/String", "charAt", "(I)C"⟩ : MethodName)) (z := (⟨"java/lang/String", "charAt", "(I)C"⟩ : MethodName)) hown (mvT hZ (wd hw 271 rfl)) (mvT hZ (wd hw 272 rfl)) (notFace_of_selects (args := #[]) (mvT hZ (wd hw 274 rfl))) (mvT hZ (wd hw 274 rfl)) (mvT hZ (wd hw 273 rfl)) (by decide) (backOf (W := 0) (rCh l Z a0 hw [] ms mv mk (59 + sz + 33) (txt xx nn sz) (59 + sz) (by omega) (txtA xx nn sz) (by omega) h39 n0 Zs39 (KZ.trans K39 all0) hz (R_m.keep K39 nin0 nin0) cs hcs S_Cz fm hfm S_Fz) hZ (wd hw 275 rfl) (wd hw 26 rfl) (by decide) (by decide)) q51a q51c (g := (mkF m 441 #[vJ qa, zS, vJ qb, zS, vI pa, vI pb, vJ hh, zS, vI sm, vJ mm, zS, vJ xx, zS, vR ee, vR ms, vR aP, vR aS, vI (0 : Int32), vJ mg, zS, vI (Int32.ofNat (SBG.digitsL nn)), vR b1, vI (Int32.ofNat 59), vI (Int32.ofNat sz), vI (Int32.ofNat (48 + nn / 10 ^ (SBG.digitsL nn - 1))), vI (Int32.ofNat (48 + nn % 10)), zU, zU, zU, zU, zU, zU] [(.int (Int32.ofNat (59 + sz))), (.ref ms)])) rfl (by rw [hml]; rfl) (Steps.refl _) (argsL := [(.int (Int32.ofNat (59 + sz)))]) (rest := []) (lenOf pd__I_C rfl) rfl (by show 2 * 0 + _ ≤ _; exact Nat.le_of_eq rfl) (hb hby at_441) (fun _ _ => ⟨rfl, e50, (by decide : 19 + 0 ≤ _), (by decide : 4707 + 0 ≤ _)⟩)
  dsimp only [Pt.U, Pt.locs, Pt.cells, Pt.slots] at X51 l51 y51 z51 st51 hQ51
  rw [l51, y51, z51] at X51
  obtain ⟨rfl, N51q, e51⟩ := hQ51
  have N51 := Fr.app N50 N51q
  obtain ⟨cq52, kq52, q52a, q52b, q52c⟩ := isOf hZ e51 E_ms_43
  obtain ⟨_, _, ⟨T52, L52, k52, n52⟩, -, X52, ⟨Lc52, hQ52, l52, y52, z52⟩, st52⟩ := X51.virtualBack hx (y := (⟨"java/lang/String", "length", "()I"⟩ : MethodName)) (z := (⟨"java/lang/String", "length", "()I"⟩ : MethodName)) hown (mvT hZ (wd hw 270 rfl)) (mvT hZ (wd hw 49 rfl)) (notFace_of_selects (args := #[]) (mvT hZ (wd hw 51 rfl))) (mvT hZ (wd hw 51 rfl)) (mvT hZ (wd hw 50 rfl)) (by decide) (backOf (W := 1) (rLen l Z a0 hw [] ms mv mk (59 + sz + 33) (txt xx nn sz) (by omega) h39 n0 Zs39 (KZ.trans K39 all0) hz (R_m.keep K39 nin0 nin0) cs hcs S_Cz) hZ (wd hw 52 rfl) (wd hw 26 rfl) (by decide) (by decide)) q52a q52c (g := (mkF m 455 #[vJ qa, zS, vJ qb, zS, vI pa, vI pb, vJ hh, zS, vI sm, vJ mm, zS, vJ xx, zS, vR ee, vR ms, vR aP, vR aS, vI (0 : Int32), vJ mg, zS, vI (Int32.ofNat (SBG.digitsL nn)), vR b1, vI (Int32.ofNat 59), vI (Int32.ofNat sz), vI (Int32.ofNat (48 + nn / 10 ^ (SBG.digitsL nn - 1))), vI (Int32.ofNat (48 + nn % 10)), zU, zU, zU, zU, zU, zU] [(.ref ms), (.ref ms)])) rfl (by rw [hml]; rfl) (Steps.refl _) (argsL := []) (rest := [(.ref ms)]) (lenOf pd___I rfl) rfl (by show 2 * 0 + _ ≤ _; exact Nat.le_of_eq rfl) (hb hby at_455) (fun _ _ => ⟨rfl, e51, (by decide : 19 + 0 ≤ _), (by decide : 4707 + 0 ≤ _)⟩)
  dsimp only [Pt.U, Pt.locs, Pt.cells, Pt.slots] at X52 l52 y52 z52 st52 hQ52
  rw [l52, y52, z52] at X52
  obtain ⟨rfl, N52q, e52⟩ := hQ52
  have N52 := Fr.app N51 N52q
  obtain ⟨cq53, kq53, q53a, q53b, q53c⟩ := isOf hZ e52 E_ms_43
  obtain ⟨_, _, ⟨T53, L53, k53, n53⟩, -, X53, ⟨Lc53, hQ53, l53, y53, z53⟩, st53⟩ := X52.virtualBack hx (y := (⟨"java/lang/String", "charAt", "(I)C"⟩ : MethodName)) (z := (⟨"java/lang/String", "charAt", "(I)C"⟩ : MethodName)) hown (mvT hZ (wd hw 271 rfl)) (mvT hZ (wd hw 272 rfl)) (notFace_of_selects (args := #[]) (mvT hZ (wd hw 274 rfl))) (mvT hZ (wd hw 274 rfl)) (mvT hZ (wd hw 273 rfl)) (by decide) (backOf (W := 0) (rCh l Z a0 hw [] ms mv mk (59 + sz + 33) (txt xx nn sz) ((59 + sz + 33) - 1) (by omega) (txtA xx nn sz) (by omega) h39 n0 Zs39 (KZ.trans K39 all0) hz (R_m.keep K39 nin0 nin0) cs hcs S_Cz fm hfm S_Fz) hZ (wd hw 275 rfl) (wd hw 26 rfl) (by decide) (by decide)) q53a q53c (g := (mkF m 460 #[vJ qa, zS, vJ qb, zS, vI pa, vI pb, vJ hh, zS, vI sm, vJ mm, zS, vJ xx, zS, vR ee, vR ms, vR aP, vR aS, vI (0 : Int32), vJ mg, zS, vI (Int32.ofNat (SBG.digitsL nn)), vR b1, vI (Int32.ofNat 59), vI (Int32.ofNat sz), vI (Int32.ofNat (48 + nn / 10 ^ (SBG.digitsL nn - 1))), vI (Int32.ofNat (48 + nn % 10)), zU, zU, zU, zU, zU, zU] [(.int (Int32.ofNat ((59 + sz + 33) - 1))), (.ref ms)])) rfl (by rw [hml]; rfl) (Steps.refl _) (argsL := [(.int (Int32.ofNat ((59 + sz + 33) - 1)))]) (rest := []) (lenOf pd__I_C rfl) rfl (by show 2 * 0 + _ ≤ _; exact Nat.le_of_eq rfl) (hb hby at_460) (fun _ _ => ⟨rfl, e52, (by decide : 19 + 0 ≤ _), (by decide : 4707 + 0 ≤ _)⟩)
  dsimp only [Pt.U, Pt.locs, Pt.cells, Pt.slots] at X53 l53 y53 z53 st53 hQ53
  rw [l53, y53, z53] at X53
  obtain ⟨rfl, N53q, e53⟩ := hQ53
  have N53 := Fr.app N52 N53q
  have pre54 : ∀ t, Steps p.tables e below (T53.setTop (mkF m 470 #[vJ qa, zS, vJ qb, zS, vI pa, vI pb, vJ hh, zS, vI sm, vJ mm, zS, vJ xx, zS, vR ee, vR ms, vR aP, vR aS, vI (0 : Int32), vJ mg, zS, vI (Int32.ofNat (SBG.digitsL nn)), vR b1, vI (Int32.ofNat 59), vI (Int32.ofNat sz), vI (Int32.ofNat (48 + nn / 10 ^ (SBG.digitsL nn - 1))), vI (Int32.ofNat (48 + nn % 10)), zU, zU, zU, zU, zU, zU] [])) t → Steps p.tables e below (T0.setTop (mkF m 142 #[vJ qa, zS, vJ qb, zS, vI pa, vI pb, vJ hh, zS, vI sm, vJ mm, zS, vJ xx, zS, vR ee, vR ms, vR aP, vR aS, vI (0 : Int32), vJ mg, zS, vI (Int32.ofNat (SBG.digitsL nn)), zU, zU, zU, zU, zU, zU, zU, zU, zU, zU, zU] [])) t := by
    intro t kt
    refine pre0 t ?_
    refine XS.bipush X0.here hx rfl (hb hby at_142) ?_
    refine st1 _ ?_
    refine XS.dup X1.here hx rfl (hb hby at_146) rfl rfl ?_
    show Steps p.tables e below (T1.setTop (mkF m 147 #[vJ qa, zS, vJ qb, zS, vI pa, vI pb, vJ hh, zS, vI sm, vJ mm, zS, vJ xx, zS, vR ee, vR ms, vR aP, vR aS, vI (0 : Int32), vJ mg, zS, vI (Int32.ofNat (SBG.digitsL nn)), zU, zU, zU, zU, zU, zU, zU, zU, zU, zU, zU] [(.ref b1), (.ref b1)])) _
    refine XS.iconst X1.here hx rfl (hb hby at_147) ?_
    refine XS.lconst X1.here hx rfl (hb hby at_148) ?_
    refine st3 _ ?_
    refine XS.dup X3.here hx rfl (hb hby at_150) rfl rfl ?_
    show Steps p.tables e below (T3.setTop (mkF m 151 #[vJ qa, zS, vJ qb, zS, vI pa, vI pb, vJ hh, zS, vI sm, vJ mm, zS, vJ xx, zS, vR ee, vR ms, vR aP, vR aS, vI (0 : Int32), vJ mg, zS, vI (Int32.ofNat (SBG.digitsL nn)), zU, zU, zU, zU, zU, zU, zU, zU, zU, zU, zU] [(.ref b1), (.ref b1)])) _
    refine XS.iconst X3.here hx rfl (hb hby at_151) ?_
    refine X3.ldc2Long hx hown (mvT hZ (wd hw 251 rfl)) (g := (mkF m 152 #[vJ qa, zS, vJ qb, zS, vI pa, vI pb, vJ hh, zS, vI sm, vJ mm, zS, vJ xx, zS, vR ee, vR ms, vR aP, vR aS, vI (0 : Int32), vJ mg, zS, vI (Int32.ofNat (SBG.digitsL nn)), zU, zU, zU, zU, zU, zU, zU, zU, zU, zU, zU] [(.int (1 : Int32)), (.ref b1), (.ref b1)])) rfl (hb hby at_152) _ ?_
    refine st5 _ ?_
    refine XS.dup X5.here hx rfl (hb hby at_156) rfl rfl ?_
    show Steps p.tables e below (T5.setTop (mkF m 157 #[vJ qa, zS, vJ qb, zS, vI pa, vI pb, vJ hh, zS, vI sm, vJ mm, zS, vJ xx, zS, vR ee, vR ms, vR aP, vR aS, vI (0 : Int32), vJ mg, zS, vI (Int32.ofNat (SBG.digitsL nn)), zU, zU, zU, zU, zU, zU, zU, zU, zU, zU, zU] [(.ref b1), (.ref b1)])) _
    refine XS.iconst X5.here hx rfl (hb hby at_157) ?_
    refine X5.ldc2Long hx hown (mvT hZ (wd hw 253 rfl)) (g := (mkF m 158 #[vJ qa, zS, vJ qb, zS, vI pa, vI pb, vJ hh, zS, vI sm, vJ mm, zS, vJ xx, zS, vR ee, vR ms, vR aP, vR aS, vI (0 : Int32), vJ mg, zS, vI (Int32.ofNat (SBG.digitsL nn)), zU, zU, zU, zU, zU, zU, zU, zU, zU, zU, zU] [(.int (2 : Int32)), (.ref b1), (.ref b1)])) rfl (hb hby at_158) _ ?_
    refine st7 _ ?_
    refine XS.dup X7.here hx rfl (hb hby at_162) rfl rfl ?_
    show Steps p.tables e below (T7.setTop (mkF m 163 #[vJ qa, zS, vJ qb, zS, vI pa, vI pb, vJ hh, zS, vI sm, vJ mm, zS, vJ xx, zS, vR ee, vR ms, vR aP, vR aS, vI (0 : Int32), vJ mg, zS, vI (Int32.ofNat (SBG.digitsL nn)), zU, zU, zU, zU, zU, zU, zU, zU, zU, zU, zU] [(.ref b1), (.ref b1)])) _
    refine XS.iconst X7.here hx rfl (hb hby at_163) ?_
    refine X7.ldc2Long hx hown (mvT hZ (wd hw 254 rfl)) (g := (mkF m 164 #[vJ qa, zS, vJ qb, zS, vI pa, vI pb, vJ hh, zS, vI sm, vJ mm, zS, vJ xx, zS, vR ee, vR ms, vR aP, vR aS, vI (0 : Int32), vJ mg, zS, vI (Int32.ofNat (SBG.digitsL nn)), zU, zU, zU, zU, zU, zU, zU, zU, zU, zU, zU] [(.int (3 : Int32)), (.ref b1), (.ref b1)])) rfl (hb hby at_164) _ ?_
    refine st9 _ ?_
    refine XS.dup X9.here hx rfl (hb hby at_168) rfl rfl ?_
    show Steps p.tables e below (T9.setTop (mkF m 169 #[vJ qa, zS, vJ qb, zS, vI pa, vI pb, vJ hh, zS, vI sm, vJ mm, zS, vJ xx, zS, vR ee, vR ms, vR aP, vR aS, vI (0 : Int32), vJ mg, zS, vI (Int32.ofNat (SBG.digitsL nn)), zU, zU, zU, zU, zU, zU, zU, zU, zU, zU, zU] [(.ref b1), (.ref b1)])) _
    refine XS.iconst X9.here hx rfl (hb hby at_169) ?_
    refine X9.ldc2Long hx hown (mvT hZ (wd hw 255 rfl)) (g := (mkF m 170 #[vJ qa, zS, vJ qb, zS, vI pa, vI pb, vJ hh, zS, vI sm, vJ mm, zS, vJ xx, zS, vR ee, vR ms, vR aP, vR aS, vI (0 : Int32), vJ mg, zS, vI (Int32.ofNat (SBG.digitsL nn)), zU, zU, zU, zU, zU, zU, zU, zU, zU, zU, zU] [(.int (4 : Int32)), (.ref b1), (.ref b1)])) rfl (hb hby at_170) _ ?_
    refine st11 _ ?_
    refine XS.dup X11.here hx rfl (hb hby at_174) rfl rfl ?_
    show Steps p.tables e below (T11.setTop (mkF m 175 #[vJ qa, zS, vJ qb, zS, vI pa, vI pb, vJ hh, zS, vI sm, vJ mm, zS, vJ xx, zS, vR ee, vR ms, vR aP, vR aS, vI (0 : Int32), vJ mg, zS, vI (Int32.ofNat (SBG.digitsL nn)), zU, zU, zU, zU, zU, zU, zU, zU, zU, zU, zU] [(.ref b1), (.ref b1)])) _
    refine XS.iconst X11.here hx rfl (hb hby at_175) ?_
    refine X11.ldc2Long hx hown (mvT hZ (wd hw 256 rfl)) (g := (mkF m 176 #[vJ qa, zS, vJ qb, zS, vI pa, vI pb, vJ hh, zS, vI sm, vJ mm, zS, vJ xx, zS, vR ee, vR ms, vR aP, vR aS, vI (0 : Int32), vJ mg, zS, vI (Int32.ofNat (SBG.digitsL nn)), zU, zU, zU, zU, zU, zU, zU, zU, zU, zU, zU] [(.int (5 : Int32)), (.ref b1), (.ref b1)])) rfl (hb hby at_176) _ ?_
    refine st13 _ ?_
    refine XS.dup X13.here hx rfl (hb hby at_180) rfl rfl ?_
    show Steps p.tables e below (T13.setTop (mkF m 181 #[vJ qa, zS, vJ qb, zS, vI pa, vI pb, vJ hh, zS, vI sm, vJ mm, zS, vJ xx, zS, vR ee, vR ms, vR aP, vR aS, vI (0 : Int32), vJ mg, zS, vI (Int32.ofNat (SBG.digitsL nn)), zU, zU, zU, zU, zU, zU, zU, zU, zU, zU, zU] [(.ref b1), (.ref b1)])) _
    refine XS.bipush X13.here hx rfl (hb hby at_181) ?_
    refine X13.ldc2Long hx hown (mvT hZ (wd hw 257 rfl)) (g := (mkF m 183 #[vJ qa, zS, vJ qb, zS, vI pa, vI pb, vJ hh, zS, vI sm, vJ mm, zS, vJ xx, zS, vR ee, vR ms, vR aP, vR aS, vI (0 : Int32), vJ mg, zS, vI (Int32.ofNat (SBG.digitsL nn)), zU, zU, zU, zU, zU, zU, zU, zU, zU, zU, zU] [(.int (6 : Int32)), (.ref b1), (.ref b1)])) rfl (hb hby at_183) _ ?_
    refine st15 _ ?_
    refine XS.dup X15.here hx rfl (hb hby at_187) rfl rfl ?_
    show Steps p.tables e below (T15.setTop (mkF m 188 #[vJ qa, zS, vJ qb, zS, vI pa, vI pb, vJ hh, zS, vI sm, vJ mm, zS, vJ xx, zS, vR ee, vR ms, vR aP, vR aS, vI (0 : Int32), vJ mg, zS, vI (Int32.ofNat (SBG.digitsL nn)), zU, zU, zU, zU, zU, zU, zU, zU, zU, zU, zU] [(.ref b1), (.ref b1)])) _
    refine XS.bipush X15.here hx rfl (hb hby at_188) ?_
    refine X15.ldc2Long hx hown (mvT hZ (wd hw 258 rfl)) (g := (mkF m 190 #[vJ qa, zS, vJ qb, zS, vI pa, vI pb, vJ hh, zS, vI sm, vJ mm, zS, vJ xx, zS, vR ee, vR ms, vR aP, vR aS, vI (0 : Int32), vJ mg, zS, vI (Int32.ofNat (SBG.digitsL nn)), zU, zU, zU, zU, zU, zU, zU, zU, zU, zU, zU] [(.int (7 : Int32)), (.ref b1), (.ref b1)])) rfl (hb hby at_190) _ ?_
    refine st17 _ ?_
    refine XS.dup X17.here hx rfl (hb hby at_194) rfl rfl ?_
    show Steps p.tables e below (T17.setTop (mkF m 195 #[vJ qa, zS, vJ qb, zS, vI pa, vI pb, vJ hh, zS, vI sm, vJ mm, zS, vJ xx, zS, vR ee, vR ms, vR aP, vR aS, vI (0 : Int32), vJ mg, zS, vI (Int32.ofNat (SBG.digitsL nn)), zU, zU, zU, zU, zU, zU, zU, zU, zU, zU, zU] [(.ref b1), (.ref b1)])) _
    refine XS.bipush X17.here hx rfl (hb hby at_195) ?_
    refine X17.ldc2Long hx hown (mvT hZ (wd hw 259 rfl)) (g := (mkF m 197 #[vJ qa, zS, vJ qb, zS, vI pa, vI pb, vJ hh, zS, vI sm, vJ mm, zS, vJ xx, zS, vR ee, vR ms, vR aP, vR aS, vI (0 : Int32), vJ mg, zS, vI (Int32.ofNat (SBG.digitsL nn)), zU, zU, zU, zU, zU, zU, zU, zU, zU, zU, zU] [(.int (8 : Int32)), (.ref b1), (.ref b1)])) rfl (hb hby at_197) _ ?_
    refine st19 _ ?_
    refine XS.dup X19.here hx rfl (hb hby at_201) rfl rfl ?_
    show Steps p.tables e below (T19.setTop (mkF m 202 #[vJ qa, zS, vJ qb, zS, vI pa, vI pb, vJ hh, zS, vI sm, vJ mm, zS, vJ xx, zS, vR ee, vR ms, vR aP, vR aS, vI (0 : Int32), vJ mg, zS, vI (Int32.ofNat (SBG.digitsL nn)), zU, zU, zU, zU, zU, zU, zU, zU, zU, zU, zU] [(.ref b1), (.ref b1)])) _
    refine XS.bipush X19.here hx rfl (hb hby at_202) ?_
    refine X19.ldc2Long hx hown (mvT hZ (wd hw 260 rfl)) (g := (mkF m 204 #[vJ qa, zS, vJ qb, zS, vI pa, vI pb, vJ hh, zS, vI sm, vJ mm, zS, vJ xx, zS, vR ee, vR ms, vR aP, vR aS, vI (0 : Int32), vJ mg, zS, vI (Int32.ofNat (SBG.digitsL nn)), zU, zU, zU, zU, zU, zU, zU, zU, zU, zU, zU] [(.int (9 : Int32)), (.ref b1), (.ref b1)])) rfl (hb hby at_204) _ ?_
    refine st21 _ ?_
    refine XS.dup X21.here hx rfl (hb hby at_208) rfl rfl ?_
    show Steps p.tables e below (T21.setTop (mkF m 209 #[vJ qa, zS, vJ qb, zS, vI pa, vI pb, vJ hh, zS, vI sm, vJ mm, zS, vJ xx, zS, vR ee, vR ms, vR aP, vR aS, vI (0 : Int32), vJ mg, zS, vI (Int32.ofNat (SBG.digitsL nn)), zU, zU, zU, zU, zU, zU, zU, zU, zU, zU, zU] [(.ref b1), (.ref b1)])) _
    refine XS.bipush X21.here hx rfl (hb hby at_209) ?_
    refine X21.ldc2Long hx hown (mvT hZ (wd hw 261 rfl)) (g := (mkF m 211 #[vJ qa, zS, vJ qb, zS, vI pa, vI pb, vJ hh, zS, vI sm, vJ mm, zS, vJ xx, zS, vR ee, vR ms, vR aP, vR aS, vI (0 : Int32), vJ mg, zS, vI (Int32.ofNat (SBG.digitsL nn)), zU, zU, zU, zU, zU, zU, zU, zU, zU, zU, zU] [(.int (10 : Int32)), (.ref b1), (.ref b1)])) rfl (hb hby at_211) _ ?_
    refine st23 _ ?_
    refine XS.dup X23.here hx rfl (hb hby at_215) rfl rfl ?_
    show Steps p.tables e below (T23.setTop (mkF m 216 #[vJ qa, zS, vJ qb, zS, vI pa, vI pb, vJ hh, zS, vI sm, vJ mm, zS, vJ xx, zS, vR ee, vR ms, vR aP, vR aS, vI (0 : Int32), vJ mg, zS, vI (Int32.ofNat (SBG.digitsL nn)), zU, zU, zU, zU, zU, zU, zU, zU, zU, zU, zU] [(.ref b1), (.ref b1)])) _
    refine XS.bipush X23.here hx rfl (hb hby at_216) ?_
    refine X23.ldc2Long hx hown (mvT hZ (wd hw 262 rfl)) (g := (mkF m 218 #[vJ qa, zS, vJ qb, zS, vI pa, vI pb, vJ hh, zS, vI sm, vJ mm, zS, vJ xx, zS, vR ee, vR ms, vR aP, vR aS, vI (0 : Int32), vJ mg, zS, vI (Int32.ofNat (SBG.digitsL nn)), zU, zU, zU, zU, zU, zU, zU, zU, zU, zU, zU] [(.int (11 : Int32)), (.ref b1), (.ref b1)])) rfl (hb hby at_218) _ ?_
    refine st25 _ ?_
    refine XS.dup X25.here hx rfl (hb hby at_222) rfl rfl ?_
    show Steps p.tables e below (T25.setTop (mkF m 223 #[vJ qa, zS, vJ qb, zS, vI pa, vI pb, vJ hh, zS, vI sm, vJ mm, zS, vJ xx, zS, vR ee, vR ms, vR aP, vR aS, vI (0 : Int32), vJ mg, zS, vI (Int32.ofNat (SBG.digitsL nn)), zU, zU, zU, zU, zU, zU, zU, zU, zU, zU, zU] [(.ref b1), (.ref b1)])) _
    refine XS.bipush X25.here hx rfl (hb hby at_223) ?_
    refine X25.ldc2Long hx hown (mvT hZ (wd hw 263 rfl)) (g := (mkF m 225 #[vJ qa, zS, vJ qb, zS, vI pa, vI pb, vJ hh, zS, vI sm, vJ mm, zS, vJ xx, zS, vR ee, vR ms, vR aP, vR aS, vI (0 : Int32), vJ mg, zS, vI (Int32.ofNat (SBG.digitsL nn)), zU, zU, zU, zU, zU, zU, zU, zU, zU, zU, zU] [(.int (12 : Int32)), (.ref b1), (.ref b1)])) rfl (hb hby at_225) _ ?_
    refine st27 _ ?_
    refine XS.dup X27.here hx rfl (hb hby at_229) rfl rfl ?_
    show Steps p.tables e below (T27.setTop (mkF m 230 #[vJ qa, zS, vJ qb, zS, vI pa, vI pb, vJ hh, zS, vI sm, vJ mm, zS, vJ xx, zS, vR ee, vR ms, vR aP, vR aS, vI (0 : Int32), vJ mg, zS, vI (Int32.ofNat (SBG.digitsL nn)), zU, zU, zU, zU, zU, zU, zU, zU, zU, zU, zU] [(.ref b1), (.ref b1)])) _
    refine XS.bipush X27.here hx rfl (hb hby at_230) ?_
    refine X27.ldc2Long hx hown (mvT hZ (wd hw 264 rfl)) (g := (mkF m 232 #[vJ qa, zS, vJ qb, zS, vI pa, vI pb, vJ hh, zS, vI sm, vJ mm, zS, vJ xx, zS, vR ee, vR ms, vR aP, vR aS, vI (0 : Int32), vJ mg, zS, vI (Int32.ofNat (SBG.digitsL nn)), zU, zU, zU, zU, zU, zU, zU, zU, zU, zU, zU] [(.int (13 : Int32)), (.ref b1), (.ref b1)])) rfl (hb hby at_232) _ ?_
    refine st29 _ ?_
    refine XS.dup X29.here hx rfl (hb hby at_236) rfl rfl ?_
    show Steps p.tables e below (T29.setTop (mkF m 237 #[vJ qa, zS, vJ qb, zS, vI pa, vI pb, vJ hh, zS, vI sm, vJ mm, zS, vJ xx, zS, vR ee, vR ms, vR aP, vR aS, vI (0 : Int32), vJ mg, zS, vI (Int32.ofNat (SBG.digitsL nn)), zU, zU, zU, zU, zU, zU, zU, zU, zU, zU, zU] [(.ref b1), (.ref b1)])) _
    refine XS.bipush X29.here hx rfl (hb hby at_237) ?_
    refine X29.ldc2Long hx hown (mvT hZ (wd hw 265 rfl)) (g := (mkF m 239 #[vJ qa, zS, vJ qb, zS, vI pa, vI pb, vJ hh, zS, vI sm, vJ mm, zS, vJ xx, zS, vR ee, vR ms, vR aP, vR aS, vI (0 : Int32), vJ mg, zS, vI (Int32.ofNat (SBG.digitsL nn)), zU, zU, zU, zU, zU, zU, zU, zU, zU, zU, zU] [(.int (14 : Int32)), (.ref b1), (.ref b1)])) rfl (hb hby at_239) _ ?_
    refine st31 _ ?_
    refine XS.dup X31.here hx rfl (hb hby at_243) rfl rfl ?_
    show Steps p.tables e below (T31.setTop (mkF m 244 #[vJ qa, zS, vJ qb, zS, vI pa, vI pb, vJ hh, zS, vI sm, vJ mm, zS, vJ xx, zS, vR ee, vR ms, vR aP, vR aS, vI (0 : Int32), vJ mg, zS, vI (Int32.ofNat (SBG.digitsL nn)), zU, zU, zU, zU, zU, zU, zU, zU, zU, zU, zU] [(.ref b1), (.ref b1)])) _
    refine XS.bipush X31.here hx rfl (hb hby at_244) ?_
    refine X31.ldc2Long hx hown (mvT hZ (wd hw 266 rfl)) (g := (mkF m 246 #[vJ qa, zS, vJ qb, zS, vI pa, vI pb, vJ hh, zS, vI sm, vJ mm, zS, vJ xx, zS, vR ee, vR ms, vR aP, vR aS, vI (0 : Int32), vJ mg, zS, vI (Int32.ofNat (SBG.digitsL nn)), zU, zU, zU, zU, zU, zU, zU, zU, zU, zU, zU] [(.int (15 : Int32)), (.ref b1), (.ref b1)])) rfl (hb hby at_246) _ ?_
    refine st33 _ ?_
    refine XS.dup X33.here hx rfl (hb hby at_250) rfl rfl ?_
    show Steps p.tables e below (T33.setTop (mkF m 251 #[vJ qa, zS, vJ qb, zS, vI pa, vI pb, vJ hh, zS, vI sm, vJ mm, zS, vJ xx, zS, vR ee, vR ms, vR aP, vR aS, vI (0 : Int32), vJ mg, zS, vI (Int32.ofNat (SBG.digitsL nn)), zU, zU, zU, zU, zU, zU, zU, zU, zU, zU, zU] [(.ref b1), (.ref b1)])) _
    refine XS.bipush X33.here hx rfl (hb hby at_251) ?_
    refine X33.ldc2Long hx hown (mvT hZ (wd hw 267 rfl)) (g := (mkF m 253 #[vJ qa, zS, vJ qb, zS, vI pa, vI pb, vJ hh, zS, vI sm, vJ mm, zS, vJ xx, zS, vR ee, vR ms, vR aP, vR aS, vI (0 : Int32), vJ mg, zS, vI (Int32.ofNat (SBG.digitsL nn)), zU, zU, zU, zU, zU, zU, zU, zU, zU, zU, zU] [(.int (16 : Int32)), (.ref b1), (.ref b1)])) rfl (hb hby at_253) _ ?_
    refine st35 _ ?_
    refine XS.dup X35.here hx rfl (hb hby at_257) rfl rfl ?_
    show Steps p.tables e below (T35.setTop (mkF m 258 #[vJ qa, zS, vJ qb, zS, vI pa, vI pb, vJ hh, zS, vI sm, vJ mm, zS, vJ xx, zS, vR ee, vR ms, vR aP, vR aS, vI (0 : Int32), vJ mg, zS, vI (Int32.ofNat (SBG.digitsL nn)), zU, zU, zU, zU, zU, zU, zU, zU, zU, zU, zU] [(.ref b1), (.ref b1)])) _
    refine XS.bipush X35.here hx rfl (hb hby at_258) ?_
    refine X35.ldc2Long hx hown (mvT hZ (wd hw 268 rfl)) (g := (mkF m 260 #[vJ qa, zS, vJ qb, zS, vI pa, vI pb, vJ hh, zS, vI sm, vJ mm, zS, vJ xx, zS, vR ee, vR ms, vR aP, vR aS, vI (0 : Int32), vJ mg, zS, vI (Int32.ofNat (SBG.digitsL nn)), zU, zU, zU, zU, zU, zU, zU, zU, zU, zU, zU] [(.int (17 : Int32)), (.ref b1), (.ref b1)])) rfl (hb hby at_260) _ ?_
    refine st37 _ ?_
    refine XS.dup X37.here hx rfl (hb hby at_264) rfl rfl ?_
    show Steps p.tables e below (T37.setTop (mkF m 265 #[vJ qa, zS, vJ qb, zS, vI pa, vI pb, vJ hh, zS, vI sm, vJ mm, zS, vJ xx, zS, vR ee, vR ms, vR aP, vR aS, vI (0 : Int32), vJ mg, zS, vI (Int32.ofNat (SBG.digitsL nn)), zU, zU, zU, zU, zU, zU, zU, zU, zU, zU, zU] [(.ref b1), (.ref b1)])) _
    refine XS.bipush X37.here hx rfl (hb hby at_265) ?_
    refine X37.ldc2Long hx hown (mvT hZ (wd hw 269 rfl)) (g := (mkF m 267 #[vJ qa, zS, vJ qb, zS, vI pa, vI pb, vJ hh, zS, vI sm, vJ mm, zS, vJ xx, zS, vR ee, vR ms, vR aP, vR aS, vI (0 : Int32), vJ mg, zS, vI (Int32.ofNat (SBG.digitsL nn)), zU, zU, zU, zU, zU, zU, zU, zU, zU, zU, zU] [(.int (18 : Int32)), (.ref b1), (.ref b1)])) rfl (hb hby at_267) _ ?_
    refine st39 _ ?_
    refine XS.astore X39.here hx rfl (hb hby at_271) rfl rfl (l' := #[vJ qa, zS, vJ qb, zS, vI pa, vI pb, vJ hh, zS, vI sm, vJ mm, zS, vJ xx, zS, vR ee, vR ms, vR aP, vR aS, vI (0 : Int32), vJ mg, zS, vI (Int32.ofNat (SBG.digitsL nn)), vR b1, zU, zU, zU, zU, zU, zU, zU, zU, zU, zU]) rfl ?_
    show Steps p.tables e below (T39.setTop (mkF m 273 #[vJ qa, zS, vJ qb, zS, vI pa, vI pb, vJ hh, zS, vI sm, vJ mm, zS, vJ xx, zS, vR ee, vR ms, vR aP, vR aS, vI (0 : Int32), vJ mg, zS, vI (Int32.ofNat (SBG.digitsL nn)), vR b1, zU, zU, zU, zU, zU, zU, zU, zU, zU, zU] [])) _
    refine XS.aload X39.here hx rfl (hb hby at_273) rfl rfl ?_
    refine st40.trans ?_
    refine XS.istore X40.here hx rfl (hb hby at_278) rfl (l' := #[vJ qa, zS, vJ qb, zS, vI pa, vI pb, vJ hh, zS, vI sm, vJ mm, zS, vJ xx, zS, vR ee, vR ms, vR aP, vR aS, vI (0 : Int32), vJ mg, zS, vI (Int32.ofNat (SBG.digitsL nn)), vR b1, vI (Int32.ofNat 59), zU, zU, zU, zU, zU, zU, zU, zU, zU]) rfl ?_
    refine XS.iload X40.here hx rfl (hb hby at_280) rfl ?_
    show Steps p.tables e below (T40.setTop (mkF m 282 #[vJ qa, zS, vJ qb, zS, vI pa, vI pb, vJ hh, zS, vI sm, vJ mm, zS, vJ xx, zS, vR ee, vR ms, vR aP, vR aS, vI (0 : Int32), vJ mg, zS, vI (Int32.ofNat (SBG.digitsL nn)), vR b1, vI (Int32.ofNat 59), zU, zU, zU, zU, zU, zU, zU, zU, zU] [(.int (Int32.ofNat (SBG.digitsL nn)))])) _
    refine XS.iload X40.here hx rfl (hb hby at_282) rfl ?_
    refine XS.ifYes X40.here hx rfl (pc0 := 284) (pc' := 291) rfl (hb hby at_284) rfl ((if0 _ _).trans (teq (by decide : (0 : Int32) = (0 : Int32))).1) (by decide) (by decide) ?_
    refine XS.iconst X40.here hx rfl (hb hby at_291) ?_
    refine XS.iadd X40.here hx rfl (hb hby at_292) rfl ?_
    show Steps p.tables e below (T40.setTop (mkF m 293 #[vJ qa, zS, vJ qb, zS, vI pa, vI pb, vJ hh, zS, vI sm, vJ mm, zS, vJ xx, zS, vR ee, vR ms, vR aP, vR aS, vI (0 : Int32), vJ mg, zS, vI (Int32.ofNat (SBG.digitsL nn)), vR b1, vI (Int32.ofNat 59), zU, zU, zU, zU, zU, zU, zU, zU, zU] [(.int ((Int32.ofNat (SBG.digitsL nn)) + (0 : Int32)))])) _
    rw [show Int32.ofNat (SBG.digitsL nn) + (0 : Int32) = Int32.ofNat sz from by rw [← hsz, hsg]; exact own_addN _ 0]
    show Steps p.tables e below (T40.setTop (mkF m 293 #[vJ qa, zS, vJ qb, zS, vI pa, vI pb, vJ hh, zS, vI sm, vJ mm, zS, vJ xx, zS, vR ee, vR ms, vR aP, vR aS, vI (0 : Int32), vJ mg, zS, vI (Int32.ofNat (SBG.digitsL nn)), vR b1, vI (Int32.ofNat 59), zU, zU, zU, zU, zU, zU, zU, zU, zU] [(.int (Int32.ofNat sz))])) _
    refine XS.istore X40.here hx rfl (hb hby at_293) rfl (l' := #[vJ qa, zS, vJ qb, zS, vI pa, vI pb, vJ hh, zS, vI sm, vJ mm, zS, vJ xx, zS, vR ee, vR ms, vR aP, vR aS, vI (0 : Int32), vJ mg, zS, vI (Int32.ofNat (SBG.digitsL nn)), vR b1, vI (Int32.ofNat 59), vI (Int32.ofNat sz), zU, zU, zU, zU, zU, zU, zU, zU]) rfl ?_
    refine XS.aload X40.here hx rfl (hb hby at_295) rfl rfl ?_
    refine st42.trans ?_
    refine XS.iload X42.here hx rfl (hb hby at_300) rfl ?_
    show Steps p.tables e below (T42.setTop (mkF m 302 #[vJ qa, zS, vJ qb, zS, vI pa, vI pb, vJ hh, zS, vI sm, vJ mm, zS, vJ xx, zS, vR ee, vR ms, vR aP, vR aS, vI (0 : Int32), vJ mg, zS, vI (Int32.ofNat (SBG.digitsL nn)), vR b1, vI (Int32.ofNat 59), vI (Int32.ofNat sz), zU, zU, zU, zU, zU, zU, zU, zU] [(.int (Int32.ofNat 59)), (.int (Int32.ofNat (59 + sz + 33)))])) _
    refine XS.iload X42.here hx rfl (hb hby at_302) rfl ?_
    refine XS.iadd X42.here hx rfl (hb hby at_304) rfl ?_
    show Steps p.tables e below (T42.setTop (mkF m 305 #[vJ qa, zS, vJ qb, zS, vI pa, vI pb, vJ hh, zS, vI sm, vJ mm, zS, vJ xx, zS, vR ee, vR ms, vR aP, vR aS, vI (0 : Int32), vJ mg, zS, vI (Int32.ofNat (SBG.digitsL nn)), vR b1, vI (Int32.ofNat 59), vI (Int32.ofNat sz), zU, zU, zU, zU, zU, zU, zU, zU] [(.int ((Int32.ofNat 59) + (Int32.ofNat sz))), (.int (Int32.ofNat (59 + sz + 33)))])) _
    rw [own_addN]
    refine XS.aload X42.here hx rfl (hb hby at_305) rfl rfl ?_
    refine st44.trans ?_
    show Steps p.tables e below (T44.setTop (mkF m 310 #[vJ qa, zS, vJ qb, zS, vI pa, vI pb, vJ hh, zS, vI sm, vJ mm, zS, vJ xx, zS, vR ee, vR ms, vR aP, vR aS, vI (0 : Int32), vJ mg, zS, vI (Int32.ofNat (SBG.digitsL nn)), vR b1, vI (Int32.ofNat 59), vI (Int32.ofNat sz), zU, zU, zU, zU, zU, zU, zU, zU] [(.int (Int32.ofNat 33)), (.int (Int32.ofNat (59 + sz))), (.int (Int32.ofNat (59 + sz + 33)))])) _
    refine XS.iadd X44.here hx rfl (hb hby at_310) rfl ?_
    show Steps p.tables e below (T44.setTop (mkF m 311 #[vJ qa, zS, vJ qb, zS, vI pa, vI pb, vJ hh, zS, vI sm, vJ mm, zS, vJ xx, zS, vR ee, vR ms, vR aP, vR aS, vI (0 : Int32), vJ mg, zS, vI (Int32.ofNat (SBG.digitsL nn)), vR b1, vI (Int32.ofNat 59), vI (Int32.ofNat sz), zU, zU, zU, zU, zU, zU, zU, zU] [(.int ((Int32.ofNat (59 + sz)) + (Int32.ofNat 33))), (.int (Int32.ofNat (59 + sz + 33)))])) _
    rw [own_addN]
    refine XS.icmpYes X44.here hx rfl (pc0 := 311) (pc' := 316) rfl (hb hby at_311) rfl (teq rfl).1 (by decide) (by decide) ?_
    refine XS.iload X44.here hx rfl (hb hby at_316) rfl ?_
    refine XS.ifYes X44.here hx rfl (pc0 := 318) (pc' := 335) rfl (hb hby at_318) rfl ((if0 _ _).trans (teq (by decide : (0 : Int32) = (0 : Int32))).1) (by decide) (by decide) ?_
    show Steps p.tables e below (T44.setTop (mkF m 335 #[vJ qa, zS, vJ qb, zS, vI pa, vI pb, vJ hh, zS, vI sm, vJ mm, zS, vJ xx, zS, vR ee, vR ms, vR aP, vR aS, vI (0 : Int32), vJ mg, zS, vI (Int32.ofNat (SBG.digitsL nn)), vR b1, vI (Int32.ofNat 59), vI (Int32.ofNat sz), zU, zU, zU, zU, zU, zU, zU, zU] [])) _
    refine XS.bipush X44.here hx rfl (hb hby at_335) ?_
    refine XS.lload X44.here hx rfl (hb hby at_337) rfl ?_
    refine XS.aload X44.here hx rfl (hb hby at_339) rfl rfl ?_
    refine XS.iload X44.here hx rfl (hb hby at_341) rfl ?_
    show Steps p.tables e below (T44.setTop (mkF m 343 #[vJ qa, zS, vJ qb, zS, vI pa, vI pb, vJ hh, zS, vI sm, vJ mm, zS, vJ xx, zS, vR ee, vR ms, vR aP, vR aS, vI (0 : Int32), vJ mg, zS, vI (Int32.ofNat (SBG.digitsL nn)), vR b1, vI (Int32.ofNat 59), vI (Int32.ofNat sz), zU, zU, zU, zU, zU, zU, zU, zU] [(.int (Int32.ofNat (SBG.digitsL nn))), (.ref b1), (.long mg), (.int (48 : Int32))])) _
    refine XS.iconst X44.here hx rfl (hb hby at_343) ?_
    refine XS.isub X44.here hx rfl (hb hby at_344) rfl ?_
    show Steps p.tables e below (T44.setTop (mkF m 345 #[vJ qa, zS, vJ qb, zS, vI pa, vI pb, vJ hh, zS, vI sm, vJ mm, zS, vJ xx, zS, vR ee, vR ms, vR aP, vR aS, vI (0 : Int32), vJ mg, zS, vI (Int32.ofNat (SBG.digitsL nn)), vR b1, vI (Int32.ofNat 59), vI (Int32.ofNat sz), zU, zU, zU, zU, zU, zU, zU, zU] [(.int ((Int32.ofNat (SBG.digitsL nn)) - (1 : Int32))), (.ref b1), (.long mg), (.int (48 : Int32))])) _
    rw [show Int32.ofNat (SBG.digitsL nn) - (1 : Int32) = Int32.ofNat (SBG.digitsL nn - 1) from own_subN (j := 1) (by omega) (by omega)]
    refine X44.laload hx (j := (Int32.ofNat (SBG.digitsL nn - 1))) (v := (.long (Int64.ofNat (10 ^ (SBG.digitsL nn - 1))))) (by rw [e44]; exact Ar46.1) (State.isArrayOf_alike hZ.alike Ar46.2.1) Ar46.2.2 hin46 hat46 (g := (mkF m 345 #[vJ qa, zS, vJ qb, zS, vI pa, vI pb, vJ hh, zS, vI sm, vJ mm, zS, vJ xx, zS, vR ee, vR ms, vR aP, vR aS, vI (0 : Int32), vJ mg, zS, vI (Int32.ofNat (SBG.digitsL nn)), vR b1, vI (Int32.ofNat 59), vI (Int32.ofNat sz), zU, zU, zU, zU, zU, zU, zU, zU] [(.int (Int32.ofNat (SBG.digitsL nn - 1))), (.ref b1), (.long mg), (.int (48 : Int32))])) rfl rfl (hb hby at_345) _ ?_
    refine XS.ldiv X44.here hx rfl (hb hby at_346) rfl (own_pnz (by omega)) ?_
    show Steps p.tables e below (T44.setTop (mkF m 347 #[vJ qa, zS, vJ qb, zS, vI pa, vI pb, vJ hh, zS, vI sm, vJ mm, zS, vJ xx, zS, vR ee, vR ms, vR aP, vR aS, vI (0 : Int32), vJ mg, zS, vI (Int32.ofNat (SBG.digitsL nn)), vR b1, vI (Int32.ofNat 59), vI (Int32.ofNat sz), zU, zU, zU, zU, zU, zU, zU, zU] [(.long (mg / (Int64.ofNat (10 ^ (SBG.digitsL nn - 1))))), (.int (48 : Int32))])) _
    refine XS.l2i X44.here hx rfl (hb hby at_347) rfl ?_
    refine XS.iadd X44.here hx rfl (hb hby at_348) rfl ?_
    refine XS.i2c X44.here hx rfl (hb hby at_349) rfl ?_
    show Steps p.tables e below (T44.setTop (mkF m 350 #[vJ qa, zS, vJ qb, zS, vI pa, vI pb, vJ hh, zS, vI sm, vJ mm, zS, vJ xx, zS, vR ee, vR ms, vR aP, vR aS, vI (0 : Int32), vJ mg, zS, vI (Int32.ofNat (SBG.digitsL nn)), vR b1, vI (Int32.ofNat 59), vI (Int32.ofNat sz), zU, zU, zU, zU, zU, zU, zU, zU] [(.int (((48 : Int32) + ((mg / (Int64.ofNat (10 ^ (SBG.digitsL nn - 1)))).toInt32)).toUInt32.toUInt16.toUInt32.toInt32))])) _
    rw [own_q10 hmg hn18 (by omega) (own_fd hnn)]
    refine XS.istore X44.here hx rfl (hb hby at_350) rfl (l' := #[vJ qa, zS, vJ qb, zS, vI pa, vI pb, vJ hh, zS, vI sm, vJ mm, zS, vJ xx, zS, vR ee, vR ms, vR aP, vR aS, vI (0 : Int32), vJ mg, zS, vI (Int32.ofNat (SBG.digitsL nn)), vR b1, vI (Int32.ofNat 59), vI (Int32.ofNat sz), vI (Int32.ofNat (48 + nn / 10 ^ (SBG.digitsL nn - 1))), zU, zU, zU, zU, zU, zU, zU]) rfl ?_
    show Steps p.tables e below (T44.setTop (mkF m 352 #[vJ qa, zS, vJ qb, zS, vI pa, vI pb, vJ hh, zS, vI sm, vJ mm, zS, vJ xx, zS, vR ee, vR ms, vR aP, vR aS, vI (0 : Int32), vJ mg, zS, vI (Int32.ofNat (SBG.digitsL nn)), vR b1, vI (Int32.ofNat 59), vI (Int32.ofNat sz), vI (Int32.ofNat (48 + nn / 10 ^ (SBG.digitsL nn - 1))), zU, zU, zU, zU, zU, zU, zU] [])) _
    refine XS.aload X44.here hx rfl (hb hby at_352) rfl rfl ?_
    refine XS.iload X44.here hx rfl (hb hby at_354) rfl ?_
    refine XS.iload X44.here hx rfl (hb hby at_356) rfl ?_
    refine XS.ifYes X44.here hx rfl (pc0 := 358) (pc' := 365) rfl (hb hby at_358) rfl ((if0 _ _).trans (teq (by decide : (0 : Int32) = (0 : Int32))).1) (by decide) (by decide) ?_
    show Steps p.tables e below (T44.setTop (mkF m 365 #[vJ qa, zS, vJ qb, zS, vI pa, vI pb, vJ hh, zS, vI sm, vJ mm, zS, vJ xx, zS, vR ee, vR ms, vR aP, vR aS, vI (0 : Int32), vJ mg, zS, vI (Int32.ofNat (SBG.digitsL nn)), vR b1, vI (Int32.ofNat 59), vI (Int32.ofNat sz), vI (Int32.ofNat (48 + nn / 10 ^ (SBG.digitsL nn - 1))), zU, zU, zU, zU, zU, zU, zU] [(.int (Int32.ofNat 59)), (.ref ms)])) _
    refine XS.iconst X44.here hx rfl (hb hby at_365) ?_
    refine XS.iadd X44.here hx rfl (hb hby at_366) rfl ?_
    show Steps p.tables e below (T44.setTop (mkF m 367 #[vJ qa, zS, vJ qb, zS, vI pa, vI pb, vJ hh, zS, vI sm, vJ mm, zS, vJ xx, zS, vR ee, vR ms, vR aP, vR aS, vI (0 : Int32), vJ mg, zS, vI (Int32.ofNat (SBG.digitsL nn)), vR b1, vI (Int32.ofNat 59), vI (Int32.ofNat sz), vI (Int32.ofNat (48 + nn / 10 ^ (SBG.digitsL nn - 1))), zU, zU, zU, zU, zU, zU, zU] [(.int ((Int32.ofNat 59) + (0 : Int32))), (.ref ms)])) _
    rw [show Int32.ofNat 59 + (0 : Int32) = Int32.ofNat (59 + 0) from own_addN 59 0]
    refine st47.trans ?_
    refine XS.iload X47.here hx rfl (hb hby at_370) rfl ?_
    show Steps p.tables e below (T47.setTop (mkF m 372 #[vJ qa, zS, vJ qb, zS, vI pa, vI pb, vJ hh, zS, vI sm, vJ mm, zS, vJ xx, zS, vR ee, vR ms, vR aP, vR aS, vI (0 : Int32), vJ mg, zS, vI (Int32.ofNat (SBG.digitsL nn)), vR b1, vI (Int32.ofNat 59), vI (Int32.ofNat sz), vI (Int32.ofNat (48 + nn / 10 ^ (SBG.digitsL nn - 1))), zU, zU, zU, zU, zU, zU, zU] [(.int (Int32.ofNat (48 + nn / 10 ^ (SBG.digitsL nn - 1)))), (.int (Int32.ofNat (txt xx nn sz (59 + 0))))])) _
    refine XS.icmpYes X47.here hx rfl (pc0 := 372) (pc' := 377) rfl (hb hby at_372) rfl (teq (by rw [show 59 + 0 = 59 + SBG.GetCharsL.sgnL xx from by rw [hsg], own_tF hnn hsz])).1 (by decide) (by decide) ?_
    refine XS.bipush X47.here hx rfl (hb hby at_377) ?_
    refine XS.lload X47.here hx rfl (hb hby at_379) rfl ?_
    refine X47.ldc2Long hx hown (mvT hZ (wd hw 251 rfl)) (g := (mkF m 381 #[vJ qa, zS, vJ qb, zS, vI pa, vI pb, vJ hh, zS, vI sm, vJ mm, zS, vJ xx, zS, vR ee, vR ms, vR aP, vR aS, vI (0 : Int32), vJ mg, zS, vI (Int32.ofNat (SBG.digitsL nn)), vR b1, vI (Int32.ofNat 59), vI (Int32.ofNat sz), vI (Int32.ofNat (48 + nn / 10 ^ (SBG.digitsL nn - 1))), zU, zU, zU, zU, zU, zU, zU] [(.long mg), (.int (48 : Int32))])) rfl (hb hby at_381) _ ?_
    show Steps p.tables e below (T47.setTop (mkF m 384 #[vJ qa, zS, vJ qb, zS, vI pa, vI pb, vJ hh, zS, vI sm, vJ mm, zS, vJ xx, zS, vR ee, vR ms, vR aP, vR aS, vI (0 : Int32), vJ mg, zS, vI (Int32.ofNat (SBG.digitsL nn)), vR b1, vI (Int32.ofNat 59), vI (Int32.ofNat sz), vI (Int32.ofNat (48 + nn / 10 ^ (SBG.digitsL nn - 1))), zU, zU, zU, zU, zU, zU, zU] [(.long (10 : Int64)), (.long mg), (.int (48 : Int32))])) _
    refine XS.lrem X47.here hx rfl (hb hby at_384) rfl (by decide) ?_
    refine XS.l2i X47.here hx rfl (hb hby at_385) rfl ?_
    refine XS.iadd X47.here hx rfl (hb hby at_386) rfl ?_
    refine XS.i2c X47.here hx rfl (hb hby at_387) rfl ?_
    show Steps p.tables e below (T47.setTop (mkF m 388 #[vJ qa, zS, vJ qb, zS, vI pa, vI pb, vJ hh, zS, vI sm, vJ mm, zS, vJ xx, zS, vR ee, vR ms, vR aP, vR aS, vI (0 : Int32), vJ mg, zS, vI (Int32.ofNat (SBG.digitsL nn)), vR b1, vI (Int32.ofNat 59), vI (Int32.ofNat sz), vI (Int32.ofNat (48 + nn / 10 ^ (SBG.digitsL nn - 1))), zU, zU, zU, zU, zU, zU, zU] [(.int (((48 : Int32) + ((mg - (mg / (10 : Int64)) * (10 : Int64)).toInt32)).toUInt32.toUInt16.toUInt32.toInt32))])) _
    rw [own_r10 hmg hn18]
    show Steps p.tables e below (T47.setTop (mkF m 388 #[vJ qa, zS, vJ qb, zS, vI pa, vI pb, vJ hh, zS, vI sm, vJ mm, zS, vJ xx, zS, vR ee, vR ms, vR aP, vR aS, vI (0 : Int32), vJ mg, zS, vI (Int32.ofNat (SBG.digitsL nn)), vR b1, vI (Int32.ofNat 59), vI (Int32.ofNat sz), vI (Int32.ofNat (48 + nn / 10 ^ (SBG.digitsL nn - 1))), zU, zU, zU, zU, zU, zU, zU] [(.int (Int32.ofNat (48 + nn % 10)))])) _
    refine XS.istore X47.here hx rfl (hb hby at_388) rfl (l' := #[vJ qa, zS, vJ qb, zS, vI pa, vI pb, vJ hh, zS, vI sm, vJ mm, zS, vJ xx, zS, vR ee, vR ms, vR aP, vR aS, vI (0 : Int32), vJ mg, zS, vI (Int32.ofNat (SBG.digitsL nn)), vR b1, vI (Int32.ofNat 59), vI (Int32.ofNat sz), vI (Int32.ofNat (48 + nn / 10 ^ (SBG.digitsL nn - 1))), vI (Int32.ofNat (48 + nn % 10)), zU, zU, zU, zU, zU, zU]) rfl ?_
    refine XS.aload X47.here hx rfl (hb hby at_390) rfl rfl ?_
    refine XS.iload X47.here hx rfl (hb hby at_392) rfl ?_
    refine XS.iload X47.here hx rfl (hb hby at_394) rfl ?_
    show Steps p.tables e below (T47.setTop (mkF m 396 #[vJ qa, zS, vJ qb, zS, vI pa, vI pb, vJ hh, zS, vI sm, vJ mm, zS, vJ xx, zS, vR ee, vR ms, vR aP, vR aS, vI (0 : Int32), vJ mg, zS, vI (Int32.ofNat (SBG.digitsL nn)), vR b1, vI (Int32.ofNat 59), vI (Int32.ofNat sz), vI (Int32.ofNat (48 + nn / 10 ^ (SBG.digitsL nn - 1))), vI (Int32.ofNat (48 + nn % 10)), zU, zU, zU, zU, zU, zU] [(.int (Int32.ofNat sz)), (.int (Int32.ofNat 59)), (.ref ms)])) _
    refine XS.iadd X47.here hx rfl (hb hby at_396) rfl ?_
    show Steps p.tables e below (T47.setTop (mkF m 397 #[vJ qa, zS, vJ qb, zS, vI pa, vI pb, vJ hh, zS, vI sm, vJ mm, zS, vJ xx, zS, vR ee, vR ms, vR aP, vR aS, vI (0 : Int32), vJ mg, zS, vI (Int32.ofNat (SBG.digitsL nn)), vR b1, vI (Int32.ofNat 59), vI (Int32.ofNat sz), vI (Int32.ofNat (48 + nn / 10 ^ (SBG.digitsL nn - 1))), vI (Int32.ofNat (48 + nn % 10)), zU, zU, zU, zU, zU, zU] [(.int ((Int32.ofNat 59) + (Int32.ofNat sz))), (.ref ms)])) _
    rw [own_addN]
    refine XS.iconst X47.here hx rfl (hb hby at_397) ?_
    refine XS.isub X47.here hx rfl (hb hby at_398) rfl ?_
    show Steps p.tables e below (T47.setTop (mkF m 399 #[vJ qa, zS, vJ qb, zS, vI pa, vI pb, vJ hh, zS, vI sm, vJ mm, zS, vJ xx, zS, vR ee, vR ms, vR aP, vR aS, vI (0 : Int32), vJ mg, zS, vI (Int32.ofNat (SBG.digitsL nn)), vR b1, vI (Int32.ofNat 59), vI (Int32.ofNat sz), vI (Int32.ofNat (48 + nn / 10 ^ (SBG.digitsL nn - 1))), vI (Int32.ofNat (48 + nn % 10)), zU, zU, zU, zU, zU, zU] [(.int ((Int32.ofNat (59 + sz)) - (1 : Int32))), (.ref ms)])) _
    rw [show Int32.ofNat (59 + sz) - (1 : Int32) = Int32.ofNat (59 + sz - 1) from own_subN (j := 1) (by omega) (by omega)]
    refine st48.trans ?_
    show Steps p.tables e below (T48.setTop (mkF m 402 #[vJ qa, zS, vJ qb, zS, vI pa, vI pb, vJ hh, zS, vI sm, vJ mm, zS, vJ xx, zS, vR ee, vR ms, vR aP, vR aS, vI (0 : Int32), vJ mg, zS, vI (Int32.ofNat (SBG.digitsL nn)), vR b1, vI (Int32.ofNat 59), vI (Int32.ofNat sz), vI (Int32.ofNat (48 + nn / 10 ^ (SBG.digitsL nn - 1))), vI (Int32.ofNat (48 + nn % 10)), zU, zU, zU, zU, zU, zU] [(.int (Int32.ofNat (txt xx nn sz (59 + sz - 1))))])) _
    refine XS.iload X48.here hx rfl (hb hby at_402) rfl ?_
    refine XS.icmpYes X48.here hx rfl (pc0 := 404) (pc' := 409) rfl (hb hby at_404) rfl (teq (by rw [own_tL hsz])).1 (by decide) (by decide) ?_
    refine XS.aload X48.here hx rfl (hb hby at_409) rfl rfl ?_
    refine XS.iconst X48.here hx rfl (hb hby at_411) ?_
    show Steps p.tables e below (T48.setTop (mkF m 412 #[vJ qa, zS, vJ qb, zS, vI pa, vI pb, vJ hh, zS, vI sm, vJ mm, zS, vJ xx, zS, vR ee, vR ms, vR aP, vR aS, vI (0 : Int32), vJ mg, zS, vI (Int32.ofNat (SBG.digitsL nn)), vR b1, vI (Int32.ofNat 59), vI (Int32.ofNat sz), vI (Int32.ofNat (48 + nn / 10 ^ (SBG.digitsL nn - 1))), vI (Int32.ofNat (48 + nn % 10)), zU, zU, zU, zU, zU, zU] [(.int (Int32.ofNat 0)), (.ref ms)])) _
    refine st49.trans ?_
    refine XS.bipush X49.here hx rfl (hb hby at_415) ?_
    refine XS.icmpNo X49.here hx rfl (hb hby at_417) rfl (teq (by rw [own_t0 hsz]; rfl)).2 ?_
    refine XS.aload X49.here hx rfl (hb hby at_420) rfl rfl ?_
    show Steps p.tables e below (T49.setTop (mkF m 422 #[vJ qa, zS, vJ qb, zS, vI pa, vI pb, vJ hh, zS, vI sm, vJ mm, zS, vJ xx, zS, vR ee, vR ms, vR aP, vR aS, vI (0 : Int32), vJ mg, zS, vI (Int32.ofNat (SBG.digitsL nn)), vR b1, vI (Int32.ofNat 59), vI (Int32.ofNat sz), vI (Int32.ofNat (48 + nn / 10 ^ (SBG.digitsL nn - 1))), vI (Int32.ofNat (48 + nn % 10)), zU, zU, zU, zU, zU, zU] [(.ref ms)])) _
    refine XS.iload X49.here hx rfl (hb hby at_422) rfl ?_
    refine XS.iconst X49.here hx rfl (hb hby at_424) ?_
    refine XS.isub X49.here hx rfl (hb hby at_425) rfl ?_
    show Steps p.tables e below (T49.setTop (mkF m 426 #[vJ qa, zS, vJ qb, zS, vI pa, vI pb, vJ hh, zS, vI sm, vJ mm, zS, vJ xx, zS, vR ee, vR ms, vR aP, vR aS, vI (0 : Int32), vJ mg, zS, vI (Int32.ofNat (SBG.digitsL nn)), vR b1, vI (Int32.ofNat 59), vI (Int32.ofNat sz), vI (Int32.ofNat (48 + nn / 10 ^ (SBG.digitsL nn - 1))), vI (Int32.ofNat (48 + nn % 10)), zU, zU, zU, zU, zU, zU] [(.int ((Int32.ofNat 59) - (1 : Int32))), (.ref ms)])) _
    rw [show Int32.ofNat (59) - (1 : Int32) = Int32.ofNat (59 - 1) from own_subN (j := 1) (by omega) (by omega)]
    refine st50.trans ?_
    show Steps p.tables e below (T50.setTop (mkF m 429 #[vJ qa, zS, vJ qb, zS, vI pa, vI pb, vJ hh, zS, vI sm, vJ mm, zS, vJ xx, zS, vR ee, vR ms, vR aP, vR aS, vI (0 : Int32), vJ mg, zS, vI (Int32.ofNat (SBG.digitsL nn)), vR b1, vI (Int32.ofNat 59), vI (Int32.ofNat sz), vI (Int32.ofNat (48 + nn / 10 ^ (SBG.digitsL nn - 1))), vI (Int32.ofNat (48 + nn % 10)), zU, zU, zU, zU, zU, zU] [(.int (Int32.ofNat (txt xx nn sz 58)))])) _
    refine XS.bipush X50.here hx rfl (hb hby at_429) ?_
    refine XS.icmpNo X50.here hx rfl (hb hby at_431) rfl (teq (by rw [own_t58 hsz]; rfl)).2 ?_
    refine XS.aload X50.here hx rfl (hb hby at_434) rfl rfl ?_
    refine XS.iload X50.here hx rfl (hb hby at_436) rfl ?_
    show Steps p.tables e below (T50.setTop (mkF m 438 #[vJ qa, zS, vJ qb, zS, vI pa, vI pb, vJ hh, zS, vI sm, vJ mm, zS, vJ xx, zS, vR ee, vR ms, vR aP, vR aS, vI (0 : Int32), vJ mg, zS, vI (Int32.ofNat (SBG.digitsL nn)), vR b1, vI (Int32.ofNat 59), vI (Int32.ofNat sz), vI (Int32.ofNat (48 + nn / 10 ^ (SBG.digitsL nn - 1))), vI (Int32.ofNat (48 + nn % 10)), zU, zU, zU, zU, zU, zU] [(.int (Int32.ofNat 59)), (.ref ms)])) _
    refine XS.iload X50.here hx rfl (hb hby at_438) rfl ?_
    refine XS.iadd X50.here hx rfl (hb hby at_440) rfl ?_
    show Steps p.tables e below (T50.setTop (mkF m 441 #[vJ qa, zS, vJ qb, zS, vI pa, vI pb, vJ hh, zS, vI sm, vJ mm, zS, vJ xx, zS, vR ee, vR ms, vR aP, vR aS, vI (0 : Int32), vJ mg, zS, vI (Int32.ofNat (SBG.digitsL nn)), vR b1, vI (Int32.ofNat 59), vI (Int32.ofNat sz), vI (Int32.ofNat (48 + nn / 10 ^ (SBG.digitsL nn - 1))), vI (Int32.ofNat (48 + nn % 10)), zU, zU, zU, zU, zU, zU] [(.int ((Int32.ofNat 59) + (Int32.ofNat sz))), (.ref ms)])) _
    rw [own_addN]
    refine st51.trans ?_
    refine XS.bipush X51.here hx rfl (hb hby at_444) ?_
    show Steps p.tables e below (T51.setTop (mkF m 446 #[vJ qa, zS, vJ qb, zS, vI pa, vI pb, vJ hh, zS, vI sm, vJ mm, zS, vJ xx, zS, vR ee, vR ms, vR aP, vR aS, vI (0 : Int32), vJ mg, zS, vI (Int32.ofNat (SBG.digitsL nn)), vR b1, vI (Int32.ofNat 59), vI (Int32.ofNat sz), vI (Int32.ofNat (48 + nn / 10 ^ (SBG.digitsL nn - 1))), vI (Int32.ofNat (48 + nn % 10)), zU, zU, zU, zU, zU, zU] [(.int (32 : Int32)), (.int (Int32.ofNat (txt xx nn sz (59 + sz))))])) _
    refine XS.icmpYes X51.here hx rfl (pc0 := 446) (pc' := 451) rfl (hb hby at_446) rfl (teq (by rw [own_tS hsz]; rfl)).1 (by decide) (by decide) ?_
    refine XS.aload X51.here hx rfl (hb hby at_451) rfl rfl ?_
    refine XS.aload X51.here hx rfl (hb hby at_453) rfl rfl ?_
    refine st52.trans ?_
    show Steps p.tables e below (T52.setTop (mkF m 458 #[vJ qa, zS, vJ qb, zS, vI pa, vI pb, vJ hh, zS, vI sm, vJ mm, zS, vJ xx, zS, vR ee, vR ms, vR aP, vR aS, vI (0 : Int32), vJ mg, zS, vI (Int32.ofNat (SBG.digitsL nn)), vR b1, vI (Int32.ofNat 59), vI (Int32.ofNat sz), vI (Int32.ofNat (48 + nn / 10 ^ (SBG.digitsL nn - 1))), vI (Int32.ofNat (48 + nn % 10)), zU, zU, zU, zU, zU, zU] [(.int (Int32.ofNat (59 + sz + 33))), (.ref ms)])) _
    refine XS.iconst X52.here hx rfl (hb hby at_458) ?_
    refine XS.isub X52.here hx rfl (hb hby at_459) rfl ?_
    show Steps p.tables e below (T52.setTop (mkF m 460 #[vJ qa, zS, vJ qb, zS, vI pa, vI pb, vJ hh, zS, vI sm, vJ mm, zS, vJ xx, zS, vR ee, vR ms, vR aP, vR aS, vI (0 : Int32), vJ mg, zS, vI (Int32.ofNat (SBG.digitsL nn)), vR b1, vI (Int32.ofNat 59), vI (Int32.ofNat sz), vI (Int32.ofNat (48 + nn / 10 ^ (SBG.digitsL nn - 1))), vI (Int32.ofNat (48 + nn % 10)), zU, zU, zU, zU, zU, zU] [(.int ((Int32.ofNat (59 + sz + 33)) - (1 : Int32))), (.ref ms)])) _
    rw [show Int32.ofNat ((59 + sz + 33)) - (1 : Int32) = Int32.ofNat ((59 + sz + 33) - 1) from own_subN (j := 1) (by omega) (by omega)]
    refine st53.trans ?_
    refine XS.bipush X53.here hx rfl (hb hby at_463) ?_
    show Steps p.tables e below (T53.setTop (mkF m 465 #[vJ qa, zS, vJ qb, zS, vI pa, vI pb, vJ hh, zS, vI sm, vJ mm, zS, vJ xx, zS, vR ee, vR ms, vR aP, vR aS, vI (0 : Int32), vJ mg, zS, vI (Int32.ofNat (SBG.digitsL nn)), vR b1, vI (Int32.ofNat 59), vI (Int32.ofNat sz), vI (Int32.ofNat (48 + nn / 10 ^ (SBG.digitsL nn - 1))), vI (Int32.ofNat (48 + nn % 10)), zU, zU, zU, zU, zU, zU] [(.int (120 : Int32)), (.int (Int32.ofNat (txt xx nn sz ((59 + sz + 33) - 1))))])) _
    refine XS.icmpYes X53.here hx rfl (pc0 := 465) (pc' := 470) rfl (hb hby at_465) rfl (teq (by rw [own_tE]; rfl)).1 (by decide) (by decide) ?_
    exact kt
  exact ⟨T53, _, b1, _, _, X53, (by rw [e53]; exact K39), N53, fun target kt => pre54 target kt⟩
set_option maxRecDepth 65536 in
set_option maxHeartbeats 40000000 in
theorem lw3m {p : Program} {l : Launch} {e : Env} {s : State} {m : MethodId} {args : Array Value} {below : List Frame} {meth : Method} {c : Code} {T0 : State} {locs : List Loc} {Z : State} {a0 : Array Value} {h0 : Heap} (qa qb : Int64) (pa pb : Int32) (hh : Int64) (sm : Int32) (mm : Int64) (xx : Int64) (nn sz : Nat) (ee ms mv : Addr) (mk : ClassId) (aP bP aS bS : Addr) (kP kS : ClassId) (mg : Int64) (X0 : Stand p l e room_1 s m args below meth c T0 locs 18 4688) (hx : p.tables.exec = Jvm.exec) (hZ : Z.Warmed39 s.vm) (hw : ∀ d ∈ tables_1, d.before a0 Z = true) (hby : c.code = code) (hml : c.maxLocals = 32) (hown : s.vm.findClass "com/example/tollplan/tollplan/CommandExceptionOutOfMemoryPinLaw" = some m.cls) (e0 : T0.heap = h0) (n0 : Nat) (hz : Z.heap.size ≤ n0) (hl : l.stackTraces = true) (THz : ThS Z Z.heap) (u1 u2 : Value) (hu1 : u1.isRef = true) (hu2 : u2.isRef = true) (S_Uz : Sta Z Z.heap "java/lang/Throwable" "UNASSIGNED_STACK" "[Ljava/lang/StackTraceElement;" u1) (S_Nz : Sta Z Z.heap "java/lang/Throwable" "SUPPRESSED_SENTINEL" "Ljava/util/List;" u2) (kL : Addr) (S_Lz : Sta Z Z.heap "com/example/tollplan/tollplan/CommandException$Kind" "LOCAL" "Lcom/example/tollplan/tollplan/CommandException$Kind;" (.ref kL)) (stI dgA dgB : Addr) (DgA DgB : Cell) (tbA : SBG.Tbl Z "DigitOnes" stI dgA DgA) (tbB : SBG.Tbl Z "DigitTens" stI dgB DgB) (onA : SBG.Ones DgA) (teB : SBG.Tens DgB) (cs : Int32) (hcs : ¬ cs = (0 : Int32)) (S_Cz : Sta Z Z.heap "java/lang/String" "COMPACT_STRINGS" "Z" (.int cs)) (fm : Value) (hfm : fm.isRef = true) (S_Fz : Sta Z Z.heap "jdk/internal/util/Preconditions" "SIOOBE_FORMATTER" "Ljava/util/function/BiFunction;" fm) (N0 : Fr n0 locs) (Z0 : n0 ≤ h0.size) (KZ : Keep Z.heap h0 []) (hnn : nn ≤ 2 ^ 63) (hxn : (if xx < 0 then xx else -xx) = SBG.negL nn) (hsz : SBG.digitsL nn + SBG.GetCharsL.sgnL xx = sz) (hn18 : nn < 10 ^ 18) (R_m : SB Z h0 ms mv mk (59 + sz + 33) (fun i => Int32.ofNat ((txt xx nn sz) i))) (R_p : SB Z h0 aP bP kP 59 (fun i => Int32.ofNat ((fun i => preL.getD i 0) i))) (R_s : SB Z h0 aS bS kS 33 (fun i => Int32.ofNat ((fun i => sufL.getD i 0) i))) (hmg : mg.toInt = nn) (hng : xx < 0) :
    ∃ (T' : State) (locs' : List Loc) (a21 : Addr) (c24 c25 : Int32), Stand p l e room_1 s m args below meth c T' locs' 19 4707 ∧ Keep h0 T'.heap [] ∧ Fr n0 locs' ∧ ∀ target, Steps p.tables e below (T'.setTop (mkF m 470 #[vJ qa, zS, vJ qb, zS, vI pa, vI pb, vJ hh, zS, vI sm, vJ mm, zS, vJ xx, zS, vR ee, vR ms, vR aP, vR aS, vI (1 : Int32), vJ mg, zS, vI (Int32.ofNat (SBG.digitsL nn)), vR a21, vI (Int32.ofNat 59), vI (Int32.ofNat sz), vI c24, vI c25, zU, zU, zU, zU, zU, zU] [])) target → Steps p.tables e below (T0.setTop (mkF m 142 #[vJ qa, zS, vJ qb, zS, vI pa, vI pb, vJ hh, zS, vI sm, vJ mm, zS, vJ xx, zS, vR ee, vR ms, vR aP, vR aS, vI (1 : Int32), vJ mg, zS, vI (Int32.ofNat (SBG.digitsL nn)), zU, zU, zU, zU, zU, zU, zU, zU, zU, zU, zU] [])) target := by
  have pre0 : ∀ t, Steps p.tables e below (T0.setTop (mkF m 142 #[vJ qa, zS, vJ qb, zS, vI pa, vI pb, vJ hh, zS, vI sm, vJ mm, zS, vJ xx, zS, vR ee, vR ms, vR aP, vR aS, vI (1 : Int32), vJ mg, zS, vI (Int32.ofNat (SBG.digitsL nn)), zU, zU, zU, zU, zU, zU, zU, zU, zU, zU, zU] [])) t → Steps p.tables e below (T0.setTop (mkF m 142 #[vJ qa, zS, vJ qb, zS, vI pa, vI pb, vJ hh, zS, vI sm, vJ mm, zS, vJ xx, zS, vR ee, vR ms, vR aP, vR aS, vI (1 : Int32), vJ mg, zS, vI (Int32.ofNat (SBG.digitsL nn)), zU, zU, zU, zU, zU, zU, zU, zU, zU, zU, zU] [])) t := fun _ k => k
  have S_C := own_sta_keep S_Cz KZ all0
  have S_F := own_sta_keep S_Fz KZ all0
  have S_U := own_sta_keep S_Uz KZ all0
  have S_N := own_sta_keep S_Nz KZ all0
  have S_L := own_sta_keep S_Lz KZ all0
  have TH := ThS.keep KZ (own_nst all0) THz
  have hsg : SBG.GetCharsL.sgnL xx = 1 := sgn1 hng
  have hdp := (SBG.digitsL_pos nn).1
  have hd18 := own_dle hn18
  have hszn : sz ≤ 19 := by omega
  have E_ms := R_m.1
  have E_aP := R_p.1
  have E_aS := R_s.1
  obtain ⟨T1, h1, k1, X1, e1, E1, A1, st1⟩ := newP X0 hx hZ (wd hw 252 rfl) e0 (g := (mkF m 144 #[vJ qa, zS, vJ qb, zS, vI pa, vI pb, vJ hh, zS, vI sm, vJ mm, zS, vJ xx, zS, vR ee, vR ms, vR aP, vR aS, vI (1 : Int32), vJ mg, zS, vI (Int32.ofNat (SBG.digitsL nn)), zU, zU, zU, zU, zU, zU, zU, zU, zU, zU, zU] [(.int (19 : Int32))])) rfl (hb hby at_144) rfl (by decide) (cap := 19) (by decide) (by decide) (by decide) (by decide)
  obtain ⟨b1, g1⟩ : ∃ z, z = h0.size := ⟨_, rfl⟩
  rw [← g1] at A1 st1
  have g_b1 : n0 ≤ b1 := Nat.le_trans Z0 (Nat.le_of_eq g1.symm)
  have sz_b1 : h0.size ≤ b1 := Nat.le_trans (Keep.refl h0 []).1 (Nat.le_of_eq g1.symm)
  have Zs1 : n0 ≤ h1.size := Nat.le_trans Z0 E1.1
  have K1 : Keep h0 h1 [] := (Keep.refl h0 []).ext E1
  have V1 : Arv Z h1 b1 k1 .long (19 : Int32) [(.long (0 : Int64)), (.long (0 : Int64)), (.long (0 : Int64)), (.long (0 : Int64)), (.long (0 : Int64)), (.long (0 : Int64)), (.long (0 : Int64)), (.long (0 : Int64)), (.long (0 : Int64)), (.long (0 : Int64)), (.long (0 : Int64)), (.long (0 : Int64)), (.long (0 : Int64)), (.long (0 : Int64)), (.long (0 : Int64)), (.long (0 : Int64)), (.long (0 : Int64)), (.long (0 : Int64)), (.long (0 : Int64))] (.long (0 : Int64)) := (Arv.new A1 (by decide)).pad (pad_rep [] (.long (0 : Int64)) 19)
  obtain ⟨cl2, Ar2, qa2, Sa2, Na2, Ha2, Ga2⟩ := id V1
  have hin2 : ¬ ((0 : Int32) < 0 ∨ cl2.slots.size ≤ ((0 : Int32)).toNatClampNeg) := inb_of Sa2 ⟨by decide, by decide⟩
  obtain ⟨T3, h3, X3, e3, W3, st3⟩ := stJ X1 hx hZ e1 Ar2 (j := (0 : Int32)) hin2 (g := (mkF m 149 #[vJ qa, zS, vJ qb, zS, vI pa, vI pb, vJ hh, zS, vI sm, vJ mm, zS, vJ xx, zS, vR ee, vR ms, vR aP, vR aS, vI (1 : Int32), vJ mg, zS, vI (Int32.ofNat (SBG.digitsL nn)), zU, zU, zU, zU, zU, zU, zU, zU, zU, zU, zU] [(.long (1 : Int64)), (.int (0 : Int32)), (.ref b1), (.ref b1)])) rfl rfl (hb hby at_149)
  have V3 : Arv Z h3 b1 k1 .long (19 : Int32) [(.long (1 : Int64)), (.long (0 : Int64)), (.long (0 : Int64)), (.long (0 : Int64)), (.long (0 : Int64)), (.long (0 : Int64)), (.long (0 : Int64)), (.long (0 : Int64)), (.long (0 : Int64)), (.long (0 : Int64)), (.long (0 : Int64)), (.long (0 : Int64)), (.long (0 : Int64)), (.long (0 : Int64)), (.long (0 : Int64)), (.long (0 : Int64)), (.long (0 : Int64)), (.long (0 : Int64)), (.long (0 : Int64))] (.long (0 : Int64)) := Arv.set Ar2 qa2 Sa2 Na2 Ha2 Ga2 rfl W3 0 rfl (Nat.le_of_ble_eq_true rfl)
  have Zs3 : n0 ≤ h3.size := Nat.le_trans Zs1 (Nat.le_of_eq W3.size.symm)
  have K3 : Keep h0 h3 [] := K1.wr W3 (Or.inr sz_b1)
  have N3 := Fr.snoc X3 N0 g_b1
  obtain ⟨cl4, Ar4, qa4, Sa4, Na4, Ha4, Ga4⟩ := id V3
  have hin4 : ¬ ((1 : Int32) < 0 ∨ cl4.slots.size ≤ ((1 : Int32)).toNatClampNeg) := inb_of Sa4 ⟨by decide, by decide⟩
  obtain ⟨T5, h5, X5, e5, W5, st5⟩ := stJ X3 hx hZ e3 Ar4 (j := (1 : Int32)) hin4 (g := (mkF m 155 #[vJ qa, zS, vJ qb, zS, vI pa, vI pb, vJ hh, zS, vI sm, vJ mm, zS, vJ xx, zS, vR ee, vR ms, vR aP, vR aS, vI (1 : Int32), vJ mg, zS, vI (Int32.ofNat (SBG.digitsL nn)), zU, zU, zU, zU, zU, zU, zU, zU, zU, zU, zU] [(.long (10 : Int64)), (.int (1 : Int32)), (.ref b1), (.ref b1)])) rfl rfl (hb hby at_155)
  have V5 : Arv Z h5 b1 k1 .long (19 : Int32) [(.long (1 : Int64)), (.long (10 : Int64)), (.long (0 : Int64)), (.long (0 : Int64)), (.long (0 : Int64)), (.long (0 : Int64)), (.long (0 : Int64)), (.long (0 : Int64)), (.long (0 : Int64)), (.long (0 : Int64)), (.long (0 : Int64)), (.long (0 : Int64)), (.long (0 : Int64)), (.long (0 : Int64)), (.long (0 : Int64)), (.long (0 : Int64)), (.long (0 : Int64)), (.long (0 : Int64)), (.long (0 : Int64))] (.long (0 : Int64)) := Arv.set Ar4 qa4 Sa4 Na4 Ha4 Ga4 rfl W5 1 rfl (Nat.le_of_ble_eq_true rfl)
  have Zs5 : n0 ≤ h5.size := Nat.le_trans Zs3 (Nat.le_of_eq W5.size.symm)
  have K5 : Keep h0 h5 [] := K3.wr W5 (Or.inr sz_b1)
  have N5 := Fr.snoc X5 N3 g_b1
  obtain ⟨cl6, Ar6, qa6, Sa6, Na6, Ha6, Ga6⟩ := id V5
  have hin6 : ¬ ((2 : Int32) < 0 ∨ cl6.slots.size ≤ ((2 : Int32)).toNatClampNeg) := inb_of Sa6 ⟨by decide, by decide⟩
  obtain ⟨T7, h7, X7, e7, W7, st7⟩ := stJ X5 hx hZ e5 Ar6 (j := (2 : Int32)) hin6 (g := (mkF m 161 #[vJ qa, zS, vJ qb, zS, vI pa, vI pb, vJ hh, zS, vI sm, vJ mm, zS, vJ xx, zS, vR ee, vR ms, vR aP, vR aS, vI (1 : Int32), vJ mg, zS, vI (Int32.ofNat (SBG.digitsL nn)), zU, zU, zU, zU, zU, zU, zU, zU, zU, zU, zU] [(.long (100 : Int64)), (.int (2 : Int32)), (.ref b1), (.ref b1)])) rfl rfl (hb hby at_161)
  have V7 : Arv Z h7 b1 k1 .long (19 : Int32) [(.long (1 : Int64)), (.long (10 : Int64)), (.long (100 : Int64)), (.long (0 : Int64)), (.long (0 : Int64)), (.long (0 : Int64)), (.long (0 : Int64)), (.long (0 : Int64)), (.long (0 : Int64)), (.long (0 : Int64)), (.long (0 : Int64)), (.long (0 : Int64)), (.long (0 : Int64)), (.long (0 : Int64)), (.long (0 : Int64)), (.long (0 : Int64)), (.long (0 : Int64)), (.long (0 : Int64)), (.long (0 : Int64))] (.long (0 : Int64)) := Arv.set Ar6 qa6 Sa6 Na6 Ha6 Ga6 rfl W7 2 rfl (Nat.le_of_ble_eq_true rfl)
  have Zs7 : n0 ≤ h7.size := Nat.le_trans Zs5 (Nat.le_of_eq W7.size.symm)
  have K7 : Keep h0 h7 [] := K5.wr W7 (Or.inr sz_b1)
  have N7 := Fr.snoc X7 N5 g_b1
  obtain ⟨cl8, Ar8, qa8, Sa8, Na8, Ha8, Ga8⟩ := id V7
  have hin8 : ¬ ((3 : Int32) < 0 ∨ cl8.slots.size ≤ ((3 : Int32)).toNatClampNeg) := inb_of Sa8 ⟨by decide, by decide⟩
  obtain ⟨T9, h9, X9, e9, W9, st9⟩ := stJ X7 hx hZ e7 Ar8 (j := (3 : Int32)) hin8 (g := (mkF m 167 #[vJ qa, zS, vJ qb, zS, vI pa, vI pb, vJ hh, zS, vI sm, vJ mm, zS, vJ xx, zS, vR ee, vR ms, vR aP, vR aS, vI (1 : Int32), vJ mg, zS, vI (Int32.ofNat (SBG.digitsL nn)), zU, zU, zU, zU, zU, zU, zU, zU, zU, zU, zU] [(.long (1000 : Int64)), (.int (3 : Int32)), (.ref b1), (.ref b1)])) rfl rfl (hb hby at_167)
  have V9 : Arv Z h9 b1 k1 .long (19 : Int32) [(.long (1 : Int64)), (.long (10 : Int64)), (.long (100 : Int64)), (.long (1000 : Int64)), (.long (0 : Int64)), (.long (0 : Int64)), (.long (0 : Int64)), (.long (0 : Int64)), (.long (0 : Int64)), (.long (0 : Int64)), (.long (0 : Int64)), (.long (0 : Int64)), (.long (0 : Int64)), (.long (0 : Int64)), (.long (0 : Int64)), (.long (0 : Int64)), (.long (0 : Int64)), (.long (0 : Int64)), (.long (0 : Int64))] (.long (0 : Int64)) := Arv.set Ar8 qa8 Sa8 Na8 Ha8 Ga8 rfl W9 3 rfl (Nat.le_of_ble_eq_true rfl)
  have Zs9 : n0 ≤ h9.size := Nat.le_trans Zs7 (Nat.le_of_eq W9.size.symm)
  have K9 : Keep h0 h9 [] := K7.wr W9 (Or.inr sz_b1)
  have N9 := Fr.snoc X9 N7 g_b1
  obtain ⟨cl10, Ar10, qa10, Sa10, Na10, Ha10, Ga10⟩ := id V9
  have hin10 : ¬ ((4 : Int32) < 0 ∨ cl10.slots.size ≤ ((4 : Int32)).toNatClampNeg) := inb_of Sa10 ⟨by decide, by decide⟩
  obtain ⟨T11, h11, X11, e11, W11, st11⟩ := stJ X9 hx hZ e9 Ar10 (j := (4 : Int32)) hin10 (g := (mkF m 173 #[vJ qa, zS, vJ qb, zS, vI pa, vI pb, vJ hh, zS, vI sm, vJ mm, zS, vJ xx, zS, vR ee, vR ms, vR aP, vR aS, vI (1 : Int32), vJ mg, zS, vI (Int32.ofNat (SBG.digitsL nn)), zU, zU, zU, zU, zU, zU, zU, zU, zU, zU, zU] [(.long (10000 : Int64)), (.int (4 : Int32)), (.ref b1), (.ref b1)])) rfl rfl (hb hby at_173)
  have V11 : Arv Z h11 b1 k1 .long (19 : Int32) [(.long (1 : Int64)), (.long (10 : Int64)), (.long (100 : Int64)), (.long (1000 : Int64)), (.long (10000 : Int64)), (.long (0 : Int64)), (.long (0 : Int64)), (.long (0 : Int64)), (.long (0 : Int64)), (.long (0 : Int64)), (.long (0 : Int64)), (.long (0 : Int64)), (.long (0 : Int64)), (.long (0 : Int64)), (.long (0 : Int64)), (.long (0 : Int64)), (.long (0 : Int64)), (.long (0 : Int64)), (.long (0 : Int64))] (.long (0 : Int64)) := Arv.set Ar10 qa10 Sa10 Na10 Ha10 Ga10 rfl W11 4 rfl (Nat.le_of_ble_eq_true rfl)
  have Zs11 : n0 ≤ h11.size := Nat.le_trans Zs9 (Nat.le_of_eq W11.size.symm)
  have K11 : Keep h0 h11 [] := K9.wr W11 (Or.inr sz_b1)
  have N11 := Fr.snoc X11 N9 g_b1
  obtain ⟨cl12, Ar12, qa12, Sa12, Na12, Ha12, Ga12⟩ := id V11
  have hin12 : ¬ ((5 : Int32) < 0 ∨ cl12.slots.size ≤ ((5 : Int32)).toNatClampNeg) := inb_of Sa12 ⟨by decide, by decide⟩
  obtain ⟨T13, h13, X13, e13, W13, st13⟩ := stJ X11 hx hZ e11 Ar12 (j := (5 : Int32)) hin12 (g := (mkF m 179 #[vJ qa, zS, vJ qb, zS, vI pa, vI pb, vJ hh, zS, vI sm, vJ mm, zS, vJ xx, zS, vR ee, vR ms, vR aP, vR aS, vI (1 : Int32), vJ mg, zS, vI (Int32.ofNat (SBG.digitsL nn)), zU, zU, zU, zU, zU, zU, zU, zU, zU, zU, zU] [(.long (100000 : Int64)), (.int (5 : Int32)), (.ref b1), (.ref b1)])) rfl rfl (hb hby at_179)
  have V13 : Arv Z h13 b1 k1 .long (19 : Int32) [(.long (1 : Int64)), (.long (10 : Int64)), (.long (100 : Int64)), (.long (1000 : Int64)), (.long (10000 : Int64)), (.long (100000 : Int64)), (.long (0 : Int64)), (.long (0 : Int64)), (.long (0 : Int64)), (.long (0 : Int64)), (.long (0 : Int64)), (.long (0 : Int64)), (.long (0 : Int64)), (.long (0 : Int64)), (.long (0 : Int64)), (.long (0 : Int64)), (.long (0 : Int64)), (.long (0 : Int64)), (.long (0 : Int64))] (.long (0 : Int64)) := Arv.set Ar12 qa12 Sa12 Na12 Ha12 Ga12 rfl W13 5 rfl (Nat.le_of_ble_eq_true rfl)
  have Zs13 : n0 ≤ h13.size := Nat.le_trans Zs11 (Nat.le_of_eq W13.size.symm)
  have K13 : Keep h0 h13 [] := K11.wr W13 (Or.inr sz_b1)
  have N13 := Fr.snoc X13 N11 g_b1
  obtain ⟨cl14, Ar14, qa14, Sa14, Na14, Ha14, Ga14⟩ := id V13
  have hin14 : ¬ ((6 : Int32) < 0 ∨ cl14.slots.size ≤ ((6 : Int32)).toNatClampNeg) := inb_of Sa14 ⟨by decide, by decide⟩
  obtain ⟨T15, h15, X15, e15, W15, st15⟩ := stJ X13 hx hZ e13 Ar14 (j := (6 : Int32)) hin14 (g := (mkF m 186 #[vJ qa, zS, vJ qb, zS, vI pa, vI pb, vJ hh, zS, vI sm, vJ mm, zS, vJ xx, zS, vR ee, vR ms, vR aP, vR aS, vI (1 : Int32), vJ mg, zS, vI (Int32.ofNat (SBG.digitsL nn)), zU, zU, zU, zU, zU, zU, zU, zU, zU, zU, zU] [(.long (1000000 : Int64)), (.int (6 : Int32)), (.ref b1), (.ref b1)])) rfl rfl (hb hby at_186)
  have V15 : Arv Z h15 b1 k1 .long (19 : Int32) [(.long (1 : Int64)), (.long (10 : Int64)), (.long (100 : Int64)), (.long (1000 : Int64)), (.long (10000 : Int64)), (.long (100000 : Int64)), (.long (1000000 : Int64)), (.long (0 : Int64)), (.long (0 : Int64)), (.long (0 : Int64)), (.long (0 : Int64)), (.long (0 : Int64)), (.long (0 : Int64)), (.long (0 : Int64)), (.long (0 : Int64)), (.long (0 : Int64)), (.long (0 : Int64)), (.long (0 : Int64)), (.long (0 : Int64))] (.long (0 : Int64)) := Arv.set Ar14 qa14 Sa14 Na14 Ha14 Ga14 rfl W15 6 rfl (Nat.le_of_ble_eq_true rfl)
  have Zs15 : n0 ≤ h15.size := Nat.le_trans Zs13 (Nat.le_of_eq W15.size.symm)
  have K15 : Keep h0 h15 [] := K13.wr W15 (Or.inr sz_b1)
  have N15 := Fr.snoc X15 N13 g_b1
  obtain ⟨cl16, Ar16, qa16, Sa16, Na16, Ha16, Ga16⟩ := id V15
  have hin16 : ¬ ((7 : Int32) < 0 ∨ cl16.slots.size ≤ ((7 : Int32)).toNatClampNeg) := inb_of Sa16 ⟨by decide, by decide⟩
  obtain ⟨T17, h17, X17, e17, W17, st17⟩ := stJ X15 hx hZ e15 Ar16 (j := (7 : Int32)) hin16 (g := (mkF m 193 #[vJ qa, zS, vJ qb, zS, vI pa, vI pb, vJ hh, zS, vI sm, vJ mm, zS, vJ xx, zS, vR ee, vR ms, vR aP, vR aS, vI (1 : Int32), vJ mg, zS, vI (Int32.ofNat (SBG.digitsL nn)), zU, zU, zU, zU, zU, zU, zU, zU, zU, zU, zU] [(.long (10000000 : Int64)), (.int (7 : Int32)), (.ref b1), (.ref b1)])) rfl rfl (hb hby at_193)
  have V17 : Arv Z h17 b1 k1 .long (19 : Int32) [(.long (1 : Int64)), (.long (10 : Int64)), (.long (100 : Int64)), (.long (1000 : Int64)), (.long (10000 : Int64)), (.long (100000 : Int64)), (.long (1000000 : Int64)), (.long (10000000 : Int64)), (.long (0 : Int64)), (.long (0 : Int64)), (.long (0 : Int64)), (.long (0 : Int64)), (.long (0 : Int64)), (.long (0 : Int64)), (.long (0 : Int64)), (.long (0 : Int64)), (.long (0 : Int64)), (.long (0 : Int64)), (.long (0 : Int64))] (.long (0 : Int64)) := Arv.set Ar16 qa16 Sa16 Na16 Ha16 Ga16 rfl W17 7 rfl (Nat.le_of_ble_eq_true rfl)
  have Zs17 : n0 ≤ h17.size := Nat.le_trans Zs15 (Nat.le_of_eq W17.size.symm)
  have K17 : Keep h0 h17 [] := K15.wr W17 (Or.inr sz_b1)
  have N17 := Fr.snoc X17 N15 g_b1
  obtain ⟨cl18, Ar18, qa18, Sa18, Na18, Ha18, Ga18⟩ := id V17
  have hin18 : ¬ ((8 : Int32) < 0 ∨ cl18.slots.size ≤ ((8 : Int32)).toNatClampNeg) := inb_of Sa18 ⟨by decide, by decide⟩
  obtain ⟨T19, h19, X19, e19, W19, st19⟩ := stJ X17 hx hZ e17 Ar18 (j := (8 : Int32)) hin18 (g := (mkF m 200 #[vJ qa, zS, vJ qb, zS, vI pa, vI pb, vJ hh, zS, vI sm, vJ mm, zS, vJ xx, zS, vR ee, vR ms, vR aP, vR aS, vI (1 : Int32), vJ mg, zS, vI (Int32.ofNat (SBG.digitsL nn)), zU, zU, zU, zU, zU, zU, zU, zU, zU, zU, zU] [(.long (100000000 : Int64)), (.int (8 : Int32)), (.ref b1), (.ref b1)])) rfl rfl (hb hby at_200)
  have V19 : Arv Z h19 b1 k1 .long (19 : Int32) [(.long (1 : Int64)), (.long (10 : Int64)), (.long (100 : Int64)), (.long (1000 : Int64)), (.long (10000 : Int64)), (.long (100000 : Int64)), (.long (1000000 : Int64)), (.long (10000000 : Int64)), (.long (100000000 : Int64)), (.long (0 : Int64)), (.long (0 : Int64)), (.long (0 : Int64)), (.long (0 : Int64)), (.long (0 : Int64)), (.long (0 : Int64)), (.long (0 : Int64)), (.long (0 : Int64)), (.long (0 : Int64)), (.long (0 : Int64))] (.long (0 : Int64)) := Arv.set Ar18 qa18 Sa18 Na18 Ha18 Ga18 rfl W19 8 rfl (Nat.le_of_ble_eq_true rfl)
  have Zs19 : n0 ≤ h19.size := Nat.le_trans Zs17 (Nat.le_of_eq W19.size.symm)
  have K19 : Keep h0 h19 [] := K17.wr W19 (Or.inr sz_b1)
  have N19 := Fr.snoc X19 N17 g_b1
  obtain ⟨cl20, Ar20, qa20, Sa20, Na20, Ha20, Ga20⟩ := id V19
  have hin20 : ¬ ((9 : Int32) < 0 ∨ cl20.slots.size ≤ ((9 : Int32)).toNatClampNeg) := inb_of Sa20 ⟨by decide, by decide⟩
  obtain ⟨T21, h21, X21, e21, W21, st21⟩ := stJ X19 hx hZ e19 Ar20 (j := (9 : Int32)) hin20 (g := (mkF m 207 #[vJ qa, zS, vJ qb, zS, vI pa, vI pb, vJ hh, zS, vI sm, vJ mm, zS, vJ xx, zS, vR ee, vR ms, vR aP, vR aS, vI (1 : Int32), vJ mg, zS, vI (Int32.ofNat (SBG.digitsL nn)), zU, zU, zU, zU, zU, zU, zU, zU, zU, zU, zU] [(.long (1000000000 : Int64)), (.int (9 : Int32)), (.ref b1), (.ref b1)])) rfl rfl (hb hby at_207)
  have V21 : Arv Z h21 b1 k1 .long (19 : Int32) [(.long (1 : Int64)), (.long (10 : Int64)), (.long (100 : Int64)), (.long (1000 : Int64)), (.long (10000 : Int64)), (.long (100000 : Int64)), (.long (1000000 : Int64)), (.long (10000000 : Int64)), (.long (100000000 : Int64)), (.long (1000000000 : Int64)), (.long (0 : Int64)), (.long (0 : Int64)), (.long (0 : Int64)), (.long (0 : Int64)), (.long (0 : Int64)), (.long (0 : Int64)), (.long (0 : Int64)), (.long (0 : Int64)), (.long (0 : Int64))] (.long (0 : Int64)) := Arv.set Ar20 qa20 Sa20 Na20 Ha20 Ga20 rfl W21 9 rfl (Nat.le_of_ble_eq_true rfl)
  have Zs21 : n0 ≤ h21.size := Nat.le_trans Zs19 (Nat.le_of_eq W21.size.symm)
  have K21 : Keep h0 h21 [] := K19.wr W21 (Or.inr sz_b1)
  have N21 := Fr.snoc X21 N19 g_b1
  obtain ⟨cl22, Ar22, qa22, Sa22, Na22, Ha22, Ga22⟩ := id V21
  have hin22 : ¬ ((10 : Int32) < 0 ∨ cl22.slots.size ≤ ((10 : Int32)).toNatClampNeg) := inb_of Sa22 ⟨by decide, by decide⟩
  obtain ⟨T23, h23, X23, e23, W23, st23⟩ := stJ X21 hx hZ e21 Ar22 (j := (10 : Int32)) hin22 (g := (mkF m 214 #[vJ qa, zS, vJ qb, zS, vI pa, vI pb, vJ hh, zS, vI sm, vJ mm, zS, vJ xx, zS, vR ee, vR ms, vR aP, vR aS, vI (1 : Int32), vJ mg, zS, vI (Int32.ofNat (SBG.digitsL nn)), zU, zU, zU, zU, zU, zU, zU, zU, zU, zU, zU] [(.long (10000000000 : Int64)), (.int (10 : Int32)), (.ref b1), (.ref b1)])) rfl rfl (hb hby at_214)
  have V23 : Arv Z h23 b1 k1 .long (19 : Int32) [(.long (1 : Int64)), (.long (10 : Int64)), (.long (100 : Int64)), (.long (1000 : Int64)), (.long (10000 : Int64)), (.long (100000 : Int64)), (.long (1000000 : Int64)), (.long (10000000 : Int64)), (.long (100000000 : Int64)), (.long (1000000000 : Int64)), (.long (10000000000 : Int64)), (.long (0 : Int64)), (.long (0 : Int64)), (.long (0 : Int64)), (.long (0 : Int64)), (.long (0 : Int64)), (.long (0 : Int64)), (.long (0 : Int64)), (.long (0 : Int64))] (.long (0 : Int64)) := Arv.set Ar22 qa22 Sa22 Na22 Ha22 Ga22 rfl W23 10 rfl (Nat.le_of_ble_eq_true rfl)
  have Zs23 : n0 ≤ h23.size := Nat.le_trans Zs21 (Nat.le_of_eq W23.size.symm)
  have K23 : Keep h0 h23 [] := K21.wr W23 (Or.inr sz_b1)
  have N23 := Fr.snoc X23 N21 g_b1
  obtain ⟨cl24, Ar24, qa24, Sa24, Na24, Ha24, Ga24⟩ := id V23
  have hin24 : ¬ ((11 : Int32) < 0 ∨ cl24.slots.size ≤ ((11 : Int32)).toNatClampNeg) := inb_of Sa24 ⟨by decide, by decide⟩
  obtain ⟨T25, h25, X25, e25, W25, st25⟩ := stJ X23 hx hZ e23 Ar24 (j := (11 : Int32)) hin24 (g := (mkF m 221 #[vJ qa, zS, vJ qb, zS, vI pa, vI pb, vJ hh, zS, vI sm, vJ mm, zS, vJ xx, zS, vR ee, vR ms, vR aP, vR aS, vI (1 : Int32), vJ mg, zS, vI (Int32.ofNat (SBG.digitsL nn)), zU, zU, zU, zU, zU, zU, zU, zU, zU, zU, zU] [(.long (100000000000 : Int64)), (.int (11 : Int32)), (.ref b1), (.ref b1)])) rfl rfl (hb hby at_221)
  have V25 : Arv Z h25 b1 k1 .long (19 : Int32) [(.long (1 : Int64)), (.long (10 : Int64)), (.long (100 : Int64)), (.long (1000 : Int64)), (.long (10000 : Int64)), (.long (100000 : Int64)), (.long (1000000 : Int64)), (.long (10000000 : Int64)), (.long (100000000 : Int64)), (.long (1000000000 : Int64)), (.long (10000000000 : Int64)), (.long (100000000000 : Int64)), (.long (0 : Int64)), (.long (0 : Int64)), (.long (0 : Int64)), (.long (0 : Int64)), (.long (0 : Int64)), (.long (0 : Int64)), (.long (0 : Int64))] (.long (0 : Int64)) := Arv.set Ar24 qa24 Sa24 Na24 Ha24 Ga24 rfl W25 11 rfl (Nat.le_of_ble_eq_true rfl)
  have Zs25 : n0 ≤ h25.size := Nat.le_trans Zs23 (Nat.le_of_eq W25.size.symm)
  have K25 : Keep h0 h25 [] := K23.wr W25 (Or.inr sz_b1)
  have N25 := Fr.snoc X25 N23 g_b1
  obtain ⟨cl26, Ar26, qa26, Sa26, Na26, Ha26, Ga26⟩ := id V25
  have hin26 : ¬ ((12 : Int32) < 0 ∨ cl26.slots.size ≤ ((12 : Int32)).toNatClampNeg) := inb_of Sa26 ⟨by decide, by decide⟩
  obtain ⟨T27, h27, X27, e27, W27, st27⟩ := stJ X25 hx hZ e25 Ar26 (j := (12 : Int32)) hin26 (g := (mkF m 228 #[vJ qa, zS, vJ qb, zS, vI pa, vI pb, vJ hh, zS, vI sm, vJ mm, zS, vJ xx, zS, vR ee, vR ms, vR aP, vR aS, vI (1 : Int32), vJ mg, zS, vI (Int32.ofNat (SBG.digitsL nn)), zU, zU, zU, zU, zU, zU, zU, zU, zU, zU, zU] [(.long (1000000000000 : Int64)), (.int (12 : Int32)), (.ref b1), (.ref b1)])) rfl rfl (hb hby at_228)
  have V27 : Arv Z h27 b1 k1 .long (19 : Int32) [(.long (1 : Int64)), (.long (10 : Int64)), (.long (100 : Int64)), (.long (1000 : Int64)), (.long (10000 : Int64)), (.long (100000 : Int64)), (.long (1000000 : Int64)), (.long (10000000 : Int64)), (.long (100000000 : Int64)), (.long (1000000000 : Int64)), (.long (10000000000 : Int64)), (.long (100000000000 : Int64)), (.long (1000000000000 : Int64)), (.long (0 : Int64)), (.long (0 : Int64)), (.long (0 : Int64)), (.long (0 : Int64)), (.long (0 : Int64)), (.long (0 : Int64))] (.long (0 : Int64)) := Arv.set Ar26 qa26 Sa26 Na26 Ha26 Ga26 rfl W27 12 rfl (Nat.le_of_ble_eq_true rfl)
  have Zs27 : n0 ≤ h27.size := Nat.le_trans Zs25 (Nat.le_of_eq W27.size.symm)
  have K27 : Keep h0 h27 [] := K25.wr W27 (Or.inr sz_b1)
  have N27 := Fr.snoc X27 N25 g_b1
  obtain ⟨cl28, Ar28, qa28, Sa28, Na28, Ha28, Ga28⟩ := id V27
  have hin28 : ¬ ((13 : Int32) < 0 ∨ cl28.slots.size ≤ ((13 : Int32)).toNatClampNeg) := inb_of Sa28 ⟨by decide, by decide⟩
  obtain ⟨T29, h29, X29, e29, W29, st29⟩ := stJ X27 hx hZ e27 Ar28 (j := (13 : Int32)) hin28 (g := (mkF m 235 #[vJ qa, zS, vJ qb, zS, vI pa, vI pb, vJ hh, zS, vI sm, vJ mm, zS, vJ xx, zS, vR ee, vR ms, vR aP, vR aS, vI (1 : Int32), vJ mg, zS, vI (Int32.ofNat (SBG.digitsL nn)), zU, zU, zU, zU, zU, zU, zU, zU, zU, zU, zU] [(.long (10000000000000 : Int64)), (.int (13 : Int32)), (.ref b1), (.ref b1)])) rfl rfl (hb hby at_235)
  have V29 : Arv Z h29 b1 k1 .long (19 : Int32) [(.long (1 : Int64)), (.long (10 : Int64)), (.long (100 : Int64)), (.long (1000 : Int64)), (.long (10000 : Int64)), (.long (100000 : Int64)), (.long (1000000 : Int64)), (.long (10000000 : Int64)), (.long (100000000 : Int64)), (.long (1000000000 : Int64)), (.long (10000000000 : Int64)), (.long (100000000000 : Int64)), (.long (1000000000000 : Int64)), (.long (10000000000000 : Int64)), (.long (0 : Int64)), (.long (0 : Int64)), (.long (0 : Int64)), (.long (0 : Int64)), (.long (0 : Int64))] (.long (0 : Int64)) := Arv.set Ar28 qa28 Sa28 Na28 Ha28 Ga28 rfl W29 13 rfl (Nat.le_of_ble_eq_true rfl)
  have Zs29 : n0 ≤ h29.size := Nat.le_trans Zs27 (Nat.le_of_eq W29.size.symm)
  have K29 : Keep h0 h29 [] := K27.wr W29 (Or.inr sz_b1)
  have N29 := Fr.snoc X29 N27 g_b1
  obtain ⟨cl30, Ar30, qa30, Sa30, Na30, Ha30, Ga30⟩ := id V29
  have hin30 : ¬ ((14 : Int32) < 0 ∨ cl30.slots.size ≤ ((14 : Int32)).toNatClampNeg) := inb_of Sa30 ⟨by decide, by decide⟩
  obtain ⟨T31, h31, X31, e31, W31, st31⟩ := stJ X29 hx hZ e29 Ar30 (j := (14 : Int32)) hin30 (g := (mkF m 242 #[vJ qa, zS, vJ qb, zS, vI pa, vI pb, vJ hh, zS, vI sm, vJ mm, zS, vJ xx, zS, vR ee, vR ms, vR aP, vR aS, vI (1 : Int32), vJ mg, zS, vI (Int32.ofNat (SBG.digitsL nn)), zU, zU, zU, zU, zU, zU, zU, zU, zU, zU, zU] [(.long (100000000000000 : Int64)), (.int (14 : Int32)), (.ref b1), (.ref b1)])) rfl rfl (hb hby at_242)
  have V31 : Arv Z h31 b1 k1 .long (19 : Int32) [(.long (1 : Int64)), (.long (10 : Int64)), (.long (100 : Int64)), (.long (1000 : Int64)), (.long (10000 : Int64)), (.long (100000 : Int64)), (.long (1000000 : Int64)), (.long (10000000 : Int64)), (.long (100000000 : Int64)), (.long (1000000000 : Int64)), (.long (10000000000 : Int64)), (.long (100000000000 : Int64)), (.long (1000000000000 : Int64)), (.long (10000000000000 : Int64)), (.long (100000000000000 : Int64)), (.long (0 : Int64)), (.long (0 : Int64)), (.long (0 : Int64)), (.long (0 : Int64))] (.long (0 : Int64)) := Arv.set Ar30 qa30 Sa30 Na30 Ha30 Ga30 rfl W31 14 rfl (Nat.le_of_ble_eq_true rfl)
  have Zs31 : n0 ≤ h31.size := Nat.le_trans Zs29 (Nat.le_of_eq W31.size.symm)
  have K31 : Keep h0 h31 [] := K29.wr W31 (Or.inr sz_b1)
  have N31 := Fr.snoc X31 N29 g_b1
  obtain ⟨cl32, Ar32, qa32, Sa32, Na32, Ha32, Ga32⟩ := id V31
  have hin32 : ¬ ((15 : Int32) < 0 ∨ cl32.slots.size ≤ ((15 : Int32)).toNatClampNeg) := inb_of Sa32 ⟨by decide, by decide⟩
  obtain ⟨T33, h33, X33, e33, W33, st33⟩ := stJ X31 hx hZ e31 Ar32 (j := (15 : Int32)) hin32 (g := (mkF m 249 #[vJ qa, zS, vJ qb, zS, vI pa, vI pb, vJ hh, zS, vI sm, vJ mm, zS, vJ xx, zS, vR ee, vR ms, vR aP, vR aS, vI (1 : Int32), vJ mg, zS, vI (Int32.ofNat (SBG.digitsL nn)), zU, zU, zU, zU, zU, zU, zU, zU, zU, zU, zU] [(.long (1000000000000000 : Int64)), (.int (15 : Int32)), (.ref b1), (.ref b1)])) rfl rfl (hb hby at_249)
  have V33 : Arv Z h33 b1 k1 .long (19 : Int32) [(.long (1 : Int64)), (.long (10 : Int64)), (.long (100 : Int64)), (.long (1000 : Int64)), (.long (10000 : Int64)), (.long (100000 : Int64)), (.long (1000000 : Int64)), (.long (10000000 : Int64)), (.long (100000000 : Int64)), (.long (1000000000 : Int64)), (.long (10000000000 : Int64)), (.long (100000000000 : Int64)), (.long (1000000000000 : Int64)), (.long (10000000000000 : Int64)), (.long (100000000000000 : Int64)), (.long (1000000000000000 : Int64)), (.long (0 : Int64)), (.long (0 : Int64)), (.long (0 : Int64))] (.long (0 : Int64)) := Arv.set Ar32 qa32 Sa32 Na32 Ha32 Ga32 rfl W33 15 rfl (Nat.le_of_ble_eq_true rfl)
  have Zs33 : n0 ≤ h33.size := Nat.le_trans Zs31 (Nat.le_of_eq W33.size.symm)
  have K33 : Keep h0 h33 [] := K31.wr W33 (Or.inr sz_b1)
  have N33 := Fr.snoc X33 N31 g_b1
  obtain ⟨cl34, Ar34, qa34, Sa34, Na34, Ha34, Ga34⟩ := id V33
  have hin34 : ¬ ((16 : Int32) < 0 ∨ cl34.slots.size ≤ ((16 : Int32)).toNatClampNeg) := inb_of Sa34 ⟨by decide, by decide⟩
  obtain ⟨T35, h35, X35, e35, W35, st35⟩ := stJ X33 hx hZ e33 Ar34 (j := (16 : Int32)) hin34 (g := (mkF m 256 #[vJ qa, zS, vJ qb, zS, vI pa, vI pb, vJ hh, zS, vI sm, vJ mm, zS, vJ xx, zS, vR ee, vR ms, vR aP, vR aS, vI (1 : Int32), vJ mg, zS, vI (Int32.ofNat (SBG.digitsL nn)), zU, zU, zU, zU, zU, zU, zU, zU, zU, zU, zU] [(.long (10000000000000000 : Int64)), (.int (16 : Int32)), (.ref b1), (.ref b1)])) rfl rfl (hb hby at_256)
  have V35 : Arv Z h35 b1 k1 .long (19 : Int32) [(.long (1 : Int64)), (.long (10 : Int64)), (.long (100 : Int64)), (.long (1000 : Int64)), (.long (10000 : Int64)), (.long (100000 : Int64)), (.long (1000000 : Int64)), (.long (10000000 : Int64)), (.long (100000000 : Int64)), (.long (1000000000 : Int64)), (.long (10000000000 : Int64)), (.long (100000000000 : Int64)), (.long (1000000000000 : Int64)), (.long (10000000000000 : Int64)), (.long (100000000000000 : Int64)), (.long (1000000000000000 : Int64)), (.long (10000000000000000 : Int64)), (.long (0 : Int64)), (.long (0 : Int64))] (.long (0 : Int64)) := Arv.set Ar34 qa34 Sa34 Na34 Ha34 Ga34 rfl W35 16 rfl (Nat.le_of_ble_eq_true rfl)
  have Zs35 : n0 ≤ h35.size := Nat.le_trans Zs33 (Nat.le_of_eq W35.size.symm)
  have K35 : Keep h0 h35 [] := K33.wr W35 (Or.inr sz_b1)
  have N35 := Fr.snoc X35 N33 g_b1
  obtain ⟨cl36, Ar36, qa36, Sa36, Na36, Ha36, Ga36⟩ := id V35
  have hin36 : ¬ ((17 : Int32) < 0 ∨ cl36.slots.size ≤ ((17 : Int32)).toNatClampNeg) := inb_of Sa36 ⟨by decide, by decide⟩
  obtain ⟨T37, h37, X37, e37, W37, st37⟩ := stJ X35 hx hZ e35 Ar36 (j := (17 : Int32)) hin36 (g := (mkF m 263 #[vJ qa, zS, vJ qb, zS, vI pa, vI pb, vJ hh, zS, vI sm, vJ mm, zS, vJ xx, zS, vR ee, vR ms, vR aP, vR aS, vI (1 : Int32), vJ mg, zS, vI (Int32.ofNat (SBG.digitsL nn)), zU, zU, zU, zU, zU, zU, zU, zU, zU, zU, zU] [(.long (100000000000000000 : Int64)), (.int (17 : Int32)), (.ref b1), (.ref b1)])) rfl rfl (hb hby at_263)
  have V37 : Arv Z h37 b1 k1 .long (19 : Int32) [(.long (1 : Int64)), (.long (10 : Int64)), (.long (100 : Int64)), (.long (1000 : Int64)), (.long (10000 : Int64)), (.long (100000 : Int64)), (.long (1000000 : Int64)), (.long (10000000 : Int64)), (.long (100000000 : Int64)), (.long (1000000000 : Int64)), (.long (10000000000 : Int64)), (.long (100000000000 : Int64)), (.long (1000000000000 : Int64)), (.long (10000000000000 : Int64)), (.long (100000000000000 : Int64)), (.long (1000000000000000 : Int64)), (.long (10000000000000000 : Int64)), (.long (100000000000000000 : Int64)), (.long (0 : Int64))] (.long (0 : Int64)) := Arv.set Ar36 qa36 Sa36 Na36 Ha36 Ga36 rfl W37 17 rfl (Nat.le_of_ble_eq_true rfl)
  have Zs37 : n0 ≤ h37.size := Nat.le_trans Zs35 (Nat.le_of_eq W37.size.symm)
  have K37 : Keep h0 h37 [] := K35.wr W37 (Or.inr sz_b1)
  have N37 := Fr.snoc X37 N35 g_b1
  obtain ⟨cl38, Ar38, qa38, Sa38, Na38, Ha38, Ga38⟩ := id V37
  have hin38 : ¬ ((18 : Int32) < 0 ∨ cl38.slots.size ≤ ((18 : Int32)).toNatClampNeg) := inb_of Sa38 ⟨by decide, by decide⟩
  obtain ⟨T39, h39, X39, e39, W39, st39⟩ := stJ X37 hx hZ e37 Ar38 (j := (18 : Int32)) hin38 (g := (mkF m 270 #[vJ qa, zS, vJ qb, zS, vI pa, vI pb, vJ hh, zS, vI sm, vJ mm, zS, vJ xx, zS, vR ee, vR ms, vR aP, vR aS, vI (1 : Int32), vJ mg, zS, vI (Int32.ofNat (SBG.digitsL nn)), zU, zU, zU, zU, zU, zU, zU, zU, zU, zU, zU] [(.long (1000000000000000000 : Int64)), (.int (18 : Int32)), (.ref b1), (.ref b1)])) rfl rfl (hb hby at_270)
  have V39 : Arv Z h39 b1 k1 .long (19 : Int32) [(.long (1 : Int64)), (.long (10 : Int64)), (.long (100 : Int64)), (.long (1000 : Int64)), (.long (10000 : Int64)), (.long (100000 : Int64)), (.long (1000000 : Int64)), (.long (10000000 : Int64)), (.long (100000000 : Int64)), (.long (1000000000 : Int64)), (.long (10000000000 : Int64)), (.long (100000000000 : Int64)), (.long (1000000000000 : Int64)), (.long (10000000000000 : Int64)), (.long (100000000000000 : Int64)), (.long (1000000000000000 : Int64)), (.long (10000000000000000 : Int64)), (.long (100000000000000000 : Int64)), (.long (1000000000000000000 : Int64))] (.long (0 : Int64)) := Arv.set Ar38 qa38 Sa38 Na38 Ha38 Ga38 rfl W39 18 rfl (Nat.le_of_ble_eq_true rfl)
  have Zs39 : n0 ≤ h39.size := Nat.le_trans Zs37 (Nat.le_of_eq W39.size.symm)
  have K39 : Keep h0 h39 [] := K37.wr W39 (Or.inr sz_b1)
  have N39 := Fr.snoc X39 N37 g_b1
  have E_aP_41 := ((((((((((((((((((((E_aP.ext E1).wr W3).wr W5).wr W7).wr W9).wr W11).wr W13).wr W15).wr W17).wr W19).wr W21).wr W23).wr W25).wr W27).wr W29).wr W31).wr W33).wr W35).wr W37).wr W39)
  obtain ⟨cq40, kq40, q40a, q40b, q40c⟩ := isOf hZ e39 E_aP_41
  obtain ⟨_, _, ⟨T40, L40, k40, n40⟩, -, X40, ⟨Lc40, hQ40, l40, y40, z40⟩, st40⟩ := X39.virtualBack hx (y := (⟨"java/lang/String", "length", "()I"⟩ : MethodName)) (z := (⟨"java/lang/String", "length", "()I"⟩ : MethodName)) hown (mvT hZ (wd hw 270 rfl)) (mvT hZ (wd hw 49 rfl)) (notFace_of_selects (args := #[]) (mvT hZ (wd hw 51 rfl))) (mvT hZ (wd hw 51 rfl)) (mvT hZ (wd hw 50 rfl)) (by decide) (backOf (W := 0) (rLen l Z a0 hw [] aP bP kP 59 (fun i => preL.getD i 0) (by omega) h39 n0 Zs39 (KZ.trans K39 all0) hz (R_p.keep K39 nin0 nin0) cs hcs S_Cz) hZ (wd hw 52 rfl) (wd hw 26 rfl) (by decide) (by decide)) q40a q40c (g := (mkF m 275 #[vJ qa, zS, vJ qb, zS, vI pa, vI pb, vJ hh, zS, vI sm, vJ mm, zS, vJ xx, zS, vR ee, vR ms, vR aP, vR aS, vI (1 : Int32), vJ mg, zS, vI (Int32.ofNat (SBG.digitsL nn)), vR b1, zU, zU, zU, zU, zU, zU, zU, zU, zU, zU] [(.ref aP)])) rfl (by rw [hml]; rfl) (Steps.refl _) (argsL := []) (rest := []) (lenOf pd___I rfl) rfl (by show 2 * 0 + _ ≤ _; exact Nat.le_of_eq rfl) (hb hby at_275) (fun _ _ => ⟨rfl, e39, (by decide : 19 + 0 ≤ _), (by decide : 4707 + 0 ≤ _)⟩)
  dsimp only [Pt.U, Pt.locs, Pt.cells, Pt.slots] at X40 l40 y40 z40 st40 hQ40
  rw [l40, y40, z40] at X40
  obtain ⟨rfl, N40q, e40⟩ := hQ40
  have N40 := Fr.app N39 N40q
  have E_ms_43 := ((((((((((((((((((((E_ms.ext E1).wr W3).wr W5).wr W7).wr W9).wr W11).wr W13).wr W15).wr W17).wr W19).wr W21).wr W23).wr W25).wr W27).wr W29).wr W31).wr W33).wr W35).wr W37).wr W39)
  obtain ⟨cq42, kq42, q42a, q42b, q42c⟩ := isOf hZ e40 E_ms_43
  obtain ⟨_, _, ⟨T42, L42, k42, n42⟩, -, X42, ⟨Lc42, hQ42, l42, y42, z42⟩, st42⟩ := X40.virtualBack hx (y := (⟨"java/lang/String", "length", "()I"⟩ : MethodName)) (z := (⟨"java/lang/String", "length", "()I"⟩ : MethodName)) hown (mvT hZ (wd hw 270 rfl)) (mvT hZ (wd hw 49 rfl)) (notFace_of_selects (args := #[]) (mvT hZ (wd hw 51 rfl))) (mvT hZ (wd hw 51 rfl)) (mvT hZ (wd hw 50 rfl)) (by decide) (backOf (W := 0) (rLen l Z a0 hw [] ms mv mk (59 + sz + 33) (txt xx nn sz) (by omega) h39 n0 Zs39 (KZ.trans K39 all0) hz (R_m.keep K39 nin0 nin0) cs hcs S_Cz) hZ (wd hw 52 rfl) (wd hw 26 rfl) (by decide) (by decide)) q42a q42c (g := (mkF m 297 #[vJ qa, zS, vJ qb, zS, vI pa, vI pb, vJ hh, zS, vI sm, vJ mm, zS, vJ xx, zS, vR ee, vR ms, vR aP, vR aS, vI (1 : Int32), vJ mg, zS, vI (Int32.ofNat (SBG.digitsL nn)), vR b1, vI (Int32.ofNat 59), vI (Int32.ofNat sz), zU, zU, zU, zU, zU, zU, zU, zU] [(.ref ms)])) rfl (by rw [hml]; rfl) (Steps.refl _) (argsL := []) (rest := []) (lenOf pd___I rfl) rfl (by show 2 * 0 + _ ≤ _; exact Nat.le_of_eq rfl) (hb hby at_297) (fun _ _ => ⟨rfl, e40, (by decide : 19 + 0 ≤ _), (by decide : 4707 + 0 ≤ _)⟩)
  dsimp only [Pt.U, Pt.locs, Pt.cells, Pt.slots] at X42 l42 y42 z42 st42 hQ42
  rw [l42, y42, z42] at X42
  obtain ⟨rfl, N42q, e42⟩ := hQ42
  have N42 := Fr.app N40 N42q
  have E_aS_45 := ((((((((((((((((((((E_aS.ext E1).wr W3).wr W5).wr W7).wr W9).wr W11).wr W13).wr W15).wr W17).wr W19).wr W21).wr W23).wr W25).wr W27).wr W29).wr W31).wr W33).wr W35).wr W37).wr W39)
  obtain ⟨cq44, kq44, q44a, q44b, q44c⟩ := isOf hZ e42 E_aS_45
  obtain ⟨_, _, ⟨T44, L44, k44, n44⟩, -, X44, ⟨Lc44, hQ44, l44, y44, z44⟩, st44⟩ := X42.virtualBack hx (y := (⟨"java/lang/String", "length", "()I"⟩ : MethodName)) (z := (⟨"java/lang/String", "length", "()I"⟩ : MethodName)) hown (mvT hZ (wd hw 270 rfl)) (mvT hZ (wd hw 49 rfl)) (notFace_of_selects (args := #[]) (mvT hZ (wd hw 51 rfl))) (mvT hZ (wd hw 51 rfl)) (mvT hZ (wd hw 50 rfl)) (by decide) (backOf (W := 2) (rLen l Z a0 hw [] aS bS kS 33 (fun i => sufL.getD i 0) (by omega) h39 n0 Zs39 (KZ.trans K39 all0) hz (R_s.keep K39 nin0 nin0) cs hcs S_Cz) hZ (wd hw 52 rfl) (wd hw 26 rfl) (by decide) (by decide)) q44a q44c (g := (mkF m 307 #[vJ qa, zS, vJ qb, zS, vI pa, vI pb, vJ hh, zS, vI sm, vJ mm, zS, vJ xx, zS, vR ee, vR ms, vR aP, vR aS, vI (1 : Int32), vJ mg, zS, vI (Int32.ofNat (SBG.digitsL nn)), vR b1, vI (Int32.ofNat 59), vI (Int32.ofNat sz), zU, zU, zU, zU, zU, zU, zU, zU] [(.ref aS), (.int (Int32.ofNat (59 + sz))), (.int (Int32.ofNat (59 + sz + 33)))])) rfl (by rw [hml]; rfl) (Steps.refl _) (argsL := []) (rest := [(.int (Int32.ofNat (59 + sz))), (.int (Int32.ofNat (59 + sz + 33)))]) (lenOf pd___I rfl) rfl (by show 2 * 0 + _ ≤ _; exact Nat.le_of_eq rfl) (hb hby at_307) (fun _ _ => ⟨rfl, e42, (by decide : 19 + 0 ≤ _), (by decide : 4707 + 0 ≤ _)⟩)
  dsimp only [Pt.U, Pt.locs, Pt.cells, Pt.slots] at X44 l44 y44 z44 st44 hQ44
  rw [l44, y44, z44] at X44
  obtain ⟨rfl, N44q, e44⟩ := hQ44
  have N44 := Fr.app N42 N44q
  obtain ⟨cq46, kq46, q46a, q46b, q46c⟩ := isOf hZ e44 E_ms_43
  obtain ⟨_, _, ⟨T46, L46, k46, n46⟩, -, X46, ⟨Lc46, hQ46, l46, y46, z46⟩, st46⟩ := X44.virtualBack hx (y := (⟨"java/lang/String", "charAt", "(I)C"⟩ : MethodName)) (z := (⟨"java/lang/String", "charAt", "(I)C"⟩ : MethodName)) hown (mvT hZ (wd hw 271 rfl)) (mvT hZ (wd hw 272 rfl)) (notFace_of_selects (args := #[]) (mvT hZ (wd hw 274 rfl))) (mvT hZ (wd hw 274 rfl)) (mvT hZ (wd hw 273 rfl)) (by decide) (backOf (W := 0) (rCh l Z a0 hw [] ms mv mk (59 + sz + 33) (txt xx nn sz) 59 (by omega) (txtA xx nn sz) (by omega) h39 n0 Zs39 (KZ.trans K39 all0) hz (R_m.keep K39 nin0 nin0) cs hcs S_Cz fm hfm S_Fz) hZ (wd hw 275 rfl) (wd hw 26 rfl) (by decide) (by decide)) q46a q46c (g := (mkF m 325 #[vJ qa, zS, vJ qb, zS, vI pa, vI pb, vJ hh, zS, vI sm, vJ mm, zS, vJ xx, zS, vR ee, vR ms, vR aP, vR aS, vI (1 : Int32), vJ mg, zS, vI (Int32.ofNat (SBG.digitsL nn)), vR b1, vI (Int32.ofNat 59), vI (Int32.ofNat sz), zU, zU, zU, zU, zU, zU, zU, zU] [(.int (Int32.ofNat 59)), (.ref ms)])) rfl (by rw [hml]; rfl) (Steps.refl _) (argsL := [(.int (Int32.ofNat 59))]) (rest := []) (lenOf pd__I_C rfl) rfl (by show 2 * 0 + _ ≤ _; exact Nat.le_of_eq rfl) (hb hby at_325) (fun _ _ => ⟨rfl, e44, (by decide : 19 + 0 ≤ _), (by decide : 4707 + 0 ≤ _)⟩)
  dsimp only [Pt.U, Pt.locs, Pt.cells, Pt.slots] at X46 l46 y46 z46 st46 hQ46
  rw [l46, y46, z46] at X46
  obtain ⟨rfl, N46q, e46⟩ := hQ46
  have N46 := Fr.app N44 N46q
  have hpw : ∀ k, k < 19 → ([(.long (1 : Int64)), (.long (10 : Int64)), (.long (100 : Int64)), (.long (1000 : Int64)), (.long (10000 : Int64)), (.long (100000 : Int64)), (.long (1000000 : Int64)), (.long (10000000 : Int64)), (.long (100000000 : Int64)), (.long (1000000000 : Int64)), (.long (10000000000 : Int64)), (.long (100000000000 : Int64)), (.long (1000000000000 : Int64)), (.long (10000000000000 : Int64)), (.long (100000000000000 : Int64)), (.long (1000000000000000 : Int64)), (.long (10000000000000000 : Int64)), (.long (100000000000000000 : Int64)), (.long (1000000000000000000 : Int64))] : List Value).getD k (.long (0 : Int64)) = .long (Int64.ofNat (10 ^ k)) := by decide +kernel
  obtain ⟨cl47, Ar47, qa47, Sa47, Na47, Ha47, Ga47⟩ := id V39
  have hin47 : ¬ ((Int32.ofNat (SBG.digitsL nn - 1)) < 0 ∨ cl47.slots.size ≤ ((Int32.ofNat (SBG.digitsL nn - 1))).toNatClampNeg) := inb_of Sa47 ⟨by rw [Int32.lt_iff_toInt_lt, own_i32 (by omega)]; show ¬ (((SBG.digitsL nn - 1) : Nat) : Int) < 0; omega, (own_ltI (j := 19) (by omega) (by decide)).mpr (by omega)⟩
  have hat47 := Ha47.at hin47 (v := (.long (Int64.ofNat (10 ^ (SBG.digitsL nn - 1))))) (by rw [own_cl (by omega)]; exact hpw _ (by omega))
  obtain ⟨cq48, kq48, q48a, q48b, q48c⟩ := isOf hZ e46 E_ms_43
  obtain ⟨_, _, ⟨T48, L48, k48, n48⟩, -, X48, ⟨Lc48, hQ48, l48, y48, z48⟩, st48⟩ := X46.virtualBack hx (y := (⟨"java/lang/String", "charAt", "(I)C"⟩ : MethodName)) (z := (⟨"java/lang/String", "charAt", "(I)C"⟩ : MethodName)) hown (mvT hZ (wd hw 271 rfl)) (mvT hZ (wd hw 272 rfl)) (notFace_of_selects (args := #[]) (mvT hZ (wd hw 274 rfl))) (mvT hZ (wd hw 274 rfl)) (mvT hZ (wd hw 273 rfl)) (by decide) (backOf (W := 0) (rCh l Z a0 hw [] ms mv mk (59 + sz + 33) (txt xx nn sz) (59 + 1) (by omega) (txtA xx nn sz) (by omega) h39 n0 Zs39 (KZ.trans K39 all0) hz (R_m.keep K39 nin0 nin0) cs hcs S_Cz fm hfm S_Fz) hZ (wd hw 275 rfl) (wd hw 26 rfl) (by decide) (by decide)) q48a q48c (g := (mkF m 367 #[vJ qa, zS, vJ qb, zS, vI pa, vI pb, vJ hh, zS, vI sm, vJ mm, zS, vJ xx, zS, vR ee, vR ms, vR aP, vR aS, vI (1 : Int32), vJ mg, zS, vI (Int32.ofNat (SBG.digitsL nn)), vR b1, vI (Int32.ofNat 59), vI (Int32.ofNat sz), vI (Int32.ofNat (48 + nn / 10 ^ (SBG.digitsL nn - 1))), zU, zU, zU, zU, zU, zU, zU] [(.int (Int32.ofNat (59 + 1))), (.ref ms)])) rfl (by rw [hml]; rfl) (Steps.refl _) (argsL := [(.int (Int32.ofNat (59 + 1)))]) (rest := []) (lenOf pd__I_C rfl) rfl (by show 2 * 0 + _ ≤ _; exact Nat.le_of_eq rfl) (hb hby at_367) (fun _ _ => ⟨rfl, e46, (by decide : 19 + 0 ≤ _), (by decide : 4707 + 0 ≤ _)⟩)
  dsimp only [Pt.U, Pt.locs, Pt.cells, Pt.slots] at X48 l48 y48 z48 st48 hQ48
  rw [l48, y48, z48] at X48
  obtain ⟨rfl, N48q, e48⟩ := hQ48
  have N48 := Fr.app N46 N48q
  obtain ⟨cq49, kq49, q49a, q49b, q49c⟩ := isOf hZ e48 E_ms_43
  obtain ⟨_, _, ⟨T49, L49, k49, n49⟩, -, X49, ⟨Lc49, hQ49, l49, y49, z49⟩, st49⟩ := X48.virtualBack hx (y := (⟨"java/lang/String", "charAt", "(I)C"⟩ : MethodName)) (z := (⟨"java/lang/String", "charAt", "(I)C"⟩ : MethodName)) hown (mvT hZ (wd hw 271 rfl)) (mvT hZ (wd hw 272 rfl)) (notFace_of_selects (args := #[]) (mvT hZ (wd hw 274 rfl))) (mvT hZ (wd hw 274 rfl)) (mvT hZ (wd hw 273 rfl)) (by decide) (backOf (W := 0) (rCh l Z a0 hw [] ms mv mk (59 + sz + 33) (txt xx nn sz) (59 + sz - 1) (by omega) (txtA xx nn sz) (by omega) h39 n0 Zs39 (KZ.trans K39 all0) hz (R_m.keep K39 nin0 nin0) cs hcs S_Cz fm hfm S_Fz) hZ (wd hw 275 rfl) (wd hw 26 rfl) (by decide) (by decide)) q49a q49c (g := (mkF m 399 #[vJ qa, zS, vJ qb, zS, vI pa, vI pb, vJ hh, zS, vI sm, vJ mm, zS, vJ xx, zS, vR ee, vR ms, vR aP, vR aS, vI (1 : Int32), vJ mg, zS, vI (Int32.ofNat (SBG.digitsL nn)), vR b1, vI (Int32.ofNat 59), vI (Int32.ofNat sz), vI (Int32.ofNat (48 + nn / 10 ^ (SBG.digitsL nn - 1))), vI (Int32.ofNat (48 + nn % 10)), zU, zU, zU, zU, zU, zU] [(.int (Int32.ofNat (59 + sz - 1))), (.ref ms)])) rfl (by rw [hml]; rfl) (Steps.refl _) (argsL := [(.int (Int32.ofNat (59 + sz - 1)))]) (rest := []) (lenOf pd__I_C rfl) rfl (by show 2 * 0 + _ ≤ _; exact Nat.le_of_eq rfl) (hb hby at_399) (fun _ _ => ⟨rfl, e48, (by decide : 19 + 0 ≤ _), (by decide : 4707 + 0 ≤ _)⟩)
  dsimp only [Pt.U, Pt.locs, Pt.cells, Pt.slots] at X49 l49 y49 z49 st49 hQ49
  rw [l49, y49, z49] at X49
  obtain ⟨rfl, N49q, e49⟩ := hQ49
  have N49 := Fr.app N48 N49q
  obtain ⟨cq50, kq50, q50a, q50b, q50c⟩ := isOf hZ e49 E_ms_43
  obtain ⟨_, _, ⟨T50, L50, k50, n50⟩, -, X50, ⟨Lc50, hQ50, l50, y50, z50⟩, st50⟩ := X49.virtualBack hx (y := (⟨"java/lang/String", "charAt", "(I)C"⟩ : MethodName)) (z := (⟨"java/lang/String", "charAt", "(I)C"⟩ : MethodName)) hown (mvT hZ (wd hw 271 rfl)) (mvT hZ (wd hw 272 rfl)) (notFace_of_selects (args := #[]) (mvT hZ (wd hw 274 rfl))) (mvT hZ (wd hw 274 rfl)) (mvT hZ (wd hw 273 rfl)) (by decide) (backOf (W := 0) (rCh l Z a0 hw [] ms mv mk (59 + sz + 33) (txt xx nn sz) 0 (by omega) (txtA xx nn sz) (by omega) h39 n0 Zs39 (KZ.trans K39 all0) hz (R_m.keep K39 nin0 nin0) cs hcs S_Cz fm hfm S_Fz) hZ (wd hw 275 rfl) (wd hw 26 rfl) (by decide) (by decide)) q50a q50c (g := (mkF m 412 #[vJ qa, zS, vJ qb, zS, vI pa, vI pb, vJ hh, zS, vI sm, vJ mm, zS, vJ xx, zS, vR ee, vR ms, vR aP, vR aS, vI (1 : Int32), vJ mg, zS, vI (Int32.ofNat (SBG.digitsL nn)), vR b1, vI (Int32.ofNat 59), vI (Int32.ofNat sz), vI (Int32.ofNat (48 + nn / 10 ^ (SBG.digitsL nn - 1))), vI (Int32.ofNat (48 + nn % 10)), zU, zU, zU, zU, zU, zU] [(.int (Int32.ofNat 0)), (.ref ms)])) rfl (by rw [hml]; rfl) (Steps.refl _) (argsL := [(.int (Int32.ofNat 0))]) (rest := []) (lenOf pd__I_C rfl) rfl (by show 2 * 0 + _ ≤ _; exact Nat.le_of_eq rfl) (hb hby at_412) (fun _ _ => ⟨rfl, e49, (by decide : 19 + 0 ≤ _), (by decide : 4707 + 0 ≤ _)⟩)
  dsimp only [Pt.U, Pt.locs, Pt.cells, Pt.slots] at X50 l50 y50 z50 st50 hQ50
  rw [l50, y50, z50] at X50
  obtain ⟨rfl, N50q, e50⟩ := hQ50
  have N50 := Fr.app N49 N50q
  obtain ⟨cq51, kq51, q51a, q51b, q51c⟩ := isOf hZ e50 E_ms_43
  obtain ⟨_, _, ⟨T51, L51, k51, n51⟩, -, X51, ⟨Lc51, hQ51, l51, y51, z51⟩, st51⟩ := X50.virtualBack hx (y := (⟨"java/lang/String", "charAt", "(I)C"⟩ : MethodName)) (z := (⟨"java/lang/String", "charAt", "(I)C"⟩ : MethodName)) hown (mvT hZ (wd hw 271 rfl)) (mvT hZ (wd hw 272 rfl)) (notFace_of_selects (args := #[]) (mvT hZ (wd hw 274 rfl))) (mvT hZ (wd hw 274 rfl)) (mvT hZ (wd hw 273 rfl)) (by decide) (backOf (W := 0) (rCh l Z a0 hw [] ms mv mk (59 + sz + 33) (txt xx nn sz) 58 (by omega) (txtA xx nn sz) (by omega) h39 n0 Zs39 (KZ.trans K39 all0) hz (R_m.keep K39 nin0 nin0) cs hcs S_Cz fm hfm S_Fz) hZ (wd hw 275 rfl) (wd hw 26 rfl) (by decide) (by decide)) q51a q51c (g := (mkF m 426 #[vJ qa, zS, vJ qb, zS, vI pa, vI pb, vJ hh, zS, vI sm, vJ mm, zS, vJ xx, zS, vR ee, vR ms, vR aP, vR aS, vI (1 : Int32), vJ mg, zS, vI (Int32.ofNat (SBG.digitsL nn)), vR b1, vI (Int32.ofNat 59), vI (Int32.ofNat sz), vI (Int32.ofNat (48 + nn / 10 ^ (SBG.digitsL nn - 1))), vI (Int32.ofNat (48 + nn % 10)), zU, zU, zU, zU, zU, zU] [(.int (Int32.ofNat 58)), (.ref ms)])) rfl (by rw [hml]; rfl) (Steps.refl _) (argsL := [(.int (Int32.ofNat 58))]) (rest := []) (lenOf pd__I_C rfl) rfl (by show 2 * 0 + _ ≤ _; exact Nat.le_of_eq rfl) (hb hby at_426) (fun _ _ => ⟨rfl, e50, (by decide : 19 + 0 ≤ _), (by decide : 4707 + 0 ≤ _)⟩)
  dsimp only [Pt.U, Pt.locs, Pt.cells, Pt.slots] at X51 l51 y51 z51 st51 hQ51
  rw [l51, y51, z51] at X51
  obtain ⟨rfl, N51q, e51⟩ := hQ51
  have N51 := Fr.app N50 N51q
  obtain ⟨cq52, kq52, q52a, q52b, q52c⟩ := isOf hZ e51 E_ms_43
  obtain ⟨_, _, ⟨T52, L52, k52, n52⟩, -, X52, ⟨Lc52, hQ52, l52, y52, z52⟩, st52⟩ := X51.virtualBack hx (y := (⟨"java/lang/String", "charAt", "(I)C"⟩ : MethodName)) (z := (⟨"java/lang/String", "charAt", "(I)C"⟩ : MethodName)) hown (mvT hZ (wd hw 271 rfl)) (mvT hZ (wd hw 272 rfl)) (notFace_of_selects (args := #[]) (mvT hZ (wd hw 274 rfl))) (mvT hZ (wd hw 274 rfl)) (mvT hZ (wd hw 273 rfl)) (by decide) (backOf (W := 0) (rCh l Z a0 hw [] ms mv mk (59 + sz + 33) (txt xx nn sz) (59 + sz) (by omega) (txtA xx nn sz) (by omega) h39 n0 Zs39 (KZ.trans K39 all0) hz (R_m.keep K39 nin0 nin0) cs hcs S_Cz fm hfm S_Fz) hZ (wd hw 275 rfl) (wd hw 26 rfl) (by decide) (by decide)) q52a q52c (g := (mkF m 441 #[vJ qa, zS, vJ qb, zS, vI pa, vI pb, vJ hh, zS, vI sm, vJ mm, zS, vJ xx, zS, vR ee, vR ms, vR aP, vR aS, vI (1 : Int32), vJ mg, zS, vI (Int32.ofNat (SBG.digitsL nn)), vR b1, vI (Int32.ofNat 59), vI (Int32.ofNat sz), vI (Int32.ofNat (48 + nn / 10 ^ (SBG.digitsL nn - 1))), vI (Int32.ofNat (48 + nn % 10)), zU, zU, zU, zU, zU, zU] [(.int (Int32.ofNat (59 + sz))), (.ref ms)])) rfl (by rw [hml]; rfl) (Steps.refl _) (argsL := [(.int (Int32.ofNat (59 + sz)))]) (rest := []) (lenOf pd__I_C rfl) rfl (by show 2 * 0 + _ ≤ _; exact Nat.le_of_eq rfl) (hb hby at_441) (fun _ _ => ⟨rfl, e51, (by decide : 19 + 0 ≤ _), (by decide : 4707 + 0 ≤ _)⟩)
  dsimp only [Pt.U, Pt.locs, Pt.cells, Pt.slots] at X52 l52 y52 z52 st52 hQ52
  rw [l52, y52, z52] at X52
  obtain ⟨rfl, N52q, e52⟩ := hQ52
  have N52 := Fr.app N51 N52q
  obtain ⟨cq53, kq53, q53a, q53b, q53c⟩ := isOf hZ e52 E_ms_43
  obtain ⟨_, _, ⟨T53, L53, k53, n53⟩, -, X53, ⟨Lc53, hQ53, l53, y53, z53⟩, st53⟩ := X52.virtualBack hx (y := (⟨"java/lang/String", "length", "()I"⟩ : MethodName)) (z := (⟨"java/lang/String", "length", "()I"⟩ : MethodName)) hown (mvT hZ (wd hw 270 rfl)) (mvT hZ (wd hw 49 rfl)) (notFace_of_selects (args := #[]) (mvT hZ (wd hw 51 rfl))) (mvT hZ (wd hw 51 rfl)) (mvT hZ (wd hw 50 rfl)) (by decide) (backOf (W := 1) (rLen l Z a0 hw [] ms mv mk (59 + sz + 33) (txt xx nn sz) (by omega) h39 n0 Zs39 (KZ.trans K39 all0) hz (R_m.keep K39 nin0 nin0) cs hcs S_Cz) hZ (wd hw 52 rfl) (wd hw 26 rfl) (by decide) (by decide)) q53a q53c (g := (mkF m 455 #[vJ qa, zS, vJ qb, zS, vI pa, vI pb, vJ hh, zS, vI sm, vJ mm, zS, vJ xx, zS, vR ee, vR ms, vR aP, vR aS, vI (1 : Int32), vJ mg, zS, vI (Int32.ofNat (SBG.digitsL nn)), vR b1, vI (Int32.ofNat 59), vI (Int32.ofNat sz), vI (Int32.ofNat (48 + nn / 10 ^ (SBG.digitsL nn - 1))), vI (Int32.ofNat (48 + nn % 10)), zU, zU, zU, zU, zU, zU] [(.ref ms), (.ref ms)])) rfl (by rw [hml]; rfl) (Steps.refl _) (argsL := []) (rest := [(.ref ms)]) (lenOf pd___I rfl) rfl (by show 2 * 0 + _ ≤ _; exact Nat.le_of_eq rfl) (hb hby at_455) (fun _ _ => ⟨rfl, e52, (by decide : 19 + 0 ≤ _), (by decide : 4707 + 0 ≤ _)⟩)
  dsimp only [Pt.U, Pt.locs, Pt.cells, Pt.slots] at X53 l53 y53 z53 st53 hQ53
  rw [l53, y53, z53] at X53
  obtain ⟨rfl, N53q, e53⟩ := hQ53
  have N53 := Fr.app N52 N53q
  obtain ⟨cq54, kq54, q54a, q54b, q54c⟩ := isOf hZ e53 E_ms_43
  obtain ⟨_, _, ⟨T54, L54, k54, n54⟩, -, X54, ⟨Lc54, hQ54, l54, y54, z54⟩, st54⟩ := X53.virtualBack hx (y := (⟨"java/lang/String", "charAt", "(I)C"⟩ : MethodName)) (z := (⟨"java/lang/String", "charAt", "(I)C"⟩ : MethodName)) hown (mvT hZ (wd hw 271 rfl)) (mvT hZ (wd hw 272 rfl)) (notFace_of_selects (args := #[]) (mvT hZ (wd hw 274 rfl))) (mvT hZ (wd hw 274 rfl)) (mvT hZ (wd hw 273 rfl)) (by decide) (backOf (W := 0) (rCh l Z a0 hw [] ms mv mk (59 + sz + 33) (txt xx nn sz) ((59 + sz + 33) - 1) (by omega) (txtA xx nn sz) (by omega) h39 n0 Zs39 (KZ.trans K39 all0) hz (R_m.keep K39 nin0 nin0) cs hcs S_Cz fm hfm S_Fz) hZ (wd hw 275 rfl) (wd hw 26 rfl) (by decide) (by decide)) q54a q54c (g := (mkF m 460 #[vJ qa, zS, vJ qb, zS, vI pa, vI pb, vJ hh, zS, vI sm, vJ mm, zS, vJ xx, zS, vR ee, vR ms, vR aP, vR aS, vI (1 : Int32), vJ mg, zS, vI (Int32.ofNat (SBG.digitsL nn)), vR b1, vI (Int32.ofNat 59), vI (Int32.ofNat sz), vI (Int32.ofNat (48 + nn / 10 ^ (SBG.digitsL nn - 1))), vI (Int32.ofNat (48 + nn % 10)), zU, zU, zU, zU, zU, zU] [(.int (Int32.ofNat ((59 + sz + 33) - 1))), (.ref ms)])) rfl (by rw [hml]; rfl) (Steps.refl _) (argsL := [(.int (Int32.ofNat ((59 + sz + 33) - 1)))]) (rest := []) (lenOf pd__I_C rfl) rfl (by show 2 * 0 + _ ≤ _; exact Nat.le_of_eq rfl) (hb hby at_460) (fun _ _ => ⟨rfl, e53, (by decide : 19 + 0 ≤ _), (by decide : 4707 + 0 ≤ _)⟩)
  dsimp only [Pt.U, Pt.locs, Pt.cells, Pt.slots] at X54 l54 y54 z54 st54 hQ54
  rw [l54, y54, z54] at X54
  obtain ⟨rfl, N54q, e54⟩ := hQ54
  have N54 := Fr.app N53 N54q
  have pre55 : ∀ t, Steps p.tables e below (T54.setTop (mkF m 470 #[vJ qa, zS, vJ qb, zS, vI pa, vI pb, vJ hh, zS, vI sm, vJ mm, zS, vJ xx, zS, vR ee, vR ms, vR aP, vR aS, vI (1 : Int32), vJ mg, zS, vI (Int32.ofNat (SBG.digitsL nn)), vR b1, vI (Int32.ofNat 59), vI (Int32.ofNat sz), vI (Int32.ofNat (48 + nn / 10 ^ (SBG.digitsL nn - 1))), vI (Int32.ofNat (48 + nn % 10)), zU, zU, zU, zU, zU, zU] [])) t → Steps p.tables e below (T0.setTop (mkF m 142 #[vJ qa, zS, vJ qb, zS, vI pa, vI pb, vJ hh, zS, vI sm, vJ mm, zS, vJ xx, zS, vR ee, vR ms, vR aP, vR aS, vI (1 : Int32), vJ mg, zS, vI (Int32.ofNat (SBG.digitsL nn)), zU, zU, zU, zU, zU, zU, zU, zU, zU, zU, zU] [])) t := by
    intro t kt
    refine pre0 t ?_
    refine XS.bipush X0.here hx rfl (hb hby at_142) ?_
    refine st1 _ ?_
    refine XS.dup X1.here hx rfl (hb hby at_146) rfl rfl ?_
    show Steps p.tables e below (T1.setTop (mkF m 147 #[vJ qa, zS, vJ qb, zS, vI pa, vI pb, vJ hh, zS, vI sm, vJ mm, zS, vJ xx, zS, vR ee, vR ms, vR aP, vR aS, vI (1 : Int32), vJ mg, zS, vI (Int32.ofNat (SBG.digitsL nn)), zU, zU, zU, zU, zU, zU, zU, zU, zU, zU, zU] [(.ref b1), (.ref b1)])) _
    refine XS.iconst X1.here hx rfl (hb hby at_147) ?_
    refine XS.lconst X1.here hx rfl (hb hby at_148) ?_
    refine st3 _ ?_
    refine XS.dup X3.here hx rfl (hb hby at_150) rfl rfl ?_
    show Steps p.tables e below (T3.setTop (mkF m 151 #[vJ qa, zS, vJ qb, zS, vI pa, vI pb, vJ hh, zS, vI sm, vJ mm, zS, vJ xx, zS, vR ee, vR ms, vR aP, vR aS, vI (1 : Int32), vJ mg, zS, vI (Int32.ofNat (SBG.digitsL nn)), zU, zU, zU, zU, zU, zU, zU, zU, zU, zU, zU] [(.ref b1), (.ref b1)])) _
    refine XS.iconst X3.here hx rfl (hb hby at_151) ?_
    refine X3.ldc2Long hx hown (mvT hZ (wd hw 251 rfl)) (g := (mkF m 152 #[vJ qa, zS, vJ qb, zS, vI pa, vI pb, vJ hh, zS, vI sm, vJ mm, zS, vJ xx, zS, vR ee, vR ms, vR aP, vR aS, vI (1 : Int32), vJ mg, zS, vI (Int32.ofNat (SBG.digitsL nn)), zU, zU, zU, zU, zU, zU, zU, zU, zU, zU, zU] [(.int (1 : Int32)), (.ref b1), (.ref b1)])) rfl (hb hby at_152) _ ?_
    refine st5 _ ?_
    refine XS.dup X5.here hx rfl (hb hby at_156) rfl rfl ?_
    show Steps p.tables e below (T5.setTop (mkF m 157 #[vJ qa, zS, vJ qb, zS, vI pa, vI pb, vJ hh, zS, vI sm, vJ mm, zS, vJ xx, zS, vR ee, vR ms, vR aP, vR aS, vI (1 : Int32), vJ mg, zS, vI (Int32.ofNat (SBG.digitsL nn)), zU, zU, zU, zU, zU, zU, zU, zU, zU, zU, zU] [(.ref b1), (.ref b1)])) _
    refine XS.iconst X5.here hx rfl (hb hby at_157) ?_
    refine X5.ldc2Long hx hown (mvT hZ (wd hw 253 rfl)) (g := (mkF m 158 #[vJ qa, zS, vJ qb, zS, vI pa, vI pb, vJ hh, zS, vI sm, vJ mm, zS, vJ xx, zS, vR ee, vR ms, vR aP, vR aS, vI (1 : Int32), vJ mg, zS, vI (Int32.ofNat (SBG.digitsL nn)), zU, zU, zU, zU, zU, zU, zU, zU, zU, zU, zU] [(.int (2 : Int32)), (.ref b1), (.ref b1)])) rfl (hb hby at_158) _ ?_
    refine st7 _ ?_
    refine XS.dup X7.here hx rfl (hb hby at_162) rfl rfl ?_
    show Steps p.tables e below (T7.setTop (mkF m 163 #[vJ qa, zS, vJ qb, zS, vI pa, vI pb, vJ hh, zS, vI sm, vJ mm, zS, vJ xx, zS, vR ee, vR ms, vR aP, vR aS, vI (1 : Int32), vJ mg, zS, vI (Int32.ofNat (SBG.digitsL nn)), zU, zU, zU, zU, zU, zU, zU, zU, zU, zU, zU] [(.ref b1), (.ref b1)])) _
    refine XS.iconst X7.here hx rfl (hb hby at_163) ?_
    refine X7.ldc2Long hx hown (mvT hZ (wd hw 254 rfl)) (g := (mkF m 164 #[vJ qa, zS, vJ qb, zS, vI pa, vI pb, vJ hh, zS, vI sm, vJ mm, zS, vJ xx, zS, vR ee, vR ms, vR aP, vR aS, vI (1 : Int32), vJ mg, zS, vI (Int32.ofNat (SBG.digitsL nn)), zU, zU, zU, zU, zU, zU, zU, zU, zU, zU, zU] [(.int (3 : Int32)), (.ref b1), (.ref b1)])) rfl (hb hby at_164) _ ?_
    refine st9 _ ?_
    refine XS.dup X9.here hx rfl (hb hby at_168) rfl rfl ?_
    show Steps p.tables e below (T9.setTop (mkF m 169 #[vJ qa, zS, vJ qb, zS, vI pa, vI pb, vJ hh, zS, vI sm, vJ mm, zS, vJ xx, zS, vR ee, vR ms, vR aP, vR aS, vI (1 : Int32), vJ mg, zS, vI (Int32.ofNat (SBG.digitsL nn)), zU, zU, zU, zU, zU, zU, zU, zU, zU, zU, zU] [(.ref b1), (.ref b1)])) _
    refine XS.iconst X9.here hx rfl (hb hby at_169) ?_
    refine X9.ldc2Long hx hown (mvT hZ (wd hw 255 rfl)) (g := (mkF m 170 #[vJ qa, zS, vJ qb, zS, vI pa, vI pb, vJ hh, zS, vI sm, vJ mm, zS, vJ xx, zS, vR ee, vR ms, vR aP, vR aS, vI (1 : Int32), vJ mg, zS, vI (Int32.ofNat (SBG.digitsL nn)), zU, zU, zU, zU, zU, zU, zU, zU, zU, zU, zU] [(.int (4 : Int32)), (.ref b1), (.ref b1)])) rfl (hb hby at_170) _ ?_
    refine st11 _ ?_
    refine XS.dup X11.here hx rfl (hb hby at_174) rfl rfl ?_
    show Steps p.tables e below (T11.setTop (mkF m 175 #[vJ qa, zS, vJ qb, zS, vI pa, vI pb, vJ hh, zS, vI sm, vJ mm, zS, vJ xx, zS, vR ee, vR ms, vR aP, vR aS, vI (1 : Int32), vJ mg, zS, vI (Int32.ofNat (SBG.digitsL nn)), zU, zU, zU, zU, zU, zU, zU, zU, zU, zU, zU] [(.ref b1), (.ref b1)])) _
    refine XS.iconst X11.here hx rfl (hb hby at_175) ?_
    refine X11.ldc2Long hx hown (mvT hZ (wd hw 256 rfl)) (g := (mkF m 176 #[vJ qa, zS, vJ qb, zS, vI pa, vI pb, vJ hh, zS, vI sm, vJ mm, zS, vJ xx, zS, vR ee, vR ms, vR aP, vR aS, vI (1 : Int32), vJ mg, zS, vI (Int32.ofNat (SBG.digitsL nn)), zU, zU, zU, zU, zU, zU, zU, zU, zU, zU, zU] [(.int (5 : Int32)), (.ref b1), (.ref b1)])) rfl (hb hby at_176) _ ?_
    refine st13 _ ?_
    refine XS.dup X13.here hx rfl (hb hby at_180) rfl rfl ?_
    show Steps p.tables e below (T13.setTop (mkF m 181 #[vJ qa, zS, vJ qb, zS, vI pa, vI pb, vJ hh, zS, vI sm, vJ mm, zS, vJ xx, zS, vR ee, vR ms, vR aP, vR aS, vI (1 : Int32), vJ mg, zS, vI (Int32.ofNat (SBG.digitsL nn)), zU, zU, zU, zU, zU, zU, zU, zU, zU, zU, zU] [(.ref b1), (.ref b1)])) _
    refine XS.bipush X13.here hx rfl (hb hby at_181) ?_
    refine X13.ldc2Long hx hown (mvT hZ (wd hw 257 rfl)) (g := (mkF m 183 #[vJ qa, zS, vJ qb, zS, vI pa, vI pb, vJ hh, zS, vI sm, vJ mm, zS, vJ xx, zS, vR ee, vR ms, vR aP, vR aS, vI (1 : Int32), vJ mg, zS, vI (Int32.ofNat (SBG.digitsL nn)), zU, zU, zU, zU, zU, zU, zU, zU, zU, zU, zU] [(.int (6 : Int32)), (.ref b1), (.ref b1)])) rfl (hb hby at_183) _ ?_
    refine st15 _ ?_
    refine XS.dup X15.here hx rfl (hb hby at_187) rfl rfl ?_
    show Steps p.tables e below (T15.setTop (mkF m 188 #[vJ qa, zS, vJ qb, zS, vI pa, vI pb, vJ hh, zS, vI sm, vJ mm, zS, vJ xx, zS, vR ee, vR ms, vR aP, vR aS, vI (1 : Int32), vJ mg, zS, vI (Int32.ofNat (SBG.digitsL nn)), zU, zU, zU, zU, zU, zU, zU, zU, zU, zU, zU] [(.ref b1), (.ref b1)])) _
    refine XS.bipush X15.here hx rfl (hb hby at_188) ?_
    refine X15.ldc2Long hx hown (mvT hZ (wd hw 258 rfl)) (g := (mkF m 190 #[vJ qa, zS, vJ qb, zS, vI pa, vI pb, vJ hh, zS, vI sm, vJ mm, zS, vJ xx, zS, vR ee, vR ms, vR aP, vR aS, vI (1 : Int32), vJ mg, zS, vI (Int32.ofNat (SBG.digitsL nn)), zU, zU, zU, zU, zU, zU, zU, zU, zU, zU, zU] [(.int (7 : Int32)), (.ref b1), (.ref b1)])) rfl (hb hby at_190) _ ?_
    refine st17 _ ?_
    refine XS.dup X17.here hx rfl (hb hby at_194) rfl rfl ?_
    show Steps p.tables e below (T17.setTop (mkF m 195 #[vJ qa, zS, vJ qb, zS, vI pa, vI pb, vJ hh, zS, vI sm, vJ mm, zS, vJ xx, zS, vR ee, vR ms, vR aP, vR aS, vI (1 : Int32), vJ mg, zS, vI (Int32.ofNat (SBG.digitsL nn)), zU, zU, zU, zU, zU, zU, zU, zU, zU, zU, zU] [(.ref b1), (.ref b1)])) _
    refine XS.bipush X17.here hx rfl (hb hby at_195) ?_
    refine X17.ldc2Long hx hown (mvT hZ (wd hw 259 rfl)) (g := (mkF m 197 #[vJ qa, zS, vJ qb, zS, vI pa, vI pb, vJ hh, zS, vI sm, vJ mm, zS, vJ xx, zS, vR ee, vR ms, vR aP, vR aS, vI (1 : Int32), vJ mg, zS, vI (Int32.ofNat (SBG.digitsL nn)), zU, zU, zU, zU, zU, zU, zU, zU, zU, zU, zU] [(.int (8 : Int32)), (.ref b1), (.ref b1)])) rfl (hb hby at_197) _ ?_
    refine st19 _ ?_
    refine XS.dup X19.here hx rfl (hb hby at_201) rfl rfl ?_
    show Steps p.tables e below (T19.setTop (mkF m 202 #[vJ qa, zS, vJ qb, zS, vI pa, vI pb, vJ hh, zS, vI sm, vJ mm, zS, vJ xx, zS, vR ee, vR ms, vR aP, vR aS, vI (1 : Int32), vJ mg, zS, vI (Int32.ofNat (SBG.digitsL nn)), zU, zU, zU, zU, zU, zU, zU, zU, zU, zU, zU] [(.ref b1), (.ref b1)])) _
    refine XS.bipush X19.here hx rfl (hb hby at_202) ?_
    refine X19.ldc2Long hx hown (mvT hZ (wd hw 260 rfl)) (g := (mkF m 204 #[vJ qa, zS, vJ qb, zS, vI pa, vI pb, vJ hh, zS, vI sm, vJ mm, zS, vJ xx, zS, vR ee, vR ms, vR aP, vR aS, vI (1 : Int32), vJ mg, zS, vI (Int32.ofNat (SBG.digitsL nn)), zU, zU, zU, zU, zU, zU, zU, zU, zU, zU, zU] [(.int (9 : Int32)), (.ref b1), (.ref b1)])) rfl (hb hby at_204) _ ?_
    refine st21 _ ?_
    refine XS.dup X21.here hx rfl (hb hby at_208) rfl rfl ?_
    show Steps p.tables e below (T21.setTop (mkF m 209 #[vJ qa, zS, vJ qb, zS, vI pa, vI pb, vJ hh, zS, vI sm, vJ mm, zS, vJ xx, zS, vR ee, vR ms, vR aP, vR aS, vI (1 : Int32), vJ mg, zS, vI (Int32.ofNat (SBG.digitsL nn)), zU, zU, zU, zU, zU, zU, zU, zU, zU, zU, zU] [(.ref b1), (.ref b1)])) _
    refine XS.bipush X21.here hx rfl (hb hby at_209) ?_
    refine X21.ldc2Long hx hown (mvT hZ (wd hw 261 rfl)) (g := (mkF m 211 #[vJ qa, zS, vJ qb, zS, vI pa, vI pb, vJ hh, zS, vI sm, vJ mm, zS, vJ xx, zS, vR ee, vR ms, vR aP, vR aS, vI (1 : Int32), vJ mg, zS, vI (Int32.ofNat (SBG.digitsL nn)), zU, zU, zU, zU, zU, zU, zU, zU, zU, zU, zU] [(.int (10 : Int32)), (.ref b1), (.ref b1)])) rfl (hb hby at_211) _ ?_
    refine st23 _ ?_
    refine XS.dup X23.here hx rfl (hb hby at_215) rfl rfl ?_
    show Steps p.tables e below (T23.setTop (mkF m 216 #[vJ qa, zS, vJ qb, zS, vI pa, vI pb, vJ hh, zS, vI sm, vJ mm, zS, vJ xx, zS, vR ee, vR ms, vR aP, vR aS, vI (1 : Int32), vJ mg, zS, vI (Int32.ofNat (SBG.digitsL nn)), zU, zU, zU, zU, zU, zU, zU, zU, zU, zU, zU] [(.ref b1), (.ref b1)])) _
    refine XS.bipush X23.here hx rfl (hb hby at_216) ?_
    refine X23.ldc2Long hx hown (mvT hZ (wd hw 262 rfl)) (g := (mkF m 218 #[vJ qa, zS, vJ qb, zS, vI pa, vI pb, vJ hh, zS, vI sm, vJ mm, zS, vJ xx, zS, vR ee, vR ms, vR aP, vR aS, vI (1 : Int32), vJ mg, zS, vI (Int32.ofNat (SBG.digitsL nn)), zU, zU, zU, zU, zU, zU, zU, zU, zU, zU, zU] [(.int (11 : Int32)), (.ref b1), (.ref b1)])) rfl (hb hby at_218) _ ?_
    refine st25 _ ?_
    refine XS.dup X25.here hx rfl (hb hby at_222) rfl rfl ?_
    show Steps p.tables e below (T25.setTop (mkF m 223 #[vJ qa, zS, vJ qb, zS, vI pa, vI pb, vJ hh, zS, vI sm, vJ mm, zS, vJ xx, zS, vR ee, vR ms, vR aP, vR aS, vI (1 : Int32), vJ mg, zS, vI (Int32.ofNat (SBG.digitsL nn)), zU, zU, zU, zU, zU, zU, zU, zU, zU, zU, zU] [(.ref b1), (.ref b1)])) _
    refine XS.bipush X25.here hx rfl (hb hby at_223) ?_
    refine X25.ldc2Long hx hown (mvT hZ (wd hw 263 rfl)) (g := (mkF m 225 #[vJ qa, zS, vJ qb, zS, vI pa, vI pb, vJ hh, zS, vI sm, vJ mm, zS, vJ xx, zS, vR ee, vR ms, vR aP, vR aS, vI (1 : Int32), vJ mg, zS, vI (Int32.ofNat (SBG.digitsL nn)), zU, zU, zU, zU, zU, zU, zU, zU, zU, zU, zU] [(.int (12 : Int32)), (.ref b1), (.ref b1)])) rfl (hb hby at_225) _ ?_
    refine st27 _ ?_
    refine XS.dup X27.here hx rfl (hb hby at_229) rfl rfl ?_
    show Steps p.tables e below (T27.setTop (mkF m 230 #[vJ qa, zS, vJ qb, zS, vI pa, vI pb, vJ hh, zS, vI sm, vJ mm, zS, vJ xx, zS, vR ee, vR ms, vR aP, vR aS, vI (1 : Int32), vJ mg, zS, vI (Int32.ofNat (SBG.digitsL nn)), zU, zU, zU, zU, zU, zU, zU, zU, zU, zU, zU] [(.ref b1), (.ref b1)])) _
    refine XS.bipush X27.here hx rfl (hb hby at_230) ?_
    refine X27.ldc2Long hx hown (mvT hZ (wd hw 264 rfl)) (g := (mkF m 232 #[vJ qa, zS, vJ qb, zS, vI pa, vI pb, vJ hh, zS, vI sm, vJ mm, zS, vJ xx, zS, vR ee, vR ms, vR aP, vR aS, vI (1 : Int32), vJ mg, zS, vI (Int32.ofNat (SBG.digitsL nn)), zU, zU, zU, zU, zU, zU, zU, zU, zU, zU, zU] [(.int (13 : Int32)), (.ref b1), (.ref b1)])) rfl (hb hby at_232) _ ?_
    refine st29 _ ?_
    refine XS.dup X29.here hx rfl (hb hby at_236) rfl rfl ?_
    show Steps p.tables e below (T29.setTop (mkF m 237 #[vJ qa, zS, vJ qb, zS, vI pa, vI pb, vJ hh, zS, vI sm, vJ mm, zS, vJ xx, zS, vR ee, vR ms, vR aP, vR aS, vI (1 : Int32), vJ mg, zS, vI (Int32.ofNat (SBG.digitsL nn)), zU, zU, zU, zU, zU, zU, zU, zU, zU, zU, zU] [(.ref b1), (.ref b1)])) _
    refine XS.bipush X29.here hx rfl (hb hby at_237) ?_
    refine X29.ldc2Long hx hown (mvT hZ (wd hw 265 rfl)) (g := (mkF m 239 #[vJ qa, zS, vJ qb, zS, vI pa, vI pb, vJ hh, zS, vI sm, vJ mm, zS, vJ xx, zS, vR ee, vR ms, vR aP, vR aS, vI (1 : Int32), vJ mg, zS, vI (Int32.ofNat (SBG.digitsL nn)), zU, zU, zU, zU, zU, zU, zU, zU, zU, zU, zU] [(.int (14 : Int32)), (.ref b1), (.ref b1)])) rfl (hb hby at_239) _ ?_
    refine st31 _ ?_
    refine XS.dup X31.here hx rfl (hb hby at_243) rfl rfl ?_
    show Steps p.tables e below (T31.setTop (mkF m 244 #[vJ qa, zS, vJ qb, zS, vI pa, vI pb, vJ hh, zS, vI sm, vJ mm, zS, vJ xx, zS, vR ee, vR ms, vR aP, vR aS, vI (1 : Int32), vJ mg, zS, vI (Int32.ofNat (SBG.digitsL nn)), zU, zU, zU, zU, zU, zU, zU, zU, zU, zU, zU] [(.ref b1), (.ref b1)])) _
    refine XS.bipush X31.here hx rfl (hb hby at_244) ?_
    refine X31.ldc2Long hx hown (mvT hZ (wd hw 266 rfl)) (g := (mkF m 246 #[vJ qa, zS, vJ qb, zS, vI pa, vI pb, vJ hh, zS, vI sm, vJ mm, zS, vJ xx, zS, vR ee, vR ms, vR aP, vR aS, vI (1 : Int32), vJ mg, zS, vI (Int32.ofNat (SBG.digitsL nn)), zU, zU, zU, zU, zU, zU, zU, zU, zU, zU, zU] [(.int (15 : Int32)), (.ref b1), (.ref b1)])) rfl (hb hby at_246) _ ?_
    refine st33 _ ?_
    refine XS.dup X33.here hx rfl (hb hby at_250) rfl rfl ?_
    show Steps p.tables e below (T33.setTop (mkF m 251 #[vJ qa, zS, vJ qb, zS, vI pa, vI pb, vJ hh, zS, vI sm, vJ mm, zS, vJ xx, zS, vR ee, vR ms, vR aP, vR aS, vI (1 : Int32), vJ mg, zS, vI (Int32.ofNat (SBG.digitsL nn)), zU, zU, zU, zU, zU, zU, zU, zU, zU, zU, zU] [(.ref b1), (.ref b1)])) _
    refine XS.bipush X33.here hx rfl (hb hby at_251) ?_
    refine X33.ldc2Long hx hown (mvT hZ (wd hw 267 rfl)) (g := (mkF m 253 #[vJ qa, zS, vJ qb, zS, vI pa, vI pb, vJ hh, zS, vI sm, vJ mm, zS, vJ xx, zS, vR ee, vR ms, vR aP, vR aS, vI (1 : Int32), vJ mg, zS, vI (Int32.ofNat (SBG.digitsL nn)), zU, zU, zU, zU, zU, zU, zU, zU, zU, zU, zU] [(.int (16 : Int32)), (.ref b1), (.ref b1)])) rfl (hb hby at_253) _ ?_
    refine st35 _ ?_
    refine XS.dup X35.here hx rfl (hb hby at_257) rfl rfl ?_
    show Steps p.tables e below (T35.setTop (mkF m 258 #[vJ qa, zS, vJ qb, zS, vI pa, vI pb, vJ hh, zS, vI sm, vJ mm, zS, vJ xx, zS, vR ee, vR ms, vR aP, vR aS, vI (1 : Int32), vJ mg, zS, vI (Int32.ofNat (SBG.digitsL nn)), zU, zU, zU, zU, zU, zU, zU, zU, zU, zU, zU] [(.ref b1), (.ref b1)])) _
    refine XS.bipush X35.here hx rfl (hb hby at_258) ?_
    refine X35.ldc2Long hx hown (mvT hZ (wd hw 268 rfl)) (g := (mkF m 260 #[vJ qa, zS, vJ qb, zS, vI pa, vI pb, vJ hh, zS, vI sm, vJ mm, zS, vJ xx, zS, vR ee, vR ms, vR aP, vR aS, vI (1 : Int32), vJ mg, zS, vI (Int32.ofNat (SBG.digitsL nn)), zU, zU, zU, zU, zU, zU, zU, zU, zU, zU, zU] [(.int (17 : Int32)), (.ref b1), (.ref b1)])) rfl (hb hby at_260) _ ?_
    refine st37 _ ?_
    refine XS.dup X37.here hx rfl (hb hby at_264) rfl rfl ?_
    show Steps p.tables e below (T37.setTop (mkF m 265 #[vJ qa, zS, vJ qb, zS, vI pa, vI pb, vJ hh, zS, vI sm, vJ mm, zS, vJ xx, zS, vR ee, vR ms, vR aP, vR aS, vI (1 : Int32), vJ mg, zS, vI (Int32.ofNat (SBG.digitsL nn)), zU, zU, zU, zU, zU, zU, zU, zU, zU, zU, zU] [(.ref b1), (.ref b1)])) _
    refine XS.bipush X37.here hx rfl (hb hby at_265) ?_
    refine X37.ldc2Long hx hown (mvT hZ (wd hw 269 rfl)) (g := (mkF m 267 #[vJ qa, zS, vJ qb, zS, vI pa, vI pb, vJ hh, zS, vI sm, vJ mm, zS, vJ xx, zS, vR ee, vR ms, vR aP, vR aS, vI (1 : Int32), vJ mg, zS, vI (Int32.ofNat (SBG.digitsL nn)), zU, zU, zU, zU, zU, zU, zU, zU, zU, zU, zU] [(.int (18 : Int32)), (.ref b1), (.ref b1)])) rfl (hb hby at_267) _ ?_
    refine st39 _ ?_
    refine XS.astore X39.here hx rfl (hb hby at_271) rfl rfl (l' := #[vJ qa, zS, vJ qb, zS, vI pa, vI pb, vJ hh, zS, vI sm, vJ mm, zS, vJ xx, zS, vR ee, vR ms, vR aP, vR aS, vI (1 : Int32), vJ mg, zS, vI (Int32.ofNat (SBG.digitsL nn)), vR b1, zU, zU, zU, zU, zU, zU, zU, zU, zU, zU]) rfl ?_
    show Steps p.tables e below (T39.setTop (mkF m 273 #[vJ qa, zS, vJ qb, zS, vI pa, vI pb, vJ hh, zS, vI sm, vJ mm, zS, vJ xx, zS, vR ee, vR ms, vR aP, vR aS, vI (1 : Int32), vJ mg, zS, vI (Int32.ofNat (SBG.digitsL nn)), vR b1, zU, zU, zU, zU, zU, zU, zU, zU, zU, zU] [])) _
    refine XS.aload X39.here hx rfl (hb hby at_273) rfl rfl ?_
    refine st40.trans ?_
    refine XS.istore X40.here hx rfl (hb hby at_278) rfl (l' := #[vJ qa, zS, vJ qb, zS, vI pa, vI pb, vJ hh, zS, vI sm, vJ mm, zS, vJ xx, zS, vR ee, vR ms, vR aP, vR aS, vI (1 : Int32), vJ mg, zS, vI (Int32.ofNat (SBG.digitsL nn)), vR b1, vI (Int32.ofNat 59), zU, zU, zU, zU, zU, zU, zU, zU, zU]) rfl ?_
    refine XS.iload X40.here hx rfl (hb hby at_280) rfl ?_
    show Steps p.tables e below (T40.setTop (mkF m 282 #[vJ qa, zS, vJ qb, zS, vI pa, vI pb, vJ hh, zS, vI sm, vJ mm, zS, vJ xx, zS, vR ee, vR ms, vR aP, vR aS, vI (1 : Int32), vJ mg, zS, vI (Int32.ofNat (SBG.digitsL nn)), vR b1, vI (Int32.ofNat 59), zU, zU, zU, zU, zU, zU, zU, zU, zU] [(.int (Int32.ofNat (SBG.digitsL nn)))])) _
    refine XS.iload X40.here hx rfl (hb hby at_282) rfl ?_
    refine XS.ifNo X40.here hx rfl (hb hby at_284) rfl ((if0 _ _).trans (feq (by decide : ¬ ((1 : Int32) = (0 : Int32)))).1) ?_
    refine XS.iconst X40.here hx rfl (hb hby at_287) ?_
    refine XS.goto X40.here hx rfl (pc0 := 288) (pc' := 292) rfl (hb hby at_288) (by decide) (by decide) ?_
    show Steps p.tables e below (T40.setTop (mkF m 292 #[vJ qa, zS, vJ qb, zS, vI pa, vI pb, vJ hh, zS, vI sm, vJ mm, zS, vJ xx, zS, vR ee, vR ms, vR aP, vR aS, vI (1 : Int32), vJ mg, zS, vI (Int32.ofNat (SBG.digitsL nn)), vR b1, vI (Int32.ofNat 59), zU, zU, zU, zU, zU, zU, zU, zU, zU] [(.int (1 : Int32)), (.int (Int32.ofNat (SBG.digitsL nn)))])) _
    refine XS.iadd X40.here hx rfl (hb hby at_292) rfl ?_
    show Steps p.tables e below (T40.setTop (mkF m 293 #[vJ qa, zS, vJ qb, zS, vI pa, vI pb, vJ hh, zS, vI sm, vJ mm, zS, vJ xx, zS, vR ee, vR ms, vR aP, vR aS, vI (1 : Int32), vJ mg, zS, vI (Int32.ofNat (SBG.digitsL nn)), vR b1, vI (Int32.ofNat 59), zU, zU, zU, zU, zU, zU, zU, zU, zU] [(.int ((Int32.ofNat (SBG.digitsL nn)) + (1 : Int32)))])) _
    rw [show Int32.ofNat (SBG.digitsL nn) + (1 : Int32) = Int32.ofNat sz from by rw [← hsz, hsg]; exact own_oneI _]
    refine XS.istore X40.here hx rfl (hb hby at_293) rfl (l' := #[vJ qa, zS, vJ qb, zS, vI pa, vI pb, vJ hh, zS, vI sm, vJ mm, zS, vJ xx, zS, vR ee, vR ms, vR aP, vR aS, vI (1 : Int32), vJ mg, zS, vI (Int32.ofNat (SBG.digitsL nn)), vR b1, vI (Int32.ofNat 59), vI (Int32.ofNat sz), zU, zU, zU, zU, zU, zU, zU, zU]) rfl ?_
    refine XS.aload X40.here hx rfl (hb hby at_295) rfl rfl ?_
    refine st42.trans ?_
    show Steps p.tables e below (T42.setTop (mkF m 300 #[vJ qa, zS, vJ qb, zS, vI pa, vI pb, vJ hh, zS, vI sm, vJ mm, zS, vJ xx, zS, vR ee, vR ms, vR aP, vR aS, vI (1 : Int32), vJ mg, zS, vI (Int32.ofNat (SBG.digitsL nn)), vR b1, vI (Int32.ofNat 59), vI (Int32.ofNat sz), zU, zU, zU, zU, zU, zU, zU, zU] [(.int (Int32.ofNat (59 + sz + 33)))])) _
    refine XS.iload X42.here hx rfl (hb hby at_300) rfl ?_
    refine XS.iload X42.here hx rfl (hb hby at_302) rfl ?_
    refine XS.iadd X42.here hx rfl (hb hby at_304) rfl ?_
    show Steps p.tables e below (T42.setTop (mkF m 305 #[vJ qa, zS, vJ qb, zS, vI pa, vI pb, vJ hh, zS, vI sm, vJ mm, zS, vJ xx, zS, vR ee, vR ms, vR aP, vR aS, vI (1 : Int32), vJ mg, zS, vI (Int32.ofNat (SBG.digitsL nn)), vR b1, vI (Int32.ofNat 59), vI (Int32.ofNat sz), zU, zU, zU, zU, zU, zU, zU, zU] [(.int ((Int32.ofNat 59) + (Int32.ofNat sz))), (.int (Int32.ofNat (59 + sz + 33)))])) _
    rw [own_addN]
    refine XS.aload X42.here hx rfl (hb hby at_305) rfl rfl ?_
    show Steps p.tables e below (T42.setTop (mkF m 307 #[vJ qa, zS, vJ qb, zS, vI pa, vI pb, vJ hh, zS, vI sm, vJ mm, zS, vJ xx, zS, vR ee, vR ms, vR aP, vR aS, vI (1 : Int32), vJ mg, zS, vI (Int32.ofNat (SBG.digitsL nn)), vR b1, vI (Int32.ofNat 59), vI (Int32.ofNat sz), zU, zU, zU, zU, zU, zU, zU, zU] [(.ref aS), (.int (Int32.ofNat (59 + sz))), (.int (Int32.ofNat (59 + sz + 33)))])) _
    refine st44.trans ?_
    refine XS.iadd X44.here hx rfl (hb hby at_310) rfl ?_
    show Steps p.tables e below (T44.setTop (mkF m 311 #[vJ qa, zS, vJ qb, zS, vI pa, vI pb, vJ hh, zS, vI sm, vJ mm, zS, vJ xx, zS, vR ee, vR ms, vR aP, vR aS, vI (1 : Int32), vJ mg, zS, vI (Int32.ofNat (SBG.digitsL nn)), vR b1, vI (Int32.ofNat 59), vI (Int32.ofNat sz), zU, zU, zU, zU, zU, zU, zU, zU] [(.int ((Int32.ofNat (59 + sz)) + (Int32.ofNat 33))), (.int (Int32.ofNat (59 + sz + 33)))])) _
    rw [own_addN]
    refine XS.icmpYes X44.here hx rfl (pc0 := 311) (pc' := 316) rfl (hb hby at_311) rfl (teq rfl).1 (by decide) (by decide) ?_
    refine XS.iload X44.here hx rfl (hb hby at_316) rfl ?_
    show Steps p.tables e below (T44.setTop (mkF m 318 #[vJ qa, zS, vJ qb, zS, vI pa, vI pb, vJ hh, zS, vI sm, vJ mm, zS, vJ xx, zS, vR ee, vR ms, vR aP, vR aS, vI (1 : Int32), vJ mg, zS, vI (Int32.ofNat (SBG.digitsL nn)), vR b1, vI (Int32.ofNat 59), vI (Int32.ofNat sz), zU, zU, zU, zU, zU, zU, zU, zU] [(.int (1 : Int32))])) _
    refine XS.ifNo X44.here hx rfl (hb hby at_318) rfl ((if0 _ _).trans (feq (by decide : ¬ ((1 : Int32) = (0 : Int32)))).1) ?_
    refine XS.aload X44.here hx rfl (hb hby at_321) rfl rfl ?_
    refine XS.iload X44.here hx rfl (hb hby at_323) rfl ?_
    refine st46.trans ?_
    show Steps p.tables e below (T46.setTop (mkF m 328 #[vJ qa, zS, vJ qb, zS, vI pa, vI pb, vJ hh, zS, vI sm, vJ mm, zS, vJ xx, zS, vR ee, vR ms, vR aP, vR aS, vI (1 : Int32), vJ mg, zS, vI (Int32.ofNat (SBG.digitsL nn)), vR b1, vI (Int32.ofNat 59), vI (Int32.ofNat sz), zU, zU, zU, zU, zU, zU, zU, zU] [(.int (Int32.ofNat (txt xx nn sz 59)))])) _
    refine XS.bipush X46.here hx rfl (hb hby at_328) ?_
    refine XS.icmpYes X46.here hx rfl (pc0 := 330) (pc' := 335) rfl (hb hby at_330) rfl (teq (by rw [own_tN hsz hng]; rfl)).1 (by decide) (by decide) ?_
    refine XS.bipush X46.here hx rfl (hb hby at_335) ?_
    refine XS.lload X46.here hx rfl (hb hby at_337) rfl ?_
    show Steps p.tables e below (T46.setTop (mkF m 339 #[vJ qa, zS, vJ qb, zS, vI pa, vI pb, vJ hh, zS, vI sm, vJ mm, zS, vJ xx, zS, vR ee, vR ms, vR aP, vR aS, vI (1 : Int32), vJ mg, zS, vI (Int32.ofNat (SBG.digitsL nn)), vR b1, vI (Int32.ofNat 59), vI (Int32.ofNat sz), zU, zU, zU, zU, zU, zU, zU, zU] [(.long mg), (.int (48 : Int32))])) _
    refine XS.aload X46.here hx rfl (hb hby at_339) rfl rfl ?_
    refine XS.iload X46.here hx rfl (hb hby at_341) rfl ?_
    refine XS.iconst X46.here hx rfl (hb hby at_343) ?_
    refine XS.isub X46.here hx rfl (hb hby at_344) rfl ?_
    show Steps p.tables e below (T46.setTop (mkF m 345 #[vJ qa, zS, vJ qb, zS, vI pa, vI pb, vJ hh, zS, vI sm, vJ mm, zS, vJ xx, zS, vR ee, vR ms, vR aP, vR aS, vI (1 : Int32), vJ mg, zS, vI (Int32.ofNat (SBG.digitsL nn)), vR b1, vI (Int32.ofNat 59), vI (Int32.ofNat sz), zU, zU, zU, zU, zU, zU, zU, zU] [(.int ((Int32.ofNat (SBG.digitsL nn)) - (1 : Int32))), (.ref b1), (.long mg), (.int (48 : Int32))])) _
    rw [show Int32.ofNat (SBG.digitsL nn) - (1 : Int32) = Int32.ofNat (SBG.digitsL nn - 1) from own_subN (j := 1) (by omega) (by omega)]
    show Steps p.tables e below (T46.setTop (mkF m 345 #[vJ qa, zS, vJ qb, zS, vI pa, vI pb, vJ hh, zS, vI sm, vJ mm, zS, vJ xx, zS, vR ee, vR ms, vR aP, vR aS, vI (1 : Int32), vJ mg, zS, vI (Int32.ofNat (SBG.digitsL nn)), vR b1, vI (Int32.ofNat 59), vI (Int32.ofNat sz), zU, zU, zU, zU, zU, zU, zU, zU] [(.int (Int32.ofNat (SBG.digitsL nn - 1))), (.ref b1), (.long mg), (.int (48 : Int32))])) _
    refine X46.laload hx (j := (Int32.ofNat (SBG.digitsL nn - 1))) (v := (.long (Int64.ofNat (10 ^ (SBG.digitsL nn - 1))))) (by rw [e46]; exact Ar47.1) (State.isArrayOf_alike hZ.alike Ar47.2.1) Ar47.2.2 hin47 hat47 (g := (mkF m 345 #[vJ qa, zS, vJ qb, zS, vI pa, vI pb, vJ hh, zS, vI sm, vJ mm, zS, vJ xx, zS, vR ee, vR ms, vR aP, vR aS, vI (1 : Int32), vJ mg, zS, vI (Int32.ofNat (SBG.digitsL nn)), vR b1, vI (Int32.ofNat 59), vI (Int32.ofNat sz), zU, zU, zU, zU, zU, zU, zU, zU] [(.int (Int32.ofNat (SBG.digitsL nn - 1))), (.ref b1), (.long mg), (.int (48 : Int32))])) rfl rfl (hb hby at_345) _ ?_
    refine XS.ldiv X46.here hx rfl (hb hby at_346) rfl (own_pnz (by omega)) ?_
    refine XS.l2i X46.here hx rfl (hb hby at_347) rfl ?_
    refine XS.iadd X46.here hx rfl (hb hby at_348) rfl ?_
    show Steps p.tables e below (T46.setTop (mkF m 349 #[vJ qa, zS, vJ qb, zS, vI pa, vI pb, vJ hh, zS, vI sm, vJ mm, zS, vJ xx, zS, vR ee, vR ms, vR aP, vR aS, vI (1 : Int32), vJ mg, zS, vI (Int32.ofNat (SBG.digitsL nn)), vR b1, vI (Int32.ofNat 59), vI (Int32.ofNat sz), zU, zU, zU, zU, zU, zU, zU, zU] [(.int ((48 : Int32) + ((mg / (Int64.ofNat (10 ^ (SBG.digitsL nn - 1)))).toInt32)))])) _
    refine XS.i2c X46.here hx rfl (hb hby at_349) rfl ?_
    show Steps p.tables e below (T46.setTop (mkF m 350 #[vJ qa, zS, vJ qb, zS, vI pa, vI pb, vJ hh, zS, vI sm, vJ mm, zS, vJ xx, zS, vR ee, vR ms, vR aP, vR aS, vI (1 : Int32), vJ mg, zS, vI (Int32.ofNat (SBG.digitsL nn)), vR b1, vI (Int32.ofNat 59), vI (Int32.ofNat sz), zU, zU, zU, zU, zU, zU, zU, zU] [(.int (((48 : Int32) + ((mg / (Int64.ofNat (10 ^ (SBG.digitsL nn - 1)))).toInt32)).toUInt32.toUInt16.toUInt32.toInt32))])) _
    rw [own_q10 hmg hn18 (by omega) (own_fd hnn)]
    refine XS.istore X46.here hx rfl (hb hby at_350) rfl (l' := #[vJ qa, zS, vJ qb, zS, vI pa, vI pb, vJ hh, zS, vI sm, vJ mm, zS, vJ xx, zS, vR ee, vR ms, vR aP, vR aS, vI (1 : Int32), vJ mg, zS, vI (Int32.ofNat (SBG.digitsL nn)), vR b1, vI (Int32.ofNat 59), vI (Int32.ofNat sz), vI (Int32.ofNat (48 + nn / 10 ^ (SBG.digitsL nn - 1))), zU, zU, zU, zU, zU, zU, zU]) rfl ?_
    refine XS.aload X46.here hx rfl (hb hby at_352) rfl rfl ?_
    refine XS.iload X46.here hx rfl (hb hby at_354) rfl ?_
    show Steps p.tables e below (T46.setTop (mkF m 356 #[vJ qa, zS, vJ qb, zS, vI pa, vI pb, vJ hh, zS, vI sm, vJ mm, zS, vJ xx, zS, vR ee, vR ms, vR aP, vR aS, vI (1 : Int32), vJ mg, zS, vI (Int32.ofNat (SBG.digitsL nn)), vR b1, vI (Int32.ofNat 59), vI (Int32.ofNat sz), vI (Int32.ofNat (48 + nn / 10 ^ (SBG.digitsL nn - 1))), zU, zU, zU, zU, zU, zU, zU] [(.int (Int32.ofNat 59)), (.ref ms)])) _
    refine XS.iload X46.here hx rfl (hb hby at_356) rfl ?_
    refine XS.ifNo X46.here hx rfl (hb hby at_358) rfl ((if0 _ _).trans (feq (by decide : ¬ ((1 : Int32) = (0 : Int32)))).1) ?_
    refine XS.iconst X46.here hx rfl (hb hby at_361) ?_
    refine XS.goto X46.here hx rfl (pc0 := 362) (pc' := 366) rfl (hb hby at_362) (by decide) (by decide) ?_
    show Steps p.tables e below (T46.setTop (mkF m 366 #[vJ qa, zS, vJ qb, zS, vI pa, vI pb, vJ hh, zS, vI sm, vJ mm, zS, vJ xx, zS, vR ee, vR ms, vR aP, vR aS, vI (1 : Int32), vJ mg, zS, vI (Int32.ofNat (SBG.digitsL nn)), vR b1, vI (Int32.ofNat 59), vI (Int32.ofNat sz), vI (Int32.ofNat (48 + nn / 10 ^ (SBG.digitsL nn - 1))), zU, zU, zU, zU, zU, zU, zU] [(.int (1 : Int32)), (.int (Int32.ofNat 59)), (.ref ms)])) _
    refine XS.iadd X46.here hx rfl (hb hby at_366) rfl ?_
    show Steps p.tables e below (T46.setTop (mkF m 367 #[vJ qa, zS, vJ qb, zS, vI pa, vI pb, vJ hh, zS, vI sm, vJ mm, zS, vJ xx, zS, vR ee, vR ms, vR aP, vR aS, vI (1 : Int32), vJ mg, zS, vI (Int32.ofNat (SBG.digitsL nn)), vR b1, vI (Int32.ofNat 59), vI (Int32.ofNat sz), vI (Int32.ofNat (48 + nn / 10 ^ (SBG.digitsL nn - 1))), zU, zU, zU, zU, zU, zU, zU] [(.int ((Int32.ofNat 59) + (1 : Int32))), (.ref ms)])) _
    rw [show Int32.ofNat 59 + (1 : Int32) = Int32.ofNat (59 + 1) from own_addN 59 1]
    refine st48.trans ?_
    refine XS.iload X48.here hx rfl (hb hby at_370) rfl ?_
    refine XS.icmpYes X48.here hx rfl (pc0 := 372) (pc' := 377) rfl (hb hby at_372) rfl (teq (by rw [show 59 + 1 = 59 + SBG.GetCharsL.sgnL xx from by rw [hsg], own_tF hnn hsz])).1 (by decide) (by decide) ?_
    show Steps p.tables e below (T48.setTop (mkF m 377 #[vJ qa, zS, vJ qb, zS, vI pa, vI pb, vJ hh, zS, vI sm, vJ mm, zS, vJ xx, zS, vR ee, vR ms, vR aP, vR aS, vI (1 : Int32), vJ mg, zS, vI (Int32.ofNat (SBG.digitsL nn)), vR b1, vI (Int32.ofNat 59), vI (Int32.ofNat sz), vI (Int32.ofNat (48 + nn / 10 ^ (SBG.digitsL nn - 1))), zU, zU, zU, zU, zU, zU, zU] [])) _
    refine XS.bipush X48.here hx rfl (hb hby at_377) ?_
    refine XS.lload X48.here hx rfl (hb hby at_379) rfl ?_
    refine X48.ldc2Long hx hown (mvT hZ (wd hw 251 rfl)) (g := (mkF m 381 #[vJ qa, zS, vJ qb, zS, vI pa, vI pb, vJ hh, zS, vI sm, vJ mm, zS, vJ xx, zS, vR ee, vR ms, vR aP, vR aS, vI (1 : Int32), vJ mg, zS, vI (Int32.ofNat (SBG.digitsL nn)), vR b1, vI (Int32.ofNat 59), vI (Int32.ofNat sz), vI (Int32.ofNat (48 + nn / 10 ^ (SBG.digitsL nn - 1))), zU, zU, zU, zU, zU, zU, zU] [(.long mg), (.int (48 : Int32))])) rfl (hb hby at_381) _ ?_
    refine XS.lrem X48.here hx rfl (hb hby at_384) rfl (by decide) ?_
    show Steps p.tables e below (T48.setTop (mkF m 385 #[vJ qa, zS, vJ qb, zS, vI pa, vI pb, vJ hh, zS, vI sm, vJ mm, zS, vJ xx, zS, vR ee, vR ms, vR aP, vR aS, vI (1 : Int32), vJ mg, zS, vI (Int32.ofNat (SBG.digitsL nn)), vR b1, vI (Int32.ofNat 59), vI (Int32.ofNat sz), vI (Int32.ofNat (48 + nn / 10 ^ (SBG.digitsL nn - 1))), zU, zU, zU, zU, zU, zU, zU] [(.long (mg - (mg / (10 : Int64)) * (10 : Int64))), (.int (48 : Int32))])) _
    refine XS.l2i X48.here hx rfl (hb hby at_385) rfl ?_
    refine XS.iadd X48.here hx rfl (hb hby at_386) rfl ?_
    refine XS.i2c X48.here hx rfl (hb hby at_387) rfl ?_
    show Steps p.tables e below (T48.setTop (mkF m 388 #[vJ qa, zS, vJ qb, zS, vI pa, vI pb, vJ hh, zS, vI sm, vJ mm, zS, vJ xx, zS, vR ee, vR ms, vR aP, vR aS, vI (1 : Int32), vJ mg, zS, vI (Int32.ofNat (SBG.digitsL nn)), vR b1, vI (Int32.ofNat 59), vI (Int32.ofNat sz), vI (Int32.ofNat (48 + nn / 10 ^ (SBG.digitsL nn - 1))), zU, zU, zU, zU, zU, zU, zU] [(.int (((48 : Int32) + ((mg - (mg / (10 : Int64)) * (10 : Int64)).toInt32)).toUInt32.toUInt16.toUInt32.toInt32))])) _
    rw [own_r10 hmg hn18]
    refine XS.istore X48.here hx rfl (hb hby at_388) rfl (l' := #[vJ qa, zS, vJ qb, zS, vI pa, vI pb, vJ hh, zS, vI sm, vJ mm, zS, vJ xx, zS, vR ee, vR ms, vR aP, vR aS, vI (1 : Int32), vJ mg, zS, vI (Int32.ofNat (SBG.digitsL nn)), vR b1, vI (Int32.ofNat 59), vI (Int32.ofNat sz), vI (Int32.ofNat (48 + nn / 10 ^ (SBG.digitsL nn - 1))), vI (Int32.ofNat (48 + nn % 10)), zU, zU, zU, zU, zU, zU]) rfl ?_
    show Steps p.tables e below (T48.setTop (mkF m 390 #[vJ qa, zS, vJ qb, zS, vI pa, vI pb, vJ hh, zS, vI sm, vJ mm, zS, vJ xx, zS, vR ee, vR ms, vR aP, vR aS, vI (1 : Int32), vJ mg, zS, vI (Int32.ofNat (SBG.digitsL nn)), vR b1, vI (Int32.ofNat 59), vI (Int32.ofNat sz), vI (Int32.ofNat (48 + nn / 10 ^ (SBG.digitsL nn - 1))), vI (Int32.ofNat (48 + nn % 10)), zU, zU, zU, zU, zU, zU] [])) _
    refine XS.aload X48.here hx rfl (hb hby at_390) rfl rfl ?_
    refine XS.iload X48.here hx rfl (hb hby at_392) rfl ?_
    refine XS.iload X48.here hx rfl (hb hby at_394) rfl ?_
    refine XS.iadd X48.here hx rfl (hb hby at_396) rfl ?_
    show Steps p.tables e below (T48.setTop (mkF m 397 #[vJ qa, zS, vJ qb, zS, vI pa, vI pb, vJ hh, zS, vI sm, vJ mm, zS, vJ xx, zS, vR ee, vR ms, vR aP, vR aS, vI (1 : Int32), vJ mg, zS, vI (Int32.ofNat (SBG.digitsL nn)), vR b1, vI (Int32.ofNat 59), vI (Int32.ofNat sz), vI (Int32.ofNat (48 + nn / 10 ^ (SBG.digitsL nn - 1))), vI (Int32.ofNat (48 + nn % 10)), zU, zU, zU, zU, zU, zU] [(.int ((Int32.ofNat 59) + (Int32.ofNat sz))), (.ref ms)])) _
    rw [own_addN]
    show Steps p.tables e below (T48.setTop (mkF m 397 #[vJ qa, zS, vJ qb, zS, vI pa, vI pb, vJ hh, zS, vI sm, vJ mm, zS, vJ xx, zS, vR ee, vR ms, vR aP, vR aS, vI (1 : Int32), vJ mg, zS, vI (Int32.ofNat (SBG.digitsL nn)), vR b1, vI (Int32.ofNat 59), vI (Int32.ofNat sz), vI (Int32.ofNat (48 + nn / 10 ^ (SBG.digitsL nn - 1))), vI (Int32.ofNat (48 + nn % 10)), zU, zU, zU, zU, zU, zU] [(.int (Int32.ofNat (59 + sz))), (.ref ms)])) _
    refine XS.iconst X48.here hx rfl (hb hby at_397) ?_
    refine XS.isub X48.here hx rfl (hb hby at_398) rfl ?_
    show Steps p.tables e below (T48.setTop (mkF m 399 #[vJ qa, zS, vJ qb, zS, vI pa, vI pb, vJ hh, zS, vI sm, vJ mm, zS, vJ xx, zS, vR ee, vR ms, vR aP, vR aS, vI (1 : Int32), vJ mg, zS, vI (Int32.ofNat (SBG.digitsL nn)), vR b1, vI (Int32.ofNat 59), vI (Int32.ofNat sz), vI (Int32.ofNat (48 + nn / 10 ^ (SBG.digitsL nn - 1))), vI (Int32.ofNat (48 + nn % 10)), zU, zU, zU, zU, zU, zU] [(.int ((Int32.ofNat (59 + sz)) - (1 : Int32))), (.ref ms)])) _
    rw [show Int32.ofNat (59 + sz) - (1 : Int32) = Int32.ofNat (59 + sz - 1) from own_subN (j := 1) (by omega) (by omega)]
    refine st49.trans ?_
    refine XS.iload X49.here hx rfl (hb hby at_402) rfl ?_
    show Steps p.tables e below (T49.setTop (mkF m 404 #[vJ qa, zS, vJ qb, zS, vI pa, vI pb, vJ hh, zS, vI sm, vJ mm, zS, vJ xx, zS, vR ee, vR ms, vR aP, vR aS, vI (1 : Int32), vJ mg, zS, vI (Int32.ofNat (SBG.digitsL nn)), vR b1, vI (Int32.ofNat 59), vI (Int32.ofNat sz), vI (Int32.ofNat (48 + nn / 10 ^ (SBG.digitsL nn - 1))), vI (Int32.ofNat (48 + nn % 10)), zU, zU, zU, zU, zU, zU] [(.int (Int32.ofNat (48 + nn % 10))), (.int (Int32.ofNat (txt xx nn sz (59 + sz - 1))))])) _
    refine XS.icmpYes X49.here hx rfl (pc0 := 404) (pc' := 409) rfl (hb hby at_404) rfl (teq (by rw [own_tL hsz])).1 (by decide) (by decide) ?_
    refine XS.aload X49.here hx rfl (hb hby at_409) rfl rfl ?_
    refine XS.iconst X49.here hx rfl (hb hby at_411) ?_
    refine st50.trans ?_
    show Steps p.tables e below (T50.setTop (mkF m 415 #[vJ qa, zS, vJ qb, zS, vI pa, vI pb, vJ hh, zS, vI sm, vJ mm, zS, vJ xx, zS, vR ee, vR ms, vR aP, vR aS, vI (1 : Int32), vJ mg, zS, vI (Int32.ofNat (SBG.digitsL nn)), vR b1, vI (Int32.ofNat 59), vI (Int32.ofNat sz), vI (Int32.ofNat (48 + nn / 10 ^ (SBG.digitsL nn - 1))), vI (Int32.ofNat (48 + nn % 10)), zU, zU, zU, zU, zU, zU] [(.int (Int32.ofNat (txt xx nn sz 0)))])) _
    refine XS.bipush X50.here hx rfl (hb hby at_415) ?_
    refine XS.icmpNo X50.here hx rfl (hb hby at_417) rfl (teq (by rw [own_t0 hsz]; rfl)).2 ?_
    refine XS.aload X50.here hx rfl (hb hby at_420) rfl rfl ?_
    refine XS.iload X50.here hx rfl (hb hby at_422) rfl ?_
    show Steps p.tables e below (T50.setTop (mkF m 424 #[vJ qa, zS, vJ qb, zS, vI pa, vI pb, vJ hh, zS, vI sm, vJ mm, zS, vJ xx, zS, vR ee, vR ms, vR aP, vR aS, vI (1 : Int32), vJ mg, zS, vI (Int32.ofNat (SBG.digitsL nn)), vR b1, vI (Int32.ofNat 59), vI (Int32.ofNat sz), vI (Int32.ofNat (48 + nn / 10 ^ (SBG.digitsL nn - 1))), vI (Int32.ofNat (48 + nn % 10)), zU, zU, zU, zU, zU, zU] [(.int (Int32.ofNat 59)), (.ref ms)])) _
    refine XS.iconst X50.here hx rfl (hb hby at_424) ?_
    refine XS.isub X50.here hx rfl (hb hby at_425) rfl ?_
    show Steps p.tables e below (T50.setTop (mkF m 426 #[vJ qa, zS, vJ qb, zS, vI pa, vI pb, vJ hh, zS, vI sm, vJ mm, zS, vJ xx, zS, vR ee, vR ms, vR aP, vR aS, vI (1 : Int32), vJ mg, zS, vI (Int32.ofNat (SBG.digitsL nn)), vR b1, vI (Int32.ofNat 59), vI (Int32.ofNat sz), vI (Int32.ofNat (48 + nn / 10 ^ (SBG.digitsL nn - 1))), vI (Int32.ofNat (48 + nn % 10)), zU, zU, zU, zU, zU, zU] [(.int ((Int32.ofNat 59) - (1 : Int32))), (.ref ms)])) _
    rw [show Int32.ofNat (59) - (1 : Int32) = Int32.ofNat (59 - 1) from own_subN (j := 1) (by omega) (by omega)]
    refine st51.trans ?_
    refine XS.bipush X51.here hx rfl (hb hby at_429) ?_
    show Steps p.tables e below (T51.setTop (mkF m 431 #[vJ qa, zS, vJ qb, zS, vI pa, vI pb, vJ hh, zS, vI sm, vJ mm, zS, vJ xx, zS, vR ee, vR ms, vR aP, vR aS, vI (1 : Int32), vJ mg, zS, vI (Int32.ofNat (SBG.digitsL nn)), vR b1, vI (Int32.ofNat 59), vI (Int32.ofNat sz), vI (Int32.ofNat (48 + nn / 10 ^ (SBG.digitsL nn - 1))), vI (Int32.ofNat (48 + nn % 10)), zU, zU, zU, zU, zU, zU] [(.int (32 : Int32)), (.int (Int32.ofNat (txt xx nn sz 58)))])) _
    refine XS.icmpNo X51.here hx rfl (hb hby at_431) rfl (teq (by rw [own_t58 hsz]; rfl)).2 ?_
    refine XS.aload X51.here hx rfl (hb hby at_434) rfl rfl ?_
    refine XS.iload X51.here hx rfl (hb hby at_436) rfl ?_
    refine XS.iload X51.here hx rfl (hb hby at_438) rfl ?_
    show Steps p.tables e below (T51.setTop (mkF m 440 #[vJ qa, zS, vJ qb, zS, vI pa, vI pb, vJ hh, zS, vI sm, vJ mm, zS, vJ xx, zS, vR ee, vR ms, vR aP, vR aS, vI (1 : Int32), vJ mg, zS, vI (Int32.ofNat (SBG.digitsL nn)), vR b1, vI (Int32.ofNat 59), vI (Int32.ofNat sz), vI (Int32.ofNat (48 + nn / 10 ^ (SBG.digitsL nn - 1))), vI (Int32.ofNat (48 + nn % 10)), zU, zU, zU, zU, zU, zU] [(.int (Int32.ofNat sz)), (.int (Int32.ofNat 59)), (.ref ms)])) _
    refine XS.iadd X51.here hx rfl (hb hby at_440) rfl ?_
    show Steps p.tables e below (T51.setTop (mkF m 441 #[vJ qa, zS, vJ qb, zS, vI pa, vI pb, vJ hh, zS, vI sm, vJ mm, zS, vJ xx, zS, vR ee, vR ms, vR aP, vR aS, vI (1 : Int32), vJ mg, zS, vI (Int32.ofNat (SBG.digitsL nn)), vR b1, vI (Int32.ofNat 59), vI (Int32.ofNat sz), vI (Int32.ofNat (48 + nn / 10 ^ (SBG.digitsL nn - 1))), vI (Int32.ofNat (48 + nn % 10)), zU, zU, zU, zU, zU, zU] [(.int ((Int32.ofNat 59) + (Int32.ofNat sz))), (.ref ms)])) _
    rw [own_addN]
    refine st52.trans ?_
    refine XS.bipush X52.here hx rfl (hb hby at_444) ?_
    refine XS.icmpYes X52.here hx rfl (pc0 := 446) (pc' := 451) rfl (hb hby at_446) rfl (teq (by rw [own_tS hsz]; rfl)).1 (by decide) (by decide) ?_
    show Steps p.tables e below (T52.setTop (mkF m 451 #[vJ qa, zS, vJ qb, zS, vI pa, vI pb, vJ hh, zS, vI sm, vJ mm, zS, vJ xx, zS, vR ee, vR ms, vR aP, vR aS, vI (1 : Int32), vJ mg, zS, vI (Int32.ofNat (SBG.digitsL nn)), vR b1, vI (Int32.ofNat 59), vI (Int32.ofNat sz), vI (Int32.ofNat (48 + nn / 10 ^ (SBG.digitsL nn - 1))), vI (Int32.ofNat (48 + nn % 10)), zU, zU, zU, zU, zU, zU] [])) _
    refine XS.aload X52.here hx rfl (hb hby at_451) rfl rfl ?_
    refine XS.aload X52.here hx rfl (hb hby at_453) rfl rfl ?_
    refine st53.trans ?_
    refine XS.iconst X53.here hx rfl (hb hby at_458) ?_
    show Steps p.tables e below (T53.setTop (mkF m 459 #[vJ qa, zS, vJ qb, zS, vI pa, vI pb, vJ hh, zS, vI sm, vJ mm, zS, vJ xx, zS, vR ee, vR ms, vR aP, vR aS, vI (1 : Int32), vJ mg, zS, vI (Int32.ofNat (SBG.digitsL nn)), vR b1, vI (Int32.ofNat 59), vI (Int32.ofNat sz), vI (Int32.ofNat (48 + nn / 10 ^ (SBG.digitsL nn - 1))), vI (Int32.ofNat (48 + nn % 10)), zU, zU, zU, zU, zU, zU] [(.int (1 : Int32)), (.int (Int32.ofNat (59 + sz + 33))), (.ref ms)])) _
    refine XS.isub X53.here hx rfl (hb hby at_459) rfl ?_
    show Steps p.tables e below (T53.setTop (mkF m 460 #[vJ qa, zS, vJ qb, zS, vI pa, vI pb, vJ hh, zS, vI sm, vJ mm, zS, vJ xx, zS, vR ee, vR ms, vR aP, vR aS, vI (1 : Int32), vJ mg, zS, vI (Int32.ofNat (SBG.digitsL nn)), vR b1, vI (Int32.ofNat 59), vI (Int32.ofNat sz), vI (Int32.ofNat (48 + nn / 10 ^ (SBG.digitsL nn - 1))), vI (Int32.ofNat (48 + nn % 10)), zU, zU, zU, zU, zU, zU] [(.int ((Int32.ofNat (59 + sz + 33)) - (1 : Int32))), (.ref ms)])) _
    rw [show Int32.ofNat ((59 + sz + 33)) - (1 : Int32) = Int32.ofNat ((59 + sz + 33) - 1) from own_subN (j := 1) (by omega) (by omega)]
    refine st54.trans ?_
    refine XS.bipush X54.here hx rfl (hb hby at_463) ?_
    refine XS.icmpYes X54.here hx rfl (pc0 := 465) (pc' := 470) rfl (hb hby at_465) rfl (teq (by rw [own_tE]; rfl)).1 (by decide) (by decide) ?_
    exact kt
  exact ⟨T54, _, b1, _, _, X54, (by rw [e54]; exact K39), N54, fun target kt => pre55 target kt⟩
theorem own_shr20 (x : Int64) : (x >>> ((20 : Int32) &&& 0x3f).toInt64).toBitVec = x.toBitVec.sshiftRight 20 := by
  show x.toBitVec.sshiftRight ((((20 : Int32) &&& 0x3f).toInt64.toBitVec.smod 64).toNat) = _
  rw [show ((((20 : Int32) &&& 0x3f).toInt64.toBitVec.smod 64).toNat) = 20 from by decide +kernel]
theorem own_b1 (h q : Int64) : (((h &&& (-1048576 : Int64)) ||| (q &&& (1048575 : Int64))) >>> ((20 : Int32) &&& 0x3f).toInt64) = (h >>> ((20 : Int32) &&& 0x3f).toInt64) := by
  apply Int64.toBitVec_inj.mp
  rw [own_shr20, own_shr20]
  show ((h.toBitVec &&& (-1048576 : Int64).toBitVec) ||| (q.toBitVec &&& (1048575 : Int64).toBitVec)).sshiftRight 20 = _
  have c1 : ∀ i, i < 44 → (-1048576 : Int64).toBitVec.getLsbD (20 + i) = true := by decide +kernel
  have c2 : ∀ i, i < 44 → (1048575 : Int64).toBitVec.getLsbD (20 + i) = false := by decide +kernel
  have c3 : (-1048576 : Int64).toBitVec.msb = true := by decide +kernel
  have c4 : (1048575 : Int64).toBitVec.msb = false := by decide +kernel
  apply BitVec.eq_of_getLsbD_eq
  intro i hi
  rw [BitVec.getLsbD_sshiftRight, BitVec.getLsbD_sshiftRight]
  by_cases e : 20 + i < 64
  · rw [if_pos e, if_pos e, BitVec.getLsbD_or, BitVec.getLsbD_and, BitVec.getLsbD_and, c1 i (by omega), c2 i (by omega)]; simp
  · rw [if_neg e, if_neg e, BitVec.msb_or, BitVec.msb_and, BitVec.msb_and, c3, c4]; simp
theorem own_b2 (h : Int64) {k : Nat} (hk : k < 44) : ((h ^^^ ((1 : Int64) <<< ((Int32.ofNat (20 + k)) &&& 0x3f).toInt64)) >>> ((20 : Int32) &&& 0x3f).toInt64) ≠ (h >>> ((20 : Int32) &&& 0x3f).toInt64) := by
  intro e
  have e := congrArg Int64.toBitVec e
  rw [own_shr20, own_shr20] at e
  have e : (h.toBitVec ^^^ ((1 : Int64) <<< ((Int32.ofNat (20 + k)) &&& 0x3f).toInt64).toBitVec).sshiftRight 20 = h.toBitVec.sshiftRight 20 := e
  have e := congrArg (fun b => b.getLsbD k) e
  have c1 : ∀ k, k < 44 → ((1 : Int64) <<< ((Int32.ofNat (20 + k)) &&& 0x3f).toInt64).toBitVec.getLsbD (20 + k) = true := by decide +kernel
  have e : ((h.toBitVec ^^^ ((1 : Int64) <<< ((Int32.ofNat (20 + k)) &&& 0x3f).toInt64).toBitVec).sshiftRight 20).getLsbD k = (h.toBitVec.sshiftRight 20).getLsbD k := e
  rw [BitVec.getLsbD_sshiftRight, BitVec.getLsbD_sshiftRight, if_pos (by omega), if_pos (by omega), BitVec.getLsbD_xor, c1 k hk] at e
  have hd : decide (64 ≤ k) = false := decide_eq_false (by omega)
  rw [hd] at e
  revert e
  cases h.toBitVec.getLsbD (20 + k) <;> simp
theorem own_b3 (q : Int64) {i : Nat} (hi : i < 11) : ((((Int32.ofNat i - (1 : Int32)).toInt64 <<< ((20 : Int32) &&& 0x3f).toInt64) ||| (q &&& (1048575 : Int64))) >>> ((20 : Int32) &&& 0x3f).toInt64) = (Int32.ofNat i - (1 : Int32)).toInt64 := by
  apply Int64.toBitVec_inj.mp
  rw [own_shr20]
  show (((Int32.ofNat i - (1 : Int32)).toInt64 <<< ((20 : Int32) &&& 0x3f).toInt64).toBitVec ||| (q.toBitVec &&& (1048575 : Int64).toBitVec)).sshiftRight 20 = _
  have c2 : ∀ i, i < 44 → (1048575 : Int64).toBitVec.getLsbD (20 + i) = false := by decide +kernel
  have c4 : (1048575 : Int64).toBitVec.msb = false := by decide +kernel
  have c5 : ∀ i, i < 11 → ∀ j, j < 64 → (if 20 + j < 64 then ((Int32.ofNat i - (1 : Int32)).toInt64 <<< ((20 : Int32) &&& 0x3f).toInt64).toBitVec.getLsbD (20 + j) else ((Int32.ofNat i - (1 : Int32)).toInt64 <<< ((20 : Int32) &&& 0x3f).toInt64).toBitVec.msb) = (Int32.ofNat i - (1 : Int32)).toInt64.toBitVec.getLsbD j := by decide +kernel
  apply BitVec.eq_of_getLsbD_eq
  intro j hj
  rw [BitVec.getLsbD_sshiftRight]
  have hd : decide (64 ≤ j) = false := decide_eq_false (by omega)
  rw [hd, ← c5 i hi j hj]
  by_cases e : 20 + j < 64
  · rw [if_pos e, if_pos e, BitVec.getLsbD_or, BitVec.getLsbD_and, c2 j (by omega)]; simp
  · rw [if_neg e, if_neg e, BitVec.msb_or, BitVec.msb_and, c4]; simp
theorem own_mmI {i : Nat} (hi : i < 11) : ((Int32.ofNat i - (1 : Int32)).toInt64).toInt = (i : Int) - 1 ∧ ((Int32.ofNat i - (1 : Int32)).toInt64).toInt32 + (1 : Int32) = Int32.ofNat i := by
  have : ∀ i, i < 11 → ((Int32.ofNat i - (1 : Int32)).toInt64).toInt = (i : Int) - 1 ∧ ((Int32.ofNat i - (1 : Int32)).toInt64).toInt32 + (1 : Int32) = Int32.ofNat i := by decide +kernel
  exact this i hi
theorem own_kk (pb : Int32) : ∃ i, i < 11 ∧ ((pb.toUInt32 >>> ((1 : Int32) &&& 31).toUInt32).toInt32) % (11 : Int32) = Int32.ofNat i := by
  have h := c_iushr pb 1 1 (by decide) (by decide)
  generalize (pb.toUInt32 >>> ((1 : Int32) &&& 31).toUInt32).toInt32 = y at h
  have hy : 0 ≤ y.toInt := by rw [h]; exact Int.ediv_nonneg (Int.emod_nonneg _ (by decide)) (by decide)
  have q := (c_irem y 11 11 rfl).1 hy
  have q1 : 0 ≤ (y % 11).toInt := by rw [q]; omega
  exact ⟨_, own_clamp q1 (by rw [q]; omega), own_nat q1⟩
theorem own_rem44 (x : Int32) : ∃ i, i < 44 ∧ (x &&& (2147483647 : Int32)) % (44 : Int32) = Int32.ofNat i := by
  have h := own_mod x 44 44 rfl (by decide)
  exact ⟨_, own_clamp h.1 h.2, own_nat h.1⟩
def litL (i : Nat) : List Nat := preL ++ (if i = 0 then [45, 49] else [47 + i]) ++ sufL
def litN (i : Nat) : Nat := if i = 0 then 94 else 93
theorem litA {i : Nat} (hi : i < 11) : Asc (fun j => (litL i).getD j 0) := by
  have : ∀ i, i < 11 → ((litL i).all fun u => decide (u < 128)) = true := by decide +kernel
  exact own_lget (litL i) (this i hi)
theorem own_tab {xx : Int64} {nn sz i : Nat} (hi : i < 11) (hx : xx.toInt = (i : Int) - 1) (hn : nn < 10 ^ 18) (hxn : (if xx < 0 then xx else -xx) = Jvm.Free.SBG.negL nn) (hsz : Jvm.Free.SBG.digitsL nn + Jvm.Free.SBG.GetCharsL.sgnL xx = sz) :
    Same (59 + sz + 33) (litN i) (fun j => Int32.ofNat (txt xx nn sz j)) (fun j => Int32.ofNat ((litL i).getD j 0)) := by
  have hm := own_mag hn hxn
  have e0 : (0 : Int64).toInt = 0 := rfl
  by_cases u : xx < 0
  · have h2 := (hm.1 u).2
    rw [Int64.lt_iff_toInt_lt, e0] at u
    obtain rfl : i = 0 := by omega
    obtain rfl : nn = 1 := by omega
    obtain rfl : xx = -1 := Int64.toInt_inj.mp (by rw [hx]; rfl)
    obtain rfl : sz = 2 := by rw [← hsz]; decide +kernel
    have c : ∀ j, j < 94 → txt (-1) 1 2 j = (litL 0).getD j 0 := by decide +kernel
    exact ⟨rfl, fun j hj => congrArg Int32.ofNat (c j hj)⟩
  · have h2 := hm.2 u
    have hs := sgn0 u
    rw [Int64.lt_iff_toInt_lt, e0] at u
    obtain ⟨k, rfl⟩ : ∃ k, i = k + 1 := ⟨i - 1, by omega⟩
    obtain rfl : nn = k := by omega
    obtain rfl : xx = Int64.ofNat nn := Int64.toInt_inj.mp (by rw [hx, own_i64 (by omega)]; omega)
    have hd : ∀ k, k < 10 → Jvm.Free.SBG.digitsL k = 1 := by decide +kernel
    obtain rfl : sz = 1 := by rw [← hsz, hs, hd nn (by omega)]
    have c : ∀ k, k < 10 → ∀ j, j < 93 → txt (Int64.ofNat k) k 1 j = (litL (k + 1)).getD j 0 := by decide +kernel
    refine ⟨?_, fun j hj => congrArg Int32.ofNat (c nn (by omega) j hj)⟩
    show 59 + 1 + 33 = litN (nn + 1)
    simp [litN]
theorem own_safeArv {Z : State} {EL : List (String × Nat)} {vm : Vm} {h : Heap} {a : Addr} {k : ClassId} {ty : FieldType} {z : Int32} {vs : List Value} {dv : Value} (hal : Z.vm.Alike vm) (A : Arv Z h a k ty z vs dv) (ht : ty ≠ .byte) : Safe Z EL vm h a := by
  obtain ⟨c, A1, -⟩ := A; exact Safe.arr hal A1 ht
theorem own_refs (as : List Addr) {i : Nat} (hi : i < as.length) : (as.map Value.ref).getD i .null = .ref (as.getD i 0) := by
  simp [List.getD_eq_getElem?_getD, List.getElem?_eq_getElem hi]
theorem pd__Ljava_lang_Object__Z : parseMethodDescriptor "(Ljava/lang/Object;)Z" = some ⟨[(.object "java/lang/Object")], some .boolean⟩ := by decide +kernel
set_option maxRecDepth 65536 in
set_option maxHeartbeats 40000000 in
theorem lw4 {p : Program} {l : Launch} {e : Env} {s : State} {m : MethodId} {args : Array Value} {below : List Frame} {meth : Method} {c : Code} {T0 : State} {locs : List Loc} {Z : State} {a0 : Array Value} {h0 : Heap} {vm0 : Vm} {k0 : Nat} (qa qb : Int64) (pa pb : Int32) (hh : Int64) (sm : Int32) (mm : Int64) (xx : Int64) (nn sz : Nat) (ee ms mv : Addr) (mk : ClassId) (aP aS a21 : Addr) (sg c20 c22 c23 c24 c25 : Int32) (mg : Int64) (X0 : Stand p l e room_1 (s.setVm vm0) m args below meth c T0 locs 19 4707) (hx : p.tables.exec = Jvm.exec) (hZ : Z.Warmed39 vm0) (hw : ∀ d ∈ tables_1, d.before a0 Z = true) (hby : c.code = code) (hml : c.maxLocals = 32) (hown : vm0.findClass "com/example/tollplan/tollplan/CommandExceptionOutOfMemoryPinLaw" = some m.cls) (e0 : T0.heap = h0) (hS0 : s.Since vm0 k0) (hk0 : k0 ≤ h0.size) (hEL : EW Z a0 consts_1) (hCH : CHv Z consts_1 vm0 h0) (hTK : s.vm.MethodsKnown) (hBelow : s.vm.FramesKnown below) (n0 : Nat) (hz : Z.heap.size ≤ n0) (hl : l.stackTraces = true) (THz : ThS Z Z.heap) (u1 u2 : Value) (hu1 : u1.isRef = true) (hu2 : u2.isRef = true) (S_Uz : Sta Z Z.heap "java/lang/Throwable" "UNASSIGNED_STACK" "[Ljava/lang/StackTraceElement;" u1) (S_Nz : Sta Z Z.heap "java/lang/Throwable" "SUPPRESSED_SENTINEL" "Ljava/util/List;" u2) (kL : Addr) (S_Lz : Sta Z Z.heap "com/example/tollplan/tollplan/CommandException$Kind" "LOCAL" "Lcom/example/tollplan/tollplan/CommandException$Kind;" (.ref kL)) (stI dgA dgB : Addr) (DgA DgB : Cell) (tbA : SBG.Tbl Z "DigitOnes" stI dgA DgA) (tbB : SBG.Tbl Z "DigitTens" stI dgB DgB) (onA : SBG.Ones DgA) (teB : SBG.Tens DgB) (cs : Int32) (hcs : ¬ cs = (0 : Int32)) (S_Cz : Sta Z Z.heap "java/lang/String" "COMPACT_STRINGS" "Z" (.int cs)) (fm : Value) (hfm : fm.isRef = true) (S_Fz : Sta Z Z.heap "jdk/internal/util/Preconditions" "SIOOBE_FORMATTER" "Ljava/util/function/BiFunction;" fm) (N0 : Fr n0 locs) (Z0 : n0 ≤ h0.size) (KZ : Keep Z.heap h0 []) (hnn : nn ≤ 2 ^ 63) (hxn : (if xx < 0 then xx else -xx) = SBG.negL nn) (hsz : SBG.digitsL nn + SBG.GetCharsL.sgnL xx = sz) (hxx : (hh >>> ((20 : Int32) &&& 0x3f).toInt64) = xx) (R_m : SB Z h0 ms mv mk (59 + sz + 33) (fun i => Int32.ofNat ((txt xx nn sz) i))) :
    ∃ (T' : State) (vm' : Vm) (k' : Nat) (locs' : List Loc) (l26 l29 : Int64) (c28 : Int32), Stand p l e room_1 (s.setVm vm') m args below meth c T' locs' 47 13107 ∧ s.Since vm' k' ∧ k' ≤ T'.heap.size ∧ Z.Warmed39 vm' ∧ vm'.findClass "com/example/tollplan/tollplan/CommandExceptionOutOfMemoryPinLaw" = some m.cls ∧ CHr Z consts_1 vm0 h0 vm' T'.heap ∧ Keep h0 T'.heap [] ∧ Fr n0 locs' ∧ ∀ target, Steps p.tables e below (T'.setTop (mkF m 542 #[vJ qa, zS, vJ qb, zS, vI pa, vI pb, vJ hh, zS, vI sm, vJ mm, zS, vJ xx, zS, vR ee, vR ms, vR aP, vR aS, vI sg, vJ mg, zS, vI c20, vR a21, vI c22, vI c23, vI c24, vI c25, vJ l26, zS, vI c28, vJ l29, zS, zU] [])) target → Steps p.tables e below (T0.setTop (mkF m 470 #[vJ qa, zS, vJ qb, zS, vI pa, vI pb, vJ hh, zS, vI sm, vJ mm, zS, vJ xx, zS, vR ee, vR ms, vR aP, vR aS, vI sg, vJ mg, zS, vI c20, vR a21, vI c22, vI c23, vI c24, vI c25, zU, zU, zU, zU, zU, zU] [])) target := by
  have hCR0 : CHr Z consts_1 vm0 h0 vm0 h0 := CHr.refl hCH
  have hTKs : (s.setVm vm0).vm.MethodsKnown := Vm.MethodsKnown.alikeC hS0.1.alike hTK
  have hBls : (s.setVm vm0).vm.FramesKnown below := Vm.FramesKnown.alikeC hS0.1.alike hBelow
  have pre0 : ∀ t, Steps p.tables e below (T0.setTop (mkF m 470 #[vJ qa, zS, vJ qb, zS, vI pa, vI pb, vJ hh, zS, vI sm, vJ mm, zS, vJ xx, zS, vR ee, vR ms, vR aP, vR aS, vI sg, vJ mg, zS, vI c20, vR a21, vI c22, vI c23, vI c24, vI c25, zU, zU, zU, zU, zU, zU] [])) t → Steps p.tables e below (T0.setTop (mkF m 470 #[vJ qa, zS, vJ qb, zS, vI pa, vI pb, vJ hh, zS, vI sm, vJ mm, zS, vJ xx, zS, vR ee, vR ms, vR aP, vR aS, vI sg, vJ mg, zS, vI c20, vR a21, vI c22, vI c23, vI c24, vI c25, zU, zU, zU, zU, zU, zU] [])) t := fun _ k => k
  have S_C := own_sta_keep S_Cz KZ all0
  have S_F := own_sta_keep S_Fz KZ all0
  have S_U := own_sta_keep S_Uz KZ all0
  have S_N := own_sta_keep S_Nz KZ all0
  have S_L := own_sta_keep S_Lz KZ all0
  have TH := ThS.keep KZ (own_nst all0) THz
  have hn18 := own_small hxx hnn hxn
  have E_ms := R_m.1
  have hszl : sz ≤ 21 := by have := (SBG.digitsL_pos nn).2; have := sgnle xx; omega
  obtain ⟨_, _, ⟨T1, L1, k1, n1⟩, -, X1, hSi1, hgr1, ⟨Lc1, hQ1, l1, y1, z1, hC1⟩, st1⟩ := callSS X0 hx (y := (⟨"com/example/tollplan/tollplan/CommandException", "outOfMemory", "(J)Lcom/example/tollplan/tollplan/CommandException;"⟩ : MethodName)) hown (mvT hZ (wd hw 1 rfl)) (mvT hZ (wd hw 2 rfl)) (mvT hZ (wd hw 3 rfl)) (mvT hZ (wd hw 4 rfl)) (by decide) (backOfSKH (W := 1) (oOM l Z a0 hw [] ((hh &&& (-1048576 : Int64)) ||| (qb &&& (1048575 : Int64))) hEL kL xx nn sz hnn hxn hsz ((own_b1 hh qb).trans hxx) h0 n0 Z0 (KZ.trans (Keep.refl h0 []) all0) hz hl TH u1 u2 hu1 hu2 S_U S_N S_L stI dgA dgB DgA DgB tbA tbB onA teB cs hcs S_Cz) hZ (wd hw 4 rfl) (wd hw 3 rfl) (by decide) (by decide) hEL hCR0.1 hTKs hBls) (g := (mkF m 488 #[vJ qa, zS, vJ qb, zS, vI pa, vI pb, vJ hh, zS, vI sm, vJ mm, zS, vJ xx, zS, vR ee, vR ms, vR aP, vR aS, vI sg, vJ mg, zS, vI c20, vR a21, vI c22, vI c23, vI c24, vI c25, vJ ((hh &&& (-1048576 : Int64)) ||| (qb &&& (1048575 : Int64))), zS, zU, zU, zU, zU] [(.long ((hh &&& (-1048576 : Int64)) ||| (qb &&& (1048575 : Int64)))), (.ref ms)])) rfl (by rw [hml]; rfl) (argsL := [(.long ((hh &&& (-1048576 : Int64)) ||| (qb &&& (1048575 : Int64))))]) (rest := [(.ref ms)]) (lenOf pd__J_Lcom_example_tollplan_tollplan_CommandException_ rfl) rfl (by show 2 * 0 + _ ≤ _; exact Nat.le_of_eq rfl) (hb hby at_488) (fun _ _ => ⟨rfl, e0, (by decide : 19 + 14 ≤ _), (by decide : 4707 + 4200 ≤ _)⟩)
  dsimp only [Pt.U, Pt.locs, Pt.cells, Pt.slots] at X1 l1 y1 z1 st1 hQ1 hSi1 hgr1
  rw [l1, y1, z1] at X1
  have hS1 : s.Since T1.vm T1.heap.size := foldS hS0 (by rw [e0]; exact hk0) hSi1 hgr1
  have hZ1 : Z.Warmed39 (s.setVm T1.vm).vm := State.Warmed39.trans (t := s.setVm vm0) hZ hSi1.1
  have hown1 : (s.setVm T1.vm).vm.findClass "com/example/tollplan/tollplan/CommandExceptionOutOfMemoryPinLaw" = some m.cls := by rw [show (s.setVm T1.vm).vm = T1.vm from rfl, hSi1.1.alike.findClass]; exact hown
  have X1 : Stand p l e room_1 (s.setVm T1.vm) m args below meth c T1 _ _ _ := X1
  have hkc1 : T1.heap.size ≤ T1.heap.size := Nat.le_refl _
  have hTK1 : (s.setVm T1.vm).vm.MethodsKnown := Vm.MethodsKnown.alikeC hS1.1.alike hTK
  have hBl1 : (s.setVm T1.vm).vm.FramesKnown below := Vm.FramesKnown.alikeC hS1.1.alike hBelow
  dsimp only [Pt.U] at hC1
  have hCR2 : CHr Z consts_1 vm0 h0 T1.vm T1.heap := hCR0.trans hC1
  obtain ⟨ex1, ms1, mv1, mk1, rfl, N1q, Kp1, Ea1, Fk1, Fm1, Fx1, Un1, Sm1⟩ := hQ1
  have N1 := Fr.app N0 N1q
  have Zs1 : n0 ≤ T1.heap.size := Nat.le_trans Z0 Kp1.1
  have Kk1 : Keep h0 T1.heap [] := (Keep.refl h0 []).trans Kp1 all0
  obtain ⟨cq3, kq3, q3a, q3b, q3c⟩ := isOf hZ1 rfl Ea1
  obtain ⟨_, _, ⟨T3, L3, k3, n3⟩, -, X3, ⟨Lc3, hQ3, l3, y3, z3⟩, st3⟩ := X1.virtualBackUp hx (x := (⟨"com/example/tollplan/tollplan/CommandException", "getMessage", "()Ljava/lang/String;"⟩ : MethodName)) (y := (⟨"java/lang/Throwable", "getMessage", "()Ljava/lang/String;"⟩ : MethodName)) (owner := "java/lang/Throwable") hown1 (mvT hZ1 (wd hw 239 rfl)) (mvT hZ1 (wd hw 240 rfl)) (mvT hZ1 (wd hw 241 rfl)) (by decide) (mvT hZ1 (wd hw 243 rfl)) (mvT hZ1 (wd hw 242 rfl)) (backOf (W := 1) (eMs l Z a0 hw [] ex1 ms1 T1.heap n0 Zs1 Fm1) hZ1 (wd hw 244 rfl) (wd hw 186 rfl) (by decide) (by decide)) q3a q3c (g := (mkF m 491 #[vJ qa, zS, vJ qb, zS, vI pa, vI pb, vJ hh, zS, vI sm, vJ mm, zS, vJ xx, zS, vR ee, vR ms, vR aP, vR aS, vI sg, vJ mg, zS, vI c20, vR a21, vI c22, vI c23, vI c24, vI c25, vJ ((hh &&& (-1048576 : Int64)) ||| (qb &&& (1048575 : Int64))), zS, zU, zU, zU, zU] [(.ref ex1), (.ref ms)])) rfl (by rw [hml]; rfl) (Steps.refl _) (argsL := []) (rest := [(.ref ms)]) (lenOf pd___Ljava_lang_String_ rfl) rfl (by show 2 * 0 + _ ≤ _; exact Nat.le_of_eq rfl) (hb hby at_491) (fun _ _ => ⟨rfl, rfl, (by decide : 33 + 0 ≤ _), (by decide : 8907 + 0 ≤ _)⟩)
  dsimp only [Pt.U, Pt.locs, Pt.cells, Pt.slots] at X3 l3 y3 z3 st3 hQ3
  rw [l3, y3, z3] at X3
  obtain ⟨rfl, N3q, e3⟩ := hQ3
  have N3 := Fr.app N1 N3q
  have S_C_4 := (own_sta_keep S_C Kp1 all0)
  have E_ms_6 := (E_ms.keep Kp1)
  obtain ⟨cq5, kq5, q5a, q5b, q5c⟩ := isOf hZ1 e3 E_ms_6
  obtain ⟨_, _, ⟨T5, L5, k5, n5⟩, -, X5, ⟨Lc5, hQ5, l5, y5, z5⟩, st5⟩ := X3.virtualBack hx (y := (⟨"java/lang/String", "equals", "(Ljava/lang/Object;)Z"⟩ : MethodName)) (z := (⟨"java/lang/String", "equals", "(Ljava/lang/Object;)Z"⟩ : MethodName)) hown1 (mvT hZ1 (wd hw 294 rfl)) (mvT hZ1 (wd hw 295 rfl)) (notFace_of_selects (args := #[]) (mvT hZ1 (wd hw 297 rfl))) (mvT hZ1 (wd hw 297 rfl)) (mvT hZ1 (wd hw 296 rfl)) (by decide) (backOf (W := 0) (rEq l Z a0 hw [] ms ms1 mv mv1 mk mk1 (59 + sz + 33) (59 + sz + 33) (fun i => Int32.ofNat ((txt xx nn sz) i)) (fun i => Int32.ofNat ((txt xx nn sz) i)) (1 : Int32) (by omega) (by omega) (Or.inl ⟨rfl, rfl, fun _ _ => rfl⟩) T1.heap n0 Zs1 (R_m.keep Kk1 nin0 nin0) Sm1 cs hcs S_C_4) hZ1 (wd hw 298 rfl) (wd hw 26 rfl) (by decide) (by decide)) q5a q5c (g := (mkF m 494 #[vJ qa, zS, vJ qb, zS, vI pa, vI pb, vJ hh, zS, vI sm, vJ mm, zS, vJ xx, zS, vR ee, vR ms, vR aP, vR aS, vI sg, vJ mg, zS, vI c20, vR a21, vI c22, vI c23, vI c24, vI c25, vJ ((hh &&& (-1048576 : Int64)) ||| (qb &&& (1048575 : Int64))), zS, zU, zU, zU, zU] [(.ref ms1), (.ref ms)])) rfl (by rw [hml]; rfl) (Steps.refl _) (argsL := [(.ref ms1)]) (rest := []) (lenOf pd__Ljava_lang_Object__Z rfl) rfl (by show 2 * 0 + _ ≤ _; exact Nat.le_of_eq rfl) (hb hby at_494) (fun _ _ => ⟨rfl, e3, (by decide : 33 + 0 ≤ _), (by decide : 8907 + 0 ≤ _)⟩)
  dsimp only [Pt.U, Pt.locs, Pt.cells, Pt.slots] at X5 l5 y5 z5 st5 hQ5
  rw [l5, y5, z5] at X5
  obtain ⟨rfl, N5q, e5⟩ := hQ5
  have N5 := Fr.app N3 N5q
  obtain ⟨kq, hkq, ekq⟩ := own_rem44 pa
  obtain ⟨ny, hny, hyn⟩ := SBG.negL_of ((hh ^^^ ((1 : Int64) <<< ((Int32.ofNat (20 + kq)) &&& 0x3f).toInt64)) >>> ((20 : Int32) &&& 0x3f).toInt64)
  have hsy : SBG.digitsL ny + SBG.GetCharsL.sgnL ((hh ^^^ ((1 : Int64) <<< ((Int32.ofNat (20 + kq)) &&& 0x3f).toInt64)) >>> ((20 : Int32) &&& 0x3f).toInt64) = SBG.digitsL ny + SBG.GetCharsL.sgnL ((hh ^^^ ((1 : Int64) <<< ((Int32.ofNat (20 + kq)) &&& 0x3f).toInt64)) >>> ((20 : Int32) &&& 0x3f).toInt64) := rfl
  have hny18 := own_small rfl hny hyn
  have hyl : SBG.digitsL ny + SBG.GetCharsL.sgnL ((hh ^^^ ((1 : Int64) <<< ((Int32.ofNat (20 + kq)) &&& 0x3f).toInt64)) >>> ((20 : Int32) &&& 0x3f).toInt64) ≤ 21 := by have := (SBG.digitsL_pos ny).2; have := sgnle ((hh ^^^ ((1 : Int64) <<< ((Int32.ofNat (20 + kq)) &&& 0x3f).toInt64)) >>> ((20 : Int32) &&& 0x3f).toInt64); omega
  have TH_7 := (ThS.keep Kp1 (own_nst all0) TH)
  have S_U_8 := (own_sta_keep S_U Kp1 all0)
  have S_N_9 := (own_sta_keep S_N Kp1 all0)
  have S_L_10 := (own_sta_keep S_L Kp1 all0)
  obtain ⟨_, _, ⟨T11, L11, k11, n11⟩, -, X11, hSi11, hgr11, ⟨Lc11, hQ11, l11, y11, z11, hC11⟩, st11⟩ := callSS X5 hx (y := (⟨"com/example/tollplan/tollplan/CommandException", "outOfMemory", "(J)Lcom/example/tollplan/tollplan/CommandException;"⟩ : MethodName)) hown1 (mvT hZ1 (wd hw 1 rfl)) (mvT hZ1 (wd hw 2 rfl)) (mvT hZ1 (wd hw 3 rfl)) (mvT hZ1 (wd hw 4 rfl)) (by decide) (backOfSKH (W := 1) (oOM l Z a0 hw [] (hh ^^^ ((1 : Int64) <<< ((Int32.ofNat (20 + kq)) &&& 0x3f).toInt64)) hEL kL ((hh ^^^ ((1 : Int64) <<< ((Int32.ofNat (20 + kq)) &&& 0x3f).toInt64)) >>> ((20 : Int32) &&& 0x3f).toInt64) ny (SBG.digitsL ny + SBG.GetCharsL.sgnL ((hh ^^^ ((1 : Int64) <<< ((Int32.ofNat (20 + kq)) &&& 0x3f).toInt64)) >>> ((20 : Int32) &&& 0x3f).toInt64)) hny hyn rfl rfl T1.heap n0 Zs1 (KZ.trans Kk1 all0) hz hl TH_7 u1 u2 hu1 hu2 S_U_8 S_N_9 S_L_10 stI dgA dgB DgA DgB tbA tbB onA teB cs hcs S_Cz) hZ1 (wd hw 4 rfl) (wd hw 3 rfl) (by decide) (by decide) hEL hCR2.1 hTK1 hBl1) (g := (mkF m 528 #[vJ qa, zS, vJ qb, zS, vI pa, vI pb, vJ hh, zS, vI sm, vJ mm, zS, vJ xx, zS, vR ee, vR ms, vR aP, vR aS, vI sg, vJ mg, zS, vI c20, vR a21, vI c22, vI c23, vI c24, vI c25, vJ ((hh &&& (-1048576 : Int64)) ||| (qb &&& (1048575 : Int64))), zS, vI (Int32.ofNat (20 + kq)), vJ (hh ^^^ ((1 : Int64) <<< ((Int32.ofNat (20 + kq)) &&& 0x3f).toInt64)), zS, zU] [(.long (hh ^^^ ((1 : Int64) <<< ((Int32.ofNat (20 + kq)) &&& 0x3f).toInt64))), (.ref ms)])) rfl (by rw [hml]; rfl) (argsL := [(.long (hh ^^^ ((1 : Int64) <<< ((Int32.ofNat (20 + kq)) &&& 0x3f).toInt64)))]) (rest := [(.ref ms)]) (lenOf pd__J_Lcom_example_tollplan_tollplan_CommandException_ rfl) rfl (by show 2 * 0 + _ ≤ _; exact Nat.le_of_eq rfl) (hb hby at_528) (fun _ _ => ⟨rfl, e5, (by decide : 33 + 14 ≤ _), (by decide : 8907 + 4200 ≤ _)⟩)
  dsimp only [Pt.U, Pt.locs, Pt.cells, Pt.slots] at X11 l11 y11 z11 st11 hQ11 hSi11 hgr11
  rw [l11, y11, z11] at X11
  have hS11 : s.Since T11.vm T11.heap.size := foldS hS1 (by rw [e5]; exact (hkc1)) hSi11 hgr11
  have hZ11 : Z.Warmed39 (s.setVm T11.vm).vm := State.Warmed39.trans (t := s.setVm T1.vm) hZ1 hSi11.1
  have hown11 : (s.setVm T11.vm).vm.findClass "com/example/tollplan/tollplan/CommandExceptionOutOfMemoryPinLaw" = some m.cls := by rw [show (s.setVm T11.vm).vm = T11.vm from rfl, hSi11.1.alike.findClass]; exact hown1
  have X11 : Stand p l e room_1 (s.setVm T11.vm) m args below meth c T11 _ _ _ := X11
  have hkc11 : T11.heap.size ≤ T11.heap.size := Nat.le_refl _
  have hTK11 : (s.setVm T11.vm).vm.MethodsKnown := Vm.MethodsKnown.alikeC hS11.1.alike hTK
  have hBl11 : (s.setVm T11.vm).vm.FramesKnown below := Vm.FramesKnown.alikeC hS11.1.alike hBelow
  dsimp only [Pt.U] at hC11
  have hCR12 : CHr Z consts_1 vm0 h0 T11.vm T11.heap := hCR2.trans hC11
  obtain ⟨ex11, ms11, mv11, mk11, rfl, N11q, Kp11, Ea11, Fk11, Fm11, Fx11, Un11, Sm11⟩ := hQ11
  have N11 := Fr.app N5 N11q
  have Zs11 : n0 ≤ T11.heap.size := Nat.le_trans Zs1 Kp11.1
  have Kk11 : Keep h0 T11.heap [] := Kk1.trans Kp11 all0
  obtain ⟨cq13, kq13, q13a, q13b, q13c⟩ := isOf hZ11 rfl Ea11
  obtain ⟨_, _, ⟨T13, L13, k13, n13⟩, -, X13, ⟨Lc13, hQ13, l13, y13, z13⟩, st13⟩ := X11.virtualBackUp hx (x := (⟨"com/example/tollplan/tollplan/CommandException", "getMessage", "()Ljava/lang/String;"⟩ : MethodName)) (y := (⟨"java/lang/Throwable", "getMessage", "()Ljava/lang/String;"⟩ : MethodName)) (owner := "java/lang/Throwable") hown11 (mvT hZ11 (wd hw 239 rfl)) (mvT hZ11 (wd hw 240 rfl)) (mvT hZ11 (wd hw 241 rfl)) (by decide) (mvT hZ11 (wd hw 243 rfl)) (mvT hZ11 (wd hw 242 rfl)) (backOf (W := 1) (eMs l Z a0 hw [] ex11 ms11 T11.heap n0 Zs11 Fm11) hZ11 (wd hw 244 rfl) (wd hw 186 rfl) (by decide) (by decide)) q13a q13c (g := (mkF m 531 #[vJ qa, zS, vJ qb, zS, vI pa, vI pb, vJ hh, zS, vI sm, vJ mm, zS, vJ xx, zS, vR ee, vR ms, vR aP, vR aS, vI sg, vJ mg, zS, vI c20, vR a21, vI c22, vI c23, vI c24, vI c25, vJ ((hh &&& (-1048576 : Int64)) ||| (qb &&& (1048575 : Int64))), zS, vI (Int32.ofNat (20 + kq)), vJ (hh ^^^ ((1 : Int64) <<< ((Int32.ofNat (20 + kq)) &&& 0x3f).toInt64)), zS, zU] [(.ref ex11), (.ref ms)])) rfl (by rw [hml]; rfl) (Steps.refl _) (argsL := []) (rest := [(.ref ms)]) (lenOf pd___Ljava_lang_String_ rfl) rfl (by show 2 * 0 + _ ≤ _; exact Nat.le_of_eq rfl) (hb hby at_531) (fun _ _ => ⟨rfl, rfl, (by decide : 47 + 0 ≤ _), (by decide : 13107 + 0 ≤ _)⟩)
  dsimp only [Pt.U, Pt.locs, Pt.cells, Pt.slots] at X13 l13 y13 z13 st13 hQ13
  rw [l13, y13, z13] at X13
  obtain ⟨rfl, N13q, e13⟩ := hQ13
  have N13 := Fr.app N11 N13q
  have S_C_14 := (own_sta_keep S_C_4 Kp11 all0)
  have E_ms_16 := (E_ms_6.keep Kp11)
  obtain ⟨cq15, kq15, q15a, q15b, q15c⟩ := isOf hZ11 e13 E_ms_16
  obtain ⟨_, _, ⟨T15, L15, k15, n15⟩, -, X15, ⟨Lc15, hQ15, l15, y15, z15⟩, st15⟩ := X13.virtualBack hx (y := (⟨"java/lang/String", "equals", "(Ljava/lang/Object;)Z"⟩ : MethodName)) (z := (⟨"java/lang/String", "equals", "(Ljava/lang/Object;)Z"⟩ : MethodName)) hown11 (mvT hZ11 (wd hw 294 rfl)) (mvT hZ11 (wd hw 295 rfl)) (notFace_of_selects (args := #[]) (mvT hZ11 (wd hw 297 rfl))) (mvT hZ11 (wd hw 297 rfl)) (mvT hZ11 (wd hw 296 rfl)) (by decide) (backOf (W := 0) (rEq l Z a0 hw [] ms ms11 mv mv11 mk mk11 (59 + sz + 33) (59 + (SBG.digitsL ny + SBG.GetCharsL.sgnL ((hh ^^^ ((1 : Int64) <<< ((Int32.ofNat (20 + kq)) &&& 0x3f).toInt64)) >>> ((20 : Int32) &&& 0x3f).toInt64)) + 33) (fun i => Int32.ofNat ((txt xx nn sz) i)) (fun i => Int32.ofNat ((txt ((hh ^^^ ((1 : Int64) <<< ((Int32.ofNat (20 + kq)) &&& 0x3f).toInt64)) >>> ((20 : Int32) &&& 0x3f).toInt64) ny (SBG.digitsL ny + SBG.GetCharsL.sgnL ((hh ^^^ ((1 : Int64) <<< ((Int32.ofNat (20 + kq)) &&& 0x3f).toInt64)) >>> ((20 : Int32) &&& 0x3f).toInt64))) i)) (0 : Int32) (by omega) (by omega) (Or.inr ⟨rfl, fun q => own_b2 hh hkq (hxx.trans (own_tinj hn18 hny18 hxn hyn hsz rfl q)).symm⟩) T11.heap n0 Zs11 (R_m.keep Kk11 nin0 nin0) Sm11 cs hcs S_C_14) hZ11 (wd hw 298 rfl) (wd hw 26 rfl) (by decide) (by decide)) q15a q15c (g := (mkF m 534 #[vJ qa, zS, vJ qb, zS, vI pa, vI pb, vJ hh, zS, vI sm, vJ mm, zS, vJ xx, zS, vR ee, vR ms, vR aP, vR aS, vI sg, vJ mg, zS, vI c20, vR a21, vI c22, vI c23, vI c24, vI c25, vJ ((hh &&& (-1048576 : Int64)) ||| (qb &&& (1048575 : Int64))), zS, vI (Int32.ofNat (20 + kq)), vJ (hh ^^^ ((1 : Int64) <<< ((Int32.ofNat (20 + kq)) &&& 0x3f).toInt64)), zS, zU] [(.ref ms11), (.ref ms)])) rfl (by rw [hml]; rfl) (Steps.refl _) (argsL := [(.ref ms11)]) (rest := []) (lenOf pd__Ljava_lang_Object__Z rfl) rfl (by show 2 * 0 + _ ≤ _; exact Nat.le_of_eq rfl) (hb hby at_534) (fun _ _ => ⟨rfl, e13, (by decide : 47 + 0 ≤ _), (by decide : 13107 + 0 ≤ _)⟩)
  dsimp only [Pt.U, Pt.locs, Pt.cells, Pt.slots] at X15 l15 y15 z15 st15 hQ15
  rw [l15, y15, z15] at X15
  obtain ⟨rfl, N15q, e15⟩ := hQ15
  have N15 := Fr.app N13 N15q
  have pre17 : ∀ t, Steps p.tables e below (T15.setTop (mkF m 542 #[vJ qa, zS, vJ qb, zS, vI pa, vI pb, vJ hh, zS, vI sm, vJ mm, zS, vJ xx, zS, vR ee, vR ms, vR aP, vR aS, vI sg, vJ mg, zS, vI c20, vR a21, vI c22, vI c23, vI c24, vI c25, vJ ((hh &&& (-1048576 : Int64)) ||| (qb &&& (1048575 : Int64))), zS, vI (Int32.ofNat (20 + kq)), vJ (hh ^^^ ((1 : Int64) <<< ((Int32.ofNat (20 + kq)) &&& 0x3f).toInt64)), zS, zU] [])) t → Steps p.tables e below (T0.setTop (mkF m 470 #[vJ qa, zS, vJ qb, zS, vI pa, vI pb, vJ hh, zS, vI sm, vJ mm, zS, vJ xx, zS, vR ee, vR ms, vR aP, vR aS, vI sg, vJ mg, zS, vI c20, vR a21, vI c22, vI c23, vI c24, vI c25, zU, zU, zU, zU, zU, zU] [])) t := by
    intro t kt
    refine pre0 t ?_
    refine XS.lload X0.here hx rfl (hb hby at_470) rfl ?_
    refine X0.ldc2Long hx hown (mvT hZ (wd hw 293 rfl)) (g := (mkF m 472 #[vJ qa, zS, vJ qb, zS, vI pa, vI pb, vJ hh, zS, vI sm, vJ mm, zS, vJ xx, zS, vR ee, vR ms, vR aP, vR aS, vI sg, vJ mg, zS, vI c20, vR a21, vI c22, vI c23, vI c24, vI c25, zU, zU, zU, zU, zU, zU] [(.long hh)])) rfl (hb hby at_472) _ ?_
    refine XS.land X0.here hx rfl (hb hby at_475) rfl ?_
    show Steps p.tables e below (T0.setTop (mkF m 476 #[vJ qa, zS, vJ qb, zS, vI pa, vI pb, vJ hh, zS, vI sm, vJ mm, zS, vJ xx, zS, vR ee, vR ms, vR aP, vR aS, vI sg, vJ mg, zS, vI c20, vR a21, vI c22, vI c23, vI c24, vI c25, zU, zU, zU, zU, zU, zU] [(.long (hh &&& (-1048576 : Int64)))])) _
    refine XS.lloadN X0.here hx rfl (hb hby at_476) rfl ?_
    refine X0.ldc2Long hx hown (mvT hZ (wd hw 0 rfl)) (g := (mkF m 477 #[vJ qa, zS, vJ qb, zS, vI pa, vI pb, vJ hh, zS, vI sm, vJ mm, zS, vJ xx, zS, vR ee, vR ms, vR aP, vR aS, vI sg, vJ mg, zS, vI c20, vR a21, vI c22, vI c23, vI c24, vI c25, zU, zU, zU, zU, zU, zU] [(.long qb), (.long (hh &&& (-1048576 : Int64)))])) rfl (hb hby at_477) _ ?_
    refine XS.land X0.here hx rfl (hb hby at_480) rfl ?_
    refine XS.lor X0.here hx rfl (hb hby at_481) rfl ?_
    show Steps p.tables e below (T0.setTop (mkF m 482 #[vJ qa, zS, vJ qb, zS, vI pa, vI pb, vJ hh, zS, vI sm, vJ mm, zS, vJ xx, zS, vR ee, vR ms, vR aP, vR aS, vI sg, vJ mg, zS, vI c20, vR a21, vI c22, vI c23, vI c24, vI c25, zU, zU, zU, zU, zU, zU] [(.long ((hh &&& (-1048576 : Int64)) ||| (qb &&& (1048575 : Int64))))])) _
    refine XS.lstore X0.here hx rfl (hb hby at_482) rfl (l' := #[vJ qa, zS, vJ qb, zS, vI pa, vI pb, vJ hh, zS, vI sm, vJ mm, zS, vJ xx, zS, vR ee, vR ms, vR aP, vR aS, vI sg, vJ mg, zS, vI c20, vR a21, vI c22, vI c23, vI c24, vI c25, vJ ((hh &&& (-1048576 : Int64)) ||| (qb &&& (1048575 : Int64))), zS, zU, zU, zU, zU]) rfl ?_
    refine XS.aload X0.here hx rfl (hb hby at_484) rfl rfl ?_
    refine XS.lload X0.here hx rfl (hb hby at_486) rfl ?_
    refine st1.trans ?_
    show Steps p.tables e below (T1.setTop (mkF m 491 #[vJ qa, zS, vJ qb, zS, vI pa, vI pb, vJ hh, zS, vI sm, vJ mm, zS, vJ xx, zS, vR ee, vR ms, vR aP, vR aS, vI sg, vJ mg, zS, vI c20, vR a21, vI c22, vI c23, vI c24, vI c25, vJ ((hh &&& (-1048576 : Int64)) ||| (qb &&& (1048575 : Int64))), zS, zU, zU, zU, zU] [(.ref ex1), (.ref ms)])) _
    refine st3.trans ?_
    refine st5.trans ?_
    refine XS.ifYes X5.here hx rfl (pc0 := 497) (pc' := 502) rfl (hb hby at_497) rfl ((if0 _ _).trans (feq (by decide : ¬ ((1 : Int32) = (0 : Int32)))).2) (by decide) (by decide) ?_
    refine XS.bipush X5.here hx rfl (hb hby at_502) ?_
    show Steps p.tables e below (T5.setTop (mkF m 504 #[vJ qa, zS, vJ qb, zS, vI pa, vI pb, vJ hh, zS, vI sm, vJ mm, zS, vJ xx, zS, vR ee, vR ms, vR aP, vR aS, vI sg, vJ mg, zS, vI c20, vR a21, vI c22, vI c23, vI c24, vI c25, vJ ((hh &&& (-1048576 : Int64)) ||| (qb &&& (1048575 : Int64))), zS, zU, zU, zU, zU] [(.int (20 : Int32))])) _
    refine XS.iload X5.here hx rfl (hb hby at_504) rfl ?_
    refine X5.ldcInt hx hown1 (mvT hZ1 (wd hw 303 rfl)) (g := (mkF m 506 #[vJ qa, zS, vJ qb, zS, vI pa, vI pb, vJ hh, zS, vI sm, vJ mm, zS, vJ xx, zS, vR ee, vR ms, vR aP, vR aS, vI sg, vJ mg, zS, vI c20, vR a21, vI c22, vI c23, vI c24, vI c25, vJ ((hh &&& (-1048576 : Int64)) ||| (qb &&& (1048575 : Int64))), zS, zU, zU, zU, zU] [(.int pa), (.int (20 : Int32))])) rfl (hb hby at_506) _ ?_
    refine XS.iand X5.here hx rfl (hb hby at_508) rfl ?_
    refine XS.bipush X5.here hx rfl (hb hby at_509) ?_
    show Steps p.tables e below (T5.setTop (mkF m 511 #[vJ qa, zS, vJ qb, zS, vI pa, vI pb, vJ hh, zS, vI sm, vJ mm, zS, vJ xx, zS, vR ee, vR ms, vR aP, vR aS, vI sg, vJ mg, zS, vI c20, vR a21, vI c22, vI c23, vI c24, vI c25, vJ ((hh &&& (-1048576 : Int64)) ||| (qb &&& (1048575 : Int64))), zS, zU, zU, zU, zU] [(.int (44 : Int32)), (.int (pa &&& (2147483647 : Int32))), (.int (20 : Int32))])) _
    refine iremM (g := (mkF m 511 #[vJ qa, zS, vJ qb, zS, vI pa, vI pb, vJ hh, zS, vI sm, vJ mm, zS, vJ xx, zS, vR ee, vR ms, vR aP, vR aS, vI sg, vJ mg, zS, vI c20, vR a21, vI c22, vI c23, vI c24, vI c25, vJ ((hh &&& (-1048576 : Int64)) ||| (qb &&& (1048575 : Int64))), zS, zU, zU, zU, zU] [(.int (44 : Int32)), (.int (pa &&& (2147483647 : Int32))), (.int (20 : Int32))])) X5 hx rfl (hb hby at_511) rfl (by decide) ?_
    show Steps p.tables e below (T5.setTop (mkF m 512 #[vJ qa, zS, vJ qb, zS, vI pa, vI pb, vJ hh, zS, vI sm, vJ mm, zS, vJ xx, zS, vR ee, vR ms, vR aP, vR aS, vI sg, vJ mg, zS, vI c20, vR a21, vI c22, vI c23, vI c24, vI c25, vJ ((hh &&& (-1048576 : Int64)) ||| (qb &&& (1048575 : Int64))), zS, zU, zU, zU, zU] [(.int ((pa &&& (2147483647 : Int32)) % (44 : Int32))), (.int (20 : Int32))])) _
    rw [ekq]
    refine XS.iadd X5.here hx rfl (hb hby at_512) rfl ?_
    show Steps p.tables e below (T5.setTop (mkF m 513 #[vJ qa, zS, vJ qb, zS, vI pa, vI pb, vJ hh, zS, vI sm, vJ mm, zS, vJ xx, zS, vR ee, vR ms, vR aP, vR aS, vI sg, vJ mg, zS, vI c20, vR a21, vI c22, vI c23, vI c24, vI c25, vJ ((hh &&& (-1048576 : Int64)) ||| (qb &&& (1048575 : Int64))), zS, zU, zU, zU, zU] [(.int ((20 : Int32) + (Int32.ofNat kq)))])) _
    rw [show (20 : Int32) + Int32.ofNat kq = Int32.ofNat (20 + kq) from own_addN 20 kq]
    refine XS.istore X5.here hx rfl (hb hby at_513) rfl (l' := #[vJ qa, zS, vJ qb, zS, vI pa, vI pb, vJ hh, zS, vI sm, vJ mm, zS, vJ xx, zS, vR ee, vR ms, vR aP, vR aS, vI sg, vJ mg, zS, vI c20, vR a21, vI c22, vI c23, vI c24, vI c25, vJ ((hh &&& (-1048576 : Int64)) ||| (qb &&& (1048575 : Int64))), zS, vI (Int32.ofNat (20 + kq)), zU, zU, zU]) rfl ?_
    refine XS.lload X5.here hx rfl (hb hby at_515) rfl ?_
    show Steps p.tables e below (T5.setTop (mkF m 517 #[vJ qa, zS, vJ qb, zS, vI pa, vI pb, vJ hh, zS, vI sm, vJ mm, zS, vJ xx, zS, vR ee, vR ms, vR aP, vR aS, vI sg, vJ mg, zS, vI c20, vR a21, vI c22, vI c23, vI c24, vI c25, vJ ((hh &&& (-1048576 : Int64)) ||| (qb &&& (1048575 : Int64))), zS, vI (Int32.ofNat (20 + kq)), zU, zU, zU] [(.long hh)])) _
    refine XS.lconst X5.here hx rfl (hb hby at_517) ?_
    refine XS.iload X5.here hx rfl (hb hby at_518) rfl ?_
    refine XS.lshl X5.here hx rfl (hb hby at_520) rfl ?_
    refine XS.lxor X5.here hx rfl (hb hby at_521) rfl ?_
    show Steps p.tables e below (T5.setTop (mkF m 522 #[vJ qa, zS, vJ qb, zS, vI pa, vI pb, vJ hh, zS, vI sm, vJ mm, zS, vJ xx, zS, vR ee, vR ms, vR aP, vR aS, vI sg, vJ mg, zS, vI c20, vR a21, vI c22, vI c23, vI c24, vI c25, vJ ((hh &&& (-1048576 : Int64)) ||| (qb &&& (1048575 : Int64))), zS, vI (Int32.ofNat (20 + kq)), zU, zU, zU] [(.long (hh ^^^ ((1 : Int64) <<< ((Int32.ofNat (20 + kq)) &&& 0x3f).toInt64)))])) _
    refine XS.lstore X5.here hx rfl (hb hby at_522) rfl (l' := #[vJ qa, zS, vJ qb, zS, vI pa, vI pb, vJ hh, zS, vI sm, vJ mm, zS, vJ xx, zS, vR ee, vR ms, vR aP, vR aS, vI sg, vJ mg, zS, vI c20, vR a21, vI c22, vI c23, vI c24, vI c25, vJ ((hh &&& (-1048576 : Int64)) ||| (qb &&& (1048575 : Int64))), zS, vI (Int32.ofNat (20 + kq)), vJ (hh ^^^ ((1 : Int64) <<< ((Int32.ofNat (20 + kq)) &&& 0x3f).toInt64)), zS, zU]) rfl ?_
    refine XS.aload X5.here hx rfl (hb hby at_524) rfl rfl ?_
    refine XS.lload X5.here hx rfl (hb hby at_526) rfl ?_
    refine st11.trans ?_
    show Steps p.tables e below (T11.setTop (mkF m 531 #[vJ qa, zS, vJ qb, zS, vI pa, vI pb, vJ hh, zS, vI sm, vJ mm, zS, vJ xx, zS, vR ee, vR ms, vR aP, vR aS, vI sg, vJ mg, zS, vI c20, vR a21, vI c22, vI c23, vI c24, vI c25, vJ ((hh &&& (-1048576 : Int64)) ||| (qb &&& (1048575 : Int64))), zS, vI (Int32.ofNat (20 + kq)), vJ (hh ^^^ ((1 : Int64) <<< ((Int32.ofNat (20 + kq)) &&& 0x3f).toInt64)), zS, zU] [(.ref ex11), (.ref ms)])) _
    refine st13.trans ?_
    refine st15.trans ?_
    refine XS.ifYes X15.here hx rfl (pc0 := 537) (pc' := 542) rfl (hb hby at_537) rfl ((if0 _ _).trans (teq (by decide : (0 : Int32) = (0 : Int32))).1) (by decide) (by decide) ?_
    exact kt
  exact ⟨T15, T11.vm, _, _, _, _, _, X15, hS11, (by rw [e15]; exact (hkc11)), hZ11, hown11, (by rw [e15]; exact hCR12), (by rw [e15]; exact Kk11), N15, fun target kt => pre17 target kt⟩
theorem own_up {p : Program} {l : Launch} {e : Env} {R : Room} {s : State} {m : MethodId} {args : Array Value} {below : List Frame} {meth : Method} {c : Code} {T : State} {locs : List Loc} {c1 n1 c2 n2 : Nat} (X : Stand p l e R s m args below meth c T locs c1 n1) (h1 : c1 ≤ c2) (h2 : n1 ≤ n2) : Stand p l e R s m args below meth c T locs c2 n2 :=
  ⟨X.admits, X.cas, X.clock, X.frames, X.room, X.hears, X.method, X.code, X.here, X.tail, X.warmed, X.limits, X.bytes, X.same.mono h1 h2⟩
set_option maxRecDepth 65536 in
set_option maxHeartbeats 40000000 in
theorem lw5 {p : Program} {l : Launch} {e : Env} {s : State} {m : MethodId} {args : Array Value} {below : List Frame} {meth : Method} {c : Code} {T0 : State} {locs : List Loc} {Z : State} {a0 : Array Value} {h0 : Heap} {vm0 : Vm} {k0 : Nat} (qa qb : Int64) (pa pb : Int32) (hh : Int64) (sm : Int32) (mm : Int64) (xx : Int64) (nn sz : Nat) (ee ms mv : Addr) (mk : ClassId) (aP aS a21 : Addr) (sg c20 c22 c23 c24 c25 : Int32) (mg : Int64) (l26 l29 : Int64) (c28 : Int32) (X0 : Stand p l e room_1 (s.setVm vm0) m args below meth c T0 locs 47 13107) (hx : p.tables.exec = Jvm.exec) (hZ : Z.Warmed39 vm0) (hw : ∀ d ∈ tables_1, d.before a0 Z = true) (hby : c.code = code) (hml : c.maxLocals = 32) (hown : vm0.findClass "com/example/tollplan/tollplan/CommandExceptionOutOfMemoryPinLaw" = some m.cls) (e0 : T0.heap = h0) (hS0 : s.Since vm0 k0) (hk0 : k0 ≤ h0.size) (hEL : EW Z a0 consts_1) (hCH : CHv Z consts_1 vm0 h0) (hTK : s.vm.MethodsKnown) (hBelow : s.vm.FramesKnown below) (n0 : Nat) (hz : Z.heap.size ≤ n0) (hl : l.stackTraces = true) (THz : ThS Z Z.heap) (u1 u2 : Value) (hu1 : u1.isRef = true) (hu2 : u2.isRef = true) (S_Uz : Sta Z Z.heap "java/lang/Throwable" "UNASSIGNED_STACK" "[Ljava/lang/StackTraceElement;" u1) (S_Nz : Sta Z Z.heap "java/lang/Throwable" "SUPPRESSED_SENTINEL" "Ljava/util/List;" u2) (kL : Addr) (S_Lz : Sta Z Z.heap "com/example/tollplan/tollplan/CommandException$Kind" "LOCAL" "Lcom/example/tollplan/tollplan/CommandException$Kind;" (.ref kL)) (stI dgA dgB : Addr) (DgA DgB : Cell) (tbA : SBG.Tbl Z "DigitOnes" stI dgA DgA) (tbB : SBG.Tbl Z "DigitTens" stI dgB DgB) (onA : SBG.Ones DgA) (teB : SBG.Tens DgB) (cs : Int32) (hcs : ¬ cs = (0 : Int32)) (S_Cz : Sta Z Z.heap "java/lang/String" "COMPACT_STRINGS" "Z" (.int cs)) (fm : Value) (hfm : fm.isRef = true) (S_Fz : Sta Z Z.heap "jdk/internal/util/Preconditions" "SIOOBE_FORMATTER" "Ljava/util/function/BiFunction;" fm) (N0 : Fr n0 locs) (Z0 : n0 ≤ h0.size) (KZ : Keep Z.heap h0 []) (hnn : nn ≤ 2 ^ 63) (hxn : (if xx < 0 then xx else -xx) = SBG.negL nn) (hsz : SBG.digitsL nn + SBG.GetCharsL.sgnL xx = sz) (hn18 : nn < 10 ^ 18) (R_m : SB Z h0 ms mv mk (59 + sz + 33) (fun i => Int32.ofNat ((txt xx nn sz) i))) (hsm : sm = 0 ∨ (sm = 1 ∧ ∃ i, i < 11 ∧ mm.toInt32 + (1 : Int32) = Int32.ofNat i ∧ xx.toInt = (i : Int) - 1)) :
    ∃ (T' : State) (vm' : Vm) (k' : Nat) (locs' : List Loc) (s31 : Slot), Stand p l e room_1 (s.setVm vm') m args below meth c T' locs' 70 17342 ∧ s.Since vm' k' ∧ k' ≤ T'.heap.size ∧ Z.Warmed39 vm' ∧ vm'.findClass "com/example/tollplan/tollplan/CommandExceptionOutOfMemoryPinLaw" = some m.cls ∧ CHr Z consts_1 vm0 h0 vm' T'.heap ∧ Keep h0 T'.heap [] ∧ Fr n0 locs' ∧ ∀ target, Steps p.tables e below (T'.setTop (mkF m 632 #[vJ qa, zS, vJ qb, zS, vI pa, vI pb, vJ hh, zS, vI sm, vJ mm, zS, vJ xx, zS, vR ee, vR ms, vR aP, vR aS, vI sg, vJ mg, zS, vI c20, vR a21, vI c22, vI c23, vI c24, vI c25, vJ l26, zS, vI c28, vJ l29, zS, s31] [])) target → Steps p.tables e below (T0.setTop (mkF m 542 #[vJ qa, zS, vJ qb, zS, vI pa, vI pb, vJ hh, zS, vI sm, vJ mm, zS, vJ xx, zS, vR ee, vR ms, vR aP, vR aS, vI sg, vJ mg, zS, vI c20, vR a21, vI c22, vI c23, vI c24, vI c25, vJ l26, zS, vI c28, vJ l29, zS, zU] [])) target := by
  have hCR0 : CHr Z consts_1 vm0 h0 vm0 h0 := CHr.refl hCH
  have hTKs : (s.setVm vm0).vm.MethodsKnown := Vm.MethodsKnown.alikeC hS0.1.alike hTK
  have hBls : (s.setVm vm0).vm.FramesKnown below := Vm.FramesKnown.alikeC hS0.1.alike hBelow
  have pre0 : ∀ t, Steps p.tables e below (T0.setTop (mkF m 542 #[vJ qa, zS, vJ qb, zS, vI pa, vI pb, vJ hh, zS, vI sm, vJ mm, zS, vJ xx, zS, vR ee, vR ms, vR aP, vR aS, vI sg, vJ mg, zS, vI c20, vR a21, vI c22, vI c23, vI c24, vI c25, vJ l26, zS, vI c28, vJ l29, zS, zU] [])) t → Steps p.tables e below (T0.setTop (mkF m 542 #[vJ qa, zS, vJ qb, zS, vI pa, vI pb, vJ hh, zS, vI sm, vJ mm, zS, vJ xx, zS, vR ee, vR ms, vR aP, vR aS, vI sg, vJ mg, zS, vI c20, vR a21, vI c22, vI c23, vI c24, vI c25, vJ l26, zS, vI c28, vJ l29, zS, zU] [])) t := fun _ k => k
  have S_C := own_sta_keep S_Cz KZ all0
  have S_F := own_sta_keep S_Fz KZ all0
  have S_U := own_sta_keep S_Uz KZ all0
  have S_N := own_sta_keep S_Nz KZ all0
  have S_L := own_sta_keep S_Lz KZ all0
  have TH := ThS.keep KZ (own_nst all0) THz
  have E_ms := R_m.1
  have hszl : sz ≤ 21 := by have := (SBG.digitsL_pos nn).2; have := sgnle xx; omega
  have pre1 : ∀ t, Steps p.tables e below (T0.setTop (mkF m 544 #[vJ qa, zS, vJ qb, zS, vI pa, vI pb, vJ hh, zS, vI sm, vJ mm, zS, vJ xx, zS, vR ee, vR ms, vR aP, vR aS, vI sg, vJ mg, zS, vI c20, vR a21, vI c22, vI c23, vI c24, vI c25, vJ l26, zS, vI c28, vJ l29, zS, zU] [(.int sm)])) t → Steps p.tables e below (T0.setTop (mkF m 542 #[vJ qa, zS, vJ qb, zS, vI pa, vI pb, vJ hh, zS, vI sm, vJ mm, zS, vJ xx, zS, vR ee, vR ms, vR aP, vR aS, vI sg, vJ mg, zS, vI c20, vR a21, vI c22, vI c23, vI c24, vI c25, vJ l26, zS, vI c28, vJ l29, zS, zU] [])) t := by
    intro t kt
    refine pre0 t ?_
    refine XS.iload X0.here hx rfl (hb hby at_542) rfl ?_
    exact kt
  by_cases hc2 : sm = (0 : Int32)
  · skip
    have pre3 : ∀ t, Steps p.tables e below (T0.setTop (mkF m 632 #[vJ qa, zS, vJ qb, zS, vI pa, vI pb, vJ hh, zS, vI sm, vJ mm, zS, vJ xx, zS, vR ee, vR ms, vR aP, vR aS, vI sg, vJ mg, zS, vI c20, vR a21, vI c22, vI c23, vI c24, vI c25, vJ l26, zS, vI c28, vJ l29, zS, zU] [])) t → Steps p.tables e below (T0.setTop (mkF m 542 #[vJ qa, zS, vJ qb, zS, vI pa, vI pb, vJ hh, zS, vI sm, vJ mm, zS, vJ xx, zS, vR ee, vR ms, vR aP, vR aS, vI sg, vJ mg, zS, vI c20, vR a21, vI c22, vI c23, vI c24, vI c25, vJ l26, zS, vI c28, vJ l29, zS, zU] [])) t := by
      intro t kt
      refine pre1 t ?_
      refine XS.ifYes X0.here hx rfl (pc0 := 544) (pc' := 632) rfl (hb hby at_544) rfl ((if0 _ _).trans (teq hc2).1) (by decide) (by decide) ?_
      exact kt
    exact ⟨T0, vm0, _, _, zU, (own_up X0 (by decide) (by decide)), hS0, (by rw [e0]; exact hk0), hZ, hown, (by rw [e0]; exact hCR0), (by rw [e0]; exact (Keep.refl h0 [])), N0, fun target kt => pre3 target kt⟩
  · skip
    obtain ⟨T4, h4, k4, X4, e4, E4, A4, O4, st4⟩ := newR X0 hx hZ hown (wd hw 304 rfl) (wd hw 305 rfl) e0 (g := (mkF m 549 #[vJ qa, zS, vJ qb, zS, vI pa, vI pb, vJ hh, zS, vI sm, vJ mm, zS, vJ xx, zS, vR ee, vR ms, vR aP, vR aS, vI sg, vJ mg, zS, vI c20, vR a21, vI c22, vI c23, vI c24, vI c25, vJ l26, zS, vI c28, vJ l29, zS, zU] [(.int (11 : Int32))])) rfl (hb hby at_549) rfl (by decide) (cap := 11) (by decide) (by decide) (by decide) (by decide)
    obtain ⟨b4, g4⟩ : ∃ z, z = h0.size := ⟨_, rfl⟩
    rw [← g4] at A4 st4
    have g_b4 : n0 ≤ b4 := Nat.le_trans Z0 (Nat.le_of_eq g4.symm)
    have sz_b4 : h0.size ≤ b4 := Nat.le_trans (Keep.refl h0 []).1 (Nat.le_of_eq g4.symm)
    have hCR5 : CHr Z consts_1 vm0 h0 vm0 h4 := hCR0.trans (CHr.ext E4 hCR0.1)
    have Zs4 : n0 ≤ h4.size := Nat.le_trans Z0 E4.1
    have K4 : Keep h0 h4 [] := (Keep.refl h0 []).ext E4
    have V4 : Arv Z h4 b4 k4 (.object "java/lang/String") (11 : Int32) [.null, .null, .null, .null, .null, .null, .null, .null, .null, .null, .null] .null := (Arv.new A4 (by decide)).pad (pad_rep [] .null 11)
    obtain ⟨a6, T6, h6, kk6, bb6, kb6, X6, e6, E6, hS6, hk6, hZ6, hown6, Ex6, Fc6, Fv6, Va6, la6, lb6, hC6, Lt6, sf6, st6⟩ := ldcCH (s := s) X4 hx hZ hown (wd hw 306 rfl) (own_strings hw) e4 hS0 (Nat.le_trans hk0 E4.1) hEL (by decide) hCR5.1 (vs := ((litL 0).map fun u => Value.int (Int32.ofNat u))) (z := (94 : Int32)) ⟨by decide +kernel, by decide +kernel⟩ (by decide) (by decide +kernel) (g := (mkF m 554 #[vJ qa, zS, vJ qb, zS, vI pa, vI pb, vJ hh, zS, vI sm, vJ mm, zS, vJ xx, zS, vR ee, vR ms, vR aP, vR aS, vI sg, vJ mg, zS, vI c20, vR a21, vI c22, vI c23, vI c24, vI c25, vJ l26, zS, vI c28, vJ l29, zS, zU] [(.int (0 : Int32)), (.ref b4), (.ref b4)])) rfl (hb hby at_554) (n := 380) (by decide +kernel) (by decide) (by decide) (by decide)
    have Zs6 : n0 ≤ h6.size := Nat.le_trans Zs4 E6.1
    have K6 : Keep h0 h6 [] := K4.ext E6
    have hCR7 : CHr Z consts_1 vm0 h0 T6.vm h6 := hCR5.trans hC6
    have hTK6 : (s.setVm T6.vm).vm.MethodsKnown := Vm.MethodsKnown.alikeC hS6.1.alike hTK
    have hBl6 : (s.setVm T6.vm).vm.FramesKnown below := Vm.FramesKnown.alikeC hS6.1.alike hBelow
    have V4_8 := (V4.ext E6)
    have ne6 := sf6 _ (own_safeArv (EL := consts_1) hZ6.alike V4_8 (by decide))
    obtain ⟨cl9, Ar9, qa9, Sa9, Na9, Ha9, Ga9⟩ := id V4_8
    have hin9 : ¬ ((0 : Int32) < 0 ∨ cl9.slots.size ≤ ((0 : Int32)).toNatClampNeg) := inb_of Sa9 ⟨by decide, by decide⟩
    obtain ⟨T10, h10, X10, e10, W10, st10⟩ := stR X6 hx hZ6 e6 Ar9 (j := (0 : Int32)) hin9 rfl (Sto.ofV Ar9 qa9 O4 (Ins.self Ex6)) (g := (mkF m 556 #[vJ qa, zS, vJ qb, zS, vI pa, vI pb, vJ hh, zS, vI sm, vJ mm, zS, vJ xx, zS, vR ee, vR ms, vR aP, vR aS, vI sg, vJ mg, zS, vI c20, vR a21, vI c22, vI c23, vI c24, vI c25, vJ l26, zS, vI c28, vJ l29, zS, zU] [(.ref a6), (.int (0 : Int32)), (.ref b4), (.ref b4)])) rfl rfl (hb hby at_556)
    have V10 : Arv Z h10 b4 k4 (.object "java/lang/String") (11 : Int32) [(.ref a6), .null, .null, .null, .null, .null, .null, .null, .null, .null, .null] .null := Arv.set Ar9 qa9 Sa9 Na9 Ha9 Ga9 rfl W10 0 rfl (Nat.le_of_ble_eq_true rfl)
    have hCR11 : CHr Z consts_1 vm0 h0 T6.vm h10 := hCR7.trans (CHr.wr W10 (own_safeArv (EL := consts_1) hZ6.alike V4_8 (by decide)) hCR7.1)
    have Zs10 : n0 ≤ h10.size := Nat.le_trans Zs6 (Nat.le_of_eq W10.size.symm)
    have K10 : Keep h0 h10 [] := K6.wr W10 (Or.inr sz_b4)
    have N10 := Fr.snoc X10 N0 g_b4
    obtain ⟨a12, T12, h12, kk12, bb12, kb12, X12, e12, E12, hS12, hk12, hZ12, hown12, Ex12, Fc12, Fv12, Va12, la12, lb12, hC12, Lt12, sf12, st12⟩ := ldcCH (s := s) X10 hx hZ6 hown6 (wd hw 307 rfl) (own_strings hw) e10 hS6 (Nat.le_trans hk6 (Nat.le_of_eq W10.size.symm)) hEL (by decide) hCR11.1 (vs := ((litL 1).map fun u => Value.int (Int32.ofNat u))) (z := (93 : Int32)) ⟨by decide +kernel, by decide +kernel⟩ (by decide) (by decide +kernel) (g := (mkF m 559 #[vJ qa, zS, vJ qb, zS, vI pa, vI pb, vJ hh, zS, vI sm, vJ mm, zS, vJ xx, zS, vR ee, vR ms, vR aP, vR aS, vI sg, vJ mg, zS, vI c20, vR a21, vI c22, vI c23, vI c24, vI c25, vJ l26, zS, vI c28, vJ l29, zS, zU] [(.int (1 : Int32)), (.ref b4), (.ref b4)])) rfl (hb hby at_559) (n := 380) (by decide +kernel) (by decide) (by decide) (by decide)
    have Zs12 : n0 ≤ h12.size := Nat.le_trans Zs10 E12.1
    have K12 : Keep h0 h12 [] := K10.ext E12
    have hCR13 : CHr Z consts_1 vm0 h0 T12.vm h12 := hCR11.trans hC12
    have hTK12 : (s.setVm T12.vm).vm.MethodsKnown := Vm.MethodsKnown.alikeC hS12.1.alike hTK
    have hBl12 : (s.setVm T12.vm).vm.FramesKnown below := Vm.FramesKnown.alikeC hS12.1.alike hBelow
    have V10_14 := (V10.ext E12)
    have ne12 := sf12 _ (own_safeArv (EL := consts_1) hZ12.alike V10_14 (by decide))
    obtain ⟨cl15, Ar15, qa15, Sa15, Na15, Ha15, Ga15⟩ := id V10_14
    have hin15 : ¬ ((1 : Int32) < 0 ∨ cl15.slots.size ≤ ((1 : Int32)).toNatClampNeg) := inb_of Sa15 ⟨by decide, by decide⟩
    obtain ⟨T16, h16, X16, e16, W16, st16⟩ := stR X12 hx hZ12 e12 Ar15 (j := (1 : Int32)) hin15 rfl (Sto.ofV Ar15 qa15 O4 (Ins.self Ex12)) (g := (mkF m 561 #[vJ qa, zS, vJ qb, zS, vI pa, vI pb, vJ hh, zS, vI sm, vJ mm, zS, vJ xx, zS, vR ee, vR ms, vR aP, vR aS, vI sg, vJ mg, zS, vI c20, vR a21, vI c22, vI c23, vI c24, vI c25, vJ l26, zS, vI c28, vJ l29, zS, zU] [(.ref a12), (.int (1 : Int32)), (.ref b4), (.ref b4)])) rfl rfl (hb hby at_561)
    have V16 : Arv Z h16 b4 k4 (.object "java/lang/String") (11 : Int32) [(.ref a6), (.ref a12), .null, .null, .null, .null, .null, .null, .null, .null, .null] .null := Arv.set Ar15 qa15 Sa15 Na15 Ha15 Ga15 rfl W16 1 rfl (Nat.le_of_ble_eq_true rfl)
    have hCR17 : CHr Z consts_1 vm0 h0 T12.vm h16 := hCR13.trans (CHr.wr W16 (own_safeArv (EL := consts_1) hZ12.alike V10_14 (by decide)) hCR13.1)
    have Zs16 : n0 ≤ h16.size := Nat.le_trans Zs12 (Nat.le_of_eq W16.size.symm)
    have K16 : Keep h0 h16 [] := K12.wr W16 (Or.inr sz_b4)
    have N16 := Fr.snoc X16 N10 g_b4
    obtain ⟨a18, T18, h18, kk18, bb18, kb18, X18, e18, E18, hS18, hk18, hZ18, hown18, Ex18, Fc18, Fv18, Va18, la18, lb18, hC18, Lt18, sf18, st18⟩ := ldcCH (s := s) X16 hx hZ12 hown12 (wd hw 308 rfl) (own_strings hw) e16 hS12 (Nat.le_trans hk12 (Nat.le_of_eq W16.size.symm)) hEL (by decide) hCR17.1 (vs := ((litL 2).map fun u => Value.int (Int32.ofNat u))) (z := (93 : Int32)) ⟨by decide +kernel, by decide +kernel⟩ (by decide) (by decide +kernel) (g := (mkF m 564 #[vJ qa, zS, vJ qb, zS, vI pa, vI pb, vJ hh, zS, vI sm, vJ mm, zS, vJ xx, zS, vR ee, vR ms, vR aP, vR aS, vI sg, vJ mg, zS, vI c20, vR a21, vI c22, vI c23, vI c24, vI c25, vJ l26, zS, vI c28, vJ l29, zS, zU] [(.int (2 : Int32)), (.ref b4), (.ref b4)])) rfl (hb hby at_564) (n := 380) (by decide +kernel) (by decide) (by decide) (by decide)
    have Zs18 : n0 ≤ h18.size := Nat.le_trans Zs16 E18.1
    have K18 : Keep h0 h18 [] := K16.ext E18
    have hCR19 : CHr Z consts_1 vm0 h0 T18.vm h18 := hCR17.trans hC18
    have hTK18 : (s.setVm T18.vm).vm.MethodsKnown := Vm.MethodsKnown.alikeC hS18.1.alike hTK
    have hBl18 : (s.setVm T18.vm).vm.FramesKnown below := Vm.FramesKnown.alikeC hS18.1.alike hBelow
    have V16_20 := (V16.ext E18)
    have ne18 := sf18 _ (own_safeArv (EL := consts_1) hZ18.alike V16_20 (by decide))
    obtain ⟨cl21, Ar21, qa21, Sa21, Na21, Ha21, Ga21⟩ := id V16_20
    have hin21 : ¬ ((2 : Int32) < 0 ∨ cl21.slots.size ≤ ((2 : Int32)).toNatClampNeg) := inb_of Sa21 ⟨by decide, by decide⟩
    obtain ⟨T22, h22, X22, e22, W22, st22⟩ := stR X18 hx hZ18 e18 Ar21 (j := (2 : Int32)) hin21 rfl (Sto.ofV Ar21 qa21 O4 (Ins.self Ex18)) (g := (mkF m 566 #[vJ qa, zS, vJ qb, zS, vI pa, vI pb, vJ hh, zS, vI sm, vJ mm, zS, vJ xx, zS, vR ee, vR ms, vR aP, vR aS, vI sg, vJ mg, zS, vI c20, vR a21, vI c22, vI c23, vI c24, vI c25, vJ l26, zS, vI c28, vJ l29, zS, zU] [(.ref a18), (.int (2 : Int32)), (.ref b4), (.ref b4)])) rfl rfl (hb hby at_566)
    have V22 : Arv Z h22 b4 k4 (.object "java/lang/String") (11 : Int32) [(.ref a6), (.ref a12), (.ref a18), .null, .null, .null, .null, .null, .null, .null, .null] .null := Arv.set Ar21 qa21 Sa21 Na21 Ha21 Ga21 rfl W22 2 rfl (Nat.le_of_ble_eq_true rfl)
    have hCR23 : CHr Z consts_1 vm0 h0 T18.vm h22 := hCR19.trans (CHr.wr W22 (own_safeArv (EL := consts_1) hZ18.alike V16_20 (by decide)) hCR19.1)
    have Zs22 : n0 ≤ h22.size := Nat.le_trans Zs18 (Nat.le_of_eq W22.size.symm)
    have K22 : Keep h0 h22 [] := K18.wr W22 (Or.inr sz_b4)
    have N22 := Fr.snoc X22 N16 g_b4
    obtain ⟨a24, T24, h24, kk24, bb24, kb24, X24, e24, E24, hS24, hk24, hZ24, hown24, Ex24, Fc24, Fv24, Va24, la24, lb24, hC24, Lt24, sf24, st24⟩ := ldcCH (s := s) X22 hx hZ18 hown18 (wd hw 309 rfl) (own_strings hw) e22 hS18 (Nat.le_trans hk18 (Nat.le_of_eq W22.size.symm)) hEL (by decide) hCR23.1 (vs := ((litL 3).map fun u => Value.int (Int32.ofNat u))) (z := (93 : Int32)) ⟨by decide +kernel, by decide +kernel⟩ (by decide) (by decide +kernel) (g := (mkF m 569 #[vJ qa, zS, vJ qb, zS, vI pa, vI pb, vJ hh, zS, vI sm, vJ mm, zS, vJ xx, zS, vR ee, vR ms, vR aP, vR aS, vI sg, vJ mg, zS, vI c20, vR a21, vI c22, vI c23, vI c24, vI c25, vJ l26, zS, vI c28, vJ l29, zS, zU] [(.int (3 : Int32)), (.ref b4), (.ref b4)])) rfl (hb hby at_569) (n := 380) (by decide +kernel) (by decide) (by decide) (by decide)
    have Zs24 : n0 ≤ h24.size := Nat.le_trans Zs22 E24.1
    have K24 : Keep h0 h24 [] := K22.ext E24
    have hCR25 : CHr Z consts_1 vm0 h0 T24.vm h24 := hCR23.trans hC24
    have hTK24 : (s.setVm T24.vm).vm.MethodsKnown := Vm.MethodsKnown.alikeC hS24.1.alike hTK
    have hBl24 : (s.setVm T24.vm).vm.FramesKnown below := Vm.FramesKnown.alikeC hS24.1.alike hBelow
    have V22_26 := (V22.ext E24)
    have ne24 := sf24 _ (own_safeArv (EL := consts_1) hZ24.alike V22_26 (by decide))
    obtain ⟨cl27, Ar27, qa27, Sa27, Na27, Ha27, Ga27⟩ := id V22_26
    have hin27 : ¬ ((3 : Int32) < 0 ∨ cl27.slots.size ≤ ((3 : Int32)).toNatClampNeg) := inb_of Sa27 ⟨by decide, by decide⟩
    obtain ⟨T28, h28, X28, e28, W28, st28⟩ := stR X24 hx hZ24 e24 Ar27 (j := (3 : Int32)) hin27 rfl (Sto.ofV Ar27 qa27 O4 (Ins.self Ex24)) (g := (mkF m 571 #[vJ qa, zS, vJ qb, zS, vI pa, vI pb, vJ hh, zS, vI sm, vJ mm, zS, vJ xx, zS, vR ee, vR ms, vR aP, vR aS, vI sg, vJ mg, zS, vI c20, vR a21, vI c22, vI c23, vI c24, vI c25, vJ l26, zS, vI c28, vJ l29, zS, zU] [(.ref a24), (.int (3 : Int32)), (.ref b4), (.ref b4)])) rfl rfl (hb hby at_571)
    have V28 : Arv Z h28 b4 k4 (.object "java/lang/String") (11 : Int32) [(.ref a6), (.ref a12), (.ref a18), (.ref a24), .null, .null, .null, .null, .null, .null, .null] .null := Arv.set Ar27 qa27 Sa27 Na27 Ha27 Ga27 rfl W28 3 rfl (Nat.le_of_ble_eq_true rfl)
    have hCR29 : CHr Z consts_1 vm0 h0 T24.vm h28 := hCR25.trans (CHr.wr W28 (own_safeArv (EL := consts_1) hZ24.alike V22_26 (by decide)) hCR25.1)
    have Zs28 : n0 ≤ h28.size := Nat.le_trans Zs24 (Nat.le_of_eq W28.size.symm)
    have K28 : Keep h0 h28 [] := K24.wr W28 (Or.inr sz_b4)
    have N28 := Fr.snoc X28 N22 g_b4
    obtain ⟨a30, T30, h30, kk30, bb30, kb30, X30, e30, E30, hS30, hk30, hZ30, hown30, Ex30, Fc30, Fv30, Va30, la30, lb30, hC30, Lt30, sf30, st30⟩ := ldcCH (s := s) X28 hx hZ24 hown24 (wd hw 310 rfl) (own_strings hw) e28 hS24 (Nat.le_trans hk24 (Nat.le_of_eq W28.size.symm)) hEL (by decide) hCR29.1 (vs := ((litL 4).map fun u => Value.int (Int32.ofNat u))) (z := (93 : Int32)) ⟨by decide +kernel, by decide +kernel⟩ (by decide) (by decide +kernel) (g := (mkF m 574 #[vJ qa, zS, vJ qb, zS, vI pa, vI pb, vJ hh, zS, vI sm, vJ mm, zS, vJ xx, zS, vR ee, vR ms, vR aP, vR aS, vI sg, vJ mg, zS, vI c20, vR a21, vI c22, vI c23, vI c24, vI c25, vJ l26, zS, vI c28, vJ l29, zS, zU] [(.int (4 : Int32)), (.ref b4), (.ref b4)])) rfl (hb hby at_574) (n := 380) (by decide +kernel) (by decide) (by decide) (by decide)
    have Zs30 : n0 ≤ h30.size := Nat.le_trans Zs28 E30.1
    have K30 : Keep h0 h30 [] := K28.ext E30
    have hCR31 : CHr Z consts_1 vm0 h0 T30.vm h30 := hCR29.trans hC30
    have hTK30 : (s.setVm T30.vm).vm.MethodsKnown := Vm.MethodsKnown.alikeC hS30.1.alike hTK
    have hBl30 : (s.setVm T30.vm).vm.FramesKnown below := Vm.FramesKnown.alikeC hS30.1.alike hBelow
    have V28_32 := (V28.ext E30)
    have ne30 := sf30 _ (own_safeArv (EL := consts_1) hZ30.alike V28_32 (by decide))
    obtain ⟨cl33, Ar33, qa33, Sa33, Na33, Ha33, Ga33⟩ := id V28_32
    have hin33 : ¬ ((4 : Int32) < 0 ∨ cl33.slots.size ≤ ((4 : Int32)).toNatClampNeg) := inb_of Sa33 ⟨by decide, by decide⟩
    obtain ⟨T34, h34, X34, e34, W34, st34⟩ := stR X30 hx hZ30 e30 Ar33 (j := (4 : Int32)) hin33 rfl (Sto.ofV Ar33 qa33 O4 (Ins.self Ex30)) (g := (mkF m 576 #[vJ qa, zS, vJ qb, zS, vI pa, vI pb, vJ hh, zS, vI sm, vJ mm, zS, vJ xx, zS, vR ee, vR ms, vR aP, vR aS, vI sg, vJ mg, zS, vI c20, vR a21, vI c22, vI c23, vI c24, vI c25, vJ l26, zS, vI c28, vJ l29, zS, zU] [(.ref a30), (.int (4 : Int32)), (.ref b4), (.ref b4)])) rfl rfl (hb hby at_576)
    have V34 : Arv Z h34 b4 k4 (.object "java/lang/String") (11 : Int32) [(.ref a6), (.ref a12), (.ref a18), (.ref a24), (.ref a30), .null, .null, .null, .null, .null, .null] .null := Arv.set Ar33 qa33 Sa33 Na33 Ha33 Ga33 rfl W34 4 rfl (Nat.le_of_ble_eq_true rfl)
    have hCR35 : CHr Z consts_1 vm0 h0 T30.vm h34 := hCR31.trans (CHr.wr W34 (own_safeArv (EL := consts_1) hZ30.alike V28_32 (by decide)) hCR31.1)
    have Zs34 : n0 ≤ h34.size := Nat.le_trans Zs30 (Nat.le_of_eq W34.size.symm)
    have K34 : Keep h0 h34 [] := K30.wr W34 (Or.inr sz_b4)
    have N34 := Fr.snoc X34 N28 g_b4
    obtain ⟨a36, T36, h36, kk36, bb36, kb36, X36, e36, E36, hS36, hk36, hZ36, hown36, Ex36, Fc36, Fv36, Va36, la36, lb36, hC36, Lt36, sf36, st36⟩ := ldcCH (s := s) X34 hx hZ30 hown30 (wd hw 311 rfl) (own_strings hw) e34 hS30 (Nat.le_trans hk30 (Nat.le_of_eq W34.size.symm)) hEL (by decide) hCR35.1 (vs := ((litL 5).map fun u => Value.int (Int32.ofNat u))) (z := (93 : Int32)) ⟨by decide +kernel, by decide +kernel⟩ (by decide) (by decide +kernel) (g := (mkF m 579 #[vJ qa, zS, vJ qb, zS, vI pa, vI pb, vJ hh, zS, vI sm, vJ mm, zS, vJ xx, zS, vR ee, vR ms, vR aP, vR aS, vI sg, vJ mg, zS, vI c20, vR a21, vI c22, vI c23, vI c24, vI c25, vJ l26, zS, vI c28, vJ l29, zS, zU] [(.int (5 : Int32)), (.ref b4), (.ref b4)])) rfl (hb hby at_579) (n := 380) (by decide +kernel) (by decide) (by decide) (by decide)
    have Zs36 : n0 ≤ h36.size := Nat.le_trans Zs34 E36.1
    have K36 : Keep h0 h36 [] := K34.ext E36
    have hCR37 : CHr Z consts_1 vm0 h0 T36.vm h36 := hCR35.trans hC36
    have hTK36 : (s.setVm T36.vm).vm.MethodsKnown := Vm.MethodsKnown.alikeC hS36.1.alike hTK
    have hBl36 : (s.setVm T36.vm).vm.FramesKnown below := Vm.FramesKnown.alikeC hS36.1.alike hBelow
    have V34_38 := (V34.ext E36)
    have ne36 := sf36 _ (own_safeArv (EL := consts_1) hZ36.alike V34_38 (by decide))
    obtain ⟨cl39, Ar39, qa39, Sa39, Na39, Ha39, Ga39⟩ := id V34_38
    have hin39 : ¬ ((5 : Int32) < 0 ∨ cl39.slots.size ≤ ((5 : Int32)).toNatClampNeg) := inb_of Sa39 ⟨by decide, by decide⟩
    obtain ⟨T40, h40, X40, e40, W40, st40⟩ := stR X36 hx hZ36 e36 Ar39 (j := (5 : Int32)) hin39 rfl (Sto.ofV Ar39 qa39 O4 (Ins.self Ex36)) (g := (mkF m 581 #[vJ qa, zS, vJ qb, zS, vI pa, vI pb, vJ hh, zS, vI sm, vJ mm, zS, vJ xx, zS, vR ee, vR ms, vR aP, vR aS, vI sg, vJ mg, zS, vI c20, vR a21, vI c22, vI c23, vI c24, vI c25, vJ l26, zS, vI c28, vJ l29, zS, zU] [(.ref a36), (.int (5 : Int32)), (.ref b4), (.ref b4)])) rfl rfl (hb hby at_581)
    have V40 : Arv Z h40 b4 k4 (.object "java/lang/String") (11 : Int32) [(.ref a6), (.ref a12), (.ref a18), (.ref a24), (.ref a30), (.ref a36), .null, .null, .null, .null, .null] .null := Arv.set Ar39 qa39 Sa39 Na39 Ha39 Ga39 rfl W40 5 rfl (Nat.le_of_ble_eq_true rfl)
    have hCR41 : CHr Z consts_1 vm0 h0 T36.vm h40 := hCR37.trans (CHr.wr W40 (own_safeArv (EL := consts_1) hZ36.alike V34_38 (by decide)) hCR37.1)
    have Zs40 : n0 ≤ h40.size := Nat.le_trans Zs36 (Nat.le_of_eq W40.size.symm)
    have K40 : Keep h0 h40 [] := K36.wr W40 (Or.inr sz_b4)
    have N40 := Fr.snoc X40 N34 g_b4
    obtain ⟨a42, T42, h42, kk42, bb42, kb42, X42, e42, E42, hS42, hk42, hZ42, hown42, Ex42, Fc42, Fv42, Va42, la42, lb42, hC42, Lt42, sf42, st42⟩ := ldcCH (s := s) X40 hx hZ36 hown36 (wd hw 312 rfl) (own_strings hw) e40 hS36 (Nat.le_trans hk36 (Nat.le_of_eq W40.size.symm)) hEL (by decide) hCR41.1 (vs := ((litL 6).map fun u => Value.int (Int32.ofNat u))) (z := (93 : Int32)) ⟨by decide +kernel, by decide +kernel⟩ (by decide) (by decide +kernel) (g := (mkF m 585 #[vJ qa, zS, vJ qb, zS, vI pa, vI pb, vJ hh, zS, vI sm, vJ mm, zS, vJ xx, zS, vR ee, vR ms, vR aP, vR aS, vI sg, vJ mg, zS, vI c20, vR a21, vI c22, vI c23, vI c24, vI c25, vJ l26, zS, vI c28, vJ l29, zS, zU] [(.int (6 : Int32)), (.ref b4), (.ref b4)])) rfl (hb hby at_585) (n := 380) (by decide +kernel) (by decide) (by decide) (by decide)
    have Zs42 : n0 ≤ h42.size := Nat.le_trans Zs40 E42.1
    have K42 : Keep h0 h42 [] := K40.ext E42
    have hCR43 : CHr Z consts_1 vm0 h0 T42.vm h42 := hCR41.trans hC42
    have hTK42 : (s.setVm T42.vm).vm.MethodsKnown := Vm.MethodsKnown.alikeC hS42.1.alike hTK
    have hBl42 : (s.setVm T42.vm).vm.FramesKnown below := Vm.FramesKnown.alikeC hS42.1.alike hBelow
    have V40_44 := (V40.ext E42)
    have ne42 := sf42 _ (own_safeArv (EL := consts_1) hZ42.alike V40_44 (by decide))
    obtain ⟨cl45, Ar45, qa45, Sa45, Na45, Ha45, Ga45⟩ := id V40_44
    have hin45 : ¬ ((6 : Int32) < 0 ∨ cl45.slots.size ≤ ((6 : Int32)).toNatClampNeg) := inb_of Sa45 ⟨by decide, by decide⟩
    obtain ⟨T46, h46, X46, e46, W46, st46⟩ := stR X42 hx hZ42 e42 Ar45 (j := (6 : Int32)) hin45 rfl (Sto.ofV Ar45 qa45 O4 (Ins.self Ex42)) (g := (mkF m 587 #[vJ qa, zS, vJ qb, zS, vI pa, vI pb, vJ hh, zS, vI sm, vJ mm, zS, vJ xx, zS, vR ee, vR ms, vR aP, vR aS, vI sg, vJ mg, zS, vI c20, vR a21, vI c22, vI c23, vI c24, vI c25, vJ l26, zS, vI c28, vJ l29, zS, zU] [(.ref a42), (.int (6 : Int32)), (.ref b4), (.ref b4)])) rfl rfl (hb hby at_587)
    have V46 : Arv Z h46 b4 k4 (.object "java/lang/String") (11 : Int32) [(.ref a6), (.ref a12), (.ref a18), (.ref a24), (.ref a30), (.ref a36), (.ref a42), .null, .null, .null, .null] .null := Arv.set Ar45 qa45 Sa45 Na45 Ha45 Ga45 rfl W46 6 rfl (Nat.le_of_ble_eq_true rfl)
    have hCR47 : CHr Z consts_1 vm0 h0 T42.vm h46 := hCR43.trans (CHr.wr W46 (own_safeArv (EL := consts_1) hZ42.alike V40_44 (by decide)) hCR43.1)
    have Zs46 : n0 ≤ h46.size := Nat.le_trans Zs42 (Nat.le_of_eq W46.size.symm)
    have K46 : Keep h0 h46 [] := K42.wr W46 (Or.inr sz_b4)
    have N46 := Fr.snoc X46 N40 g_b4
    obtain ⟨a48, T48, h48, kk48, bb48, kb48, X48, e48, E48, hS48, hk48, hZ48, hown48, Ex48, Fc48, Fv48, Va48, la48, lb48, hC48, Lt48, sf48, st48⟩ := ldcCH (s := s) X46 hx hZ42 hown42 (wd hw 313 rfl) (own_strings hw) e46 hS42 (Nat.le_trans hk42 (Nat.le_of_eq W46.size.symm)) hEL (by decide) hCR47.1 (vs := ((litL 7).map fun u => Value.int (Int32.ofNat u))) (z := (93 : Int32)) ⟨by decide +kernel, by decide +kernel⟩ (by decide) (by decide +kernel) (g := (mkF m 591 #[vJ qa, zS, vJ qb, zS, vI pa, vI pb, vJ hh, zS, vI sm, vJ mm, zS, vJ xx, zS, vR ee, vR ms, vR aP, vR aS, vI sg, vJ mg, zS, vI c20, vR a21, vI c22, vI c23, vI c24, vI c25, vJ l26, zS, vI c28, vJ l29, zS, zU] [(.int (7 : Int32)), (.ref b4), (.ref b4)])) rfl (hb hby at_591) (n := 380) (by decide +kernel) (by decide) (by decide) (by decide)
    have Zs48 : n0 ≤ h48.size := Nat.le_trans Zs46 E48.1
    have K48 : Keep h0 h48 [] := K46.ext E48
    have hCR49 : CHr Z consts_1 vm0 h0 T48.vm h48 := hCR47.trans hC48
    have hTK48 : (s.setVm T48.vm).vm.MethodsKnown := Vm.MethodsKnown.alikeC hS48.1.alike hTK
    have hBl48 : (s.setVm T48.vm).vm.FramesKnown below := Vm.FramesKnown.alikeC hS48.1.alike hBelow
    have V46_50 := (V46.ext E48)
    have ne48 := sf48 _ (own_safeArv (EL := consts_1) hZ48.alike V46_50 (by decide))
    obtain ⟨cl51, Ar51, qa51, Sa51, Na51, Ha51, Ga51⟩ := id V46_50
    have hin51 : ¬ ((7 : Int32) < 0 ∨ cl51.slots.size ≤ ((7 : Int32)).toNatClampNeg) := inb_of Sa51 ⟨by decide, by decide⟩
    obtain ⟨T52, h52, X52, e52, W52, st52⟩ := stR X48 hx hZ48 e48 Ar51 (j := (7 : Int32)) hin51 rfl (Sto.ofV Ar51 qa51 O4 (Ins.self Ex48)) (g := (mkF m 593 #[vJ qa, zS, vJ qb, zS, vI pa, vI pb, vJ hh, zS, vI sm, vJ mm, zS, vJ xx, zS, vR ee, vR ms, vR aP, vR aS, vI sg, vJ mg, zS, vI c20, vR a21, vI c22, vI c23, vI c24, vI c25, vJ l26, zS, vI c28, vJ l29, zS, zU] [(.ref a48), (.int (7 : Int32)), (.ref b4), (.ref b4)])) rfl rfl (hb hby at_593)
    have V52 : Arv Z h52 b4 k4 (.object "java/lang/String") (11 : Int32) [(.ref a6), (.ref a12), (.ref a18), (.ref a24), (.ref a30), (.ref a36), (.ref a42), (.ref a48), .null, .null, .null] .null := Arv.set Ar51 qa51 Sa51 Na51 Ha51 Ga51 rfl W52 7 rfl (Nat.le_of_ble_eq_true rfl)
    have hCR53 : CHr Z consts_1 vm0 h0 T48.vm h52 := hCR49.trans (CHr.wr W52 (own_safeArv (EL := consts_1) hZ48.alike V46_50 (by decide)) hCR49.1)
    have Zs52 : n0 ≤ h52.size := Nat.le_trans Zs48 (Nat.le_of_eq W52.size.symm)
    have K52 : Keep h0 h52 [] := K48.wr W52 (Or.inr sz_b4)
    have N52 := Fr.snoc X52 N46 g_b4
    obtain ⟨a54, T54, h54, kk54, bb54, kb54, X54, e54, E54, hS54, hk54, hZ54, hown54, Ex54, Fc54, Fv54, Va54, la54, lb54, hC54, Lt54, sf54, st54⟩ := ldcCH (s := s) X52 hx hZ48 hown48 (wd hw 314 rfl) (own_strings hw) e52 hS48 (Nat.le_trans hk48 (Nat.le_of_eq W52.size.symm)) hEL (by decide) hCR53.1 (vs := ((litL 8).map fun u => Value.int (Int32.ofNat u))) (z := (93 : Int32)) ⟨by decide +kernel, by decide +kernel⟩ (by decide) (by decide +kernel) (g := (mkF m 597 #[vJ qa, zS, vJ qb, zS, vI pa, vI pb, vJ hh, zS, vI sm, vJ mm, zS, vJ xx, zS, vR ee, vR ms, vR aP, vR aS, vI sg, vJ mg, zS, vI c20, vR a21, vI c22, vI c23, vI c24, vI c25, vJ l26, zS, vI c28, vJ l29, zS, zU] [(.int (8 : Int32)), (.ref b4), (.ref b4)])) rfl (hb hby at_597) (n := 380) (by decide +kernel) (by decide) (by decide) (by decide)
    have Zs54 : n0 ≤ h54.size := Nat.le_trans Zs52 E54.1
    have K54 : Keep h0 h54 [] := K52.ext E54
    have hCR55 : CHr Z consts_1 vm0 h0 T54.vm h54 := hCR53.trans hC54
    have hTK54 : (s.setVm T54.vm).vm.MethodsKnown := Vm.MethodsKnown.alikeC hS54.1.alike hTK
    have hBl54 : (s.setVm T54.vm).vm.FramesKnown below := Vm.FramesKnown.alikeC hS54.1.alike hBelow
    have V52_56 := (V52.ext E54)
    have ne54 := sf54 _ (own_safeArv (EL := consts_1) hZ54.alike V52_56 (by decide))
    obtain ⟨cl57, Ar57, qa57, Sa57, Na57, Ha57, Ga57⟩ := id V52_56
    have hin57 : ¬ ((8 : Int32) < 0 ∨ cl57.slots.size ≤ ((8 : Int32)).toNatClampNeg) := inb_of Sa57 ⟨by decide, by decide⟩
    obtain ⟨T58, h58, X58, e58, W58, st58⟩ := stR X54 hx hZ54 e54 Ar57 (j := (8 : Int32)) hin57 rfl (Sto.ofV Ar57 qa57 O4 (Ins.self Ex54)) (g := (mkF m 599 #[vJ qa, zS, vJ qb, zS, vI pa, vI pb, vJ hh, zS, vI sm, vJ mm, zS, vJ xx, zS, vR ee, vR ms, vR aP, vR aS, vI sg, vJ mg, zS, vI c20, vR a21, vI c22, vI c23, vI c24, vI c25, vJ l26, zS, vI c28, vJ l29, zS, zU] [(.ref a54), (.int (8 : Int32)), (.ref b4), (.ref b4)])) rfl rfl (hb hby at_599)
    have V58 : Arv Z h58 b4 k4 (.object "java/lang/String") (11 : Int32) [(.ref a6), (.ref a12), (.ref a18), (.ref a24), (.ref a30), (.ref a36), (.ref a42), (.ref a48), (.ref a54), .null, .null] .null := Arv.set Ar57 qa57 Sa57 Na57 Ha57 Ga57 rfl W58 8 rfl (Nat.le_of_ble_eq_true rfl)
    have hCR59 : CHr Z consts_1 vm0 h0 T54.vm h58 := hCR55.trans (CHr.wr W58 (own_safeArv (EL := consts_1) hZ54.alike V52_56 (by decide)) hCR55.1)
    have Zs58 : n0 ≤ h58.size := Nat.le_trans Zs54 (Nat.le_of_eq W58.size.symm)
    have K58 : Keep h0 h58 [] := K54.wr W58 (Or.inr sz_b4)
    have N58 := Fr.snoc X58 N52 g_b4
    obtain ⟨a60, T60, h60, kk60, bb60, kb60, X60, e60, E60, hS60, hk60, hZ60, hown60, Ex60, Fc60, Fv60, Va60, la60, lb60, hC60, Lt60, sf60, st60⟩ := ldcCH (s := s) X58 hx hZ54 hown54 (wd hw 315 rfl) (own_strings hw) e58 hS54 (Nat.le_trans hk54 (Nat.le_of_eq W58.size.symm)) hEL (by decide) hCR59.1 (vs := ((litL 9).map fun u => Value.int (Int32.ofNat u))) (z := (93 : Int32)) ⟨by decide +kernel, by decide +kernel⟩ (by decide) (by decide +kernel) (g := (mkF m 603 #[vJ qa, zS, vJ qb, zS, vI pa, vI pb, vJ hh, zS, vI sm, vJ mm, zS, vJ xx, zS, vR ee, vR ms, vR aP, vR aS, vI sg, vJ mg, zS, vI c20, vR a21, vI c22, vI c23, vI c24, vI c25, vJ l26, zS, vI c28, vJ l29, zS, zU] [(.int (9 : Int32)), (.ref b4), (.ref b4)])) rfl (hb hby at_603) (n := 380) (by decide +kernel) (by decide) (by decide) (by decide)
    have Zs60 : n0 ≤ h60.size := Nat.le_trans Zs58 E60.1
    have K60 : Keep h0 h60 [] := K58.ext E60
    have hCR61 : CHr Z consts_1 vm0 h0 T60.vm h60 := hCR59.trans hC60
    have hTK60 : (s.setVm T60.vm).vm.MethodsKnown := Vm.MethodsKnown.alikeC hS60.1.alike hTK
    have hBl60 : (s.setVm T60.vm).vm.FramesKnown below := Vm.FramesKnown.alikeC hS60.1.alike hBelow
    have V58_62 := (V58.ext E60)
    have ne60 := sf60 _ (own_safeArv (EL := consts_1) hZ60.alike V58_62 (by decide))
    obtain ⟨cl63, Ar63, qa63, Sa63, Na63, Ha63, Ga63⟩ := id V58_62
    have hin63 : ¬ ((9 : Int32) < 0 ∨ cl63.slots.size ≤ ((9 : Int32)).toNatClampNeg) := inb_of Sa63 ⟨by decide, by decide⟩
    obtain ⟨T64, h64, X64, e64, W64, st64⟩ := stR X60 hx hZ60 e60 Ar63 (j := (9 : Int32)) hin63 rfl (Sto.ofV Ar63 qa63 O4 (Ins.self Ex60)) (g := (mkF m 605 #[vJ qa, zS, vJ qb, zS, vI pa, vI pb, vJ hh, zS, vI sm, vJ mm, zS, vJ xx, zS, vR ee, vR ms, vR aP, vR aS, vI sg, vJ mg, zS, vI c20, vR a21, vI c22, vI c23, vI c24, vI c25, vJ l26, zS, vI c28, vJ l29, zS, zU] [(.ref a60), (.int (9 : Int32)), (.ref b4), (.ref b4)])) rfl rfl (hb hby at_605)
    have V64 : Arv Z h64 b4 k4 (.object "java/lang/String") (11 : Int32) [(.ref a6), (.ref a12), (.ref a18), (.ref a24), (.ref a30), (.ref a36), (.ref a42), (.ref a48), (.ref a54), (.ref a60), .null] .null := Arv.set Ar63 qa63 Sa63 Na63 Ha63 Ga63 rfl W64 9 rfl (Nat.le_of_ble_eq_true rfl)
    have hCR65 : CHr Z consts_1 vm0 h0 T60.vm h64 := hCR61.trans (CHr.wr W64 (own_safeArv (EL := consts_1) hZ60.alike V58_62 (by decide)) hCR61.1)
    have Zs64 : n0 ≤ h64.size := Nat.le_trans Zs60 (Nat.le_of_eq W64.size.symm)
    have K64 : Keep h0 h64 [] := K60.wr W64 (Or.inr sz_b4)
    have N64 := Fr.snoc X64 N58 g_b4
    obtain ⟨a66, T66, h66, kk66, bb66, kb66, X66, e66, E66, hS66, hk66, hZ66, hown66, Ex66, Fc66, Fv66, Va66, la66, lb66, hC66, Lt66, sf66, st66⟩ := ldcCH (s := s) X64 hx hZ60 hown60 (wd hw 316 rfl) (own_strings hw) e64 hS60 (Nat.le_trans hk60 (Nat.le_of_eq W64.size.symm)) hEL (by decide) hCR65.1 (vs := ((litL 10).map fun u => Value.int (Int32.ofNat u))) (z := (93 : Int32)) ⟨by decide +kernel, by decide +kernel⟩ (by decide) (by decide +kernel) (g := (mkF m 609 #[vJ qa, zS, vJ qb, zS, vI pa, vI pb, vJ hh, zS, vI sm, vJ mm, zS, vJ xx, zS, vR ee, vR ms, vR aP, vR aS, vI sg, vJ mg, zS, vI c20, vR a21, vI c22, vI c23, vI c24, vI c25, vJ l26, zS, vI c28, vJ l29, zS, zU] [(.int (10 : Int32)), (.ref b4), (.ref b4)])) rfl (hb hby at_609) (n := 380) (by decide +kernel) (by decide) (by decide) (by decide)
    have Zs66 : n0 ≤ h66.size := Nat.le_trans Zs64 E66.1
    have K66 : Keep h0 h66 [] := K64.ext E66
    have hCR67 : CHr Z consts_1 vm0 h0 T66.vm h66 := hCR65.trans hC66
    have hTK66 : (s.setVm T66.vm).vm.MethodsKnown := Vm.MethodsKnown.alikeC hS66.1.alike hTK
    have hBl66 : (s.setVm T66.vm).vm.FramesKnown below := Vm.FramesKnown.alikeC hS66.1.alike hBelow
    have V64_68 := (V64.ext E66)
    have ne66 := sf66 _ (own_safeArv (EL := consts_1) hZ66.alike V64_68 (by decide))
    obtain ⟨cl69, Ar69, qa69, Sa69, Na69, Ha69, Ga69⟩ := id V64_68
    have hin69 : ¬ ((10 : Int32) < 0 ∨ cl69.slots.size ≤ ((10 : Int32)).toNatClampNeg) := inb_of Sa69 ⟨by decide, by decide⟩
    obtain ⟨T70, h70, X70, e70, W70, st70⟩ := stR X66 hx hZ66 e66 Ar69 (j := (10 : Int32)) hin69 rfl (Sto.ofV Ar69 qa69 O4 (Ins.self Ex66)) (g := (mkF m 611 #[vJ qa, zS, vJ qb, zS, vI pa, vI pb, vJ hh, zS, vI sm, vJ mm, zS, vJ xx, zS, vR ee, vR ms, vR aP, vR aS, vI sg, vJ mg, zS, vI c20, vR a21, vI c22, vI c23, vI c24, vI c25, vJ l26, zS, vI c28, vJ l29, zS, zU] [(.ref a66), (.int (10 : Int32)), (.ref b4), (.ref b4)])) rfl rfl (hb hby at_611)
    have V70 : Arv Z h70 b4 k4 (.object "java/lang/String") (11 : Int32) [(.ref a6), (.ref a12), (.ref a18), (.ref a24), (.ref a30), (.ref a36), (.ref a42), (.ref a48), (.ref a54), (.ref a60), (.ref a66)] .null := Arv.set Ar69 qa69 Sa69 Na69 Ha69 Ga69 rfl W70 10 rfl (Nat.le_of_ble_eq_true rfl)
    have hCR71 : CHr Z consts_1 vm0 h0 T66.vm h70 := hCR67.trans (CHr.wr W70 (own_safeArv (EL := consts_1) hZ66.alike V64_68 (by decide)) hCR67.1)
    have Zs70 : n0 ≤ h70.size := Nat.le_trans Zs66 (Nat.le_of_eq W70.size.symm)
    have K70 : Keep h0 h70 [] := K66.wr W70 (Or.inr sz_b4)
    have N70 := Fr.snoc X70 N64 g_b4
    obtain ⟨ix, hix, eix, exi⟩ : ∃ i, i < 11 ∧ mm.toInt32 + (1 : Int32) = Int32.ofNat i ∧ xx.toInt = (i : Int) - 1 := by rcases hsm with q | q; exact absurd q hc2; exact q.2
    obtain ⟨cl72, Ar72, qa72, Sa72, Na72, Ha72, Ga72⟩ := id V70
    have hin72 : ¬ ((Int32.ofNat ix) < 0 ∨ cl72.slots.size ≤ ((Int32.ofNat ix)).toNatClampNeg) := inb_of Sa72 ⟨by rw [Int32.lt_iff_toInt_lt, own_i32 (by omega)]; show ¬ (ix : Int) < 0; omega, (own_ltI (j := 11) (by omega) (by decide)).mpr (by omega)⟩
    have hat72 := Ha72.at hin72 (v := (.ref (([a6, a12, a18, a24, a30, a36, a42, a48, a54, a60, a66] : List Addr).getD ix 0))) (by rw [own_cl (by omega)]; exact own_refs [a6, a12, a18, a24, a30, a36, a42, a48, a54, a60, a66] (by show ix < 11; omega))
    have Ex6_73 := (((((((((((((((((((((Ex6.wr W10).ext E12).wr W16).ext E18).wr W22).ext E24).wr W28).ext E30).wr W34).ext E36).wr W40).ext E42).wr W46).ext E48).wr W52).ext E54).wr W58).ext E60).wr W64).ext E66).wr W70)
    have Fc6_74 := (((((((((((((((((((((Fc6.other W10 (Or.inl (Ne.symm ne6.1))).ext E12).other W16 (Or.inl (Ne.symm ne6.1))).ext E18).other W22 (Or.inl (Ne.symm ne6.1))).ext E24).other W28 (Or.inl (Ne.symm ne6.1))).ext E30).other W34 (Or.inl (Ne.symm ne6.1))).ext E36).other W40 (Or.inl (Ne.symm ne6.1))).ext E42).other W46 (Or.inl (Ne.symm ne6.1))).ext E48).other W52 (Or.inl (Ne.symm ne6.1))).ext E54).other W58 (Or.inl (Ne.symm ne6.1))).ext E60).other W64 (Or.inl (Ne.symm ne6.1))).ext E66).other W70 (Or.inl (Ne.symm ne6.1)))
    have Fv6_75 := (((((((((((((((((((((Fv6.other W10 (Or.inl (Ne.symm ne6.1))).ext E12).other W16 (Or.inl (Ne.symm ne6.1))).ext E18).other W22 (Or.inl (Ne.symm ne6.1))).ext E24).other W28 (Or.inl (Ne.symm ne6.1))).ext E30).other W34 (Or.inl (Ne.symm ne6.1))).ext E36).other W40 (Or.inl (Ne.symm ne6.1))).ext E42).other W46 (Or.inl (Ne.symm ne6.1))).ext E48).other W52 (Or.inl (Ne.symm ne6.1))).ext E54).other W58 (Or.inl (Ne.symm ne6.1))).ext E60).other W64 (Or.inl (Ne.symm ne6.1))).ext E66).other W70 (Or.inl (Ne.symm ne6.1)))
    have Va6_76 := (((((((((((((((((((((Va6.other W10 (Ne.symm ne6.2)).ext E12).other W16 (Ne.symm ne6.2)).ext E18).other W22 (Ne.symm ne6.2)).ext E24).other W28 (Ne.symm ne6.2)).ext E30).other W34 (Ne.symm ne6.2)).ext E36).other W40 (Ne.symm ne6.2)).ext E42).other W46 (Ne.symm ne6.2)).ext E48).other W52 (Ne.symm ne6.2)).ext E54).other W58 (Ne.symm ne6.2)).ext E60).other W64 (Ne.symm ne6.2)).ext E66).other W70 (Ne.symm ne6.2))
    have Ex12_77 := (((((((((((((((((((Ex12.wr W16).ext E18).wr W22).ext E24).wr W28).ext E30).wr W34).ext E36).wr W40).ext E42).wr W46).ext E48).wr W52).ext E54).wr W58).ext E60).wr W64).ext E66).wr W70)
    have Fc12_78 := (((((((((((((((((((Fc12.other W16 (Or.inl (Ne.symm ne12.1))).ext E18).other W22 (Or.inl (Ne.symm ne12.1))).ext E24).other W28 (Or.inl (Ne.symm ne12.1))).ext E30).other W34 (Or.inl (Ne.symm ne12.1))).ext E36).other W40 (Or.inl (Ne.symm ne12.1))).ext E42).other W46 (Or.inl (Ne.symm ne12.1))).ext E48).other W52 (Or.inl (Ne.symm ne12.1))).ext E54).other W58 (Or.inl (Ne.symm ne12.1))).ext E60).other W64 (Or.inl (Ne.symm ne12.1))).ext E66).other W70 (Or.inl (Ne.symm ne12.1)))
    have Fv12_79 := (((((((((((((((((((Fv12.other W16 (Or.inl (Ne.symm ne12.1))).ext E18).other W22 (Or.inl (Ne.symm ne12.1))).ext E24).other W28 (Or.inl (Ne.symm ne12.1))).ext E30).other W34 (Or.inl (Ne.symm ne12.1))).ext E36).other W40 (Or.inl (Ne.symm ne12.1))).ext E42).other W46 (Or.inl (Ne.symm ne12.1))).ext E48).other W52 (Or.inl (Ne.symm ne12.1))).ext E54).other W58 (Or.inl (Ne.symm ne12.1))).ext E60).other W64 (Or.inl (Ne.symm ne12.1))).ext E66).other W70 (Or.inl (Ne.symm ne12.1)))
    have Va12_80 := (((((((((((((((((((Va12.other W16 (Ne.symm ne12.2)).ext E18).other W22 (Ne.symm ne12.2)).ext E24).other W28 (Ne.symm ne12.2)).ext E30).other W34 (Ne.symm ne12.2)).ext E36).other W40 (Ne.symm ne12.2)).ext E42).other W46 (Ne.symm ne12.2)).ext E48).other W52 (Ne.symm ne12.2)).ext E54).other W58 (Ne.symm ne12.2)).ext E60).other W64 (Ne.symm ne12.2)).ext E66).other W70 (Ne.symm ne12.2))
    have Ex18_81 := (((((((((((((((((Ex18.wr W22).ext E24).wr W28).ext E30).wr W34).ext E36).wr W40).ext E42).wr W46).ext E48).wr W52).ext E54).wr W58).ext E60).wr W64).ext E66).wr W70)
    have Fc18_82 := (((((((((((((((((Fc18.other W22 (Or.inl (Ne.symm ne18.1))).ext E24).other W28 (Or.inl (Ne.symm ne18.1))).ext E30).other W34 (Or.inl (Ne.symm ne18.1))).ext E36).other W40 (Or.inl (Ne.symm ne18.1))).ext E42).other W46 (Or.inl (Ne.symm ne18.1))).ext E48).other W52 (Or.inl (Ne.symm ne18.1))).ext E54).other W58 (Or.inl (Ne.symm ne18.1))).ext E60).other W64 (Or.inl (Ne.symm ne18.1))).ext E66).other W70 (Or.inl (Ne.symm ne18.1)))
    have Fv18_83 := (((((((((((((((((Fv18.other W22 (Or.inl (Ne.symm ne18.1))).ext E24).other W28 (Or.inl (Ne.symm ne18.1))).ext E30).other W34 (Or.inl (Ne.symm ne18.1))).ext E36).other W40 (Or.inl (Ne.symm ne18.1))).ext E42).other W46 (Or.inl (Ne.symm ne18.1))).ext E48).other W52 (Or.inl (Ne.symm ne18.1))).ext E54).other W58 (Or.inl (Ne.symm ne18.1))).ext E60).other W64 (Or.inl (Ne.symm ne18.1))).ext E66).other W70 (Or.inl (Ne.symm ne18.1)))
    have Va18_84 := (((((((((((((((((Va18.other W22 (Ne.symm ne18.2)).ext E24).other W28 (Ne.symm ne18.2)).ext E30).other W34 (Ne.symm ne18.2)).ext E36).other W40 (Ne.symm ne18.2)).ext E42).other W46 (Ne.symm ne18.2)).ext E48).other W52 (Ne.symm ne18.2)).ext E54).other W58 (Ne.symm ne18.2)).ext E60).other W64 (Ne.symm ne18.2)).ext E66).other W70 (Ne.symm ne18.2))
    have Ex24_85 := (((((((((((((((Ex24.wr W28).ext E30).wr W34).ext E36).wr W40).ext E42).wr W46).ext E48).wr W52).ext E54).wr W58).ext E60).wr W64).ext E66).wr W70)
    have Fc24_86 := (((((((((((((((Fc24.other W28 (Or.inl (Ne.symm ne24.1))).ext E30).other W34 (Or.inl (Ne.symm ne24.1))).ext E36).other W40 (Or.inl (Ne.symm ne24.1))).ext E42).other W46 (Or.inl (Ne.symm ne24.1))).ext E48).other W52 (Or.inl (Ne.symm ne24.1))).ext E54).other W58 (Or.inl (Ne.symm ne24.1))).ext E60).other W64 (Or.inl (Ne.symm ne24.1))).ext E66).other W70 (Or.inl (Ne.symm ne24.1)))
    have Fv24_87 := (((((((((((((((Fv24.other W28 (Or.inl (Ne.symm ne24.1))).ext E30).other W34 (Or.inl (Ne.symm ne24.1))).ext E36).other W40 (Or.inl (Ne.symm ne24.1))).ext E42).other W46 (Or.inl (Ne.symm ne24.1))).ext E48).other W52 (Or.inl (Ne.symm ne24.1))).ext E54).other W58 (Or.inl (Ne.symm ne24.1))).ext E60).other W64 (Or.inl (Ne.symm ne24.1))).ext E66).other W70 (Or.inl (Ne.symm ne24.1)))
    have Va24_88 := (((((((((((((((Va24.other W28 (Ne.symm ne24.2)).ext E30).other W34 (Ne.symm ne24.2)).ext E36).other W40 (Ne.symm ne24.2)).ext E42).other W46 (Ne.symm ne24.2)).ext E48).other W52 (Ne.symm ne24.2)).ext E54).other W58 (Ne.symm ne24.2)).ext E60).other W64 (Ne.symm ne24.2)).ext E66).other W70 (Ne.symm ne24.2))
    have Ex30_89 := (((((((((((((Ex30.wr W34).ext E36).wr W40).ext E42).wr W46).ext E48).wr W52).ext E54).wr W58).ext E60).wr W64).ext E66).wr W70)
    have Fc30_90 := (((((((((((((Fc30.other W34 (Or.inl (Ne.symm ne30.1))).ext E36).other W40 (Or.inl (Ne.symm ne30.1))).ext E42).other W46 (Or.inl (Ne.symm ne30.1))).ext E48).other W52 (Or.inl (Ne.symm ne30.1))).ext E54).other W58 (Or.inl (Ne.symm ne30.1))).ext E60).other W64 (Or.inl (Ne.symm ne30.1))).ext E66).other W70 (Or.inl (Ne.symm ne30.1)))
    have Fv30_91 := (((((((((((((Fv30.other W34 (Or.inl (Ne.symm ne30.1))).ext E36).other W40 (Or.inl (Ne.symm ne30.1))).ext E42).other W46 (Or.inl (Ne.symm ne30.1))).ext E48).other W52 (Or.inl (Ne.symm ne30.1))).ext E54).other W58 (Or.inl (Ne.symm ne30.1))).ext E60).other W64 (Or.inl (Ne.symm ne30.1))).ext E66).other W70 (Or.inl (Ne.symm ne30.1)))
    have Va30_92 := (((((((((((((Va30.other W34 (Ne.symm ne30.2)).ext E36).other W40 (Ne.symm ne30.2)).ext E42).other W46 (Ne.symm ne30.2)).ext E48).other W52 (Ne.symm ne30.2)).ext E54).other W58 (Ne.symm ne30.2)).ext E60).other W64 (Ne.symm ne30.2)).ext E66).other W70 (Ne.symm ne30.2))
    have Ex36_93 := (((((((((((Ex36.wr W40).ext E42).wr W46).ext E48).wr W52).ext E54).wr W58).ext E60).wr W64).ext E66).wr W70)
    have Fc36_94 := (((((((((((Fc36.other W40 (Or.inl (Ne.symm ne36.1))).ext E42).other W46 (Or.inl (Ne.symm ne36.1))).ext E48).other W52 (Or.inl (Ne.symm ne36.1))).ext E54).other W58 (Or.inl (Ne.symm ne36.1))).ext E60).other W64 (Or.inl (Ne.symm ne36.1))).ext E66).other W70 (Or.inl (Ne.symm ne36.1)))
    have Fv36_95 := (((((((((((Fv36.other W40 (Or.inl (Ne.symm ne36.1))).ext E42).other W46 (Or.inl (Ne.symm ne36.1))).ext E48).other W52 (Or.inl (Ne.symm ne36.1))).ext E54).other W58 (Or.inl (Ne.symm ne36.1))).ext E60).other W64 (Or.inl (Ne.symm ne36.1))).ext E66).other W70 (Or.inl (Ne.symm ne36.1)))
    have Va36_96 := (((((((((((Va36.other W40 (Ne.symm ne36.2)).ext E42).other W46 (Ne.symm ne36.2)).ext E48).other W52 (Ne.symm ne36.2)).ext E54).other W58 (Ne.symm ne36.2)).ext E60).other W64 (Ne.symm ne36.2)).ext E66).other W70 (Ne.symm ne36.2))
    have Ex42_97 := (((((((((Ex42.wr W46).ext E48).wr W52).ext E54).wr W58).ext E60).wr W64).ext E66).wr W70)
    have Fc42_98 := (((((((((Fc42.other W46 (Or.inl (Ne.symm ne42.1))).ext E48).other W52 (Or.inl (Ne.symm ne42.1))).ext E54).other W58 (Or.inl (Ne.symm ne42.1))).ext E60).other W64 (Or.inl (Ne.symm ne42.1))).ext E66).other W70 (Or.inl (Ne.symm ne42.1)))
    have Fv42_99 := (((((((((Fv42.other W46 (Or.inl (Ne.symm ne42.1))).ext E48).other W52 (Or.inl (Ne.symm ne42.1))).ext E54).other W58 (Or.inl (Ne.symm ne42.1))).ext E60).other W64 (Or.inl (Ne.symm ne42.1))).ext E66).other W70 (Or.inl (Ne.symm ne42.1)))
    have Va42_100 := (((((((((Va42.other W46 (Ne.symm ne42.2)).ext E48).other W52 (Ne.symm ne42.2)).ext E54).other W58 (Ne.symm ne42.2)).ext E60).other W64 (Ne.symm ne42.2)).ext E66).other W70 (Ne.symm ne42.2))
    have Ex48_101 := (((((((Ex48.wr W52).ext E54).wr W58).ext E60).wr W64).ext E66).wr W70)
    have Fc48_102 := (((((((Fc48.other W52 (Or.inl (Ne.symm ne48.1))).ext E54).other W58 (Or.inl (Ne.symm ne48.1))).ext E60).other W64 (Or.inl (Ne.symm ne48.1))).ext E66).other W70 (Or.inl (Ne.symm ne48.1)))
    have Fv48_103 := (((((((Fv48.other W52 (Or.inl (Ne.symm ne48.1))).ext E54).other W58 (Or.inl (Ne.symm ne48.1))).ext E60).other W64 (Or.inl (Ne.symm ne48.1))).ext E66).other W70 (Or.inl (Ne.symm ne48.1)))
    have Va48_104 := (((((((Va48.other W52 (Ne.symm ne48.2)).ext E54).other W58 (Ne.symm ne48.2)).ext E60).other W64 (Ne.symm ne48.2)).ext E66).other W70 (Ne.symm ne48.2))
    have Ex54_105 := (((((Ex54.wr W58).ext E60).wr W64).ext E66).wr W70)
    have Fc54_106 := (((((Fc54.other W58 (Or.inl (Ne.symm ne54.1))).ext E60).other W64 (Or.inl (Ne.symm ne54.1))).ext E66).other W70 (Or.inl (Ne.symm ne54.1)))
    have Fv54_107 := (((((Fv54.other W58 (Or.inl (Ne.symm ne54.1))).ext E60).other W64 (Or.inl (Ne.symm ne54.1))).ext E66).other W70 (Or.inl (Ne.symm ne54.1)))
    have Va54_108 := (((((Va54.other W58 (Ne.symm ne54.2)).ext E60).other W64 (Ne.symm ne54.2)).ext E66).other W70 (Ne.symm ne54.2))
    have Ex60_109 := (((Ex60.wr W64).ext E66).wr W70)
    have Fc60_110 := (((Fc60.other W64 (Or.inl (Ne.symm ne60.1))).ext E66).other W70 (Or.inl (Ne.symm ne60.1)))
    have Fv60_111 := (((Fv60.other W64 (Or.inl (Ne.symm ne60.1))).ext E66).other W70 (Or.inl (Ne.symm ne60.1)))
    have Va60_112 := (((Va60.other W64 (Ne.symm ne60.2)).ext E66).other W70 (Ne.symm ne60.2))
    have Ex66_113 := (Ex66.wr W70)
    have Fc66_114 := (Fc66.other W70 (Or.inl (Ne.symm ne66.1)))
    have Fv66_115 := (Fv66.other W70 (Or.inl (Ne.symm ne66.1)))
    have Va66_116 := (Va66.other W70 (Ne.symm ne66.2))
    have hall : ∀ i, i < 11 → SB Z h70 (([a6, a12, a18, a24, a30, a36, a42, a48, a54, a60, a66] : List Addr).getD i 0) (([bb6, bb12, bb18, bb24, bb30, bb36, bb42, bb48, bb54, bb60, bb66] : List Addr).getD i 0) (([kb6, kb12, kb18, kb24, kb30, kb36, kb42, kb48, kb54, kb60, kb66] : List ClassId).getD i 0) (litN i) (fun j => Int32.ofNat ((litL i).getD j 0)) := fun i hi => match i, hi with | 0, _ => ⟨Ex6_73, Fc6_74, Fv6_75, own_arvN (us := litL 0) Va6_76 rfl⟩ | 1, _ => ⟨Ex12_77, Fc12_78, Fv12_79, own_arvN (us := litL 1) Va12_80 rfl⟩ | 2, _ => ⟨Ex18_81, Fc18_82, Fv18_83, own_arvN (us := litL 2) Va18_84 rfl⟩ | 3, _ => ⟨Ex24_85, Fc24_86, Fv24_87, own_arvN (us := litL 3) Va24_88 rfl⟩ | 4, _ => ⟨Ex30_89, Fc30_90, Fv30_91, own_arvN (us := litL 4) Va30_92 rfl⟩ | 5, _ => ⟨Ex36_93, Fc36_94, Fv36_95, own_arvN (us := litL 5) Va36_96 rfl⟩ | 6, _ => ⟨Ex42_97, Fc42_98, Fv42_99, own_arvN (us := litL 6) Va42_100 rfl⟩ | 7, _ => ⟨Ex48_101, Fc48_102, Fv48_103, own_arvN (us := litL 7) Va48_104 rfl⟩ | 8, _ => ⟨Ex54_105, Fc54_106, Fv54_107, own_arvN (us := litL 8) Va54_108 rfl⟩ | 9, _ => ⟨Ex60_109, Fc60_110, Fv60_111, own_arvN (us := litL 9) Va60_112 rfl⟩ | 10, _ => ⟨Ex66_113, Fc66_114, Fv66_115, own_arvN (us := litL 10) Va66_116 rfl⟩ | n + 11, h => absurd h (by omega)
    have hln : litN ix ≤ 4000 := by unfold litN; split <;> decide
    have S_C_117 := (((((((((((((((((((((((S_C.ext E4).ext E6).wr W10).ext E12).wr W16).ext E18).wr W22).ext E24).wr W28).ext E30).wr W34).ext E36).wr W40).ext E42).wr W46).ext E48).wr W52).ext E54).wr W58).ext E60).wr W64).ext E66).wr W70)
    have E_ms_119 := (((((((((((((((((((((((E_ms.ext E4).ext E6).wr W10).ext E12).wr W16).ext E18).wr W22).ext E24).wr W28).ext E30).wr W34).ext E36).wr W40).ext E42).wr W46).ext E48).wr W52).ext E54).wr W58).ext E60).wr W64).ext E66).wr W70)
    obtain ⟨cq118, kq118, q118a, q118b, q118c⟩ := isOf hZ66 e70 E_ms_119
    obtain ⟨_, _, ⟨T118, L118, k118, n118⟩, -, X118, ⟨Lc118, hQ118, l118, y118, z118⟩, st118⟩ := X70.virtualBack hx (y := (⟨"java/lang/String", "equals", "(Ljava/lang/Object;)Z"⟩ : MethodName)) (z := (⟨"java/lang/String", "equals", "(Ljava/lang/Object;)Z"⟩ : MethodName)) hown66 (mvT hZ66 (wd hw 294 rfl)) (mvT hZ66 (wd hw 295 rfl)) (notFace_of_selects (args := #[]) (mvT hZ66 (wd hw 297 rfl))) (mvT hZ66 (wd hw 297 rfl)) (mvT hZ66 (wd hw 296 rfl)) (by decide) (backOf (W := 0) (rEq l Z a0 hw [] ms (([a6, a12, a18, a24, a30, a36, a42, a48, a54, a60, a66] : List Addr).getD ix 0) mv (([bb6, bb12, bb18, bb24, bb30, bb36, bb42, bb48, bb54, bb60, bb66] : List Addr).getD ix 0) mk (([kb6, kb12, kb18, kb24, kb30, kb36, kb42, kb48, kb54, kb60, kb66] : List ClassId).getD ix 0) (59 + sz + 33) (litN ix) (fun i => Int32.ofNat ((txt xx nn sz) i)) (fun j => Int32.ofNat ((litL ix).getD j 0)) (1 : Int32) (by omega) hln (Or.inl ⟨rfl, own_tab hix exi hn18 hxn hsz⟩) h70 n0 Zs70 (R_m.keep K70 nin0 nin0) (hall ix hix) cs hcs S_C_117) hZ66 (wd hw 298 rfl) (wd hw 26 rfl) (by decide) (by decide)) q118a q118c (g := (mkF m 624 #[vJ qa, zS, vJ qb, zS, vI pa, vI pb, vJ hh, zS, vI sm, vJ mm, zS, vJ xx, zS, vR ee, vR ms, vR aP, vR aS, vI sg, vJ mg, zS, vI c20, vR a21, vI c22, vI c23, vI c24, vI c25, vJ l26, zS, vI c28, vJ l29, zS, vR b4] [(.ref (([a6, a12, a18, a24, a30, a36, a42, a48, a54, a60, a66] : List Addr).getD ix 0)), (.ref ms)])) rfl (by rw [hml]; rfl) (Steps.refl _) (argsL := [(.ref (([a6, a12, a18, a24, a30, a36, a42, a48, a54, a60, a66] : List Addr).getD ix 0))]) (rest := []) (lenOf pd__Ljava_lang_Object__Z rfl) rfl (by show 2 * 0 + _ ≤ _; exact Nat.le_of_eq rfl) (hb hby at_624) (fun _ _ => ⟨rfl, e70, (by decide : 70 + 0 ≤ _), (by decide : 17342 + 0 ≤ _)⟩)
    dsimp only [Pt.U, Pt.locs, Pt.cells, Pt.slots] at X118 l118 y118 z118 st118 hQ118
    rw [l118, y118, z118] at X118
    obtain ⟨rfl, N118q, e118⟩ := hQ118
    have N118 := Fr.app N70 N118q
    have pre120 : ∀ t, Steps p.tables e below (T118.setTop (mkF m 632 #[vJ qa, zS, vJ qb, zS, vI pa, vI pb, vJ hh, zS, vI sm, vJ mm, zS, vJ xx, zS, vR ee, vR ms, vR aP, vR aS, vI sg, vJ mg, zS, vI c20, vR a21, vI c22, vI c23, vI c24, vI c25, vJ l26, zS, vI c28, vJ l29, zS, vR b4] [])) t → Steps p.tables e below (T0.setTop (mkF m 542 #[vJ qa, zS, vJ qb, zS, vI pa, vI pb, vJ hh, zS, vI sm, vJ mm, zS, vJ xx, zS, vR ee, vR ms, vR aP, vR aS, vI sg, vJ mg, zS, vI c20, vR a21, vI c22, vI c23, vI c24, vI c25, vJ l26, zS, vI c28, vJ l29, zS, zU] [])) t := by
      intro t kt
      refine pre1 t ?_
      refine XS.ifNo X0.here hx rfl (hb hby at_544) rfl ((if0 _ _).trans (feq hc2).1) ?_
      show Steps p.tables e below (T0.setTop (mkF m 547 #[vJ qa, zS, vJ qb, zS, vI pa, vI pb, vJ hh, zS, vI sm, vJ mm, zS, vJ xx, zS, vR ee, vR ms, vR aP, vR aS, vI sg, vJ mg, zS, vI c20, vR a21, vI c22, vI c23, vI c24, vI c25, vJ l26, zS, vI c28, vJ l29, zS, zU] [])) _
      refine XS.bipush X0.here hx rfl (hb hby at_547) ?_
      refine st4 _ ?_
      refine XS.dup X4.here hx rfl (hb hby at_552) rfl rfl ?_
      refine XS.iconst X4.here hx rfl (hb hby at_553) ?_
      show Steps p.tables e below (T4.setTop (mkF m 554 #[vJ qa, zS, vJ qb, zS, vI pa, vI pb, vJ hh, zS, vI sm, vJ mm, zS, vJ xx, zS, vR ee, vR ms, vR aP, vR aS, vI sg, vJ mg, zS, vI c20, vR a21, vI c22, vI c23, vI c24, vI c25, vJ l26, zS, vI c28, vJ l29, zS, zU] [(.int (0 : Int32)), (.ref b4), (.ref b4)])) _
      refine st6 _ ?_
      refine st10 _ ?_
      refine XS.dup X10.here hx rfl (hb hby at_557) rfl rfl ?_
      refine XS.iconst X10.here hx rfl (hb hby at_558) ?_
      show Steps p.tables e below (T10.setTop (mkF m 559 #[vJ qa, zS, vJ qb, zS, vI pa, vI pb, vJ hh, zS, vI sm, vJ mm, zS, vJ xx, zS, vR ee, vR ms, vR aP, vR aS, vI sg, vJ mg, zS, vI c20, vR a21, vI c22, vI c23, vI c24, vI c25, vJ l26, zS, vI c28, vJ l29, zS, zU] [(.int (1 : Int32)), (.ref b4), (.ref b4)])) _
      refine st12 _ ?_
      refine st16 _ ?_
      refine XS.dup X16.here hx rfl (hb hby at_562) rfl rfl ?_
      refine XS.iconst X16.here hx rfl (hb hby at_563) ?_
      show Steps p.tables e below (T16.setTop (mkF m 564 #[vJ qa, zS, vJ qb, zS, vI pa, vI pb, vJ hh, zS, vI sm, vJ mm, zS, vJ xx, zS, vR ee, vR ms, vR aP, vR aS, vI sg, vJ mg, zS, vI c20, vR a21, vI c22, vI c23, vI c24, vI c25, vJ l26, zS, vI c28, vJ l29, zS, zU] [(.int (2 : Int32)), (.ref b4), (.ref b4)])) _
      refine st18 _ ?_
      refine st22 _ ?_
      refine XS.dup X22.here hx rfl (hb hby at_567) rfl rfl ?_
      refine XS.iconst X22.here hx rfl (hb hby at_568) ?_
      show Steps p.tables e below (T22.setTop (mkF m 569 #[vJ qa, zS, vJ qb, zS, vI pa, vI pb, vJ hh, zS, vI sm, vJ mm, zS, vJ xx, zS, vR ee, vR ms, vR aP, vR aS, vI sg, vJ mg, zS, vI c20, vR a21, vI c22, vI c23, vI c24, vI c25, vJ l26, zS, vI c28, vJ l29, zS, zU] [(.int (3 : Int32)), (.ref b4), (.ref b4)])) _
      refine st24 _ ?_
      refine st28 _ ?_
      refine XS.dup X28.here hx rfl (hb hby at_572) rfl rfl ?_
      refine XS.iconst X28.here hx rfl (hb hby at_573) ?_
      show Steps p.tables e below (T28.setTop (mkF m 574 #[vJ qa, zS, vJ qb, zS, vI pa, vI pb, vJ hh, zS, vI sm, vJ mm, zS, vJ xx, zS, vR ee, vR ms, vR aP, vR aS, vI sg, vJ mg, zS, vI c20, vR a21, vI c22, vI c23, vI c24, vI c25, vJ l26, zS, vI c28, vJ l29, zS, zU] [(.int (4 : Int32)), (.ref b4), (.ref b4)])) _
      refine st30 _ ?_
      refine st34 _ ?_
      refine XS.dup X34.here hx rfl (hb hby at_577) rfl rfl ?_
      refine XS.iconst X34.here hx rfl (hb hby at_578) ?_
      show Steps p.tables e below (T34.setTop (mkF m 579 #[vJ qa, zS, vJ qb, zS, vI pa, vI pb, vJ hh, zS, vI sm, vJ mm, zS, vJ xx, zS, vR ee, vR ms, vR aP, vR aS, vI sg, vJ mg, zS, vI c20, vR a21, vI c22, vI c23, vI c24, vI c25, vJ l26, zS, vI c28, vJ l29, zS, zU] [(.int (5 : Int32)), (.ref b4), (.ref b4)])) _
      refine st36 _ ?_
      refine st40 _ ?_
      refine XS.dup X40.here hx rfl (hb hby at_582) rfl rfl ?_
      refine XS.bipush X40.here hx rfl (hb hby at_583) ?_
      show Steps p.tables e below (T40.setTop (mkF m 585 #[vJ qa, zS, vJ qb, zS, vI pa, vI pb, vJ hh, zS, vI sm, vJ mm, zS, vJ xx, zS, vR ee, vR ms, vR aP, vR aS, vI sg, vJ mg, zS, vI c20, vR a21, vI c22, vI c23, vI c24, vI c25, vJ l26, zS, vI c28, vJ l29, zS, zU] [(.int (6 : Int32)), (.ref b4), (.ref b4)])) _
      refine st42 _ ?_
      refine st46 _ ?_
      refine XS.dup X46.here hx rfl (hb hby at_588) rfl rfl ?_
      refine XS.bipush X46.here hx rfl (hb hby at_589) ?_
      show Steps p.tables e below (T46.setTop (mkF m 591 #[vJ qa, zS, vJ qb, zS, vI pa, vI pb, vJ hh, zS, vI sm, vJ mm, zS, vJ xx, zS, vR ee, vR ms, vR aP, vR aS, vI sg, vJ mg, zS, vI c20, vR a21, vI c22, vI c23, vI c24, vI c25, vJ l26, zS, vI c28, vJ l29, zS, zU] [(.int (7 : Int32)), (.ref b4), (.ref b4)])) _
      refine st48 _ ?_
      refine st52 _ ?_
      refine XS.dup X52.here hx rfl (hb hby at_594) rfl rfl ?_
      refine XS.bipush X52.here hx rfl (hb hby at_595) ?_
      show Steps p.tables e below (T52.setTop (mkF m 597 #[vJ qa, zS, vJ qb, zS, vI pa, vI pb, vJ hh, zS, vI sm, vJ mm, zS, vJ xx, zS, vR ee, vR ms, vR aP, vR aS, vI sg, vJ mg, zS, vI c20, vR a21, vI c22, vI c23, vI c24, vI c25, vJ l26, zS, vI c28, vJ l29, zS, zU] [(.int (8 : Int32)), (.ref b4), (.ref b4)])) _
      refine st54 _ ?_
      refine st58 _ ?_
      refine XS.dup X58.here hx rfl (hb hby at_600) rfl rfl ?_
      refine XS.bipush X58.here hx rfl (hb hby at_601) ?_
      show Steps p.tables e below (T58.setTop (mkF m 603 #[vJ qa, zS, vJ qb, zS, vI pa, vI pb, vJ hh, zS, vI sm, vJ mm, zS, vJ xx, zS, vR ee, vR ms, vR aP, vR aS, vI sg, vJ mg, zS, vI c20, vR a21, vI c22, vI c23, vI c24, vI c25, vJ l26, zS, vI c28, vJ l29, zS, zU] [(.int (9 : Int32)), (.ref b4), (.ref b4)])) _
      refine st60 _ ?_
      refine st64 _ ?_
      refine XS.dup X64.here hx rfl (hb hby at_606) rfl rfl ?_
      refine XS.bipush X64.here hx rfl (hb hby at_607) ?_
      show Steps p.tables e below (T64.setTop (mkF m 609 #[vJ qa, zS, vJ qb, zS, vI pa, vI pb, vJ hh, zS, vI sm, vJ mm, zS, vJ xx, zS, vR ee, vR ms, vR aP, vR aS, vI sg, vJ mg, zS, vI c20, vR a21, vI c22, vI c23, vI c24, vI c25, vJ l26, zS, vI c28, vJ l29, zS, zU] [(.int (10 : Int32)), (.ref b4), (.ref b4)])) _
      refine st66 _ ?_
      refine st70 _ ?_
      refine XS.astore X70.here hx rfl (hb hby at_612) rfl rfl (l' := #[vJ qa, zS, vJ qb, zS, vI pa, vI pb, vJ hh, zS, vI sm, vJ mm, zS, vJ xx, zS, vR ee, vR ms, vR aP, vR aS, vI sg, vJ mg, zS, vI c20, vR a21, vI c22, vI c23, vI c24, vI c25, vJ l26, zS, vI c28, vJ l29, zS, vR b4]) rfl ?_
      refine XS.aload X70.here hx rfl (hb hby at_614) rfl rfl ?_
      show Steps p.tables e below (T70.setTop (mkF m 616 #[vJ qa, zS, vJ qb, zS, vI pa, vI pb, vJ hh, zS, vI sm, vJ mm, zS, vJ xx, zS, vR ee, vR ms, vR aP, vR aS, vI sg, vJ mg, zS, vI c20, vR a21, vI c22, vI c23, vI c24, vI c25, vJ l26, zS, vI c28, vJ l29, zS, vR b4] [(.ref ms)])) _
      refine XS.aload X70.here hx rfl (hb hby at_616) rfl rfl ?_
      refine XS.lload X70.here hx rfl (hb hby at_618) rfl ?_
      refine XS.l2i X70.here hx rfl (hb hby at_620) rfl ?_
      refine XS.iconst X70.here hx rfl (hb hby at_621) ?_
      show Steps p.tables e below (T70.setTop (mkF m 622 #[vJ qa, zS, vJ qb, zS, vI pa, vI pb, vJ hh, zS, vI sm, vJ mm, zS, vJ xx, zS, vR ee, vR ms, vR aP, vR aS, vI sg, vJ mg, zS, vI c20, vR a21, vI c22, vI c23, vI c24, vI c25, vJ l26, zS, vI c28, vJ l29, zS, vR b4] [(.int (1 : Int32)), (.int (mm.toInt32)), (.ref b4), (.ref ms)])) _
      refine XS.iadd X70.here hx rfl (hb hby at_622) rfl ?_
      show Steps p.tables e below (T70.setTop (mkF m 623 #[vJ qa, zS, vJ qb, zS, vI pa, vI pb, vJ hh, zS, vI sm, vJ mm, zS, vJ xx, zS, vR ee, vR ms, vR aP, vR aS, vI sg, vJ mg, zS, vI c20, vR a21, vI c22, vI c23, vI c24, vI c25, vJ l26, zS, vI c28, vJ l29, zS, vR b4] [(.int ((mm.toInt32) + (1 : Int32))), (.ref b4), (.ref ms)])) _
      rw [eix]
      refine X70.aaload hx (j := (Int32.ofNat ix)) (v := (.ref (([a6, a12, a18, a24, a30, a36, a42, a48, a54, a60, a66] : List Addr).getD ix 0))) (by rw [e70]; exact Ar72.1) (State.isArrayOf_alike hZ66.alike Ar72.2.1) rfl Ar72.2.2 hin72 hat72 (g := (mkF m 623 #[vJ qa, zS, vJ qb, zS, vI pa, vI pb, vJ hh, zS, vI sm, vJ mm, zS, vJ xx, zS, vR ee, vR ms, vR aP, vR aS, vI sg, vJ mg, zS, vI c20, vR a21, vI c22, vI c23, vI c24, vI c25, vJ l26, zS, vI c28, vJ l29, zS, vR b4] [(.int (Int32.ofNat ix)), (.ref b4), (.ref ms)])) rfl rfl (hb hby at_623) _ ?_
      refine st118.trans ?_
      refine XS.ifYes X118.here hx rfl (pc0 := 627) (pc' := 632) rfl (hb hby at_627) rfl ((if0 _ _).trans (feq (by decide : ¬ ((1 : Int32) = (0 : Int32)))).2) (by decide) (by decide) ?_
      exact kt
    exact ⟨T118, T66.vm, _, _, vR b4, X118, hS66, (by rw [e118]; exact (Nat.le_trans hk66 (Nat.le_of_eq W70.size.symm))), hZ66, hown66, (by rw [e118]; exact hCR71), (by rw [e118]; exact K70), N118, fun target kt => pre120 target kt⟩
theorem pn_0 : plainName "com/example/tollplan/tollplan/CommandExceptionOutOfMemoryPinLaw" = true := by first | (simp [plainName, overriddenIn]; done) | decide +kernel
theorem ef_rm0 (m : MethodId) (x0 : Int64) (x1 : Int64) (x2 : Int32) (x3 : Int32) : entryFrame m #[(.long x0), (.long x1), (.int x2), (.int x3)] maxLocals = mkF m 0 #[.val (.long x0), .second, .val (.long x1), .second, .val (.int x2), .val (.int x3), .unset, .unset, .unset, .unset, .unset, .unset, .unset, .unset, .unset, .unset, .unset, .unset, .unset, .unset, .unset, .unset, .unset, .unset, .unset, .unset, .unset, .unset, .unset, .unset, .unset, .unset] [] := by first | (simp [entryFrame, mkF, argsToLocals, Value.category, maxLocals]; done) | rfl
set_option maxRecDepth 65536 in
set_option maxHeartbeats 40000000 in
theorem rm0 (l : Launch) (Z : State) (a0 : Array Value) (hw : ∀ d ∈ tables_1, d.before a0 Z = true) (ws : List Jvm.Cond) (q0 : Int64) (q1 : Int64) (p2 : Int32) (p3 : Int32) (hEL : EW Z a0 consts_1) (h0 : Heap) (KZ : Keep Z.heap h0 []) (n0 : Nat) (hz : Z.heap.size ≤ n0) (hl : l.stackTraces = true) (THz : ThS Z Z.heap) (u1 u2 : Value) (hu1 : u1.isRef = true) (hu2 : u2.isRef = true) (S_Uz : Sta Z Z.heap "java/lang/Throwable" "UNASSIGNED_STACK" "[Ljava/lang/StackTraceElement;" u1) (S_Nz : Sta Z Z.heap "java/lang/Throwable" "SUPPRESSED_SENTINEL" "Ljava/util/List;" u2) (kL : Addr) (S_Lz : Sta Z Z.heap "com/example/tollplan/tollplan/CommandException$Kind" "LOCAL" "Lcom/example/tollplan/tollplan/CommandException$Kind;" (.ref kL)) (stI dgA dgB : Addr) (DgA DgB : Cell) (tbA : SBG.Tbl Z "DigitOnes" stI dgA DgA) (tbB : SBG.Tbl Z "DigitTens" stI dgB DgB) (onA : SBG.Ones DgA) (teB : SBG.Tens DgB) (cs : Int32) (hcs : ¬ cs = (0 : Int32)) (S_Cz : Sta Z Z.heap "java/lang/String" "COMPACT_STRINGS" "Z" (.int cs)) (fm : Value) (hfm : fm.isRef = true) (S_Fz : Sta Z Z.heap "jdk/internal/util/Preconditions" "SIOOBE_FORMATTER" "Ljava/util/function/BiFunction;" fm) (Z0 : n0 ≤ h0.size) :
    MetFree l x (head1 (Jvm.Cond.code x code maxLocals ret :: ws) room_1) (fun a U => a = #[(.long q0), (.long q1), (.int p2), (.int p3)] ∧ Z.Warmed39 U.vm ∧ U.heap = h0 ∧ CHv Z consts_1 U.vm h0) (fun _ _ bl s _ => s.vm.MethodsKnown ∧ s.vm.FramesKnown bl) (fun _ U o U' => ∃ v L, o = .returned v ∧ QL n0 v U'.heap L ∧ CHr Z consts_1 U.vm U.heap U'.vm U'.heap ∧ ReturnedEndW U o U' L room_1.cells room_1.slots) := by
  refine MetFree.of_bodySF (plainFor_of_name pn_0) hisR ?_
  intro p e s m args below meth c s₁ Bd hml0 hP hK
  obtain ⟨rfl, hZ, hh, hCH⟩ := hP
  obtain ⟨hTK, hBelow⟩ := hK
  have hx := Bd.exec
  have hby := Bd.bytes
  have hml : c.maxLocals = 32 := hml0
  have hown : s.vm.findClass "com/example/tollplan/tollplan/CommandExceptionOutOfMemoryPinLaw" = some m.cls := findClass_of_methodNamed Bd.named
  have hnm := (name_of_methodNamed Bd.named Bd.method).1
  have X0 : Stand p l e room_1 (s.setVm s.vm) m #[(.long q0), (.long q1), (.int p2), (.int p3)] below meth c s₁ [] 0 0 := Stand.of_body Bd
  have e0 : s₁.heap = h0 := by rw [← hh, Bd.state]; rfl
  have N0 := Fr.nil n0
  have hS0 : s.Since s.vm 0 := (State.WarmedH.refl s).since 0
  have hCR0 : CHr Z consts_1 s.vm h0 s.vm h0 := CHr.refl hCH
  have pre0 : ∀ t, Steps p.tables e below (s₁.setTop (mkF m 0 #[vJ q0, zS, vJ q1, zS, vI p2, vI p3, zU, zU, zU, zU, zU, zU, zU, zU, zU, zU, zU, zU, zU, zU, zU, zU, zU, zU, zU, zU, zU, zU, zU, zU, zU, zU] [])) t → Steps p.tables e below (s₁.setTop (entryFrame m #[(.long q0), (.long q1), (.int p2), (.int p3)] maxLocals)) t := fun t k => castTop (ef_rm0 m q0 q1 p2 p3) k
  have pre1 : ∀ t, Steps p.tables e below (s₁.setTop (mkF m 7 #[vJ q0, zS, vJ q1, zS, vI p2, vI p3, vJ q0, zS, zU, zU, zU, zU, zU, zU, zU, zU, zU, zU, zU, zU, zU, zU, zU, zU, zU, zU, zU, zU, zU, zU, zU, zU] [(.int (p3 &&& (1 : Int32)))])) t → Steps p.tables e below (s₁.setTop (entryFrame m #[(.long q0), (.long q1), (.int p2), (.int p3)] maxLocals)) t := by
    intro t kt
    refine pre0 t ?_
    refine XS.lloadN X0.here hx rfl (hb hby at_0) rfl ?_
    refine XS.lstore X0.here hx rfl (hb hby at_1) rfl (l' := #[vJ q0, zS, vJ q1, zS, vI p2, vI p3, vJ q0, zS, zU, zU, zU, zU, zU, zU, zU, zU, zU, zU, zU, zU, zU, zU, zU, zU, zU, zU, zU, zU, zU, zU, zU, zU]) rfl ?_
    refine XS.iload X0.here hx rfl (hb hby at_3) rfl ?_
    show Steps p.tables e below (s₁.setTop (mkF m 5 #[vJ q0, zS, vJ q1, zS, vI p2, vI p3, vJ q0, zS, zU, zU, zU, zU, zU, zU, zU, zU, zU, zU, zU, zU, zU, zU, zU, zU, zU, zU, zU, zU, zU, zU, zU, zU] [(.int p3)])) _
    refine XS.iconst X0.here hx rfl (hb hby at_5) ?_
    refine XS.iand X0.here hx rfl (hb hby at_6) rfl ?_
    exact kt
  by_cases hc2 : (p3 &&& (1 : Int32)) = (0 : Int32)
  · skip
    obtain ⟨kk, hkk, ekk⟩ := own_kk p3
    have pre3 : ∀ t, Steps p.tables e below (s₁.setTop (mkF m 47 #[vJ q0, zS, vJ q1, zS, vI p2, vI p3, vJ q0, zS, vI (0 : Int32), vJ (((Int32.ofNat kk) - (1 : Int32)).toInt64), zS, zU, zU, zU, zU, zU, zU, zU, zU, zU, zU, zU, zU, zU, zU, zU, zU, zU, zU, zU, zU, zU] [])) t → Steps p.tables e below (s₁.setTop (entryFrame m #[(.long q0), (.long q1), (.int p2), (.int p3)] maxLocals)) t := by
      intro t kt
      refine pre1 t ?_
      refine XS.ifYes X0.here hx rfl (pc0 := 7) (pc' := 14) rfl (hb hby at_7) rfl ((if0 _ _).trans (teq hc2).1) (by decide) (by decide) ?_
      refine XS.iconst X0.here hx rfl (hb hby at_14) ?_
      show Steps p.tables e below (s₁.setTop (mkF m 15 #[vJ q0, zS, vJ q1, zS, vI p2, vI p3, vJ q0, zS, zU, zU, zU, zU, zU, zU, zU, zU, zU, zU, zU, zU, zU, zU, zU, zU, zU, zU, zU, zU, zU, zU, zU, zU] [(.int (0 : Int32))])) _
      refine XS.istore X0.here hx rfl (hb hby at_15) rfl (l' := #[vJ q0, zS, vJ q1, zS, vI p2, vI p3, vJ q0, zS, vI (0 : Int32), zU, zU, zU, zU, zU, zU, zU, zU, zU, zU, zU, zU, zU, zU, zU, zU, zU, zU, zU, zU, zU, zU, zU]) rfl ?_
      refine XS.iload X0.here hx rfl (hb hby at_17) rfl ?_
      refine XS.iconst X0.here hx rfl (hb hby at_19) ?_
      refine XS.iushr X0.here hx rfl (hb hby at_20) rfl ?_
      show Steps p.tables e below (s₁.setTop (mkF m 21 #[vJ q0, zS, vJ q1, zS, vI p2, vI p3, vJ q0, zS, vI (0 : Int32), zU, zU, zU, zU, zU, zU, zU, zU, zU, zU, zU, zU, zU, zU, zU, zU, zU, zU, zU, zU, zU, zU, zU] [(.int ((p3.toUInt32 >>> ((1 : Int32) &&& 31).toUInt32).toInt32))])) _
      refine XS.bipush X0.here hx rfl (hb hby at_21) ?_
      refine iremM (g := (mkF m 23 #[vJ q0, zS, vJ q1, zS, vI p2, vI p3, vJ q0, zS, vI (0 : Int32), zU, zU, zU, zU, zU, zU, zU, zU, zU, zU, zU, zU, zU, zU, zU, zU, zU, zU, zU, zU, zU, zU, zU] [(.int (11 : Int32)), (.int ((p3.toUInt32 >>> ((1 : Int32) &&& 31).toUInt32).toInt32))])) X0 hx rfl (hb hby at_23) rfl (by decide) ?_
      show Steps p.tables e below (s₁.setTop (mkF m 24 #[vJ q0, zS, vJ q1, zS, vI p2, vI p3, vJ q0, zS, vI (0 : Int32), zU, zU, zU, zU, zU, zU, zU, zU, zU, zU, zU, zU, zU, zU, zU, zU, zU, zU, zU, zU, zU, zU, zU] [(.int (((p3.toUInt32 >>> ((1 : Int32) &&& 31).toUInt32).toInt32) % (11 : Int32)))])) _
      rw [ekk]
      refine XS.iconst X0.here hx rfl (hb hby at_24) ?_
      refine XS.isub X0.here hx rfl (hb hby at_25) rfl ?_
      show Steps p.tables e below (s₁.setTop (mkF m 26 #[vJ q0, zS, vJ q1, zS, vI p2, vI p3, vJ q0, zS, vI (0 : Int32), zU, zU, zU, zU, zU, zU, zU, zU, zU, zU, zU, zU, zU, zU, zU, zU, zU, zU, zU, zU, zU, zU, zU] [(.int ((Int32.ofNat kk) - (1 : Int32)))])) _
      refine XS.i2l X0.here hx rfl (hb hby at_26) rfl ?_
      refine XS.lstore X0.here hx rfl (hb hby at_27) rfl (l' := #[vJ q0, zS, vJ q1, zS, vI p2, vI p3, vJ q0, zS, vI (0 : Int32), vJ (((Int32.ofNat kk) - (1 : Int32)).toInt64), zS, zU, zU, zU, zU, zU, zU, zU, zU, zU, zU, zU, zU, zU, zU, zU, zU, zU, zU, zU, zU, zU]) rfl ?_
      refine XS.iload X0.here hx rfl (hb hby at_29) rfl ?_
      refine XS.ifYes X0.here hx rfl (pc0 := 31) (pc' := 47) rfl (hb hby at_31) rfl ((if0 _ _).trans (teq (by decide : (0 : Int32) = (0 : Int32))).1) (by decide) (by decide) ?_
      exact kt
    obtain ⟨xx, exx⟩ : ∃ z, (q0 >>> ((20 : Int32) &&& 0x3f).toInt64) = z := ⟨_, rfl⟩
    obtain ⟨nn, hnn, hxn⟩ := SBG.negL_of xx
    obtain ⟨sz, hsz⟩ : ∃ z, SBG.digitsL nn + SBG.GetCharsL.sgnL xx = z := ⟨_, rfl⟩
    have hn18 := own_small exx hnn hxn
    obtain ⟨TA, vmA, kA, LA, ee, ms, mv, mk, XA, hSA, hkA, hZA, hoA, hCA, KA, NA, RA, stA⟩ := lw1 q0 q1 p2 p3 q0 (0 : Int32) (((Int32.ofNat kk) - (1 : Int32)).toInt64) xx nn sz X0 hx hZ hw hby hml hown e0 hS0 (Nat.zero_le _) hEL hCR0.1 hTK hBelow n0 hz hl THz u1 u2 hu1 hu2 S_Uz S_Nz kL S_Lz stI dgA dgB DgA DgB tbA tbB onA teB cs hcs S_Cz fm hfm S_Fz N0 Z0 (KZ.trans (Keep.refl h0 []) all0) hnn hxn hsz exx
    have hCR4 : CHr Z consts_1 s.vm h0 vmA TA.heap := hCR0.trans hCA
    have ZzA : n0 ≤ TA.heap.size := Nat.le_trans Z0 KA.1
    have KzA : Keep h0 TA.heap [] := (Keep.refl h0 []).trans KA all0
    obtain ⟨TB, vmB, kB, LB, aP, bP, aS, bS, kP, kS, sg, mg, XB, hSB, hkB, hZB, hoB, hCB, KB, NB, RB, RBp, RBs, hmg, hsgn, stB⟩ := lw2 q0 q1 p2 p3 q0 (0 : Int32) (((Int32.ofNat kk) - (1 : Int32)).toInt64) xx nn sz ee ms mv mk XA hx hZA hw hby hml hoA rfl hSA hkA hEL hCR4.1 hTK hBelow n0 hz hl THz u1 u2 hu1 hu2 S_Uz S_Nz kL S_Lz stI dgA dgB DgA DgB tbA tbB onA teB cs hcs S_Cz fm hfm S_Fz NA ZzA (KZ.trans KzA all0) hnn hxn hsz hn18 RA
    have hCR5 : CHr Z consts_1 s.vm h0 vmB TB.heap := hCR4.trans hCB
    have ZzB : n0 ≤ TB.heap.size := Nat.le_trans ZzA KB.1
    have KzB : Keep h0 TB.heap [] := KzA.trans KB all0
    obtain ⟨TC, LC, a21, c24, c25, XC, KC, NC, stC⟩ : ∃ (T' : State) (locs' : List Loc) (a21 : Addr) (c24 c25 : Int32), Stand p l e room_1 (s.setVm vmB) m #[(.long q0), (.long q1), (.int p2), (.int p3)] below meth c T' locs' 19 4707 ∧ Keep TB.heap T'.heap [] ∧ Fr n0 locs' ∧ ∀ target, Steps p.tables e below (T'.setTop (mkF m 470 #[vJ q0, zS, vJ q1, zS, vI p2, vI p3, vJ q0, zS, vI (0 : Int32), vJ (((Int32.ofNat kk) - (1 : Int32)).toInt64), zS, vJ xx, zS, vR ee, vR ms, vR aP, vR aS, vI sg, vJ mg, zS, vI (Int32.ofNat (SBG.digitsL nn)), vR a21, vI (Int32.ofNat 59), vI (Int32.ofNat sz), vI c24, vI c25, zU, zU, zU, zU, zU, zU] [])) target → Steps p.tables e below (TB.setTop (mkF m 142 #[vJ q0, zS, vJ q1, zS, vI p2, vI p3, vJ q0, zS, vI (0 : Int32), vJ (((Int32.ofNat kk) - (1 : Int32)).toInt64), zS, vJ xx, zS, vR ee, vR ms, vR aP, vR aS, vI sg, vJ mg, zS, vI (Int32.ofNat (SBG.digitsL nn)), zU, zU, zU, zU, zU, zU, zU, zU, zU, zU, zU] [])) target := by
      rcases hsgn with ⟨rfl, hng⟩ | ⟨rfl, hng⟩
      · exact lw3p q0 q1 p2 p3 q0 (0 : Int32) (((Int32.ofNat kk) - (1 : Int32)).toInt64) xx nn sz ee ms mv mk aP bP aS bS kP kS mg XB hx hZB hw hby hml hoB rfl n0 hz hl THz u1 u2 hu1 hu2 S_Uz S_Nz kL S_Lz stI dgA dgB DgA DgB tbA tbB onA teB cs hcs S_Cz fm hfm S_Fz NB ZzB (KZ.trans KzB all0) hnn hxn hsz hn18 RB RBp RBs hmg hng
      · exact lw3m q0 q1 p2 p3 q0 (0 : Int32) (((Int32.ofNat kk) - (1 : Int32)).toInt64) xx nn sz ee ms mv mk aP bP aS bS kP kS mg XB hx hZB hw hby hml hoB rfl n0 hz hl THz u1 u2 hu1 hu2 S_Uz S_Nz kL S_Lz stI dgA dgB DgA DgB tbA tbB onA teB cs hcs S_Cz fm hfm S_Fz NB ZzB (KZ.trans KzB all0) hnn hxn hsz hn18 RB RBp RBs hmg hng
    have hCR6 : CHr Z consts_1 s.vm h0 vmB TC.heap := hCR5.trans (CHr.keep KC all0 hCR5.1)
    have ZzC : n0 ≤ TC.heap.size := Nat.le_trans ZzB KC.1
    have KzC : Keep h0 TC.heap [] := KzB.trans KC all0
    have RC := RB.keep KC nin0 nin0
    obtain ⟨TD, vmD, kD, LD, l26, l29, c28, XD, hSD, hkD, hZD, hoD, hCD, KD, ND, stD⟩ := lw4 q0 q1 p2 p3 q0 (0 : Int32) (((Int32.ofNat kk) - (1 : Int32)).toInt64) xx nn sz ee ms mv mk aP aS a21 sg (Int32.ofNat (SBG.digitsL nn)) (Int32.ofNat 59) (Int32.ofNat sz) c24 c25 mg XC hx hZB hw hby hml hoB rfl hSB (Nat.le_trans hkB KC.1) hEL hCR6.1 hTK hBelow n0 hz hl THz u1 u2 hu1 hu2 S_Uz S_Nz kL S_Lz stI dgA dgB DgA DgB tbA tbB onA teB cs hcs S_Cz fm hfm S_Fz NC ZzC (KZ.trans KzC all0) hnn hxn hsz exx RC
    have hCR7 : CHr Z consts_1 s.vm h0 vmD TD.heap := hCR6.trans hCD
    have ZzD : n0 ≤ TD.heap.size := Nat.le_trans ZzC KD.1
    have KzD : Keep h0 TD.heap [] := KzC.trans KD all0
    have RD := RC.keep KD nin0 nin0
    obtain ⟨TE, vmE, kE, LE, s31, XE, hSE, hkE, hZE, hoE, hCE, KE, NE, stE⟩ := lw5 q0 q1 p2 p3 q0 (0 : Int32) (((Int32.ofNat kk) - (1 : Int32)).toInt64) xx nn sz ee ms mv mk aP aS a21 sg (Int32.ofNat (SBG.digitsL nn)) (Int32.ofNat 59) (Int32.ofNat sz) c24 c25 mg l26 l29 c28 XD hx hZD hw hby hml hoD rfl hSD hkD hEL hCR7.1 hTK hBelow n0 hz hl THz u1 u2 hu1 hu2 S_Uz S_Nz kL S_Lz stI dgA dgB DgA DgB tbA tbB onA teB cs hcs S_Cz fm hfm S_Fz ND ZzD (KZ.trans KzD all0) hnn hxn hsz hn18 RD (Or.inl rfl)
    have hCR8 : CHr Z consts_1 s.vm h0 vmE TE.heap := hCR7.trans hCE
    have ZzE : n0 ≤ TE.heap.size := Nat.le_trans ZzD KE.1
    have KzE : Keep h0 TE.heap [] := KzD.trans KE all0
    have preE : ∀ t, Steps p.tables e below (TE.setTop (mkF m 632 #[vJ q0, zS, vJ q1, zS, vI p2, vI p3, vJ q0, zS, vI (0 : Int32), vJ (((Int32.ofNat kk) - (1 : Int32)).toInt64), zS, vJ xx, zS, vR ee, vR ms, vR aP, vR aS, vI sg, vJ mg, zS, vI (Int32.ofNat (SBG.digitsL nn)), vR a21, vI (Int32.ofNat 59), vI (Int32.ofNat sz), vI c24, vI c25, vJ l26, zS, vI c28, vJ l29, zS, s31] [])) t → Steps p.tables e below (s₁.setTop (entryFrame m #[(.long q0), (.long q1), (.int p2), (.int p3)] maxLocals)) t := fun t kt => pre3 t (stA t (stB t (stC t (stD t (stE t kt)))))
    obtain ⟨fs, hr, hrun, hended, hEnd⟩ := XE.leaveW (s := s) hSE hkE (v := some (.int (1 : Int32))) (fun h => by rw [Bd.returns] at h; cases h)
    refine ⟨_, _, preE _ ?_, hrun, hended, _, _, rfl, ?_, (by show CHr Z consts_1 s.vm s.heap TE.vm TE.heap; rw [hh]; exact hCR8.trans (CHv.at XE hZE hEL hCR8.1)), hEnd.1, hEnd.2.1, hEnd.2.2.1, hEnd.2.2.2.mono (by decide) (by decide)⟩
    · skip
      show Steps p.tables e below (TE.setTop (mkF m 632 #[vJ q0, zS, vJ q1, zS, vI p2, vI p3, vJ q0, zS, vI (0 : Int32), vJ (((Int32.ofNat kk) - (1 : Int32)).toInt64), zS, vJ xx, zS, vR ee, vR ms, vR aP, vR aS, vI sg, vJ mg, zS, vI (Int32.ofNat (SBG.digitsL nn)), vR a21, vI (Int32.ofNat 59), vI (Int32.ofNat sz), vI c24, vI c25, vJ l26, zS, vI c28, vJ l29, zS, s31] [])) _
      refine XS.iconst XE.here hx rfl (hb hby at_632) ?_
      show Steps p.tables e below (TE.setTop (mkF m 633 #[vJ q0, zS, vJ q1, zS, vI p2, vI p3, vJ q0, zS, vI (0 : Int32), vJ (((Int32.ofNat kk) - (1 : Int32)).toInt64), zS, vJ xx, zS, vR ee, vR ms, vR aP, vR aS, vI sg, vJ mg, zS, vI (Int32.ofNat (SBG.digitsL nn)), vR a21, vI (Int32.ofNat 59), vI (Int32.ofNat sz), vI c24, vI c25, vJ l26, zS, vI c28, vJ l29, zS, s31] [(.int (1 : Int32))])) _
      exact retN XE hx (t := .boolean) Bd.returns (by simp) (hb hby at_633) hr
    · exact ⟨(by first | rfl | simp [hc2]), NE⟩
  · skip
    obtain ⟨kk, hkk, ekk⟩ := own_kk p3
    have pre9 : ∀ t, Steps p.tables e below (s₁.setTop (mkF m 47 #[vJ q0, zS, vJ q1, zS, vI p2, vI p3, vJ (((((Int32.ofNat kk) - (1 : Int32)).toInt64) <<< ((20 : Int32) &&& 0x3f).toInt64) ||| (q0 &&& (1048575 : Int64))), zS, vI (1 : Int32), vJ (((Int32.ofNat kk) - (1 : Int32)).toInt64), zS, zU, zU, zU, zU, zU, zU, zU, zU, zU, zU, zU, zU, zU, zU, zU, zU, zU, zU, zU, zU, zU] [])) t → Steps p.tables e below (s₁.setTop (entryFrame m #[(.long q0), (.long q1), (.int p2), (.int p3)] maxLocals)) t := by
      intro t kt
      refine pre1 t ?_
      refine XS.ifNo X0.here hx rfl (hb hby at_7) rfl ((if0 _ _).trans (feq hc2).1) ?_
      refine XS.iconst X0.here hx rfl (hb hby at_10) ?_
      refine XS.goto X0.here hx rfl (pc0 := 11) (pc' := 15) rfl (hb hby at_11) (by decide) (by decide) ?_
      show Steps p.tables e below (s₁.setTop (mkF m 15 #[vJ q0, zS, vJ q1, zS, vI p2, vI p3, vJ q0, zS, zU, zU, zU, zU, zU, zU, zU, zU, zU, zU, zU, zU, zU, zU, zU, zU, zU, zU, zU, zU, zU, zU, zU, zU] [(.int (1 : Int32))])) _
      refine XS.istore X0.here hx rfl (hb hby at_15) rfl (l' := #[vJ q0, zS, vJ q1, zS, vI p2, vI p3, vJ q0, zS, vI (1 : Int32), zU, zU, zU, zU, zU, zU, zU, zU, zU, zU, zU, zU, zU, zU, zU, zU, zU, zU, zU, zU, zU, zU, zU]) rfl ?_
      refine XS.iload X0.here hx rfl (hb hby at_17) rfl ?_
      refine XS.iconst X0.here hx rfl (hb hby at_19) ?_
      refine XS.iushr X0.here hx rfl (hb hby at_20) rfl ?_
      show Steps p.tables e below (s₁.setTop (mkF m 21 #[vJ q0, zS, vJ q1, zS, vI p2, vI p3, vJ q0, zS, vI (1 : Int32), zU, zU, zU, zU, zU, zU, zU, zU, zU, zU, zU, zU, zU, zU, zU, zU, zU, zU, zU, zU, zU, zU, zU] [(.int ((p3.toUInt32 >>> ((1 : Int32) &&& 31).toUInt32).toInt32))])) _
      refine XS.bipush X0.here hx rfl (hb hby at_21) ?_
      refine iremM (g := (mkF m 23 #[vJ q0, zS, vJ q1, zS, vI p2, vI p3, vJ q0, zS, vI (1 : Int32), zU, zU, zU, zU, zU, zU, zU, zU, zU, zU, zU, zU, zU, zU, zU, zU, zU, zU, zU, zU, zU, zU, zU] [(.int (11 : Int32)), (.int ((p3.toUInt32 >>> ((1 : Int32) &&& 31).toUInt32).toInt32))])) X0 hx rfl (hb hby at_23) rfl (by decide) ?_
      show Steps p.tables e below (s₁.setTop (mkF m 24 #[vJ q0, zS, vJ q1, zS, vI p2, vI p3, vJ q0, zS, vI (1 : Int32), zU, zU, zU, zU, zU, zU, zU, zU, zU, zU, zU, zU, zU, zU, zU, zU, zU, zU, zU, zU, zU, zU, zU] [(.int (((p3.toUInt32 >>> ((1 : Int32) &&& 31).toUInt32).toInt32) % (11 : Int32)))])) _
      rw [ekk]
      refine XS.iconst X0.here hx rfl (hb hby at_24) ?_
      refine XS.isub X0.here hx rfl (hb hby at_25) rfl ?_
      show Steps p.tables e below (s₁.setTop (mkF m 26 #[vJ q0, zS, vJ q1, zS, vI p2, vI p3, vJ q0, zS, vI (1 : Int32), zU, zU, zU, zU, zU, zU, zU, zU, zU, zU, zU, zU, zU, zU, zU, zU, zU, zU, zU, zU, zU, zU, zU] [(.int ((Int32.ofNat kk) - (1 : Int32)))])) _
      refine XS.i2l X0.here hx rfl (hb hby at_26) rfl ?_
      refine XS.lstore X0.here hx rfl (hb hby at_27) rfl (l' := #[vJ q0, zS, vJ q1, zS, vI p2, vI p3, vJ q0, zS, vI (1 : Int32), vJ (((Int32.ofNat kk) - (1 : Int32)).toInt64), zS, zU, zU, zU, zU, zU, zU, zU, zU, zU, zU, zU, zU, zU, zU, zU, zU, zU, zU, zU, zU, zU]) rfl ?_
      refine XS.iload X0.here hx rfl (hb hby at_29) rfl ?_
      refine XS.ifNo X0.here hx rfl (hb hby at_31) rfl ((if0 _ _).trans (feq (by decide : ¬ ((1 : Int32) = (0 : Int32)))).1) ?_
      show Steps p.tables e below (s₁.setTop (mkF m 34 #[vJ q0, zS, vJ q1, zS, vI p2, vI p3, vJ q0, zS, vI (1 : Int32), vJ (((Int32.ofNat kk) - (1 : Int32)).toInt64), zS, zU, zU, zU, zU, zU, zU, zU, zU, zU, zU, zU, zU, zU, zU, zU, zU, zU, zU, zU, zU, zU] [])) _
      refine XS.lload X0.here hx rfl (hb hby at_34) rfl ?_
      refine XS.bipush X0.here hx rfl (hb hby at_36) ?_
      refine XS.lshl X0.here hx rfl (hb hby at_38) rfl ?_
      refine XS.lloadN X0.here hx rfl (hb hby at_39) rfl ?_
      show Steps p.tables e below (s₁.setTop (mkF m 40 #[vJ q0, zS, vJ q1, zS, vI p2, vI p3, vJ q0, zS, vI (1 : Int32), vJ (((Int32.ofNat kk) - (1 : Int32)).toInt64), zS, zU, zU, zU, zU, zU, zU, zU, zU, zU, zU, zU, zU, zU, zU, zU, zU, zU, zU, zU, zU, zU] [(.long q0), (.long ((((Int32.ofNat kk) - (1 : Int32)).toInt64) <<< ((20 : Int32) &&& 0x3f).toInt64))])) _
      refine X0.ldc2Long hx hown (mvT hZ (wd hw 0 rfl)) (g := (mkF m 40 #[vJ q0, zS, vJ q1, zS, vI p2, vI p3, vJ q0, zS, vI (1 : Int32), vJ (((Int32.ofNat kk) - (1 : Int32)).toInt64), zS, zU, zU, zU, zU, zU, zU, zU, zU, zU, zU, zU, zU, zU, zU, zU, zU, zU, zU, zU, zU, zU] [(.long q0), (.long ((((Int32.ofNat kk) - (1 : Int32)).toInt64) <<< ((20 : Int32) &&& 0x3f).toInt64))])) rfl (hb hby at_40) _ ?_
      refine XS.land X0.here hx rfl (hb hby at_43) rfl ?_
      refine XS.lor X0.here hx rfl (hb hby at_44) rfl ?_
      refine XS.lstore X0.here hx rfl (hb hby at_45) rfl (l' := #[vJ q0, zS, vJ q1, zS, vI p2, vI p3, vJ (((((Int32.ofNat kk) - (1 : Int32)).toInt64) <<< ((20 : Int32) &&& 0x3f).toInt64) ||| (q0 &&& (1048575 : Int64))), zS, vI (1 : Int32), vJ (((Int32.ofNat kk) - (1 : Int32)).toInt64), zS, zU, zU, zU, zU, zU, zU, zU, zU, zU, zU, zU, zU, zU, zU, zU, zU, zU, zU, zU, zU, zU]) rfl ?_
      exact kt
    have hb3 := own_b3 q0 hkk
    obtain ⟨xx, exx⟩ : ∃ z, ((((((Int32.ofNat kk) - (1 : Int32)).toInt64) <<< ((20 : Int32) &&& 0x3f).toInt64) ||| (q0 &&& (1048575 : Int64))) >>> ((20 : Int32) &&& 0x3f).toInt64) = z := ⟨_, rfl⟩
    obtain ⟨nn, hnn, hxn⟩ := SBG.negL_of xx
    obtain ⟨sz, hsz⟩ : ∃ z, SBG.digitsL nn + SBG.GetCharsL.sgnL xx = z := ⟨_, rfl⟩
    have hn18 := own_small exx hnn hxn
    have hxm : xx = (((Int32.ofNat kk) - (1 : Int32)).toInt64) := exx.symm.trans hb3
    obtain ⟨TA, vmA, kA, LA, ee, ms, mv, mk, XA, hSA, hkA, hZA, hoA, hCA, KA, NA, RA, stA⟩ := lw1 q0 q1 p2 p3 (((((Int32.ofNat kk) - (1 : Int32)).toInt64) <<< ((20 : Int32) &&& 0x3f).toInt64) ||| (q0 &&& (1048575 : Int64))) (1 : Int32) (((Int32.ofNat kk) - (1 : Int32)).toInt64) xx nn sz X0 hx hZ hw hby hml hown e0 hS0 (Nat.zero_le _) hEL hCR0.1 hTK hBelow n0 hz hl THz u1 u2 hu1 hu2 S_Uz S_Nz kL S_Lz stI dgA dgB DgA DgB tbA tbB onA teB cs hcs S_Cz fm hfm S_Fz N0 Z0 (KZ.trans (Keep.refl h0 []) all0) hnn hxn hsz exx
    have hCR10 : CHr Z consts_1 s.vm h0 vmA TA.heap := hCR0.trans hCA
    have ZzA : n0 ≤ TA.heap.size := Nat.le_trans Z0 KA.1
    have KzA : Keep h0 TA.heap [] := (Keep.refl h0 []).trans KA all0
    obtain ⟨TB, vmB, kB, LB, aP, bP, aS, bS, kP, kS, sg, mg, XB, hSB, hkB, hZB, hoB, hCB, KB, NB, RB, RBp, RBs, hmg, hsgn, stB⟩ := lw2 q0 q1 p2 p3 (((((Int32.ofNat kk) - (1 : Int32)).toInt64) <<< ((20 : Int32) &&& 0x3f).toInt64) ||| (q0 &&& (1048575 : Int64))) (1 : Int32) (((Int32.ofNat kk) - (1 : Int32)).toInt64) xx nn sz ee ms mv mk XA hx hZA hw hby hml hoA rfl hSA hkA hEL hCR10.1 hTK hBelow n0 hz hl THz u1 u2 hu1 hu2 S_Uz S_Nz kL S_Lz stI dgA dgB DgA DgB tbA tbB onA teB cs hcs S_Cz fm hfm S_Fz NA ZzA (KZ.trans KzA all0) hnn hxn hsz hn18 RA
    have hCR11 : CHr Z consts_1 s.vm h0 vmB TB.heap := hCR10.trans hCB
    have ZzB : n0 ≤ TB.heap.size := Nat.le_trans ZzA KB.1
    have KzB : Keep h0 TB.heap [] := KzA.trans KB all0
    obtain ⟨TC, LC, a21, c24, c25, XC, KC, NC, stC⟩ : ∃ (T' : State) (locs' : List Loc) (a21 : Addr) (c24 c25 : Int32), Stand p l e room_1 (s.setVm vmB) m #[(.long q0), (.long q1), (.int p2), (.int p3)] below meth c T' locs' 19 4707 ∧ Keep TB.heap T'.heap [] ∧ Fr n0 locs' ∧ ∀ target, Steps p.tables e below (T'.setTop (mkF m 470 #[vJ q0, zS, vJ q1, zS, vI p2, vI p3, vJ (((((Int32.ofNat kk) - (1 : Int32)).toInt64) <<< ((20 : Int32) &&& 0x3f).toInt64) ||| (q0 &&& (1048575 : Int64))), zS, vI (1 : Int32), vJ (((Int32.ofNat kk) - (1 : Int32)).toInt64), zS, vJ xx, zS, vR ee, vR ms, vR aP, vR aS, vI sg, vJ mg, zS, vI (Int32.ofNat (SBG.digitsL nn)), vR a21, vI (Int32.ofNat 59), vI (Int32.ofNat sz), vI c24, vI c25, zU, zU, zU, zU, zU, zU] [])) target → Steps p.tables e below (TB.setTop (mkF m 142 #[vJ q0, zS, vJ q1, zS, vI p2, vI p3, vJ (((((Int32.ofNat kk) - (1 : Int32)).toInt64) <<< ((20 : Int32) &&& 0x3f).toInt64) ||| (q0 &&& (1048575 : Int64))), zS, vI (1 : Int32), vJ (((Int32.ofNat kk) - (1 : Int32)).toInt64), zS, vJ xx, zS, vR ee, vR ms, vR aP, vR aS, vI sg, vJ mg, zS, vI (Int32.ofNat (SBG.digitsL nn)), zU, zU, zU, zU, zU, zU, zU, zU, zU, zU, zU] [])) target := by
      rcases hsgn with ⟨rfl, hng⟩ | ⟨rfl, hng⟩
      · exact lw3p q0 q1 p2 p3 (((((Int32.ofNat kk) - (1 : Int32)).toInt64) <<< ((20 : Int32) &&& 0x3f).toInt64) ||| (q0 &&& (1048575 : Int64))) (1 : Int32) (((Int32.ofNat kk) - (1 : Int32)).toInt64) xx nn sz ee ms mv mk aP bP aS bS kP kS mg XB hx hZB hw hby hml hoB rfl n0 hz hl THz u1 u2 hu1 hu2 S_Uz S_Nz kL S_Lz stI dgA dgB DgA DgB tbA tbB onA teB cs hcs S_Cz fm hfm S_Fz NB ZzB (KZ.trans KzB all0) hnn hxn hsz hn18 RB RBp RBs hmg hng
      · exact lw3m q0 q1 p2 p3 (((((Int32.ofNat kk) - (1 : Int32)).toInt64) <<< ((20 : Int32) &&& 0x3f).toInt64) ||| (q0 &&& (1048575 : Int64))) (1 : Int32) (((Int32.ofNat kk) - (1 : Int32)).toInt64) xx nn sz ee ms mv mk aP bP aS bS kP kS mg XB hx hZB hw hby hml hoB rfl n0 hz hl THz u1 u2 hu1 hu2 S_Uz S_Nz kL S_Lz stI dgA dgB DgA DgB tbA tbB onA teB cs hcs S_Cz fm hfm S_Fz NB ZzB (KZ.trans KzB all0) hnn hxn hsz hn18 RB RBp RBs hmg hng
    have hCR12 : CHr Z consts_1 s.vm h0 vmB TC.heap := hCR11.trans (CHr.keep KC all0 hCR11.1)
    have ZzC : n0 ≤ TC.heap.size := Nat.le_trans ZzB KC.1
    have KzC : Keep h0 TC.heap [] := KzB.trans KC all0
    have RC := RB.keep KC nin0 nin0
    obtain ⟨TD, vmD, kD, LD, l26, l29, c28, XD, hSD, hkD, hZD, hoD, hCD, KD, ND, stD⟩ := lw4 q0 q1 p2 p3 (((((Int32.ofNat kk) - (1 : Int32)).toInt64) <<< ((20 : Int32) &&& 0x3f).toInt64) ||| (q0 &&& (1048575 : Int64))) (1 : Int32) (((Int32.ofNat kk) - (1 : Int32)).toInt64) xx nn sz ee ms mv mk aP aS a21 sg (Int32.ofNat (SBG.digitsL nn)) (Int32.ofNat 59) (Int32.ofNat sz) c24 c25 mg XC hx hZB hw hby hml hoB rfl hSB (Nat.le_trans hkB KC.1) hEL hCR12.1 hTK hBelow n0 hz hl THz u1 u2 hu1 hu2 S_Uz S_Nz kL S_Lz stI dgA dgB DgA DgB tbA tbB onA teB cs hcs S_Cz fm hfm S_Fz NC ZzC (KZ.trans KzC all0) hnn hxn hsz exx RC
    have hCR13 : CHr Z consts_1 s.vm h0 vmD TD.heap := hCR12.trans hCD
    have ZzD : n0 ≤ TD.heap.size := Nat.le_trans ZzC KD.1
    have KzD : Keep h0 TD.heap [] := KzC.trans KD all0
    have RD := RC.keep KD nin0 nin0
    obtain ⟨TE, vmE, kE, LE, s31, XE, hSE, hkE, hZE, hoE, hCE, KE, NE, stE⟩ := lw5 q0 q1 p2 p3 (((((Int32.ofNat kk) - (1 : Int32)).toInt64) <<< ((20 : Int32) &&& 0x3f).toInt64) ||| (q0 &&& (1048575 : Int64))) (1 : Int32) (((Int32.ofNat kk) - (1 : Int32)).toInt64) xx nn sz ee ms mv mk aP aS a21 sg (Int32.ofNat (SBG.digitsL nn)) (Int32.ofNat 59) (Int32.ofNat sz) c24 c25 mg l26 l29 c28 XD hx hZD hw hby hml hoD rfl hSD hkD hEL hCR13.1 hTK hBelow n0 hz hl THz u1 u2 hu1 hu2 S_Uz S_Nz kL S_Lz stI dgA dgB DgA DgB tbA tbB onA teB cs hcs S_Cz fm hfm S_Fz ND ZzD (KZ.trans KzD all0) hnn hxn hsz hn18 RD (Or.inr ⟨rfl, kk, hkk, (own_mmI hkk).2, by rw [hxm]; exact (own_mmI hkk).1⟩)
    have hCR14 : CHr Z consts_1 s.vm h0 vmE TE.heap := hCR13.trans hCE
    have ZzE : n0 ≤ TE.heap.size := Nat.le_trans ZzD KE.1
    have KzE : Keep h0 TE.heap [] := KzD.trans KE all0
    have preE : ∀ t, Steps p.tables e below (TE.setTop (mkF m 632 #[vJ q0, zS, vJ q1, zS, vI p2, vI p3, vJ (((((Int32.ofNat kk) - (1 : Int32)).toInt64) <<< ((20 : Int32) &&& 0x3f).toInt64) ||| (q0 &&& (1048575 : Int64))), zS, vI (1 : Int32), vJ (((Int32.ofNat kk) - (1 : Int32)).toInt64), zS, vJ xx, zS, vR ee, vR ms, vR aP, vR aS, vI sg, vJ mg, zS, vI (Int32.ofNat (SBG.digitsL nn)), vR a21, vI (Int32.ofNat 59), vI (Int32.ofNat sz), vI c24, vI c25, vJ l26, zS, vI c28, vJ l29, zS, s31] [])) t → Steps p.tables e below (s₁.setTop (entryFrame m #[(.long q0), (.long q1), (.int p2), (.int p3)] maxLocals)) t := fun t kt => pre9 t (stA t (stB t (stC t (stD t (stE t kt)))))
    obtain ⟨fs, hr, hrun, hended, hEnd⟩ := XE.leaveW (s := s) hSE hkE (v := some (.int (1 : Int32))) (fun h => by rw [Bd.returns] at h; cases h)
    refine ⟨_, _, preE _ ?_, hrun, hended, _, _, rfl, ?_, (by show CHr Z consts_1 s.vm s.heap TE.vm TE.heap; rw [hh]; exact hCR14.trans (CHv.at XE hZE hEL hCR14.1)), hEnd.1, hEnd.2.1, hEnd.2.2.1, hEnd.2.2.2.mono (by decide) (by decide)⟩
    · skip
      show Steps p.tables e below (TE.setTop (mkF m 632 #[vJ q0, zS, vJ q1, zS, vI p2, vI p3, vJ (((((Int32.ofNat kk) - (1 : Int32)).toInt64) <<< ((20 : Int32) &&& 0x3f).toInt64) ||| (q0 &&& (1048575 : Int64))), zS, vI (1 : Int32), vJ (((Int32.ofNat kk) - (1 : Int32)).toInt64), zS, vJ xx, zS, vR ee, vR ms, vR aP, vR aS, vI sg, vJ mg, zS, vI (Int32.ofNat (SBG.digitsL nn)), vR a21, vI (Int32.ofNat 59), vI (Int32.ofNat sz), vI c24, vI c25, vJ l26, zS, vI c28, vJ l29, zS, s31] [])) _
      refine XS.iconst XE.here hx rfl (hb hby at_632) ?_
      show Steps p.tables e below (TE.setTop (mkF m 633 #[vJ q0, zS, vJ q1, zS, vI p2, vI p3, vJ (((((Int32.ofNat kk) - (1 : Int32)).toInt64) <<< ((20 : Int32) &&& 0x3f).toInt64) ||| (q0 &&& (1048575 : Int64))), zS, vI (1 : Int32), vJ (((Int32.ofNat kk) - (1 : Int32)).toInt64), zS, vJ xx, zS, vR ee, vR ms, vR aP, vR aS, vI sg, vJ mg, zS, vI (Int32.ofNat (SBG.digitsL nn)), vR a21, vI (Int32.ofNat 59), vI (Int32.ofNat sz), vI c24, vI c25, vJ l26, zS, vI c28, vJ l29, zS, s31] [(.int (1 : Int32))])) _
      exact retN XE hx (t := .boolean) Bd.returns (by simp) (hb hby at_633) hr
    · exact ⟨(by first | rfl | simp [hc2]), NE⟩
theorem own_arr {args : Array Value} {s : State} {t : Term} {a : Addr} {z : Int32} (ev : t.eval args s none [] s = some (.ref a)) (hx : (Jvm.Cond.exactly t "[B").value args s none s [] = some true) (hl : (Jvm.Cond.eq (.length t) (.int z)).value args s none s [] = some true) (wa : (Jvm.Cond.arrayClass .byte).before args s = true) : ∃ cl, Arr s s.heap a cl .byte := by
  obtain ⟨cell, k, h1, h2, h3, h4, -⟩ := Exa.start ev hx
  obtain ⟨u, w, e1, -⟩ := cmp_v (Or.inl hl)
  obtain ⟨a', c', q1, q2, -⟩ := Term.length_spec e1
  cases ev.symm.trans q1
  obtain ⟨cA, kA, comp, r1, r2, r3⟩ := Cond.arrayClass_spec wa
  have r1' : s.vm.findClass "[B" = some cA := r1
  cases h2.symm.trans r1'
  refine ⟨cell, h1, ⟨fun q e => (by rw [e] at h4; cases h4), kA, r2, comp, r3⟩, fun e => ?_⟩
  simp [State.arrayAt?, h1, h3, e] at q2
theorem own_lenT {args : Array Value} {s : State} {t : Term} {a : Addr} {cl : Cell} {ty : FieldType} {z : Int32} {N : Nat} (ev : t.eval args s none [] s = some (.ref a)) (A : Arr s s.heap a cl ty) (h : (Jvm.Cond.eq (.length t) (.int z)).value args s none s [] = some true) (hz : z = Int32.ofNat N) (hN : N < 2147483648) : cl.slots.size = N := by
  obtain ⟨u, w, e1, e2, k1, k2⟩ := cmp_v (Or.inl h)
  obtain rfl : w = .int z := (Option.some.inj (e2.symm.trans (Term.int_eval z)))
  obtain ⟨y, rfl⟩ := k2
  have hy : y = z := by simpa [Cond.value, e1, e2] using h
  subst hy
  have ha := A.fin (Vm.Alike.refl _)
  by_cases hlt : cl.slots.size < 2 ^ 31
  · have e3 := len_f ev ha hlt
    have e4 : Int32.ofNat cl.slots.size = y := Value.int.inj (Option.some.inj (e3.symm.trans e1))
    exact (own_inj hlt hN).mp (e4.trans hz)
  · simp [Term.eval, ev, ha, hlt] at e1
theorem own_dig {args : Array Value} {s : State} {t rhs : Term} {a : Addr} {cl : Cell} {v : Int32} (ev : ∀ idx, t.eval args s none idx s = some (.ref a)) (Ar : Arr s s.heap a cl .byte) (hsz : cl.slots.size = 100)
    (k5 : (Jvm.Cond.all t (.eq (.elem t (.index 0)) rhs)).value args s none s [] = some true) (j : Nat) (hj : j < 100) (hr : rhs.eval args s none [j] s = some (.int v)) : cl.slots[j]? = some (.int v) := by
  have ha := Ar.fin (Vm.Alike.refl _)
  have hv := Cond.all_elim (ev []) ha k5 j (by omega)
  have hi : (Term.index 0).eval args s none [j] s = some (.int (Int32.ofNat j)) := rfl
  obtain ⟨u, w, e1, e2, k1, k2⟩ := cmp_v (Or.inl hv)
  obtain rfl := Option.some.inj (e2.symm.trans hr)
  obtain ⟨y, rfl⟩ := k2
  have hz : y = v := by simpa [Cond.value, e1, e2] using hv
  subst hz
  have he := (elem_in e1 (ev [j]) hi Ar.1).2
  rw [own_clamp_of (by omega)] at he
  exact he
theorem own_tbl {args : Array Value} {Z : State} {name : String} {d : Addr} {D : Cell} {F : Nat → Nat} (S : Sta Z Z.heap "java/lang/Integer" name "[B" (.ref d)) (w1 : (Jvm.Cond.laysStatic "java/lang/Integer" name "[B").before args Z = true) (A : Arr Z Z.heap d D .byte) (hs : D.slots.size = 100) (hc : ∀ r, r < 100 → D.slots[r]? = some (.int (Int32.ofNat (F r)))) :
    ∃ (c : ClassId) (k : Class) (st : Addr), Z.vm.findClass "java/lang/Integer" = some c ∧ Z.vm.classes[c]? = some k ∧ k.statics = some st ∧ Jvm.Free.SBG.Tbl Z name st d D ∧ ∀ r, r < 100 → Jvm.Free.SBG.iAt D r = Int32.ofNat (F r) := by
  obtain ⟨c, k, i, f, st, cell, hc1, hi, hst, ha, -⟩ := Cond.laysStatic_spec w1
  obtain ⟨cf, i', k', f', st', cell', s1, s2, s3, s4, s5, s6, s7⟩ := S
  have e := hi.symm.trans s1
  simp only [Option.some.injEq, Prod.mk.injEq] at e
  obtain ⟨rfl, rfl, rfl, rfl⟩ := e
  have hI : ∀ r, r < 100 → Jvm.Free.SBG.iAt D r = Int32.ofNat (F r) := fun r hr => by
    simp only [Jvm.Free.SBG.iAt, Array.getD_eq_getD_getElem?, hc r hr]; rfl
  refine ⟨c, k, st', hc1, (State.fieldFound?_spec hi).1, s4, ⟨c, i, k, f, cell', s1, s2, s3, s4, s5, fun q => ?_, s7, A.1, A.2.1, A.2.2, hs, fun r hr => ?_⟩, hI⟩
  · rw [q] at s6; cases s6
  · rw [hc r hr, hI r hr]
set_option maxRecDepth 65536 in
set_option maxHeartbeats 40000000 in
theorem comes_1 {Post : Tables → Env → Array Value → State → Outcome → State → Prop} (hpost : ∀ tb e args s v u, (limb_1_1.after args s (.returned v) u = true ∧ limb_1_2.after args s (.returned v) u = true ∧ True) → ReturnedEndW s (.returned v) u (Jvm.fieldLocs frame_1_writes args s ++ Jvm.arrayLocs frame_1_arrays args s ++ Jvm.staticLocs frame_1_statics s) 96 33984 → Post tb e args s (.returned v) u) :
    ArmFor flags0 classFile x code maxLocals ret World_1 tables_1 room_1 Calls_1 rest_1 Pre_1 Post := by
  intro l hfl _ _ p e ha hcas hclk s m args below hf hA hF happ hP
  obtain ⟨hcalls, hrest, hpre⟩ := hP
  obtain ⟨-, -, -, hnamed, -, -, -, hat⟩ := (Spec.applies_iff hf).mp happ
  obtain ⟨hg, hn⟩ := and_e (Cond.before_iff.mp (show (Jvm.Cond.and given_1 narrow_1).before args s = true from hpre))
  obtain ⟨g0, hg⟩ := and_e hg
  obtain ⟨g1, hg⟩ := and_e hg
  obtain ⟨g2, hg⟩ := and_e hg
  obtain ⟨g3, hg⟩ := and_e hg
  have g4 := hg
  obtain ⟨w0, w1, w2, w3, rfl⟩ : ∃ w0 w1 w2 w3 : Value, args = #[w0, w1, w2, w3] := by
    have hs : args.size = 4 := by simpa [Cond.value, given_1] using g0
    obtain ⟨L⟩ := args
    match L, hs with
    | [w0, w1, w2, w3], _ => exact ⟨w0, w1, w2, w3, rfl⟩
  have hw := fun d (hd : d ∈ tables_1) => atoms_spec (ws := Jvm.Cond.code x code maxLocals ret :: tables_1) hat d (List.mem_cons_of_mem _ hd)
  have hfit : Fit s := fun {y c} hc i hi => by
    obtain ⟨ha, rfl⟩ := Array.getElem?_eq_some_iff.mp hc
    have q := List.all_eq_true.mp ((Array.all_eq_true_iff_forall_mem.mp hF) _ (Array.getElem_mem ha)) i (List.mem_range.mpr hi)
    simpa [Array.getElem?_eq_getElem hi] using q
  obtain ⟨i0, ei0⟩ := isL_v g1
  obtain rfl : w0 = (.long i0) := Option.some.inj ei0
  obtain ⟨i1, ei1⟩ := isL_v g2
  obtain rfl : w1 = (.long i1) := Option.some.inj ei1
  obtain ⟨i2, ei2⟩ := is_v g3
  obtain rfl : w2 = (.int i2) := Option.some.inj ei2
  obtain ⟨i3, ei3⟩ := is_v g4
  obtain rfl : w3 = (.int i3) := Option.some.inj ei3
  obtain ⟨hsets, hown0⟩ := atoms_of _ (rest_1_c_eq ▸ (show rest_1_c.before _ s = true from hrest))
  have m0 := hn
  obtain ⟨w_Kind_LOCAL, ev_Kind_LOCAL⟩ := exa_v m0
  have E_Kind_LOCAL := Exa.start ev_Kind_LOCAL m0
  have S_Kind_LOCAL := Sta.start ev_Kind_LOCAL (Or.inr ⟨(wd hw 8 rfl), (wd hw 9 rfl)⟩)
  have hl : l.stackTraces = true := by rw [Launch.stackTraces, hfl]; rfl
  obtain ⟨cs, ev_C⟩ := is_v (Cond.before_iff.mp (hsets _ (List.mem_of_getElem? (i := 1) rfl)))
  have S_C := Sta.start ev_C (Or.inl (hsets _ (List.mem_of_getElem? (i := 0) rfl)))
  have hcs : ¬ cs = (0 : Int32) := by
    have k2 := not_v (Cond.before_iff.mp (hsets _ (List.mem_of_getElem? (i := 2) rfl)))
    intro q; subst q; have k3 := eq_i ev_C (Term.int_eval (0 : Int32)) rfl; rw [k3] at k2; cases k2
  obtain ⟨fm, ev_F, hfm⟩ := isR_v (Cond.before_iff.mp (hsets _ (List.mem_of_getElem? (i := 8) rfl)))
  have S_F := Sta.start ev_F (Or.inl (hsets _ (List.mem_of_getElem? (i := 7) rfl)))
  obtain ⟨u1, ev1, hu1⟩ := isR_v (Cond.before_iff.mp (hsets _ (List.mem_of_getElem? (i := 27) rfl)))
  have S_U := Sta.start ev1 (Or.inl (hsets _ (List.mem_of_getElem? (i := 26) rfl)))
  obtain ⟨u2, ev2, hu2⟩ := isR_v (Cond.before_iff.mp (hsets _ (List.mem_of_getElem? (i := 32) rfl)))
  have S_N := Sta.start ev2 (Or.inl (hsets _ (List.mem_of_getElem? (i := 31) rfl)))
  obtain ⟨d1, evd1⟩ := exa_v (Cond.before_iff.mp (hsets _ (List.mem_of_getElem? (i := 12) rfl)))
  have Sd1 := Sta.start evd1 (Or.inl (hsets _ (List.mem_of_getElem? (i := 11) rfl)))
  obtain ⟨D1, Ad1⟩ := own_arr evd1 (Cond.before_iff.mp (hsets _ (List.mem_of_getElem? (i := 12) rfl))) (Cond.before_iff.mp (hsets _ (List.mem_of_getElem? (i := 13) rfl))) (wd hw 27 rfl)
  have sz1 := own_lenT evd1 Ad1 (Cond.before_iff.mp (hsets _ (List.mem_of_getElem? (i := 13) rfl))) (N := 100) rfl (by decide)
  have evA1 : ∀ idx, (Jvm.Term.static "java/lang/Integer" "DigitOnes" "[B").eval #[Value.long i0, Value.long i1, Value.int i2, Value.int i3] s none idx s = some (.ref d1) := fun idx => by rw [show (Jvm.Term.static "java/lang/Integer" "DigitOnes" "[B").eval #[Value.long i0, Value.long i1, Value.int i2, Value.int i3] s none idx s = (Jvm.Term.static "java/lang/Integer" "DigitOnes" "[B").eval #[Value.long i0, Value.long i1, Value.int i2, Value.int i3] s none [] s from by simp only [Term.eval]]; exact evd1
  have hd1 : ∀ r, r < 100 → D1.slots[r]? = some (.int (Int32.ofNat (48 + r % 10))) := fun r hr => own_dig evA1 Ad1 sz1 (Cond.before_iff.mp (hsets _ (List.mem_of_getElem? (i := 14) rfl))) r hr (by rw [← SBG.ones_num r hr]; rfl)
  obtain ⟨c1, k1, st1, f1, g1, h1, t1, o1⟩ := own_tbl (F := fun r => 48 + r % 10) Sd1 (hsets _ (List.mem_of_getElem? (i := 10) rfl)) Ad1 sz1 hd1
  obtain ⟨d2, evd2⟩ := exa_v (Cond.before_iff.mp (hsets _ (List.mem_of_getElem? (i := 17) rfl)))
  have Sd2 := Sta.start evd2 (Or.inl (hsets _ (List.mem_of_getElem? (i := 16) rfl)))
  obtain ⟨D2, Ad2⟩ := own_arr evd2 (Cond.before_iff.mp (hsets _ (List.mem_of_getElem? (i := 17) rfl))) (Cond.before_iff.mp (hsets _ (List.mem_of_getElem? (i := 18) rfl))) (wd hw 27 rfl)
  have sz2 := own_lenT evd2 Ad2 (Cond.before_iff.mp (hsets _ (List.mem_of_getElem? (i := 18) rfl))) (N := 100) rfl (by decide)
  have evA2 : ∀ idx, (Jvm.Term.static "java/lang/Integer" "DigitTens" "[B").eval #[Value.long i0, Value.long i1, Value.int i2, Value.int i3] s none idx s = some (.ref d2) := fun idx => by rw [show (Jvm.Term.static "java/lang/Integer" "DigitTens" "[B").eval #[Value.long i0, Value.long i1, Value.int i2, Value.int i3] s none idx s = (Jvm.Term.static "java/lang/Integer" "DigitTens" "[B").eval #[Value.long i0, Value.long i1, Value.int i2, Value.int i3] s none [] s from by simp only [Term.eval]]; exact evd2
  have hd2 : ∀ r, r < 100 → D2.slots[r]? = some (.int (Int32.ofNat (48 + r / 10))) := fun r hr => own_dig evA2 Ad2 sz2 (Cond.before_iff.mp (hsets _ (List.mem_of_getElem? (i := 19) rfl))) r hr (by rw [← SBG.tens_num r hr]; rfl)
  obtain ⟨c2, k2, st2, f2, g2, h2, t2, o2⟩ := own_tbl (F := fun r => 48 + r / 10) Sd2 (hsets _ (List.mem_of_getElem? (i := 15) rfl)) Ad2 sz2 hd2
  obtain rfl : c2 = c1 := Option.some.inj (f2.symm.trans f1)
  obtain rfl : k2 = k1 := Option.some.inj (g2.symm.trans g1)
  obtain rfl : st2 = st1 := Option.some.inj (h2.symm.trans h1)
  have hEL : EW s #[Value.long i0, Value.long i1, Value.int i2, Value.int i3] consts_1 := EW.cons (wd hw 32 rfl) (by decide +kernel) (EW.cons (wd hw 136 rfl) (by decide +kernel) (EW.cons (wd hw 245 rfl) (by decide +kernel) (EW.cons (wd hw 246 rfl) (by decide +kernel) (EW.cons (wd hw 306 rfl) (by decide +kernel) (EW.cons (wd hw 307 rfl) (by decide +kernel) (EW.cons (wd hw 308 rfl) (by decide +kernel) (EW.cons (wd hw 309 rfl) (by decide +kernel) (EW.cons (wd hw 310 rfl) (by decide +kernel) (EW.cons (wd hw 311 rfl) (by decide +kernel) (EW.cons (wd hw 312 rfl) (by decide +kernel) (EW.cons (wd hw 313 rfl) (by decide +kernel) (EW.cons (wd hw 314 rfl) (by decide +kernel) (EW.cons (wd hw 315 rfl) (by decide +kernel) (EW.cons (wd hw 316 rfl) (by decide +kernel) (EW.nil)))))))))))))))
  have hCH : CHv s consts_1 s.vm s.heap := CHv.start hEL hcalls.2.2.1 (hsets _ (List.mem_of_getElem? (i := 2) rfl)) (wd hw 27 rfl) (wd hw 33 rfl)
  obtain ⟨n, o, h1, h2, h3, _, L, rfl, ⟨rfl, N⟩, -, hq⟩ := rm0 l s _ hw tables_1 i0 i1 i2 i3 hEL s.heap (Keep.refl s.heap []) s.heap.size (Nat.le_refl _) hl ThS.start u1 u2 hu1 hu2 S_U S_N w_Kind_LOCAL S_Kind_LOCAL st2 d1 d2 D1 D2 t1 t2 o1 o2 cs hcs S_C fm hfm S_F (Nat.le_refl _) p e ha hcas hclk s m _ below hf ((Spec.applies_iff_loose hf).mp happ).1 ⟨rfl, State.Warmed39.refl s, rfl, hCH⟩ ⟨MethodsKnown_of_tablesKnown hcalls.2.1, FramesKnown_of_framesKnown hcalls.1 hf⟩
  refine ⟨n, _, h1, h2, h3, hpost _ _ _ _ _ _ ⟨Cond.after_iff.mpr rfl, Cond.after_iff.mpr (eq_i res_at (Term.int_eval (1)) rfl), trivial⟩ ⟨hq.1, hq.2.1, hq.2.2.1, (hq.2.2.2.sift fun y hy => Or.inr (N y hy)).mono (by decide) (by decide)⟩⟩
theorem main_1_1 : Claimed_1_1 := comes_1 fun _ _ _ _ _ _ h hF => ⟨h.1, hF⟩
theorem main_1_2 : Claimed_1_2 := comes_1 fun _ _ _ _ _ _ h hF => ⟨h.2.1, hF⟩
end Jvm.Pilot.@@N@@
namespace Jvm.Pilot.@@N@@
open Jvm Jvm.ClassFile Sem Op Lib Jvm.Free Jvm.Stand Jvm.Pilot.@@N@@.Jvm.D
/-! MADE BY PROGRAM (witnessworld.py) out of the Statement's table words and the real class files: 46 classes; the members and pool entries that the words name. The judged class is class 1, her method 2. -/
namespace start1
open Jvm.ClassFile
def u (s : String) : CpInfo := .utf8 (stringToUtf16 s)
/-- a pool by its gaps: so many unusable entries, then the entry; so many at the end -/
def gap : Nat → List CpInfo → List CpInfo
  | 0, r => r
  | n + 1, r => .unusable :: gap n r
def poolList (es : List (Nat × CpInfo)) (last : Nat) : List CpInfo := es.foldr (fun e r => gap e.1 (e.2 :: r)) (gap last [])
def pool (es : List (Nat × CpInfo)) (last : Nat) : Array CpInfo := ⟨poolList es last⟩
def fileOf (pool : Array CpInfo) (this : Nat) (attrs : Array Attribute := #[]) (ms : Array MethodInfo := #[]) (fl : Nat := 33) (sup : Nat := 0) (ifs : Array Nat := #[]) (fds : Array FieldInfo := #[]) : ClassFile where
  minorVersion := 0
  majorVersion := 65
  constantPool := pool
  accessFlags := fl
  thisClass := this
  superClass := sup
  interfaces := ifs
  fields := fds
  methods := ms
  attributes := attrs
def plain (name : String) (sup : Option ClassId) : Class where
  name := name
  kind := .ordinary
  loader := none
  accessFlags := 33
  super := sup
  interfaces := #[]
  cf := none
  fields := #[]
  methods := #[]
  instanceTypes := #[]
  staticTypes := #[]
  resolved := #[]
  callSites := []
  init := .initialized
  statics := none
  mirror := none

def pool0 : Array CpInfo := pool [(5, u "<init>"), (0, u "()V"), (1, .class_ 10), (1, u "java/lang/Object")] 113

def k0c0 : Code := { maxStack := 0, maxLocals := 1, code := object_method_1_code, exceptionTable := #[], attributes := #[] }
def k0m0 : Method := { name := "<init>", desc := "()V", sig := { parameters := [], returnType := none }, accessFlags := 1, code := some k0c0 }
/-- java/lang/Object -/
def k0 : Class := { plain "java/lang/Object" none with
  accessFlags := 33
  interfaces := #[]
  cf := some (fileOf pool0 8 #[] #[{ accessFlags := 1, nameIndex := 5, descriptorIndex := 6, attributes := #[] }] 33 0 #[] #[])
  fields := #[]
  methods := #[k0m0]
  instanceTypes := #[]
  staticTypes := #[]
  resolved := Array.replicate 124 none
  statics := none }

def pool1 : Array CpInfo := pool [(2, .class_ 4), (1, u "java/lang/Object"), (0, u "<init>"), (0, u "()V"), (0, .long 10), (1, .long 100), (1, .long 1000), (1, .long 10000), (1, .long 100000), (1, .long 1000000), (1, .long 10000000), (1, .long 100000000), (1, .long 1000000000), (1, .long 10000000000), (1, .long 100000000000), (1, .long 1000000000000), (1, .long 10000000000000), (1, .long 100000000000000), (1, .long 1000000000000000), (1, .long 10000000000000000), (1, .long 100000000000000000), (1, .long 1000000000000000000), (1, .long 1048575), (1, .methodref 46 47), (0, .class_ 48), (0, .nameAndType 49 50), (0, u "com/example/tollplan/tollplan/CommandException"), (0, u "outOfMemory"), (0, u "(J)Lcom/example/tollplan/tollplan/CommandException;"), (0, .methodref 46 52), (0, .nameAndType 53 54), (0, u "kind"), (0, u "()Lcom/example/tollplan/tollplan/CommandException$Kind;"), (0, .fieldref 56 57), (0, .class_ 58), (0, .nameAndType 59 60), (0, u "com/example/tollplan/tollplan/CommandException$Kind"), (0, u "LOCAL"), (0, u "Lcom/example/tollplan/tollplan/CommandException$Kind;"), (0, .methodref 46 62), (0, .nameAndType 63 64), (0, u "getCause"), (0, u "()Ljava/lang/Throwable;"), (0, .methodref 46 66), (0, .nameAndType 67 68), (0, u "getMessage"), (0, u "()Ljava/lang/String;"), (0, .string 70), (0, u "out of memory: the command's work outgrew the Java heap of "), (0, .string 72), (0, u " MiB; run java with a larger -Xmx"), (0, .methodref 74 75), (0, .class_ 76), (0, .nameAndType 77 78), (0, u "com/example/tollplan/tollplan/CommandExceptionOutOfMemoryPinLaw"), (0, u "digits"), (0, u "(J)I"), (0, .methodref 80 81), (0, .class_ 82), (0, .nameAndType 83 84), (0, u "java/lang/String"), (0, u "length"), (0, u "()I"), (0, .methodref 80 86), (0, .nameAndType 87 88), (0, u "charAt"), (0, u "(I)C"), (0, .long 18446744073708503040), (1, .methodref 80 92), (0, .nameAndType 93 94), (0, u "equals"), (0, u "(Ljava/lang/Object;)Z"), (0, .integer 2147483647), (0, .string 97), (0, u "out of memory: the command's work outgrew the Java heap of -1 MiB; run java with a larger -Xmx"), (0, .string 99), (0, u "out of memory: the command's work outgrew the Java heap of 0 MiB; run java with a larger -Xmx"), (0, .string 101), (0, u "out of memory: the command's work outgrew the Java heap of 1 MiB; run java with a larger -Xmx"), (0, .string 103), (0, u "out of memory: the command's work outgrew the Java heap of 2 MiB; run java with a larger -Xmx"), (0, .string 105), (0, u "out of memory: the command's work outgrew the Java heap of 3 MiB; run java with a larger -Xmx"), (0, .string 107), (0, u "out of memory: the command's work outgrew the Java heap of 4 MiB; run java with a larger -Xmx"), (0, .string 109), (0, u "out of memory: the command's work outgrew the Java heap of 5 MiB; run java with a larger -Xmx"), (0, .string 111), (0, u "out of memory: the command's work outgrew the Java heap of 6 MiB; run java with a larger -Xmx"), (0, .string 113), (0, u "out of memory: the command's work outgrew the Java heap of 7 MiB; run java with a larger -Xmx"), (0, .string 115), (0, u "out of memory: the command's work outgrew the Java heap of 8 MiB; run java with a larger -Xmx"), (0, .string 117), (0, u "out of memory: the command's work outgrew the Java heap of 9 MiB; run java with a larger -Xmx"), (3, u "law"), (0, u "(JJII)Z")] 6

def k1m0 : Method := { name := "<init>", desc := "()V", sig := { parameters := [], returnType := none }, accessFlags := 1, code := none }
def k1c1 : Code := { maxStack := 4, maxLocals := 2, code := method_2_code, exceptionTable := #[], attributes := #[] }
def k1m1 : Method := { name := "digits", desc := "(J)I", sig := { parameters := [.long], returnType := some .int }, accessFlags := 10, code := some k1c1 }
def k1c2 : Code := { maxStack := 6, maxLocals := 32, code := code, exceptionTable := #[], attributes := #[] }
def k1m2 : Method := { name := "law", desc := "(JJII)Z", sig := { parameters := [.long, .long, .int, .int], returnType := some .boolean }, accessFlags := 9, code := some k1c2 }
/-- com/example/tollplan/tollplan/CommandExceptionOutOfMemoryPinLaw -/
def k1 : Class := { plain "com/example/tollplan/tollplan/CommandExceptionOutOfMemoryPinLaw" (some 0) with
  accessFlags := 49
  interfaces := #[]
  cf := some (fileOf pool1 74 #[] #[{ accessFlags := 1, nameIndex := 5, descriptorIndex := 6, attributes := #[] }, { accessFlags := 10, nameIndex := 77, descriptorIndex := 78, attributes := #[] }, { accessFlags := 9, nameIndex := 121, descriptorIndex := 122, attributes := #[] }] 49 2 #[] #[])
  fields := #[]
  methods := #[k1m0, k1m1, k1m2]
  instanceTypes := #[]
  staticTypes := #[]
  resolved := Array.replicate 129 none
  statics := none }

def pool2 : Array CpInfo := pool [(1, .class_ 2), (0, u "java/io/Serializable"), (0, .class_ 4), (0, u "java/lang/Object")] 2

/-- java/io/Serializable -/
def k2 : Class := { plain "java/io/Serializable" (some 0) with
  accessFlags := 1537
  interfaces := #[]
  cf := some (fileOf pool2 1 #[] #[] 1537 3 #[] #[])
  fields := #[]
  methods := #[]
  instanceTypes := #[]
  staticTypes := #[]
  resolved := Array.replicate 7 none
  statics := none }

def pool3 : Array CpInfo := pool [(1, .methodref 2 3), (0, .class_ 4), (0, .nameAndType 5 6), (0, u "java/lang/Object"), (0, u "<init>"), (0, u "()V"), (0, .fieldref 8 9), (0, .class_ 10), (0, .nameAndType 11 12), (0, u "java/lang/Throwable"), (0, u "cause"), (0, u "Ljava/lang/Throwable;"), (0, .fieldref 8 14), (0, .nameAndType 15 16), (0, u "UNASSIGNED_STACK"), (0, u "[Ljava/lang/StackTraceElement;"), (0, .fieldref 8 18), (0, .nameAndType 19 16), (0, u "stackTrace"), (0, .fieldref 8 21), (0, .nameAndType 22 23), (0, u "SUPPRESSED_SENTINEL"), (0, u "Ljava/util/List;"), (0, .fieldref 8 25), (0, .nameAndType 26 23), (0, u "suppressedExceptions"), (0, .methodref 8 28), (0, .nameAndType 29 30), (0, u "fillInStackTrace"), (0, u "()Ljava/lang/Throwable;"), (0, .fieldref 8 32), (0, .nameAndType 33 34), (0, u "detailMessage"), (0, u "Ljava/lang/String;"), (3, u "()Ljava/lang/String;"), (2, u "getMessage"), (51, .class_ 94), (0, u "java/lang/Throwable$WrappedPrintStream"), (6, .class_ 103), (1, u "java/lang/Throwable$PrintStreamOrWriter"), (54, u "getCause"), (6, u "$assertionsDisabled"), (0, u "Z"), (26, .class_ 194), (0, u "java/lang/Throwable$WrappedPrintWriter"), (3, .fieldref 8 199), (0, .nameAndType 200 201), (0, u "backtrace"), (0, u "Ljava/lang/Object;"), (0, .methodref 8 203), (0, .nameAndType 29 204), (0, u "(I)Ljava/lang/Throwable;"), (6, u "depth"), (0, u "I"), (10, u "(Ljava/lang/String;)V"), (45, .class_ 271), (1, u "java/lang/Throwable$SentinelHolder"), (32, u "EMPTY_THROWABLE_ARRAY"), (0, u "[Ljava/lang/Throwable;"), (12, .class_ 319), (0, u "java/io/Serializable"), (0, u "serialVersionUID"), (0, u "J"), (5, u "NULL_CAUSE_MESSAGE"), (0, u "SELF_SUPPRESSION_MESSAGE"), (0, u "CAUSE_CAPTION"), (0, u "SUPPRESSED_CAPTION")] 73

def k3c0 : Code := { maxStack := 2, maxLocals := 1, code := jdk_78_method_1_code, exceptionTable := #[], attributes := #[] }
def k3m0 : Method := { name := "<init>", desc := "()V", sig := { parameters := [], returnType := none }, accessFlags := 1, code := some k3c0 }
def k3c1 : Code := { maxStack := 2, maxLocals := 2, code := jdk_78_method_2_code, exceptionTable := #[], attributes := #[] }
def k3m1 : Method := { name := "<init>", desc := "(Ljava/lang/String;)V", sig := { parameters := [(.object "java/lang/String")], returnType := none }, accessFlags := 1, code := some k3c1 }
def k3c2 : Code := { maxStack := 1, maxLocals := 1, code := jdk_78_method_6_code, exceptionTable := #[], attributes := #[] }
def k3m2 : Method := { name := "getMessage", desc := "()Ljava/lang/String;", sig := { parameters := [], returnType := some (.object "java/lang/String") }, accessFlags := 1, code := some k3c2 }
def k3c3 : Code := { maxStack := 2, maxLocals := 1, code := ⟨#[0x2a, 0xb4, 0x00, 0x07, 0x2a, 0xa6, 0x00, 0x07, 0x01, 0xa7, 0x00, 0x07, 0x2a, 0xb4, 0x00, 0x07, 0xb0]⟩, exceptionTable := #[], attributes := #[] }
def k3m3 : Method := { name := "getCause", desc := "()Ljava/lang/Throwable;", sig := { parameters := [], returnType := some (.object "java/lang/Throwable") }, accessFlags := 33, code := some k3c3 }
def k3c4 : Code := { maxStack := 2, maxLocals := 1, code := ⟨#[0x2a, 0xb4, 0x00, 0x11, 0xc7, 0x00, 0x0a, 0x2a, 0xb4, 0x00, 0xc6, 0xc6, 0x00, 0x10, 0x2a, 0x03, 0xb6, 0x00, 0xca, 0x57, 0x2a, 0xb2, 0x00, 0x0d, 0xb5, 0x00, 0x11, 0x2a, 0xb0]⟩, exceptionTable := #[], attributes := #[] }
def k3m4 : Method := { name := "fillInStackTrace", desc := "()Ljava/lang/Throwable;", sig := { parameters := [], returnType := some (.object "java/lang/Throwable") }, accessFlags := 33, code := some k3c4 }
def k3m5 : Method := { name := "fillInStackTrace", desc := "(I)Ljava/lang/Throwable;", sig := { parameters := [.int], returnType := some (.object "java/lang/Throwable") }, accessFlags := 258, code := none }
/-- java/lang/Throwable -/
def k3 : Class := { plain "java/lang/Throwable" (some 0) with
  accessFlags := 33
  interfaces := #[2]
  cf := some (fileOf pool3 8 #[.nestMembers #[193, 93, 101, 269]] #[{ accessFlags := 1, nameIndex := 5, descriptorIndex := 6, attributes := #[] }, { accessFlags := 1, nameIndex := 5, descriptorIndex := 223, attributes := #[] }, { accessFlags := 1, nameIndex := 41, descriptorIndex := 38, attributes := #[] }, { accessFlags := 33, nameIndex := 158, descriptorIndex := 30, attributes := #[] }, { accessFlags := 33, nameIndex := 29, descriptorIndex := 30, attributes := #[] }, { accessFlags := 258, nameIndex := 29, descriptorIndex := 204, attributes := #[] }] 33 2 #[318] #[{ accessFlags := 26, nameIndex := 320, descriptorIndex := 321, attributes := #[] }, { accessFlags := 130, nameIndex := 200, descriptorIndex := 201, attributes := #[] }, { accessFlags := 2, nameIndex := 33, descriptorIndex := 34, attributes := #[] }, { accessFlags := 26, nameIndex := 15, descriptorIndex := 16, attributes := #[] }, { accessFlags := 2, nameIndex := 11, descriptorIndex := 12, attributes := #[] }, { accessFlags := 2, nameIndex := 19, descriptorIndex := 16, attributes := #[] }, { accessFlags := 130, nameIndex := 211, descriptorIndex := 212, attributes := #[] }, { accessFlags := 26, nameIndex := 22, descriptorIndex := 23, attributes := #[] }, { accessFlags := 2, nameIndex := 26, descriptorIndex := 23, attributes := #[] }, { accessFlags := 26, nameIndex := 327, descriptorIndex := 34, attributes := #[] }, { accessFlags := 26, nameIndex := 328, descriptorIndex := 34, attributes := #[] }, { accessFlags := 26, nameIndex := 329, descriptorIndex := 34, attributes := #[] }, { accessFlags := 26, nameIndex := 330, descriptorIndex := 34, attributes := #[] }, { accessFlags := 26, nameIndex := 304, descriptorIndex := 305, attributes := #[] }, { accessFlags := 4120, nameIndex := 165, descriptorIndex := 166, attributes := #[] }])
  fields := #[{ name := "serialVersionUID", type := .long, accessFlags := 26, slot := 0, constantValue := 0 }, { name := "backtrace", type := (.object "java/lang/Object"), accessFlags := 130, slot := 0, constantValue := 0 }, { name := "detailMessage", type := (.object "java/lang/String"), accessFlags := 2, slot := 1, constantValue := 0 }, { name := "UNASSIGNED_STACK", type := (.array (.object "java/lang/StackTraceElement")), accessFlags := 26, slot := 1, constantValue := 0 }, { name := "cause", type := (.object "java/lang/Throwable"), accessFlags := 2, slot := 2, constantValue := 0 }, { name := "stackTrace", type := (.array (.object "java/lang/StackTraceElement")), accessFlags := 2, slot := 3, constantValue := 0 }, { name := "depth", type := .int, accessFlags := 130, slot := 4, constantValue := 0 }, { name := "SUPPRESSED_SENTINEL", type := (.object "java/util/List"), accessFlags := 26, slot := 2, constantValue := 0 }, { name := "suppressedExceptions", type := (.object "java/util/List"), accessFlags := 2, slot := 5, constantValue := 0 }, { name := "NULL_CAUSE_MESSAGE", type := (.object "java/lang/String"), accessFlags := 26, slot := 3, constantValue := 0 }, { name := "SELF_SUPPRESSION_MESSAGE", type := (.object "java/lang/String"), accessFlags := 26, slot := 4, constantValue := 0 }, { name := "CAUSE_CAPTION", type := (.object "java/lang/String"), accessFlags := 26, slot := 5, constantValue := 0 }, { name := "SUPPRESSED_CAPTION", type := (.object "java/lang/String"), accessFlags := 26, slot := 6, constantValue := 0 }, { name := "EMPTY_THROWABLE_ARRAY", type := (.array (.object "java/lang/Throwable")), accessFlags := 26, slot := 7, constantValue := 0 }, { name := "$assertionsDisabled", type := .boolean, accessFlags := 4120, slot := 8, constantValue := 0 }]
  methods := #[k3m0, k3m1, k3m2, k3m3, k3m4, k3m5]
  instanceTypes := #[(.object "java/lang/Object"), (.object "java/lang/String"), (.object "java/lang/Throwable"), (.array (.object "java/lang/StackTraceElement")), .int, (.object "java/util/List")]
  staticTypes := #[.long, (.array (.object "java/lang/StackTraceElement")), (.object "java/util/List"), (.object "java/lang/String"), (.object "java/lang/String"), (.object "java/lang/String"), (.object "java/lang/String"), (.array (.object "java/lang/Throwable")), .boolean]
  resolved := Array.replicate 404 none
  statics := some 0 }

def pool4 : Array CpInfo := pool [(2, .class_ 4), (1, u "java/lang/Throwable"), (0, u "<init>"), (0, u "()V"), (0, .methodref 2 8), (0, .nameAndType 5 9), (0, u "(Ljava/lang/String;)V"), (9, .class_ 20), (0, u "java/lang/Exception"), (0, u "serialVersionUID"), (0, u "J")] 17

def k4m0 : Method := { name := "<init>", desc := "()V", sig := { parameters := [], returnType := none }, accessFlags := 1, code := none }
def k4c1 : Code := { maxStack := 2, maxLocals := 2, code := jdk_59_method_2_code, exceptionTable := #[], attributes := #[] }
def k4m1 : Method := { name := "<init>", desc := "(Ljava/lang/String;)V", sig := { parameters := [(.object "java/lang/String")], returnType := none }, accessFlags := 1, code := some k4c1 }
/-- java/lang/Exception -/
def k4 : Class := { plain "java/lang/Exception" (some 3) with
  accessFlags := 33
  interfaces := #[]
  cf := some (fileOf pool4 19 #[] #[{ accessFlags := 1, nameIndex := 5, descriptorIndex := 6, attributes := #[] }, { accessFlags := 1, nameIndex := 5, descriptorIndex := 9, attributes := #[] }] 33 2 #[] #[{ accessFlags := 24, nameIndex := 21, descriptorIndex := 22, attributes := #[] }])
  fields := #[{ name := "serialVersionUID", type := .long, accessFlags := 24, slot := 0, constantValue := 0 }]
  methods := #[k4m0, k4m1]
  instanceTypes := #[(.object "java/lang/Object"), (.object "java/lang/String"), (.object "java/lang/Throwable"), (.array (.object "java/lang/StackTraceElement")), .int, (.object "java/util/List")]
  staticTypes := #[.long]
  resolved := Array.replicate 40 none
  statics := none }

def pool5 : Array CpInfo := pool [(1, .methodref 2 3), (0, .class_ 4), (0, .nameAndType 5 6), (0, u "java/lang/Exception"), (0, u "<init>"), (0, u "(Ljava/lang/String;)V"), (0, .fieldref 8 9), (0, .class_ 10), (0, .nameAndType 11 12), (0, u "com/example/tollplan/tollplan/CommandException"), (0, u "kind"), (0, u "Lcom/example/tollplan/tollplan/CommandException$Kind;"), (3, .class_ 17), (0, u "java/lang/StringBuilder"), (0, .methodref 16 19), (0, .nameAndType 5 20), (0, u "()V"), (2, .methodref 16 24), (0, .nameAndType 25 26), (0, u "append"), (0, u "(Ljava/lang/String;)Ljava/lang/StringBuilder;"), (11, .methodref 16 39), (0, .nameAndType 40 41), (0, u "toString"), (0, u "()Ljava/lang/String;"), (4, .class_ 48), (1, u "com/example/tollplan/tollplan/CommandException$Kind"), (9, .fieldref 46 59), (0, .nameAndType 60 12), (0, u "LOCAL"), (0, .string 62), (0, u "out of memory: the command's work outgrew the Java heap of "), (0, .methodref 16 64), (0, .nameAndType 25 65), (0, u "(J)Ljava/lang/StringBuilder;"), (0, .string 67), (0, u " MiB; run java with a larger -Xmx"), (0, .methodref 8 69), (0, .nameAndType 5 70), (0, u "(Lcom/example/tollplan/tollplan/CommandException$Kind;Ljava/lang/String;)V"), (28, u "serialVersionUID"), (0, u "J"), (5, u "()Lcom/example/tollplan/tollplan/CommandException$Kind;"), (6, u "outOfMemory"), (0, u "(J)Lcom/example/tollplan/tollplan/CommandException;")] 10

def k5c0 : Code := { maxStack := 2, maxLocals := 3, code := prog_4_method_1_code, exceptionTable := #[], attributes := #[] }
def k5m0 : Method := { name := "<init>", desc := "(Lcom/example/tollplan/tollplan/CommandException$Kind;Ljava/lang/String;)V", sig := { parameters := [(.object "com/example/tollplan/tollplan/CommandException$Kind"), (.object "java/lang/String")], returnType := none }, accessFlags := 0, code := some k5c0 }
def k5c1 : Code := { maxStack := 1, maxLocals := 1, code := prog_4_method_3_code, exceptionTable := #[], attributes := #[] }
def k5m1 : Method := { name := "kind", desc := "()Lcom/example/tollplan/tollplan/CommandException$Kind;", sig := { parameters := [], returnType := some (.object "com/example/tollplan/tollplan/CommandException$Kind") }, accessFlags := 0, code := some k5c1 }
def k5c2 : Code := { maxStack := 7, maxLocals := 2, code := prog_4_method_7_code, exceptionTable := #[], attributes := #[] }
def k5m2 : Method := { name := "outOfMemory", desc := "(J)Lcom/example/tollplan/tollplan/CommandException;", sig := { parameters := [.long], returnType := some (.object "com/example/tollplan/tollplan/CommandException") }, accessFlags := 8, code := some k5c2 }
/-- com/example/tollplan/tollplan/CommandException -/
def k5 : Class := { plain "com/example/tollplan/tollplan/CommandException" (some 4) with
  accessFlags := 48
  interfaces := #[]
  cf := some (fileOf pool5 8 #[.nestMembers #[46]] #[{ accessFlags := 0, nameIndex := 5, descriptorIndex := 70, attributes := #[] }, { accessFlags := 0, nameIndex := 11, descriptorIndex := 106, attributes := #[] }, { accessFlags := 8, nameIndex := 113, descriptorIndex := 114, attributes := #[] }] 48 2 #[] #[{ accessFlags := 26, nameIndex := 99, descriptorIndex := 100, attributes := #[] }, { accessFlags := 18, nameIndex := 11, descriptorIndex := 12, attributes := #[] }])
  fields := #[{ name := "serialVersionUID", type := .long, accessFlags := 26, slot := 0, constantValue := 0 }, { name := "kind", type := (.object "com/example/tollplan/tollplan/CommandException$Kind"), accessFlags := 18, slot := 6, constantValue := 0 }]
  methods := #[k5m0, k5m1, k5m2]
  instanceTypes := #[(.object "java/lang/Object"), (.object "java/lang/String"), (.object "java/lang/Throwable"), (.array (.object "java/lang/StackTraceElement")), .int, (.object "java/util/List"), (.object "com/example/tollplan/tollplan/CommandException$Kind")]
  staticTypes := #[.long]
  resolved := Array.replicate 125 none
  statics := none }

def pool6 : Array CpInfo := pool [(1, .class_ 2), (0, u "java/lang/constant/Constable"), (0, .class_ 4), (0, u "java/lang/Object")] 6

/-- java/lang/constant/Constable -/
def k6 : Class := { plain "java/lang/constant/Constable" (some 0) with
  accessFlags := 1537
  interfaces := #[]
  cf := some (fileOf pool6 1 #[] #[] 1537 3 #[] #[])
  fields := #[]
  methods := #[]
  instanceTypes := #[]
  staticTypes := #[]
  resolved := Array.replicate 11 none
  statics := none }

def pool7 : Array CpInfo := pool [(1, .class_ 2), (0, u "java/lang/Comparable"), (0, .class_ 4), (0, u "java/lang/Object")] 7

/-- java/lang/Comparable -/
def k7 : Class := { plain "java/lang/Comparable" (some 0) with
  accessFlags := 1537
  interfaces := #[]
  cf := some (fileOf pool7 1 #[] #[] 1537 3 #[] #[])
  fields := #[]
  methods := #[]
  instanceTypes := #[]
  staticTypes := #[]
  resolved := Array.replicate 12 none
  statics := none }

def pool8 : Array CpInfo := pool [(2, .class_ 4), (1, u "java/lang/Enum"), (0, u "name"), (0, u "Ljava/lang/String;"), (2, u "ordinal"), (0, u "I"), (1, .class_ 14), (1, u "java/lang/Object"), (4, u "hash"), (86, .class_ 108), (1, u "java/lang/Enum$EnumDesc"), (2, .class_ 112), (0, u "java/lang/constant/Constable"), (0, .class_ 114), (0, u "java/lang/Comparable"), (0, .class_ 116), (0, u "java/io/Serializable")] 87

/-- java/lang/Enum -/
def k8 : Class := { plain "java/lang/Enum" (some 0) with
  accessFlags := 1057
  interfaces := #[6, 7, 2]
  cf := some (fileOf pool8 2 #[.nestMembers #[106]] #[] 1057 12 #[111, 113, 115] #[{ accessFlags := 18, nameIndex := 5, descriptorIndex := 6, attributes := #[] }, { accessFlags := 18, nameIndex := 9, descriptorIndex := 10, attributes := #[] }, { accessFlags := 2, nameIndex := 19, descriptorIndex := 10, attributes := #[] }])
  fields := #[{ name := "name", type := (.object "java/lang/String"), accessFlags := 18, slot := 0, constantValue := 0 }, { name := "ordinal", type := .int, accessFlags := 18, slot := 1, constantValue := 0 }, { name := "hash", type := .int, accessFlags := 2, slot := 2, constantValue := 0 }]
  methods := #[]
  instanceTypes := #[(.object "java/lang/String"), .int, .int]
  staticTypes := #[]
  resolved := Array.replicate 204 none
  statics := none }

def pool9 : Array CpInfo := pool [(1, .class_ 2), (0, u "com/example/tollplan/tollplan/CommandException$Kind"), (2, u "USAGE"), (0, u "Lcom/example/tollplan/tollplan/CommandException$Kind;"), (2, u "QUERY"), (2, u "FEDERATION"), (2, u "SITE"), (2, u "NO_ROUTE"), (2, u "LOCAL"), (2, u "STOPPED"), (2, u "CLOSED_PIPE"), (2, u "$VALUES"), (0, u "[Lcom/example/tollplan/tollplan/CommandException$Kind;"), (6, .class_ 40), (1, u "java/lang/Enum"), (8, u "exitStatus"), (0, u "I"), (29, .class_ 81), (0, u "com/example/tollplan/tollplan/CommandException")] 2

/-- com/example/tollplan/tollplan/CommandException$Kind -/
def k9 : Class := { plain "com/example/tollplan/tollplan/CommandException$Kind" (some 8) with
  accessFlags := 16432
  interfaces := #[]
  cf := some (fileOf pool9 1 #[.nestHost 80] #[] 16432 38 #[] #[{ accessFlags := 16409, nameIndex := 5, descriptorIndex := 6, attributes := #[] }, { accessFlags := 16409, nameIndex := 9, descriptorIndex := 6, attributes := #[] }, { accessFlags := 16409, nameIndex := 12, descriptorIndex := 6, attributes := #[] }, { accessFlags := 16409, nameIndex := 15, descriptorIndex := 6, attributes := #[] }, { accessFlags := 16409, nameIndex := 18, descriptorIndex := 6, attributes := #[] }, { accessFlags := 16409, nameIndex := 21, descriptorIndex := 6, attributes := #[] }, { accessFlags := 16409, nameIndex := 24, descriptorIndex := 6, attributes := #[] }, { accessFlags := 16409, nameIndex := 27, descriptorIndex := 6, attributes := #[] }, { accessFlags := 18, nameIndex := 49, descriptorIndex := 50, attributes := #[] }, { accessFlags := 4122, nameIndex := 30, descriptorIndex := 31, attributes := #[] }])
  fields := #[{ name := "USAGE", type := (.object "com/example/tollplan/tollplan/CommandException$Kind"), accessFlags := 16409, slot := 0, constantValue := 0 }, { name := "QUERY", type := (.object "com/example/tollplan/tollplan/CommandException$Kind"), accessFlags := 16409, slot := 1, constantValue := 0 }, { name := "FEDERATION", type := (.object "com/example/tollplan/tollplan/CommandException$Kind"), accessFlags := 16409, slot := 2, constantValue := 0 }, { name := "SITE", type := (.object "com/example/tollplan/tollplan/CommandException$Kind"), accessFlags := 16409, slot := 3, constantValue := 0 }, { name := "NO_ROUTE", type := (.object "com/example/tollplan/tollplan/CommandException$Kind"), accessFlags := 16409, slot := 4, constantValue := 0 }, { name := "LOCAL", type := (.object "com/example/tollplan/tollplan/CommandException$Kind"), accessFlags := 16409, slot := 5, constantValue := 0 }, { name := "STOPPED", type := (.object "com/example/tollplan/tollplan/CommandException$Kind"), accessFlags := 16409, slot := 6, constantValue := 0 }, { name := "CLOSED_PIPE", type := (.object "com/example/tollplan/tollplan/CommandException$Kind"), accessFlags := 16409, slot := 7, constantValue := 0 }, { name := "exitStatus", type := .int, accessFlags := 18, slot := 3, constantValue := 0 }, { name := "$VALUES", type := (.array (.object "com/example/tollplan/tollplan/CommandException$Kind")), accessFlags := 4122, slot := 8, constantValue := 0 }]
  methods := #[]
  instanceTypes := #[(.object "java/lang/String"), .int, .int, .int]
  staticTypes := #[(.object "com/example/tollplan/tollplan/CommandException$Kind"), (.object "com/example/tollplan/tollplan/CommandException$Kind"), (.object "com/example/tollplan/tollplan/CommandException$Kind"), (.object "com/example/tollplan/tollplan/CommandException$Kind"), (.object "com/example/tollplan/tollplan/CommandException$Kind"), (.object "com/example/tollplan/tollplan/CommandException$Kind"), (.object "com/example/tollplan/tollplan/CommandException$Kind"), (.object "com/example/tollplan/tollplan/CommandException$Kind"), (.array (.object "com/example/tollplan/tollplan/CommandException$Kind"))]
  resolved := Array.replicate 84 none
  statics := some 1 }

def pool10 : Array CpInfo := pool [(1, .class_ 2), (0, u "java/lang/Appendable"), (0, .class_ 4), (0, u "java/lang/Object")] 9

/-- java/lang/Appendable -/
def k10 : Class := { plain "java/lang/Appendable" (some 0) with
  accessFlags := 1537
  interfaces := #[]
  cf := some (fileOf pool10 1 #[] #[] 1537 3 #[] #[])
  fields := #[]
  methods := #[]
  instanceTypes := #[]
  staticTypes := #[]
  resolved := Array.replicate 14 none
  statics := none }

def pool11 : Array CpInfo := pool [(2, .class_ 4), (1, u "java/lang/CharSequence"), (42, .class_ 48), (0, u "java/lang/CharSequence$1CodePointIterator"), (10, .class_ 60), (0, u "java/lang/CharSequence$1CharIterator"), (5, .class_ 67), (0, u "java/lang/Object")] 63

/-- java/lang/CharSequence -/
def k11 : Class := { plain "java/lang/CharSequence" (some 0) with
  accessFlags := 1537
  interfaces := #[]
  cf := some (fileOf pool11 2 #[.nestMembers #[47, 59]] #[] 1537 66 #[] #[])
  fields := #[]
  methods := #[]
  instanceTypes := #[]
  staticTypes := #[]
  resolved := Array.replicate 131 none
  statics := none }

def pool12 : Array CpInfo := pool [(1, .class_ 2), (0, u "java/lang/String"), (0, .methodref 4 5), (0, .class_ 6), (0, .nameAndType 7 8), (0, u "java/lang/Object"), (0, u "<init>"), (0, u "()V"), (1, .class_ 12), (1, u "java/lang/AbstractStringBuilder"), (0, u "EMPTYVALUE"), (0, u "[B"), (0, .fieldref 10 16), (0, .nameAndType 17 14), (0, u "value"), (0, .fieldref 1 19), (0, .nameAndType 20 21), (0, u "COMPACT_STRINGS"), (0, u "Z"), (0, .fieldref 10 23), (0, .nameAndType 24 25), (0, u "coder"), (0, u "B"), (6, .methodref 1 33), (0, .nameAndType 34 35), (0, u "length"), (0, u "()I"), (3, .integer 2147483647), (0, .methodref 1 41), (0, .nameAndType 24 42), (0, u "()B"), (2, u "append"), (0, u "(Ljava/lang/String;)Ljava/lang/AbstractStringBuilder;"), (1, .class_ 49), (0, u "java/lang/CharSequence"), (19, u "(Ljava/lang/String;)V"), (5, u "maybeLatin1"), (3, .fieldref 10 80), (0, .nameAndType 81 82), (0, u "count"), (0, u "I"), (0, .methodref 10 84), (0, .nameAndType 85 86), (0, u "isLatin1"), (0, u "()Z"), (13, .methodref 10 101), (0, .nameAndType 102 103), (0, u "ensureCapacityInternal"), (0, u "(I)V"), (0, .methodref 10 105), (0, .nameAndType 106 107), (0, u "newCapacity"), (0, u "(I)I"), (0, .methodref 109 110), (0, .class_ 111), (0, .nameAndType 112 113), (0, u "java/util/Arrays"), (0, u "copyOf"), (0, u "([BI)[B"), (0, .methodref 115 116), (0, .class_ 117), (0, .nameAndType 118 119), (0, u "jdk/internal/util/ArraysSupport"), (0, u "newLength"), (0, u "(III)I"), (68, u "getChars"), (19, .methodref 10 209), (0, .nameAndType 210 211), (0, u "putStringAt"), (0, u "(ILjava/lang/String;)V"), (5, u "inflateIfNeededFor"), (2, .nameAndType 221 222), (0, u "getBytes"), (0, u "([BIB)V"), (24, u "stringSize"), (6, .methodref 255 256), (0, .class_ 257), (0, .nameAndType 247 258), (0, u "java/lang/Long"), (0, u "(J)I"), (0, .methodref 255 260), (0, .nameAndType 188 261), (0, u "(JI[B)I"), (135, .methodref 10 398), (0, .nameAndType 217 69), (0, .methodref 1 220), (3, u "()[B"), (40, .class_ 445), (0, u "java/lang/Appendable"), (67, u "(J)Ljava/lang/AbstractStringBuilder;"), (38, u "getValue")] 56

def k12m0 : Method := { name := "<init>", desc := "()V", sig := { parameters := [], returnType := none }, accessFlags := 0, code := none }
def k12c1 : Code := { maxStack := 2, maxLocals := 2, code := jdk_68_method_2_code, exceptionTable := #[], attributes := #[] }
def k12m1 : Method := { name := "<init>", desc := "(I)V", sig := { parameters := [.int], returnType := none }, accessFlags := 0, code := some k12c1 }
def k12c2 : Code := { maxStack := 1, maxLocals := 1, code := jdk_68_method_6_code, exceptionTable := #[], attributes := #[] }
def k12m2 : Method := { name := "length", desc := "()I", sig := { parameters := [], returnType := some .int }, accessFlags := 1, code := some k12c2 }
def k12c3 : Code := { maxStack := 4, maxLocals := 3, code := jdk_68_method_9_code, exceptionTable := #[], attributes := #[] }
def k12m3 : Method := { name := "ensureCapacityInternal", desc := "(I)V", sig := { parameters := [.int], returnType := none }, accessFlags := 2, code := some k12c3 }
def k12c4 : Code := { maxStack := 5, maxLocals := 6, code := jdk_68_method_10_code, exceptionTable := #[], attributes := #[] }
def k12m4 : Method := { name := "newCapacity", desc := "(I)I", sig := { parameters := [.int], returnType := some .int }, accessFlags := 2, code := some k12c4 }
def k12c5 : Code := { maxStack := 3, maxLocals := 3, code := jdk_68_method_22_code, exceptionTable := #[], attributes := #[] }
def k12m5 : Method := { name := "append", desc := "(Ljava/lang/String;)Ljava/lang/AbstractStringBuilder;", sig := { parameters := [(.object "java/lang/String")], returnType := some (.object "java/lang/AbstractStringBuilder") }, accessFlags := 1, code := some k12c5 }
def k12c6 : Code := { maxStack := 5, maxLocals := 5, code := jdk_68_method_33_code, exceptionTable := #[], attributes := #[] }
def k12m6 : Method := { name := "append", desc := "(J)Ljava/lang/AbstractStringBuilder;", sig := { parameters := [.long], returnType := some (.object "java/lang/AbstractStringBuilder") }, accessFlags := 1, code := some k12c6 }
def k12c7 : Code := { maxStack := 1, maxLocals := 1, code := jdk_68_method_64_code, exceptionTable := #[], attributes := #[] }
def k12m7 : Method := { name := "getValue", desc := "()[B", sig := { parameters := [], returnType := some (.array .byte) }, accessFlags := 16, code := some k12c7 }
def k12c8 : Code := { maxStack := 1, maxLocals := 1, code := jdk_68_method_68_code, exceptionTable := #[], attributes := #[] }
def k12m8 : Method := { name := "isLatin1", desc := "()Z", sig := { parameters := [], returnType := some .boolean }, accessFlags := 16, code := some k12c8 }
def k12c9 : Code := { maxStack := 2, maxLocals := 2, code := jdk_68_method_71_code, exceptionTable := #[], attributes := #[] }
def k12m9 : Method := { name := "inflateIfNeededFor", desc := "(Ljava/lang/String;)V", sig := { parameters := [(.object "java/lang/String")], returnType := none }, accessFlags := 2, code := some k12c9 }
def k12c10 : Code := { maxStack := 4, maxLocals := 3, code := jdk_68_method_73_code, exceptionTable := #[], attributes := #[] }
def k12m10 : Method := { name := "putStringAt", desc := "(ILjava/lang/String;)V", sig := { parameters := [.int, (.object "java/lang/String")], returnType := none }, accessFlags := 2, code := some k12c10 }
/-- java/lang/AbstractStringBuilder -/
def k12 : Class := { plain "java/lang/AbstractStringBuilder" (some 0) with
  accessFlags := 1056
  interfaces := #[10, 11]
  cf := some (fileOf pool12 10 #[] #[{ accessFlags := 0, nameIndex := 7, descriptorIndex := 8, attributes := #[] }, { accessFlags := 0, nameIndex := 7, descriptorIndex := 103, attributes := #[] }, { accessFlags := 1, nameIndex := 34, descriptorIndex := 35, attributes := #[] }, { accessFlags := 2, nameIndex := 102, descriptorIndex := 103, attributes := #[] }, { accessFlags := 2, nameIndex := 106, descriptorIndex := 107, attributes := #[] }, { accessFlags := 1, nameIndex := 45, descriptorIndex := 46, attributes := #[] }, { accessFlags := 1, nameIndex := 45, descriptorIndex := 513, attributes := #[] }, { accessFlags := 16, nameIndex := 552, descriptorIndex := 403, attributes := #[] }, { accessFlags := 16, nameIndex := 85, descriptorIndex := 86, attributes := #[] }, { accessFlags := 2, nameIndex := 217, descriptorIndex := 69, attributes := #[] }, { accessFlags := 2, nameIndex := 210, descriptorIndex := 211, attributes := #[] }] 1056 4 #[444, 48] #[{ accessFlags := 0, nameIndex := 17, descriptorIndex := 14, attributes := #[] }, { accessFlags := 0, nameIndex := 24, descriptorIndex := 25, attributes := #[] }, { accessFlags := 0, nameIndex := 75, descriptorIndex := 21, attributes := #[] }, { accessFlags := 0, nameIndex := 81, descriptorIndex := 82, attributes := #[] }, { accessFlags := 26, nameIndex := 13, descriptorIndex := 14, attributes := #[] }])
  fields := #[{ name := "value", type := (.array .byte), accessFlags := 0, slot := 0, constantValue := 0 }, { name := "coder", type := .byte, accessFlags := 0, slot := 1, constantValue := 0 }, { name := "maybeLatin1", type := .boolean, accessFlags := 0, slot := 2, constantValue := 0 }, { name := "count", type := .int, accessFlags := 0, slot := 3, constantValue := 0 }, { name := "EMPTYVALUE", type := (.array .byte), accessFlags := 26, slot := 0, constantValue := 0 }]
  methods := #[k12m0, k12m1, k12m2, k12m3, k12m4, k12m5, k12m6, k12m7, k12m8, k12m9, k12m10]
  instanceTypes := #[(.array .byte), .byte, .boolean, .int]
  staticTypes := #[(.array .byte)]
  resolved := Array.replicate 609 none
  statics := none }

def pool13 : Array CpInfo := pool [(1, .methodref 2 3), (0, .class_ 4), (0, .nameAndType 5 6), (0, u "java/lang/AbstractStringBuilder"), (0, u "<init>"), (0, u "(I)V"), (11, .class_ 20), (1, u "java/lang/String"), (3, .class_ 26), (1, u "java/lang/StringBuilder"), (0, u "append"), (0, u "(Ljava/lang/String;)Ljava/lang/StringBuilder;"), (0, .methodref 2 30), (0, .nameAndType 27 31), (0, u "(Ljava/lang/String;)Ljava/lang/AbstractStringBuilder;"), (24, .methodref 2 57), (0, .nameAndType 27 58), (0, u "(J)Ljava/lang/AbstractStringBuilder;"), (78, .methodref 18 138), (0, .nameAndType 5 139), (0, u "(Ljava/lang/StringBuilder;)V"), (5, u "()V"), (10, u "()I"), (124, u "(J)Ljava/lang/StringBuilder;"), (61, .methodref 2 344), (0, .nameAndType 345 156), (0, u "length"), (3, .class_ 350), (0, u "java/lang/Appendable"), (0, .class_ 352), (0, u "java/io/Serializable"), (0, .class_ 354), (0, u "java/lang/Comparable"), (0, .class_ 356), (0, u "java/lang/CharSequence"), (0, u "serialVersionUID"), (0, u "J"), (40, u "toString"), (0, u "()Ljava/lang/String;")] 21

def k13c0 : Code := { maxStack := 2, maxLocals := 1, code := jdk_67_method_1_code, exceptionTable := #[], attributes := #[] }
def k13m0 : Method := { name := "<init>", desc := "()V", sig := { parameters := [], returnType := none }, accessFlags := 1, code := some k13c0 }
def k13c1 : Code := { maxStack := 2, maxLocals := 2, code := jdk_67_method_7_code, exceptionTable := #[], attributes := #[] }
def k13m1 : Method := { name := "append", desc := "(Ljava/lang/String;)Ljava/lang/StringBuilder;", sig := { parameters := [(.object "java/lang/String")], returnType := some (.object "java/lang/StringBuilder") }, accessFlags := 1, code := some k13c1 }
def k13c2 : Code := { maxStack := 3, maxLocals := 3, code := jdk_67_method_16_code, exceptionTable := #[], attributes := #[] }
def k13m2 : Method := { name := "append", desc := "(J)Ljava/lang/StringBuilder;", sig := { parameters := [.long], returnType := some (.object "java/lang/StringBuilder") }, accessFlags := 1, code := some k13c2 }
def k13c3 : Code := { maxStack := 3, maxLocals := 1, code := jdk_67_method_42_code, exceptionTable := #[], attributes := #[] }
def k13m3 : Method := { name := "toString", desc := "()Ljava/lang/String;", sig := { parameters := [], returnType := some (.object "java/lang/String") }, accessFlags := 1, code := some k13c3 }
def k13c4 : Code := { maxStack := 1, maxLocals := 1, code := jdk_67_method_93_code, exceptionTable := #[], attributes := #[] }
def k13m4 : Method := { name := "length", desc := "()I", sig := { parameters := [], returnType := some .int }, accessFlags := 4161, code := some k13c4 }
/-- java/lang/StringBuilder -/
def k13 : Class := { plain "java/lang/StringBuilder" (some 12) with
  accessFlags := 49
  interfaces := #[10, 2, 7, 11]
  cf := some (fileOf pool13 24 #[] #[{ accessFlags := 1, nameIndex := 5, descriptorIndex := 145, attributes := #[] }, { accessFlags := 1, nameIndex := 27, descriptorIndex := 28, attributes := #[] }, { accessFlags := 1, nameIndex := 27, descriptorIndex := 281, attributes := #[] }, { accessFlags := 1, nameIndex := 399, descriptorIndex := 400, attributes := #[] }, { accessFlags := 4161, nameIndex := 345, descriptorIndex := 156, attributes := #[] }] 49 2 #[349, 351, 353, 355] #[{ accessFlags := 24, nameIndex := 357, descriptorIndex := 358, attributes := #[] }])
  fields := #[{ name := "serialVersionUID", type := .long, accessFlags := 24, slot := 0, constantValue := 0 }]
  methods := #[k13m0, k13m1, k13m2, k13m3, k13m4]
  instanceTypes := #[(.array .byte), .byte, .boolean, .int]
  staticTypes := #[.long]
  resolved := Array.replicate 422 none
  statics := none }

def pool14 : Array CpInfo := pool [(1, .class_ 2), (0, u "java/lang/constant/ConstantDesc"), (0, .class_ 4), (0, u "java/lang/Object")] 32

/-- java/lang/constant/ConstantDesc -/
def k14 : Class := { plain "java/lang/constant/ConstantDesc" (some 0) with
  accessFlags := 1537
  interfaces := #[]
  cf := some (fileOf pool14 1 #[] #[] 1537 3 #[] #[])
  fields := #[]
  methods := #[]
  instanceTypes := #[]
  staticTypes := #[]
  resolved := Array.replicate 37 none
  statics := none }

def pool15 : Array CpInfo := pool [(1, .methodref 2 3), (0, .class_ 4), (0, .nameAndType 5 6), (0, u "java/lang/Object"), (0, u "<init>"), (0, u "()V"), (2, .fieldref 10 11), (0, .class_ 12), (0, .nameAndType 13 14), (0, u "java/lang/String"), (0, u "value"), (0, u "[B"), (0, .fieldref 10 16), (0, .nameAndType 17 18), (0, u "coder"), (0, u "B"), (2, u "hash"), (0, u "I"), (2, u "hashIsZero"), (0, u "Z"), (11, .fieldref 10 39), (0, .nameAndType 40 26), (0, u "COMPACT_STRINGS"), (13, .methodref 55 56), (0, .class_ 57), (0, .nameAndType 58 59), (0, u "java/util/Arrays"), (0, u "copyOfRange"), (0, u "([BII)[B"), (47, .class_ 109), (1, u "java/lang/StringLatin1"), (32, u "()Z"), (50, .class_ 195), (1, u "java/lang/System"), (16, .methodref 193 213), (0, .nameAndType 214 215), (0, u "arraycopy"), (0, u "(Ljava/lang/Object;ILjava/lang/Object;II)V"), (118, u "()I"), (0, .methodref 10 336), (0, .nameAndType 17 337), (0, u "()B"), (2, u "()[B"), (22, u "([BI)C"), (27, u "(II)V"), (35, u "(I)C"), (61, .methodref 10 490), (0, .nameAndType 5 491), (0, u "(Ljava/lang/AbstractStringBuilder;Ljava/lang/Void;)V"), (0, .methodref 10 493), (0, .nameAndType 494 142), (0, u "isLatin1"), (0, .methodref 107 496), (0, .nameAndType 497 363), (0, u "charAt"), (3, u "checkIndex"), (4, .nameAndType 507 334), (0, u "length"), (24, u "getBytes"), (8, .methodref 107 542), (0, .nameAndType 543 544), (0, u "equals"), (0, u "([B[B)Z"), (4, .methodref 550 506), (0, .class_ 551), (0, u "java/lang/AbstractStringBuilder"), (0, .methodref 550 553), (0, .nameAndType 554 340), (0, u "getValue"), (18, u "(Ljava/lang/Object;)Z"), (1, .class_ 576), (0, u "java/lang/CharSequence"), (22, u "CASE_INSENSITIVE_ORDER"), (0, u "Ljava/util/Comparator;"), (220, u "([BIB)V"), (225, .methodref 550 493), (5, .fieldref 1054 1055), (0, .class_ 1056), (0, .nameAndType 1057 1058), (0, u "jdk/internal/util/Preconditions"), (0, u "SIOOBE_FORMATTER"), (0, u "Ljava/util/function/BiFunction;"), (0, .methodref 1054 1060), (0, .nameAndType 501 1061), (0, u "(IILjava/util/function/BiFunction;)I"), (39, u "serialPersistentFields"), (0, u "[Ljava/io/ObjectStreamField;"), (0, .class_ 1104), (0, u "java/lang/String$CaseInsensitiveComparator"), (1, .class_ 1107), (0, u "java/io/Serializable"), (0, .class_ 1109), (0, u "java/lang/Comparable"), (0, .class_ 1111), (0, u "java/lang/constant/Constable"), (0, .class_ 1113), (0, u "java/lang/constant/ConstantDesc"), (2, u "serialVersionUID"), (0, u "J"), (3, u "REPL"), (0, u "C"), (2, u "LATIN1"), (1, u "UTF16"), (105, u "(Ljava/lang/StringBuilder;)V")] 217

def k15m0 : Method := { name := "<init>", desc := "()V", sig := { parameters := [], returnType := none }, accessFlags := 1, code := none }
def k15c1 : Code := { maxStack := 3, maxLocals := 2, code := jdk_42_method_53_code, exceptionTable := #[], attributes := #[] }
def k15m1 : Method := { name := "<init>", desc := "(Ljava/lang/StringBuilder;)V", sig := { parameters := [(.object "java/lang/StringBuilder")], returnType := none }, accessFlags := 1, code := some k15c1 }
def k15c2 : Code := { maxStack := 2, maxLocals := 1, code := jdk_42_method_54_code, exceptionTable := #[], attributes := #[] }
def k15m2 : Method := { name := "length", desc := "()I", sig := { parameters := [], returnType := some .int }, accessFlags := 1, code := some k15c2 }
def k15c3 : Code := { maxStack := 2, maxLocals := 2, code := jdk_42_method_56_code, exceptionTable := #[], attributes := #[] }
def k15m3 : Method := { name := "charAt", desc := "(I)C", sig := { parameters := [.int], returnType := some .char }, accessFlags := 1, code := some k15c3 }
def k15c4 : Code := { maxStack := 2, maxLocals := 3, code := jdk_42_method_66_code, exceptionTable := #[], attributes := #[] }
def k15m4 : Method := { name := "equals", desc := "(Ljava/lang/Object;)Z", sig := { parameters := [(.object "java/lang/Object")], returnType := some .boolean }, accessFlags := 1, code := some k15c4 }
def k15c5 : Code := { maxStack := 5, maxLocals := 4, code := jdk_42_method_147_code, exceptionTable := #[], attributes := #[] }
def k15m5 : Method := { name := "getBytes", desc := "([BIB)V", sig := { parameters := [(.array .byte), .int, .byte], returnType := none }, accessFlags := 0, code := some k15c5 }
def k15c6 : Code := { maxStack := 5, maxLocals := 5, code := jdk_42_method_150_code, exceptionTable := #[], attributes := #[] }
def k15m6 : Method := { name := "<init>", desc := "(Ljava/lang/AbstractStringBuilder;Ljava/lang/Void;)V", sig := { parameters := [(.object "java/lang/AbstractStringBuilder"), (.object "java/lang/Void")], returnType := none }, accessFlags := 0, code := some k15c6 }
def k15c7 : Code := { maxStack := 1, maxLocals := 1, code := jdk_42_method_152_code, exceptionTable := #[], attributes := #[] }
def k15m7 : Method := { name := "coder", desc := "()B", sig := { parameters := [], returnType := some .byte }, accessFlags := 0, code := some k15c7 }
def k15c8 : Code := { maxStack := 1, maxLocals := 1, code := jdk_42_method_154_code, exceptionTable := #[], attributes := #[] }
def k15m8 : Method := { name := "isLatin1", desc := "()Z", sig := { parameters := [], returnType := some .boolean }, accessFlags := 0, code := some k15c8 }
def k15c9 : Code := { maxStack := 3, maxLocals := 2, code := jdk_42_method_155_code, exceptionTable := #[], attributes := #[] }
def k15m9 : Method := { name := "checkIndex", desc := "(II)V", sig := { parameters := [.int, .int], returnType := none }, accessFlags := 8, code := some k15c9 }
/-- java/lang/String -/
def k15 : Class := { plain "java/lang/String" (some 0) with
  accessFlags := 49
  interfaces := #[2, 7, 11, 6, 14]
  cf := some (fileOf pool15 10 #[.nestMembers #[1103]] #[{ accessFlags := 1, nameIndex := 5, descriptorIndex := 6, attributes := #[] }, { accessFlags := 1, nameIndex := 5, descriptorIndex := 1233, attributes := #[] }, { accessFlags := 1, nameIndex := 507, descriptorIndex := 334, attributes := #[] }, { accessFlags := 1, nameIndex := 497, descriptorIndex := 427, attributes := #[] }, { accessFlags := 1, nameIndex := 543, descriptorIndex := 573, attributes := #[] }, { accessFlags := 0, nameIndex := 532, descriptorIndex := 821, attributes := #[] }, { accessFlags := 0, nameIndex := 5, descriptorIndex := 491, attributes := #[] }, { accessFlags := 0, nameIndex := 17, descriptorIndex := 337, attributes := #[] }, { accessFlags := 0, nameIndex := 494, descriptorIndex := 142, attributes := #[] }, { accessFlags := 8, nameIndex := 501, descriptorIndex := 391, attributes := #[] }] 49 2 #[1106, 1108, 575, 1110, 1112] #[{ accessFlags := 18, nameIndex := 13, descriptorIndex := 14, attributes := #[] }, { accessFlags := 18, nameIndex := 17, descriptorIndex := 18, attributes := #[] }, { accessFlags := 2, nameIndex := 21, descriptorIndex := 22, attributes := #[] }, { accessFlags := 2, nameIndex := 25, descriptorIndex := 26, attributes := #[] }, { accessFlags := 26, nameIndex := 1116, descriptorIndex := 1117, attributes := #[] }, { accessFlags := 24, nameIndex := 40, descriptorIndex := 26, attributes := #[] }, { accessFlags := 26, nameIndex := 1101, descriptorIndex := 1102, attributes := #[] }, { accessFlags := 26, nameIndex := 1121, descriptorIndex := 1122, attributes := #[] }, { accessFlags := 25, nameIndex := 599, descriptorIndex := 600, attributes := #[] }, { accessFlags := 24, nameIndex := 1125, descriptorIndex := 18, attributes := #[] }, { accessFlags := 24, nameIndex := 1127, descriptorIndex := 18, attributes := #[] }])
  fields := #[{ name := "value", type := (.array .byte), accessFlags := 18, slot := 0, constantValue := 0 }, { name := "coder", type := .byte, accessFlags := 18, slot := 1, constantValue := 0 }, { name := "hash", type := .int, accessFlags := 2, slot := 2, constantValue := 0 }, { name := "hashIsZero", type := .boolean, accessFlags := 2, slot := 3, constantValue := 0 }, { name := "serialVersionUID", type := .long, accessFlags := 26, slot := 0, constantValue := 0 }, { name := "COMPACT_STRINGS", type := .boolean, accessFlags := 24, slot := 1, constantValue := 0 }, { name := "serialPersistentFields", type := (.array (.object "java/io/ObjectStreamField")), accessFlags := 26, slot := 2, constantValue := 0 }, { name := "REPL", type := .char, accessFlags := 26, slot := 3, constantValue := 0 }, { name := "CASE_INSENSITIVE_ORDER", type := (.object "java/util/Comparator"), accessFlags := 25, slot := 4, constantValue := 0 }, { name := "LATIN1", type := .byte, accessFlags := 24, slot := 5, constantValue := 0 }, { name := "UTF16", type := .byte, accessFlags := 24, slot := 6, constantValue := 0 }]
  methods := #[k15m0, k15m1, k15m2, k15m3, k15m4, k15m5, k15m6, k15m7, k15m8, k15m9]
  instanceTypes := #[(.array .byte), .byte, .int, .boolean]
  staticTypes := #[.long, .boolean, (.array (.object "java/io/ObjectStreamField")), .char, (.object "java/util/Comparator"), .byte, .byte]
  resolved := Array.replicate 1451 none
  statics := some 2 }

def pool16 : Array CpInfo := pool [(9, u "<init>"), (6, .class_ 18), (1, u "java/lang/Object"), (0, u "()V"), (1, .class_ 23), (1, u "jdk/internal/util/ArraysSupport"), (0, u "LOG2_ARRAY_LONG_INDEX_SCALE"), (0, u "I"), (2, u "U"), (0, u "Ljdk/internal/misc/Unsafe;"), (8, u "BIG_ENDIAN"), (0, u "Z"), (8, u "LOG2_BYTE_BIT_SIZE"), (4, u "LOG2_ARRAY_INT_INDEX_SCALE"), (54, u "JLA"), (0, u "Ljdk/internal/access/JavaLangAccess;"), (11, u "LOG2_ARRAY_BOOLEAN_INDEX_SCALE"), (9, u "LOG2_ARRAY_BYTE_INDEX_SCALE"), (5, u "LOG2_ARRAY_CHAR_INDEX_SCALE"), (5, u "LOG2_ARRAY_SHORT_INDEX_SCALE"), (18, u "LOG2_ARRAY_FLOAT_INDEX_SCALE"), (24, u "LOG2_ARRAY_DOUBLE_INDEX_SCALE"), (6, .methodref 195 196), (0, .class_ 197), (0, .nameAndType 198 199), (0, u "java/lang/Math"), (0, u "max"), (0, u "(II)I"), (0, .integer 2147483639), (76, u "T_BOOLEAN"), (2, u "T_CHAR"), (1, u "T_FLOAT"), (1, u "T_DOUBLE"), (1, u "T_BYTE"), (1, u "T_SHORT"), (1, u "T_INT"), (1, u "T_LONG"), (1, u "SOFT_MAX_ARRAY_LENGTH"), (56, u "newLength"), (0, u "(III)I")] 25

def k16m0 : Method := { name := "<init>", desc := "()V", sig := { parameters := [], returnType := none }, accessFlags := 2, code := none }
def k16c1 : Code := { maxStack := 3, maxLocals := 4, code := jdk_48_method_27_code, exceptionTable := #[], attributes := #[] }
def k16m1 : Method := { name := "newLength", desc := "(III)I", sig := { parameters := [.int, .int, .int], returnType := some .int }, accessFlags := 9, code := some k16c1 }
/-- jdk/internal/util/ArraysSupport -/
def k16 : Class := { plain "jdk/internal/util/ArraysSupport" (some 0) with
  accessFlags := 33
  interfaces := #[]
  cf := some (fileOf pool16 21 #[] #[{ accessFlags := 2, nameIndex := 9, descriptorIndex := 19, attributes := #[] }, { accessFlags := 9, nameIndex := 351, descriptorIndex := 352, attributes := #[] }] 33 16 #[] #[{ accessFlags := 24, nameIndex := 28, descriptorIndex := 29, attributes := #[] }, { accessFlags := 26, nameIndex := 38, descriptorIndex := 39, attributes := #[] }, { accessFlags := 25, nameIndex := 121, descriptorIndex := 25, attributes := #[] }, { accessFlags := 25, nameIndex := 131, descriptorIndex := 25, attributes := #[] }, { accessFlags := 25, nameIndex := 137, descriptorIndex := 25, attributes := #[] }, { accessFlags := 25, nameIndex := 143, descriptorIndex := 25, attributes := #[] }, { accessFlags := 25, nameIndex := 53, descriptorIndex := 25, attributes := #[] }, { accessFlags := 25, nameIndex := 24, descriptorIndex := 25, attributes := #[] }, { accessFlags := 25, nameIndex := 162, descriptorIndex := 25, attributes := #[] }, { accessFlags := 25, nameIndex := 187, descriptorIndex := 25, attributes := #[] }, { accessFlags := 26, nameIndex := 48, descriptorIndex := 25, attributes := #[] }, { accessFlags := 25, nameIndex := 277, descriptorIndex := 25, attributes := #[] }, { accessFlags := 25, nameIndex := 280, descriptorIndex := 25, attributes := #[] }, { accessFlags := 25, nameIndex := 282, descriptorIndex := 25, attributes := #[] }, { accessFlags := 25, nameIndex := 284, descriptorIndex := 25, attributes := #[] }, { accessFlags := 25, nameIndex := 286, descriptorIndex := 25, attributes := #[] }, { accessFlags := 25, nameIndex := 288, descriptorIndex := 25, attributes := #[] }, { accessFlags := 25, nameIndex := 290, descriptorIndex := 25, attributes := #[] }, { accessFlags := 25, nameIndex := 292, descriptorIndex := 25, attributes := #[] }, { accessFlags := 26, nameIndex := 108, descriptorIndex := 109, attributes := #[] }, { accessFlags := 25, nameIndex := 294, descriptorIndex := 25, attributes := #[] }])
  fields := #[{ name := "U", type := (.object "jdk/internal/misc/Unsafe"), accessFlags := 24, slot := 0, constantValue := 0 }, { name := "BIG_ENDIAN", type := .boolean, accessFlags := 26, slot := 1, constantValue := 0 }, { name := "LOG2_ARRAY_BOOLEAN_INDEX_SCALE", type := .int, accessFlags := 25, slot := 2, constantValue := 0 }, { name := "LOG2_ARRAY_BYTE_INDEX_SCALE", type := .int, accessFlags := 25, slot := 3, constantValue := 0 }, { name := "LOG2_ARRAY_CHAR_INDEX_SCALE", type := .int, accessFlags := 25, slot := 4, constantValue := 0 }, { name := "LOG2_ARRAY_SHORT_INDEX_SCALE", type := .int, accessFlags := 25, slot := 5, constantValue := 0 }, { name := "LOG2_ARRAY_INT_INDEX_SCALE", type := .int, accessFlags := 25, slot := 6, constantValue := 0 }, { name := "LOG2_ARRAY_LONG_INDEX_SCALE", type := .int, accessFlags := 25, slot := 7, constantValue := 0 }, { name := "LOG2_ARRAY_FLOAT_INDEX_SCALE", type := .int, accessFlags := 25, slot := 8, constantValue := 0 }, { name := "LOG2_ARRAY_DOUBLE_INDEX_SCALE", type := .int, accessFlags := 25, slot := 9, constantValue := 0 }, { name := "LOG2_BYTE_BIT_SIZE", type := .int, accessFlags := 26, slot := 10, constantValue := 0 }, { name := "T_BOOLEAN", type := .int, accessFlags := 25, slot := 11, constantValue := 0 }, { name := "T_CHAR", type := .int, accessFlags := 25, slot := 12, constantValue := 0 }, { name := "T_FLOAT", type := .int, accessFlags := 25, slot := 13, constantValue := 0 }, { name := "T_DOUBLE", type := .int, accessFlags := 25, slot := 14, constantValue := 0 }, { name := "T_BYTE", type := .int, accessFlags := 25, slot := 15, constantValue := 0 }, { name := "T_SHORT", type := .int, accessFlags := 25, slot := 16, constantValue := 0 }, { name := "T_INT", type := .int, accessFlags := 25, slot := 17, constantValue := 0 }, { name := "T_LONG", type := .int, accessFlags := 25, slot := 18, constantValue := 0 }, { name := "JLA", type := (.object "jdk/internal/access/JavaLangAccess"), accessFlags := 26, slot := 19, constantValue := 0 }, { name := "SOFT_MAX_ARRAY_LENGTH", type := .int, accessFlags := 25, slot := 20, constantValue := 0 }]
  methods := #[k16m0, k16m1]
  instanceTypes := #[]
  staticTypes := #[(.object "jdk/internal/misc/Unsafe"), .boolean, .int, .int, .int, .int, .int, .int, .int, .int, .int, .int, .int, .int, .int, .int, .int, .int, .int, (.object "jdk/internal/access/JavaLangAccess"), .int]
  resolved := Array.replicate 378 none
  statics := none }

def pool17 : Array CpInfo := pool [(1, .class_ 2), (0, u "java/lang/Math"), (1, .class_ 6), (1, u "java/lang/Object"), (0, u "<init>"), (0, u "()V"), (89, .class_ 100), (1, u "java/lang/Math$RandomNumberGeneratorHolder"), (71, u "negativeZeroFloatBits"), (0, u "J"), (2, u "negativeZeroDoubleBits"), (21, u "max"), (2, u "min"), (43, u "$assertionsDisabled"), (0, u "Z"), (88, u "(II)I"), (2, u "twoToTheDoubleScaleDown"), (0, u "D"), (4, u "twoToTheDoubleScaleUp"), (9, u "E"), (3, u "PI"), (2, u "TAU"), (2, u "DEGREES_TO_RADIANS"), (0, u "RADIANS_TO_DEGREES")] 94

def k17m0 : Method := { name := "<init>", desc := "()V", sig := { parameters := [], returnType := none }, accessFlags := 2, code := none }
def k17c1 : Code := { maxStack := 2, maxLocals := 2, code := jdk_29_method_65_code, exceptionTable := #[], attributes := #[] }
def k17m1 : Method := { name := "max", desc := "(II)I", sig := { parameters := [.int, .int], returnType := some .int }, accessFlags := 9, code := some k17c1 }
def k17c2 : Code := { maxStack := 2, maxLocals := 2, code := jdk_29_method_69_code, exceptionTable := #[], attributes := #[] }
def k17m2 : Method := { name := "min", desc := "(II)I", sig := { parameters := [.int, .int], returnType := some .int }, accessFlags := 9, code := some k17c2 }
/-- java/lang/Math -/
def k17 : Class := { plain "java/lang/Math" (some 0) with
  accessFlags := 49
  interfaces := #[]
  cf := some (fileOf pool17 1 #[.nestMembers #[98]] #[{ accessFlags := 2, nameIndex := 7, descriptorIndex := 8, attributes := #[] }, { accessFlags := 9, nameIndex := 198, descriptorIndex := 335, attributes := #[] }, { accessFlags := 9, nameIndex := 201, descriptorIndex := 335, attributes := #[] }] 49 4 #[] #[{ accessFlags := 25, nameIndex := 354, descriptorIndex := 339, attributes := #[] }, { accessFlags := 25, nameIndex := 358, descriptorIndex := 339, attributes := #[] }, { accessFlags := 25, nameIndex := 361, descriptorIndex := 339, attributes := #[] }, { accessFlags := 26, nameIndex := 364, descriptorIndex := 339, attributes := #[] }, { accessFlags := 26, nameIndex := 365, descriptorIndex := 339, attributes := #[] }, { accessFlags := 26, nameIndex := 172, descriptorIndex := 173, attributes := #[] }, { accessFlags := 26, nameIndex := 176, descriptorIndex := 173, attributes := #[] }, { accessFlags := 8, nameIndex := 344, descriptorIndex := 339, attributes := #[] }, { accessFlags := 8, nameIndex := 338, descriptorIndex := 339, attributes := #[] }, { accessFlags := 4120, nameIndex := 245, descriptorIndex := 246, attributes := #[] }])
  fields := #[{ name := "E", type := .double, accessFlags := 25, slot := 0, constantValue := 0 }, { name := "PI", type := .double, accessFlags := 25, slot := 1, constantValue := 0 }, { name := "TAU", type := .double, accessFlags := 25, slot := 2, constantValue := 0 }, { name := "DEGREES_TO_RADIANS", type := .double, accessFlags := 26, slot := 3, constantValue := 0 }, { name := "RADIANS_TO_DEGREES", type := .double, accessFlags := 26, slot := 4, constantValue := 0 }, { name := "negativeZeroFloatBits", type := .long, accessFlags := 26, slot := 5, constantValue := 0 }, { name := "negativeZeroDoubleBits", type := .long, accessFlags := 26, slot := 6, constantValue := 0 }, { name := "twoToTheDoubleScaleUp", type := .double, accessFlags := 8, slot := 7, constantValue := 0 }, { name := "twoToTheDoubleScaleDown", type := .double, accessFlags := 8, slot := 8, constantValue := 0 }, { name := "$assertionsDisabled", type := .boolean, accessFlags := 4120, slot := 9, constantValue := 0 }]
  methods := #[k17m0, k17m1, k17m2]
  instanceTypes := #[]
  staticTypes := #[.double, .double, .double, .double, .double, .long, .long, .double, .double, .boolean]
  resolved := Array.replicate 460 none
  statics := none }

def pool18 : Array CpInfo := pool [(2, .class_ 4), (1, u "java/lang/Object"), (0, u "<init>"), (0, u "()V"), (7, .class_ 16), (1, u "java/util/Arrays"), (57, .class_ 76), (1, u "java/util/Arrays$NaturalOrder"), (36, .class_ 115), (1, u "java/util/Arrays$LegacyMergeSort"), (1, u "Z"), (21, u "copyOfRange"), (10, .methodref 151 152), (0, .class_ 153), (0, .nameAndType 154 155), (0, u "java/lang/System"), (0, u "arraycopy"), (0, u "(Ljava/lang/Object;ILjava/lang/Object;II)V"), (146, u "copyOf"), (1, .methodref 305 306), (0, .class_ 307), (0, .nameAndType 308 309), (0, u "java/lang/Math"), (0, u "min"), (0, u "(II)I"), (29, .methodref 14 340), (0, .nameAndType 341 342), (0, u "copyOfRangeByte"), (0, u "([BII)[B"), (0, .methodref 14 344), (0, .nameAndType 345 346), (0, u "checkLength"), (0, u "(II)V"), (28, .class_ 376), (0, u "java/util/Arrays$ArrayList"), (68, u "$assertionsDisabled"), (269, u "MIN_ARRAY_SORT_GRAN"), (0, u "I"), (2, u "INSERTIONSORT_THRESHOLD"), (149, u "([BI)[B"), (105, .class_ 976), (0, u "java/util/Arrays$ArrayItr")] 52

def k18m0 : Method := { name := "<init>", desc := "()V", sig := { parameters := [], returnType := none }, accessFlags := 2, code := none }
def k18c1 : Code := { maxStack := 6, maxLocals := 3, code := jdk_65_method_121_code, exceptionTable := #[], attributes := #[] }
def k18m1 : Method := { name := "copyOf", desc := "([BI)[B", sig := { parameters := [(.array .byte), .int], returnType := some (.array .byte) }, accessFlags := 9, code := some k18c1 }
def k18c2 : Code := { maxStack := 4, maxLocals := 2, code := jdk_65_method_131_code, exceptionTable := #[], attributes := #[] }
def k18m2 : Method := { name := "checkLength", desc := "(II)V", sig := { parameters := [.int, .int], returnType := none }, accessFlags := 10, code := some k18c2 }
def k18c3 : Code := { maxStack := 3, maxLocals := 3, code := jdk_65_method_132_code, exceptionTable := #[], attributes := #[] }
def k18m3 : Method := { name := "copyOfRange", desc := "([BII)[B", sig := { parameters := [(.array .byte), .int, .int], returnType := some (.array .byte) }, accessFlags := 9, code := some k18c3 }
def k18c4 : Code := { maxStack := 6, maxLocals := 5, code := jdk_65_method_133_code, exceptionTable := #[], attributes := #[] }
def k18m4 : Method := { name := "copyOfRangeByte", desc := "([BII)[B", sig := { parameters := [(.array .byte), .int, .int], returnType := some (.array .byte) }, accessFlags := 10, code := some k18c4 }
/-- java/util/Arrays -/
def k18 : Class := { plain "java/util/Arrays" (some 0) with
  accessFlags := 49
  interfaces := #[]
  cf := some (fileOf pool18 14 #[.nestMembers #[975, 375, 113, 74]] #[{ accessFlags := 2, nameIndex := 5, descriptorIndex := 6, attributes := #[] }, { accessFlags := 9, nameIndex := 302, descriptorIndex := 869, attributes := #[] }, { accessFlags := 10, nameIndex := 345, descriptorIndex := 346, attributes := #[] }, { accessFlags := 9, nameIndex := 139, descriptorIndex := 342, attributes := #[] }, { accessFlags := 10, nameIndex := 341, descriptorIndex := 342, attributes := #[] }] 49 2 #[] #[{ accessFlags := 26, nameIndex := 715, descriptorIndex := 716, attributes := #[] }, { accessFlags := 26, nameIndex := 719, descriptorIndex := 716, attributes := #[] }, { accessFlags := 4120, nameIndex := 445, descriptorIndex := 117, attributes := #[] }])
  fields := #[{ name := "MIN_ARRAY_SORT_GRAN", type := .int, accessFlags := 26, slot := 0, constantValue := 0 }, { name := "INSERTIONSORT_THRESHOLD", type := .int, accessFlags := 26, slot := 1, constantValue := 0 }, { name := "$assertionsDisabled", type := .boolean, accessFlags := 4120, slot := 2, constantValue := 0 }]
  methods := #[k18m0, k18m1, k18m2, k18m3, k18m4]
  instanceTypes := #[]
  staticTypes := #[.int, .int, .boolean]
  resolved := Array.replicate 1029 none
  statics := none }

def pool19 : Array CpInfo := pool [(2, .class_ 4), (1, u "java/lang/Object"), (0, u "<init>"), (0, u "()V"), (1, .class_ 10), (1, u "java/lang/System"), (0, u "allowSecurityManager"), (0, u "I"), (16, u "cons"), (0, u "Ljava/io/Console;"), (77, .class_ 110), (1, u "java/lang/System$CallersHolder"), (43, u "initialErrStream"), (0, u "Ljava/io/PrintStream;"), (19, u "security"), (0, u "Ljava/lang/SecurityManager;"), (31, .class_ 209), (0, u "java/lang/System$1"), (7, u "props"), (0, u "Ljava/util/Properties;"), (2, u "lineSeparator"), (0, u "Ljava/lang/String;"), (96, .class_ 321), (1, u "java/lang/System$LoggerFinder"), (5, .class_ 328), (0, u "java/lang/System$Logger"), (67, u "err"), (2, u "out"), (91, u "notSupportedJnuEncoding"), (15, u "in"), (17, u "initialIn"), (0, u "Ljava/io/InputStream;"), (35, u "bootLayer"), (0, u "Ljava/lang/ModuleLayer;"), (99, .class_ 664), (0, u "java/lang/System$2"), (9, u "NEVER"), (2, u "MAYBE"), (49, u "arraycopy"), (0, u "(Ljava/lang/Object;ILjava/lang/Object;II)V"), (72, .class_ 802), (0, u "java/lang/System$Logger$Level")] 31

def k19m0 : Method := { name := "<init>", desc := "()V", sig := { parameters := [], returnType := none }, accessFlags := 2, code := none }
def k19m1 : Method := { name := "arraycopy", desc := "(Ljava/lang/Object;ILjava/lang/Object;II)V", sig := { parameters := [(.object "java/lang/Object"), .int, (.object "java/lang/Object"), .int, .int], returnType := none }, accessFlags := 265, code := none }
/-- java/lang/System -/
def k19 : Class := { plain "java/lang/System" (some 0) with
  accessFlags := 49
  interfaces := #[]
  cf := some (fileOf pool19 8 #[.nestMembers #[319, 327, 801, 108, 663, 208]] #[{ accessFlags := 2, nameIndex := 5, descriptorIndex := 6, attributes := #[] }, { accessFlags := 265, nameIndex := 727, descriptorIndex := 728, attributes := #[] }] 49 2 #[] #[{ accessFlags := 25, nameIndex := 507, descriptorIndex := 526, attributes := #[] }, { accessFlags := 25, nameIndex := 399, descriptorIndex := 155, attributes := #[] }, { accessFlags := 25, nameIndex := 396, descriptorIndex := 155, attributes := #[] }, { accessFlags := 10, nameIndex := 525, descriptorIndex := 526, attributes := #[] }, { accessFlags := 26, nameIndex := 674, descriptorIndex := 12, attributes := #[] }, { accessFlags := 26, nameIndex := 677, descriptorIndex := 12, attributes := #[] }, { accessFlags := 10, nameIndex := 11, descriptorIndex := 12, attributes := #[] }, { accessFlags := 74, nameIndex := 175, descriptorIndex := 176, attributes := #[] }, { accessFlags := 10, nameIndex := 491, descriptorIndex := 222, attributes := #[] }, { accessFlags := 74, nameIndex := 29, descriptorIndex := 30, attributes := #[] }, { accessFlags := 74, nameIndex := 154, descriptorIndex := 155, attributes := #[] }, { accessFlags := 10, nameIndex := 217, descriptorIndex := 218, attributes := #[] }, { accessFlags := 10, nameIndex := 221, descriptorIndex := 222, attributes := #[] }, { accessFlags := 8, nameIndex := 562, descriptorIndex := 563, attributes := #[] }])
  fields := #[{ name := "in", type := (.object "java/io/InputStream"), accessFlags := 25, slot := 0, constantValue := 0 }, { name := "out", type := (.object "java/io/PrintStream"), accessFlags := 25, slot := 1, constantValue := 0 }, { name := "err", type := (.object "java/io/PrintStream"), accessFlags := 25, slot := 2, constantValue := 0 }, { name := "initialIn", type := (.object "java/io/InputStream"), accessFlags := 10, slot := 3, constantValue := 0 }, { name := "NEVER", type := .int, accessFlags := 26, slot := 4, constantValue := 0 }, { name := "MAYBE", type := .int, accessFlags := 26, slot := 5, constantValue := 0 }, { name := "allowSecurityManager", type := .int, accessFlags := 10, slot := 6, constantValue := 0 }, { name := "security", type := (.object "java/lang/SecurityManager"), accessFlags := 74, slot := 7, constantValue := 0 }, { name := "notSupportedJnuEncoding", type := (.object "java/lang/String"), accessFlags := 10, slot := 8, constantValue := 0 }, { name := "cons", type := (.object "java/io/Console"), accessFlags := 74, slot := 9, constantValue := 0 }, { name := "initialErrStream", type := (.object "java/io/PrintStream"), accessFlags := 74, slot := 10, constantValue := 0 }, { name := "props", type := (.object "java/util/Properties"), accessFlags := 10, slot := 11, constantValue := 0 }, { name := "lineSeparator", type := (.object "java/lang/String"), accessFlags := 10, slot := 12, constantValue := 0 }, { name := "bootLayer", type := (.object "java/lang/ModuleLayer"), accessFlags := 8, slot := 13, constantValue := 0 }]
  methods := #[k19m0, k19m1]
  instanceTypes := #[]
  staticTypes := #[(.object "java/io/InputStream"), (.object "java/io/PrintStream"), (.object "java/io/PrintStream"), (.object "java/io/InputStream"), .int, .int, .int, (.object "java/lang/SecurityManager"), (.object "java/lang/String"), (.object "java/io/Console"), (.object "java/io/PrintStream"), (.object "java/util/Properties"), (.object "java/lang/String"), (.object "java/lang/ModuleLayer")]
  resolved := Array.replicate 834 none
  statics := none }

def pool20 : Array CpInfo := pool [(2, .class_ 4), (1, u "java/lang/Object"), (0, u "<init>"), (0, u "()V"), (1, .class_ 10), (1, u "java/lang/Number"), (2, .class_ 14), (0, u "java/io/Serializable"), (0, u "serialVersionUID"), (0, u "J")] 20

def k20m0 : Method := { name := "<init>", desc := "()V", sig := { parameters := [], returnType := none }, accessFlags := 1, code := none }
/-- java/lang/Number -/
def k20 : Class := { plain "java/lang/Number" (some 0) with
  accessFlags := 1057
  interfaces := #[2]
  cf := some (fileOf pool20 8 #[] #[{ accessFlags := 1, nameIndex := 5, descriptorIndex := 6, attributes := #[] }] 1057 2 #[13] #[{ accessFlags := 26, nameIndex := 15, descriptorIndex := 16, attributes := #[] }])
  fields := #[{ name := "serialVersionUID", type := .long, accessFlags := 26, slot := 0, constantValue := 0 }]
  methods := #[k20m0]
  instanceTypes := #[]
  staticTypes := #[.long]
  resolved := Array.replicate 37 none
  statics := none }

def pool21 : Array CpInfo := pool [(1, .class_ 2), (0, u "java/lang/Long"), (15, .class_ 20), (1, u "java/lang/Integer"), (32, .long 10), (47, u "(J)I"), (18, u "stringSize"), (2, u "getChars"), (0, u "(JI[B)I"), (4, .long 18446744071562067968), (1, .long 100), (1, .fieldref 18 134), (0, .nameAndType 135 136), (0, u "DigitOnes"), (0, u "[B"), (0, .fieldref 18 138), (0, .nameAndType 139 136), (0, u "DigitTens"), (0, .long 18446744073709551606), (94, .class_ 237), (1, u "java/lang/Long$LongCache"), (33, .class_ 272), (0, u "java/lang/Number"), (2, u "value"), (0, u "J"), (84, u "TYPE"), (0, u "Ljava/lang/Class;"), (0, .class_ 364), (0, u "java/lang/Comparable"), (0, .class_ 366), (0, u "java/lang/constant/Constable"), (0, .class_ 368), (0, u "java/lang/constant/ConstantDesc"), (0, u "MIN_VALUE"), (1, u "MAX_VALUE"), (4, u "SIZE"), (0, u "I"), (1, u "BYTES"), (1, u "serialVersionUID")] 142

def k21c0 : Code := { maxStack := 4, maxLocals := 11, code := jdk_35_method_14_code, exceptionTable := #[], attributes := #[] }
def k21m0 : Method := { name := "getChars", desc := "(JI[B)I", sig := { parameters := [.long, .int, (.array .byte)], returnType := some .int }, accessFlags := 8, code := some k21c0 }
def k21c1 : Code := { maxStack := 4, maxLocals := 6, code := jdk_35_method_15_code, exceptionTable := #[], attributes := #[] }
def k21m1 : Method := { name := "stringSize", desc := "(J)I", sig := { parameters := [.long], returnType := some .int }, accessFlags := 8, code := some k21c1 }
/-- java/lang/Long -/
def k21 : Class := { plain "java/lang/Long" (some 20) with
  accessFlags := 49
  interfaces := #[7, 6, 14]
  cf := some (fileOf pool21 1 #[.nestMembers #[235]] #[{ accessFlags := 8, nameIndex := 123, descriptorIndex := 124, attributes := #[] }, { accessFlags := 8, nameIndex := 120, descriptorIndex := 101, attributes := #[] }] 49 271 #[363, 365, 367] #[{ accessFlags := 25, nameIndex := 369, descriptorIndex := 276, attributes := #[] }, { accessFlags := 25, nameIndex := 371, descriptorIndex := 276, attributes := #[] }, { accessFlags := 25, nameIndex := 361, descriptorIndex := 362, attributes := #[] }, { accessFlags := 18, nameIndex := 275, descriptorIndex := 276, attributes := #[] }, { accessFlags := 25, nameIndex := 376, descriptorIndex := 377, attributes := #[] }, { accessFlags := 25, nameIndex := 379, descriptorIndex := 377, attributes := #[] }, { accessFlags := 26, nameIndex := 381, descriptorIndex := 276, attributes := #[] }])
  fields := #[{ name := "MIN_VALUE", type := .long, accessFlags := 25, slot := 0, constantValue := 0 }, { name := "MAX_VALUE", type := .long, accessFlags := 25, slot := 1, constantValue := 0 }, { name := "TYPE", type := (.object "java/lang/Class"), accessFlags := 25, slot := 2, constantValue := 0 }, { name := "value", type := .long, accessFlags := 18, slot := 0, constantValue := 0 }, { name := "SIZE", type := .int, accessFlags := 25, slot := 3, constantValue := 0 }, { name := "BYTES", type := .int, accessFlags := 25, slot := 4, constantValue := 0 }, { name := "serialVersionUID", type := .long, accessFlags := 26, slot := 5, constantValue := 0 }]
  methods := #[k21m0, k21m1]
  instanceTypes := #[.long]
  staticTypes := #[.long, .long, (.object "java/lang/Class"), .int, .int, .long]
  resolved := Array.replicate 524 none
  statics := none }

def pool22 : Array CpInfo := pool [(1, .class_ 2), (0, u "java/lang/Integer"), (16, u "digits"), (0, u "[C"), (64, u "DigitOnes"), (0, u "[B"), (2, u "DigitTens"), (99, .class_ 190), (0, u "java/lang/Integer$IntegerCache"), (3, u "I"), (8, .class_ 204), (0, u "java/lang/Number"), (2, u "value"), (94, u "TYPE"), (0, u "Ljava/lang/Class;"), (0, .class_ 305), (0, u "java/lang/Comparable"), (0, .class_ 307), (0, u "java/lang/constant/Constable"), (0, .class_ 309), (0, u "java/lang/constant/ConstantDesc"), (0, u "MIN_VALUE"), (1, u "MAX_VALUE"), (3, u "SIZE"), (1, u "BYTES"), (1, u "serialVersionUID"), (0, u "J")] 131

/-- java/lang/Integer -/
def k22 : Class := { plain "java/lang/Integer" (some 20) with
  accessFlags := 49
  interfaces := #[7, 6, 14]
  cf := some (fileOf pool22 1 #[.nestMembers #[189]] #[] 49 203 #[304, 306, 308] #[{ accessFlags := 25, nameIndex := 310, descriptorIndex := 194, attributes := #[] }, { accessFlags := 25, nameIndex := 312, descriptorIndex := 194, attributes := #[] }, { accessFlags := 25, nameIndex := 302, descriptorIndex := 303, attributes := #[] }, { accessFlags := 24, nameIndex := 19, descriptorIndex := 20, attributes := #[] }, { accessFlags := 24, nameIndex := 89, descriptorIndex := 86, attributes := #[] }, { accessFlags := 24, nameIndex := 85, descriptorIndex := 86, attributes := #[] }, { accessFlags := 18, nameIndex := 207, descriptorIndex := 194, attributes := #[] }, { accessFlags := 25, nameIndex := 316, descriptorIndex := 194, attributes := #[] }, { accessFlags := 25, nameIndex := 318, descriptorIndex := 194, attributes := #[] }, { accessFlags := 26, nameIndex := 320, descriptorIndex := 321, attributes := #[] }])
  fields := #[{ name := "MIN_VALUE", type := .int, accessFlags := 25, slot := 0, constantValue := 0 }, { name := "MAX_VALUE", type := .int, accessFlags := 25, slot := 1, constantValue := 0 }, { name := "TYPE", type := (.object "java/lang/Class"), accessFlags := 25, slot := 2, constantValue := 0 }, { name := "digits", type := (.array .char), accessFlags := 24, slot := 3, constantValue := 0 }, { name := "DigitTens", type := (.array .byte), accessFlags := 24, slot := 4, constantValue := 0 }, { name := "DigitOnes", type := (.array .byte), accessFlags := 24, slot := 5, constantValue := 0 }, { name := "value", type := .int, accessFlags := 18, slot := 0, constantValue := 0 }, { name := "SIZE", type := .int, accessFlags := 25, slot := 6, constantValue := 0 }, { name := "BYTES", type := .int, accessFlags := 25, slot := 7, constantValue := 0 }, { name := "serialVersionUID", type := .long, accessFlags := 26, slot := 8, constantValue := 0 }]
  methods := #[]
  instanceTypes := #[.int]
  staticTypes := #[.int, .int, (.object "java/lang/Class"), (.array .char), (.array .byte), (.array .byte), .int, .int, .long]
  resolved := Array.replicate 453 none
  statics := some 3 }

def pool23 : Array CpInfo := pool [(1, .class_ 2), (0, u "java/lang/String"), (1, .class_ 6), (1, u "java/lang/Object"), (0, u "<init>"), (0, u "()V"), (0, .methodref 1 10), (0, .nameAndType 11 12), (0, u "checkIndex"), (0, u "(II)V"), (1, .class_ 16), (1, u "java/lang/StringLatin1"), (36, u "([BI)C"), (67, u "$assertionsDisabled"), (0, u "Z"), (98, .class_ 223), (1, u "java/lang/StringLatin1$LinesSpliterator"), (28, u "charAt"), (28, u "equals"), (0, u "([B[B)Z"), (107, .class_ 391), (0, u "java/lang/StringLatin1$CharsSpliterator")] 3

def k23m0 : Method := { name := "<init>", desc := "()V", sig := { parameters := [], returnType := none }, accessFlags := 0, code := none }
def k23c1 : Code := { maxStack := 2, maxLocals := 2, code := jdk_43_method_2_code, exceptionTable := #[], attributes := #[] }
def k23m1 : Method := { name := "charAt", desc := "([BI)C", sig := { parameters := [(.array .byte), .int], returnType := some .char }, accessFlags := 9, code := some k23c1 }
def k23c2 : Code := { maxStack := 3, maxLocals := 3, code := jdk_43_method_13_code, exceptionTable := #[], attributes := #[] }
def k23m2 : Method := { name := "equals", desc := "([B[B)Z", sig := { parameters := [(.array .byte), (.array .byte)], returnType := some .boolean }, accessFlags := 9, code := some k23c2 }
/-- java/lang/StringLatin1 -/
def k23 : Class := { plain "java/lang/StringLatin1" (some 0) with
  accessFlags := 48
  interfaces := #[]
  cf := some (fileOf pool23 14 #[.nestMembers #[390, 221]] #[{ accessFlags := 0, nameIndex := 7, descriptorIndex := 8, attributes := #[] }, { accessFlags := 9, nameIndex := 252, descriptorIndex := 53, attributes := #[] }, { accessFlags := 9, nameIndex := 281, descriptorIndex := 282, attributes := #[] }] 48 4 #[] #[{ accessFlags := 4120, nameIndex := 121, descriptorIndex := 122, attributes := #[] }])
  fields := #[{ name := "$assertionsDisabled", type := .boolean, accessFlags := 4120, slot := 0, constantValue := 0 }]
  methods := #[k23m0, k23m1, k23m2]
  instanceTypes := #[]
  staticTypes := #[.boolean]
  resolved := Array.replicate 395 none
  statics := none }

def pool24 : Array CpInfo := pool [(2, .class_ 4), (1, u "java/lang/Object"), (0, u "<init>"), (0, u "()V"), (17, .class_ 26), (1, u "jdk/internal/util/Preconditions"), (6, u "checkIndex"), (21, .class_ 56), (0, u "jdk/internal/util/Preconditions$4"), (57, .class_ 115), (0, u "jdk/internal/util/Preconditions$1"), (7, u "SIOOBE_FORMATTER"), (0, u "Ljava/util/function/BiFunction;"), (0, .class_ 126), (0, u "jdk/internal/util/Preconditions$2"), (3, u "AIOOBE_FORMATTER"), (0, .class_ 132), (0, u "jdk/internal/util/Preconditions$3"), (3, u "IOOBE_FORMATTER"), (41, u "(IILjava/util/function/BiFunction;)I")] 15

def k24m0 : Method := { name := "<init>", desc := "()V", sig := { parameters := [], returnType := none }, accessFlags := 1, code := none }
def k24c1 : Code := { maxStack := 3, maxLocals := 3, code := jdk_41_method_11_code, exceptionTable := #[], attributes := #[] }
def k24m1 : Method := { name := "checkIndex", desc := "(IILjava/util/function/BiFunction;)I", sig := { parameters := [.int, .int, (.object "java/util/function/BiFunction")], returnType := some .int }, accessFlags := 9, code := some k24c1 }
/-- jdk/internal/util/Preconditions -/
def k24 : Class := { plain "jdk/internal/util/Preconditions" (some 0) with
  accessFlags := 33
  interfaces := #[]
  cf := some (fileOf pool24 24 #[.nestMembers #[55, 131, 125, 114]] #[{ accessFlags := 1, nameIndex := 5, descriptorIndex := 6, attributes := #[] }, { accessFlags := 9, nameIndex := 33, descriptorIndex := 178, attributes := #[] }] 33 2 #[] #[{ accessFlags := 25, nameIndex := 123, descriptorIndex := 124, attributes := #[] }, { accessFlags := 25, nameIndex := 130, descriptorIndex := 124, attributes := #[] }, { accessFlags := 25, nameIndex := 136, descriptorIndex := 124, attributes := #[] }])
  fields := #[{ name := "SIOOBE_FORMATTER", type := (.object "java/util/function/BiFunction"), accessFlags := 25, slot := 0, constantValue := 0 }, { name := "AIOOBE_FORMATTER", type := (.object "java/util/function/BiFunction"), accessFlags := 25, slot := 1, constantValue := 0 }, { name := "IOOBE_FORMATTER", type := (.object "java/util/function/BiFunction"), accessFlags := 25, slot := 2, constantValue := 0 }]
  methods := #[k24m0, k24m1]
  instanceTypes := #[]
  staticTypes := #[(.object "java/util/function/BiFunction"), (.object "java/util/function/BiFunction"), (.object "java/util/function/BiFunction")]
  resolved := Array.replicate 194 none
  statics := some 4 }

def pool25 : Array CpInfo := pool [(2, .class_ 4), (1, u "java/lang/Object"), (0, u "<init>"), (0, u "()V"), (12, .class_ 20), (0, u "java/util/Collections"), (63, u "r"), (0, u "Ljava/util/Random;"), (80, .class_ 167), (0, u "java/util/Collections$UnmodifiableCollection"), (6, .class_ 175), (0, u "java/util/Collections$UnmodifiableSequencedCollection"), (6, .class_ 183), (0, u "java/util/Collections$UnmodifiableSet"), (6, .class_ 191), (0, u "java/util/Collections$UnmodifiableSequencedSet"), (6, .class_ 199), (0, u "java/util/Collections$UnmodifiableSortedSet"), (6, .class_ 207), (0, u "java/util/Collections$UnmodifiableNavigableSet"), (4, .class_ 213), (0, u "java/util/Collections$UnmodifiableList"), (1, .class_ 216), (0, u "java/util/Collections$UnmodifiableRandomAccessList"), (6, .class_ 224), (0, u "java/util/Collections$UnmodifiableMap"), (6, .class_ 232), (0, u "java/util/Collections$UnmodifiableSequencedMap"), (4, .class_ 238), (0, u "java/util/Collections$UnmodifiableSortedMap"), (6, .class_ 246), (0, u "java/util/Collections$UnmodifiableNavigableMap"), (3, .class_ 251), (0, u "java/util/Collections$SynchronizedCollection"), (4, .class_ 257), (0, u "java/util/Collections$SynchronizedSet"), (4, .class_ 263), (0, u "java/util/Collections$SynchronizedSortedSet"), (1, .class_ 266), (0, u "java/util/Collections$SynchronizedNavigableSet"), (1, .class_ 269), (0, u "java/util/Collections$SynchronizedRandomAccessList"), (1, .class_ 272), (0, u "java/util/Collections$SynchronizedList"), (5, .class_ 279), (0, u "java/util/Collections$SynchronizedMap"), (1, .class_ 282), (0, u "java/util/Collections$SynchronizedSortedMap"), (1, .class_ 285), (0, u "java/util/Collections$SynchronizedNavigableMap"), (1, .class_ 288), (0, u "java/util/Collections$CheckedCollection"), (11, .class_ 301), (0, u "java/util/Collections$CheckedQueue"), (3, .class_ 306), (0, u "java/util/Collections$CheckedSet"), (3, .class_ 311), (0, u "java/util/Collections$CheckedSortedSet"), (3, .class_ 316), (0, u "java/util/Collections$CheckedNavigableSet"), (3, .class_ 321), (0, u "java/util/Collections$CheckedRandomAccessList"), (3, .class_ 326), (0, u "java/util/Collections$CheckedList"), (1, .class_ 329), (0, u "java/util/Collections$CheckedMap"), (3, .class_ 334), (0, u "java/util/Collections$CheckedSortedMap"), (3, .class_ 339), (0, u "java/util/Collections$CheckedNavigableMap"), (4, .class_ 346), (1, u "java/util/Collections$EmptyIterator"), (3, .class_ 352), (1, u "java/util/Collections$EmptyListIterator"), (2, .class_ 357), (1, u "java/util/Collections$EmptyEnumeration"), (4, u "EMPTY_SET"), (0, u "Ljava/util/Set;"), (6, u "EMPTY_LIST"), (0, u "Ljava/util/List;"), (2, u "EMPTY_MAP"), (0, u "Ljava/util/Map;"), (4, .class_ 381), (0, u "java/util/Collections$SingletonSet"), (2, .class_ 385), (0, u "java/util/Collections$1"), (1, .class_ 388), (0, u "java/util/Collections$2"), (1, .class_ 391), (0, u "java/util/Collections$SingletonList"), (1, .class_ 394), (0, u "java/util/Collections$SingletonMap"), (22, .class_ 418), (0, u "java/util/Collections$CopiesList"), (4, .class_ 425), (1, u "java/util/Collections$ReverseComparator"), (8, .class_ 435), (0, u "java/util/Collections$ReverseComparator2"), (6, .class_ 443), (0, u "java/util/Collections$3"), (25, .class_ 470), (0, u "java/util/Collections$SetFromMap"), (2, .class_ 474), (0, u "java/util/Collections$SequencedSetFromMap"), (3, .class_ 479), (0, u "java/util/Collections$AsLIFOQueue"), (11, .class_ 492), (0, u "java/util/Collections$EmptySet"), (1, .class_ 495), (0, u "java/util/Collections$EmptyList"), (1, .class_ 498), (0, u "java/util/Collections$EmptyMap"), (1, u "BINARYSEARCH_THRESHOLD"), (0, u "I"), (2, u "REVERSE_THRESHOLD"), (1, u "SHUFFLE_THRESHOLD"), (1, u "FILL_THRESHOLD"), (1, u "ROTATE_THRESHOLD"), (1, u "COPY_THRESHOLD"), (1, u "REPLACEALL_THRESHOLD"), (1, u "INDEXOFSUBLIST_THRESHOLD"), (333, .class_ 851), (0, u "java/util/Collections$CheckedMap$CheckedEntrySet"), (0, .class_ 853), (0, u "java/util/Collections$CheckedMap$CheckedEntrySet$CheckedEntry"), (0, .class_ 855), (0, u "java/util/Collections$CheckedMap$CheckedEntrySet$1"), (0, .class_ 857), (0, u "java/util/Collections$CheckedList$1"), (0, .class_ 859), (0, u "java/util/Collections$CheckedCollection$1"), (0, .class_ 861), (0, u "java/util/Collections$UnmodifiableNavigableMap$EmptyNavigableMap"), (0, .class_ 863), (0, u "java/util/Collections$UnmodifiableMap$UnmodifiableEntrySet"), (0, .class_ 865), (0, u "java/util/Collections$UnmodifiableMap$UnmodifiableEntrySet$UnmodifiableEntry"), (0, .class_ 867), (0, u "java/util/Collections$UnmodifiableMap$UnmodifiableEntrySet$UnmodifiableEntrySetSpliterator"), (0, .class_ 869), (0, u "java/util/Collections$UnmodifiableMap$UnmodifiableEntrySet$1"), (0, .class_ 871), (0, u "java/util/Collections$UnmodifiableList$1"), (0, .class_ 873), (0, u "java/util/Collections$UnmodifiableNavigableSet$EmptyNavigableSet"), (0, .class_ 875), (0, u "java/util/Collections$UnmodifiableCollection$1")] 57

def k25m0 : Method := { name := "<init>", desc := "()V", sig := { parameters := [], returnType := none }, accessFlags := 2, code := none }
/-- java/util/Collections -/
def k25 : Class := { plain "java/util/Collections" (some 0) with
  accessFlags := 33
  interfaces := #[]
  cf := some (fileOf pool25 19 #[.nestMembers #[478, 473, 469, 434, 423, 417, 393, 390, 380, 497, 494, 491, 355, 350, 344, 338, 333, 328, 850, 852, 854, 320, 325, 856, 315, 310, 305, 300, 287, 858, 284, 281, 278, 268, 271, 265, 262, 256, 250, 245, 860, 237, 231, 223, 862, 864, 866, 868, 215, 212, 870, 206, 872, 198, 190, 182, 174, 166, 874, 442, 387, 384]] #[{ accessFlags := 2, nameIndex := 5, descriptorIndex := 6, attributes := #[] }] 33 2 #[] #[{ accessFlags := 26, nameIndex := 500, descriptorIndex := 501, attributes := #[] }, { accessFlags := 26, nameIndex := 504, descriptorIndex := 501, attributes := #[] }, { accessFlags := 26, nameIndex := 506, descriptorIndex := 501, attributes := #[] }, { accessFlags := 26, nameIndex := 508, descriptorIndex := 501, attributes := #[] }, { accessFlags := 26, nameIndex := 510, descriptorIndex := 501, attributes := #[] }, { accessFlags := 26, nameIndex := 512, descriptorIndex := 501, attributes := #[] }, { accessFlags := 26, nameIndex := 514, descriptorIndex := 501, attributes := #[] }, { accessFlags := 26, nameIndex := 516, descriptorIndex := 501, attributes := #[] }, { accessFlags := 10, nameIndex := 84, descriptorIndex := 85, attributes := #[] }, { accessFlags := 25, nameIndex := 362, descriptorIndex := 363, attributes := #[] }, { accessFlags := 25, nameIndex := 370, descriptorIndex := 371, attributes := #[] }, { accessFlags := 25, nameIndex := 374, descriptorIndex := 375, attributes := #[] }])
  fields := #[{ name := "BINARYSEARCH_THRESHOLD", type := .int, accessFlags := 26, slot := 0, constantValue := 0 }, { name := "REVERSE_THRESHOLD", type := .int, accessFlags := 26, slot := 1, constantValue := 0 }, { name := "SHUFFLE_THRESHOLD", type := .int, accessFlags := 26, slot := 2, constantValue := 0 }, { name := "FILL_THRESHOLD", type := .int, accessFlags := 26, slot := 3, constantValue := 0 }, { name := "ROTATE_THRESHOLD", type := .int, accessFlags := 26, slot := 4, constantValue := 0 }, { name := "COPY_THRESHOLD", type := .int, accessFlags := 26, slot := 5, constantValue := 0 }, { name := "REPLACEALL_THRESHOLD", type := .int, accessFlags := 26, slot := 6, constantValue := 0 }, { name := "INDEXOFSUBLIST_THRESHOLD", type := .int, accessFlags := 26, slot := 7, constantValue := 0 }, { name := "r", type := (.object "java/util/Random"), accessFlags := 10, slot := 8, constantValue := 0 }, { name := "EMPTY_SET", type := (.object "java/util/Set"), accessFlags := 25, slot := 9, constantValue := 0 }, { name := "EMPTY_LIST", type := (.object "java/util/List"), accessFlags := 25, slot := 10, constantValue := 0 }, { name := "EMPTY_MAP", type := (.object "java/util/Map"), accessFlags := 25, slot := 11, constantValue := 0 }]
  methods := #[k25m0]
  instanceTypes := #[]
  staticTypes := #[.int, .int, .int, .int, .int, .int, .int, .int, (.object "java/util/Random"), (.object "java/util/Set"), (.object "java/util/List"), (.object "java/util/Map")]
  resolved := Array.replicate 933 none
  statics := some 5 }

def pool26 : Array CpInfo := pool [(8, .class_ 10), (1, u "java/lang/Iterable"), (24, .class_ 36), (0, u "java/lang/Object")] 25

/-- java/lang/Iterable -/
def k26 : Class := { plain "java/lang/Iterable" (some 0) with
  accessFlags := 1537
  interfaces := #[]
  cf := some (fileOf pool26 8 #[] #[] 1537 35 #[] #[])
  fields := #[]
  methods := #[]
  instanceTypes := #[]
  staticTypes := #[]
  resolved := Array.replicate 62 none
  statics := none }

def pool27 : Array CpInfo := pool [(10, .class_ 12), (1, u "java/util/Collection"), (47, .class_ 61), (0, u "java/lang/Object"), (0, .class_ 63), (0, u "java/lang/Iterable")] 51

/-- java/util/Collection -/
def k27 : Class := { plain "java/util/Collection" (some 0) with
  accessFlags := 1537
  interfaces := #[26]
  cf := some (fileOf pool27 10 #[] #[] 1537 60 #[62] #[])
  fields := #[]
  methods := #[]
  instanceTypes := #[]
  staticTypes := #[]
  resolved := Array.replicate 115 none
  statics := none }

def pool28 : Array CpInfo := pool [(2, .class_ 4), (1, u "java/lang/Object"), (0, u "<init>"), (0, u "()V"), (1, .class_ 10), (1, u "java/util/AbstractCollection"), (66, .class_ 78), (0, u "java/util/Collection")] 81

def k28m0 : Method := { name := "<init>", desc := "()V", sig := { parameters := [], returnType := none }, accessFlags := 4, code := none }
/-- java/util/AbstractCollection -/
def k28 : Class := { plain "java/util/AbstractCollection" (some 0) with
  accessFlags := 1057
  interfaces := #[27]
  cf := some (fileOf pool28 8 #[] #[{ accessFlags := 4, nameIndex := 5, descriptorIndex := 6, attributes := #[] }] 1057 2 #[77] #[])
  fields := #[]
  methods := #[k28m0]
  instanceTypes := #[]
  staticTypes := #[]
  resolved := Array.replicate 160 none
  statics := none }

def pool29 : Array CpInfo := pool [(8, .class_ 10), (1, u "java/util/SequencedCollection"), (15, .class_ 27), (0, u "java/lang/Object"), (0, .class_ 29), (0, u "java/util/Collection")] 27

/-- java/util/SequencedCollection -/
def k29 : Class := { plain "java/util/SequencedCollection" (some 0) with
  accessFlags := 1537
  interfaces := #[27]
  cf := some (fileOf pool29 8 #[] #[] 1537 26 #[28] #[])
  fields := #[]
  methods := #[]
  instanceTypes := #[]
  staticTypes := #[]
  resolved := Array.replicate 57 none
  statics := none }

def pool30 : Array CpInfo := pool [(8, .class_ 10), (1, u "java/util/List"), (92, .class_ 104), (0, u "java/lang/Object"), (15, .class_ 121), (0, u "java/util/SequencedCollection")] 129

/-- java/util/List -/
def k30 : Class := { plain "java/util/List" (some 0) with
  accessFlags := 1537
  interfaces := #[29]
  cf := some (fileOf pool30 8 #[] #[] 1537 103 #[120] #[])
  fields := #[]
  methods := #[]
  instanceTypes := #[]
  staticTypes := #[]
  resolved := Array.replicate 251 none
  statics := none }

def pool31 : Array CpInfo := pool [(2, .class_ 4), (1, u "java/util/AbstractCollection"), (0, u "<init>"), (0, u "()V"), (1, .class_ 10), (1, u "java/util/AbstractList"), (0, u "modCount"), (0, u "I"), (64, .class_ 78), (0, u "java/util/AbstractList$Itr"), (3, .class_ 83), (0, u "java/util/AbstractList$ListItr"), (9, .class_ 94), (0, u "java/util/AbstractList$RandomAccessSubList"), (3, .class_ 99), (0, u "java/util/AbstractList$SubList"), (33, .class_ 134), (0, u "java/util/List"), (73, .class_ 209), (0, u "java/util/AbstractList$SubList$1"), (0, .class_ 211), (0, u "java/util/AbstractList$RandomAccessSpliterator")] 6

def k31m0 : Method := { name := "<init>", desc := "()V", sig := { parameters := [], returnType := none }, accessFlags := 4, code := none }
/-- java/util/AbstractList -/
def k31 : Class := { plain "java/util/AbstractList" (some 28) with
  accessFlags := 1057
  interfaces := #[30]
  cf := some (fileOf pool31 8 #[.nestMembers #[93, 98, 208, 210, 82, 77]] #[{ accessFlags := 4, nameIndex := 5, descriptorIndex := 6, attributes := #[] }] 1057 2 #[133] #[{ accessFlags := 132, nameIndex := 11, descriptorIndex := 12, attributes := #[] }])
  fields := #[{ name := "modCount", type := .int, accessFlags := 132, slot := 0, constantValue := 0 }]
  methods := #[k31m0]
  instanceTypes := #[.int]
  staticTypes := #[]
  resolved := Array.replicate 218 none
  statics := none }

def pool32 : Array CpInfo := pool [(1, .class_ 2), (0, u "java/util/RandomAccess"), (0, .class_ 4), (0, u "java/lang/Object")] 2

/-- java/util/RandomAccess -/
def k32 : Class := { plain "java/util/RandomAccess" (some 0) with
  accessFlags := 1537
  interfaces := #[]
  cf := some (fileOf pool32 1 #[] #[] 1537 3 #[] #[])
  fields := #[]
  methods := #[]
  instanceTypes := #[]
  staticTypes := #[]
  resolved := Array.replicate 7 none
  statics := none }

def pool33 : Array CpInfo := pool [(2, .class_ 4), (1, u "java/util/AbstractList"), (0, u "<init>"), (0, u "()V"), (1, .class_ 10), (1, u "java/util/Collections"), (54, .class_ 66), (0, u "java/util/Collections$EmptyList"), (0, .class_ 68), (0, u "java/util/RandomAccess"), (0, .class_ 70), (0, u "java/io/Serializable"), (0, u "serialVersionUID"), (0, u "J")] 77

def k33m0 : Method := { name := "<init>", desc := "()V", sig := { parameters := [], returnType := none }, accessFlags := 2, code := none }
/-- java/util/Collections$EmptyList -/
def k33 : Class := { plain "java/util/Collections$EmptyList" (some 31) with
  accessFlags := 32
  interfaces := #[32, 2]
  cf := some (fileOf pool33 65 #[.nestHost 8] #[{ accessFlags := 2, nameIndex := 5, descriptorIndex := 6, attributes := #[] }] 32 2 #[67, 69] #[{ accessFlags := 26, nameIndex := 71, descriptorIndex := 72, attributes := #[] }])
  fields := #[{ name := "serialVersionUID", type := .long, accessFlags := 26, slot := 0, constantValue := 0 }]
  methods := #[k33m0]
  instanceTypes := #[.int]
  staticTypes := #[.long]
  resolved := Array.replicate 150 none
  statics := none }

def pool34 : Array CpInfo := pool [(2, .class_ 4), (1, u "java/lang/StackTraceElement"), (0, u "<init>"), (2, .class_ 10), (1, u "java/lang/Object"), (0, u "()V"), (2, u "format"), (0, u "B"), (2, u "classLoaderName"), (0, u "Ljava/lang/String;"), (2, u "moduleName"), (2, u "moduleVersion"), (12, u "declaringClass"), (4, u "methodName"), (2, u "fileName"), (2, u "lineNumber"), (0, u "I"), (65, u "declaringClassObject"), (0, u "Ljava/lang/Class;"), (33, .class_ 153), (1, u "java/lang/StackTraceElement$HashedModules"), (17, .class_ 172), (0, u "java/io/Serializable"), (0, u "NATIVE_METHOD"), (1, u "UNKNOWN_SOURCE"), (2, u "BUILTIN_CLASS_LOADER"), (1, u "JDK_NON_UPGRADEABLE_MODULE"), (1, u "serialVersionUID"), (0, u "J")] 51

def k34m0 : Method := { name := "<init>", desc := "()V", sig := { parameters := [], returnType := none }, accessFlags := 2, code := none }
/-- java/lang/StackTraceElement -/
def k34 : Class := { plain "java/lang/StackTraceElement" (some 0) with
  accessFlags := 49
  interfaces := #[2]
  cf := some (fileOf pool34 2 #[.nestMembers #[151]] #[{ accessFlags := 2, nameIndex := 5, descriptorIndex := 11, attributes := #[] }] 49 8 #[171] #[{ accessFlags := 26, nameIndex := 173, descriptorIndex := 19, attributes := #[] }, { accessFlags := 26, nameIndex := 175, descriptorIndex := 19, attributes := #[] }, { accessFlags := 130, nameIndex := 116, descriptorIndex := 117, attributes := #[] }, { accessFlags := 2, nameIndex := 18, descriptorIndex := 19, attributes := #[] }, { accessFlags := 2, nameIndex := 22, descriptorIndex := 19, attributes := #[] }, { accessFlags := 2, nameIndex := 25, descriptorIndex := 19, attributes := #[] }, { accessFlags := 2, nameIndex := 38, descriptorIndex := 19, attributes := #[] }, { accessFlags := 2, nameIndex := 43, descriptorIndex := 19, attributes := #[] }, { accessFlags := 2, nameIndex := 46, descriptorIndex := 19, attributes := #[] }, { accessFlags := 2, nameIndex := 49, descriptorIndex := 50, attributes := #[] }, { accessFlags := 2, nameIndex := 14, descriptorIndex := 15, attributes := #[] }, { accessFlags := 26, nameIndex := 178, descriptorIndex := 15, attributes := #[] }, { accessFlags := 26, nameIndex := 180, descriptorIndex := 15, attributes := #[] }, { accessFlags := 26, nameIndex := 182, descriptorIndex := 183, attributes := #[] }])
  fields := #[{ name := "NATIVE_METHOD", type := (.object "java/lang/String"), accessFlags := 26, slot := 0, constantValue := 0 }, { name := "UNKNOWN_SOURCE", type := (.object "java/lang/String"), accessFlags := 26, slot := 1, constantValue := 0 }, { name := "declaringClassObject", type := (.object "java/lang/Class"), accessFlags := 130, slot := 0, constantValue := 0 }, { name := "classLoaderName", type := (.object "java/lang/String"), accessFlags := 2, slot := 1, constantValue := 0 }, { name := "moduleName", type := (.object "java/lang/String"), accessFlags := 2, slot := 2, constantValue := 0 }, { name := "moduleVersion", type := (.object "java/lang/String"), accessFlags := 2, slot := 3, constantValue := 0 }, { name := "declaringClass", type := (.object "java/lang/String"), accessFlags := 2, slot := 4, constantValue := 0 }, { name := "methodName", type := (.object "java/lang/String"), accessFlags := 2, slot := 5, constantValue := 0 }, { name := "fileName", type := (.object "java/lang/String"), accessFlags := 2, slot := 6, constantValue := 0 }, { name := "lineNumber", type := .int, accessFlags := 2, slot := 7, constantValue := 0 }, { name := "format", type := .byte, accessFlags := 2, slot := 8, constantValue := 0 }, { name := "BUILTIN_CLASS_LOADER", type := .byte, accessFlags := 26, slot := 2, constantValue := 0 }, { name := "JDK_NON_UPGRADEABLE_MODULE", type := .byte, accessFlags := 26, slot := 3, constantValue := 0 }, { name := "serialVersionUID", type := .long, accessFlags := 26, slot := 4, constantValue := 0 }]
  methods := #[k34m0]
  instanceTypes := #[(.object "java/lang/Class"), (.object "java/lang/String"), (.object "java/lang/String"), (.object "java/lang/String"), (.object "java/lang/String"), (.object "java/lang/String"), (.object "java/lang/String"), .int, .byte]
  staticTypes := #[(.object "java/lang/String"), (.object "java/lang/String"), .byte, .byte, .long]
  resolved := Array.replicate 235 none
  statics := none }

def pool35 : Array CpInfo := pool [(1, u "java/lang/Cloneable"), (0, .class_ 1), (0, u "java/lang/Object"), (0, .class_ 3)] 3

/-- java/lang/Cloneable -/
def k35 : Class := { plain "java/lang/Cloneable" (some 0) with
  accessFlags := 1537
  interfaces := #[]
  cf := some (fileOf pool35 2 #[] #[] 1537 4 #[] #[])
  fields := #[]
  methods := #[]
  instanceTypes := #[]
  staticTypes := #[]
  resolved := Array.replicate 8 none
  statics := none }

/-- the primitive byte -/
def k36 : Class := { plain "byte" none with kind := .primitive 'B', accessFlags := 0x411 }
/-- [B -/
def k37 : Class := { plain "[B" (some 0) with kind := .array 36 .byte, interfaces := #[35, 2], accessFlags := 1041 }

/-- the primitive int -/
def k38 : Class := { plain "int" none with kind := .primitive 'I', accessFlags := 0x411 }
/-- [I -/
def k39 : Class := { plain "[I" (some 0) with kind := .array 38 .int, interfaces := #[35, 2], accessFlags := 1041 }

/-- the primitive long -/
def k40 : Class := { plain "long" none with kind := .primitive 'J', accessFlags := 0x411 }
/-- [J -/
def k41 : Class := { plain "[J" (some 0) with kind := .array 40 .long, interfaces := #[35, 2], accessFlags := 1041 }

/-- [Ljava/lang/Object; -/
def k42 : Class := { plain "[Ljava/lang/Object;" (some 0) with kind := .array 0 (.object "java/lang/Object"), interfaces := #[35, 2], accessFlags := 1041 }

/-- [Ljava/lang/StackTraceElement; -/
def k43 : Class := { plain "[Ljava/lang/StackTraceElement;" (some 0) with kind := .array 34 (.object "java/lang/StackTraceElement"), interfaces := #[35, 2], accessFlags := 1041 }

/-- [Ljava/lang/String; -/
def k44 : Class := { plain "[Ljava/lang/String;" (some 0) with kind := .array 15 (.object "java/lang/String"), interfaces := #[35, 2], accessFlags := 1041 }

/-- [Ljava/lang/Throwable; -/
def k45 : Class := { plain "[Ljava/lang/Throwable;" (some 0) with kind := .array 3 (.object "java/lang/Throwable"), interfaces := #[35, 2], accessFlags := 1041 }

def heap : Heap := #[{ cls := 3, slots := #[.long 0, .ref 9, .ref 10, .null, .null, .null, .null, .ref 11, .int 1], vm := .statics 3 },
  { cls := 9, slots := #[.null, .null, .null, .null, .null, .ref 6, .null, .null, .null], vm := .statics 9 },
  { cls := 15, slots := #[.long 0, .int 1, .null, .int 0, .null, .int 0, .int 0], vm := .statics 15 },
  { cls := 22, slots := #[.int 0, .int 0, .null, .null, .ref 8, .ref 7, .int 0, .int 0, .long 0], vm := .statics 22 },
  { cls := 24, slots := #[.null, .null, .null], vm := .statics 24 },
  { cls := 25, slots := #[.int 0, .int 0, .int 0, .int 0, .int 0, .int 0, .int 0, .int 0, .null, .null, .ref 10, .null], vm := .statics 25 },
  { cls := 9, slots := #[.null, .int 0, .int 0, .int 0], vm := .none },
  { cls := 37, slots := #[.int 48, .int 49, .int 50, .int 51, .int 52, .int 53, .int 54, .int 55, .int 56, .int 57, .int 48, .int 49, .int 50, .int 51, .int 52, .int 53, .int 54, .int 55, .int 56, .int 57, .int 48, .int 49, .int 50, .int 51, .int 52, .int 53, .int 54, .int 55, .int 56, .int 57, .int 48, .int 49, .int 50, .int 51, .int 52, .int 53, .int 54, .int 55, .int 56, .int 57, .int 48, .int 49, .int 50, .int 51, .int 52, .int 53, .int 54, .int 55, .int 56, .int 57, .int 48, .int 49, .int 50, .int 51, .int 52, .int 53, .int 54, .int 55, .int 56, .int 57, .int 48, .int 49, .int 50, .int 51, .int 52, .int 53, .int 54, .int 55, .int 56, .int 57, .int 48, .int 49, .int 50, .int 51, .int 52, .int 53, .int 54, .int 55, .int 56, .int 57, .int 48, .int 49, .int 50, .int 51, .int 52, .int 53, .int 54, .int 55, .int 56, .int 57, .int 48, .int 49, .int 50, .int 51, .int 52, .int 53, .int 54, .int 55, .int 56, .int 57], vm := .none },
  { cls := 37, slots := #[.int 48, .int 48, .int 48, .int 48, .int 48, .int 48, .int 48, .int 48, .int 48, .int 48, .int 49, .int 49, .int 49, .int 49, .int 49, .int 49, .int 49, .int 49, .int 49, .int 49, .int 50, .int 50, .int 50, .int 50, .int 50, .int 50, .int 50, .int 50, .int 50, .int 50, .int 51, .int 51, .int 51, .int 51, .int 51, .int 51, .int 51, .int 51, .int 51, .int 51, .int 52, .int 52, .int 52, .int 52, .int 52, .int 52, .int 52, .int 52, .int 52, .int 52, .int 53, .int 53, .int 53, .int 53, .int 53, .int 53, .int 53, .int 53, .int 53, .int 53, .int 54, .int 54, .int 54, .int 54, .int 54, .int 54, .int 54, .int 54, .int 54, .int 54, .int 55, .int 55, .int 55, .int 55, .int 55, .int 55, .int 55, .int 55, .int 55, .int 55, .int 56, .int 56, .int 56, .int 56, .int 56, .int 56, .int 56, .int 56, .int 56, .int 56, .int 57, .int 57, .int 57, .int 57, .int 57, .int 57, .int 57, .int 57, .int 57, .int 57], vm := .none },
  { cls := 43, slots := #[], vm := .none },
  { cls := 33, slots := #[.int 0], vm := .none },
  { cls := 45, slots := #[], vm := .none }]
def classes : Array Class := #[k0, k1, k2, k3, k4, k5, k6, k7, k8, k9, k10, k11, k12, k13, k14, k15, k16, k17, k18, k19, k20, k21, k22, k23, k24, k25, k26, k27, k28, k29, k30, k31, k32, k33, k34, k35, k36, k37, k38, k39, k40, k41, k42, k43, k44, k45]
def interned : List (Array UInt16 × Addr) := []
def slotsUsed : Nat := 254
def theMethod : MethodId := ⟨1, 2⟩
def args0 : Array Value := #[.long 5000000, .long 77, .int 3, .int 4]
def aboutOver (below : List Frame) : State where
  vm := { classes := classes, interned := interned.toArray }
  heap := heap
  slotsUsed := slotsUsed
  threads := #[{ frames := .invoking theMethod args0 :: below }]
def below0 : List Frame := [.native { method := ⟨0, 0⟩, args := #[] }]
def about1 : State := aboutOver below0
def p0 : Program := .bare "" "" ""
def e0 : Env := launch0.env 0 0 0
theorem w_frames : about1.frames = Frame.invoking theMethod args0 :: below0 := rfl
set_option maxRecDepth 65536 in
theorem w_args : argsFit about1.vm theMethod args0 = true := by decide +kernel
set_option maxRecDepth 65536 in
theorem w_heap : heapFits about1 = true := by decide +kernel
set_option maxRecDepth 65536 in
theorem w_runnable : about1.curStatus? = some .runnable := by decide +kernel
set_option maxRecDepth 65536 in
theorem w_alone : about1.alone = true := by decide +kernel
set_option maxRecDepth 65536 in
theorem w_named : about1.methodNamed? x = some theMethod := by decide +kernel
set_option maxRecDepth 65536 in
theorem w_hears : about1.hears theMethod below0 = true := by decide +kernel
set_option maxRecDepth 65536 in
theorem w_ripe : about1.ripe theMethod args0 below0 = true := by decide +kernel
theorem w_running : about1.status = .running := rfl
set_option maxRecDepth 65536 in
theorem w_room : about1.hasRoom e0.platform room_1 = true :=
  launch0.hasRoom_least _ room_1 (by decide +kernel) (by decide +kernel) (by decide +kernel) (by decide +kernel) (by decide +kernel) (by decide +kernel)
theorem allAtoms_all (ts : List Jvm.Cond) (a : Array Jvm.Value) (st : Jvm.State) : (allAtoms ts).before a st = ts.all (fun c => c.before a st) := by
  induction ts with
  | nil => rfl
  | cons c t ih =>
    show (Jvm.Cond.and c (allAtoms t)).before a st = _
    rw [Jvm.Cond.before_and, ih, List.all_cons]
def words1 : List Jvm.Cond := Jvm.Cond.code x code maxLocals ret :: tables_1
/-- a 'code' word, met by the world's own term for the bytes: nothing is compared byte by byte -/
theorem code_word {y : MethodName} {bytes : ByteArray} {mx : Nat} {rt : Option FieldType} {a : Array Value} {s : State} {m : MethodId} {meth : Method} {c : Code} (h1 : s.methodNamed? y = some m) (h2 : s.vm.method? m = some meth) (h3 : meth.code = some c) (h4 : c.code = bytes)
    (h5 : (c.maxLocals == mx && c.exceptionTable.isEmpty && decide (c.maxStack ≤ mostOperands) && decide (meth.sig.returnType = rt) && !meth.locks && decide (parseMethodDescriptor y.desc = some meth.sig)) = true) : (Jvm.Cond.code y bytes mx rt).before a s = true := by
  simp only [Bool.and_eq_true, beq_iff_eq, Bool.not_eq_true', decide_eq_true_eq] at h5
  obtain ⟨⟨⟨⟨⟨g1, g2⟩, g3⟩, g4⟩, g5⟩, g6⟩ := h5
  simp [Cond.before, Cond.holds, Cond.value, h1, h2, h3, h4, g1, g2, g3, g4, g5, g6]
def isCode : Jvm.Cond → Bool
  | .code _ _ _ _ => true
  | _ => false
theorem all_split {L : List Jvm.Cond} {P : Jvm.Cond → Bool} (h1 : L.all (fun c => isCode c || P c) = true) (h2 : ∀ c ∈ L.filter isCode, P c = true) : L.all P = true := by
  refine List.all_eq_true.mpr fun c hc => ?_
  have h := List.all_eq_true.mp h1 c hc
  rcases Bool.eq_false_or_eq_true (isCode c) with hi | hi
  · exact h2 c (List.mem_filter.mpr ⟨hc, hi⟩)
  · simpa [hi] using h
set_option maxRecDepth 65536 in
theorem w_c0 : (Jvm.Cond.code x code maxLocals ret).before args0 about1 = true := code_word (m := ⟨1, 2⟩) (meth := k1m2) (c := k1c2) (by decide +kernel) rfl rfl rfl (by decide +kernel)
set_option maxRecDepth 65536 in
theorem w_c1 : (Jvm.Cond.code ({ cls := "com/example/tollplan/tollplan/CommandException", name := "outOfMemory", desc := "(J)Lcom/example/tollplan/tollplan/CommandException;" } : Jvm.MethodName) prog_4_method_7_code (2 : Nat) (Option.some (Jvm.ClassFile.FieldType.object "com/example/tollplan/tollplan/CommandException"))).before args0 about1 = true := code_word (m := ⟨5, 2⟩) (meth := k5m2) (c := k5c2) (by decide +kernel) rfl rfl rfl (by decide +kernel)
set_option maxRecDepth 65536 in
theorem w_c2 : (Jvm.Cond.code ({ cls := "java/lang/StringBuilder", name := "<init>", desc := "()V" } : Jvm.MethodName) jdk_67_method_1_code (1 : Nat) (Option.none : Option Jvm.ClassFile.FieldType)).before args0 about1 = true := code_word (m := ⟨13, 0⟩) (meth := k13m0) (c := k13c0) (by decide +kernel) rfl rfl rfl (by decide +kernel)
set_option maxRecDepth 65536 in
theorem w_c3 : (Jvm.Cond.code ({ cls := "java/lang/AbstractStringBuilder", name := "<init>", desc := "(I)V" } : Jvm.MethodName) jdk_68_method_2_code (2 : Nat) (Option.none : Option Jvm.ClassFile.FieldType)).before args0 about1 = true := code_word (m := ⟨12, 1⟩) (meth := k12m1) (c := k12c1) (by decide +kernel) rfl rfl rfl (by decide +kernel)
set_option maxRecDepth 65536 in
theorem w_c4 : (Jvm.Cond.code ({ cls := "java/lang/Object", name := "<init>", desc := "()V" } : Jvm.MethodName) object_method_1_code (1 : Nat) (Option.none : Option Jvm.ClassFile.FieldType)).before args0 about1 = true := code_word (m := ⟨0, 0⟩) (meth := k0m0) (c := k0c0) (by decide +kernel) rfl rfl rfl (by decide +kernel)
set_option maxRecDepth 65536 in
theorem w_c5 : (Jvm.Cond.code ({ cls := "java/lang/StringBuilder", name := "append", desc := "(Ljava/lang/String;)Ljava/lang/StringBuilder;" } : Jvm.MethodName) jdk_67_method_7_code (2 : Nat) (Option.some (Jvm.ClassFile.FieldType.object "java/lang/StringBuilder"))).before args0 about1 = true := code_word (m := ⟨13, 1⟩) (meth := k13m1) (c := k13c1) (by decide +kernel) rfl rfl rfl (by decide +kernel)
set_option maxRecDepth 65536 in
theorem w_c6 : (Jvm.Cond.code ({ cls := "java/lang/AbstractStringBuilder", name := "append", desc := "(Ljava/lang/String;)Ljava/lang/AbstractStringBuilder;" } : Jvm.MethodName) jdk_68_method_22_code (3 : Nat) (Option.some (Jvm.ClassFile.FieldType.object "java/lang/AbstractStringBuilder"))).before args0 about1 = true := code_word (m := ⟨12, 5⟩) (meth := k12m5) (c := k12c5) (by decide +kernel) rfl rfl rfl (by decide +kernel)
set_option maxRecDepth 65536 in
theorem w_c7 : (Jvm.Cond.code ({ cls := "java/lang/String", name := "length", desc := "()I" } : Jvm.MethodName) jdk_42_method_54_code (1 : Nat) (Option.some Jvm.ClassFile.FieldType.int)).before args0 about1 = true := code_word (m := ⟨15, 2⟩) (meth := k15m2) (c := k15c2) (by decide +kernel) rfl rfl rfl (by decide +kernel)
set_option maxRecDepth 65536 in
theorem w_c8 : (Jvm.Cond.code ({ cls := "java/lang/String", name := "coder", desc := "()B" } : Jvm.MethodName) jdk_42_method_152_code (1 : Nat) (Option.some Jvm.ClassFile.FieldType.byte)).before args0 about1 = true := code_word (m := ⟨15, 7⟩) (meth := k15m7) (c := k15c7) (by decide +kernel) rfl rfl rfl (by decide +kernel)
set_option maxRecDepth 65536 in
theorem w_c9 : (Jvm.Cond.code ({ cls := "java/lang/AbstractStringBuilder", name := "ensureCapacityInternal", desc := "(I)V" } : Jvm.MethodName) jdk_68_method_9_code (3 : Nat) (Option.none : Option Jvm.ClassFile.FieldType)).before args0 about1 = true := code_word (m := ⟨12, 3⟩) (meth := k12m3) (c := k12c3) (by decide +kernel) rfl rfl rfl (by decide +kernel)
set_option maxRecDepth 65536 in
theorem w_c10 : (Jvm.Cond.code ({ cls := "java/lang/AbstractStringBuilder", name := "newCapacity", desc := "(I)I" } : Jvm.MethodName) jdk_68_method_10_code (6 : Nat) (Option.some Jvm.ClassFile.FieldType.int)).before args0 about1 = true := code_word (m := ⟨12, 4⟩) (meth := k12m4) (c := k12c4) (by decide +kernel) rfl rfl rfl (by decide +kernel)
set_option maxRecDepth 65536 in
theorem w_c11 : (Jvm.Cond.code ({ cls := "jdk/internal/util/ArraysSupport", name := "newLength", desc := "(III)I" } : Jvm.MethodName) jdk_48_method_27_code (4 : Nat) (Option.some Jvm.ClassFile.FieldType.int)).before args0 about1 = true := code_word (m := ⟨16, 1⟩) (meth := k16m1) (c := k16c1) (by decide +kernel) rfl rfl rfl (by decide +kernel)
set_option maxRecDepth 65536 in
theorem w_c12 : (Jvm.Cond.code ({ cls := "java/lang/Math", name := "max", desc := "(II)I" } : Jvm.MethodName) jdk_29_method_65_code (2 : Nat) (Option.some Jvm.ClassFile.FieldType.int)).before args0 about1 = true := code_word (m := ⟨17, 1⟩) (meth := k17m1) (c := k17c1) (by decide +kernel) rfl rfl rfl (by decide +kernel)
set_option maxRecDepth 65536 in
theorem w_c13 : (Jvm.Cond.code ({ cls := "java/util/Arrays", name := "copyOf", desc := "([BI)[B" } : Jvm.MethodName) jdk_65_method_121_code (3 : Nat) (Option.some (Jvm.ClassFile.FieldType.array Jvm.ClassFile.FieldType.byte))).before args0 about1 = true := code_word (m := ⟨18, 1⟩) (meth := k18m1) (c := k18c1) (by decide +kernel) rfl rfl rfl (by decide +kernel)
set_option maxRecDepth 65536 in
theorem w_c14 : (Jvm.Cond.code ({ cls := "java/lang/Math", name := "min", desc := "(II)I" } : Jvm.MethodName) jdk_29_method_69_code (2 : Nat) (Option.some Jvm.ClassFile.FieldType.int)).before args0 about1 = true := code_word (m := ⟨17, 2⟩) (meth := k17m2) (c := k17c2) (by decide +kernel) rfl rfl rfl (by decide +kernel)
set_option maxRecDepth 65536 in
theorem w_c15 : (Jvm.Cond.code ({ cls := "java/lang/AbstractStringBuilder", name := "putStringAt", desc := "(ILjava/lang/String;)V" } : Jvm.MethodName) jdk_68_method_73_code (3 : Nat) (Option.none : Option Jvm.ClassFile.FieldType)).before args0 about1 = true := code_word (m := ⟨12, 10⟩) (meth := k12m10) (c := k12c10) (by decide +kernel) rfl rfl rfl (by decide +kernel)
set_option maxRecDepth 65536 in
theorem w_c16 : (Jvm.Cond.code ({ cls := "java/lang/AbstractStringBuilder", name := "inflateIfNeededFor", desc := "(Ljava/lang/String;)V" } : Jvm.MethodName) jdk_68_method_71_code (2 : Nat) (Option.none : Option Jvm.ClassFile.FieldType)).before args0 about1 = true := code_word (m := ⟨12, 9⟩) (meth := k12m9) (c := k12c9) (by decide +kernel) rfl rfl rfl (by decide +kernel)
set_option maxRecDepth 65536 in
theorem w_c17 : (Jvm.Cond.code ({ cls := "java/lang/String", name := "getBytes", desc := "([BIB)V" } : Jvm.MethodName) jdk_42_method_147_code (4 : Nat) (Option.none : Option Jvm.ClassFile.FieldType)).before args0 about1 = true := code_word (m := ⟨15, 5⟩) (meth := k15m5) (c := k15c5) (by decide +kernel) rfl rfl rfl (by decide +kernel)
set_option maxRecDepth 65536 in
theorem w_c18 : (Jvm.Cond.code ({ cls := "java/lang/StringBuilder", name := "append", desc := "(J)Ljava/lang/StringBuilder;" } : Jvm.MethodName) jdk_67_method_16_code (3 : Nat) (Option.some (Jvm.ClassFile.FieldType.object "java/lang/StringBuilder"))).before args0 about1 = true := code_word (m := ⟨13, 2⟩) (meth := k13m2) (c := k13c2) (by decide +kernel) rfl rfl rfl (by decide +kernel)
set_option maxRecDepth 65536 in
theorem w_c19 : (Jvm.Cond.code ({ cls := "java/lang/AbstractStringBuilder", name := "append", desc := "(J)Ljava/lang/AbstractStringBuilder;" } : Jvm.MethodName) jdk_68_method_33_code (5 : Nat) (Option.some (Jvm.ClassFile.FieldType.object "java/lang/AbstractStringBuilder"))).before args0 about1 = true := code_word (m := ⟨12, 6⟩) (meth := k12m6) (c := k12c6) (by decide +kernel) rfl rfl rfl (by decide +kernel)
set_option maxRecDepth 65536 in
theorem w_c20 : (Jvm.Cond.code ({ cls := "java/lang/Long", name := "stringSize", desc := "(J)I" } : Jvm.MethodName) jdk_35_method_15_code (6 : Nat) (Option.some Jvm.ClassFile.FieldType.int)).before args0 about1 = true := code_word (m := ⟨21, 1⟩) (meth := k21m1) (c := k21c1) (by decide +kernel) rfl rfl rfl (by decide +kernel)
set_option maxRecDepth 65536 in
theorem w_c21 : (Jvm.Cond.code ({ cls := "java/lang/AbstractStringBuilder", name := "isLatin1", desc := "()Z" } : Jvm.MethodName) jdk_68_method_68_code (1 : Nat) (Option.some Jvm.ClassFile.FieldType.boolean)).before args0 about1 = true := code_word (m := ⟨12, 8⟩) (meth := k12m8) (c := k12c8) (by decide +kernel) rfl rfl rfl (by decide +kernel)
set_option maxRecDepth 65536 in
theorem w_c22 : (Jvm.Cond.code ({ cls := "java/lang/Long", name := "getChars", desc := "(JI[B)I" } : Jvm.MethodName) jdk_35_method_14_code (11 : Nat) (Option.some Jvm.ClassFile.FieldType.int)).before args0 about1 = true := code_word (m := ⟨21, 0⟩) (meth := k21m0) (c := k21c0) (by decide +kernel) rfl rfl rfl (by decide +kernel)
set_option maxRecDepth 65536 in
theorem w_c23 : (Jvm.Cond.code ({ cls := "java/lang/StringBuilder", name := "toString", desc := "()Ljava/lang/String;" } : Jvm.MethodName) jdk_67_method_42_code (1 : Nat) (Option.some (Jvm.ClassFile.FieldType.object "java/lang/String"))).before args0 about1 = true := code_word (m := ⟨13, 3⟩) (meth := k13m3) (c := k13c3) (by decide +kernel) rfl rfl rfl (by decide +kernel)
set_option maxRecDepth 65536 in
theorem w_c24 : (Jvm.Cond.code ({ cls := "java/lang/String", name := "<init>", desc := "(Ljava/lang/StringBuilder;)V" } : Jvm.MethodName) jdk_42_method_53_code (2 : Nat) (Option.none : Option Jvm.ClassFile.FieldType)).before args0 about1 = true := code_word (m := ⟨15, 1⟩) (meth := k15m1) (c := k15c1) (by decide +kernel) rfl rfl rfl (by decide +kernel)
set_option maxRecDepth 65536 in
theorem w_c25 : (Jvm.Cond.code ({ cls := "java/lang/String", name := "<init>", desc := "(Ljava/lang/AbstractStringBuilder;Ljava/lang/Void;)V" } : Jvm.MethodName) jdk_42_method_150_code (5 : Nat) (Option.none : Option Jvm.ClassFile.FieldType)).before args0 about1 = true := code_word (m := ⟨15, 6⟩) (meth := k15m6) (c := k15c6) (by decide +kernel) rfl rfl rfl (by decide +kernel)
set_option maxRecDepth 65536 in
theorem w_c26 : (Jvm.Cond.code ({ cls := "java/lang/AbstractStringBuilder", name := "getValue", desc := "()[B" } : Jvm.MethodName) jdk_68_method_64_code (1 : Nat) (Option.some (Jvm.ClassFile.FieldType.array Jvm.ClassFile.FieldType.byte))).before args0 about1 = true := code_word (m := ⟨12, 7⟩) (meth := k12m7) (c := k12c7) (by decide +kernel) rfl rfl rfl (by decide +kernel)
set_option maxRecDepth 65536 in
theorem w_c27 : (Jvm.Cond.code ({ cls := "java/lang/StringBuilder", name := "length", desc := "()I" } : Jvm.MethodName) jdk_67_method_93_code (1 : Nat) (Option.some Jvm.ClassFile.FieldType.int)).before args0 about1 = true := code_word (m := ⟨13, 4⟩) (meth := k13m4) (c := k13c4) (by decide +kernel) rfl rfl rfl (by decide +kernel)
set_option maxRecDepth 65536 in
theorem w_c28 : (Jvm.Cond.code ({ cls := "java/lang/AbstractStringBuilder", name := "length", desc := "()I" } : Jvm.MethodName) jdk_68_method_6_code (1 : Nat) (Option.some Jvm.ClassFile.FieldType.int)).before args0 about1 = true := code_word (m := ⟨12, 2⟩) (meth := k12m2) (c := k12c2) (by decide +kernel) rfl rfl rfl (by decide +kernel)
set_option maxRecDepth 65536 in
theorem w_c29 : (Jvm.Cond.code ({ cls := "java/util/Arrays", name := "copyOfRange", desc := "([BII)[B" } : Jvm.MethodName) jdk_65_method_132_code (3 : Nat) (Option.some (Jvm.ClassFile.FieldType.array Jvm.ClassFile.FieldType.byte))).before args0 about1 = true := code_word (m := ⟨18, 3⟩) (meth := k18m3) (c := k18c3) (by decide +kernel) rfl rfl rfl (by decide +kernel)
set_option maxRecDepth 65536 in
theorem w_c30 : (Jvm.Cond.code ({ cls := "java/util/Arrays", name := "copyOfRangeByte", desc := "([BII)[B" } : Jvm.MethodName) jdk_65_method_133_code (5 : Nat) (Option.some (Jvm.ClassFile.FieldType.array Jvm.ClassFile.FieldType.byte))).before args0 about1 = true := code_word (m := ⟨18, 4⟩) (meth := k18m4) (c := k18c4) (by decide +kernel) rfl rfl rfl (by decide +kernel)
set_option maxRecDepth 65536 in
theorem w_c31 : (Jvm.Cond.code ({ cls := "java/util/Arrays", name := "checkLength", desc := "(II)V" } : Jvm.MethodName) jdk_65_method_131_code (2 : Nat) (Option.none : Option Jvm.ClassFile.FieldType)).before args0 about1 = true := code_word (m := ⟨18, 2⟩) (meth := k18m2) (c := k18c2) (by decide +kernel) rfl rfl rfl (by decide +kernel)
set_option maxRecDepth 65536 in
theorem w_c32 : (Jvm.Cond.code ({ cls := "com/example/tollplan/tollplan/CommandException", name := "<init>", desc := "(Lcom/example/tollplan/tollplan/CommandException$Kind;Ljava/lang/String;)V" } : Jvm.MethodName) prog_4_method_1_code (3 : Nat) (Option.none : Option Jvm.ClassFile.FieldType)).before args0 about1 = true := code_word (m := ⟨5, 0⟩) (meth := k5m0) (c := k5c0) (by decide +kernel) rfl rfl rfl (by decide +kernel)
set_option maxRecDepth 65536 in
theorem w_c33 : (Jvm.Cond.code ({ cls := "java/lang/Exception", name := "<init>", desc := "(Ljava/lang/String;)V" } : Jvm.MethodName) jdk_59_method_2_code (2 : Nat) (Option.none : Option Jvm.ClassFile.FieldType)).before args0 about1 = true := code_word (m := ⟨4, 1⟩) (meth := k4m1) (c := k4c1) (by decide +kernel) rfl rfl rfl (by decide +kernel)
set_option maxRecDepth 65536 in
theorem w_c34 : (Jvm.Cond.code ({ cls := "java/lang/Throwable", name := "<init>", desc := "(Ljava/lang/String;)V" } : Jvm.MethodName) jdk_78_method_2_code (2 : Nat) (Option.none : Option Jvm.ClassFile.FieldType)).before args0 about1 = true := code_word (m := ⟨3, 1⟩) (meth := k3m1) (c := k3c1) (by decide +kernel) rfl rfl rfl (by decide +kernel)
set_option maxRecDepth 65536 in
theorem w_c35 : (Jvm.Cond.code ({ cls := "java/lang/Throwable", name := "<init>", desc := "()V" } : Jvm.MethodName) jdk_78_method_1_code (1 : Nat) (Option.none : Option Jvm.ClassFile.FieldType)).before args0 about1 = true := code_word (m := ⟨3, 0⟩) (meth := k3m0) (c := k3c0) (by decide +kernel) rfl rfl rfl (by decide +kernel)
set_option maxRecDepth 65536 in
theorem w_c36 : (Jvm.Cond.code ({ cls := "com/example/tollplan/tollplan/CommandException", name := "kind", desc := "()Lcom/example/tollplan/tollplan/CommandException$Kind;" } : Jvm.MethodName) prog_4_method_3_code (1 : Nat) (Option.some (Jvm.ClassFile.FieldType.object "com/example/tollplan/tollplan/CommandException$Kind"))).before args0 about1 = true := code_word (m := ⟨5, 1⟩) (meth := k5m1) (c := k5c1) (by decide +kernel) rfl rfl rfl (by decide +kernel)
set_option maxRecDepth 65536 in
theorem w_c37 : (Jvm.Cond.code ({ cls := "java/lang/Throwable", name := "getMessage", desc := "()Ljava/lang/String;" } : Jvm.MethodName) jdk_78_method_6_code (1 : Nat) (Option.some (Jvm.ClassFile.FieldType.object "java/lang/String"))).before args0 about1 = true := code_word (m := ⟨3, 2⟩) (meth := k3m2) (c := k3c2) (by decide +kernel) rfl rfl rfl (by decide +kernel)
set_option maxRecDepth 65536 in
theorem w_c38 : (Jvm.Cond.code ({ cls := "com/example/tollplan/tollplan/CommandExceptionOutOfMemoryPinLaw", name := "digits", desc := "(J)I" } : Jvm.MethodName) method_2_code (2 : Nat) (Option.some Jvm.ClassFile.FieldType.int)).before args0 about1 = true := code_word (m := ⟨1, 1⟩) (meth := k1m1) (c := k1c1) (by decide +kernel) rfl rfl rfl (by decide +kernel)
set_option maxRecDepth 65536 in
theorem w_c39 : (Jvm.Cond.code ({ cls := "java/lang/String", name := "charAt", desc := "(I)C" } : Jvm.MethodName) jdk_42_method_56_code (2 : Nat) (Option.some Jvm.ClassFile.FieldType.char)).before args0 about1 = true := code_word (m := ⟨15, 3⟩) (meth := k15m3) (c := k15c3) (by decide +kernel) rfl rfl rfl (by decide +kernel)
set_option maxRecDepth 65536 in
theorem w_c40 : (Jvm.Cond.code ({ cls := "java/lang/String", name := "isLatin1", desc := "()Z" } : Jvm.MethodName) jdk_42_method_154_code (1 : Nat) (Option.some Jvm.ClassFile.FieldType.boolean)).before args0 about1 = true := code_word (m := ⟨15, 8⟩) (meth := k15m8) (c := k15c8) (by decide +kernel) rfl rfl rfl (by decide +kernel)
set_option maxRecDepth 65536 in
theorem w_c41 : (Jvm.Cond.code ({ cls := "java/lang/StringLatin1", name := "charAt", desc := "([BI)C" } : Jvm.MethodName) jdk_43_method_2_code (2 : Nat) (Option.some Jvm.ClassFile.FieldType.char)).before args0 about1 = true := code_word (m := ⟨23, 1⟩) (meth := k23m1) (c := k23c1) (by decide +kernel) rfl rfl rfl (by decide +kernel)
set_option maxRecDepth 65536 in
theorem w_c42 : (Jvm.Cond.code ({ cls := "java/lang/String", name := "checkIndex", desc := "(II)V" } : Jvm.MethodName) jdk_42_method_155_code (2 : Nat) (Option.none : Option Jvm.ClassFile.FieldType)).before args0 about1 = true := code_word (m := ⟨15, 9⟩) (meth := k15m9) (c := k15c9) (by decide +kernel) rfl rfl rfl (by decide +kernel)
set_option maxRecDepth 65536 in
theorem w_c43 : (Jvm.Cond.code ({ cls := "jdk/internal/util/Preconditions", name := "checkIndex", desc := "(IILjava/util/function/BiFunction;)I" } : Jvm.MethodName) jdk_41_method_11_code (3 : Nat) (Option.some Jvm.ClassFile.FieldType.int)).before args0 about1 = true := code_word (m := ⟨24, 1⟩) (meth := k24m1) (c := k24c1) (by decide +kernel) rfl rfl rfl (by decide +kernel)
set_option maxRecDepth 65536 in
theorem w_c44 : (Jvm.Cond.code ({ cls := "java/lang/String", name := "equals", desc := "(Ljava/lang/Object;)Z" } : Jvm.MethodName) jdk_42_method_66_code (3 : Nat) (Option.some Jvm.ClassFile.FieldType.boolean)).before args0 about1 = true := code_word (m := ⟨15, 4⟩) (meth := k15m4) (c := k15c4) (by decide +kernel) rfl rfl rfl (by decide +kernel)
set_option maxRecDepth 65536 in
theorem w_c45 : (Jvm.Cond.code ({ cls := "java/lang/StringLatin1", name := "equals", desc := "([B[B)Z" } : Jvm.MethodName) jdk_43_method_13_code (3 : Nat) (Option.some Jvm.ClassFile.FieldType.boolean)).before args0 about1 = true := code_word (m := ⟨23, 2⟩) (meth := k23m2) (c := k23c2) (by decide +kernel) rfl rfl rfl (by decide +kernel)
def codes1 : List Jvm.Cond := [Jvm.Cond.code x code maxLocals ret, Jvm.Cond.code ({ cls := "com/example/tollplan/tollplan/CommandException", name := "outOfMemory", desc := "(J)Lcom/example/tollplan/tollplan/CommandException;" } : Jvm.MethodName) prog_4_method_7_code (2 : Nat) (Option.some (Jvm.ClassFile.FieldType.object "com/example/tollplan/tollplan/CommandException")), Jvm.Cond.code ({ cls := "java/lang/StringBuilder", name := "<init>", desc := "()V" } : Jvm.MethodName) jdk_67_method_1_code (1 : Nat) (Option.none : Option Jvm.ClassFile.FieldType), Jvm.Cond.code ({ cls := "java/lang/AbstractStringBuilder", name := "<init>", desc := "(I)V" } : Jvm.MethodName) jdk_68_method_2_code (2 : Nat) (Option.none : Option Jvm.ClassFile.FieldType), Jvm.Cond.code ({ cls := "java/lang/Object", name := "<init>", desc := "()V" } : Jvm.MethodName) object_method_1_code (1 : Nat) (Option.none : Option Jvm.ClassFile.FieldType), Jvm.Cond.code ({ cls := "java/lang/StringBuilder", name := "append", desc := "(Ljava/lang/String;)Ljava/lang/StringBuilder;" } : Jvm.MethodName) jdk_67_method_7_code (2 : Nat) (Option.some (Jvm.ClassFile.FieldType.object "java/lang/StringBuilder")), Jvm.Cond.code ({ cls := "java/lang/AbstractStringBuilder", name := "append", desc := "(Ljava/lang/String;)Ljava/lang/AbstractStringBuilder;" } : Jvm.MethodName) jdk_68_method_22_code (3 : Nat) (Option.some (Jvm.ClassFile.FieldType.object "java/lang/AbstractStringBuilder")), Jvm.Cond.code ({ cls := "java/lang/String", name := "length", desc := "()I" } : Jvm.MethodName) jdk_42_method_54_code (1 : Nat) (Option.some Jvm.ClassFile.FieldType.int), Jvm.Cond.code ({ cls := "java/lang/String", name := "coder", desc := "()B" } : Jvm.MethodName) jdk_42_method_152_code (1 : Nat) (Option.some Jvm.ClassFile.FieldType.byte), Jvm.Cond.code ({ cls := "java/lang/AbstractStringBuilder", name := "ensureCapacityInternal", desc := "(I)V" } : Jvm.MethodName) jdk_68_method_9_code (3 : Nat) (Option.none : Option Jvm.ClassFile.FieldType), Jvm.Cond.code ({ cls := "java/lang/AbstractStringBuilder", name := "newCapacity", desc := "(I)I" } : Jvm.MethodName) jdk_68_method_10_code (6 : Nat) (Option.some Jvm.ClassFile.FieldType.int), Jvm.Cond.code ({ cls := "jdk/internal/util/ArraysSupport", name := "newLength", desc := "(III)I" } : Jvm.MethodName) jdk_48_method_27_code (4 : Nat) (Option.some Jvm.ClassFile.FieldType.int), Jvm.Cond.code ({ cls := "java/lang/Math", name := "max", desc := "(II)I" } : Jvm.MethodName) jdk_29_method_65_code (2 : Nat) (Option.some Jvm.ClassFile.FieldType.int), Jvm.Cond.code ({ cls := "java/util/Arrays", name := "copyOf", desc := "([BI)[B" } : Jvm.MethodName) jdk_65_method_121_code (3 : Nat) (Option.some (Jvm.ClassFile.FieldType.array Jvm.ClassFile.FieldType.byte)), Jvm.Cond.code ({ cls := "java/lang/Math", name := "min", desc := "(II)I" } : Jvm.MethodName) jdk_29_method_69_code (2 : Nat) (Option.some Jvm.ClassFile.FieldType.int), Jvm.Cond.code ({ cls := "java/lang/AbstractStringBuilder", name := "putStringAt", desc := "(ILjava/lang/String;)V" } : Jvm.MethodName) jdk_68_method_73_code (3 : Nat) (Option.none : Option Jvm.ClassFile.FieldType), Jvm.Cond.code ({ cls := "java/lang/AbstractStringBuilder", name := "inflateIfNeededFor", desc := "(Ljava/lang/String;)V" } : Jvm.MethodName) jdk_68_method_71_code (2 : Nat) (Option.none : Option Jvm.ClassFile.FieldType), Jvm.Cond.code ({ cls := "java/lang/String", name := "getBytes", desc := "([BIB)V" } : Jvm.MethodName) jdk_42_method_147_code (4 : Nat) (Option.none : Option Jvm.ClassFile.FieldType), Jvm.Cond.code ({ cls := "java/lang/StringBuilder", name := "append", desc := "(J)Ljava/lang/StringBuilder;" } : Jvm.MethodName) jdk_67_method_16_code (3 : Nat) (Option.some (Jvm.ClassFile.FieldType.object "java/lang/StringBuilder")), Jvm.Cond.code ({ cls := "java/lang/AbstractStringBuilder", name := "append", desc := "(J)Ljava/lang/AbstractStringBuilder;" } : Jvm.MethodName) jdk_68_method_33_code (5 : Nat) (Option.some (Jvm.ClassFile.FieldType.object "java/lang/AbstractStringBuilder")), Jvm.Cond.code ({ cls := "java/lang/Long", name := "stringSize", desc := "(J)I" } : Jvm.MethodName) jdk_35_method_15_code (6 : Nat) (Option.some Jvm.ClassFile.FieldType.int), Jvm.Cond.code ({ cls := "java/lang/AbstractStringBuilder", name := "isLatin1", desc := "()Z" } : Jvm.MethodName) jdk_68_method_68_code (1 : Nat) (Option.some Jvm.ClassFile.FieldType.boolean), Jvm.Cond.code ({ cls := "java/lang/Long", name := "getChars", desc := "(JI[B)I" } : Jvm.MethodName) jdk_35_method_14_code (11 : Nat) (Option.some Jvm.ClassFile.FieldType.int), Jvm.Cond.code ({ cls := "java/lang/StringBuilder", name := "toString", desc := "()Ljava/lang/String;" } : Jvm.MethodName) jdk_67_method_42_code (1 : Nat) (Option.some (Jvm.ClassFile.FieldType.object "java/lang/String")), Jvm.Cond.code ({ cls := "java/lang/String", name := "<init>", desc := "(Ljava/lang/StringBuilder;)V" } : Jvm.MethodName) jdk_42_method_53_code (2 : Nat) (Option.none : Option Jvm.ClassFile.FieldType), Jvm.Cond.code ({ cls := "java/lang/String", name := "<init>", desc := "(Ljava/lang/AbstractStringBuilder;Ljava/lang/Void;)V" } : Jvm.MethodName) jdk_42_method_150_code (5 : Nat) (Option.none : Option Jvm.ClassFile.FieldType), Jvm.Cond.code ({ cls := "java/lang/AbstractStringBuilder", name := "getValue", desc := "()[B" } : Jvm.MethodName) jdk_68_method_64_code (1 : Nat) (Option.some (Jvm.ClassFile.FieldType.array Jvm.ClassFile.FieldType.byte)), Jvm.Cond.code ({ cls := "java/lang/StringBuilder", name := "length", desc := "()I" } : Jvm.MethodName) jdk_67_method_93_code (1 : Nat) (Option.some Jvm.ClassFile.FieldType.int), Jvm.Cond.code ({ cls := "java/lang/AbstractStringBuilder", name := "length", desc := "()I" } : Jvm.MethodName) jdk_68_method_6_code (1 : Nat) (Option.some Jvm.ClassFile.FieldType.int), Jvm.Cond.code ({ cls := "java/util/Arrays", name := "copyOfRange", desc := "([BII)[B" } : Jvm.MethodName) jdk_65_method_132_code (3 : Nat) (Option.some (Jvm.ClassFile.FieldType.array Jvm.ClassFile.FieldType.byte)), Jvm.Cond.code ({ cls := "java/util/Arrays", name := "copyOfRangeByte", desc := "([BII)[B" } : Jvm.MethodName) jdk_65_method_133_code (5 : Nat) (Option.some (Jvm.ClassFile.FieldType.array Jvm.ClassFile.FieldType.byte)), Jvm.Cond.code ({ cls := "java/util/Arrays", name := "checkLength", desc := "(II)V" } : Jvm.MethodName) jdk_65_method_131_code (2 : Nat) (Option.none : Option Jvm.ClassFile.FieldType), Jvm.Cond.code ({ cls := "com/example/tollplan/tollplan/CommandException", name := "<init>", desc := "(Lcom/example/tollplan/tollplan/CommandException$Kind;Ljava/lang/String;)V" } : Jvm.MethodName) prog_4_method_1_code (3 : Nat) (Option.none : Option Jvm.ClassFile.FieldType), Jvm.Cond.code ({ cls := "java/lang/Exception", name := "<init>", desc := "(Ljava/lang/String;)V" } : Jvm.MethodName) jdk_59_method_2_code (2 : Nat) (Option.none : Option Jvm.ClassFile.FieldType), Jvm.Cond.code ({ cls := "java/lang/Throwable", name := "<init>", desc := "(Ljava/lang/String;)V" } : Jvm.MethodName) jdk_78_method_2_code (2 : Nat) (Option.none : Option Jvm.ClassFile.FieldType), Jvm.Cond.code ({ cls := "java/lang/Throwable", name := "<init>", desc := "()V" } : Jvm.MethodName) jdk_78_method_1_code (1 : Nat) (Option.none : Option Jvm.ClassFile.FieldType), Jvm.Cond.code ({ cls := "com/example/tollplan/tollplan/CommandException", name := "kind", desc := "()Lcom/example/tollplan/tollplan/CommandException$Kind;" } : Jvm.MethodName) prog_4_method_3_code (1 : Nat) (Option.some (Jvm.ClassFile.FieldType.object "com/example/tollplan/tollplan/CommandException$Kind")), Jvm.Cond.code ({ cls := "java/lang/Throwable", name := "getMessage", desc := "()Ljava/lang/String;" } : Jvm.MethodName) jdk_78_method_6_code (1 : Nat) (Option.some (Jvm.ClassFile.FieldType.object "java/lang/String")), Jvm.Cond.code ({ cls := "com/example/tollplan/tollplan/CommandExceptionOutOfMemoryPinLaw", name := "digits", desc := "(J)I" } : Jvm.MethodName) method_2_code (2 : Nat) (Option.some Jvm.ClassFile.FieldType.int), Jvm.Cond.code ({ cls := "java/lang/String", name := "charAt", desc := "(I)C" } : Jvm.MethodName) jdk_42_method_56_code (2 : Nat) (Option.some Jvm.ClassFile.FieldType.char), Jvm.Cond.code ({ cls := "java/lang/String", name := "isLatin1", desc := "()Z" } : Jvm.MethodName) jdk_42_method_154_code (1 : Nat) (Option.some Jvm.ClassFile.FieldType.boolean), Jvm.Cond.code ({ cls := "java/lang/StringLatin1", name := "charAt", desc := "([BI)C" } : Jvm.MethodName) jdk_43_method_2_code (2 : Nat) (Option.some Jvm.ClassFile.FieldType.char), Jvm.Cond.code ({ cls := "java/lang/String", name := "checkIndex", desc := "(II)V" } : Jvm.MethodName) jdk_42_method_155_code (2 : Nat) (Option.none : Option Jvm.ClassFile.FieldType), Jvm.Cond.code ({ cls := "jdk/internal/util/Preconditions", name := "checkIndex", desc := "(IILjava/util/function/BiFunction;)I" } : Jvm.MethodName) jdk_41_method_11_code (3 : Nat) (Option.some Jvm.ClassFile.FieldType.int), Jvm.Cond.code ({ cls := "java/lang/String", name := "equals", desc := "(Ljava/lang/Object;)Z" } : Jvm.MethodName) jdk_42_method_66_code (3 : Nat) (Option.some Jvm.ClassFile.FieldType.boolean), Jvm.Cond.code ({ cls := "java/lang/StringLatin1", name := "equals", desc := "([B[B)Z" } : Jvm.MethodName) jdk_43_method_13_code (3 : Nat) (Option.some Jvm.ClassFile.FieldType.boolean)]
set_option maxRecDepth 65536 in
theorem codes_eq : words1.filter isCode = codes1 := rfl
theorem w_codes : ∀ c ∈ words1.filter isCode, c.before args0 about1 = true := by
  rw [codes_eq]
  intro c hc
  simp only [codes1, List.mem_cons, List.not_mem_nil, or_false] at hc
  rcases hc with rfl | rfl | rfl | rfl | rfl | rfl | rfl | rfl | rfl | rfl | rfl | rfl | rfl | rfl | rfl | rfl | rfl | rfl | rfl | rfl | rfl | rfl | rfl | rfl | rfl | rfl | rfl | rfl | rfl | rfl | rfl | rfl | rfl | rfl | rfl | rfl | rfl | rfl | rfl | rfl | rfl | rfl | rfl | rfl | rfl | rfl
  · exact w_c0
  · exact w_c1
  · exact w_c2
  · exact w_c3
  · exact w_c4
  · exact w_c5
  · exact w_c6
  · exact w_c7
  · exact w_c8
  · exact w_c9
  · exact w_c10
  · exact w_c11
  · exact w_c12
  · exact w_c13
  · exact w_c14
  · exact w_c15
  · exact w_c16
  · exact w_c17
  · exact w_c18
  · exact w_c19
  · exact w_c20
  · exact w_c21
  · exact w_c22
  · exact w_c23
  · exact w_c24
  · exact w_c25
  · exact w_c26
  · exact w_c27
  · exact w_c28
  · exact w_c29
  · exact w_c30
  · exact w_c31
  · exact w_c32
  · exact w_c33
  · exact w_c34
  · exact w_c35
  · exact w_c36
  · exact w_c37
  · exact w_c38
  · exact w_c39
  · exact w_c40
  · exact w_c41
  · exact w_c42
  · exact w_c43
  · exact w_c44
  · exact w_c45
set_option maxRecDepth 65536 in
theorem w_t1 : (words1.take 24).all (fun c => isCode c || c.before args0 about1) = true := by decide +kernel
set_option maxRecDepth 65536 in
theorem w_t2 : ((words1.drop 24).take 24).all (fun c => isCode c || c.before args0 about1) = true := by decide +kernel
set_option maxRecDepth 65536 in
theorem w_t3 : (((words1.drop 24).drop 24).take 24).all (fun c => isCode c || c.before args0 about1) = true := by decide +kernel
set_option maxRecDepth 65536 in
theorem w_t4 : ((((words1.drop 24).drop 24).drop 24).take 24).all (fun c => isCode c || c.before args0 about1) = true := by decide +kernel
set_option maxRecDepth 65536 in
theorem w_t5 : (((((words1.drop 24).drop 24).drop 24).drop 24).take 24).all (fun c => isCode c || c.before args0 about1) = true := by decide +kernel
set_option maxRecDepth 65536 in
theorem w_t6 : ((((((words1.drop 24).drop 24).drop 24).drop 24).drop 24).take 24).all (fun c => isCode c || c.before args0 about1) = true := by decide +kernel
set_option maxRecDepth 65536 in
theorem w_t7 : (((((((words1.drop 24).drop 24).drop 24).drop 24).drop 24).drop 24).take 24).all (fun c => isCode c || c.before args0 about1) = true := by decide +kernel
set_option maxRecDepth 65536 in
theorem w_t8 : ((((((((words1.drop 24).drop 24).drop 24).drop 24).drop 24).drop 24).drop 24).take 24).all (fun c => isCode c || c.before args0 about1) = true := by decide +kernel
set_option maxRecDepth 65536 in
theorem w_t9 : (((((((((words1.drop 24).drop 24).drop 24).drop 24).drop 24).drop 24).drop 24).drop 24).take 24).all (fun c => isCode c || c.before args0 about1) = true := by decide +kernel
set_option maxRecDepth 65536 in
theorem w_t10 : ((((((((((words1.drop 24).drop 24).drop 24).drop 24).drop 24).drop 24).drop 24).drop 24).drop 24).take 24).all (fun c => isCode c || c.before args0 about1) = true := by decide +kernel
set_option maxRecDepth 65536 in
theorem w_t11 : (((((((((((words1.drop 24).drop 24).drop 24).drop 24).drop 24).drop 24).drop 24).drop 24).drop 24).drop 24).take 24).all (fun c => isCode c || c.before args0 about1) = true := by decide +kernel
set_option maxRecDepth 65536 in
theorem w_t12 : ((((((((((((words1.drop 24).drop 24).drop 24).drop 24).drop 24).drop 24).drop 24).drop 24).drop 24).drop 24).drop 24).take 24).all (fun c => isCode c || c.before args0 about1) = true := by decide +kernel
set_option maxRecDepth 65536 in
theorem w_t13 : (((((((((((((words1.drop 24).drop 24).drop 24).drop 24).drop 24).drop 24).drop 24).drop 24).drop 24).drop 24).drop 24).drop 24).take 24).all (fun c => isCode c || c.before args0 about1) = true := by decide +kernel
set_option maxRecDepth 65536 in
theorem w_t14 : (((((((((((((words1.drop 24).drop 24).drop 24).drop 24).drop 24).drop 24).drop 24).drop 24).drop 24).drop 24).drop 24).drop 24).drop 24).all (fun c => isCode c || c.before args0 about1) = true := by decide +kernel
theorem w_tables : (allAtoms (Jvm.Cond.code x code maxLocals ret :: tables_1)).before args0 about1 = true := by
  rw [allAtoms_all]
  show words1.all (fun c => c.before args0 about1) = true
  refine all_split ?_ w_codes
  rw [← List.take_append_drop 24 words1, List.all_append, w_t1, ← List.take_append_drop 24 (words1.drop 24), List.all_append, w_t2, ← List.take_append_drop 24 ((words1.drop 24).drop 24), List.all_append, w_t3, ← List.take_append_drop 24 (((words1.drop 24).drop 24).drop 24), List.all_append, w_t4, ← List.take_append_drop 24 ((((words1.drop 24).drop 24).drop 24).drop 24), List.all_append, w_t5, ← List.take_append_drop 24 (((((words1.drop 24).drop 24).drop 24).drop 24).drop 24), List.all_append, w_t6, ← List.take_append_drop 24 ((((((words1.drop 24).drop 24).drop 24).drop 24).drop 24).drop 24), List.all_append, w_t7, ← List.take_append_drop 24 (((((((words1.drop 24).drop 24).drop 24).drop 24).drop 24).drop 24).drop 24), List.all_append, w_t8, ← List.take_append_drop 24 ((((((((words1.drop 24).drop 24).drop 24).drop 24).drop 24).drop 24).drop 24).drop 24), List.all_append, w_t9, ← List.take_append_drop 24 (((((((((words1.drop 24).drop 24).drop 24).drop 24).drop 24).drop 24).drop 24).drop 24).drop 24), List.all_append, w_t10, ← List.take_append_drop 24 ((((((((((words1.drop 24).drop 24).drop 24).drop 24).drop 24).drop 24).drop 24).drop 24).drop 24).drop 24), List.all_append, w_t11, ← List.take_append_drop 24 (((((((((((words1.drop 24).drop 24).drop 24).drop 24).drop 24).drop 24).drop 24).drop 24).drop 24).drop 24).drop 24), List.all_append, w_t12, ← List.take_append_drop 24 ((((((((((((words1.drop 24).drop 24).drop 24).drop 24).drop 24).drop 24).drop 24).drop 24).drop 24).drop 24).drop 24).drop 24), List.all_append, w_t13, w_t14]
  rfl
set_option maxRecDepth 65536 in
theorem w_rest : rest_1_c.before args0 about1 = true := by decide +kernel
set_option maxRecDepth 65536 in
theorem w_case : (Jvm.Cond.and given_1 narrow_1).before args0 about1 = true := by decide +kernel
set_option maxRecDepth 65536 in
theorem w_consts : constsHeld consts_1 about1 := Jvm.Lit.constsHeldB_iff.mp (by decide +kernel)
theorem w_applies : (headSpec (Jvm.Cond.code x code maxLocals ret :: tables_1) room_1).applies x e0.platform about1 = true :=
  (Spec.applies_iff w_frames).mpr ⟨w_running, w_runnable, w_alone, w_named, w_hears, w_ripe, w_room, w_tables⟩
theorem atStart : AtStart classFile x code maxLocals ret World_1 tables_1 room_1 Calls_1 rest_1 Pre_1 launch0 p0 e0 about1 theMethod args0 below0 :=
  ⟨lists_1, trivial, launch0.admits_env _ _ _, launch0.least_env, fairChoices_fair.cas, fairChoices_fair.clock, w_frames, w_args, w_heap, w_applies, ⟨(by decide +kernel : framesKnown about1 = true), ⟨(by decide +kernel : tablesKnown about1 = true), ⟨w_consts, trivial⟩⟩⟩, w_rest, w_case⟩
end start1
theorem witness_1 : WitnessClaimed_1 := ⟨start1.p0, start1.e0, start1.about1, start1.theMethod, start1.args0, start1.below0, start1.atStart⟩
end Jvm.Pilot.@@N@@
