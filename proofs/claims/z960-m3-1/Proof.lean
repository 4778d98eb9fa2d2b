import JvmDerived
import JvmDerived.Pilot.@@N@@Statement
import JvmDerived.Pilot.@@N@@Code
set_option linter.unusedVariables false
set_option linter.unusedSimpArgs false
namespace Jvm.RoadKit
open Sem ClassFile Op Lib Jvm.Stand Jvm.Free Jvm.LawKit
section New
variable {p : Program} {l : Launch} {e : Env} {R : Room} {s : State} {m : MethodId} {args : Array Value} {below : List Frame} {meth : Method} {c : Code} {T : State} {locs : List Loc} {cells slots : Nat}
theorem retI (X : Stand p l e R s m args below meth c T locs cells slots) (hx : p.tables.exec = Jvm.exec) {pc : Nat} {Ls : Array Slot} {z : Int32} {rest : List Value} (hret : meth.sig.returnType = some .int) (hd : decode c.code pc = .ok (.ireturn, 1)) {fs : List Frame}
    (hl : ∀ (f : JFrame) (acts : List Action), f.method = m → f.locked = none → f.entered = [] → (doReturn e (T.setTop f) acts (some (.int z))).1 = T.setFrames fs) : Steps p.tables e below (T.setTop (mkF m pc Ls (.int z :: rest))) (T.setFrames fs) := by
  have hm' : T.vm.method? m = some meth := X.method'
  have hn : narrow .int (.int z) = .int z := rfl
  show Steps p.tables e below (T.setTop { method := m, pc := pc, locals := Ls, stack := _ :: rest, locked := none }) _
  jvm_step X.here [X.here.top, hx, hd, hm', hret, hn]
  first | (intro acts; rw [hl _ acts rfl rfl rfl]) | rw [hl _ _ rfl rfl rfl]
  exact Steps.refl _
end New
end Jvm.RoadKit
namespace Jvm.Pilot.@@N@@
open Jvm Jvm.ClassFile Sem Op Lib Jvm.Free Jvm.Stand Jvm.LawKit Jvm.RoadKit Bundle Jvm.Pilot.@@N@@.Jvm.D
theorem own_mod (x d : Int32) (D : Int) (hd : d.toInt = D) (h : 0 < D) : 0 ≤ ((x &&& (2147483647 : Int32)) % d).toInt ∧ ((x &&& (2147483647 : Int32)) % d).toInt < D := by
  have h1 := (c_and x 2147483647 (by decide)).1
  have h2 := (c_irem (x &&& 2147483647) d D hd).1 h1
  rw [h2]; exact ⟨Int.emod_nonneg _ (by omega), Int.emod_lt_of_pos _ h⟩
theorem own_nat {k : Int32} (h : 0 ≤ k.toInt) : k = Int32.ofNat k.toNatClampNeg := by
  apply Int32.toInt_inj.mp
  have e : (k.toNatClampNeg : Int) = k.toInt := by simp only [Int32.toNatClampNeg]; omega
  have b : k.toInt < 2147483648 := by have := k.toInt_lt; omega
  rw [Int32.toInt_ofNat_of_lt (by omega)]; omega
theorem own_clamp {k : Int32} (h : 0 ≤ k.toInt) {n : Nat} (hn : k.toInt < n) : k.toNatClampNeg < n := by
  simp only [Int32.toNatClampNeg]; omega
theorem own_clamp_of {j : Nat} (h : j < 2147483648) : (Int32.ofNat j).toNatClampNeg = j := by
  have e : (Int32.ofNat j).toInt = j := Int32.toInt_ofNat_of_lt h
  simp only [Int32.toNatClampNeg, e]; omega
theorem own_nei {x k : Int32} {z : Int} (h : ¬ x = k) (hk : k.toInt = z) : x.toInt ≠ z := fun e => h (Int32.toInt_inj.mp (e.trans hk.symm))
theorem own_eqi {x k : Int32} {z : Int} (h : x.toInt = z) (hk : k.toInt = z) : x = k := Int32.toInt_inj.mp (h.trans hk.symm)
theorem own_sta_keep {Z : State} {h h' : Heap} {C n d : String} {v : Value} {ws : List Addr} (F : Sta Z h C n d v) (K : Keep h h' ws) (q : ∀ a ∈ ws, ∃ c : Cell, h[a]? = some c ∧ c.vm.isStatics = false) : Sta Z h' C n d v := by
  obtain ⟨cf, i, k, f, st, cell, h1, h2, h3, h4, h5, h6, h7⟩ := F
  refine ⟨cf, i, k, f, st, cell, h1, h2, h3, h4, K.2.1 st cell h5 (fun hm => ?_), h6, h7⟩
  obtain ⟨c, e1, e2⟩ := q st hm
  cases h5.symm.trans e1
  rw [e2] at h6; cases h6
theorem own_arr_keep {Z : State} {h h' : Heap} {a : Addr} {c : Cell} {ty : FieldType} {ws : List Addr} (A : Arr Z h a c ty) (K : Keep h h' ws) (q : a ∉ ws) : Arr Z h' a c ty := ⟨K.2.1 a c A.1 q, A.2⟩
theorem own_unt_ext {h h' : Heap} {a : Addr} (E : Ext h h') (U : Unt h a) : Unt h' a := by
  obtain ⟨c, h1, r⟩ := U; exact ⟨c, E.2 _ _ h1, r⟩
theorem own_nst {h : Heap} {ws : List Addr} (q : ∀ a ∈ ws, ∃ c : Cell, h[a]? = some c ∧ c.vm.isStatics = false) : ∀ x ∈ ws, ∀ cell : Cell, h[x]? = some cell → cell.vm.isStatics = false := fun x hx cell hc => by
  obtain ⟨c, e1, e2⟩ := q x hx; cases e1.symm.trans hc; exact e2
theorem own_ns {Z : State} {h : Heap} {C : String} {a : Addr} (E : Exa Z h a C) : ∃ c : Cell, h[a]? = some c ∧ c.vm.isStatics = false := by
  obtain ⟨c, k, h1, -, -, h4, -⟩ := E
  exact ⟨c, h1, h4⟩
def QL (n0 : Nat) (v : Option Value) (h : Heap) (L : List Loc) : Prop := v = some (.int (1 : Int32)) ∧ Fr n0 L
def QR (r : Value) (h0 : Heap) (n0 : Nat) (v : Option Value) (h : Heap) (L : List Loc) : Prop := v = some r ∧ Fr n0 L ∧ h = h0
theorem own_fldI {args : Array Value} {s : State} {t : Term} {C n d : String} {a : Addr} {k : Int32} (ht : t.eval args s none [] s = some (.ref a)) (h : (Jvm.Cond.eq (.field t C n d) (.int k)).value args s none s [] = some true) : Fld s s.heap a C n d (.int k) := by
  obtain ⟨u, w, e1, e2, k1, k2⟩ := cmp_v (Or.inl h)
  obtain rfl : w = .int k := (Option.some.inj (e2.symm.trans (Term.int_eval k)))
  obtain ⟨z, rfl⟩ := k2
  have hz : z = k := by simpa [Cond.value, e1, e2] using h
  subst hz
  rw [fld_at ht] at e1
  exact Fld.start e1
theorem own_fldR {args : Array Value} {s : State} {t u : Term} {C n d : String} {a b : Addr} (ht : t.eval args s none [] s = some (.ref a)) (hu : u.eval args s none [] s = some (.ref b)) (h : (Jvm.Cond.eq (.field t C n d) u).value args s none s [] = some true) : Fld s s.heap a C n d (.ref b) := by
  cases e1 : (Term.field t C n d).eval args s none [] s with
  | none => simp [Cond.value, e1] at h
  | some x =>
    have hx : x = .ref b := by
      cases x <;> simp [Cond.value, e1, hu] at h
      exact congrArg Value.ref h
    subst hx
    rw [fld_at ht] at e1
    exact Fld.start e1
/-- an array as a function: her class, length, components -/
def GA (Z : State) (h : Heap) (a : Addr) (k : ClassId) (ty : FieldType) (N : Nat) (vs : Nat → Value) : Prop := ∃ c : Cell, Arr Z h a c ty ∧ c.cls = k ∧ c.slots.size = N ∧ ∀ i, i < N → c.slots[i]? = some (vs i)
theorem GA.lt {Z : State} {h : Heap} {a : Addr} {k : ClassId} {ty : FieldType} {N : Nat} {vs : Nat → Value} (F : GA Z h a k ty N vs) : a < h.size := by obtain ⟨c, A, -⟩ := F; exact A.lt
theorem GA.ext {Z : State} {h h' : Heap} {a : Addr} {k : ClassId} {ty : FieldType} {N : Nat} {vs : Nat → Value} (F : GA Z h a k ty N vs) (E : Ext h h') : GA Z h' a k ty N vs := by obtain ⟨c, A, r⟩ := F; exact ⟨c, A.ext E, r⟩
theorem GA.other {Z : State} {h h' : Heap} {a b : Addr} {k : ClassId} {ty : FieldType} {N sl : Nat} {v : Value} {vs : Nat → Value} (F : GA Z h b k ty N vs) (W : Wr h h' a sl v) (q : b ≠ a) : GA Z h' b k ty N vs := by obtain ⟨c, A, r⟩ := F; exact ⟨c, A.other W q, r⟩
theorem GA.keep {Z : State} {h h' : Heap} {a : Addr} {k : ClassId} {ty : FieldType} {N : Nat} {vs : Nat → Value} {ws : List Addr} (F : GA Z h a k ty N vs) (K : Keep h h' ws) (q : a ∉ ws) : GA Z h' a k ty N vs := by obtain ⟨c, A, r⟩ := F; exact ⟨c, ⟨K.2.1 a c A.1 q, A.2⟩, r⟩
theorem GA.set {Z : State} {h h' : Heap} {a : Addr} {c : Cell} {k : ClassId} {ty : FieldType} {N j : Nat} {v : Value} {vs : Nat → Value} (A : Arr Z h a c ty) (q1 : c.cls = k) (S : c.slots.size = N) (H : ∀ i, i < N → c.slots[i]? = some (vs i)) (W : Wr h h' a j v) : GA Z h' a k ty N (fun i => if i = j then v else vs i) := by
  refine ⟨_, A.same W, q1, by rw [sz_set]; exact S, fun i hi => ?_⟩
  by_cases u : j = i
  · subst u; simp [Cell.setSlot, S, hi]
  · show _ = some (if i = j then v else vs i)
    rw [if_neg (fun q => u q.symm)]
    have := H i hi; simp only [Cell.setSlot]
    rw [Array.getElem?_setIfInBounds_ne u]; exact this
theorem GA.new {Z : State} {h : Heap} {a : Addr} {k : ClassId} {ty : FieldType} {z : Int32} {N : Nat} (A : Arr Z h a (newA k ty z) ty) (hz : z.toNatClampNeg = N) : GA Z h a k ty N (fun _ => defaultValue ty) :=
  ⟨_, A, rfl, by rw [sz_new]; exact hz, fun i hi => by rw [← hz] at hi; simp [newA, hi]⟩
theorem GA.eqv {Z : State} {h : Heap} {a : Addr} {k : ClassId} {ty : FieldType} {N : Nat} {vs ws : Nat → Value} (F : GA Z h a k ty N vs) (q : ∀ i, i < N → vs i = ws i) : GA Z h a k ty N ws := by
  obtain ⟨c, A, r1, r2, r3⟩ := F; exact ⟨c, A, r1, r2, fun i hi => by rw [r3 i hi, q i hi]⟩
theorem own_inb {c : Cell} {N i : Nat} (S : c.slots.size = N) (hi : i < N) (hN : N < 2147483648) : ¬ ((Int32.ofNat i) < 0 ∨ c.slots.size ≤ (Int32.ofNat i).toNatClampNeg) := by
  have e : (Int32.ofNat i).toInt = i := Int32.toInt_ofNat_of_lt (by omega)
  have e0 : (0 : Int32).toInt = 0 := rfl
  simp only [Int32.lt_iff_toInt_lt, Int32.toNatClampNeg, e, e0, S]; omega
theorem own_i32 {i : Nat} (h : i < 2147483648) : (Int32.ofNat i).toInt = i := Int32.toInt_ofNat_of_lt h
theorem own_i64 {i : Nat} (h : i < 9223372036854775808) : (Int64.ofNat i).toInt = i := Int64.toInt_ofNat_of_lt h
theorem own_cl {j : Nat} (h : j < 2147483648) : (Int32.ofNat j).toNatClampNeg = j := by
  simp only [Int32.toNatClampNeg, own_i32 h]; omega
theorem own_len {c : Cell} {N : Nat} (S : c.slots.size = N) : c.slots.size.toInt32 = Int32.ofNat N := by rw [S]
theorem own_ltI {i j : Nat} (hi : i < 2147483648) (hj : j < 2147483648) : (Int32.ofNat i < Int32.ofNat j) ↔ i < j := by
  rw [Int32.lt_iff_toInt_lt, own_i32 hi, own_i32 hj]; omega
theorem own_oneI (i : Nat) : Int32.ofNat i + (1 : Int32) = Int32.ofNat (i + 1) := (Int32.ofNat_add i 1).symm
theorem own_i2l {i : Nat} (h : i < 2147483648) : (Int32.ofNat i).toInt64 = Int64.ofNat i := by
  apply Int64.toInt_inj.mp; rw [Int32.toInt_toInt64, own_i32 h, own_i64 (by omega)]
theorem own_l2i {i : Nat} (h : i < 2147483648) : (Int64.ofNat i).toInt32 = Int32.ofNat i := by
  apply Int32.toInt_inj.mp
  rw [Int64.toInt_toInt32, own_i64 (by omega), own_i32 h]
  exact Int.bmod_eq_of_le (by omega) (by omega)
def QV (h0 : Heap) (n0 : Nat) (v : Option Value) (h : Heap) (L : List Loc) : Prop := v = none ∧ Fr n0 L ∧ h = h0
/-- a Latin-1 String: object s, its byte[] v of n bytes f -/
def SB (Z : State) (h : Heap) (s v : Addr) (k : ClassId) (n : Nat) (f : Nat → Int32) : Prop := Exa Z h s "java/lang/String" ∧ Fld Z h s "java/lang/String" "coder" "B" (.int (0 : Int32)) ∧ Fld Z h s "java/lang/String" "value" "[B" (.ref v) ∧ GA Z h v k .byte n (fun i => .int (f i))
theorem SB.ext {Z : State} {h h' : Heap} {s v : Addr} {k : ClassId} {n : Nat} {f : Nat → Int32} (S : SB Z h s v k n f) (E : Ext h h') : SB Z h' s v k n f := ⟨S.1.ext E, S.2.1.ext E, S.2.2.1.ext E, S.2.2.2.ext E⟩
theorem SB.keep {Z : State} {h h' : Heap} {s v : Addr} {k : ClassId} {n : Nat} {f : Nat → Int32} {ws : List Addr} (S : SB Z h s v k n f) (K : Keep h h' ws) (q1 : s ∉ ws) (q2 : v ∉ ws) : SB Z h' s v k n f := ⟨S.1.keep K, S.2.1.keep K q1, S.2.2.1.keep K q1, S.2.2.2.keep K q2⟩
theorem SB.wr {Z : State} {h h' : Heap} {s v a : Addr} {k : ClassId} {n sl : Nat} {f : Nat → Int32} {w : Value} (S : SB Z h s v k n f) (W : Wr h h' a sl w) (q1 : s ≠ a) (q2 : v ≠ a) : SB Z h' s v k n f := ⟨S.1.wr W, S.2.1.other W (Or.inl q1), S.2.2.1.other W (Or.inl q1), S.2.2.2.other W q2⟩
def Same (n n' : Nat) (f f' : Nat → Int32) : Prop := n = n' ∧ ∀ i, i < n → f i = f' i
theorem own_ext {h h' : Heap} (K : Keep h h' []) : Ext h h' := ⟨K.1, fun x c q => K.2.1 x c q nin0⟩
theorem GA.same {Z : State} {h : Heap} {a : Addr} {k k' : ClassId} {ty ty' : FieldType} {N N' : Nat} {vs vs' : Nat → Value} (A : GA Z h a k ty N vs) (B : GA Z h a k' ty' N' vs') : N = N' ∧ ∀ i, i < N → vs i = vs' i := by
  obtain ⟨c, A1, -, A3, A4⟩ := A
  obtain ⟨d, B1, -, B3, B4⟩ := B
  cases A1.1.symm.trans B1.1
  have e : N = N' := A3.symm.trans B3
  subst e
  exact ⟨rfl, fun i hi => Option.some.inj ((A4 i hi).symm.trans (B4 i hi))⟩
theorem Fld.same {Z : State} {h : Heap} {a : Addr} {C n d : String} {v v' : Value} (A : Fld Z h a C n d v) (B : Fld Z h a C n d v') : v = v' := by
  obtain ⟨c, cf, k, i, f, h1, h2, h3, h4, h5, h6, h7⟩ := A
  obtain ⟨c', cf', k', i', f', g1, g2, g3, g4, g5, g6, g7⟩ := B
  cases h1.symm.trans g1
  cases h2.symm.trans g2
  exact Option.some.inj (h7.symm.trans g7)
theorem SB.same {Z : State} {h : Heap} {s v v' : Addr} {k k' : ClassId} {n n' : Nat} {f f' : Nat → Int32} (A : SB Z h s v k n f) (B : SB Z h s v' k' n' f') : Same n n' f f' := by
  have e := Value.ref.inj (Fld.same A.2.2.1 B.2.2.1)
  subst e
  obtain ⟨h1, h2⟩ := GA.same A.2.2.2 B.2.2.2
  exact ⟨h1, fun i hi => Value.int.inj (h2 i hi)⟩
theorem d2_0 : decode jdk_42_method_152_code 0 = .ok (.getstatic 38, 3) := by decide +kernel
theorem d2_3 : decode jdk_42_method_152_code 3 = .ok (.ifCond .eq 10, 3) := by decide +kernel
theorem d2_6 : decode jdk_42_method_152_code 6 = .ok (.aload_n 0, 1) := by decide +kernel
theorem d2_7 : decode jdk_42_method_152_code 7 = .ok (.getfield 15, 3) := by decide +kernel
theorem d2_10 : decode jdk_42_method_152_code 10 = .ok (.goto 4, 3) := by decide +kernel
theorem d2_14 : decode jdk_42_method_152_code 14 = .ok (.ireturn, 1) := by decide +kernel
theorem pn_2 : plainName "java/lang/String" = true := by first | (simp [plainName, overriddenIn]; done) | decide +kernel
theorem ef_rCod (m : MethodId) (x0 : Addr) : entryFrame m #[(.ref x0)] 1 = mkF m 0 #[.val (.ref x0)] [] := by first | (simp [entryFrame, mkF, argsToLocals, Value.category]; done) | rfl
set_option maxRecDepth 65536 in
set_option maxHeartbeats 40000000 in
theorem rCod (l : Launch) (Z : State) (a0 : Array Value) (hw : ∀ d ∈ tables_1, d.before a0 Z = true) (ws : List Jvm.Cond) (o0 : Addr) (h0 : Heap) (n0 : Nat) (Z0 : n0 ≤ h0.size) (cs : Int32) (hcs : ¬ cs = (0 : Int32)) (S_C : Sta Z h0 "java/lang/String" "COMPACT_STRINGS" "Z" (.int cs)) (F_c : Fld Z h0 o0 "java/lang/String" "coder" "B" (.int (0 : Int32))) :
    MetFree l (⟨"java/lang/String", "coder", "()B"⟩ : MethodName) (head1 (Jvm.Cond.code (⟨"java/lang/String", "coder", "()B"⟩ : MethodName) jdk_42_method_152_code 1 (some .byte) :: ws) ({ frames := 0, cells := 0, slots := 0, locals := 0 } : Room)) (fun a U => a = #[(.ref o0)] ∧ Z.Warmed39 U.vm ∧ U.heap = h0) (fun _ _ _ _ _ => True) (fun _ U o U' => ∃ v L, o = .returned v ∧ QR (.int (0 : Int32)) h0 n0 v U'.heap L ∧ FrameEnd U o U' L ({ frames := 0, cells := 0, slots := 0, locals := 0 } : Room).cells ({ frames := 0, cells := 0, slots := 0, locals := 0 } : Room).slots) := by
  refine MetFree.of_bodySF (plainFor_of_name pn_2) hisR ?_
  intro p e s m args below meth c s₁ Bd hml0 hP hK
  obtain ⟨rfl, hZ, hh⟩ := hP
  have hx := Bd.exec
  have hby := Bd.bytes
  have hml : c.maxLocals = 1 := hml0
  have hown : s.vm.findClass "java/lang/String" = some m.cls := findClass_of_methodNamed Bd.named
  have hnm := (name_of_methodNamed Bd.named Bd.method).1
  have X0 : Stand p l e ({ frames := 0, cells := 0, slots := 0, locals := 0 } : Room) s m #[(.ref o0)] below meth c s₁ [] 0 0 := Stand.of_body Bd
  have e0 : s₁.heap = h0 := by rw [← hh, Bd.state]; rfl
  have N0 := Fr.nil n0
  have pre0 : ∀ t, Steps p.tables e below (s₁.setTop (mkF m 0 #[.val (.ref o0)] [])) t → Steps p.tables e below (s₁.setTop (entryFrame m #[(.ref o0)] 1)) t := fun t k => castTop (ef_rCod m o0) k
  obtain ⟨T1, X1, e1, st1⟩ := getS2 X0 hx hZ hown (host := "") (Or.inl (hw _ (List.mem_of_getElem? (i := 21) rfl))) Via.refl e0 S_C (g := (mkF m 0 #[.val (.ref o0)] [])) rfl (hb hby d2_0)
  obtain ⟨T2, X2, e2, st2⟩ := getF X1 hx hZ hown (host := "") (Or.inl (hw _ (List.mem_of_getElem? (i := 22) rfl))) Via.refl e1 F_c (g := (mkF m 7 #[.val (.ref o0)] [(.ref o0)])) rfl rfl (hb hby d2_7)
  obtain ⟨fs, hr, hrun, hended, hW, hsame⟩ := X2.leave (v := some (.int (0 : Int32))) (fun h => by rw [Bd.returns] at h; cases h)
  refine ⟨_, _, pre0 _ ?_, hrun, hended, _, _, rfl, ?_, ⟨_, rfl⟩, hW, hsame.mono (by decide) (by decide)⟩
  · skip
    show Steps p.tables e below (s₁.setTop (mkF m 0 #[.val (.ref o0)] [])) _
    refine st1 _ ?_
    show Steps p.tables e below (T1.setTop (mkF m 3 #[.val (.ref o0)] [(.int cs)])) _
    refine XS.ifNo X1.here hx rfl (hb hby d2_3) rfl ((if0 _ _).trans (feq hcs).1) ?_
    show Steps p.tables e below (T1.setTop (mkF m 6 #[.val (.ref o0)] [])) _
    refine XS.aloadN X1.here hx rfl (hb hby d2_6) rfl rfl ?_
    show Steps p.tables e below (T1.setTop (mkF m 7 #[.val (.ref o0)] [(.ref o0)])) _
    refine st2 _ ?_
    show Steps p.tables e below (T2.setTop (mkF m 10 #[.val (.ref o0)] [(.int (0 : Int32))])) _
    refine XS.goto X2.here hx rfl (pc0 := 10) (pc' := 14) rfl (hb hby d2_10) (by decide) (by decide) ?_
    show Steps p.tables e below (T2.setTop (mkF m 14 #[.val (.ref o0)] [(.int (0 : Int32))])) _
    exact retN X2 hx (t := .byte) Bd.returns (by simp) (hb hby d2_14) hr
  · show QR (.int (0 : Int32)) h0 n0 _ T2.heap _
    rw [e2]
    exact ⟨(by first | rfl | simp []), N0, rfl⟩
theorem d5_0 : decode jdk_42_method_154_code 0 = .ok (.getstatic 38, 3) := by decide +kernel
theorem d5_3 : decode jdk_42_method_154_code 3 = .ok (.ifCond .eq 14, 3) := by decide +kernel
theorem d5_6 : decode jdk_42_method_154_code 6 = .ok (.aload_n 0, 1) := by decide +kernel
theorem d5_7 : decode jdk_42_method_154_code 7 = .ok (.getfield 15, 3) := by decide +kernel
theorem d5_10 : decode jdk_42_method_154_code 10 = .ok (.ifCond .ne 7, 3) := by decide +kernel
theorem d5_13 : decode jdk_42_method_154_code 13 = .ok (.iconst 1, 1) := by decide +kernel
theorem d5_14 : decode jdk_42_method_154_code 14 = .ok (.goto 4, 3) := by decide +kernel
theorem d5_18 : decode jdk_42_method_154_code 18 = .ok (.ireturn, 1) := by decide +kernel
theorem pn_5 : plainName "java/lang/String" = true := by first | (simp [plainName, overriddenIn]; done) | decide +kernel
theorem ef_rLat (m : MethodId) (x0 : Addr) : entryFrame m #[(.ref x0)] 1 = mkF m 0 #[.val (.ref x0)] [] := by first | (simp [entryFrame, mkF, argsToLocals, Value.category]; done) | rfl
set_option maxRecDepth 65536 in
set_option maxHeartbeats 40000000 in
theorem rLat (l : Launch) (Z : State) (a0 : Array Value) (hw : ∀ d ∈ tables_1, d.before a0 Z = true) (ws : List Jvm.Cond) (o0 : Addr) (h0 : Heap) (n0 : Nat) (Z0 : n0 ≤ h0.size) (cs : Int32) (hcs : ¬ cs = (0 : Int32)) (S_C : Sta Z h0 "java/lang/String" "COMPACT_STRINGS" "Z" (.int cs)) (F_c : Fld Z h0 o0 "java/lang/String" "coder" "B" (.int (0 : Int32))) :
    MetFree l (⟨"java/lang/String", "isLatin1", "()Z"⟩ : MethodName) (head1 (Jvm.Cond.code (⟨"java/lang/String", "isLatin1", "()Z"⟩ : MethodName) jdk_42_method_154_code 1 (some .boolean) :: ws) ({ frames := 0, cells := 0, slots := 0, locals := 0 } : Room)) (fun a U => a = #[(.ref o0)] ∧ Z.Warmed39 U.vm ∧ U.heap = h0) (fun _ _ _ _ _ => True) (fun _ U o U' => ∃ v L, o = .returned v ∧ QR (.int (1 : Int32)) h0 n0 v U'.heap L ∧ FrameEnd U o U' L ({ frames := 0, cells := 0, slots := 0, locals := 0 } : Room).cells ({ frames := 0, cells := 0, slots := 0, locals := 0 } : Room).slots) := by
  refine MetFree.of_bodySF (plainFor_of_name pn_5) hisR ?_
  intro p e s m args below meth c s₁ Bd hml0 hP hK
  obtain ⟨rfl, hZ, hh⟩ := hP
  have hx := Bd.exec
  have hby := Bd.bytes
  have hml : c.maxLocals = 1 := hml0
  have hown : s.vm.findClass "java/lang/String" = some m.cls := findClass_of_methodNamed Bd.named
  have hnm := (name_of_methodNamed Bd.named Bd.method).1
  have X0 : Stand p l e ({ frames := 0, cells := 0, slots := 0, locals := 0 } : Room) s m #[(.ref o0)] below meth c s₁ [] 0 0 := Stand.of_body Bd
  have e0 : s₁.heap = h0 := by rw [← hh, Bd.state]; rfl
  have N0 := Fr.nil n0
  have pre0 : ∀ t, Steps p.tables e below (s₁.setTop (mkF m 0 #[.val (.ref o0)] [])) t → Steps p.tables e below (s₁.setTop (entryFrame m #[(.ref o0)] 1)) t := fun t k => castTop (ef_rLat m o0) k
  obtain ⟨T1, X1, e1, st1⟩ := getS2 X0 hx hZ hown (host := "") (Or.inl (hw _ (List.mem_of_getElem? (i := 21) rfl))) Via.refl e0 S_C (g := (mkF m 0 #[.val (.ref o0)] [])) rfl (hb hby d5_0)
  obtain ⟨T2, X2, e2, st2⟩ := getF X1 hx hZ hown (host := "") (Or.inl (hw _ (List.mem_of_getElem? (i := 22) rfl))) Via.refl e1 F_c (g := (mkF m 7 #[.val (.ref o0)] [(.ref o0)])) rfl rfl (hb hby d5_7)
  obtain ⟨fs, hr, hrun, hended, hW, hsame⟩ := X2.leave (v := some (.int (1 : Int32))) (fun h => by rw [Bd.returns] at h; cases h)
  refine ⟨_, _, pre0 _ ?_, hrun, hended, _, _, rfl, ?_, ⟨_, rfl⟩, hW, hsame.mono (by decide) (by decide)⟩
  · skip
    show Steps p.tables e below (s₁.setTop (mkF m 0 #[.val (.ref o0)] [])) _
    refine st1 _ ?_
    show Steps p.tables e below (T1.setTop (mkF m 3 #[.val (.ref o0)] [(.int cs)])) _
    refine XS.ifNo X1.here hx rfl (hb hby d5_3) rfl ((if0 _ _).trans (feq hcs).1) ?_
    show Steps p.tables e below (T1.setTop (mkF m 6 #[.val (.ref o0)] [])) _
    refine XS.aloadN X1.here hx rfl (hb hby d5_6) rfl rfl ?_
    show Steps p.tables e below (T1.setTop (mkF m 7 #[.val (.ref o0)] [(.ref o0)])) _
    refine st2 _ ?_
    show Steps p.tables e below (T2.setTop (mkF m 10 #[.val (.ref o0)] [(.int (0 : Int32))])) _
    refine XS.ifNo X2.here hx rfl (hb hby d5_10) rfl ((if0 _ _).trans (teq (by decide : (0 : Int32) = (0 : Int32))).2) ?_
    show Steps p.tables e below (T2.setTop (mkF m 13 #[.val (.ref o0)] [])) _
    refine XS.iconst X2.here hx rfl (hb hby d5_13) ?_
    show Steps p.tables e below (T2.setTop (mkF m 14 #[.val (.ref o0)] [(.int (1 : Int32))])) _
    refine XS.goto X2.here hx rfl (pc0 := 14) (pc' := 18) rfl (hb hby d5_14) (by decide) (by decide) ?_
    show Steps p.tables e below (T2.setTop (mkF m 18 #[.val (.ref o0)] [(.int (1 : Int32))])) _
    exact retN X2 hx (t := .boolean) Bd.returns (by simp) (hb hby d5_18) hr
  · show QR (.int (1 : Int32)) h0 n0 _ T2.heap _
    rw [e2]
    exact ⟨(by first | rfl | simp []), N0, rfl⟩
theorem own_shr0 (x : Int32) : x >>> ((0 : Int32) &&& 31) = x := by
  rw [show ((0 : Int32) &&& 31) = 0 from by decide]; simp
theorem d1_0 : decode jdk_42_method_54_code 0 = .ok (.aload_n 0, 1) := by decide +kernel
theorem d1_1 : decode jdk_42_method_54_code 1 = .ok (.getfield 9, 3) := by decide +kernel
theorem d1_4 : decode jdk_42_method_54_code 4 = .ok (.arraylength, 1) := by decide +kernel
theorem d1_5 : decode jdk_42_method_54_code 5 = .ok (.aload_n 0, 1) := by decide +kernel
theorem d1_6 : decode jdk_42_method_54_code 6 = .ok (.invokevirtual 335, 3) := by decide +kernel
theorem pd___B : parseMethodDescriptor "()B" = some ⟨[], some .byte⟩ := by decide +kernel
theorem d1_9 : decode jdk_42_method_54_code 9 = .ok (.ishr, 1) := by decide +kernel
theorem d1_10 : decode jdk_42_method_54_code 10 = .ok (.ireturn, 1) := by decide +kernel
theorem pn_1 : plainName "java/lang/String" = true := by first | (simp [plainName, overriddenIn]; done) | decide +kernel
theorem ef_rLen (m : MethodId) (x0 : Addr) : entryFrame m #[(.ref x0)] 1 = mkF m 0 #[.val (.ref x0)] [] := by first | (simp [entryFrame, mkF, argsToLocals, Value.category]; done) | rfl
set_option maxRecDepth 65536 in
set_option maxHeartbeats 40000000 in
theorem rLen (l : Launch) (Z : State) (a0 : Array Value) (hw : ∀ d ∈ tables_1, d.before a0 Z = true) (ws : List Jvm.Cond) (o0 : Addr) (v0 : Addr) (k0 : ClassId) (n : Nat) (f : Nat → Int32) (hn : n ≤ 4000) (h0 : Heap) (n0 : Nat) (Z0 : n0 ≤ h0.size) (R_s : SB Z h0 o0 v0 k0 n f) (cs : Int32) (hcs : ¬ cs = (0 : Int32)) (S_C : Sta Z h0 "java/lang/String" "COMPACT_STRINGS" "Z" (.int cs)) :
    MetFree l (⟨"java/lang/String", "length", "()I"⟩ : MethodName) (head1 (Jvm.Cond.code (⟨"java/lang/String", "length", "()I"⟩ : MethodName) jdk_42_method_54_code 1 (some .int) :: ws) ({ frames := 1, cells := 0, slots := 0, locals := 13 } : Room)) (fun a U => a = #[(.ref o0)] ∧ Z.Warmed39 U.vm ∧ U.heap = h0) (fun _ _ _ _ _ => True) (fun _ U o U' => ∃ v L, o = .returned v ∧ QR (.int (Int32.ofNat n)) h0 n0 v U'.heap L ∧ FrameEnd U o U' L ({ frames := 1, cells := 0, slots := 0, locals := 13 } : Room).cells ({ frames := 1, cells := 0, slots := 0, locals := 13 } : Room).slots) := by
  refine MetFree.of_bodySF (plainFor_of_name pn_1) hisR ?_
  intro p e s m args below meth c s₁ Bd hml0 hP hK
  obtain ⟨rfl, hZ, hh⟩ := hP
  have hx := Bd.exec
  have hby := Bd.bytes
  have hml : c.maxLocals = 1 := hml0
  have hown : s.vm.findClass "java/lang/String" = some m.cls := findClass_of_methodNamed Bd.named
  have hnm := (name_of_methodNamed Bd.named Bd.method).1
  have X0 : Stand p l e ({ frames := 1, cells := 0, slots := 0, locals := 13 } : Room) s m #[(.ref o0)] below meth c s₁ [] 0 0 := Stand.of_body Bd
  have e0 : s₁.heap = h0 := by rw [← hh, Bd.state]; rfl
  have N0 := Fr.nil n0
  have pre0 : ∀ t, Steps p.tables e below (s₁.setTop (mkF m 0 #[.val (.ref o0)] [])) t → Steps p.tables e below (s₁.setTop (entryFrame m #[(.ref o0)] 1)) t := fun t k => castTop (ef_rLen m o0) k
  obtain ⟨E, Fc, Fv, Va⟩ := id R_s
  obtain ⟨T1, X1, e1, st1⟩ := getF X0 hx hZ hown (host := "") (Or.inl (hw _ (List.mem_of_getElem? (i := 15) rfl))) Via.refl e0 Fv (g := (mkF m 1 #[.val (.ref o0)] [(.ref o0)])) rfl rfl (hb hby d1_1)
  obtain ⟨cl2, Ar2, -, Sa2, -⟩ := id Va
  obtain ⟨cq3, kq3, q3a, q3b, q3c⟩ := isOf hZ e1 E
  obtain ⟨_, _, ⟨T3, L3, k3, n3⟩, -, X3, ⟨Lc3, hQ3, l3, y3, z3⟩, st3⟩ := X1.virtualBack hx (y := (⟨"java/lang/String", "coder", "()B"⟩ : MethodName)) (z := (⟨"java/lang/String", "coder", "()B"⟩ : MethodName)) hown (mvT hZ (hw _ (List.mem_of_getElem? (i := 16) rfl))) (mvT hZ (hw _ (List.mem_of_getElem? (i := 17) rfl))) (notFace_of_selects (args := #[]) (mvT hZ (hw _ (List.mem_of_getElem? (i := 19) rfl)))) (mvT hZ (hw _ (List.mem_of_getElem? (i := 19) rfl))) (mvT hZ (hw _ (List.mem_of_getElem? (i := 18) rfl))) (by decide) (backOf (W := 1) (rCod l Z a0 hw [] o0 h0 n0 Z0 cs hcs S_C Fc) hZ (hw _ (List.mem_of_getElem? (i := 20) rfl)) (hw _ (List.mem_of_getElem? (i := 3) rfl)) (by decide) (by decide)) q3a q3c (g := (mkF m 6 #[.val (.ref o0)] [(.ref o0), (.int (Int32.ofNat n))])) rfl (by rw [hml]; rfl) (Steps.refl _) (argsL := []) (rest := [(.int (Int32.ofNat n))]) (lenOf pd___B rfl) rfl (by show 2 * 0 + _ ≤ _; exact Nat.le_of_eq rfl) (hb hby d1_6) (fun _ _ => ⟨rfl, e1, (by decide : 0 + 0 ≤ _), (by decide : 0 + 0 ≤ _)⟩)
  dsimp only [Pt.U, Pt.locs, Pt.cells, Pt.slots] at X3 l3 y3 z3 st3 hQ3
  rw [l3, y3, z3] at X3
  obtain ⟨rfl, N3q, e3⟩ := hQ3
  have N3 := Fr.app N0 N3q
  obtain ⟨fs, hr, hrun, hended, hW, hsame⟩ := X3.leave (v := some (.int (Int32.ofNat n))) (fun h => by rw [Bd.returns] at h; cases h)
  refine ⟨_, _, pre0 _ ?_, hrun, hended, _, _, rfl, ?_, ⟨_, rfl⟩, hW, hsame.mono (by decide) (by decide)⟩
  · skip
    show Steps p.tables e below (s₁.setTop (mkF m 0 #[.val (.ref o0)] [])) _
    refine XS.aloadN X0.here hx rfl (hb hby d1_0) rfl rfl ?_
    show Steps p.tables e below (s₁.setTop (mkF m 1 #[.val (.ref o0)] [(.ref o0)])) _
    refine st1 _ ?_
    show Steps p.tables e below (T1.setTop (mkF m 4 #[.val (.ref o0)] [(.ref v0)])) _
    refine X1.arraylength hx (by rw [e1]; exact Ar2.1) (State.isArrayOf_alike hZ.alike Ar2.2.1) (g := (mkF m 4 #[.val (.ref o0)] [(.ref v0)])) rfl rfl (hb hby d1_4) _ ?_
    rw [own_len Sa2]
    show Steps p.tables e below (T1.setTop (mkF m 5 #[.val (.ref o0)] [(.int (Int32.ofNat n))])) _
    refine XS.aloadN X1.here hx rfl (hb hby d1_5) rfl rfl ?_
    show Steps p.tables e below (T1.setTop (mkF m 6 #[.val (.ref o0)] [(.ref o0), (.int (Int32.ofNat n))])) _
    refine st3.trans ?_
    show Steps p.tables e below (T3.setTop (mkF m 9 #[.val (.ref o0)] [(.int (0 : Int32)), (.int (Int32.ofNat n))])) _
    refine XS.ishr X3.here hx rfl (hb hby d1_9) rfl ?_
    show Steps p.tables e below (T3.setTop (mkF m 10 #[.val (.ref o0)] [(.int ((Int32.ofNat n) >>> ((0 : Int32) &&& 31)))])) _
    rw [own_shr0]
    show Steps p.tables e below (T3.setTop (mkF m 10 #[.val (.ref o0)] [(.int (Int32.ofNat n))])) _
    exact retI X3 hx Bd.returns (hb hby d1_10) hr
  · show QR (.int (Int32.ofNat n)) h0 n0 _ T3.heap _
    rw [e3]
    exact ⟨(by first | rfl | simp []), N3, rfl⟩
theorem d8_0 : decode jdk_41_method_11_code 0 = .ok (.iload_n 0, 1) := by decide +kernel
theorem d8_1 : decode jdk_41_method_11_code 1 = .ok (.ifCond .lt 8, 3) := by decide +kernel
theorem d8_4 : decode jdk_41_method_11_code 4 = .ok (.iload_n 0, 1) := by decide +kernel
theorem d8_5 : decode jdk_41_method_11_code 5 = .ok (.iload_n 1, 1) := by decide +kernel
theorem d8_6 : decode jdk_41_method_11_code 6 = .ok (.if_icmp .lt 10, 3) := by decide +kernel
theorem d8_16 : decode jdk_41_method_11_code 16 = .ok (.iload_n 0, 1) := by decide +kernel
theorem d8_17 : decode jdk_41_method_11_code 17 = .ok (.ireturn, 1) := by decide +kernel
theorem pn_8 : plainName "jdk/internal/util/Preconditions" = true := by first | (simp [plainName, overriddenIn]; done) | decide +kernel
theorem ef_rPcn (m : MethodId) (x0 : Int32) (x1 : Int32) : entryFrame m #[(.int x0), (.int x1), .null] 3 = mkF m 0 #[.val (.int x0), .val (.int x1), .val .null] [] := by first | (simp [entryFrame, mkF, argsToLocals, Value.category]; done) | rfl
set_option maxRecDepth 65536 in
set_option maxHeartbeats 40000000 in
theorem rPcn (l : Launch) (Z : State) (a0 : Array Value) (hw : ∀ d ∈ tables_1, d.before a0 Z = true) (ws : List Jvm.Cond) (p0 : Int32) (p1 : Int32) (h0 : Heap) (n0 : Nat) (Z0 : n0 ≤ h0.size) (hi0 : ¬ p0 < (0 : Int32)) (hi1 : p0 < p1) :
    MetFree l (⟨"jdk/internal/util/Preconditions", "checkIndex", "(IILjava/util/function/BiFunction;)I"⟩ : MethodName) (head1 (Jvm.Cond.code (⟨"jdk/internal/util/Preconditions", "checkIndex", "(IILjava/util/function/BiFunction;)I"⟩ : MethodName) jdk_41_method_11_code 3 (some .int) :: ws) ({ frames := 0, cells := 0, slots := 0, locals := 0 } : Room)) (fun a U => a = #[(.int p0), (.int p1), .null] ∧ Z.Warmed39 U.vm ∧ U.heap = h0) (fun _ _ _ _ _ => True) (fun _ U o U' => ∃ v L, o = .returned v ∧ QR (.int p0) h0 n0 v U'.heap L ∧ FrameEnd U o U' L ({ frames := 0, cells := 0, slots := 0, locals := 0 } : Room).cells ({ frames := 0, cells := 0, slots := 0, locals := 0 } : Room).slots) := by
  refine MetFree.of_bodySF (plainFor_of_name pn_8) hisR ?_
  intro p e s m args below meth c s₁ Bd hml0 hP hK
  obtain ⟨rfl, hZ, hh⟩ := hP
  have hx := Bd.exec
  have hby := Bd.bytes
  have hml : c.maxLocals = 3 := hml0
  have hown : s.vm.findClass "jdk/internal/util/Preconditions" = some m.cls := findClass_of_methodNamed Bd.named
  have hnm := (name_of_methodNamed Bd.named Bd.method).1
  have X0 : Stand p l e ({ frames := 0, cells := 0, slots := 0, locals := 0 } : Room) s m #[(.int p0), (.int p1), .null] below meth c s₁ [] 0 0 := Stand.of_body Bd
  have e0 : s₁.heap = h0 := by rw [← hh, Bd.state]; rfl
  have N0 := Fr.nil n0
  have pre0 : ∀ t, Steps p.tables e below (s₁.setTop (mkF m 0 #[.val (.int p0), .val (.int p1), .val .null] [])) t → Steps p.tables e below (s₁.setTop (entryFrame m #[(.int p0), (.int p1), .null] 3)) t := fun t k => castTop (ef_rPcn m p0 p1) k
  obtain ⟨fs, hr, hrun, hended, hW, hsame⟩ := X0.leave (v := some (.int p0)) (fun h => by rw [Bd.returns] at h; cases h)
  refine ⟨_, _, pre0 _ ?_, hrun, hended, _, _, rfl, ?_, ⟨_, rfl⟩, hW, hsame.mono (by decide) (by decide)⟩
  · skip
    show Steps p.tables e below (s₁.setTop (mkF m 0 #[.val (.int p0), .val (.int p1), .val .null] [])) _
    refine XS.iloadN X0.here hx rfl (hb hby d8_0) rfl ?_
    show Steps p.tables e below (s₁.setTop (mkF m 1 #[.val (.int p0), .val (.int p1), .val .null] [(.int p0)])) _
    refine XS.ifNo X0.here hx rfl (hb hby d8_1) rfl ((if0 _ _).trans (flt hi0).1) ?_
    show Steps p.tables e below (s₁.setTop (mkF m 4 #[.val (.int p0), .val (.int p1), .val .null] [])) _
    refine XS.iloadN X0.here hx rfl (hb hby d8_4) rfl ?_
    show Steps p.tables e below (s₁.setTop (mkF m 5 #[.val (.int p0), .val (.int p1), .val .null] [(.int p0)])) _
    refine XS.iloadN X0.here hx rfl (hb hby d8_5) rfl ?_
    show Steps p.tables e below (s₁.setTop (mkF m 6 #[.val (.int p0), .val (.int p1), .val .null] [(.int p1), (.int p0)])) _
    refine XS.icmpYes X0.here hx rfl (pc0 := 6) (pc' := 16) rfl (hb hby d8_6) rfl (tlt hi1).1 (by decide) (by decide) ?_
    show Steps p.tables e below (s₁.setTop (mkF m 16 #[.val (.int p0), .val (.int p1), .val .null] [])) _
    refine XS.iloadN X0.here hx rfl (hb hby d8_16) rfl ?_
    show Steps p.tables e below (s₁.setTop (mkF m 17 #[.val (.int p0), .val (.int p1), .val .null] [(.int p0)])) _
    exact retI X0 hx Bd.returns (hb hby d8_17) hr
  · show QR (.int p0) h0 n0 _ s₁.heap _
    rw [e0]
    exact ⟨(by first | rfl | simp []), N0, rfl⟩
theorem ef_rPcr (m : MethodId) (x0 : Int32) (x1 : Int32) (x2 : Addr) : entryFrame m #[(.int x0), (.int x1), (.ref x2)] 3 = mkF m 0 #[.val (.int x0), .val (.int x1), .val (.ref x2)] [] := by first | (simp [entryFrame, mkF, argsToLocals, Value.category]; done) | rfl
set_option maxRecDepth 65536 in
set_option maxHeartbeats 40000000 in
theorem rPcr (l : Launch) (Z : State) (a0 : Array Value) (hw : ∀ d ∈ tables_1, d.before a0 Z = true) (ws : List Jvm.Cond) (p0 : Int32) (p1 : Int32) (o2 : Addr) (h0 : Heap) (n0 : Nat) (Z0 : n0 ≤ h0.size) (hi0 : ¬ p0 < (0 : Int32)) (hi1 : p0 < p1) :
    MetFree l (⟨"jdk/internal/util/Preconditions", "checkIndex", "(IILjava/util/function/BiFunction;)I"⟩ : MethodName) (head1 (Jvm.Cond.code (⟨"jdk/internal/util/Preconditions", "checkIndex", "(IILjava/util/function/BiFunction;)I"⟩ : MethodName) jdk_41_method_11_code 3 (some .int) :: ws) ({ frames := 0, cells := 0, slots := 0, locals := 0 } : Room)) (fun a U => a = #[(.int p0), (.int p1), (.ref o2)] ∧ Z.Warmed39 U.vm ∧ U.heap = h0) (fun _ _ _ _ _ => True) (fun _ U o U' => ∃ v L, o = .returned v ∧ QR (.int p0) h0 n0 v U'.heap L ∧ FrameEnd U o U' L ({ frames := 0, cells := 0, slots := 0, locals := 0 } : Room).cells ({ frames := 0, cells := 0, slots := 0, locals := 0 } : Room).slots) := by
  refine MetFree.of_bodySF (plainFor_of_name pn_8) hisR ?_
  intro p e s m args below meth c s₁ Bd hml0 hP hK
  obtain ⟨rfl, hZ, hh⟩ := hP
  have hx := Bd.exec
  have hby := Bd.bytes
  have hml : c.maxLocals = 3 := hml0
  have hown : s.vm.findClass "jdk/internal/util/Preconditions" = some m.cls := findClass_of_methodNamed Bd.named
  have hnm := (name_of_methodNamed Bd.named Bd.method).1
  have X0 : Stand p l e ({ frames := 0, cells := 0, slots := 0, locals := 0 } : Room) s m #[(.int p0), (.int p1), (.ref o2)] below meth c s₁ [] 0 0 := Stand.of_body Bd
  have e0 : s₁.heap = h0 := by rw [← hh, Bd.state]; rfl
  have N0 := Fr.nil n0
  have pre0 : ∀ t, Steps p.tables e below (s₁.setTop (mkF m 0 #[.val (.int p0), .val (.int p1), .val (.ref o2)] [])) t → Steps p.tables e below (s₁.setTop (entryFrame m #[(.int p0), (.int p1), (.ref o2)] 3)) t := fun t k => castTop (ef_rPcr m p0 p1 o2) k
  obtain ⟨fs, hr, hrun, hended, hW, hsame⟩ := X0.leave (v := some (.int p0)) (fun h => by rw [Bd.returns] at h; cases h)
  refine ⟨_, _, pre0 _ ?_, hrun, hended, _, _, rfl, ?_, ⟨_, rfl⟩, hW, hsame.mono (by decide) (by decide)⟩
  · skip
    show Steps p.tables e below (s₁.setTop (mkF m 0 #[.val (.int p0), .val (.int p1), .val (.ref o2)] [])) _
    refine XS.iloadN X0.here hx rfl (hb hby d8_0) rfl ?_
    show Steps p.tables e below (s₁.setTop (mkF m 1 #[.val (.int p0), .val (.int p1), .val (.ref o2)] [(.int p0)])) _
    refine XS.ifNo X0.here hx rfl (hb hby d8_1) rfl ((if0 _ _).trans (flt hi0).1) ?_
    show Steps p.tables e below (s₁.setTop (mkF m 4 #[.val (.int p0), .val (.int p1), .val (.ref o2)] [])) _
    refine XS.iloadN X0.here hx rfl (hb hby d8_4) rfl ?_
    show Steps p.tables e below (s₁.setTop (mkF m 5 #[.val (.int p0), .val (.int p1), .val (.ref o2)] [(.int p0)])) _
    refine XS.iloadN X0.here hx rfl (hb hby d8_5) rfl ?_
    show Steps p.tables e below (s₁.setTop (mkF m 6 #[.val (.int p0), .val (.int p1), .val (.ref o2)] [(.int p1), (.int p0)])) _
    refine XS.icmpYes X0.here hx rfl (pc0 := 6) (pc' := 16) rfl (hb hby d8_6) rfl (tlt hi1).1 (by decide) (by decide) ?_
    show Steps p.tables e below (s₁.setTop (mkF m 16 #[.val (.int p0), .val (.int p1), .val (.ref o2)] [])) _
    refine XS.iloadN X0.here hx rfl (hb hby d8_16) rfl ?_
    show Steps p.tables e below (s₁.setTop (mkF m 17 #[.val (.int p0), .val (.int p1), .val (.ref o2)] [(.int p0)])) _
    exact retI X0 hx Bd.returns (hb hby d8_17) hr
  · show QR (.int p0) h0 n0 _ s₁.heap _
    rw [e0]
    exact ⟨(by first | rfl | simp []), N0, rfl⟩
theorem rPc (l : Launch) (Z : State) (a0 : Array Value) (hw : ∀ d ∈ tables_1, d.before a0 Z = true) (ws : List Jvm.Cond) (p0 p1 : Int32) (fm : Value) (hfm : fm.isRef = true) (h0 : Heap) (n0 : Nat) (Z0 : n0 ≤ h0.size) (hi0 : ¬ p0 < (0 : Int32)) (hi1 : p0 < p1) :
    MetFree l (⟨"jdk/internal/util/Preconditions", "checkIndex", "(IILjava/util/function/BiFunction;)I"⟩ : MethodName) (head1 (Jvm.Cond.code (⟨"jdk/internal/util/Preconditions", "checkIndex", "(IILjava/util/function/BiFunction;)I"⟩ : MethodName) jdk_41_method_11_code 3 (some .int) :: ws) ({ frames := 0, cells := 0, slots := 0, locals := 0 } : Room)) (fun a U => a = #[(.int p0), (.int p1), fm] ∧ Z.Warmed39 U.vm ∧ U.heap = h0) (fun _ _ _ _ _ => True) (fun _ U o U' => ∃ v L, o = .returned v ∧ QR (.int p0) h0 n0 v U'.heap L ∧ FrameEnd U o U' L ({ frames := 0, cells := 0, slots := 0, locals := 0 } : Room).cells ({ frames := 0, cells := 0, slots := 0, locals := 0 } : Room).slots) := by
  rcases ref_cases hfm with rfl | ⟨a, rfl⟩
  · exact rPcn l Z a0 hw ws p0 p1 h0 n0 Z0 hi0 hi1
  · exact rPcr l Z a0 hw ws p0 p1 a h0 n0 Z0 hi0 hi1
theorem d7_0 : decode jdk_42_method_155_code 0 = .ok (.iload_n 0, 1) := by decide +kernel
theorem d7_1 : decode jdk_42_method_155_code 1 = .ok (.iload_n 1, 1) := by decide +kernel
theorem d7_2 : decode jdk_42_method_155_code 2 = .ok (.getstatic 1053, 3) := by decide +kernel
theorem d7_5 : decode jdk_42_method_155_code 5 = .ok (.invokestatic 1059, 3) := by decide +kernel
theorem pd__IILjava_util_function_BiFunction__I : parseMethodDescriptor "(IILjava/util/function/BiFunction;)I" = some ⟨[.int, .int, (.object "java/util/function/BiFunction")], some .int⟩ := by decide +kernel
theorem d7_8 : decode jdk_42_method_155_code 8 = .ok (.pop, 1) := by decide +kernel
theorem d7_9 : decode jdk_42_method_155_code 9 = .ok (.return_, 1) := by decide +kernel
theorem pn_7 : plainName "java/lang/String" = true := by first | (simp [plainName, overriddenIn]; done) | decide +kernel
theorem ef_rCk (m : MethodId) (x0 : Int32) (x1 : Int32) : entryFrame m #[(.int x0), (.int x1)] 2 = mkF m 0 #[.val (.int x0), .val (.int x1)] [] := by first | (simp [entryFrame, mkF, argsToLocals, Value.category]; done) | rfl
set_option maxRecDepth 65536 in
set_option maxHeartbeats 40000000 in
theorem rCk (l : Launch) (Z : State) (a0 : Array Value) (hw : ∀ d ∈ tables_1, d.before a0 Z = true) (ws : List Jvm.Cond) (p0 : Int32) (p1 : Int32) (h0 : Heap) (n0 : Nat) (Z0 : n0 ≤ h0.size) (fm : Value) (hfm : fm.isRef = true) (S_F : Sta Z h0 "jdk/internal/util/Preconditions" "SIOOBE_FORMATTER" "Ljava/util/function/BiFunction;" fm) (hi0 : ¬ p0 < (0 : Int32)) (hi1 : p0 < p1) :
    MetFree l (⟨"java/lang/String", "checkIndex", "(II)V"⟩ : MethodName) (head1 (Jvm.Cond.code (⟨"java/lang/String", "checkIndex", "(II)V"⟩ : MethodName) jdk_42_method_155_code 2 none :: ws) ({ frames := 1, cells := 0, slots := 0, locals := 14 } : Room)) (fun a U => a = #[(.int p0), (.int p1)] ∧ Z.Warmed39 U.vm ∧ U.heap = h0) (fun _ _ _ _ _ => True) (fun _ U o U' => ∃ v L, o = .returned v ∧ QV h0 n0 v U'.heap L ∧ FrameEnd U o U' L ({ frames := 1, cells := 0, slots := 0, locals := 14 } : Room).cells ({ frames := 1, cells := 0, slots := 0, locals := 14 } : Room).slots) := by
  refine MetFree.of_bodySF (plainFor_of_name pn_7) hisR ?_
  intro p e s m args below meth c s₁ Bd hml0 hP hK
  obtain ⟨rfl, hZ, hh⟩ := hP
  have hx := Bd.exec
  have hby := Bd.bytes
  have hml : c.maxLocals = 2 := hml0
  have hown : s.vm.findClass "java/lang/String" = some m.cls := findClass_of_methodNamed Bd.named
  have hnm := (name_of_methodNamed Bd.named Bd.method).1
  have X0 : Stand p l e ({ frames := 1, cells := 0, slots := 0, locals := 14 } : Room) s m #[(.int p0), (.int p1)] below meth c s₁ [] 0 0 := Stand.of_body Bd
  have e0 : s₁.heap = h0 := by rw [← hh, Bd.state]; rfl
  have N0 := Fr.nil n0
  have pre0 : ∀ t, Steps p.tables e below (s₁.setTop (mkF m 0 #[.val (.int p0), .val (.int p1)] [])) t → Steps p.tables e below (s₁.setTop (entryFrame m #[(.int p0), (.int p1)] 2)) t := fun t k => castTop (ef_rCk m p0 p1) k
  obtain ⟨T1, X1, e1, st1⟩ := getS2 X0 hx hZ hown (host := "") (Or.inl (hw _ (List.mem_of_getElem? (i := 44) rfl))) Via.refl e0 S_F (g := (mkF m 2 #[.val (.int p0), .val (.int p1)] [(.int p1), (.int p0)])) rfl (hb hby d7_2)
  obtain ⟨_, _, ⟨T2, L2, k2, n2⟩, -, X2, ⟨Lc2, hQ2, l2, y2, z2⟩, st2⟩ := Jvm.LawKit.callS X1 hx (y := (⟨"jdk/internal/util/Preconditions", "checkIndex", "(IILjava/util/function/BiFunction;)I"⟩ : MethodName)) hown (mvT hZ (hw _ (List.mem_of_getElem? (i := 46) rfl))) (mvT hZ (hw _ (List.mem_of_getElem? (i := 47) rfl))) (mvT hZ (hw _ (List.mem_of_getElem? (i := 45) rfl))) (mvT hZ (hw _ (List.mem_of_getElem? (i := 48) rfl))) (by decide) (backOf (W := 0) (rPc l Z a0 hw [] p0 p1 fm hfm h0 n0 Z0 hi0 hi1) hZ (hw _ (List.mem_of_getElem? (i := 48) rfl)) (hw _ (List.mem_of_getElem? (i := 45) rfl)) (by decide) (by decide)) (g := (mkF m 5 #[.val (.int p0), .val (.int p1)] [fm, (.int p1), (.int p0)])) rfl (by rw [hml]; rfl) (argsL := [(.int p0), (.int p1), fm]) (rest := []) (lenOf pd__IILjava_util_function_BiFunction__I rfl) rfl (by show 2 * 0 + _ ≤ _; exact Nat.le_of_eq rfl) (hb hby d7_5) (fun _ _ => ⟨rfl, e1, (by decide : 0 + 0 ≤ _), (by decide : 0 + 0 ≤ _)⟩)
  dsimp only [Pt.U, Pt.locs, Pt.cells, Pt.slots] at X2 l2 y2 z2 st2 hQ2
  rw [l2, y2, z2] at X2
  obtain ⟨rfl, N2q, e2⟩ := hQ2
  have N2 := Fr.app N0 N2q
  obtain ⟨fs, hr, hrun, hended, hW, hsame⟩ := X2.leave (v := none) (fun _ => rfl)
  refine ⟨_, _, pre0 _ ?_, hrun, hended, _, _, rfl, ?_, ⟨_, rfl⟩, hW, hsame.mono (by decide) (by decide)⟩
  · skip
    show Steps p.tables e below (s₁.setTop (mkF m 0 #[.val (.int p0), .val (.int p1)] [])) _
    refine XS.iloadN X0.here hx rfl (hb hby d7_0) rfl ?_
    show Steps p.tables e below (s₁.setTop (mkF m 1 #[.val (.int p0), .val (.int p1)] [(.int p0)])) _
    refine XS.iloadN X0.here hx rfl (hb hby d7_1) rfl ?_
    show Steps p.tables e below (s₁.setTop (mkF m 2 #[.val (.int p0), .val (.int p1)] [(.int p1), (.int p0)])) _
    refine st1 _ ?_
    show Steps p.tables e below (T1.setTop (mkF m 5 #[.val (.int p0), .val (.int p1)] [fm, (.int p1), (.int p0)])) _
    refine st2 _ ?_
    show Steps p.tables e below (T2.setTop (mkF m 8 #[.val (.int p0), .val (.int p1)] [(.int p0)])) _
    refine XS.pop X2.here hx rfl (hb hby d7_8) rfl rfl ?_
    show Steps p.tables e below (T2.setTop (mkF m 9 #[.val (.int p0), .val (.int p1)] [])) _
    exact X2.returnOut hx Bd.returns (hb hby d7_9) hr
  · show QV h0 n0 _ T2.heap _
    rw [e2]
    exact ⟨(by first | rfl | simp []), N2, rfl⟩
def QC (h0 : Heap) (n0 : Nat) (v : Option Value) (h : Heap) (L : List Loc) : Prop := ∃ z : Int32, v = some (.int z) ∧ Fr n0 L ∧ h = h0 ∧ 0 ≤ z.toInt ∧ z.toInt < 256
theorem own_char (x : Int32) : nar .char x = Int32.ofNat (x.toInt % 65536).toNat := by
  apply Int32.toInt_inj.mp
  have h := c_i2c x
  rw [own_i32 (by omega)]
  show (x.toUInt32.toUInt16.toUInt32.toInt32).toInt = _
  omega
theorem own_and255 (x : Int32) : 0 ≤ (x &&& (255 : Int32)).toInt ∧ (x &&& (255 : Int32)).toInt < 256 := by
  have h := c_and x 255 (by decide)
  have e : (255 : Int32).toInt = 255 := rfl
  rw [e] at h; exact ⟨h.1, by omega⟩
theorem own_narc {x : Int32} (h0 : 0 ≤ x.toInt) (h1 : x.toInt < 256) : nar .char x = x := by
  rw [own_char]; apply Int32.toInt_inj.mp; rw [own_i32 (by omega)]; omega
theorem own_i2c {x : Int32} (h0 : 0 ≤ x.toInt) (h1 : x.toInt < 256) : x.toUInt32.toUInt16.toUInt32.toInt32 = x := own_narc h0 h1
theorem d6_0 : decode jdk_43_method_2_code 0 = .ok (.iload_n 1, 1) := by decide +kernel
theorem d6_1 : decode jdk_43_method_2_code 1 = .ok (.aload_n 0, 1) := by decide +kernel
theorem d6_2 : decode jdk_43_method_2_code 2 = .ok (.arraylength, 1) := by decide +kernel
theorem d6_3 : decode jdk_43_method_2_code 3 = .ok (.invokestatic 9, 3) := by decide +kernel
theorem pd__II_V : parseMethodDescriptor "(II)V" = some ⟨[.int, .int], none⟩ := by decide +kernel
theorem d6_6 : decode jdk_43_method_2_code 6 = .ok (.aload_n 0, 1) := by decide +kernel
theorem d6_7 : decode jdk_43_method_2_code 7 = .ok (.iload_n 1, 1) := by decide +kernel
theorem d6_8 : decode jdk_43_method_2_code 8 = .ok (.baload, 1) := by decide +kernel
theorem d6_9 : decode jdk_43_method_2_code 9 = .ok (.sipush 255, 3) := by decide +kernel
theorem d6_12 : decode jdk_43_method_2_code 12 = .ok (.iand, 1) := by decide +kernel
theorem d6_13 : decode jdk_43_method_2_code 13 = .ok (.i2c, 1) := by decide +kernel
theorem d6_14 : decode jdk_43_method_2_code 14 = .ok (.ireturn, 1) := by decide +kernel
theorem pn_6 : plainName "java/lang/StringLatin1" = true := by first | (simp [plainName, overriddenIn]; done) | decide +kernel
theorem ef_rLch (m : MethodId) (x0 : Addr) (x1 : Int32) : entryFrame m #[(.ref x0), (.int x1)] 2 = mkF m 0 #[.val (.ref x0), .val (.int x1)] [] := by first | (simp [entryFrame, mkF, argsToLocals, Value.category]; done) | rfl
set_option maxRecDepth 65536 in
set_option maxHeartbeats 40000000 in
theorem rLch (l : Launch) (Z : State) (a0 : Array Value) (hw : ∀ d ∈ tables_1, d.before a0 Z = true) (ws : List Jvm.Cond) (o0 : Addr) (k0 : ClassId) (n i : Nat) (f : Nat → Int32) (hn : n ≤ 4000) (hi : i < n) (h0 : Heap) (n0 : Nat) (Z0 : n0 ≤ h0.size) (fm : Value) (hfm : fm.isRef = true) (S_F : Sta Z h0 "jdk/internal/util/Preconditions" "SIOOBE_FORMATTER" "Ljava/util/function/BiFunction;" fm) (V_a : GA Z h0 o0 k0 .byte n (fun i => .int (f i))) :
    MetFree l (⟨"java/lang/StringLatin1", "charAt", "([BI)C"⟩ : MethodName) (head1 (Jvm.Cond.code (⟨"java/lang/StringLatin1", "charAt", "([BI)C"⟩ : MethodName) jdk_43_method_2_code 2 (some .char) :: ws) ({ frames := 2, cells := 0, slots := 0, locals := 27 } : Room)) (fun a U => a = #[(.ref o0), (.int (Int32.ofNat i))] ∧ Z.Warmed39 U.vm ∧ U.heap = h0) (fun _ _ _ _ _ => True) (fun _ U o U' => ∃ v L, o = .returned v ∧ QC h0 n0 v U'.heap L ∧ FrameEnd U o U' L ({ frames := 2, cells := 0, slots := 0, locals := 27 } : Room).cells ({ frames := 2, cells := 0, slots := 0, locals := 27 } : Room).slots) := by
  refine MetFree.of_bodySF (plainFor_of_name pn_6) hisR ?_
  intro p e s m args below meth c s₁ Bd hml0 hP hK
  obtain ⟨rfl, hZ, hh⟩ := hP
  have hx := Bd.exec
  have hby := Bd.bytes
  have hml : c.maxLocals = 2 := hml0
  have hown : s.vm.findClass "java/lang/StringLatin1" = some m.cls := findClass_of_methodNamed Bd.named
  have hnm := (name_of_methodNamed Bd.named Bd.method).1
  have X0 : Stand p l e ({ frames := 2, cells := 0, slots := 0, locals := 27 } : Room) s m #[(.ref o0), (.int (Int32.ofNat i))] below meth c s₁ [] 0 0 := Stand.of_body Bd
  have e0 : s₁.heap = h0 := by rw [← hh, Bd.state]; rfl
  have N0 := Fr.nil n0
  have pre0 : ∀ t, Steps p.tables e below (s₁.setTop (mkF m 0 #[.val (.ref o0), .val (.int (Int32.ofNat i))] [])) t → Steps p.tables e below (s₁.setTop (entryFrame m #[(.ref o0), (.int (Int32.ofNat i))] 2)) t := fun t k => castTop (ef_rLch m o0 (Int32.ofNat i)) k
  obtain ⟨cl1, Ar1, -, Sa1, -⟩ := id V_a
  obtain ⟨_, _, ⟨T2, L2, k2, n2⟩, -, X2, ⟨Lc2, hQ2, l2, y2, z2⟩, st2⟩ := Jvm.LawKit.callS X0 hx (y := (⟨"java/lang/String", "checkIndex", "(II)V"⟩ : MethodName)) hown (mvT hZ (hw _ (List.mem_of_getElem? (i := 41) rfl))) (mvT hZ (hw _ (List.mem_of_getElem? (i := 42) rfl))) (mvT hZ (hw _ (List.mem_of_getElem? (i := 3) rfl))) (mvT hZ (hw _ (List.mem_of_getElem? (i := 43) rfl))) (by decide) (backOf (W := 0) (rCk l Z a0 hw [] (Int32.ofNat i) (Int32.ofNat n) h0 n0 Z0 fm hfm S_F (by rw [Int32.lt_iff_toInt_lt, own_i32 (by omega)]; show ¬ (i : Int) < 0; omega) ((own_ltI (by omega) (by omega)).mpr hi)) hZ (hw _ (List.mem_of_getElem? (i := 43) rfl)) (hw _ (List.mem_of_getElem? (i := 3) rfl)) (by decide) (by decide)) (g := (mkF m 3 #[.val (.ref o0), .val (.int (Int32.ofNat i))] [(.int (Int32.ofNat n)), (.int (Int32.ofNat i))])) rfl (by rw [hml]; rfl) (argsL := [(.int (Int32.ofNat i)), (.int (Int32.ofNat n))]) (rest := []) (lenOf pd__II_V rfl) rfl (by show 2 * 0 + _ ≤ _; exact Nat.le_of_eq rfl) (hb hby d6_3) (fun _ _ => ⟨rfl, e0, (by decide : 0 + 0 ≤ _), (by decide : 0 + 0 ≤ _)⟩)
  dsimp only [Pt.U, Pt.locs, Pt.cells, Pt.slots] at X2 l2 y2 z2 st2 hQ2
  rw [l2, y2, z2] at X2
  obtain ⟨rfl, N2q, e2⟩ := hQ2
  have N2 := Fr.app N0 N2q
  obtain ⟨cl3, Ar3, qa3, Sa3, Ha3⟩ := id V_a
  have hin3 : ¬ ((Int32.ofNat i) < 0 ∨ cl3.slots.size ≤ (Int32.ofNat i).toNatClampNeg) := own_inb Sa3 hi (show n < 2147483648 by omega)
  have hat3 : cl3.slots[(Int32.ofNat i).toNatClampNeg]? = some (.int (f i)) := by rw [own_cl (Nat.lt_trans hi (show n < 2147483648 by omega))]; exact Ha3 i hi
  obtain ⟨fs, hr, hrun, hended, hW, hsame⟩ := X2.leave (v := some (.int (nar .char (((f i) &&& (255 : Int32)).toUInt32.toUInt16.toUInt32.toInt32)))) (fun h => by rw [Bd.returns] at h; cases h)
  refine ⟨_, _, pre0 _ ?_, hrun, hended, _, _, rfl, ?_, ⟨_, rfl⟩, hW, hsame.mono (by decide) (by decide)⟩
  · skip
    show Steps p.tables e below (s₁.setTop (mkF m 0 #[.val (.ref o0), .val (.int (Int32.ofNat i))] [])) _
    refine XS.iloadN X0.here hx rfl (hb hby d6_0) rfl ?_
    show Steps p.tables e below (s₁.setTop (mkF m 1 #[.val (.ref o0), .val (.int (Int32.ofNat i))] [(.int (Int32.ofNat i))])) _
    refine XS.aloadN X0.here hx rfl (hb hby d6_1) rfl rfl ?_
    show Steps p.tables e below (s₁.setTop (mkF m 2 #[.val (.ref o0), .val (.int (Int32.ofNat i))] [(.ref o0), (.int (Int32.ofNat i))])) _
    refine X0.arraylength hx (by rw [e0]; exact Ar1.1) (State.isArrayOf_alike hZ.alike Ar1.2.1) (g := (mkF m 2 #[.val (.ref o0), .val (.int (Int32.ofNat i))] [(.ref o0), (.int (Int32.ofNat i))])) rfl rfl (hb hby d6_2) _ ?_
    rw [own_len Sa1]
    show Steps p.tables e below (s₁.setTop (mkF m 3 #[.val (.ref o0), .val (.int (Int32.ofNat i))] [(.int (Int32.ofNat n)), (.int (Int32.ofNat i))])) _
    refine st2 _ ?_
    show Steps p.tables e below (T2.setTop (mkF m 6 #[.val (.ref o0), .val (.int (Int32.ofNat i))] [])) _
    refine XS.aloadN X2.here hx rfl (hb hby d6_6) rfl rfl ?_
    show Steps p.tables e below (T2.setTop (mkF m 7 #[.val (.ref o0), .val (.int (Int32.ofNat i))] [(.ref o0)])) _
    refine XS.iloadN X2.here hx rfl (hb hby d6_7) rfl ?_
    show Steps p.tables e below (T2.setTop (mkF m 8 #[.val (.ref o0), .val (.int (Int32.ofNat i))] [(.int (Int32.ofNat i)), (.ref o0)])) _
    refine X2.baloadBytes hx (j := (Int32.ofNat i)) (v := (.int (f i))) (by rw [e2]; exact Ar3.1) (State.isArrayOf_alike hZ.alike Ar3.2.1) Ar3.2.2 hin3 hat3 (g := (mkF m 8 #[.val (.ref o0), .val (.int (Int32.ofNat i))] [(.int (Int32.ofNat i)), (.ref o0)])) rfl rfl (hb hby d6_8) _ ?_
    show Steps p.tables e below (T2.setTop (mkF m 9 #[.val (.ref o0), .val (.int (Int32.ofNat i))] [(.int (f i))])) _
    refine XS.sipush X2.here hx rfl (hb hby d6_9) ?_
    show Steps p.tables e below (T2.setTop (mkF m 12 #[.val (.ref o0), .val (.int (Int32.ofNat i))] [(.int (255 : Int32)), (.int (f i))])) _
    refine XS.iand X2.here hx rfl (hb hby d6_12) rfl ?_
    show Steps p.tables e below (T2.setTop (mkF m 13 #[.val (.ref o0), .val (.int (Int32.ofNat i))] [(.int ((f i) &&& (255 : Int32)))])) _
    refine XS.i2c X2.here hx rfl (hb hby d6_13) rfl ?_
    show Steps p.tables e below (T2.setTop (mkF m 14 #[.val (.ref o0), .val (.int (Int32.ofNat i))] [(.int (((f i) &&& (255 : Int32)).toUInt32.toUInt16.toUInt32.toInt32))])) _
    exact retN X2 hx (t := .char) Bd.returns (by simp) (hb hby d6_14) hr
  · show QC h0 n0 _ T2.heap _
    rw [e2]
    exact ⟨_, rfl, N2, rfl, by rw [own_narc (by rw [own_i2c (own_and255 _).1 (own_and255 _).2]; exact (own_and255 _).1) (by rw [own_i2c (own_and255 _).1 (own_and255 _).2]; exact (own_and255 _).2), own_i2c (own_and255 _).1 (own_and255 _).2]; exact own_and255 _⟩
theorem d4_0 : decode jdk_42_method_56_code 0 = .ok (.aload_n 0, 1) := by decide +kernel
theorem d4_1 : decode jdk_42_method_56_code 1 = .ok (.invokevirtual 492, 3) := by decide +kernel
theorem pd___Z : parseMethodDescriptor "()Z" = some ⟨[], some .boolean⟩ := by decide +kernel
theorem d4_4 : decode jdk_42_method_56_code 4 = .ok (.ifCond .eq 12, 3) := by decide +kernel
theorem d4_7 : decode jdk_42_method_56_code 7 = .ok (.aload_n 0, 1) := by decide +kernel
theorem d4_8 : decode jdk_42_method_56_code 8 = .ok (.getfield 9, 3) := by decide +kernel
theorem d4_11 : decode jdk_42_method_56_code 11 = .ok (.iload_n 1, 1) := by decide +kernel
theorem d4_12 : decode jdk_42_method_56_code 12 = .ok (.invokestatic 495, 3) := by decide +kernel
theorem pd___BI_C : parseMethodDescriptor "([BI)C" = some ⟨[(.array .byte), .int], some .char⟩ := by decide +kernel
theorem d4_15 : decode jdk_42_method_56_code 15 = .ok (.ireturn, 1) := by decide +kernel
theorem pn_4 : plainName "java/lang/String" = true := by first | (simp [plainName, overriddenIn]; done) | decide +kernel
theorem ef_rCh (m : MethodId) (x0 : Addr) (x1 : Int32) : entryFrame m #[(.ref x0), (.int x1)] 2 = mkF m 0 #[.val (.ref x0), .val (.int x1)] [] := by first | (simp [entryFrame, mkF, argsToLocals, Value.category]; done) | rfl
set_option maxRecDepth 65536 in
set_option maxHeartbeats 40000000 in
theorem rCh (l : Launch) (Z : State) (a0 : Array Value) (hw : ∀ d ∈ tables_1, d.before a0 Z = true) (ws : List Jvm.Cond) (o0 : Addr) (v0 : Addr) (k0 : ClassId) (n : Nat) (f : Nat → Int32) (i : Nat) (hi : i < n) (hn : n ≤ 4000) (h0 : Heap) (n0 : Nat) (Z0 : n0 ≤ h0.size) (R_s : SB Z h0 o0 v0 k0 n f) (cs : Int32) (hcs : ¬ cs = (0 : Int32)) (S_C : Sta Z h0 "java/lang/String" "COMPACT_STRINGS" "Z" (.int cs)) (fm : Value) (hfm : fm.isRef = true) (S_F : Sta Z h0 "jdk/internal/util/Preconditions" "SIOOBE_FORMATTER" "Ljava/util/function/BiFunction;" fm) :
    MetFree l (⟨"java/lang/String", "charAt", "(I)C"⟩ : MethodName) (head1 (Jvm.Cond.code (⟨"java/lang/String", "charAt", "(I)C"⟩ : MethodName) jdk_42_method_56_code 2 (some .char) :: ws) ({ frames := 3, cells := 0, slots := 0, locals := 40 } : Room)) (fun a U => a = #[(.ref o0), (.int (Int32.ofNat i))] ∧ Z.Warmed39 U.vm ∧ U.heap = h0) (fun _ _ _ _ _ => True) (fun _ U o U' => ∃ v L, o = .returned v ∧ QC h0 n0 v U'.heap L ∧ FrameEnd U o U' L ({ frames := 3, cells := 0, slots := 0, locals := 40 } : Room).cells ({ frames := 3, cells := 0, slots := 0, locals := 40 } : Room).slots) := by
  refine MetFree.of_bodySF (plainFor_of_name pn_4) hisR ?_
  intro p e s m args below meth c s₁ Bd hml0 hP hK
  obtain ⟨rfl, hZ, hh⟩ := hP
  have hx := Bd.exec
  have hby := Bd.bytes
  have hml : c.maxLocals = 2 := hml0
  have hown : s.vm.findClass "java/lang/String" = some m.cls := findClass_of_methodNamed Bd.named
  have hnm := (name_of_methodNamed Bd.named Bd.method).1
  have X0 : Stand p l e ({ frames := 3, cells := 0, slots := 0, locals := 40 } : Room) s m #[(.ref o0), (.int (Int32.ofNat i))] below meth c s₁ [] 0 0 := Stand.of_body Bd
  have e0 : s₁.heap = h0 := by rw [← hh, Bd.state]; rfl
  have N0 := Fr.nil n0
  have pre0 : ∀ t, Steps p.tables e below (s₁.setTop (mkF m 0 #[.val (.ref o0), .val (.int (Int32.ofNat i))] [])) t → Steps p.tables e below (s₁.setTop (entryFrame m #[(.ref o0), (.int (Int32.ofNat i))] 2)) t := fun t k => castTop (ef_rCh m o0 (Int32.ofNat i)) k
  obtain ⟨E, Fc, Fv, Va⟩ := id R_s
  obtain ⟨cq1, kq1, q1a, q1b, q1c⟩ := isOf hZ e0 E
  obtain ⟨_, _, ⟨T1, L1, k1, n1⟩, -, X1, ⟨Lc1, hQ1, l1, y1, z1⟩, st1⟩ := X0.virtualBack hx (y := (⟨"java/lang/String", "isLatin1", "()Z"⟩ : MethodName)) (z := (⟨"java/lang/String", "isLatin1", "()Z"⟩ : MethodName)) hown (mvT hZ (hw _ (List.mem_of_getElem? (i := 32) rfl))) (mvT hZ (hw _ (List.mem_of_getElem? (i := 33) rfl))) (notFace_of_selects (args := #[]) (mvT hZ (hw _ (List.mem_of_getElem? (i := 35) rfl)))) (mvT hZ (hw _ (List.mem_of_getElem? (i := 35) rfl))) (mvT hZ (hw _ (List.mem_of_getElem? (i := 34) rfl))) (by decide) (backOf (W := 0) (rLat l Z a0 hw [] o0 h0 n0 Z0 cs hcs S_C Fc) hZ (hw _ (List.mem_of_getElem? (i := 36) rfl)) (hw _ (List.mem_of_getElem? (i := 3) rfl)) (by decide) (by decide)) q1a q1c (g := (mkF m 1 #[.val (.ref o0), .val (.int (Int32.ofNat i))] [(.ref o0)])) rfl (by rw [hml]; rfl) (Steps.refl _) (argsL := []) (rest := []) (lenOf pd___Z rfl) rfl (by show 2 * 0 + _ ≤ _; exact Nat.le_of_eq rfl) (hb hby d4_1) (fun _ _ => ⟨rfl, e0, (by decide : 0 + 0 ≤ _), (by decide : 0 + 0 ≤ _)⟩)
  dsimp only [Pt.U, Pt.locs, Pt.cells, Pt.slots] at X1 l1 y1 z1 st1 hQ1
  rw [l1, y1, z1] at X1
  obtain ⟨rfl, N1q, e1⟩ := hQ1
  have N1 := Fr.app N0 N1q
  obtain ⟨T2, X2, e2, st2⟩ := getF X1 hx hZ hown (host := "") (Or.inl (hw _ (List.mem_of_getElem? (i := 15) rfl))) Via.refl e1 Fv (g := (mkF m 8 #[.val (.ref o0), .val (.int (Int32.ofNat i))] [(.ref o0)])) rfl rfl (hb hby d4_8)
  obtain ⟨_, _, ⟨T3, L3, k3, n3⟩, -, X3, ⟨Lc3, hQ3, l3, y3, z3⟩, st3⟩ := Jvm.LawKit.callS X2 hx (y := (⟨"java/lang/StringLatin1", "charAt", "([BI)C"⟩ : MethodName)) hown (mvT hZ (hw _ (List.mem_of_getElem? (i := 37) rfl))) (mvT hZ (hw _ (List.mem_of_getElem? (i := 38) rfl))) (mvT hZ (hw _ (List.mem_of_getElem? (i := 39) rfl))) (mvT hZ (hw _ (List.mem_of_getElem? (i := 40) rfl))) (by decide) (backOf (W := 0) (rLch l Z a0 hw [] v0 k0 n i f hn hi h0 n0 Z0 fm hfm S_F Va) hZ (hw _ (List.mem_of_getElem? (i := 40) rfl)) (hw _ (List.mem_of_getElem? (i := 39) rfl)) (by decide) (by decide)) (g := (mkF m 12 #[.val (.ref o0), .val (.int (Int32.ofNat i))] [(.int (Int32.ofNat i)), (.ref v0)])) rfl (by rw [hml]; rfl) (argsL := [(.ref v0), (.int (Int32.ofNat i))]) (rest := []) (lenOf pd___BI_C rfl) rfl (by show 2 * 0 + _ ≤ _; exact Nat.le_of_eq rfl) (hb hby d4_12) (fun _ _ => ⟨rfl, e2, (by decide : 0 + 0 ≤ _), (by decide : 0 + 0 ≤ _)⟩)
  dsimp only [Pt.U, Pt.locs, Pt.cells, Pt.slots] at X3 l3 y3 z3 st3 hQ3
  rw [l3, y3, z3] at X3
  obtain ⟨z3c, rfl, N3q, e3, hz30, hz31⟩ := hQ3
  have N3 := Fr.app N1 N3q
  obtain ⟨fs, hr, hrun, hended, hW, hsame⟩ := X3.leave (v := some (.int (nar .char z3c))) (fun h => by rw [Bd.returns] at h; cases h)
  refine ⟨_, _, pre0 _ ?_, hrun, hended, _, _, rfl, ?_, ⟨_, rfl⟩, hW, hsame.mono (by decide) (by decide)⟩
  · skip
    show Steps p.tables e below (s₁.setTop (mkF m 0 #[.val (.ref o0), .val (.int (Int32.ofNat i))] [])) _
    refine XS.aloadN X0.here hx rfl (hb hby d4_0) rfl rfl ?_
    show Steps p.tables e below (s₁.setTop (mkF m 1 #[.val (.ref o0), .val (.int (Int32.ofNat i))] [(.ref o0)])) _
    refine st1.trans ?_
    show Steps p.tables e below (T1.setTop (mkF m 4 #[.val (.ref o0), .val (.int (Int32.ofNat i))] [(.int (1 : Int32))])) _
    refine XS.ifNo X1.here hx rfl (hb hby d4_4) rfl ((if0 _ _).trans (feq (by decide : ¬ ((1 : Int32) = (0 : Int32)))).1) ?_
    show Steps p.tables e below (T1.setTop (mkF m 7 #[.val (.ref o0), .val (.int (Int32.ofNat i))] [])) _
    refine XS.aloadN X1.here hx rfl (hb hby d4_7) rfl rfl ?_
    show Steps p.tables e below (T1.setTop (mkF m 8 #[.val (.ref o0), .val (.int (Int32.ofNat i))] [(.ref o0)])) _
    refine st2 _ ?_
    show Steps p.tables e below (T2.setTop (mkF m 11 #[.val (.ref o0), .val (.int (Int32.ofNat i))] [(.ref v0)])) _
    refine XS.iloadN X2.here hx rfl (hb hby d4_11) rfl ?_
    show Steps p.tables e below (T2.setTop (mkF m 12 #[.val (.ref o0), .val (.int (Int32.ofNat i))] [(.int (Int32.ofNat i)), (.ref v0)])) _
    refine st3 _ ?_
    show Steps p.tables e below (T3.setTop (mkF m 15 #[.val (.ref o0), .val (.int (Int32.ofNat i))] [(.int z3c)])) _
    exact retN X3 hx (t := .char) Bd.returns (by simp) (hb hby d4_15) hr
  · show QC h0 n0 _ T3.heap _
    rw [e3]
    exact ⟨_, rfl, N3, rfl, by rw [own_narc hz30 hz31]; exact ⟨hz30, hz31⟩⟩
theorem d3_0 : decode method_3_code 0 = .ok (.iload_n 1, 1) := by decide +kernel
theorem d3_1 : decode method_3_code 1 = .ok (.aload_n 0, 1) := by decide +kernel
theorem d3_2 : decode method_3_code 2 = .ok (.invokevirtual 14, 3) := by decide +kernel
theorem pd___I : parseMethodDescriptor "()I" = some ⟨[], some .int⟩ := by decide +kernel
theorem d3_5 : decode method_3_code 5 = .ok (.if_icmp .ge 11, 3) := by decide +kernel
theorem d3_8 : decode method_3_code 8 = .ok (.aload_n 0, 1) := by decide +kernel
theorem d3_9 : decode method_3_code 9 = .ok (.iload_n 1, 1) := by decide +kernel
theorem d3_10 : decode method_3_code 10 = .ok (.invokevirtual 48, 3) := by decide +kernel
theorem pd__I_C : parseMethodDescriptor "(I)C" = some ⟨[.int], some .char⟩ := by decide +kernel
theorem d3_13 : decode method_3_code 13 = .ok (.goto 4, 3) := by decide +kernel
theorem d3_17 : decode method_3_code 17 = .ok (.ireturn, 1) := by decide +kernel
theorem d3_16 : decode method_3_code 16 = .ok (.iconst 0, 1) := by decide +kernel
theorem pn_3 : plainName "heslar/KindByCodePinLaw" = true := by first | (simp [plainName, overriddenIn]; done) | decide +kernel
theorem ef_rAt (m : MethodId) (x0 : Addr) (x1 : Int32) : entryFrame m #[(.ref x0), (.int x1)] 2 = mkF m 0 #[.val (.ref x0), .val (.int x1)] [] := by first | (simp [entryFrame, mkF, argsToLocals, Value.category]; done) | rfl
set_option maxRecDepth 65536 in
set_option maxHeartbeats 40000000 in
theorem rAt (l : Launch) (Z : State) (a0 : Array Value) (hw : ∀ d ∈ tables_1, d.before a0 Z = true) (ws : List Jvm.Cond) (o0 : Addr) (v0 : Addr) (k0 : ClassId) (n : Nat) (f : Nat → Int32) (i : Nat) (hi4 : i < 4000) (hn : n ≤ 4000) (h0 : Heap) (n0 : Nat) (Z0 : n0 ≤ h0.size) (R_s : SB Z h0 o0 v0 k0 n f) (cs : Int32) (hcs : ¬ cs = (0 : Int32)) (S_C : Sta Z h0 "java/lang/String" "COMPACT_STRINGS" "Z" (.int cs)) (fm : Value) (hfm : fm.isRef = true) (S_F : Sta Z h0 "jdk/internal/util/Preconditions" "SIOOBE_FORMATTER" "Ljava/util/function/BiFunction;" fm) :
    MetFree l (⟨"heslar/KindByCodePinLaw", "at", "(Ljava/lang/String;I)C"⟩ : MethodName) (head1 (Jvm.Cond.code (⟨"heslar/KindByCodePinLaw", "at", "(Ljava/lang/String;I)C"⟩ : MethodName) method_3_code 2 (some .char) :: ws) ({ frames := 4, cells := 0, slots := 0, locals := 53 } : Room)) (fun a U => a = #[(.ref o0), (.int (Int32.ofNat i))] ∧ Z.Warmed39 U.vm ∧ U.heap = h0) (fun _ _ _ _ _ => True) (fun _ U o U' => ∃ v L, o = .returned v ∧ QC h0 n0 v U'.heap L ∧ FrameEnd U o U' L ({ frames := 4, cells := 0, slots := 0, locals := 53 } : Room).cells ({ frames := 4, cells := 0, slots := 0, locals := 53 } : Room).slots) := by
  refine MetFree.of_bodySF (plainFor_of_name pn_3) hisR ?_
  intro p e s m args below meth c s₁ Bd hml0 hP hK
  obtain ⟨rfl, hZ, hh⟩ := hP
  have hx := Bd.exec
  have hby := Bd.bytes
  have hml : c.maxLocals = 2 := hml0
  have hown : s.vm.findClass "heslar/KindByCodePinLaw" = some m.cls := findClass_of_methodNamed Bd.named
  have hnm := (name_of_methodNamed Bd.named Bd.method).1
  have X0 : Stand p l e ({ frames := 4, cells := 0, slots := 0, locals := 53 } : Room) s m #[(.ref o0), (.int (Int32.ofNat i))] below meth c s₁ [] 0 0 := Stand.of_body Bd
  have e0 : s₁.heap = h0 := by rw [← hh, Bd.state]; rfl
  have N0 := Fr.nil n0
  have pre0 : ∀ t, Steps p.tables e below (s₁.setTop (mkF m 0 #[.val (.ref o0), .val (.int (Int32.ofNat i))] [])) t → Steps p.tables e below (s₁.setTop (entryFrame m #[(.ref o0), (.int (Int32.ofNat i))] 2)) t := fun t k => castTop (ef_rAt m o0 (Int32.ofNat i)) k
  obtain ⟨E, Fc, Fv, Va⟩ := id R_s
  obtain ⟨cq1, kq1, q1a, q1b, q1c⟩ := isOf hZ e0 E
  obtain ⟨_, _, ⟨T1, L1, k1, n1⟩, -, X1, ⟨Lc1, hQ1, l1, y1, z1⟩, st1⟩ := X0.virtualBack hx (y := (⟨"java/lang/String", "length", "()I"⟩ : MethodName)) (z := (⟨"java/lang/String", "length", "()I"⟩ : MethodName)) hown (mvT hZ (hw _ (List.mem_of_getElem? (i := 10) rfl))) (mvT hZ (hw _ (List.mem_of_getElem? (i := 11) rfl))) (notFace_of_selects (args := #[]) (mvT hZ (hw _ (List.mem_of_getElem? (i := 13) rfl)))) (mvT hZ (hw _ (List.mem_of_getElem? (i := 13) rfl))) (mvT hZ (hw _ (List.mem_of_getElem? (i := 12) rfl))) (by decide) (backOf (W := 1) (rLen l Z a0 hw [] o0 v0 k0 n f hn h0 n0 Z0 R_s cs hcs S_C) hZ (hw _ (List.mem_of_getElem? (i := 14) rfl)) (hw _ (List.mem_of_getElem? (i := 3) rfl)) (by decide) (by decide)) q1a q1c (g := (mkF m 2 #[.val (.ref o0), .val (.int (Int32.ofNat i))] [(.ref o0), (.int (Int32.ofNat i))])) rfl (by rw [hml]; rfl) (Steps.refl _) (argsL := []) (rest := [(.int (Int32.ofNat i))]) (lenOf pd___I rfl) rfl (by show 2 * 0 + _ ≤ _; exact Nat.le_of_eq rfl) (hb hby d3_2) (fun _ _ => ⟨rfl, e0, (by decide : 0 + 0 ≤ _), (by decide : 0 + 0 ≤ _)⟩)
  dsimp only [Pt.U, Pt.locs, Pt.cells, Pt.slots] at X1 l1 y1 z1 st1 hQ1
  rw [l1, y1, z1] at X1
  obtain ⟨rfl, N1q, e1⟩ := hQ1
  have N1 := Fr.app N0 N1q
  have pre2 : ∀ t, Steps p.tables e below (T1.setTop (mkF m 5 #[.val (.ref o0), .val (.int (Int32.ofNat i))] [(.int (Int32.ofNat n)), (.int (Int32.ofNat i))])) t → Steps p.tables e below (s₁.setTop (entryFrame m #[(.ref o0), (.int (Int32.ofNat i))] 2)) t := by
    intro t kt
    refine pre0 t ?_
    show Steps p.tables e below (s₁.setTop (mkF m 0 #[.val (.ref o0), .val (.int (Int32.ofNat i))] [])) _
    refine XS.iloadN X0.here hx rfl (hb hby d3_0) rfl ?_
    show Steps p.tables e below (s₁.setTop (mkF m 1 #[.val (.ref o0), .val (.int (Int32.ofNat i))] [(.int (Int32.ofNat i))])) _
    refine XS.aloadN X0.here hx rfl (hb hby d3_1) rfl rfl ?_
    show Steps p.tables e below (s₁.setTop (mkF m 2 #[.val (.ref o0), .val (.int (Int32.ofNat i))] [(.ref o0), (.int (Int32.ofNat i))])) _
    refine st1.trans ?_
    exact kt
  by_cases hc3 : (Int32.ofNat i) < (Int32.ofNat n)
  · skip
    have hc3' : i < n := (own_ltI (by omega) (by omega)).mp hc3
    obtain ⟨cq4, kq4, q4a, q4b, q4c⟩ := isOf hZ e1 E
    obtain ⟨_, _, ⟨T4, L4, k4, n4⟩, -, X4, ⟨Lc4, hQ4, l4, y4, z4⟩, st4⟩ := X1.virtualBack hx (y := (⟨"java/lang/String", "charAt", "(I)C"⟩ : MethodName)) (z := (⟨"java/lang/String", "charAt", "(I)C"⟩ : MethodName)) hown (mvT hZ (hw _ (List.mem_of_getElem? (i := 27) rfl))) (mvT hZ (hw _ (List.mem_of_getElem? (i := 28) rfl))) (notFace_of_selects (args := #[]) (mvT hZ (hw _ (List.mem_of_getElem? (i := 30) rfl)))) (mvT hZ (hw _ (List.mem_of_getElem? (i := 30) rfl))) (mvT hZ (hw _ (List.mem_of_getElem? (i := 29) rfl))) (by decide) (backOf (W := 0) (rCh l Z a0 hw [] o0 v0 k0 n f i hc3' hn h0 n0 Z0 R_s cs hcs S_C fm hfm S_F) hZ (hw _ (List.mem_of_getElem? (i := 31) rfl)) (hw _ (List.mem_of_getElem? (i := 3) rfl)) (by decide) (by decide)) q4a q4c (g := (mkF m 10 #[.val (.ref o0), .val (.int (Int32.ofNat i))] [(.int (Int32.ofNat i)), (.ref o0)])) rfl (by rw [hml]; rfl) (Steps.refl _) (argsL := [(.int (Int32.ofNat i))]) (rest := []) (lenOf pd__I_C rfl) rfl (by show 2 * 0 + _ ≤ _; exact Nat.le_of_eq rfl) (hb hby d3_10) (fun _ _ => ⟨rfl, e1, (by decide : 0 + 0 ≤ _), (by decide : 0 + 0 ≤ _)⟩)
    dsimp only [Pt.U, Pt.locs, Pt.cells, Pt.slots] at X4 l4 y4 z4 st4 hQ4
    rw [l4, y4, z4] at X4
    obtain ⟨z4c, rfl, N4q, e4, hz40, hz41⟩ := hQ4
    have N4 := Fr.app N1 N4q
    obtain ⟨fs, hr, hrun, hended, hW, hsame⟩ := X4.leave (v := some (.int (nar .char z4c))) (fun h => by rw [Bd.returns] at h; cases h)
    refine ⟨_, _, pre2 _ ?_, hrun, hended, _, _, rfl, ?_, ⟨_, rfl⟩, hW, hsame.mono (by decide) (by decide)⟩
    · skip
      show Steps p.tables e below (T1.setTop (mkF m 5 #[.val (.ref o0), .val (.int (Int32.ofNat i))] [(.int (Int32.ofNat n)), (.int (Int32.ofNat i))])) _
      refine XS.icmpNo X1.here hx rfl (hb hby d3_5) rfl (tlt hc3).2.1 ?_
      show Steps p.tables e below (T1.setTop (mkF m 8 #[.val (.ref o0), .val (.int (Int32.ofNat i))] [])) _
      refine XS.aloadN X1.here hx rfl (hb hby d3_8) rfl rfl ?_
      show Steps p.tables e below (T1.setTop (mkF m 9 #[.val (.ref o0), .val (.int (Int32.ofNat i))] [(.ref o0)])) _
      refine XS.iloadN X1.here hx rfl (hb hby d3_9) rfl ?_
      show Steps p.tables e below (T1.setTop (mkF m 10 #[.val (.ref o0), .val (.int (Int32.ofNat i))] [(.int (Int32.ofNat i)), (.ref o0)])) _
      refine st4.trans ?_
      show Steps p.tables e below (T4.setTop (mkF m 13 #[.val (.ref o0), .val (.int (Int32.ofNat i))] [(.int z4c)])) _
      refine XS.goto X4.here hx rfl (pc0 := 13) (pc' := 17) rfl (hb hby d3_13) (by decide) (by decide) ?_
      show Steps p.tables e below (T4.setTop (mkF m 17 #[.val (.ref o0), .val (.int (Int32.ofNat i))] [(.int z4c)])) _
      exact retN X4 hx (t := .char) Bd.returns (by simp) (hb hby d3_17) hr
    · show QC h0 n0 _ T4.heap _
      rw [e4]
      exact ⟨_, rfl, N4, rfl, by rw [own_narc hz40 hz41]; exact ⟨hz40, hz41⟩⟩
  · skip
    obtain ⟨fs, hr, hrun, hended, hW, hsame⟩ := X1.leave (v := some (.int (0 : Int32))) (fun h => by rw [Bd.returns] at h; cases h)
    refine ⟨_, _, pre2 _ ?_, hrun, hended, _, _, rfl, ?_, ⟨_, rfl⟩, hW, hsame.mono (by decide) (by decide)⟩
    · skip
      show Steps p.tables e below (T1.setTop (mkF m 5 #[.val (.ref o0), .val (.int (Int32.ofNat i))] [(.int (Int32.ofNat n)), (.int (Int32.ofNat i))])) _
      refine XS.icmpYes X1.here hx rfl (pc0 := 5) (pc' := 16) rfl (hb hby d3_5) rfl (flt hc3).2.1 (by decide) (by decide) ?_
      show Steps p.tables e below (T1.setTop (mkF m 16 #[.val (.ref o0), .val (.int (Int32.ofNat i))] [])) _
      refine XS.iconst X1.here hx rfl (hb hby d3_16) ?_
      show Steps p.tables e below (T1.setTop (mkF m 17 #[.val (.ref o0), .val (.int (Int32.ofNat i))] [(.int (0 : Int32))])) _
      exact retN X1 hx (t := .char) Bd.returns (by simp) (hb hby d3_17) hr
    · show QC h0 n0 _ T1.heap _
      rw [e1]
      exact ⟨_, rfl, N1, rfl, by decide⟩
theorem own_inj {i j : Nat} (hi : i < 2147483648) (hj : j < 2147483648) : Int32.ofNat i = Int32.ofNat j ↔ i = j := by
  constructor
  · intro h; have := congrArg Int32.toInt h; rw [own_i32 hi, own_i32 hj] at this; omega
  · intro h; rw [h]
theorem d19_9 : decode jdk_43_method_13_code 9 = .ok (.iload_n 2, 1) := by decide +kernel
theorem d19_10 : decode jdk_43_method_13_code 10 = .ok (.aload_n 0, 1) := by decide +kernel
theorem d19_11 : decode jdk_43_method_13_code 11 = .ok (.arraylength, 1) := by decide +kernel
theorem d19_12 : decode jdk_43_method_13_code 12 = .ok (.if_icmp .ge 20, 3) := by decide +kernel
theorem d19_15 : decode jdk_43_method_13_code 15 = .ok (.aload_n 0, 1) := by decide +kernel
theorem d19_16 : decode jdk_43_method_13_code 16 = .ok (.iload_n 2, 1) := by decide +kernel
theorem d19_17 : decode jdk_43_method_13_code 17 = .ok (.baload, 1) := by decide +kernel
theorem d19_18 : decode jdk_43_method_13_code 18 = .ok (.aload_n 1, 1) := by decide +kernel
theorem d19_19 : decode jdk_43_method_13_code 19 = .ok (.iload_n 2, 1) := by decide +kernel
theorem d19_20 : decode jdk_43_method_13_code 20 = .ok (.baload, 1) := by decide +kernel
theorem d19_21 : decode jdk_43_method_13_code 21 = .ok (.if_icmp .eq 5, 3) := by decide +kernel
theorem d19_26 : decode jdk_43_method_13_code 26 = .ok (.iinc 2 1, 3) := by decide +kernel
theorem d19_29 : decode jdk_43_method_13_code 29 = .ok (.goto (-20), 3) := by decide +kernel
theorem d19_24 : decode jdk_43_method_13_code 24 = .ok (.iconst 0, 1) := by decide +kernel
set_option maxRecDepth 65536 in
set_option maxHeartbeats 40000000 in
theorem leT {p : Program} {l : Launch} {e : Env} {R : Room} {s : State} {m : MethodId} {args : Array Value} {below : List Frame} {meth : Method} {c : Code} {T0 : State} {locs : List Loc} {cells slots : Nat} {Z : State} {a0 : Array Value} {h0 : Heap} (o0 o1 : Addr) (k0 k1 : ClassId) (n i : Nat) (f f' : Nat → Int32) (X0 : Stand p l e R s m args below meth c T0 locs cells slots) (hx : p.tables.exec = Jvm.exec) (hZ : Z.Warmed39 s.vm) (hw : ∀ d ∈ tables_1, d.before a0 Z = true) (hby : c.code = jdk_43_method_13_code) (hml : c.maxLocals = 3) (hown : s.vm.findClass "java/lang/StringLatin1" = some m.cls) (e0 : T0.heap = h0) (hn : n ≤ 4000) (hi : i < n) (V_a : GA Z h0 o0 k0 .byte n (fun i => .int (f i))) (V_b : GA Z h0 o1 k1 .byte n (fun i => .int (f' i))) :
    ∃ T' : State, Stand p l e R s m args below meth c T' locs cells slots ∧ T'.heap = h0 ∧ ((f i ≠ f' i ∧ ∃ Ls, ∀ target, Steps p.tables e below (T'.setTop (mkF m 25 Ls [.int (0 : Int32)])) target → Steps p.tables e below (T0.setTop (mkF m 9 #[.val (.ref o0), .val (.ref o1), .val (.int (Int32.ofNat i))] [])) target) ∨ (f i = f' i ∧ ∀ target, Steps p.tables e below (T'.setTop (mkF m 9 #[.val (.ref o0), .val (.ref o1), .val (.int (Int32.ofNat (i + 1)))] [])) target → Steps p.tables e below (T0.setTop (mkF m 9 #[.val (.ref o0), .val (.ref o1), .val (.int (Int32.ofNat i))] [])) target)) := by
  have pre0 : ∀ t, Steps p.tables e below (T0.setTop (mkF m 9 #[.val (.ref o0), .val (.ref o1), .val (.int (Int32.ofNat i))] [])) t → Steps p.tables e below (T0.setTop (mkF m 9 #[.val (.ref o0), .val (.ref o1), .val (.int (Int32.ofNat i))] [])) t := fun _ k => k
  obtain ⟨cl1, Ar1, -, Sa1, -⟩ := id V_a
  obtain ⟨cl2, Ar2, qa2, Sa2, Ha2⟩ := id V_a
  have hin2 : ¬ ((Int32.ofNat i) < 0 ∨ cl2.slots.size ≤ (Int32.ofNat i).toNatClampNeg) := own_inb Sa2 hi (show n < 2147483648 by omega)
  have hat2 : cl2.slots[(Int32.ofNat i).toNatClampNeg]? = some (.int (f i)) := by rw [own_cl (Nat.lt_trans hi (show n < 2147483648 by omega))]; exact Ha2 i hi
  obtain ⟨cl3, Ar3, qa3, Sa3, Ha3⟩ := id V_b
  have hin3 : ¬ ((Int32.ofNat i) < 0 ∨ cl3.slots.size ≤ (Int32.ofNat i).toNatClampNeg) := own_inb Sa3 hi (show n < 2147483648 by omega)
  have hat3 : cl3.slots[(Int32.ofNat i).toNatClampNeg]? = some (.int (f' i)) := by rw [own_cl (Nat.lt_trans hi (show n < 2147483648 by omega))]; exact Ha3 i hi
  have pre4 : ∀ t, Steps p.tables e below (T0.setTop (mkF m 21 #[.val (.ref o0), .val (.ref o1), .val (.int (Int32.ofNat i))] [(.int (f' i)), (.int (f i))])) t → Steps p.tables e below (T0.setTop (mkF m 9 #[.val (.ref o0), .val (.ref o1), .val (.int (Int32.ofNat i))] [])) t := by
    intro t kt
    refine pre0 t ?_
    show Steps p.tables e below (T0.setTop (mkF m 9 #[.val (.ref o0), .val (.ref o1), .val (.int (Int32.ofNat i))] [])) _
    refine XS.iloadN X0.here hx rfl (hb hby d19_9) rfl ?_
    show Steps p.tables e below (T0.setTop (mkF m 10 #[.val (.ref o0), .val (.ref o1), .val (.int (Int32.ofNat i))] [(.int (Int32.ofNat i))])) _
    refine XS.aloadN X0.here hx rfl (hb hby d19_10) rfl rfl ?_
    show Steps p.tables e below (T0.setTop (mkF m 11 #[.val (.ref o0), .val (.ref o1), .val (.int (Int32.ofNat i))] [(.ref o0), (.int (Int32.ofNat i))])) _
    refine X0.arraylength hx (by rw [e0]; exact Ar1.1) (State.isArrayOf_alike hZ.alike Ar1.2.1) (g := (mkF m 11 #[.val (.ref o0), .val (.ref o1), .val (.int (Int32.ofNat i))] [(.ref o0), (.int (Int32.ofNat i))])) rfl rfl (hb hby d19_11) _ ?_
    rw [own_len Sa1]
    show Steps p.tables e below (T0.setTop (mkF m 12 #[.val (.ref o0), .val (.ref o1), .val (.int (Int32.ofNat i))] [(.int (Int32.ofNat n)), (.int (Int32.ofNat i))])) _
    refine XS.icmpNo X0.here hx rfl (hb hby d19_12) rfl (tlt ((own_ltI (by omega) (by omega)).mpr hi)).2.1 ?_
    show Steps p.tables e below (T0.setTop (mkF m 15 #[.val (.ref o0), .val (.ref o1), .val (.int (Int32.ofNat i))] [])) _
    refine XS.aloadN X0.here hx rfl (hb hby d19_15) rfl rfl ?_
    show Steps p.tables e below (T0.setTop (mkF m 16 #[.val (.ref o0), .val (.ref o1), .val (.int (Int32.ofNat i))] [(.ref o0)])) _
    refine XS.iloadN X0.here hx rfl (hb hby d19_16) rfl ?_
    show Steps p.tables e below (T0.setTop (mkF m 17 #[.val (.ref o0), .val (.ref o1), .val (.int (Int32.ofNat i))] [(.int (Int32.ofNat i)), (.ref o0)])) _
    refine X0.baloadBytes hx (j := (Int32.ofNat i)) (v := (.int (f i))) (by rw [e0]; exact Ar2.1) (State.isArrayOf_alike hZ.alike Ar2.2.1) Ar2.2.2 hin2 hat2 (g := (mkF m 17 #[.val (.ref o0), .val (.ref o1), .val (.int (Int32.ofNat i))] [(.int (Int32.ofNat i)), (.ref o0)])) rfl rfl (hb hby d19_17) _ ?_
    show Steps p.tables e below (T0.setTop (mkF m 18 #[.val (.ref o0), .val (.ref o1), .val (.int (Int32.ofNat i))] [(.int (f i))])) _
    refine XS.aloadN X0.here hx rfl (hb hby d19_18) rfl rfl ?_
    show Steps p.tables e below (T0.setTop (mkF m 19 #[.val (.ref o0), .val (.ref o1), .val (.int (Int32.ofNat i))] [(.ref o1), (.int (f i))])) _
    refine XS.iloadN X0.here hx rfl (hb hby d19_19) rfl ?_
    show Steps p.tables e below (T0.setTop (mkF m 20 #[.val (.ref o0), .val (.ref o1), .val (.int (Int32.ofNat i))] [(.int (Int32.ofNat i)), (.ref o1), (.int (f i))])) _
    refine X0.baloadBytes hx (j := (Int32.ofNat i)) (v := (.int (f' i))) (by rw [e0]; exact Ar3.1) (State.isArrayOf_alike hZ.alike Ar3.2.1) Ar3.2.2 hin3 hat3 (g := (mkF m 20 #[.val (.ref o0), .val (.ref o1), .val (.int (Int32.ofNat i))] [(.int (Int32.ofNat i)), (.ref o1), (.int (f i))])) rfl rfl (hb hby d19_20) _ ?_
    exact kt
  by_cases hc5 : (f i) = (f' i)
  · skip
    have pre6 : ∀ t, Steps p.tables e below (T0.setTop (mkF m 9 #[.val (.ref o0), .val (.ref o1), .val (.int ((Int32.ofNat i) + (1 : Int32)))] [])) t → Steps p.tables e below (T0.setTop (mkF m 9 #[.val (.ref o0), .val (.ref o1), .val (.int (Int32.ofNat i))] [])) t := by
      intro t kt
      refine pre4 t ?_
      show Steps p.tables e below (T0.setTop (mkF m 21 #[.val (.ref o0), .val (.ref o1), .val (.int (Int32.ofNat i))] [(.int (f' i)), (.int (f i))])) _
      refine XS.icmpYes X0.here hx rfl (pc0 := 21) (pc' := 26) rfl (hb hby d19_21) rfl (teq hc5).1 (by decide) (by decide) ?_
      show Steps p.tables e below (T0.setTop (mkF m 26 #[.val (.ref o0), .val (.ref o1), .val (.int (Int32.ofNat i))] [])) _
      refine XS.iinc X0.here hx rfl (hb hby d19_26) rfl (l' := #[.val (.ref o0), .val (.ref o1), .val (.int ((Int32.ofNat i) + (1 : Int32)))]) rfl ?_
      show Steps p.tables e below (T0.setTop (mkF m 29 #[.val (.ref o0), .val (.ref o1), .val (.int ((Int32.ofNat i) + (1 : Int32)))] [])) _
      refine XS.goto X0.here hx rfl (pc0 := 29) (pc' := 9) rfl (hb hby d19_29) (by decide) (by decide) ?_
      exact kt
    exact ⟨T0, X0, e0, Or.inr ⟨hc5, fun target kt => pre6 target (by rw [own_oneI]; exact kt)⟩⟩
  · skip
    have pre7 : ∀ t, Steps p.tables e below (T0.setTop (mkF m 25 #[.val (.ref o0), .val (.ref o1), .val (.int (Int32.ofNat i))] [(.int (0 : Int32))])) t → Steps p.tables e below (T0.setTop (mkF m 9 #[.val (.ref o0), .val (.ref o1), .val (.int (Int32.ofNat i))] [])) t := by
      intro t kt
      refine pre4 t ?_
      show Steps p.tables e below (T0.setTop (mkF m 21 #[.val (.ref o0), .val (.ref o1), .val (.int (Int32.ofNat i))] [(.int (f' i)), (.int (f i))])) _
      refine XS.icmpNo X0.here hx rfl (hb hby d19_21) rfl (feq hc5).1 ?_
      show Steps p.tables e below (T0.setTop (mkF m 24 #[.val (.ref o0), .val (.ref o1), .val (.int (Int32.ofNat i))] [])) _
      refine XS.iconst X0.here hx rfl (hb hby d19_24) ?_
      exact kt
    exact ⟨T0, X0, e0, Or.inl ⟨hc5, _, fun target kt => pre7 target kt⟩⟩
theorem d19_32 : decode jdk_43_method_13_code 32 = .ok (.iconst 1, 1) := by decide +kernel
set_option maxRecDepth 65536 in
set_option maxHeartbeats 40000000 in
theorem leM {p : Program} {l : Launch} {e : Env} {R : Room} {s : State} {m : MethodId} {args : Array Value} {below : List Frame} {meth : Method} {c : Code} {T0 : State} {locs : List Loc} {cells slots : Nat} {Z : State} {a0 : Array Value} {h0 : Heap} (o0 o1 : Addr) (k0 k1 : ClassId) (n i : Nat) (f f' : Nat → Int32) (X0 : Stand p l e R s m args below meth c T0 locs cells slots) (hx : p.tables.exec = Jvm.exec) (hZ : Z.Warmed39 s.vm) (hw : ∀ d ∈ tables_1, d.before a0 Z = true) (hby : c.code = jdk_43_method_13_code) (hml : c.maxLocals = 3) (hown : s.vm.findClass "java/lang/StringLatin1" = some m.cls) (e0 : T0.heap = h0) (hn : n ≤ 4000)  (V_a : GA Z h0 o0 k0 .byte n (fun i => .int (f i))) (V_b : GA Z h0 o1 k1 .byte n (fun i => .int (f' i))) :
    ∃ T' : State, Stand p l e R s m args below meth c T' locs cells slots ∧ T'.heap = h0 ∧ ∃ Ls, ∀ target, Steps p.tables e below (T'.setTop (mkF m 33 Ls [.int (1 : Int32)])) target → Steps p.tables e below (T0.setTop (mkF m 9 #[.val (.ref o0), .val (.ref o1), .val (.int (Int32.ofNat n))] [])) target := by
  have pre0 : ∀ t, Steps p.tables e below (T0.setTop (mkF m 9 #[.val (.ref o0), .val (.ref o1), .val (.int (Int32.ofNat n))] [])) t → Steps p.tables e below (T0.setTop (mkF m 9 #[.val (.ref o0), .val (.ref o1), .val (.int (Int32.ofNat n))] [])) t := fun _ k => k
  obtain ⟨cl1, Ar1, -, Sa1, -⟩ := id V_a
  have pre2 : ∀ t, Steps p.tables e below (T0.setTop (mkF m 33 #[.val (.ref o0), .val (.ref o1), .val (.int (Int32.ofNat n))] [(.int (1 : Int32))])) t → Steps p.tables e below (T0.setTop (mkF m 9 #[.val (.ref o0), .val (.ref o1), .val (.int (Int32.ofNat n))] [])) t := by
    intro t kt
    refine pre0 t ?_
    show Steps p.tables e below (T0.setTop (mkF m 9 #[.val (.ref o0), .val (.ref o1), .val (.int (Int32.ofNat n))] [])) _
    refine XS.iloadN X0.here hx rfl (hb hby d19_9) rfl ?_
    show Steps p.tables e below (T0.setTop (mkF m 10 #[.val (.ref o0), .val (.ref o1), .val (.int (Int32.ofNat n))] [(.int (Int32.ofNat n))])) _
    refine XS.aloadN X0.here hx rfl (hb hby d19_10) rfl rfl ?_
    show Steps p.tables e below (T0.setTop (mkF m 11 #[.val (.ref o0), .val (.ref o1), .val (.int (Int32.ofNat n))] [(.ref o0), (.int (Int32.ofNat n))])) _
    refine X0.arraylength hx (by rw [e0]; exact Ar1.1) (State.isArrayOf_alike hZ.alike Ar1.2.1) (g := (mkF m 11 #[.val (.ref o0), .val (.ref o1), .val (.int (Int32.ofNat n))] [(.ref o0), (.int (Int32.ofNat n))])) rfl rfl (hb hby d19_11) _ ?_
    rw [own_len Sa1]
    show Steps p.tables e below (T0.setTop (mkF m 12 #[.val (.ref o0), .val (.ref o1), .val (.int (Int32.ofNat n))] [(.int (Int32.ofNat n)), (.int (Int32.ofNat n))])) _
    refine XS.icmpYes X0.here hx rfl (pc0 := 12) (pc' := 32) rfl (hb hby d19_12) rfl (flt (fun q => absurd ((own_ltI (by omega) (by omega)).mp q) (Nat.lt_irrefl n))).2.1 (by decide) (by decide) ?_
    show Steps p.tables e below (T0.setTop (mkF m 32 #[.val (.ref o0), .val (.ref o1), .val (.int (Int32.ofNat n))] [])) _
    refine XS.iconst X0.here hx rfl (hb hby d19_32) ?_
    exact kt
  exact ⟨T0, X0, e0, _, fun target kt => pre2 target kt⟩
theorem d19_25 : decode jdk_43_method_13_code 25 = .ok (.ireturn, 1) := by decide +kernel
theorem d19_33 : decode jdk_43_method_13_code 33 = .ok (.ireturn, 1) := by decide +kernel
set_option maxRecDepth 65536 in
set_option maxHeartbeats 40000000 in
theorem leL {p : Program} {l : Launch} {e : Env} {R : Room} {s : State} {m : MethodId} {args : Array Value} {below : List Frame} {meth : Method} {c : Code} {locs : List Loc} {cells slots : Nat} {Z : State} {a0 : Array Value} {h0 : Heap} (o0 o1 : Addr) (k0 k1 : ClassId) (n : Nat) (f f' : Nat → Int32) (hx : p.tables.exec = Jvm.exec) (hZ : Z.Warmed39 s.vm) (hw : ∀ d ∈ tables_1, d.before a0 Z = true) (hby : c.code = jdk_43_method_13_code) (hml : c.maxLocals = 3) (hown : s.vm.findClass "java/lang/StringLatin1" = some m.cls) (hn : n ≤ 4000) (V_a : GA Z h0 o0 k0 .byte n (fun i => .int (f i))) (V_b : GA Z h0 o1 k1 .byte n (fun i => .int (f' i))) (r : Int32) (hr : (r = 1 ∧ ∀ i, i < n → f i = f' i) ∨ (r = 0 ∧ ¬ ∀ i, i < n → f i = f' i)) :
    ∀ (k i : Nat) (T0 : State), i + k = n → (∀ j, j < i → f j = f' j) → Stand p l e R s m args below meth c T0 locs cells slots → T0.heap = h0 →
      ∃ (T' : State) (pc : Nat) (Ls : Array Slot), Stand p l e R s m args below meth c T' locs cells slots ∧ T'.heap = h0 ∧ decode c.code pc = .ok (.ireturn, 1) ∧ ∀ target, Steps p.tables e below (T'.setTop (mkF m pc Ls [.int r])) target → Steps p.tables e below (T0.setTop (mkF m 9 #[.val (.ref o0), .val (.ref o1), .val (.int (Int32.ofNat i))] [])) target := by
  intro k
  induction k with
  | zero =>
    intro i T0 hi hj X0 e0
    obtain rfl : i = n := by omega
    obtain ⟨T1, X1, e1, Ls, st⟩ := leM o0 o1 k0 k1 i i f f' X0 hx hZ hw hby hml hown e0 hn V_a V_b
    have : r = 1 := by
      rcases hr with q | q
      · exact q.1
      · exact absurd hj q.2
    subst this
    exact ⟨T1, 33, Ls, X1, e1, by rw [hby]; exact d19_33, st⟩
  | succ k ih =>
    intro i T0 hi hj X0 e0
    obtain ⟨T1, X1, e1, hc⟩ := leT o0 o1 k0 k1 n i f f' X0 hx hZ hw hby hml hown e0 hn (by omega) V_a V_b
    rcases hc with ⟨hne, Ls, st⟩ | ⟨he, st⟩
    · have : r = 0 := by
        rcases hr with q | q
        · exact absurd (q.2 i (by omega)) hne
        · exact q.1
      subst this
      exact ⟨T1, 25, Ls, X1, e1, by rw [hby]; exact d19_25, st⟩
    · obtain ⟨T2, pc, Ls, X2, e2, hd, st2⟩ := ih (i + 1) T1 (by omega) (fun j hj' => by
        rcases Nat.lt_or_ge j i with q | q
        · exact hj j q
        · rw [show j = i from by omega]; exact he) X1 e1
      exact ⟨T2, pc, Ls, X2, e2, hd, fun target kt => st target (st2 target kt)⟩
theorem d19_0 : decode jdk_43_method_13_code 0 = .ok (.aload_n 0, 1) := by decide +kernel
theorem d19_1 : decode jdk_43_method_13_code 1 = .ok (.arraylength, 1) := by decide +kernel
theorem d19_2 : decode jdk_43_method_13_code 2 = .ok (.aload_n 1, 1) := by decide +kernel
theorem d19_3 : decode jdk_43_method_13_code 3 = .ok (.arraylength, 1) := by decide +kernel
theorem d19_4 : decode jdk_43_method_13_code 4 = .ok (.if_icmp .ne 30, 3) := by decide +kernel
theorem d19_7 : decode jdk_43_method_13_code 7 = .ok (.iconst 0, 1) := by decide +kernel
theorem d19_8 : decode jdk_43_method_13_code 8 = .ok (.istore_n 2, 1) := by decide +kernel
theorem d19_34 : decode jdk_43_method_13_code 34 = .ok (.iconst 0, 1) := by decide +kernel
theorem d19_35 : decode jdk_43_method_13_code 35 = .ok (.ireturn, 1) := by decide +kernel
theorem pn_19 : plainName "java/lang/StringLatin1" = true := by first | (simp [plainName, overriddenIn]; done) | decide +kernel
theorem ef_rLe (m : MethodId) (x0 : Addr) (x1 : Addr) : entryFrame m #[(.ref x0), (.ref x1)] 3 = mkF m 0 #[.val (.ref x0), .val (.ref x1), .unset] [] := by first | (simp [entryFrame, mkF, argsToLocals, Value.category]; done) | rfl
set_option maxRecDepth 65536 in
set_option maxHeartbeats 40000000 in
theorem rLe (l : Launch) (Z : State) (a0 : Array Value) (hw : ∀ d ∈ tables_1, d.before a0 Z = true) (ws : List Jvm.Cond) (o0 : Addr) (o1 : Addr) (k0 k1 : ClassId) (n n' : Nat) (f f' : Nat → Int32) (r : Int32) (hn : n ≤ 4000) (hn' : n' ≤ 4000) (hrr : (r = (1 : Int32) ∧ Same n n' f f') ∨ (r = (0 : Int32) ∧ ¬ Same n n' f f')) (h0 : Heap) (n0 : Nat) (Z0 : n0 ≤ h0.size) (V_a : GA Z h0 o0 k0 .byte n (fun i => .int (f i))) (V_b : GA Z h0 o1 k1 .byte n' (fun i => .int (f' i))) :
    MetFree l (⟨"java/lang/StringLatin1", "equals", "([B[B)Z"⟩ : MethodName) (head1 (Jvm.Cond.code (⟨"java/lang/StringLatin1", "equals", "([B[B)Z"⟩ : MethodName) jdk_43_method_13_code 3 (some .boolean) :: ws) ({ frames := 0, cells := 0, slots := 0, locals := 0 } : Room)) (fun a U => a = #[(.ref o0), (.ref o1)] ∧ Z.Warmed39 U.vm ∧ U.heap = h0) (fun _ _ _ _ _ => True) (fun _ U o U' => ∃ v L, o = .returned v ∧ QR (.int r) h0 n0 v U'.heap L ∧ FrameEnd U o U' L ({ frames := 0, cells := 0, slots := 0, locals := 0 } : Room).cells ({ frames := 0, cells := 0, slots := 0, locals := 0 } : Room).slots) := by
  refine MetFree.of_bodySF (plainFor_of_name pn_19) hisR ?_
  intro p e s m args below meth c s₁ Bd hml0 hP hK
  obtain ⟨rfl, hZ, hh⟩ := hP
  have hx := Bd.exec
  have hby := Bd.bytes
  have hml : c.maxLocals = 3 := hml0
  have hown : s.vm.findClass "java/lang/StringLatin1" = some m.cls := findClass_of_methodNamed Bd.named
  have hnm := (name_of_methodNamed Bd.named Bd.method).1
  have X0 : Stand p l e ({ frames := 0, cells := 0, slots := 0, locals := 0 } : Room) s m #[(.ref o0), (.ref o1)] below meth c s₁ [] 0 0 := Stand.of_body Bd
  have e0 : s₁.heap = h0 := by rw [← hh, Bd.state]; rfl
  have N0 := Fr.nil n0
  have pre0 : ∀ t, Steps p.tables e below (s₁.setTop (mkF m 0 #[.val (.ref o0), .val (.ref o1), .unset] [])) t → Steps p.tables e below (s₁.setTop (entryFrame m #[(.ref o0), (.ref o1)] 3)) t := fun t k => castTop (ef_rLe m o0 o1) k
  obtain ⟨cl1, Ar1, -, Sa1, -⟩ := id V_a
  obtain ⟨cl2, Ar2, -, Sa2, -⟩ := id V_b
  have pre3 : ∀ t, Steps p.tables e below (s₁.setTop (mkF m 4 #[.val (.ref o0), .val (.ref o1), .unset] [(.int (Int32.ofNat n')), (.int (Int32.ofNat n))])) t → Steps p.tables e below (s₁.setTop (entryFrame m #[(.ref o0), (.ref o1)] 3)) t := by
    intro t kt
    refine pre0 t ?_
    show Steps p.tables e below (s₁.setTop (mkF m 0 #[.val (.ref o0), .val (.ref o1), .unset] [])) _
    refine XS.aloadN X0.here hx rfl (hb hby d19_0) rfl rfl ?_
    show Steps p.tables e below (s₁.setTop (mkF m 1 #[.val (.ref o0), .val (.ref o1), .unset] [(.ref o0)])) _
    refine X0.arraylength hx (by rw [e0]; exact Ar1.1) (State.isArrayOf_alike hZ.alike Ar1.2.1) (g := (mkF m 1 #[.val (.ref o0), .val (.ref o1), .unset] [(.ref o0)])) rfl rfl (hb hby d19_1) _ ?_
    rw [own_len Sa1]
    show Steps p.tables e below (s₁.setTop (mkF m 2 #[.val (.ref o0), .val (.ref o1), .unset] [(.int (Int32.ofNat n))])) _
    refine XS.aloadN X0.here hx rfl (hb hby d19_2) rfl rfl ?_
    show Steps p.tables e below (s₁.setTop (mkF m 3 #[.val (.ref o0), .val (.ref o1), .unset] [(.ref o1), (.int (Int32.ofNat n))])) _
    refine X0.arraylength hx (by rw [e0]; exact Ar2.1) (State.isArrayOf_alike hZ.alike Ar2.2.1) (g := (mkF m 3 #[.val (.ref o0), .val (.ref o1), .unset] [(.ref o1), (.int (Int32.ofNat n))])) rfl rfl (hb hby d19_3) _ ?_
    rw [own_len Sa2]
    exact kt
  by_cases hc4 : (Int32.ofNat n) = (Int32.ofNat n')
  · skip
    have hc4' : n = n' := (own_inj (by omega) (by omega)).mp hc4
    have pre5 : ∀ t, Steps p.tables e below (s₁.setTop (mkF m 9 #[.val (.ref o0), .val (.ref o1), .val (.int (0 : Int32))] [])) t → Steps p.tables e below (s₁.setTop (entryFrame m #[(.ref o0), (.ref o1)] 3)) t := by
      intro t kt
      refine pre3 t ?_
      show Steps p.tables e below (s₁.setTop (mkF m 4 #[.val (.ref o0), .val (.ref o1), .unset] [(.int (Int32.ofNat n')), (.int (Int32.ofNat n))])) _
      refine XS.icmpNo X0.here hx rfl (hb hby d19_4) rfl (teq hc4).2 ?_
      show Steps p.tables e below (s₁.setTop (mkF m 7 #[.val (.ref o0), .val (.ref o1), .unset] [])) _
      refine XS.iconst X0.here hx rfl (hb hby d19_7) ?_
      show Steps p.tables e below (s₁.setTop (mkF m 8 #[.val (.ref o0), .val (.ref o1), .unset] [(.int (0 : Int32))])) _
      refine XS.istoreN X0.here hx rfl (hb hby d19_8) rfl (l' := #[.val (.ref o0), .val (.ref o1), .val (.int (0 : Int32))]) rfl ?_
      exact kt
    subst hc4'
    obtain ⟨T6, pc, Ls, X6, e6, hdec, st6⟩ := leL o0 o1 k0 k1 n f f' hx hZ hw hby hml hown hn V_a V_b r (hrr.imp (fun q => ⟨q.1, q.2.2⟩) (fun q => ⟨q.1, fun z => q.2 ⟨rfl, z⟩⟩)) n 0 _ (by omega) (fun j hj => absurd hj (Nat.not_lt_zero _)) X0 e0
    have hnr : nar .boolean r = r := by rcases hrr with ⟨rfl, -⟩ | ⟨rfl, -⟩ <;> rfl
    obtain ⟨fs, hr, hrun, hended, hW, hsame⟩ := X6.leave (v := some (.int (nar .boolean r))) (fun h => by rw [Bd.returns] at h; cases h)
    refine ⟨_, _, pre5 _ (st6 _ ?_), hrun, hended, _, _, rfl, ?_, ⟨_, rfl⟩, hW, hsame.mono (by decide) (by decide)⟩
    · exact retN X6 hx (t := .boolean) Bd.returns (by simp) hdec hr
    · exact ⟨by rw [hnr], N0, e6⟩
  · skip
    have hc4' : ¬ n = n' := fun q => hc4 ((own_inj (by omega) (by omega)).mpr q)
    obtain ⟨fs, hr, hrun, hended, hW, hsame⟩ := X0.leave (v := some (.int (0 : Int32))) (fun h => by rw [Bd.returns] at h; cases h)
    refine ⟨_, _, pre3 _ ?_, hrun, hended, _, _, rfl, ?_, ⟨_, rfl⟩, hW, hsame.mono (by decide) (by decide)⟩
    · skip
      show Steps p.tables e below (s₁.setTop (mkF m 4 #[.val (.ref o0), .val (.ref o1), .unset] [(.int (Int32.ofNat n')), (.int (Int32.ofNat n))])) _
      refine XS.icmpYes X0.here hx rfl (pc0 := 4) (pc' := 34) rfl (hb hby d19_4) rfl (feq hc4).2 (by decide) (by decide) ?_
      show Steps p.tables e below (s₁.setTop (mkF m 34 #[.val (.ref o0), .val (.ref o1), .unset] [])) _
      refine XS.iconst X0.here hx rfl (hb hby d19_34) ?_
      show Steps p.tables e below (s₁.setTop (mkF m 35 #[.val (.ref o0), .val (.ref o1), .unset] [(.int (0 : Int32))])) _
      exact retN X0 hx (t := .boolean) Bd.returns (by simp) (hb hby d19_35) hr
    · show QR (.int r) h0 n0 _ s₁.heap _
      rw [e0]
      exact ⟨(by rcases hrr with ⟨-, q⟩ | ⟨rfl, -⟩; exact absurd q.1 hc4'; rfl), N0, rfl⟩
theorem d18_0 : decode jdk_42_method_66_code 0 = .ok (.aload_n 0, 1) := by decide +kernel
theorem d18_1 : decode jdk_42_method_66_code 1 = .ok (.aload_n 1, 1) := by decide +kernel
theorem d18_2 : decode jdk_42_method_66_code 2 = .ok (.if_acmp .ne 5, 3) := by decide +kernel
theorem d18_7 : decode jdk_42_method_66_code 7 = .ok (.aload_n 1, 1) := by decide +kernel
theorem d18_8 : decode jdk_42_method_66_code 8 = .ok (.instanceof 10, 3) := by decide +kernel
theorem d18_11 : decode jdk_42_method_66_code 11 = .ok (.ifCond .eq 43, 3) := by decide +kernel
theorem d18_14 : decode jdk_42_method_66_code 14 = .ok (.aload_n 1, 1) := by decide +kernel
theorem d18_15 : decode jdk_42_method_66_code 15 = .ok (.checkcast 10, 3) := by decide +kernel
theorem d18_18 : decode jdk_42_method_66_code 18 = .ok (.astore_n 2, 1) := by decide +kernel
theorem d18_19 : decode jdk_42_method_66_code 19 = .ok (.getstatic 38, 3) := by decide +kernel
theorem d18_22 : decode jdk_42_method_66_code 22 = .ok (.ifCond .eq 14, 3) := by decide +kernel
theorem d18_25 : decode jdk_42_method_66_code 25 = .ok (.aload_n 0, 1) := by decide +kernel
theorem d18_26 : decode jdk_42_method_66_code 26 = .ok (.getfield 15, 3) := by decide +kernel
theorem d18_29 : decode jdk_42_method_66_code 29 = .ok (.aload_n 2, 1) := by decide +kernel
theorem d18_30 : decode jdk_42_method_66_code 30 = .ok (.getfield 15, 3) := by decide +kernel
theorem d18_33 : decode jdk_42_method_66_code 33 = .ok (.if_icmp .ne 21, 3) := by decide +kernel
theorem d18_36 : decode jdk_42_method_66_code 36 = .ok (.aload_n 0, 1) := by decide +kernel
theorem d18_37 : decode jdk_42_method_66_code 37 = .ok (.getfield 9, 3) := by decide +kernel
theorem d18_40 : decode jdk_42_method_66_code 40 = .ok (.aload_n 2, 1) := by decide +kernel
theorem d18_41 : decode jdk_42_method_66_code 41 = .ok (.getfield 9, 3) := by decide +kernel
theorem d18_44 : decode jdk_42_method_66_code 44 = .ok (.invokestatic 541, 3) := by decide +kernel
theorem pd___B_B_Z : parseMethodDescriptor "([B[B)Z" = some ⟨[(.array .byte), (.array .byte)], some .boolean⟩ := by decide +kernel
theorem d18_47 : decode jdk_42_method_66_code 47 = .ok (.ifCond .eq 7, 3) := by decide +kernel
theorem d18_54 : decode jdk_42_method_66_code 54 = .ok (.iconst 0, 1) := by decide +kernel
theorem d18_55 : decode jdk_42_method_66_code 55 = .ok (.ireturn, 1) := by decide +kernel
theorem d18_50 : decode jdk_42_method_66_code 50 = .ok (.iconst 1, 1) := by decide +kernel
theorem d18_51 : decode jdk_42_method_66_code 51 = .ok (.goto 4, 3) := by decide +kernel
theorem pn_18 : plainName "java/lang/String" = true := by first | (simp [plainName, overriddenIn]; done) | decide +kernel
theorem ef_rEqd (m : MethodId) (x0 : Addr) (x1 : Addr) : entryFrame m #[(.ref x0), (.ref x1)] 3 = mkF m 0 #[.val (.ref x0), .val (.ref x1), .unset] [] := by first | (simp [entryFrame, mkF, argsToLocals, Value.category]; done) | rfl
set_option maxRecDepth 65536 in
set_option maxHeartbeats 40000000 in
theorem rEqd (l : Launch) (Z : State) (a0 : Array Value) (hw : ∀ d ∈ tables_1, d.before a0 Z = true) (ws : List Jvm.Cond) (o0 : Addr) (o1 : Addr) (hne : ¬ o0 = o1) (v0 v1 : Addr) (k0 k1 : ClassId) (n n' : Nat) (f f' : Nat → Int32) (r : Int32) (hn : n ≤ 4000) (hn' : n' ≤ 4000) (hrr : (r = (1 : Int32) ∧ Same n n' f f') ∨ (r = (0 : Int32) ∧ ¬ Same n n' f f')) (h0 : Heap) (n0 : Nat) (Z0 : n0 ≤ h0.size) (R_s : SB Z h0 o0 v0 k0 n f) (R_t : SB Z h0 o1 v1 k1 n' f') (cs : Int32) (hcs : ¬ cs = (0 : Int32)) (S_C : Sta Z h0 "java/lang/String" "COMPACT_STRINGS" "Z" (.int cs)) :
    MetFree l (⟨"java/lang/String", "equals", "(Ljava/lang/Object;)Z"⟩ : MethodName) (head1 (Jvm.Cond.code (⟨"java/lang/String", "equals", "(Ljava/lang/Object;)Z"⟩ : MethodName) jdk_42_method_66_code 3 (some .boolean) :: ws) ({ frames := 1, cells := 0, slots := 0, locals := 15 } : Room)) (fun a U => a = #[(.ref o0), (.ref o1)] ∧ Z.Warmed39 U.vm ∧ U.heap = h0) (fun _ _ _ _ _ => True) (fun _ U o U' => ∃ v L, o = .returned v ∧ QR (.int r) h0 n0 v U'.heap L ∧ FrameEnd U o U' L ({ frames := 1, cells := 0, slots := 0, locals := 15 } : Room).cells ({ frames := 1, cells := 0, slots := 0, locals := 15 } : Room).slots) := by
  refine MetFree.of_bodySF (plainFor_of_name pn_18) hisR ?_
  intro p e s m args below meth c s₁ Bd hml0 hP hK
  obtain ⟨rfl, hZ, hh⟩ := hP
  have hx := Bd.exec
  have hby := Bd.bytes
  have hml : c.maxLocals = 3 := hml0
  have hown : s.vm.findClass "java/lang/String" = some m.cls := findClass_of_methodNamed Bd.named
  have hnm := (name_of_methodNamed Bd.named Bd.method).1
  have X0 : Stand p l e ({ frames := 1, cells := 0, slots := 0, locals := 15 } : Room) s m #[(.ref o0), (.ref o1)] below meth c s₁ [] 0 0 := Stand.of_body Bd
  have e0 : s₁.heap = h0 := by rw [← hh, Bd.state]; rfl
  have N0 := Fr.nil n0
  have pre0 : ∀ t, Steps p.tables e below (s₁.setTop (mkF m 0 #[.val (.ref o0), .val (.ref o1), .unset] [])) t → Steps p.tables e below (s₁.setTop (entryFrame m #[(.ref o0), (.ref o1)] 3)) t := fun t k => castTop (ef_rEqd m o0 o1) k
  obtain ⟨E, Fc, Fv, Va⟩ := id R_s
  obtain ⟨E1, Fc1, Fv1, Va1⟩ := id R_t
  obtain ⟨T1, X1, e1, st1⟩ := instY X0 hx hZ hown (hw _ (List.mem_of_getElem? (i := 102) rfl)) e0 (Ins.self E1) (g := (mkF m 8 #[.val (.ref o0), .val (.ref o1), .unset] [(.ref o1)])) rfl rfl (hb hby d18_8)
  obtain ⟨T2, X2, e2, st2⟩ := castY X1 hx hZ hown (hw _ (List.mem_of_getElem? (i := 102) rfl)) e1 (Ins.self E1) (g := (mkF m 15 #[.val (.ref o0), .val (.ref o1), .unset] [(.ref o1)])) rfl rfl (hb hby d18_15)
  obtain ⟨T3, X3, e3, st3⟩ := getS2 X2 hx hZ hown (host := "") (Or.inl (hw _ (List.mem_of_getElem? (i := 21) rfl))) Via.refl e2 S_C (g := (mkF m 19 #[.val (.ref o0), .val (.ref o1), .val (.ref o1)] [])) rfl (hb hby d18_19)
  obtain ⟨T4, X4, e4, st4⟩ := getF X3 hx hZ hown (host := "") (Or.inl (hw _ (List.mem_of_getElem? (i := 22) rfl))) Via.refl e3 Fc (g := (mkF m 26 #[.val (.ref o0), .val (.ref o1), .val (.ref o1)] [(.ref o0)])) rfl rfl (hb hby d18_26)
  obtain ⟨T5, X5, e5, st5⟩ := getF X4 hx hZ hown (host := "") (Or.inl (hw _ (List.mem_of_getElem? (i := 22) rfl))) Via.refl e4 Fc1 (g := (mkF m 30 #[.val (.ref o0), .val (.ref o1), .val (.ref o1)] [(.ref o1), (.int (0 : Int32))])) rfl rfl (hb hby d18_30)
  obtain ⟨T6, X6, e6, st6⟩ := getF X5 hx hZ hown (host := "") (Or.inl (hw _ (List.mem_of_getElem? (i := 15) rfl))) Via.refl e5 Fv (g := (mkF m 37 #[.val (.ref o0), .val (.ref o1), .val (.ref o1)] [(.ref o0)])) rfl rfl (hb hby d18_37)
  obtain ⟨T7, X7, e7, st7⟩ := getF X6 hx hZ hown (host := "") (Or.inl (hw _ (List.mem_of_getElem? (i := 15) rfl))) Via.refl e6 Fv1 (g := (mkF m 41 #[.val (.ref o0), .val (.ref o1), .val (.ref o1)] [(.ref o1), (.ref v0)])) rfl rfl (hb hby d18_41)
  obtain ⟨_, _, ⟨T8, L8, k8, n8⟩, -, X8, ⟨Lc8, hQ8, l8, y8, z8⟩, st8⟩ := Jvm.LawKit.callS X7 hx (y := (⟨"java/lang/StringLatin1", "equals", "([B[B)Z"⟩ : MethodName)) hown (mvT hZ (hw _ (List.mem_of_getElem? (i := 103) rfl))) (mvT hZ (hw _ (List.mem_of_getElem? (i := 104) rfl))) (mvT hZ (hw _ (List.mem_of_getElem? (i := 39) rfl))) (mvT hZ (hw _ (List.mem_of_getElem? (i := 105) rfl))) (by decide) (backOf (W := 0) (rLe l Z a0 hw [] v0 v1 k0 k1 n n' f f' r hn hn' hrr h0 n0 Z0 Va Va1) hZ (hw _ (List.mem_of_getElem? (i := 105) rfl)) (hw _ (List.mem_of_getElem? (i := 39) rfl)) (by decide) (by decide)) (g := (mkF m 44 #[.val (.ref o0), .val (.ref o1), .val (.ref o1)] [(.ref v1), (.ref v0)])) rfl (by rw [hml]; rfl) (argsL := [(.ref v0), (.ref v1)]) (rest := []) (lenOf pd___B_B_Z rfl) rfl (by show 2 * 0 + _ ≤ _; exact Nat.le_of_eq rfl) (hb hby d18_44) (fun _ _ => ⟨rfl, e7, (by decide : 0 + 0 ≤ _), (by decide : 0 + 0 ≤ _)⟩)
  dsimp only [Pt.U, Pt.locs, Pt.cells, Pt.slots] at X8 l8 y8 z8 st8 hQ8
  rw [l8, y8, z8] at X8
  obtain ⟨rfl, N8q, e8⟩ := hQ8
  have N8 := Fr.app N0 N8q
  have pre9 : ∀ t, Steps p.tables e below (T8.setTop (mkF m 47 #[.val (.ref o0), .val (.ref o1), .val (.ref o1)] [(.int r)])) t → Steps p.tables e below (s₁.setTop (entryFrame m #[(.ref o0), (.ref o1)] 3)) t := by
    intro t kt
    refine pre0 t ?_
    show Steps p.tables e below (s₁.setTop (mkF m 0 #[.val (.ref o0), .val (.ref o1), .unset] [])) _
    refine XS.aloadN X0.here hx rfl (hb hby d18_0) rfl rfl ?_
    show Steps p.tables e below (s₁.setTop (mkF m 1 #[.val (.ref o0), .val (.ref o1), .unset] [(.ref o0)])) _
    refine XS.aloadN X0.here hx rfl (hb hby d18_1) rfl rfl ?_
    show Steps p.tables e below (s₁.setTop (mkF m 2 #[.val (.ref o0), .val (.ref o1), .unset] [(.ref o1), (.ref o0)])) _
    refine Jvm.RoadKit.acmp (g := (mkF m 2 #[.val (.ref o0), .val (.ref o1), .unset] [(.ref o1), (.ref o0)])) X0 hx rfl rfl rfl (pc0 := 2) (pc' := 7) (same := false) rfl (hb hby d18_2) rfl (decide_eq_false fun q => hne (Value.ref.inj q)) (by decide) (by decide) ?_
    show Steps p.tables e below (s₁.setTop (mkF m 7 #[.val (.ref o0), .val (.ref o1), .unset] [])) _
    refine XS.aloadN X0.here hx rfl (hb hby d18_7) rfl rfl ?_
    show Steps p.tables e below (s₁.setTop (mkF m 8 #[.val (.ref o0), .val (.ref o1), .unset] [(.ref o1)])) _
    refine st1 _ ?_
    show Steps p.tables e below (T1.setTop (mkF m 11 #[.val (.ref o0), .val (.ref o1), .unset] [(.int (1 : Int32))])) _
    refine XS.ifNo X1.here hx rfl (hb hby d18_11) rfl ((if0 _ _).trans (feq (by decide : ¬ ((1 : Int32) = (0 : Int32)))).1) ?_
    show Steps p.tables e below (T1.setTop (mkF m 14 #[.val (.ref o0), .val (.ref o1), .unset] [])) _
    refine XS.aloadN X1.here hx rfl (hb hby d18_14) rfl rfl ?_
    show Steps p.tables e below (T1.setTop (mkF m 15 #[.val (.ref o0), .val (.ref o1), .unset] [(.ref o1)])) _
    refine st2 _ ?_
    show Steps p.tables e below (T2.setTop (mkF m 18 #[.val (.ref o0), .val (.ref o1), .unset] [(.ref o1)])) _
    refine XS.astoreN X2.here hx rfl (hb hby d18_18) rfl rfl (l' := #[.val (.ref o0), .val (.ref o1), .val (.ref o1)]) rfl ?_
    show Steps p.tables e below (T2.setTop (mkF m 19 #[.val (.ref o0), .val (.ref o1), .val (.ref o1)] [])) _
    refine st3 _ ?_
    show Steps p.tables e below (T3.setTop (mkF m 22 #[.val (.ref o0), .val (.ref o1), .val (.ref o1)] [(.int cs)])) _
    refine XS.ifNo X3.here hx rfl (hb hby d18_22) rfl ((if0 _ _).trans (feq hcs).1) ?_
    show Steps p.tables e below (T3.setTop (mkF m 25 #[.val (.ref o0), .val (.ref o1), .val (.ref o1)] [])) _
    refine XS.aloadN X3.here hx rfl (hb hby d18_25) rfl rfl ?_
    show Steps p.tables e below (T3.setTop (mkF m 26 #[.val (.ref o0), .val (.ref o1), .val (.ref o1)] [(.ref o0)])) _
    refine st4 _ ?_
    show Steps p.tables e below (T4.setTop (mkF m 29 #[.val (.ref o0), .val (.ref o1), .val (.ref o1)] [(.int (0 : Int32))])) _
    refine XS.aloadN X4.here hx rfl (hb hby d18_29) rfl rfl ?_
    show Steps p.tables e below (T4.setTop (mkF m 30 #[.val (.ref o0), .val (.ref o1), .val (.ref o1)] [(.ref o1), (.int (0 : Int32))])) _
    refine st5 _ ?_
    show Steps p.tables e below (T5.setTop (mkF m 33 #[.val (.ref o0), .val (.ref o1), .val (.ref o1)] [(.int (0 : Int32)), (.int (0 : Int32))])) _
    refine XS.icmpNo X5.here hx rfl (hb hby d18_33) rfl (teq (by decide : (0 : Int32) = (0 : Int32))).2 ?_
    show Steps p.tables e below (T5.setTop (mkF m 36 #[.val (.ref o0), .val (.ref o1), .val (.ref o1)] [])) _
    refine XS.aloadN X5.here hx rfl (hb hby d18_36) rfl rfl ?_
    show Steps p.tables e below (T5.setTop (mkF m 37 #[.val (.ref o0), .val (.ref o1), .val (.ref o1)] [(.ref o0)])) _
    refine st6 _ ?_
    show Steps p.tables e below (T6.setTop (mkF m 40 #[.val (.ref o0), .val (.ref o1), .val (.ref o1)] [(.ref v0)])) _
    refine XS.aloadN X6.here hx rfl (hb hby d18_40) rfl rfl ?_
    show Steps p.tables e below (T6.setTop (mkF m 41 #[.val (.ref o0), .val (.ref o1), .val (.ref o1)] [(.ref o1), (.ref v0)])) _
    refine st7 _ ?_
    show Steps p.tables e below (T7.setTop (mkF m 44 #[.val (.ref o0), .val (.ref o1), .val (.ref o1)] [(.ref v1), (.ref v0)])) _
    refine st8 _ ?_
    exact kt
  by_cases hc10 : r = (0 : Int32)
  · skip
    obtain ⟨fs, hr, hrun, hended, hW, hsame⟩ := X8.leave (v := some (.int (0 : Int32))) (fun h => by rw [Bd.returns] at h; cases h)
    refine ⟨_, _, pre9 _ ?_, hrun, hended, _, _, rfl, ?_, ⟨_, rfl⟩, hW, hsame.mono (by decide) (by decide)⟩
    · skip
      show Steps p.tables e below (T8.setTop (mkF m 47 #[.val (.ref o0), .val (.ref o1), .val (.ref o1)] [(.int r)])) _
      refine XS.ifYes X8.here hx rfl (pc0 := 47) (pc' := 54) rfl (hb hby d18_47) rfl ((if0 _ _).trans (teq hc10).1) (by decide) (by decide) ?_
      show Steps p.tables e below (T8.setTop (mkF m 54 #[.val (.ref o0), .val (.ref o1), .val (.ref o1)] [])) _
      refine XS.iconst X8.here hx rfl (hb hby d18_54) ?_
      show Steps p.tables e below (T8.setTop (mkF m 55 #[.val (.ref o0), .val (.ref o1), .val (.ref o1)] [(.int (0 : Int32))])) _
      exact retN X8 hx (t := .boolean) Bd.returns (by simp) (hb hby d18_55) hr
    · show QR (.int r) h0 n0 _ T8.heap _
      rw [e8]
      exact ⟨(by rcases hrr with ⟨rfl, -⟩ | ⟨rfl, -⟩ <;> first | rfl | (exact absurd hc10 (by decide))), N8, rfl⟩
  · skip
    obtain ⟨fs, hr, hrun, hended, hW, hsame⟩ := X8.leave (v := some (.int (1 : Int32))) (fun h => by rw [Bd.returns] at h; cases h)
    refine ⟨_, _, pre9 _ ?_, hrun, hended, _, _, rfl, ?_, ⟨_, rfl⟩, hW, hsame.mono (by decide) (by decide)⟩
    · skip
      show Steps p.tables e below (T8.setTop (mkF m 47 #[.val (.ref o0), .val (.ref o1), .val (.ref o1)] [(.int r)])) _
      refine XS.ifNo X8.here hx rfl (hb hby d18_47) rfl ((if0 _ _).trans (feq hc10).1) ?_
      show Steps p.tables e below (T8.setTop (mkF m 50 #[.val (.ref o0), .val (.ref o1), .val (.ref o1)] [])) _
      refine XS.iconst X8.here hx rfl (hb hby d18_50) ?_
      show Steps p.tables e below (T8.setTop (mkF m 51 #[.val (.ref o0), .val (.ref o1), .val (.ref o1)] [(.int (1 : Int32))])) _
      refine XS.goto X8.here hx rfl (pc0 := 51) (pc' := 55) rfl (hb hby d18_51) (by decide) (by decide) ?_
      show Steps p.tables e below (T8.setTop (mkF m 55 #[.val (.ref o0), .val (.ref o1), .val (.ref o1)] [(.int (1 : Int32))])) _
      exact retN X8 hx (t := .boolean) Bd.returns (by simp) (hb hby d18_55) hr
    · show QR (.int r) h0 n0 _ T8.heap _
      rw [e8]
      exact ⟨(by rcases hrr with ⟨rfl, -⟩ | ⟨rfl, -⟩ <;> first | rfl | (exact absurd hc10 (by decide))), N8, rfl⟩
theorem d18_5 : decode jdk_42_method_66_code 5 = .ok (.iconst 1, 1) := by decide +kernel
theorem d18_6 : decode jdk_42_method_66_code 6 = .ok (.ireturn, 1) := by decide +kernel
theorem ef_rEqs (m : MethodId) (x0 : Addr) (x1 : Addr) : entryFrame m #[(.ref x0), (.ref x1)] 3 = mkF m 0 #[.val (.ref x0), .val (.ref x1), .unset] [] := by first | (simp [entryFrame, mkF, argsToLocals, Value.category]; done) | rfl
set_option maxRecDepth 65536 in
set_option maxHeartbeats 40000000 in
theorem rEqs (l : Launch) (Z : State) (a0 : Array Value) (hw : ∀ d ∈ tables_1, d.before a0 Z = true) (ws : List Jvm.Cond) (o0 : Addr) (h0 : Heap) (n0 : Nat) (Z0 : n0 ≤ h0.size) :
    MetFree l (⟨"java/lang/String", "equals", "(Ljava/lang/Object;)Z"⟩ : MethodName) (head1 (Jvm.Cond.code (⟨"java/lang/String", "equals", "(Ljava/lang/Object;)Z"⟩ : MethodName) jdk_42_method_66_code 3 (some .boolean) :: ws) ({ frames := 1, cells := 0, slots := 0, locals := 15 } : Room)) (fun a U => a = #[(.ref o0), (.ref o0)] ∧ Z.Warmed39 U.vm ∧ U.heap = h0) (fun _ _ _ _ _ => True) (fun _ U o U' => ∃ v L, o = .returned v ∧ QR (.int (1 : Int32)) h0 n0 v U'.heap L ∧ FrameEnd U o U' L ({ frames := 1, cells := 0, slots := 0, locals := 15 } : Room).cells ({ frames := 1, cells := 0, slots := 0, locals := 15 } : Room).slots) := by
  refine MetFree.of_bodySF (plainFor_of_name pn_18) hisR ?_
  intro p e s m args below meth c s₁ Bd hml0 hP hK
  obtain ⟨rfl, hZ, hh⟩ := hP
  have hx := Bd.exec
  have hby := Bd.bytes
  have hml : c.maxLocals = 3 := hml0
  have hown : s.vm.findClass "java/lang/String" = some m.cls := findClass_of_methodNamed Bd.named
  have hnm := (name_of_methodNamed Bd.named Bd.method).1
  have X0 : Stand p l e ({ frames := 1, cells := 0, slots := 0, locals := 15 } : Room) s m #[(.ref o0), (.ref o0)] below meth c s₁ [] 0 0 := Stand.of_body Bd
  have e0 : s₁.heap = h0 := by rw [← hh, Bd.state]; rfl
  have N0 := Fr.nil n0
  have pre0 : ∀ t, Steps p.tables e below (s₁.setTop (mkF m 0 #[.val (.ref o0), .val (.ref o0), .unset] [])) t → Steps p.tables e below (s₁.setTop (entryFrame m #[(.ref o0), (.ref o0)] 3)) t := fun t k => castTop (ef_rEqs m o0 o0) k
  obtain ⟨fs, hr, hrun, hended, hW, hsame⟩ := X0.leave (v := some (.int (1 : Int32))) (fun h => by rw [Bd.returns] at h; cases h)
  refine ⟨_, _, pre0 _ ?_, hrun, hended, _, _, rfl, ?_, ⟨_, rfl⟩, hW, hsame.mono (by decide) (by decide)⟩
  · skip
    show Steps p.tables e below (s₁.setTop (mkF m 0 #[.val (.ref o0), .val (.ref o0), .unset] [])) _
    refine XS.aloadN X0.here hx rfl (hb hby d18_0) rfl rfl ?_
    show Steps p.tables e below (s₁.setTop (mkF m 1 #[.val (.ref o0), .val (.ref o0), .unset] [(.ref o0)])) _
    refine XS.aloadN X0.here hx rfl (hb hby d18_1) rfl rfl ?_
    show Steps p.tables e below (s₁.setTop (mkF m 2 #[.val (.ref o0), .val (.ref o0), .unset] [(.ref o0), (.ref o0)])) _
    refine Jvm.RoadKit.acmp (g := (mkF m 2 #[.val (.ref o0), .val (.ref o0), .unset] [(.ref o0), (.ref o0)])) X0 hx rfl rfl rfl (pc0 := 2) (pc' := 5) (same := true) rfl (hb hby d18_2) rfl (decide_eq_true rfl) (by decide) (by decide) ?_
    show Steps p.tables e below (s₁.setTop (mkF m 5 #[.val (.ref o0), .val (.ref o0), .unset] [])) _
    refine XS.iconst X0.here hx rfl (hb hby d18_5) ?_
    show Steps p.tables e below (s₁.setTop (mkF m 6 #[.val (.ref o0), .val (.ref o0), .unset] [(.int (1 : Int32))])) _
    exact retN X0 hx (t := .boolean) Bd.returns (by simp) (hb hby d18_6) hr
  · show QR (.int (1 : Int32)) h0 n0 _ s₁.heap _
    rw [e0]
    exact ⟨(by first | rfl | simp []), N0, rfl⟩
theorem ef_rEqn (m : MethodId) (x0 : Addr) : entryFrame m #[(.ref x0), .null] 3 = mkF m 0 #[.val (.ref x0), .val .null, .unset] [] := by first | (simp [entryFrame, mkF, argsToLocals, Value.category]; done) | rfl
set_option maxRecDepth 65536 in
set_option maxHeartbeats 40000000 in
theorem rEqn (l : Launch) (Z : State) (a0 : Array Value) (hw : ∀ d ∈ tables_1, d.before a0 Z = true) (ws : List Jvm.Cond) (o0 : Addr) (h0 : Heap) (n0 : Nat) (Z0 : n0 ≤ h0.size) :
    MetFree l (⟨"java/lang/String", "equals", "(Ljava/lang/Object;)Z"⟩ : MethodName) (head1 (Jvm.Cond.code (⟨"java/lang/String", "equals", "(Ljava/lang/Object;)Z"⟩ : MethodName) jdk_42_method_66_code 3 (some .boolean) :: ws) ({ frames := 1, cells := 0, slots := 0, locals := 15 } : Room)) (fun a U => a = #[(.ref o0), .null] ∧ Z.Warmed39 U.vm ∧ U.heap = h0) (fun _ _ _ _ _ => True) (fun _ U o U' => ∃ v L, o = .returned v ∧ QR (.int (0 : Int32)) h0 n0 v U'.heap L ∧ FrameEnd U o U' L ({ frames := 1, cells := 0, slots := 0, locals := 15 } : Room).cells ({ frames := 1, cells := 0, slots := 0, locals := 15 } : Room).slots) := by
  refine MetFree.of_bodySF (plainFor_of_name pn_18) hisR ?_
  intro p e s m args below meth c s₁ Bd hml0 hP hK
  obtain ⟨rfl, hZ, hh⟩ := hP
  have hx := Bd.exec
  have hby := Bd.bytes
  have hml : c.maxLocals = 3 := hml0
  have hown : s.vm.findClass "java/lang/String" = some m.cls := findClass_of_methodNamed Bd.named
  have hnm := (name_of_methodNamed Bd.named Bd.method).1
  have X0 : Stand p l e ({ frames := 1, cells := 0, slots := 0, locals := 15 } : Room) s m #[(.ref o0), .null] below meth c s₁ [] 0 0 := Stand.of_body Bd
  have e0 : s₁.heap = h0 := by rw [← hh, Bd.state]; rfl
  have N0 := Fr.nil n0
  have pre0 : ∀ t, Steps p.tables e below (s₁.setTop (mkF m 0 #[.val (.ref o0), .val .null, .unset] [])) t → Steps p.tables e below (s₁.setTop (entryFrame m #[(.ref o0), .null] 3)) t := fun t k => castTop (ef_rEqn m o0) k
  obtain ⟨fs, hr, hrun, hended, hW, hsame⟩ := X0.leave (v := some (.int (0 : Int32))) (fun h => by rw [Bd.returns] at h; cases h)
  refine ⟨_, _, pre0 _ ?_, hrun, hended, _, _, rfl, ?_, ⟨_, rfl⟩, hW, hsame.mono (by decide) (by decide)⟩
  · skip
    show Steps p.tables e below (s₁.setTop (mkF m 0 #[.val (.ref o0), .val .null, .unset] [])) _
    refine XS.aloadN X0.here hx rfl (hb hby d18_0) rfl rfl ?_
    show Steps p.tables e below (s₁.setTop (mkF m 1 #[.val (.ref o0), .val .null, .unset] [(.ref o0)])) _
    refine XS.aloadN X0.here hx rfl (hb hby d18_1) rfl rfl ?_
    show Steps p.tables e below (s₁.setTop (mkF m 2 #[.val (.ref o0), .val .null, .unset] [.null, (.ref o0)])) _
    refine Jvm.RoadKit.acmp (g := (mkF m 2 #[.val (.ref o0), .val .null, .unset] [.null, (.ref o0)])) X0 hx rfl rfl rfl (pc0 := 2) (pc' := 7) (same := false) rfl (hb hby d18_2) rfl (decide_eq_false nofun) (by decide) (by decide) ?_
    show Steps p.tables e below (s₁.setTop (mkF m 7 #[.val (.ref o0), .val .null, .unset] [])) _
    refine XS.aloadN X0.here hx rfl (hb hby d18_7) rfl rfl ?_
    show Steps p.tables e below (s₁.setTop (mkF m 8 #[.val (.ref o0), .val .null, .unset] [.null])) _
    refine X0.instanceofNull hx (g := (mkF m 8 #[.val (.ref o0), .val .null, .unset] [.null])) rfl rfl (hb hby d18_8) _ ?_
    show Steps p.tables e below (s₁.setTop (mkF m 11 #[.val (.ref o0), .val .null, .unset] [(.int (0 : Int32))])) _
    refine XS.ifYes X0.here hx rfl (pc0 := 11) (pc' := 54) rfl (hb hby d18_11) rfl ((if0 _ _).trans (teq (by decide : (0 : Int32) = (0 : Int32))).1) (by decide) (by decide) ?_
    show Steps p.tables e below (s₁.setTop (mkF m 54 #[.val (.ref o0), .val .null, .unset] [])) _
    refine XS.iconst X0.here hx rfl (hb hby d18_54) ?_
    show Steps p.tables e below (s₁.setTop (mkF m 55 #[.val (.ref o0), .val .null, .unset] [(.int (0 : Int32))])) _
    exact retN X0 hx (t := .boolean) Bd.returns (by simp) (hb hby d18_55) hr
  · show QR (.int (0 : Int32)) h0 n0 _ s₁.heap _
    rw [e0]
    exact ⟨(by first | rfl | simp []), N0, rfl⟩
theorem rEq (l : Launch) (Z : State) (a0 : Array Value) (hw : ∀ d ∈ tables_1, d.before a0 Z = true) (ws : List Jvm.Cond) (o0 o1 : Addr) (v0 v1 : Addr) (k0 k1 : ClassId) (n n' : Nat) (f f' : Nat → Int32) (r : Int32) (hn : n ≤ 4000) (hn' : n' ≤ 4000) (hrr : (r = (1 : Int32) ∧ Same n n' f f') ∨ (r = (0 : Int32) ∧ ¬ Same n n' f f')) (h0 : Heap) (n0 : Nat) (Z0 : n0 ≤ h0.size) (R_s : SB Z h0 o0 v0 k0 n f) (R_t : SB Z h0 o1 v1 k1 n' f') (cs : Int32) (hcs : ¬ cs = (0 : Int32)) (S_C : Sta Z h0 "java/lang/String" "COMPACT_STRINGS" "Z" (.int cs)) :
    MetFree l (⟨"java/lang/String", "equals", "(Ljava/lang/Object;)Z"⟩ : MethodName) (head1 (Jvm.Cond.code (⟨"java/lang/String", "equals", "(Ljava/lang/Object;)Z"⟩ : MethodName) jdk_42_method_66_code 3 (some .boolean) :: ws) ({ frames := 1, cells := 0, slots := 0, locals := 15 } : Room)) (fun a U => a = #[(.ref o0), (.ref o1)] ∧ Z.Warmed39 U.vm ∧ U.heap = h0) (fun _ _ _ _ _ => True) (fun _ U o U' => ∃ v L, o = .returned v ∧ QR (.int r) h0 n0 v U'.heap L ∧ FrameEnd U o U' L ({ frames := 1, cells := 0, slots := 0, locals := 15 } : Room).cells ({ frames := 1, cells := 0, slots := 0, locals := 15 } : Room).slots) := by
  by_cases q : o0 = o1
  · subst q
    have z := SB.same R_s R_t
    have : r = 1 := by
      rcases hrr with q | q
      · exact q.1
      · exact absurd z q.2
    subst this
    exact rEqs l Z a0 hw ws o0 h0 n0 Z0
  · exact rEqd l Z a0 hw ws o0 o1 q v0 v1 k0 k1 n n' f f' r hn hn' hrr h0 n0 Z0 R_s R_t cs hcs S_C
theorem d14_3 : decode jdk_52_method_21_code 3 = .ok (.iload 5, 2) := by decide +kernel
theorem d14_5 : decode jdk_52_method_21_code 5 = .ok (.iload 4, 2) := by decide +kernel
theorem d14_7 : decode jdk_52_method_21_code 7 = .ok (.if_icmp .ge 37, 3) := by decide +kernel
theorem d14_10 : decode jdk_52_method_21_code 10 = .ok (.aload_n 0, 1) := by decide +kernel
theorem d14_11 : decode jdk_52_method_21_code 11 = .ok (.iload_n 1, 1) := by decide +kernel
theorem d14_12 : decode jdk_52_method_21_code 12 = .ok (.caload, 1) := by decide +kernel
theorem d14_13 : decode jdk_52_method_21_code 13 = .ok (.istore 6, 2) := by decide +kernel
theorem os_coT_13 {z0 : Value} {z1 : Value} {z2 : Value} {z3 : Value} {z4 : Value} {z5 : Value} {s6 : Slot} {v : Int32} (h : One s6) : storeLocals #[.val z0, .val z1, .val z2, .val z3, .val z4, .val z5, s6] 6 (.int v) = some #[.val z0, .val z1, .val z2, .val z3, .val z4, .val z5, .val (.int v)] := by
  rcases h with rfl | ⟨w, rfl, hw⟩
  · rfl
  · cases w <;> first | rfl | (simp [Value.category] at hw)
theorem d14_15 : decode jdk_52_method_21_code 15 = .ok (.iload 6, 2) := by decide +kernel
theorem d14_17 : decode jdk_52_method_21_code 17 = .ok (.sipush 255, 3) := by decide +kernel
theorem d14_20 : decode jdk_52_method_21_code 20 = .ok (.if_icmp .le 6, 3) := by decide +kernel
theorem d14_26 : decode jdk_52_method_21_code 26 = .ok (.aload_n 2, 1) := by decide +kernel
theorem d14_27 : decode jdk_52_method_21_code 27 = .ok (.iload_n 3, 1) := by decide +kernel
theorem d14_28 : decode jdk_52_method_21_code 28 = .ok (.iload 6, 2) := by decide +kernel
theorem d14_30 : decode jdk_52_method_21_code 30 = .ok (.i2b, 1) := by decide +kernel
theorem d14_31 : decode jdk_52_method_21_code 31 = .ok (.bastore, 1) := by decide +kernel
theorem d14_32 : decode jdk_52_method_21_code 32 = .ok (.iinc 1 1, 3) := by decide +kernel
theorem d14_35 : decode jdk_52_method_21_code 35 = .ok (.iinc 3 1, 3) := by decide +kernel
theorem d14_38 : decode jdk_52_method_21_code 38 = .ok (.iinc 5 1, 3) := by decide +kernel
theorem d14_41 : decode jdk_52_method_21_code 41 = .ok (.goto (-38), 3) := by decide +kernel
set_option maxRecDepth 65536 in
set_option maxHeartbeats 40000000 in
theorem coT {p : Program} {l : Launch} {e : Env} {R : Room} {s : State} {m : MethodId} {args : Array Value} {below : List Frame} {meth : Method} {c : Code} {T0 : State} {locs : List Loc} {cells slots : Nat} {Z : State} {a0 : Array Value} {h0 : Heap} (n0 : Nat) (o0 o2 : Addr) (k0 k1 : ClassId) (n i : Nat) (g u : Nat → Int32) (s6 : Slot) (X0 : Stand p l e R s m args below meth c T0 locs cells slots) (hx : p.tables.exec = Jvm.exec) (hZ : Z.Warmed39 s.vm) (hw : ∀ d ∈ tables_1, d.before a0 Z = true) (hby : c.code = jdk_52_method_21_code) (hml : c.maxLocals = 7) (hown : s.vm.findClass "java/lang/StringUTF16" = some m.cls) (e0 : T0.heap = h0) (hs6 : One s6) (hn : n ≤ 4000) (hi : i < n) (hg : ∀ i, i < n → 0 ≤ (g i).toInt ∧ (g i).toInt < 256) (hne : o0 ≠ o2) (V_c : GA Z h0 o0 k0 .char n (fun i => .int (g i))) (V_b : GA Z h0 o2 k1 .byte n (fun i => .int (u i))) :
    ∃ (T' : State) (h' : Heap) (u' : Nat → Int32), Stand p l e R s m args below meth c T' (locs ++ [⟨o2, (Int32.ofNat i).toNatClampNeg⟩]) cells slots ∧ T'.heap = h' ∧ Keep h0 h' [o2] ∧ GA Z h' o2 k1 .byte n (fun i => .int (u' i)) ∧ ∃ as6, One as6 ∧ ∀ target, Steps p.tables e below (T'.setTop (mkF m 3 #[.val (.ref o0), .val (.int (Int32.ofNat (i + 1))), .val (.ref o2), .val (.int (Int32.ofNat (i + 1))), .val (.int (Int32.ofNat n)), .val (.int (Int32.ofNat (i + 1))), as6] [])) target → Steps p.tables e below (T0.setTop (mkF m 3 #[.val (.ref o0), .val (.int (Int32.ofNat i)), .val (.ref o2), .val (.int (Int32.ofNat i)), .val (.int (Int32.ofNat n)), .val (.int (Int32.ofNat i)), s6] [])) target := by
  have pre0 : ∀ t, Steps p.tables e below (T0.setTop (mkF m 3 #[.val (.ref o0), .val (.int (Int32.ofNat i)), .val (.ref o2), .val (.int (Int32.ofNat i)), .val (.int (Int32.ofNat n)), .val (.int (Int32.ofNat i)), s6] [])) t → Steps p.tables e below (T0.setTop (mkF m 3 #[.val (.ref o0), .val (.int (Int32.ofNat i)), .val (.ref o2), .val (.int (Int32.ofNat i)), .val (.int (Int32.ofNat n)), .val (.int (Int32.ofNat i)), s6] [])) t := fun _ k => k
  obtain ⟨cl1, Ar1, qa1, Sa1, Ha1⟩ := id V_c
  have hin1 : ¬ ((Int32.ofNat i) < 0 ∨ cl1.slots.size ≤ (Int32.ofNat i).toNatClampNeg) := own_inb Sa1 hi (show n < 2147483648 by omega)
  have hat1 : cl1.slots[(Int32.ofNat i).toNatClampNeg]? = some (.int (g i)) := by rw [own_cl (Nat.lt_trans hi (show n < 2147483648 by omega))]; exact Ha1 i hi
  obtain ⟨cl2, Ar2, qa2, Sa2, Ha2⟩ := id V_b
  have hin2 : ¬ ((Int32.ofNat i) < 0 ∨ cl2.slots.size ≤ (Int32.ofNat i).toNatClampNeg) := own_inb Sa2 hi (show n < 2147483648 by omega)
  obtain ⟨T3, h3, X3, e3, W3, st3⟩ := stB X0 hx hZ e0 Ar2 (j := (Int32.ofNat i)) hin2 (g := (mkF m 31 #[.val (.ref o0), .val (.int (Int32.ofNat i)), .val (.ref o2), .val (.int (Int32.ofNat i)), .val (.int (Int32.ofNat n)), .val (.int (Int32.ofNat i)), .val (.int (g i))] [(.int ((g i).toInt8.toInt32)), (.int (Int32.ofNat i)), (.ref o2)])) rfl rfl (hb hby d14_31)
  have V3 : GA Z h3 o2 k1 .byte n (fun j => .int (if j = i then (g i).toInt8.toInt32.toInt8.toInt32 else u j)) := by
    have q := GA.set Ar2 qa2 Sa2 Ha2 W3
    rw [own_cl (by omega)] at q
    refine q.eqv fun j _ => ?_
    show (if j = i then Value.int ((g i).toInt8.toInt32.toInt8.toInt32) else Value.int (u j)) = Value.int (if j = i then (g i).toInt8.toInt32.toInt8.toInt32 else u j)
    by_cases z : j = i
    · rw [if_pos z, if_pos z]
    · rw [if_neg z, if_neg z]
  have K3 : Keep h0 h3 [o2] := (Keep.refl h0 [o2]).wr W3 (Or.inl (List.mem_of_getElem? (i := 0) rfl))
  have pre4 : ∀ t, Steps p.tables e below (T3.setTop (mkF m 3 #[.val (.ref o0), .val (.int ((Int32.ofNat i) + (1 : Int32))), .val (.ref o2), .val (.int ((Int32.ofNat i) + (1 : Int32))), .val (.int (Int32.ofNat n)), .val (.int ((Int32.ofNat i) + (1 : Int32))), .val (.int (g i))] [])) t → Steps p.tables e below (T0.setTop (mkF m 3 #[.val (.ref o0), .val (.int (Int32.ofNat i)), .val (.ref o2), .val (.int (Int32.ofNat i)), .val (.int (Int32.ofNat n)), .val (.int (Int32.ofNat i)), s6] [])) t := by
    intro t kt
    refine pre0 t ?_
    show Steps p.tables e below (T0.setTop (mkF m 3 #[.val (.ref o0), .val (.int (Int32.ofNat i)), .val (.ref o2), .val (.int (Int32.ofNat i)), .val (.int (Int32.ofNat n)), .val (.int (Int32.ofNat i)), s6] [])) _
    refine XS.iload X0.here hx rfl (hb hby d14_3) rfl ?_
    show Steps p.tables e below (T0.setTop (mkF m 5 #[.val (.ref o0), .val (.int (Int32.ofNat i)), .val (.ref o2), .val (.int (Int32.ofNat i)), .val (.int (Int32.ofNat n)), .val (.int (Int32.ofNat i)), s6] [(.int (Int32.ofNat i))])) _
    refine XS.iload X0.here hx rfl (hb hby d14_5) rfl ?_
    show Steps p.tables e below (T0.setTop (mkF m 7 #[.val (.ref o0), .val (.int (Int32.ofNat i)), .val (.ref o2), .val (.int (Int32.ofNat i)), .val (.int (Int32.ofNat n)), .val (.int (Int32.ofNat i)), s6] [(.int (Int32.ofNat n)), (.int (Int32.ofNat i))])) _
    refine XS.icmpNo X0.here hx rfl (hb hby d14_7) rfl (tlt ((own_ltI (by omega) (by omega)).mpr hi)).2.1 ?_
    show Steps p.tables e below (T0.setTop (mkF m 10 #[.val (.ref o0), .val (.int (Int32.ofNat i)), .val (.ref o2), .val (.int (Int32.ofNat i)), .val (.int (Int32.ofNat n)), .val (.int (Int32.ofNat i)), s6] [])) _
    refine XS.aloadN X0.here hx rfl (hb hby d14_10) rfl rfl ?_
    show Steps p.tables e below (T0.setTop (mkF m 11 #[.val (.ref o0), .val (.int (Int32.ofNat i)), .val (.ref o2), .val (.int (Int32.ofNat i)), .val (.int (Int32.ofNat n)), .val (.int (Int32.ofNat i)), s6] [(.ref o0)])) _
    refine XS.iloadN X0.here hx rfl (hb hby d14_11) rfl ?_
    show Steps p.tables e below (T0.setTop (mkF m 12 #[.val (.ref o0), .val (.int (Int32.ofNat i)), .val (.ref o2), .val (.int (Int32.ofNat i)), .val (.int (Int32.ofNat n)), .val (.int (Int32.ofNat i)), s6] [(.int (Int32.ofNat i)), (.ref o0)])) _
    refine X0.caload hx (j := (Int32.ofNat i)) (v := (.int (g i))) (by rw [e0]; exact Ar1.1) (State.isArrayOf_alike hZ.alike Ar1.2.1) Ar1.2.2 hin1 hat1 (g := (mkF m 12 #[.val (.ref o0), .val (.int (Int32.ofNat i)), .val (.ref o2), .val (.int (Int32.ofNat i)), .val (.int (Int32.ofNat n)), .val (.int (Int32.ofNat i)), s6] [(.int (Int32.ofNat i)), (.ref o0)])) rfl rfl (hb hby d14_12) _ ?_
    show Steps p.tables e below (T0.setTop (mkF m 13 #[.val (.ref o0), .val (.int (Int32.ofNat i)), .val (.ref o2), .val (.int (Int32.ofNat i)), .val (.int (Int32.ofNat n)), .val (.int (Int32.ofNat i)), s6] [(.int (g i))])) _
    refine XS.istore X0.here hx rfl (hb hby d14_13) rfl (l' := #[.val (.ref o0), .val (.int (Int32.ofNat i)), .val (.ref o2), .val (.int (Int32.ofNat i)), .val (.int (Int32.ofNat n)), .val (.int (Int32.ofNat i)), .val (.int (g i))]) (os_coT_13 hs6) ?_
    show Steps p.tables e below (T0.setTop (mkF m 15 #[.val (.ref o0), .val (.int (Int32.ofNat i)), .val (.ref o2), .val (.int (Int32.ofNat i)), .val (.int (Int32.ofNat n)), .val (.int (Int32.ofNat i)), .val (.int (g i))] [])) _
    refine XS.iload X0.here hx rfl (hb hby d14_15) rfl ?_
    show Steps p.tables e below (T0.setTop (mkF m 17 #[.val (.ref o0), .val (.int (Int32.ofNat i)), .val (.ref o2), .val (.int (Int32.ofNat i)), .val (.int (Int32.ofNat n)), .val (.int (Int32.ofNat i)), .val (.int (g i))] [(.int (g i))])) _
    refine XS.sipush X0.here hx rfl (hb hby d14_17) ?_
    show Steps p.tables e below (T0.setTop (mkF m 20 #[.val (.ref o0), .val (.int (Int32.ofNat i)), .val (.ref o2), .val (.int (Int32.ofNat i)), .val (.int (Int32.ofNat n)), .val (.int (Int32.ofNat i)), .val (.int (g i))] [(.int (255 : Int32)), (.int (g i))])) _
    refine XS.icmpYes X0.here hx rfl (pc0 := 20) (pc' := 26) rfl (hb hby d14_20) rfl (flt (by rw [Int32.lt_iff_toInt_lt]; have := (hg i hi).2; show ¬ (255 : Int) < _; omega)).2.2.2 (by decide) (by decide) ?_
    show Steps p.tables e below (T0.setTop (mkF m 26 #[.val (.ref o0), .val (.int (Int32.ofNat i)), .val (.ref o2), .val (.int (Int32.ofNat i)), .val (.int (Int32.ofNat n)), .val (.int (Int32.ofNat i)), .val (.int (g i))] [])) _
    refine XS.aloadN X0.here hx rfl (hb hby d14_26) rfl rfl ?_
    show Steps p.tables e below (T0.setTop (mkF m 27 #[.val (.ref o0), .val (.int (Int32.ofNat i)), .val (.ref o2), .val (.int (Int32.ofNat i)), .val (.int (Int32.ofNat n)), .val (.int (Int32.ofNat i)), .val (.int (g i))] [(.ref o2)])) _
    refine XS.iloadN X0.here hx rfl (hb hby d14_27) rfl ?_
    show Steps p.tables e below (T0.setTop (mkF m 28 #[.val (.ref o0), .val (.int (Int32.ofNat i)), .val (.ref o2), .val (.int (Int32.ofNat i)), .val (.int (Int32.ofNat n)), .val (.int (Int32.ofNat i)), .val (.int (g i))] [(.int (Int32.ofNat i)), (.ref o2)])) _
    refine XS.iload X0.here hx rfl (hb hby d14_28) rfl ?_
    show Steps p.tables e below (T0.setTop (mkF m 30 #[.val (.ref o0), .val (.int (Int32.ofNat i)), .val (.ref o2), .val (.int (Int32.ofNat i)), .val (.int (Int32.ofNat n)), .val (.int (Int32.ofNat i)), .val (.int (g i))] [(.int (g i)), (.int (Int32.ofNat i)), (.ref o2)])) _
    refine XS.i2b X0.here hx rfl (hb hby d14_30) rfl ?_
    show Steps p.tables e below (T0.setTop (mkF m 31 #[.val (.ref o0), .val (.int (Int32.ofNat i)), .val (.ref o2), .val (.int (Int32.ofNat i)), .val (.int (Int32.ofNat n)), .val (.int (Int32.ofNat i)), .val (.int (g i))] [(.int ((g i).toInt8.toInt32)), (.int (Int32.ofNat i)), (.ref o2)])) _
    refine st3 _ ?_
    show Steps p.tables e below (T3.setTop (mkF m 32 #[.val (.ref o0), .val (.int (Int32.ofNat i)), .val (.ref o2), .val (.int (Int32.ofNat i)), .val (.int (Int32.ofNat n)), .val (.int (Int32.ofNat i)), .val (.int (g i))] [])) _
    refine XS.iinc X3.here hx rfl (hb hby d14_32) rfl (l' := #[.val (.ref o0), .val (.int ((Int32.ofNat i) + (1 : Int32))), .val (.ref o2), .val (.int (Int32.ofNat i)), .val (.int (Int32.ofNat n)), .val (.int (Int32.ofNat i)), .val (.int (g i))]) rfl ?_
    show Steps p.tables e below (T3.setTop (mkF m 35 #[.val (.ref o0), .val (.int ((Int32.ofNat i) + (1 : Int32))), .val (.ref o2), .val (.int (Int32.ofNat i)), .val (.int (Int32.ofNat n)), .val (.int (Int32.ofNat i)), .val (.int (g i))] [])) _
    refine XS.iinc X3.here hx rfl (hb hby d14_35) rfl (l' := #[.val (.ref o0), .val (.int ((Int32.ofNat i) + (1 : Int32))), .val (.ref o2), .val (.int ((Int32.ofNat i) + (1 : Int32))), .val (.int (Int32.ofNat n)), .val (.int (Int32.ofNat i)), .val (.int (g i))]) rfl ?_
    show Steps p.tables e below (T3.setTop (mkF m 38 #[.val (.ref o0), .val (.int ((Int32.ofNat i) + (1 : Int32))), .val (.ref o2), .val (.int ((Int32.ofNat i) + (1 : Int32))), .val (.int (Int32.ofNat n)), .val (.int (Int32.ofNat i)), .val (.int (g i))] [])) _
    refine XS.iinc X3.here hx rfl (hb hby d14_38) rfl (l' := #[.val (.ref o0), .val (.int ((Int32.ofNat i) + (1 : Int32))), .val (.ref o2), .val (.int ((Int32.ofNat i) + (1 : Int32))), .val (.int (Int32.ofNat n)), .val (.int ((Int32.ofNat i) + (1 : Int32))), .val (.int (g i))]) rfl ?_
    show Steps p.tables e below (T3.setTop (mkF m 41 #[.val (.ref o0), .val (.int ((Int32.ofNat i) + (1 : Int32))), .val (.ref o2), .val (.int ((Int32.ofNat i) + (1 : Int32))), .val (.int (Int32.ofNat n)), .val (.int ((Int32.ofNat i) + (1 : Int32))), .val (.int (g i))] [])) _
    refine XS.goto X3.here hx rfl (pc0 := 41) (pc' := 3) rfl (hb hby d14_41) (by decide) (by decide) ?_
    exact kt
  exact ⟨T3, h3, _, X3, e3, K3, V3, .val (.int (g i)), One.val rfl, fun target kt => pre4 target (by rw [own_oneI]; exact kt)⟩
theorem d14_44 : decode jdk_52_method_21_code 44 = .ok (.iload 4, 2) := by decide +kernel
set_option maxRecDepth 65536 in
set_option maxHeartbeats 40000000 in
theorem coM {p : Program} {l : Launch} {e : Env} {R : Room} {s : State} {m : MethodId} {args : Array Value} {below : List Frame} {meth : Method} {c : Code} {T0 : State} {locs : List Loc} {cells slots : Nat} {Z : State} {a0 : Array Value} {h0 : Heap} (o0 o2 : Addr) (n : Nat) (s6 : Slot) (X0 : Stand p l e R s m args below meth c T0 locs cells slots) (hx : p.tables.exec = Jvm.exec) (hZ : Z.Warmed39 s.vm) (hw : ∀ d ∈ tables_1, d.before a0 Z = true) (hby : c.code = jdk_52_method_21_code) (hml : c.maxLocals = 7) (hown : s.vm.findClass "java/lang/StringUTF16" = some m.cls) (e0 : T0.heap = h0) (hn : n ≤ 4000) :
    ∃ (T' : State) (Ls : Array Slot), Stand p l e R s m args below meth c T' locs cells slots ∧ T'.heap = h0 ∧ ∀ target, Steps p.tables e below (T'.setTop (mkF m 46 Ls [.int (Int32.ofNat n)])) target → Steps p.tables e below (T0.setTop (mkF m 3 #[.val (.ref o0), .val (.int (Int32.ofNat n)), .val (.ref o2), .val (.int (Int32.ofNat n)), .val (.int (Int32.ofNat n)), .val (.int (Int32.ofNat n)), s6] [])) target := by
  have pre0 : ∀ t, Steps p.tables e below (T0.setTop (mkF m 3 #[.val (.ref o0), .val (.int (Int32.ofNat n)), .val (.ref o2), .val (.int (Int32.ofNat n)), .val (.int (Int32.ofNat n)), .val (.int (Int32.ofNat n)), s6] [])) t → Steps p.tables e below (T0.setTop (mkF m 3 #[.val (.ref o0), .val (.int (Int32.ofNat n)), .val (.ref o2), .val (.int (Int32.ofNat n)), .val (.int (Int32.ofNat n)), .val (.int (Int32.ofNat n)), s6] [])) t := fun _ k => k
  have pre1 : ∀ t, Steps p.tables e below (T0.setTop (mkF m 46 #[.val (.ref o0), .val (.int (Int32.ofNat n)), .val (.ref o2), .val (.int (Int32.ofNat n)), .val (.int (Int32.ofNat n)), .val (.int (Int32.ofNat n)), s6] [(.int (Int32.ofNat n))])) t → Steps p.tables e below (T0.setTop (mkF m 3 #[.val (.ref o0), .val (.int (Int32.ofNat n)), .val (.ref o2), .val (.int (Int32.ofNat n)), .val (.int (Int32.ofNat n)), .val (.int (Int32.ofNat n)), s6] [])) t := by
    intro t kt
    refine pre0 t ?_
    show Steps p.tables e below (T0.setTop (mkF m 3 #[.val (.ref o0), .val (.int (Int32.ofNat n)), .val (.ref o2), .val (.int (Int32.ofNat n)), .val (.int (Int32.ofNat n)), .val (.int (Int32.ofNat n)), s6] [])) _
    refine XS.iload X0.here hx rfl (hb hby d14_3) rfl ?_
    show Steps p.tables e below (T0.setTop (mkF m 5 #[.val (.ref o0), .val (.int (Int32.ofNat n)), .val (.ref o2), .val (.int (Int32.ofNat n)), .val (.int (Int32.ofNat n)), .val (.int (Int32.ofNat n)), s6] [(.int (Int32.ofNat n))])) _
    refine XS.iload X0.here hx rfl (hb hby d14_5) rfl ?_
    show Steps p.tables e below (T0.setTop (mkF m 7 #[.val (.ref o0), .val (.int (Int32.ofNat n)), .val (.ref o2), .val (.int (Int32.ofNat n)), .val (.int (Int32.ofNat n)), .val (.int (Int32.ofNat n)), s6] [(.int (Int32.ofNat n)), (.int (Int32.ofNat n))])) _
    refine XS.icmpYes X0.here hx rfl (pc0 := 7) (pc' := 44) rfl (hb hby d14_7) rfl (flt (fun q => absurd ((own_ltI (by omega) (by omega)).mp q) (Nat.lt_irrefl n))).2.1 (by decide) (by decide) ?_
    show Steps p.tables e below (T0.setTop (mkF m 44 #[.val (.ref o0), .val (.int (Int32.ofNat n)), .val (.ref o2), .val (.int (Int32.ofNat n)), .val (.int (Int32.ofNat n)), .val (.int (Int32.ofNat n)), s6] [])) _
    refine XS.iload X0.here hx rfl (hb hby d14_44) rfl ?_
    exact kt
  exact ⟨T0, _, X0, e0, fun target kt => pre1 target kt⟩
theorem d14_46 : decode jdk_52_method_21_code 46 = .ok (.ireturn, 1) := by decide +kernel
set_option maxRecDepth 65536 in
set_option maxHeartbeats 40000000 in
theorem coL {p : Program} {l : Launch} {e : Env} {R : Room} {s : State} {m : MethodId} {args : Array Value} {below : List Frame} {meth : Method} {c : Code} {cells slots : Nat} {Z : State} {a0 : Array Value} (n0 : Nat) (o0 o2 : Addr) (k0 k1 : ClassId) (n : Nat) (g : Nat → Int32) (hx : p.tables.exec = Jvm.exec) (hZ : Z.Warmed39 s.vm) (hw : ∀ d ∈ tables_1, d.before a0 Z = true) (hby : c.code = jdk_52_method_21_code) (hml : c.maxLocals = 7) (hown : s.vm.findClass "java/lang/StringUTF16" = some m.cls) (hn : n ≤ 4000) (hg : ∀ i, i < n → 0 ≤ (g i).toInt ∧ (g i).toInt < 256) (hne : o0 ≠ o2) (g_o : n0 ≤ o2) :
    ∀ (k i : Nat) (u : Nat → Int32) (s6 : Slot) (T0 : State) (locs : List Loc), One s6 → i + k = n → GA Z T0.heap o0 k0 .char n (fun i => .int (g i)) → GA Z T0.heap o2 k1 .byte n (fun i => .int (u i)) → Fr n0 locs → Stand p l e R s m args below meth c T0 locs cells slots →
      ∃ (T' : State) (locs' : List Loc) (u' : Nat → Int32) (Ls : Array Slot), Stand p l e R s m args below meth c T' locs' cells slots ∧ Fr n0 locs' ∧ Keep T0.heap T'.heap [o2] ∧ GA Z T'.heap o2 k1 .byte n (fun i => .int (u' i)) ∧ ∀ target, Steps p.tables e below (T'.setTop (mkF m 46 Ls [.int (Int32.ofNat n)])) target → Steps p.tables e below (T0.setTop (mkF m 3 #[.val (.ref o0), .val (.int (Int32.ofNat i)), .val (.ref o2), .val (.int (Int32.ofNat i)), .val (.int (Int32.ofNat n)), .val (.int (Int32.ofNat i)), s6] [])) target := by
  intro k
  induction k with
  | zero =>
    intro i u s6 T0 locs h6 hi Vc Vb N0 X0
    obtain rfl : i = n := by omega
    obtain ⟨T1, Ls, X1, e1, st⟩ := coM o0 o2 i s6 X0 hx hZ hw hby hml hown rfl hn
    exact ⟨T1, locs, u, Ls, X1, N0, by rw [e1]; exact Keep.refl _ _, by rw [e1]; exact Vb, st⟩
  | succ k ih =>
    intro i u s6 T0 locs h6 hi Vc Vb N0 X0
    obtain ⟨T1, h1, u1, X1, e1, K1, V1, a6, o6, st⟩ := coT n0 o0 o2 k0 k1 n i g u s6 X0 hx hZ hw hby hml hown rfl h6 hn (by omega) hg hne Vc Vb
    subst e1
    obtain ⟨T2, l2, u2, Ls, X2, N2, K2, V2, st2⟩ := ih (i + 1) u1 a6 T1 _ o6 (by omega) (Vc.keep K1 (ninS hne nin0)) V1 (Fr.snoc X1 N0 g_o) X1
    exact ⟨T2, l2, u2, Ls, X2, N2, K1.trans K2 (allS (Or.inl (List.mem_of_getElem? (i := 0) rfl)) all0), V2, fun target kt => st target (st2 target kt)⟩
def QCo (Z : State) (o : Addr) (k : ClassId) (n : Nat) (h0 : Heap) (n0 : Nat) (v : Option Value) (h : Heap) (L : List Loc) : Prop := v = some (.int (Int32.ofNat n)) ∧ Fr n0 L ∧ Keep h0 h [o] ∧ ∃ u : Nat → Int32, GA Z h o k .byte n (fun i => .int (u i))
theorem d14_0 : decode jdk_52_method_21_code 0 = .ok (.iconst 0, 1) := by decide +kernel
theorem d14_1 : decode jdk_52_method_21_code 1 = .ok (.istore 5, 2) := by decide +kernel
theorem pn_14 : plainName "java/lang/StringUTF16" = true := by first | (simp [plainName, overriddenIn]; done) | decide +kernel
theorem ef_rCo (m : MethodId) (x0 : Addr) (x1 : Int32) (x2 : Addr) (x3 : Int32) (x4 : Int32) : entryFrame m #[(.ref x0), (.int x1), (.ref x2), (.int x3), (.int x4)] 7 = mkF m 0 #[.val (.ref x0), .val (.int x1), .val (.ref x2), .val (.int x3), .val (.int x4), .unset, .unset] [] := by first | (simp [entryFrame, mkF, argsToLocals, Value.category]; done) | rfl
set_option maxRecDepth 65536 in
set_option maxHeartbeats 40000000 in
theorem rCo (l : Launch) (Z : State) (a0 : Array Value) (hw : ∀ d ∈ tables_1, d.before a0 Z = true) (ws : List Jvm.Cond) (o0 : Addr) (o2 : Addr) (k0 k1 : ClassId) (n : Nat) (g u : Nat → Int32) (hn : n ≤ 4000) (hg : ∀ i, i < n → 0 ≤ (g i).toInt ∧ (g i).toInt < 256) (hne : o0 ≠ o2) (h0 : Heap) (n0 : Nat) (Z0 : n0 ≤ h0.size) (g_o : n0 ≤ o2) (V_c : GA Z h0 o0 k0 .char n (fun i => .int (g i))) (V_b : GA Z h0 o2 k1 .byte n (fun i => .int (u i))) :
    MetFree l (⟨"java/lang/StringUTF16", "compress", "([CI[BII)I"⟩ : MethodName) (head1 (Jvm.Cond.code (⟨"java/lang/StringUTF16", "compress", "([CI[BII)I"⟩ : MethodName) jdk_52_method_21_code 7 (some .int) :: ws) ({ frames := 0, cells := 0, slots := 0, locals := 0 } : Room)) (fun a U => a = #[(.ref o0), (.int (0 : Int32)), (.ref o2), (.int (0 : Int32)), (.int (Int32.ofNat n))] ∧ Z.Warmed39 U.vm ∧ U.heap = h0) (fun _ _ _ _ _ => True) (fun _ U o U' => ∃ v L, o = .returned v ∧ QCo Z o2 k1 n h0 n0 v U'.heap L ∧ FrameEnd U o U' L ({ frames := 0, cells := 0, slots := 0, locals := 0 } : Room).cells ({ frames := 0, cells := 0, slots := 0, locals := 0 } : Room).slots) := by
  refine MetFree.of_bodySF (plainFor_of_name pn_14) hisR ?_
  intro p e s m args below meth c s₁ Bd hml0 hP hK
  obtain ⟨rfl, hZ, hh⟩ := hP
  have hx := Bd.exec
  have hby := Bd.bytes
  have hml : c.maxLocals = 7 := hml0
  have hown : s.vm.findClass "java/lang/StringUTF16" = some m.cls := findClass_of_methodNamed Bd.named
  have hnm := (name_of_methodNamed Bd.named Bd.method).1
  have X0 : Stand p l e ({ frames := 0, cells := 0, slots := 0, locals := 0 } : Room) s m #[(.ref o0), (.int (0 : Int32)), (.ref o2), (.int (0 : Int32)), (.int (Int32.ofNat n))] below meth c s₁ [] 0 0 := Stand.of_body Bd
  have e0 : s₁.heap = h0 := by rw [← hh, Bd.state]; rfl
  have N0 := Fr.nil n0
  have pre0 : ∀ t, Steps p.tables e below (s₁.setTop (mkF m 0 #[.val (.ref o0), .val (.int (0 : Int32)), .val (.ref o2), .val (.int (0 : Int32)), .val (.int (Int32.ofNat n)), .unset, .unset] [])) t → Steps p.tables e below (s₁.setTop (entryFrame m #[(.ref o0), (.int (0 : Int32)), (.ref o2), (.int (0 : Int32)), (.int (Int32.ofNat n))] 7)) t := fun t k => castTop (ef_rCo m o0 (0 : Int32) o2 (0 : Int32) (Int32.ofNat n)) k
  have pre1 : ∀ t, Steps p.tables e below (s₁.setTop (mkF m 3 #[.val (.ref o0), .val (.int (0 : Int32)), .val (.ref o2), .val (.int (0 : Int32)), .val (.int (Int32.ofNat n)), .val (.int (0 : Int32)), .unset] [])) t → Steps p.tables e below (s₁.setTop (entryFrame m #[(.ref o0), (.int (0 : Int32)), (.ref o2), (.int (0 : Int32)), (.int (Int32.ofNat n))] 7)) t := by
    intro t kt
    refine pre0 t ?_
    show Steps p.tables e below (s₁.setTop (mkF m 0 #[.val (.ref o0), .val (.int (0 : Int32)), .val (.ref o2), .val (.int (0 : Int32)), .val (.int (Int32.ofNat n)), .unset, .unset] [])) _
    refine XS.iconst X0.here hx rfl (hb hby d14_0) ?_
    show Steps p.tables e below (s₁.setTop (mkF m 1 #[.val (.ref o0), .val (.int (0 : Int32)), .val (.ref o2), .val (.int (0 : Int32)), .val (.int (Int32.ofNat n)), .unset, .unset] [(.int (0 : Int32))])) _
    refine XS.istore X0.here hx rfl (hb hby d14_1) rfl (l' := #[.val (.ref o0), .val (.int (0 : Int32)), .val (.ref o2), .val (.int (0 : Int32)), .val (.int (Int32.ofNat n)), .val (.int (0 : Int32)), .unset]) rfl ?_
    exact kt
  obtain ⟨T2, L2, u', Ls, X2, N2, Kc, Vc, st2⟩ := coL n0 o0 o2 k0 k1 n g hx hZ hw hby hml hown hn hg hne g_o n 0 u .unset s₁ _ One.u (by omega) (by rw [e0]; exact V_c) (by rw [e0]; exact V_b) N0 X0
  rw [e0] at Kc
  obtain ⟨fs, hr, hrun, hended, hW, hsame⟩ := X2.leave (v := some (.int (Int32.ofNat n))) (fun h => by rw [Bd.returns] at h; cases h)
  refine ⟨_, _, pre1 _ (st2 _ ?_), hrun, hended, _, _, rfl, ?_, ⟨_, rfl⟩, hW, hsame.mono (by decide) (by decide)⟩
  · exact retI X2 hx Bd.returns (by rw [hby]; exact d14_46) hr
  · exact ⟨rfl, N2, Kc, u', Vc⟩
def QBn (Z : State) (n : Nat) (h0 : Heap) (n0 : Nat) (v : Option Value) (h : Heap) (L : List Loc) : Prop := ∃ (a : Addr) (k : ClassId) (u : Nat → Int32), v = some (.ref a) ∧ Fr n0 L ∧ Keep h0 h [] ∧ n0 ≤ a ∧ h0.size ≤ a ∧ GA Z h a k .byte n (fun i => .int (u i))
theorem d13_0 : decode jdk_52_method_16_code 0 = .ok (.iload_n 2, 1) := by decide +kernel
theorem d13_1 : decode jdk_52_method_16_code 1 = .ok (.newarray .byte, 2) := by decide +kernel
theorem d13_3 : decode jdk_52_method_16_code 3 = .ok (.astore_n 3, 1) := by decide +kernel
theorem d13_4 : decode jdk_52_method_16_code 4 = .ok (.aload_n 0, 1) := by decide +kernel
theorem d13_5 : decode jdk_52_method_16_code 5 = .ok (.iload_n 1, 1) := by decide +kernel
theorem d13_6 : decode jdk_52_method_16_code 6 = .ok (.aload_n 3, 1) := by decide +kernel
theorem d13_7 : decode jdk_52_method_16_code 7 = .ok (.iconst 0, 1) := by decide +kernel
theorem d13_8 : decode jdk_52_method_16_code 8 = .ok (.iload_n 2, 1) := by decide +kernel
theorem d13_9 : decode jdk_52_method_16_code 9 = .ok (.invokestatic 115, 3) := by decide +kernel
theorem pd___CI_BII_I : parseMethodDescriptor "([CI[BII)I" = some ⟨[(.array .char), .int, (.array .byte), .int, .int], some .int⟩ := by decide +kernel
theorem d13_12 : decode jdk_52_method_16_code 12 = .ok (.istore 4, 2) := by decide +kernel
theorem d13_14 : decode jdk_52_method_16_code 14 = .ok (.iload 4, 2) := by decide +kernel
theorem d13_16 : decode jdk_52_method_16_code 16 = .ok (.iload_n 2, 1) := by decide +kernel
theorem d13_17 : decode jdk_52_method_16_code 17 = .ok (.if_icmp .eq 40, 3) := by decide +kernel
theorem d13_57 : decode jdk_52_method_16_code 57 = .ok (.aload_n 3, 1) := by decide +kernel
theorem d13_58 : decode jdk_52_method_16_code 58 = .ok (.areturn, 1) := by decide +kernel
theorem pn_13 : plainName "java/lang/StringUTF16" = true := by first | (simp [plainName, overriddenIn]; done) | decide +kernel
theorem ef_rCb (m : MethodId) (x0 : Addr) (x1 : Int32) (x2 : Int32) : entryFrame m #[(.ref x0), (.int x1), (.int x2)] 6 = mkF m 0 #[.val (.ref x0), .val (.int x1), .val (.int x2), .unset, .unset, .unset] [] := by first | (simp [entryFrame, mkF, argsToLocals, Value.category]; done) | rfl
set_option maxRecDepth 65536 in
set_option maxHeartbeats 40000000 in
theorem rCb (l : Launch) (Z : State) (a0 : Array Value) (hw : ∀ d ∈ tables_1, d.before a0 Z = true) (ws : List Jvm.Cond) (o0 : Addr) (k0 : ClassId) (n : Nat) (g : Nat → Int32) (hn : n ≤ 9) (hg : ∀ i, i < n → 0 ≤ (g i).toInt ∧ (g i).toInt < 256) (h0 : Heap) (n0 : Nat) (Z0 : n0 ≤ h0.size) (V_c : GA Z h0 o0 k0 .char n (fun i => .int (g i))) :
    MetFree l (⟨"java/lang/StringUTF16", "compress", "([CII)[B"⟩ : MethodName) (head1 (Jvm.Cond.code (⟨"java/lang/StringUTF16", "compress", "([CII)[B"⟩ : MethodName) jdk_52_method_16_code 6 (some (.array .byte)) :: ws) ({ frames := 1, cells := 1, slots := 9, locals := 24 } : Room)) (fun a U => a = #[(.ref o0), (.int (0 : Int32)), (.int (Int32.ofNat n))] ∧ Z.Warmed39 U.vm ∧ U.heap = h0) (fun _ _ _ _ _ => True) (fun _ U o U' => ∃ v L, o = .returned v ∧ QBn Z n h0 n0 v U'.heap L ∧ FrameEnd U o U' L ({ frames := 1, cells := 1, slots := 9, locals := 24 } : Room).cells ({ frames := 1, cells := 1, slots := 9, locals := 24 } : Room).slots) := by
  refine MetFree.of_bodySF (plainFor_of_name pn_13) hisR ?_
  intro p e s m args below meth c s₁ Bd hml0 hP hK
  obtain ⟨rfl, hZ, hh⟩ := hP
  have hx := Bd.exec
  have hby := Bd.bytes
  have hml : c.maxLocals = 6 := hml0
  have hown : s.vm.findClass "java/lang/StringUTF16" = some m.cls := findClass_of_methodNamed Bd.named
  have hnm := (name_of_methodNamed Bd.named Bd.method).1
  have X0 : Stand p l e ({ frames := 1, cells := 1, slots := 9, locals := 24 } : Room) s m #[(.ref o0), (.int (0 : Int32)), (.int (Int32.ofNat n))] below meth c s₁ [] 0 0 := Stand.of_body Bd
  have e0 : s₁.heap = h0 := by rw [← hh, Bd.state]; rfl
  have N0 := Fr.nil n0
  have pre0 : ∀ t, Steps p.tables e below (s₁.setTop (mkF m 0 #[.val (.ref o0), .val (.int (0 : Int32)), .val (.int (Int32.ofNat n)), .unset, .unset, .unset] [])) t → Steps p.tables e below (s₁.setTop (entryFrame m #[(.ref o0), (.int (0 : Int32)), (.int (Int32.ofNat n))] 6)) t := fun t k => castTop (ef_rCb m o0 (0 : Int32) (Int32.ofNat n)) k
  have hn4 : n ≤ 4000 := by omega
  obtain ⟨T1, h1, k1, X1, e1, E1, A1, st1⟩ := newP X0 hx hZ (hw _ (List.mem_of_getElem? (i := 5) rfl)) e0 (g := (mkF m 1 #[.val (.ref o0), .val (.int (0 : Int32)), .val (.int (Int32.ofNat n)), .unset, .unset, .unset] [(.int (Int32.ofNat n))])) rfl (hb hby d13_1) rfl (by rw [Int32.lt_iff_toInt_lt, own_i32 (by omega)]; show ¬ (n : Int) < 0; omega) (cap := 9) (by rw [own_cl (by omega)]; exact hn) (by decide) (by decide) (by decide)
  obtain ⟨b1, g1⟩ : ∃ z, z = h0.size := ⟨_, rfl⟩
  rw [← g1] at A1 st1
  have g_b1 : n0 ≤ b1 := Nat.le_trans Z0 (Nat.le_of_eq g1.symm)
  have sz_b1 : h0.size ≤ b1 := Nat.le_trans (Keep.refl h0 []).1 (Nat.le_of_eq g1.symm)
  have ne1_o0 : o0 ≠ b1 := Nat.ne_of_lt (Nat.lt_of_lt_of_le (V_c).lt (Nat.le_of_eq g1.symm))
  have Zs1 : n0 ≤ h1.size := Nat.le_trans Z0 E1.1
  have K1 : Keep h0 h1 [] := (Keep.refl h0 []).ext E1
  have G1 : GA Z h1 b1 k1 .byte n (fun _ => .int (0 : Int32)) := GA.new A1 (own_cl (by omega))
  have V_c_2 := (V_c.ext E1)
  obtain ⟨_, _, ⟨T3, L3, k3, n3⟩, -, X3, ⟨Lc3, hQ3, l3, y3, z3⟩, st3⟩ := Jvm.LawKit.callS X1 hx (y := (⟨"java/lang/StringUTF16", "compress", "([CI[BII)I"⟩ : MethodName)) hown (mvT hZ (hw _ (List.mem_of_getElem? (i := 67) rfl))) (mvT hZ (hw _ (List.mem_of_getElem? (i := 68) rfl))) (mvT hZ (hw _ (List.mem_of_getElem? (i := 65) rfl))) (mvT hZ (hw _ (List.mem_of_getElem? (i := 69) rfl))) (by decide) (backOf (W := 0) (rCo l Z a0 hw [] o0 b1 k0 k1 n g (fun _ => 0) hn4 hg ne1_o0 h1 n0 Zs1 g_b1 V_c_2 G1) hZ (hw _ (List.mem_of_getElem? (i := 69) rfl)) (hw _ (List.mem_of_getElem? (i := 65) rfl)) (by decide) (by decide)) (g := (mkF m 9 #[.val (.ref o0), .val (.int (0 : Int32)), .val (.int (Int32.ofNat n)), .val (.ref b1), .unset, .unset] [(.int (Int32.ofNat n)), (.int (0 : Int32)), (.ref b1), (.int (0 : Int32)), (.ref o0)])) rfl (by rw [hml]; rfl) (argsL := [(.ref o0), (.int (0 : Int32)), (.ref b1), (.int (0 : Int32)), (.int (Int32.ofNat n))]) (rest := []) (lenOf pd___CI_BII_I rfl) rfl (by show 2 * 0 + _ ≤ _; exact Nat.le_of_eq rfl) (hb hby d13_9) (fun _ _ => ⟨rfl, e1, (by decide : 1 + 0 ≤ _), (by decide : 9 + 0 ≤ _)⟩)
  dsimp only [Pt.U, Pt.locs, Pt.cells, Pt.slots] at X3 l3 y3 z3 st3 hQ3
  rw [l3, y3, z3] at X3
  obtain ⟨rfl, N3q, Kp3, u3, Vb3⟩ := hQ3
  have N3 := Fr.app N0 N3q
  have Zs3 : n0 ≤ T3.heap.size := Nat.le_trans Zs1 Kp3.1
  have Kk3 : Keep h0 T3.heap [] := K1.trans Kp3 (allS (Or.inr sz_b1) all0)
  obtain ⟨fs, hr, hrun, hended, hW, hsame⟩ := X3.leave (v := some (.ref b1)) (fun h => by rw [Bd.returns] at h; cases h)
  refine ⟨_, _, pre0 _ ?_, hrun, hended, _, _, rfl, ?_, ⟨_, rfl⟩, hW, hsame.mono (by decide) (by decide)⟩
  · skip
    show Steps p.tables e below (s₁.setTop (mkF m 0 #[.val (.ref o0), .val (.int (0 : Int32)), .val (.int (Int32.ofNat n)), .unset, .unset, .unset] [])) _
    refine XS.iloadN X0.here hx rfl (hb hby d13_0) rfl ?_
    show Steps p.tables e below (s₁.setTop (mkF m 1 #[.val (.ref o0), .val (.int (0 : Int32)), .val (.int (Int32.ofNat n)), .unset, .unset, .unset] [(.int (Int32.ofNat n))])) _
    refine st1 _ ?_
    show Steps p.tables e below (T1.setTop (mkF m 3 #[.val (.ref o0), .val (.int (0 : Int32)), .val (.int (Int32.ofNat n)), .unset, .unset, .unset] [(.ref b1)])) _
    refine XS.astoreN X1.here hx rfl (hb hby d13_3) rfl rfl (l' := #[.val (.ref o0), .val (.int (0 : Int32)), .val (.int (Int32.ofNat n)), .val (.ref b1), .unset, .unset]) rfl ?_
    show Steps p.tables e below (T1.setTop (mkF m 4 #[.val (.ref o0), .val (.int (0 : Int32)), .val (.int (Int32.ofNat n)), .val (.ref b1), .unset, .unset] [])) _
    refine XS.aloadN X1.here hx rfl (hb hby d13_4) rfl rfl ?_
    show Steps p.tables e below (T1.setTop (mkF m 5 #[.val (.ref o0), .val (.int (0 : Int32)), .val (.int (Int32.ofNat n)), .val (.ref b1), .unset, .unset] [(.ref o0)])) _
    refine XS.iloadN X1.here hx rfl (hb hby d13_5) rfl ?_
    show Steps p.tables e below (T1.setTop (mkF m 6 #[.val (.ref o0), .val (.int (0 : Int32)), .val (.int (Int32.ofNat n)), .val (.ref b1), .unset, .unset] [(.int (0 : Int32)), (.ref o0)])) _
    refine XS.aloadN X1.here hx rfl (hb hby d13_6) rfl rfl ?_
    show Steps p.tables e below (T1.setTop (mkF m 7 #[.val (.ref o0), .val (.int (0 : Int32)), .val (.int (Int32.ofNat n)), .val (.ref b1), .unset, .unset] [(.ref b1), (.int (0 : Int32)), (.ref o0)])) _
    refine XS.iconst X1.here hx rfl (hb hby d13_7) ?_
    show Steps p.tables e below (T1.setTop (mkF m 8 #[.val (.ref o0), .val (.int (0 : Int32)), .val (.int (Int32.ofNat n)), .val (.ref b1), .unset, .unset] [(.int (0 : Int32)), (.ref b1), (.int (0 : Int32)), (.ref o0)])) _
    refine XS.iloadN X1.here hx rfl (hb hby d13_8) rfl ?_
    show Steps p.tables e below (T1.setTop (mkF m 9 #[.val (.ref o0), .val (.int (0 : Int32)), .val (.int (Int32.ofNat n)), .val (.ref b1), .unset, .unset] [(.int (Int32.ofNat n)), (.int (0 : Int32)), (.ref b1), (.int (0 : Int32)), (.ref o0)])) _
    refine st3 _ ?_
    show Steps p.tables e below (T3.setTop (mkF m 12 #[.val (.ref o0), .val (.int (0 : Int32)), .val (.int (Int32.ofNat n)), .val (.ref b1), .unset, .unset] [(.int (Int32.ofNat n))])) _
    refine XS.istore X3.here hx rfl (hb hby d13_12) rfl (l' := #[.val (.ref o0), .val (.int (0 : Int32)), .val (.int (Int32.ofNat n)), .val (.ref b1), .val (.int (Int32.ofNat n)), .unset]) rfl ?_
    show Steps p.tables e below (T3.setTop (mkF m 14 #[.val (.ref o0), .val (.int (0 : Int32)), .val (.int (Int32.ofNat n)), .val (.ref b1), .val (.int (Int32.ofNat n)), .unset] [])) _
    refine XS.iload X3.here hx rfl (hb hby d13_14) rfl ?_
    show Steps p.tables e below (T3.setTop (mkF m 16 #[.val (.ref o0), .val (.int (0 : Int32)), .val (.int (Int32.ofNat n)), .val (.ref b1), .val (.int (Int32.ofNat n)), .unset] [(.int (Int32.ofNat n))])) _
    refine XS.iloadN X3.here hx rfl (hb hby d13_16) rfl ?_
    show Steps p.tables e below (T3.setTop (mkF m 17 #[.val (.ref o0), .val (.int (0 : Int32)), .val (.int (Int32.ofNat n)), .val (.ref b1), .val (.int (Int32.ofNat n)), .unset] [(.int (Int32.ofNat n)), (.int (Int32.ofNat n))])) _
    refine XS.icmpYes X3.here hx rfl (pc0 := 17) (pc' := 57) rfl (hb hby d13_17) rfl (teq rfl).1 (by decide) (by decide) ?_
    show Steps p.tables e below (T3.setTop (mkF m 57 #[.val (.ref o0), .val (.int (0 : Int32)), .val (.int (Int32.ofNat n)), .val (.ref b1), .val (.int (Int32.ofNat n)), .unset] [])) _
    refine XS.aloadN X3.here hx rfl (hb hby d13_57) rfl rfl ?_
    show Steps p.tables e below (T3.setTop (mkF m 58 #[.val (.ref o0), .val (.int (0 : Int32)), .val (.int (Int32.ofNat n)), .val (.ref b1), .val (.int (Int32.ofNat n)), .unset] [(.ref b1)])) _
    jvm_step X3.here [X3.here.top, hx, (hb hby d13_58), X3.method', Bd.returns, Value.isRef, FieldType.isReference]
    first | (intro acts; rw [hr _ acts rfl rfl rfl]) | rw [hr _ _ rfl rfl rfl]
    exact Steps.refl _
  · show QBn Z n h0 n0 _ T3.heap _
    exact ⟨_, _, u3, rfl, N3, Kk3, g_b1, sz_b1, Vb3⟩
theorem d15_0 : decode jdk_52_method_15_code 0 = .ok (.iload_n 1, 1) := by decide +kernel
theorem d15_1 : decode jdk_52_method_15_code 1 = .ok (.aload_n 0, 1) := by decide +kernel
theorem d15_2 : decode jdk_52_method_15_code 2 = .ok (.arraylength, 1) := by decide +kernel
theorem d15_3 : decode jdk_52_method_15_code 3 = .ok (.isub, 1) := by decide +kernel
theorem d15_4 : decode jdk_52_method_15_code 4 = .ok (.bipush 31, 2) := by decide +kernel
theorem d15_6 : decode jdk_52_method_15_code 6 = .ok (.iushr, 1) := by decide +kernel
theorem d15_7 : decode jdk_52_method_15_code 7 = .ok (.i2b, 1) := by decide +kernel
theorem d15_8 : decode jdk_52_method_15_code 8 = .ok (.ireturn, 1) := by decide +kernel
theorem pn_15 : plainName "java/lang/StringUTF16" = true := by first | (simp [plainName, overriddenIn]; done) | decide +kernel
theorem ef_rCl (m : MethodId) (x0 : Addr) (x1 : Int32) : entryFrame m #[(.ref x0), (.int x1)] 2 = mkF m 0 #[.val (.ref x0), .val (.int x1)] [] := by first | (simp [entryFrame, mkF, argsToLocals, Value.category]; done) | rfl
set_option maxRecDepth 65536 in
set_option maxHeartbeats 40000000 in
theorem rCl (l : Launch) (Z : State) (a0 : Array Value) (hw : ∀ d ∈ tables_1, d.before a0 Z = true) (ws : List Jvm.Cond) (o0 : Addr) (k0 : ClassId) (n : Nat) (u : Nat → Int32) (h0 : Heap) (n0 : Nat) (Z0 : n0 ≤ h0.size) (V_a : GA Z h0 o0 k0 .byte n (fun i => .int (u i))) :
    MetFree l (⟨"java/lang/StringUTF16", "coderFromArrayLen", "([BI)B"⟩ : MethodName) (head1 (Jvm.Cond.code (⟨"java/lang/StringUTF16", "coderFromArrayLen", "([BI)B"⟩ : MethodName) jdk_52_method_15_code 2 (some .byte) :: ws) ({ frames := 0, cells := 0, slots := 0, locals := 0 } : Room)) (fun a U => a = #[(.ref o0), (.int (Int32.ofNat n))] ∧ Z.Warmed39 U.vm ∧ U.heap = h0) (fun _ _ _ _ _ => True) (fun _ U o U' => ∃ v L, o = .returned v ∧ QR (.int (0 : Int32)) h0 n0 v U'.heap L ∧ FrameEnd U o U' L ({ frames := 0, cells := 0, slots := 0, locals := 0 } : Room).cells ({ frames := 0, cells := 0, slots := 0, locals := 0 } : Room).slots) := by
  refine MetFree.of_bodySF (plainFor_of_name pn_15) hisR ?_
  intro p e s m args below meth c s₁ Bd hml0 hP hK
  obtain ⟨rfl, hZ, hh⟩ := hP
  have hx := Bd.exec
  have hby := Bd.bytes
  have hml : c.maxLocals = 2 := hml0
  have hown : s.vm.findClass "java/lang/StringUTF16" = some m.cls := findClass_of_methodNamed Bd.named
  have hnm := (name_of_methodNamed Bd.named Bd.method).1
  have X0 : Stand p l e ({ frames := 0, cells := 0, slots := 0, locals := 0 } : Room) s m #[(.ref o0), (.int (Int32.ofNat n))] below meth c s₁ [] 0 0 := Stand.of_body Bd
  have e0 : s₁.heap = h0 := by rw [← hh, Bd.state]; rfl
  have N0 := Fr.nil n0
  have pre0 : ∀ t, Steps p.tables e below (s₁.setTop (mkF m 0 #[.val (.ref o0), .val (.int (Int32.ofNat n))] [])) t → Steps p.tables e below (s₁.setTop (entryFrame m #[(.ref o0), (.int (Int32.ofNat n))] 2)) t := fun t k => castTop (ef_rCl m o0 (Int32.ofNat n)) k
  obtain ⟨cl1, Ar1, -, Sa1, -⟩ := id V_a
  obtain ⟨fs, hr, hrun, hended, hW, hsame⟩ := X0.leave (v := some (.int (0 : Int32))) (fun h => by rw [Bd.returns] at h; cases h)
  refine ⟨_, _, pre0 _ ?_, hrun, hended, _, _, rfl, ?_, ⟨_, rfl⟩, hW, hsame.mono (by decide) (by decide)⟩
  · skip
    show Steps p.tables e below (s₁.setTop (mkF m 0 #[.val (.ref o0), .val (.int (Int32.ofNat n))] [])) _
    refine XS.iloadN X0.here hx rfl (hb hby d15_0) rfl ?_
    show Steps p.tables e below (s₁.setTop (mkF m 1 #[.val (.ref o0), .val (.int (Int32.ofNat n))] [(.int (Int32.ofNat n))])) _
    refine XS.aloadN X0.here hx rfl (hb hby d15_1) rfl rfl ?_
    show Steps p.tables e below (s₁.setTop (mkF m 2 #[.val (.ref o0), .val (.int (Int32.ofNat n))] [(.ref o0), (.int (Int32.ofNat n))])) _
    refine X0.arraylength hx (by rw [e0]; exact Ar1.1) (State.isArrayOf_alike hZ.alike Ar1.2.1) (g := (mkF m 2 #[.val (.ref o0), .val (.int (Int32.ofNat n))] [(.ref o0), (.int (Int32.ofNat n))])) rfl rfl (hb hby d15_2) _ ?_
    rw [own_len Sa1]
    show Steps p.tables e below (s₁.setTop (mkF m 3 #[.val (.ref o0), .val (.int (Int32.ofNat n))] [(.int (Int32.ofNat n)), (.int (Int32.ofNat n))])) _
    refine XS.isub X0.here hx rfl (hb hby d15_3) rfl ?_
    show Steps p.tables e below (s₁.setTop (mkF m 4 #[.val (.ref o0), .val (.int (Int32.ofNat n))] [(.int ((Int32.ofNat n) - (Int32.ofNat n)))])) _
    rw [Int32.sub_self]
    show Steps p.tables e below (s₁.setTop (mkF m 4 #[.val (.ref o0), .val (.int (Int32.ofNat n))] [(.int (0 : Int32))])) _
    refine XS.bipush X0.here hx rfl (hb hby d15_4) ?_
    show Steps p.tables e below (s₁.setTop (mkF m 6 #[.val (.ref o0), .val (.int (Int32.ofNat n))] [(.int (31 : Int32)), (.int (0 : Int32))])) _
    refine XS.iushr X0.here hx rfl (hb hby d15_6) rfl ?_
    show Steps p.tables e below (s₁.setTop (mkF m 7 #[.val (.ref o0), .val (.int (Int32.ofNat n))] [(.int (((0 : Int32).toUInt32 >>> ((31 : Int32) &&& 31).toUInt32).toInt32))])) _
    refine XS.i2b X0.here hx rfl (hb hby d15_7) rfl ?_
    show Steps p.tables e below (s₁.setTop (mkF m 8 #[.val (.ref o0), .val (.int (Int32.ofNat n))] [(.int ((((0 : Int32).toUInt32 >>> ((31 : Int32) &&& 31).toUInt32).toInt32).toInt8.toInt32))])) _
    rw [show ((((0 : Int32).toUInt32 >>> ((31 : Int32) &&& 31).toUInt32).toInt32).toInt8.toInt32) = (0 : Int32) from by decide]
    show Steps p.tables e below (s₁.setTop (mkF m 8 #[.val (.ref o0), .val (.int (Int32.ofNat n))] [(.int (0 : Int32))])) _
    exact retN X0 hx (t := .byte) Bd.returns (by simp) (hb hby d15_8) hr
  · show QR (.int (0 : Int32)) h0 n0 _ s₁.heap _
    rw [e0]
    exact ⟨(by first | rfl | simp []), N0, rfl⟩
theorem own_sub : ∀ a ∈ Bundle.stringAtoms, a ∈ tables_1 := by decide +kernel
theorem own_strings {Z : State} {a0 : Array Value} (hw : ∀ d ∈ tables_1, d.before a0 Z = true) : ∀ a ∈ Bundle.stringAtoms, a.before a0 Z = true := fun a ha => hw a (own_sub a ha)
theorem own_safe_null {Z : State} {EL : List (String × Nat)} {vm : Vm} {h : Heap} {x : Addr} (hal : Z.vm.Alike vm) (E : Exa Z h x "java/lang/String") (F : Fld Z h x "java/lang/String" "value" "[B" .null) : Safe Z EL vm h x := fun B => by
  obtain ⟨p, -, u, a, -, q, -, G, rfl | rfl⟩ := B
  · obtain ⟨cell, cf, k, i, f, e1, e2, -, -, -, -, e7⟩ := F
    cases (show h[q.sa]? = some q.sC from G.ha).symm.trans e1
    obtain ⟨cS, ⟨⟨s1, s2, s3, ⟨cv, kv, iv, s4, s4'⟩, -, s6, -, s8, -⟩, -⟩, -⟩ := G
    obtain ⟨kv', z4⟩ := ff_back (U := Wst Z vm h) hal s4
    have e4 := e2.symm.trans z4
    simp only [Option.some.injEq, Prod.mk.injEq] at e4
    rw [e4.2.2.2] at e7
    cases e7.symm.trans s8
  · obtain ⟨cell, k, e1, e2, -⟩ := E
    have e3 : q.SA = cell := Option.some.inj ((show h[q.sd]? = some q.SA from G.hd).symm.trans e1)
    obtain ⟨cS, -, -, f, -⟩ := G
    have f' : Z.vm.findClass "[B" = some cell.cls := by rw [← e3, ← hal.findClass]; exact f
    obtain ⟨ka, a1, a2⟩ := Vm.findClass_spec f'
    obtain ⟨kb, b1, b2⟩ := Vm.findClass_spec e2
    have e4 : ka = kb := Option.some.inj (a1.symm.trans b1)
    rw [e4] at a2
    exact absurd (a2.symm.trans b2) (by decide)
theorem own_arvGA {Z : State} {h : Heap} {a : Addr} {k : ClassId} {z : Int32} {us : List Int32} {N : Nat} (A : Arv Z h a k .byte z (us.map Value.int) (.int 0)) (hN : z.toNatClampNeg = N) : GA Z h a k .byte N (fun i => .int (us.getD i 0)) := by
  obtain ⟨cl, Ar, qa, Sa, -, Ha, -⟩ := A
  refine ⟨cl, Ar, qa, by rw [Sa]; exact hN, fun i hi => ?_⟩
  rw [Ha i (by rw [Sa, hN]; exact hi)]
  simp only [List.getD_eq_getElem?_getD, List.getElem?_map]
  cases us[i]? <;> rfl
def QSi (Z : State) (s : Addr) (n : Nat) (h0 : Heap) (n0 : Nat) (r : Option Value) (h : Heap) (L : List Loc) : Prop := r = none ∧ Fr n0 L ∧ Keep h0 h [s] ∧ ∃ (v : Addr) (k : ClassId) (f : Nat → Int32), SB Z h s v k n f
theorem d11_0 : decode jdk_42_method_149_code 0 = .ok (.aload_n 0, 1) := by decide +kernel
theorem d11_1 : decode jdk_42_method_149_code 1 = .ok (.invokespecial 1, 3) := by decide +kernel
theorem d11_4 : decode jdk_42_method_149_code 4 = .ok (.iload_n 3, 1) := by decide +kernel
theorem d11_5 : decode jdk_42_method_149_code 5 = .ok (.ifCond .ne 22, 3) := by decide +kernel
theorem d11_8 : decode jdk_42_method_149_code 8 = .ok (.aload_n 0, 1) := by decide +kernel
theorem d11_9 : decode jdk_42_method_149_code 9 = .ok (.ldc 7, 2) := by decide +kernel
theorem d11_11 : decode jdk_42_method_149_code 11 = .ok (.getfield 9, 3) := by decide +kernel
theorem d11_14 : decode jdk_42_method_149_code 14 = .ok (.putfield 9, 3) := by decide +kernel
theorem d11_17 : decode jdk_42_method_149_code 17 = .ok (.aload_n 0, 1) := by decide +kernel
theorem d11_18 : decode jdk_42_method_149_code 18 = .ok (.ldc 7, 2) := by decide +kernel
theorem d11_20 : decode jdk_42_method_149_code 20 = .ok (.getfield 15, 3) := by decide +kernel
theorem d11_23 : decode jdk_42_method_149_code 23 = .ok (.putfield 15, 3) := by decide +kernel
theorem d11_26 : decode jdk_42_method_149_code 26 = .ok (.return_, 1) := by decide +kernel
theorem d11_27 : decode jdk_42_method_149_code 27 = .ok (.getstatic 38, 3) := by decide +kernel
theorem d11_30 : decode jdk_42_method_149_code 30 = .ok (.ifCond .eq 28, 3) := by decide +kernel
theorem d11_33 : decode jdk_42_method_149_code 33 = .ok (.aload_n 1, 1) := by decide +kernel
theorem d11_34 : decode jdk_42_method_149_code 34 = .ok (.iload_n 2, 1) := by decide +kernel
theorem d11_35 : decode jdk_42_method_149_code 35 = .ok (.iload_n 3, 1) := by decide +kernel
theorem d11_36 : decode jdk_42_method_149_code 36 = .ok (.invokestatic 177, 3) := by decide +kernel
theorem pd___CII__B : parseMethodDescriptor "([CII)[B" = some ⟨[(.array .char), .int, .int], some (.array .byte)⟩ := by decide +kernel
theorem d11_39 : decode jdk_42_method_149_code 39 = .ok (.astore 5, 2) := by decide +kernel
theorem d11_41 : decode jdk_42_method_149_code 41 = .ok (.aload_n 0, 1) := by decide +kernel
theorem d11_42 : decode jdk_42_method_149_code 42 = .ok (.aload 5, 2) := by decide +kernel
theorem d11_44 : decode jdk_42_method_149_code 44 = .ok (.iload_n 3, 1) := by decide +kernel
theorem d11_45 : decode jdk_42_method_149_code 45 = .ok (.invokestatic 47, 3) := by decide +kernel
theorem pd___BI_B : parseMethodDescriptor "([BI)B" = some ⟨[(.array .byte), .int], some .byte⟩ := by decide +kernel
theorem d11_48 : decode jdk_42_method_149_code 48 = .ok (.putfield 15, 3) := by decide +kernel
theorem d11_51 : decode jdk_42_method_149_code 51 = .ok (.aload_n 0, 1) := by decide +kernel
theorem d11_52 : decode jdk_42_method_149_code 52 = .ok (.aload 5, 2) := by decide +kernel
theorem d11_54 : decode jdk_42_method_149_code 54 = .ok (.putfield 9, 3) := by decide +kernel
theorem d11_57 : decode jdk_42_method_149_code 57 = .ok (.return_, 1) := by decide +kernel
theorem pn_11 : plainName "java/lang/String" = true := by first | (simp [plainName, overriddenIn]; done) | decide +kernel
theorem ef_rI4 (m : MethodId) (x0 : Addr) (x1 : Addr) (x2 : Int32) (x3 : Int32) : entryFrame m #[(.ref x0), (.ref x1), (.int x2), (.int x3), .null] 6 = mkF m 0 #[.val (.ref x0), .val (.ref x1), .val (.int x2), .val (.int x3), .val .null, .unset] [] := by first | (simp [entryFrame, mkF, argsToLocals, Value.category]; done) | rfl
set_option maxRecDepth 65536 in
set_option maxHeartbeats 40000000 in
theorem rI4 (l : Launch) (Z : State) (a0 : Array Value) (hw : ∀ d ∈ tables_1, d.before a0 Z = true) (ws : List Jvm.Cond) (o0 : Addr) (o1 : Addr) (hEL : EW Z a0 consts_1) (k0 : ClassId) (n : Nat) (g : Nat → Int32) (hn : n ≤ 9) (hg : ∀ i, i < n → 0 ≤ (g i).toInt ∧ (g i).toInt < 256) (h0 : Heap) (n0 : Nat) (Z0 : n0 ≤ h0.size) (E_o : Exa Z h0 o0 "java/lang/String") (g_o : n0 ≤ o0) (F_v : Fld Z h0 o0 "java/lang/String" "value" "[B" .null) (F_c : Fld Z h0 o0 "java/lang/String" "coder" "B" (.int 0)) (V_c : GA Z h0 o1 k0 .char n (fun i => .int (g i))) (cs : Int32) (hcs : ¬ cs = (0 : Int32)) (S_C : Sta Z h0 "java/lang/String" "COMPACT_STRINGS" "Z" (.int cs)) :
    MetFree l (⟨"java/lang/String", "<init>", "([CIILjava/lang/Void;)V"⟩ : MethodName) (head1 (Jvm.Cond.code (⟨"java/lang/String", "<init>", "([CIILjava/lang/Void;)V"⟩ : MethodName) jdk_42_method_149_code 6 none :: ws) ({ frames := 2, cells := 4, slots := 9, locals := 50 } : Room)) (fun a U => a = #[(.ref o0), (.ref o1), (.int (0 : Int32)), (.int (Int32.ofNat n)), .null] ∧ Z.Warmed39 U.vm ∧ U.heap = h0 ∧ CHv Z consts_1 U.vm h0) (fun _ _ _ _ _ => True) (fun _ U o U' => ∃ v L, o = .returned v ∧ QSi Z o0 n h0 n0 v U'.heap L ∧ CHr Z consts_1 U.vm U.heap U'.vm U'.heap ∧ ReturnedEndW U o U' L ({ frames := 2, cells := 4, slots := 9, locals := 50 } : Room).cells ({ frames := 2, cells := 4, slots := 9, locals := 50 } : Room).slots) := by
  refine MetFree.of_bodySF (plainFor_of_name pn_11) hisR ?_
  intro p e s m args below meth c s₁ Bd hml0 hP hK
  obtain ⟨rfl, hZ, hh, hCH⟩ := hP
  have hx := Bd.exec
  have hby := Bd.bytes
  have hml : c.maxLocals = 6 := hml0
  have hown : s.vm.findClass "java/lang/String" = some m.cls := findClass_of_methodNamed Bd.named
  have hnm := (name_of_methodNamed Bd.named Bd.method).1
  have X0 : Stand p l e ({ frames := 2, cells := 4, slots := 9, locals := 50 } : Room) (s.setVm s.vm) m #[(.ref o0), (.ref o1), (.int (0 : Int32)), (.int (Int32.ofNat n)), .null] below meth c s₁ [] 0 0 := Stand.of_body Bd
  have e0 : s₁.heap = h0 := by rw [← hh, Bd.state]; rfl
  have N0 := Fr.nil n0
  have hS0 : s.Since s.vm 0 := (State.WarmedH.refl s).since 0
  have hCR0 : CHr Z consts_1 s.vm h0 s.vm h0 := CHr.refl hCH
  have pre0 : ∀ t, Steps p.tables e below (s₁.setTop (mkF m 0 #[.val (.ref o0), .val (.ref o1), .val (.int (0 : Int32)), .val (.int (Int32.ofNat n)), .val .null, .unset] [])) t → Steps p.tables e below (s₁.setTop (entryFrame m #[(.ref o0), (.ref o1), (.int (0 : Int32)), (.int (Int32.ofNat n)), .null] 6)) t := fun t k => castTop (ef_rI4 m o0 o1 (0 : Int32) (Int32.ofNat n)) k
  obtain ⟨T1, X1, e1, st1⟩ := initO X0 hx hZ hown (hw _ (List.mem_of_getElem? (i := 60) rfl)) (hw _ (List.mem_of_getElem? (i := 61) rfl)) (hw _ (List.mem_of_getElem? (i := 62) rfl)) e0 (g := (mkF m 1 #[.val (.ref o0), .val (.ref o1), .val (.int (0 : Int32)), .val (.int (Int32.ofNat n)), .val .null, .unset] [(.ref o0)])) rfl (by rw [hml]; rfl) rfl (hb hby d11_1) (by decide) (W := 0) (by show 2 * 0 + _ ≤ _; exact Nat.le_of_eq rfl) (by decide)
  have pre2 : ∀ t, Steps p.tables e below (T1.setTop (mkF m 5 #[.val (.ref o0), .val (.ref o1), .val (.int (0 : Int32)), .val (.int (Int32.ofNat n)), .val .null, .unset] [(.int (Int32.ofNat n))])) t → Steps p.tables e below (s₁.setTop (entryFrame m #[(.ref o0), (.ref o1), (.int (0 : Int32)), (.int (Int32.ofNat n)), .null] 6)) t := by
    intro t kt
    refine pre0 t ?_
    show Steps p.tables e below (s₁.setTop (mkF m 0 #[.val (.ref o0), .val (.ref o1), .val (.int (0 : Int32)), .val (.int (Int32.ofNat n)), .val .null, .unset] [])) _
    refine XS.aloadN X0.here hx rfl (hb hby d11_0) rfl rfl ?_
    show Steps p.tables e below (s₁.setTop (mkF m 1 #[.val (.ref o0), .val (.ref o1), .val (.int (0 : Int32)), .val (.int (Int32.ofNat n)), .val .null, .unset] [(.ref o0)])) _
    refine st1 _ ?_
    show Steps p.tables e below (T1.setTop (mkF m 4 #[.val (.ref o0), .val (.ref o1), .val (.int (0 : Int32)), .val (.int (Int32.ofNat n)), .val .null, .unset] [])) _
    refine XS.iloadN X1.here hx rfl (hb hby d11_4) rfl ?_
    exact kt
  by_cases hc3 : (Int32.ofNat n) = (0 : Int32)
  · skip
    have hn0 : n = 0 := (own_inj (j := 0) (by omega) (by decide)).mp hc3
    obtain ⟨a4, T4, h4, kk4, bb4, kb4, X4, e4, E4, hS4, hk4, hZ4, hown4, Ex4, Fc4, Fv4, Va4, la4, lb4, hC4, Lt4, sf4, st4⟩ := ldcCH (s := s) X1 hx hZ hown (hw _ (List.mem_of_getElem? (i := 117) rfl)) (own_strings hw) e1 hS0 (Nat.zero_le _) hEL (by decide) hCR0.1 (vs := []) (z := (0 : Int32)) ⟨by decide, by decide⟩ (by decide) (by decide) (g := (mkF m 9 #[.val (.ref o0), .val (.ref o1), .val (.int (0 : Int32)), .val (.int (Int32.ofNat n)), .val .null, .unset] [(.ref o0)])) rfl (hb hby d11_9) (n := 0) (by decide) (by decide) (by decide) (by decide)
    have Zs4 : n0 ≤ h4.size := Nat.le_trans Z0 E4.1
    have K4 : Keep h0 h4 [o0] := (Keep.refl h0 [o0]).ext E4
    have hCR5 : CHr Z consts_1 s.vm h0 T4.vm h4 := hCR0.trans hC4
    have E_o_6 := (E_o.ext E4)
    have F_v_7 := (F_v.ext E4)
    have ne4 := sf4 _ (own_safe_null (EL := consts_1) hZ4.alike E_o_6 F_v_7)
    obtain ⟨T8, X8, e8, st8⟩ := getF X4 hx hZ4 hown4 (host := "") (Or.inl (hw _ (List.mem_of_getElem? (i := 15) rfl))) Via.refl e4 Fv4 (g := (mkF m 11 #[.val (.ref o0), .val (.ref o1), .val (.int (0 : Int32)), .val (.int (Int32.ofNat n)), .val .null, .unset] [(.ref a4), (.ref o0)])) rfl rfl (hb hby d11_11)
    have sfA := (own_safe_null (EL := consts_1) hZ4.alike E_o_6 F_v_7)
    obtain ⟨T9, h9, X9, e9, W9, st9⟩ := putF X8 hx hZ4 hown4 (host := "") (Or.inl (hw _ (List.mem_of_getElem? (i := 15) rfl))) Via.refl e8 F_v_7 E_o_6 (Or.inr ⟨(hw _ (List.mem_of_getElem? (i := 6) rfl)), rfl, hnm⟩) (hw _ (List.mem_of_getElem? (i := 4) rfl)) (ty := (.array .byte)) (by decide) rfl rfl (g := (mkF m 14 #[.val (.ref o0), .val (.ref o1), .val (.int (0 : Int32)), .val (.int (Int32.ofNat n)), .val .null, .unset] [(.ref bb4), (.ref o0)])) rfl rfl (hb hby d11_14)
    have Fw9 := F_v_7.same W9
    have hCR10 : CHr Z consts_1 s.vm h0 T4.vm h9 := hCR5.trans (CHr.wr W9 sfA hCR5.1)
    have Zs9 : n0 ≤ h9.size := Nat.le_trans Zs4 (Nat.le_of_eq W9.size.symm)
    have K9 : Keep h0 h9 [o0] := K4.wr W9 (Or.inl (List.mem_of_getElem? (i := 0) rfl))
    have N9 := Fr.snoc X9 N0 g_o
    have sfB := Safe.wr W9 sfA hCR5.1 sfA
    have E_o_11 := (E_o_6.wr W9)
    obtain ⟨a12, T12, h12, kk12, bb12, kb12, X12, e12, E12, hS12, hk12, hZ12, hown12, Ex12, Fc12, Fv12, Va12, la12, lb12, hC12, Lt12, sf12, st12⟩ := ldcCH (s := s) X9 hx hZ4 hown4 (hw _ (List.mem_of_getElem? (i := 117) rfl)) (own_strings hw) e9 hS4 (Nat.le_trans hk4 (Nat.le_of_eq W9.size.symm)) hEL (by decide) hCR10.1 (vs := []) (z := (0 : Int32)) ⟨by decide, by decide⟩ (by decide) (by decide) (g := (mkF m 18 #[.val (.ref o0), .val (.ref o1), .val (.int (0 : Int32)), .val (.int (Int32.ofNat n)), .val .null, .unset] [(.ref o0)])) rfl (hb hby d11_18) (n := 0) (by decide) (by decide) (by decide) (by decide)
    have Zs12 : n0 ≤ h12.size := Nat.le_trans Zs9 E12.1
    have K12 : Keep h0 h12 [o0] := K9.ext E12
    have hCR13 : CHr Z consts_1 s.vm h0 T12.vm h12 := hCR10.trans hC12
    have sfC := hC12.safe (E_o_11).lt sfB
    have ne12 := sf12 _ sfC
    obtain ⟨T14, X14, e14, st14⟩ := getF X12 hx hZ12 hown12 (host := "") (Or.inl (hw _ (List.mem_of_getElem? (i := 22) rfl))) Via.refl e12 Fc12 (g := (mkF m 20 #[.val (.ref o0), .val (.ref o1), .val (.int (0 : Int32)), .val (.int (Int32.ofNat n)), .val .null, .unset] [(.ref a12), (.ref o0)])) rfl rfl (hb hby d11_20)
    have F_c_15 := (((F_c.ext E4).other W9 (Or.inr (slot_ne (Or.inr (hw _ (List.mem_of_getElem? (i := 7) rfl))) (Or.inr (hw _ (List.mem_of_getElem? (i := 6) rfl))) (by decide) (t := .byte) (t' := (.array .byte)) (by decide) (by decide)))).ext E12)
    have E_o_16 := (E_o_11.ext E12)
    obtain ⟨T17, h17, X17, e17, W17, st17⟩ := putFN X14 hx hZ12 hown12 (hw _ (List.mem_of_getElem? (i := 22) rfl)) Via.refl e14 F_c_15 E_o_16 (Or.inr ⟨(hw _ (List.mem_of_getElem? (i := 7) rfl)), rfl, hnm⟩) (hw _ (List.mem_of_getElem? (i := 4) rfl)) (ty := .byte) (v' := (.int (0 : Int32))) (by decide) rfl rfl (g := (mkF m 23 #[.val (.ref o0), .val (.ref o1), .val (.int (0 : Int32)), .val (.int (Int32.ofNat n)), .val .null, .unset] [(.int (0 : Int32)), (.ref o0)])) rfl rfl (hb hby d11_23)
    have Fw17 := F_c_15.same W17
    have hCR18 : CHr Z consts_1 s.vm h0 T12.vm h17 := hCR13.trans (CHr.wr W17 sfC hCR13.1)
    have Zs17 : n0 ≤ h17.size := Nat.le_trans Zs12 (Nat.le_of_eq W17.size.symm)
    have K17 : Keep h0 h17 [o0] := K12.wr W17 (Or.inl (List.mem_of_getElem? (i := 0) rfl))
    have N17 := Fr.snoc X17 N9 g_o
    have Va4_19 := (((Va4.other W9 (Ne.symm ne4.2)).ext E12).other W17 (Ne.symm ne4.2))
    have E_o_20 := (E_o_16.wr W17)
    have Fw9_21 := ((Fw9.ext E12).other W17 (Or.inr (slot_ne (Or.inr (hw _ (List.mem_of_getElem? (i := 6) rfl))) (Or.inr (hw _ (List.mem_of_getElem? (i := 7) rfl))) (by decide) (t := (.array .byte)) (t' := .byte) (by decide) (by decide))))
    obtain ⟨fs, hr, hrun, hended, hEnd⟩ := X17.leaveW (s := s) hS12 (by rw [e17]; exact (Nat.le_trans hk12 (Nat.le_of_eq W17.size.symm))) (v := none) (fun _ => rfl)
    refine ⟨_, _, pre2 _ ?_, hrun, hended, _, _, rfl, ?_, (by show CHr Z consts_1 s.vm s.heap T17.vm T17.heap; rw [hh, e17]; exact hCR18.trans (CHv.at X17 hZ12 hEL hCR18.1)), hEnd.1, hEnd.2.1, hEnd.2.2.1, hEnd.2.2.2.mono (by decide) (by decide)⟩
    · skip
      show Steps p.tables e below (T1.setTop (mkF m 5 #[.val (.ref o0), .val (.ref o1), .val (.int (0 : Int32)), .val (.int (Int32.ofNat n)), .val .null, .unset] [(.int (Int32.ofNat n))])) _
      refine XS.ifNo X1.here hx rfl (hb hby d11_5) rfl ((if0 _ _).trans (teq hc3).2) ?_
      show Steps p.tables e below (T1.setTop (mkF m 8 #[.val (.ref o0), .val (.ref o1), .val (.int (0 : Int32)), .val (.int (Int32.ofNat n)), .val .null, .unset] [])) _
      refine XS.aloadN X1.here hx rfl (hb hby d11_8) rfl rfl ?_
      show Steps p.tables e below (T1.setTop (mkF m 9 #[.val (.ref o0), .val (.ref o1), .val (.int (0 : Int32)), .val (.int (Int32.ofNat n)), .val .null, .unset] [(.ref o0)])) _
      refine st4 _ ?_
      show Steps p.tables e below (T4.setTop (mkF m 11 #[.val (.ref o0), .val (.ref o1), .val (.int (0 : Int32)), .val (.int (Int32.ofNat n)), .val .null, .unset] [(.ref a4), (.ref o0)])) _
      refine st8 _ ?_
      show Steps p.tables e below (T8.setTop (mkF m 14 #[.val (.ref o0), .val (.ref o1), .val (.int (0 : Int32)), .val (.int (Int32.ofNat n)), .val .null, .unset] [(.ref bb4), (.ref o0)])) _
      refine st9 _ ?_
      show Steps p.tables e below (T9.setTop (mkF m 17 #[.val (.ref o0), .val (.ref o1), .val (.int (0 : Int32)), .val (.int (Int32.ofNat n)), .val .null, .unset] [])) _
      refine XS.aloadN X9.here hx rfl (hb hby d11_17) rfl rfl ?_
      show Steps p.tables e below (T9.setTop (mkF m 18 #[.val (.ref o0), .val (.ref o1), .val (.int (0 : Int32)), .val (.int (Int32.ofNat n)), .val .null, .unset] [(.ref o0)])) _
      refine st12 _ ?_
      show Steps p.tables e below (T12.setTop (mkF m 20 #[.val (.ref o0), .val (.ref o1), .val (.int (0 : Int32)), .val (.int (Int32.ofNat n)), .val .null, .unset] [(.ref a12), (.ref o0)])) _
      refine st14 _ ?_
      show Steps p.tables e below (T14.setTop (mkF m 23 #[.val (.ref o0), .val (.ref o1), .val (.int (0 : Int32)), .val (.int (Int32.ofNat n)), .val .null, .unset] [(.int (0 : Int32)), (.ref o0)])) _
      refine st17 _ ?_
      show Steps p.tables e below (T17.setTop (mkF m 26 #[.val (.ref o0), .val (.ref o1), .val (.int (0 : Int32)), .val (.int (Int32.ofNat n)), .val .null, .unset] [])) _
      exact X17.returnOut hx Bd.returns (hb hby d11_26) hr
    · show QSi Z o0 n h0 n0 _ T17.heap _
      rw [e17]
      exact ⟨rfl, N17, K17, bb4, kb4, (fun i => ([] : List Int32).getD i 0), E_o_20, Fw17, Fw9_21, (by rw [hn0]; exact own_arvGA (us := []) Va4_19 rfl)⟩
  · skip
    have hn0 : n ≠ 0 := fun q => hc3 (by rw [q]; rfl)
    obtain ⟨T22, X22, e22, st22⟩ := getS2 X1 hx hZ hown (host := "") (Or.inl (hw _ (List.mem_of_getElem? (i := 21) rfl))) Via.refl e1 S_C (g := (mkF m 27 #[.val (.ref o0), .val (.ref o1), .val (.int (0 : Int32)), .val (.int (Int32.ofNat n)), .val .null, .unset] [])) rfl (hb hby d11_27)
    obtain ⟨_, _, ⟨T23, L23, k23, n23⟩, -, X23, ⟨Lc23, hQ23, l23, y23, z23⟩, st23⟩ := Jvm.LawKit.callS X22 hx (y := (⟨"java/lang/StringUTF16", "compress", "([CII)[B"⟩ : MethodName)) hown (mvT hZ (hw _ (List.mem_of_getElem? (i := 63) rfl))) (mvT hZ (hw _ (List.mem_of_getElem? (i := 64) rfl))) (mvT hZ (hw _ (List.mem_of_getElem? (i := 65) rfl))) (mvT hZ (hw _ (List.mem_of_getElem? (i := 66) rfl))) (by decide) (backOf (W := 0) (rCb l Z a0 hw [] o1 k0 n g hn hg h0 n0 Z0 V_c) hZ (hw _ (List.mem_of_getElem? (i := 66) rfl)) (hw _ (List.mem_of_getElem? (i := 65) rfl)) (by decide) (by decide)) (g := (mkF m 36 #[.val (.ref o0), .val (.ref o1), .val (.int (0 : Int32)), .val (.int (Int32.ofNat n)), .val .null, .unset] [(.int (Int32.ofNat n)), (.int (0 : Int32)), (.ref o1)])) rfl (by rw [hml]; rfl) (argsL := [(.ref o1), (.int (0 : Int32)), (.int (Int32.ofNat n))]) (rest := []) (lenOf pd___CII__B rfl) rfl (by show 2 * 0 + _ ≤ _; exact Nat.le_of_eq rfl) (hb hby d11_36) (fun _ _ => ⟨rfl, e22, (by decide : 0 + 1 ≤ _), (by decide : 0 + 9 ≤ _)⟩)
    dsimp only [Pt.U, Pt.locs, Pt.cells, Pt.slots] at X23 l23 y23 z23 st23 hQ23
    rw [l23, y23, z23] at X23
    obtain ⟨ba23, kb23, ub23, rfl, N23q, Kp23, ga23, sa23, Vb23⟩ := hQ23
    have N23 := Fr.app N0 N23q
    have hCR24 : CHr Z consts_1 s.vm h0 s.vm T23.heap := hCR0.trans (CHr.keep Kp23 all0 hCR0.1)
    have Zs23 : n0 ≤ T23.heap.size := Nat.le_trans Z0 Kp23.1
    have Kk23 : Keep h0 T23.heap [o0] := (Keep.refl h0 [o0]).trans Kp23 all0
    have nb23 : o0 ≠ ba23 := Nat.ne_of_lt (Nat.lt_of_lt_of_le (E_o).lt sa23)
    obtain ⟨_, _, ⟨T25, L25, k25, n25⟩, -, X25, ⟨Lc25, hQ25, l25, y25, z25⟩, st25⟩ := Jvm.LawKit.callS X23 hx (y := (⟨"java/lang/StringUTF16", "coderFromArrayLen", "([BI)B"⟩ : MethodName)) hown (mvT hZ (hw _ (List.mem_of_getElem? (i := 70) rfl))) (mvT hZ (hw _ (List.mem_of_getElem? (i := 71) rfl))) (mvT hZ (hw _ (List.mem_of_getElem? (i := 65) rfl))) (mvT hZ (hw _ (List.mem_of_getElem? (i := 72) rfl))) (by decide) (backOf (W := 1) (rCl l Z a0 hw [] ba23 kb23 n ub23 T23.heap n0 Zs23 Vb23) hZ (hw _ (List.mem_of_getElem? (i := 72) rfl)) (hw _ (List.mem_of_getElem? (i := 65) rfl)) (by decide) (by decide)) (g := (mkF m 45 #[.val (.ref o0), .val (.ref o1), .val (.int (0 : Int32)), .val (.int (Int32.ofNat n)), .val .null, .val (.ref ba23)] [(.int (Int32.ofNat n)), (.ref ba23), (.ref o0)])) rfl (by rw [hml]; rfl) (argsL := [(.ref ba23), (.int (Int32.ofNat n))]) (rest := [(.ref o0)]) (lenOf pd___BI_B rfl) rfl (by show 2 * 0 + _ ≤ _; exact Nat.le_of_eq rfl) (hb hby d11_45) (fun _ _ => ⟨rfl, rfl, (by decide : 1 + 0 ≤ _), (by decide : 9 + 0 ≤ _)⟩)
    dsimp only [Pt.U, Pt.locs, Pt.cells, Pt.slots] at X25 l25 y25 z25 st25 hQ25
    rw [l25, y25, z25] at X25
    obtain ⟨rfl, N25q, e25⟩ := hQ25
    have N25 := Fr.app N23 N25q
    have F_c_26 := (F_c.keep Kp23 nin0)
    have E_o_27 := (E_o.keep Kp23)
    obtain ⟨T28, h28, X28, e28, W28, st28⟩ := putFN X25 hx hZ hown (hw _ (List.mem_of_getElem? (i := 22) rfl)) Via.refl e25 F_c_26 E_o_27 (Or.inr ⟨(hw _ (List.mem_of_getElem? (i := 7) rfl)), rfl, hnm⟩) (hw _ (List.mem_of_getElem? (i := 4) rfl)) (ty := .byte) (v' := (.int (0 : Int32))) (by decide) rfl rfl (g := (mkF m 48 #[.val (.ref o0), .val (.ref o1), .val (.int (0 : Int32)), .val (.int (Int32.ofNat n)), .val .null, .val (.ref ba23)] [(.int (0 : Int32)), (.ref o0)])) rfl rfl (hb hby d11_48)
    have Fw28 := F_c_26.same W28
    have F_v_29 := (F_v.keep Kp23 nin0)
    have hCR30 : CHr Z consts_1 s.vm h0 s.vm h28 := hCR24.trans (CHr.wr W28 (own_safe_null (EL := consts_1) hZ.alike E_o_27 F_v_29) hCR24.1)
    have Zs28 : n0 ≤ h28.size := Nat.le_trans Zs23 (Nat.le_of_eq W28.size.symm)
    have K28 : Keep h0 h28 [o0] := Kk23.wr W28 (Or.inl (List.mem_of_getElem? (i := 0) rfl))
    have N28 := Fr.snoc X28 N25 g_o
    have F_v_31 := (F_v_29.other W28 (Or.inr (slot_ne (Or.inr (hw _ (List.mem_of_getElem? (i := 6) rfl))) (Or.inr (hw _ (List.mem_of_getElem? (i := 7) rfl))) (by decide) (t := (.array .byte)) (t' := .byte) (by decide) (by decide))))
    have E_o_32 := (E_o_27.wr W28)
    obtain ⟨T33, h33, X33, e33, W33, st33⟩ := putF X28 hx hZ hown (host := "") (Or.inl (hw _ (List.mem_of_getElem? (i := 15) rfl))) Via.refl e28 F_v_31 E_o_32 (Or.inr ⟨(hw _ (List.mem_of_getElem? (i := 6) rfl)), rfl, hnm⟩) (hw _ (List.mem_of_getElem? (i := 4) rfl)) (ty := (.array .byte)) (by decide) rfl rfl (g := (mkF m 54 #[.val (.ref o0), .val (.ref o1), .val (.int (0 : Int32)), .val (.int (Int32.ofNat n)), .val .null, .val (.ref ba23)] [(.ref ba23), (.ref o0)])) rfl rfl (hb hby d11_54)
    have Fw33 := F_v_31.same W33
    have hCR34 : CHr Z consts_1 s.vm h0 s.vm h33 := hCR30.trans (CHr.wr W33 (own_safe_null (EL := consts_1) hZ.alike E_o_32 F_v_31) hCR30.1)
    have Zs33 : n0 ≤ h33.size := Nat.le_trans Zs28 (Nat.le_of_eq W33.size.symm)
    have K33 : Keep h0 h33 [o0] := K28.wr W33 (Or.inl (List.mem_of_getElem? (i := 0) rfl))
    have N33 := Fr.snoc X33 N28 g_o
    have Vb23_35 := ((Vb23.other W28 (Ne.symm nb23)).other W33 (Ne.symm nb23))
    have E_o_36 := (E_o_32.wr W33)
    have Fw28_37 := (Fw28.other W33 (Or.inr (slot_ne (Or.inr (hw _ (List.mem_of_getElem? (i := 7) rfl))) (Or.inr (hw _ (List.mem_of_getElem? (i := 6) rfl))) (by decide) (t := .byte) (t' := (.array .byte)) (by decide) (by decide))))
    obtain ⟨fs, hr, hrun, hended, hEnd⟩ := X33.leaveW (s := s) hS0 (by rw [e33]; exact (Nat.le_trans (Nat.le_trans (Nat.le_trans (Nat.zero_le _) Kp23.1) (Nat.le_of_eq W28.size.symm)) (Nat.le_of_eq W33.size.symm))) (v := none) (fun _ => rfl)
    refine ⟨_, _, pre2 _ ?_, hrun, hended, _, _, rfl, ?_, (by show CHr Z consts_1 s.vm s.heap T33.vm T33.heap; rw [hh, e33]; exact hCR34.trans (CHv.at X33 hZ hEL hCR34.1)), hEnd.1, hEnd.2.1, hEnd.2.2.1, hEnd.2.2.2.mono (by decide) (by decide)⟩
    · skip
      show Steps p.tables e below (T1.setTop (mkF m 5 #[.val (.ref o0), .val (.ref o1), .val (.int (0 : Int32)), .val (.int (Int32.ofNat n)), .val .null, .unset] [(.int (Int32.ofNat n))])) _
      refine XS.ifYes X1.here hx rfl (pc0 := 5) (pc' := 27) rfl (hb hby d11_5) rfl ((if0 _ _).trans (feq hc3).2) (by decide) (by decide) ?_
      show Steps p.tables e below (T1.setTop (mkF m 27 #[.val (.ref o0), .val (.ref o1), .val (.int (0 : Int32)), .val (.int (Int32.ofNat n)), .val .null, .unset] [])) _
      refine st22 _ ?_
      show Steps p.tables e below (T22.setTop (mkF m 30 #[.val (.ref o0), .val (.ref o1), .val (.int (0 : Int32)), .val (.int (Int32.ofNat n)), .val .null, .unset] [(.int cs)])) _
      refine XS.ifNo X22.here hx rfl (hb hby d11_30) rfl ((if0 _ _).trans (feq hcs).1) ?_
      show Steps p.tables e below (T22.setTop (mkF m 33 #[.val (.ref o0), .val (.ref o1), .val (.int (0 : Int32)), .val (.int (Int32.ofNat n)), .val .null, .unset] [])) _
      refine XS.aloadN X22.here hx rfl (hb hby d11_33) rfl rfl ?_
      show Steps p.tables e below (T22.setTop (mkF m 34 #[.val (.ref o0), .val (.ref o1), .val (.int (0 : Int32)), .val (.int (Int32.ofNat n)), .val .null, .unset] [(.ref o1)])) _
      refine XS.iloadN X22.here hx rfl (hb hby d11_34) rfl ?_
      show Steps p.tables e below (T22.setTop (mkF m 35 #[.val (.ref o0), .val (.ref o1), .val (.int (0 : Int32)), .val (.int (Int32.ofNat n)), .val .null, .unset] [(.int (0 : Int32)), (.ref o1)])) _
      refine XS.iloadN X22.here hx rfl (hb hby d11_35) rfl ?_
      show Steps p.tables e below (T22.setTop (mkF m 36 #[.val (.ref o0), .val (.ref o1), .val (.int (0 : Int32)), .val (.int (Int32.ofNat n)), .val .null, .unset] [(.int (Int32.ofNat n)), (.int (0 : Int32)), (.ref o1)])) _
      refine st23 _ ?_
      show Steps p.tables e below (T23.setTop (mkF m 39 #[.val (.ref o0), .val (.ref o1), .val (.int (0 : Int32)), .val (.int (Int32.ofNat n)), .val .null, .unset] [(.ref ba23)])) _
      refine XS.astore X23.here hx rfl (hb hby d11_39) rfl rfl (l' := #[.val (.ref o0), .val (.ref o1), .val (.int (0 : Int32)), .val (.int (Int32.ofNat n)), .val .null, .val (.ref ba23)]) rfl ?_
      show Steps p.tables e below (T23.setTop (mkF m 41 #[.val (.ref o0), .val (.ref o1), .val (.int (0 : Int32)), .val (.int (Int32.ofNat n)), .val .null, .val (.ref ba23)] [])) _
      refine XS.aloadN X23.here hx rfl (hb hby d11_41) rfl rfl ?_
      show Steps p.tables e below (T23.setTop (mkF m 42 #[.val (.ref o0), .val (.ref o1), .val (.int (0 : Int32)), .val (.int (Int32.ofNat n)), .val .null, .val (.ref ba23)] [(.ref o0)])) _
      refine XS.aload X23.here hx rfl (hb hby d11_42) rfl rfl ?_
      show Steps p.tables e below (T23.setTop (mkF m 44 #[.val (.ref o0), .val (.ref o1), .val (.int (0 : Int32)), .val (.int (Int32.ofNat n)), .val .null, .val (.ref ba23)] [(.ref ba23), (.ref o0)])) _
      refine XS.iloadN X23.here hx rfl (hb hby d11_44) rfl ?_
      show Steps p.tables e below (T23.setTop (mkF m 45 #[.val (.ref o0), .val (.ref o1), .val (.int (0 : Int32)), .val (.int (Int32.ofNat n)), .val .null, .val (.ref ba23)] [(.int (Int32.ofNat n)), (.ref ba23), (.ref o0)])) _
      refine st25 _ ?_
      show Steps p.tables e below (T25.setTop (mkF m 48 #[.val (.ref o0), .val (.ref o1), .val (.int (0 : Int32)), .val (.int (Int32.ofNat n)), .val .null, .val (.ref ba23)] [(.int (0 : Int32)), (.ref o0)])) _
      refine st28 _ ?_
      show Steps p.tables e below (T28.setTop (mkF m 51 #[.val (.ref o0), .val (.ref o1), .val (.int (0 : Int32)), .val (.int (Int32.ofNat n)), .val .null, .val (.ref ba23)] [])) _
      refine XS.aloadN X28.here hx rfl (hb hby d11_51) rfl rfl ?_
      show Steps p.tables e below (T28.setTop (mkF m 52 #[.val (.ref o0), .val (.ref o1), .val (.int (0 : Int32)), .val (.int (Int32.ofNat n)), .val .null, .val (.ref ba23)] [(.ref o0)])) _
      refine XS.aload X28.here hx rfl (hb hby d11_52) rfl rfl ?_
      show Steps p.tables e below (T28.setTop (mkF m 54 #[.val (.ref o0), .val (.ref o1), .val (.int (0 : Int32)), .val (.int (Int32.ofNat n)), .val .null, .val (.ref ba23)] [(.ref ba23), (.ref o0)])) _
      refine st33 _ ?_
      show Steps p.tables e below (T33.setTop (mkF m 57 #[.val (.ref o0), .val (.ref o1), .val (.int (0 : Int32)), .val (.int (Int32.ofNat n)), .val .null, .val (.ref ba23)] [])) _
      exact X33.returnOut hx Bd.returns (hb hby d11_57) hr
    · show QSi Z o0 n h0 n0 _ T33.heap _
      rw [e33]
      exact ⟨rfl, N33, K33, ba23, kb23, ub23, E_o_36, Fw28_37, Fw33, Vb23_35⟩
theorem d10_0 : decode jdk_42_method_3_code 0 = .ok (.aload_n 0, 1) := by decide +kernel
theorem d10_1 : decode jdk_42_method_3_code 1 = .ok (.aload_n 1, 1) := by decide +kernel
theorem d10_2 : decode jdk_42_method_3_code 2 = .ok (.iconst 0, 1) := by decide +kernel
theorem d10_3 : decode jdk_42_method_3_code 3 = .ok (.aload_n 1, 1) := by decide +kernel
theorem d10_4 : decode jdk_42_method_3_code 4 = .ok (.arraylength, 1) := by decide +kernel
theorem d10_5 : decode jdk_42_method_3_code 5 = .ok (.aconst_null, 1) := by decide +kernel
theorem d10_6 : decode jdk_42_method_3_code 6 = .ok (.invokespecial 27, 3) := by decide +kernel
theorem pd___CIILjava_lang_Void__V : parseMethodDescriptor "([CIILjava/lang/Void;)V" = some ⟨[(.array .char), .int, .int, (.object "java/lang/Void")], none⟩ := by decide +kernel
theorem d10_9 : decode jdk_42_method_3_code 9 = .ok (.return_, 1) := by decide +kernel
theorem pn_10 : plainName "java/lang/String" = true := by first | (simp [plainName, overriddenIn]; done) | decide +kernel
theorem ef_rI1 (m : MethodId) (x0 : Addr) (x1 : Addr) : entryFrame m #[(.ref x0), (.ref x1)] 2 = mkF m 0 #[.val (.ref x0), .val (.ref x1)] [] := by first | (simp [entryFrame, mkF, argsToLocals, Value.category]; done) | rfl
set_option maxRecDepth 65536 in
set_option maxHeartbeats 40000000 in
theorem rI1 (l : Launch) (Z : State) (a0 : Array Value) (hw : ∀ d ∈ tables_1, d.before a0 Z = true) (ws : List Jvm.Cond) (o0 : Addr) (o1 : Addr) (hEL : EW Z a0 consts_1) (k0 : ClassId) (n : Nat) (g : Nat → Int32) (hn : n ≤ 9) (hg : ∀ i, i < n → 0 ≤ (g i).toInt ∧ (g i).toInt < 256) (h0 : Heap) (n0 : Nat) (Z0 : n0 ≤ h0.size) (E_o : Exa Z h0 o0 "java/lang/String") (g_o : n0 ≤ o0) (F_v : Fld Z h0 o0 "java/lang/String" "value" "[B" .null) (F_c : Fld Z h0 o0 "java/lang/String" "coder" "B" (.int 0)) (V_c : GA Z h0 o1 k0 .char n (fun i => .int (g i))) (cs : Int32) (hcs : ¬ cs = (0 : Int32)) (S_C : Sta Z h0 "java/lang/String" "COMPACT_STRINGS" "Z" (.int cs)) :
    MetFree l (⟨"java/lang/String", "<init>", "([C)V"⟩ : MethodName) (head1 (Jvm.Cond.code (⟨"java/lang/String", "<init>", "([C)V"⟩ : MethodName) jdk_42_method_3_code 2 none :: ws) ({ frames := 3, cells := 4, slots := 9, locals := 70 } : Room)) (fun a U => a = #[(.ref o0), (.ref o1)] ∧ Z.Warmed39 U.vm ∧ U.heap = h0 ∧ CHv Z consts_1 U.vm h0) (fun _ _ _ _ _ => True) (fun _ U o U' => ∃ v L, o = .returned v ∧ QSi Z o0 n h0 n0 v U'.heap L ∧ CHr Z consts_1 U.vm U.heap U'.vm U'.heap ∧ ReturnedEndW U o U' L ({ frames := 3, cells := 4, slots := 9, locals := 70 } : Room).cells ({ frames := 3, cells := 4, slots := 9, locals := 70 } : Room).slots) := by
  refine MetFree.of_bodySF (plainFor_of_name pn_10) hisR ?_
  intro p e s m args below meth c s₁ Bd hml0 hP hK
  obtain ⟨rfl, hZ, hh, hCH⟩ := hP
  have hx := Bd.exec
  have hby := Bd.bytes
  have hml : c.maxLocals = 2 := hml0
  have hown : s.vm.findClass "java/lang/String" = some m.cls := findClass_of_methodNamed Bd.named
  have hnm := (name_of_methodNamed Bd.named Bd.method).1
  have X0 : Stand p l e ({ frames := 3, cells := 4, slots := 9, locals := 70 } : Room) (s.setVm s.vm) m #[(.ref o0), (.ref o1)] below meth c s₁ [] 0 0 := Stand.of_body Bd
  have e0 : s₁.heap = h0 := by rw [← hh, Bd.state]; rfl
  have N0 := Fr.nil n0
  have hS0 : s.Since s.vm 0 := (State.WarmedH.refl s).since 0
  have hCR0 : CHr Z consts_1 s.vm h0 s.vm h0 := CHr.refl hCH
  have pre0 : ∀ t, Steps p.tables e below (s₁.setTop (mkF m 0 #[.val (.ref o0), .val (.ref o1)] [])) t → Steps p.tables e below (s₁.setTop (entryFrame m #[(.ref o0), (.ref o1)] 2)) t := fun t k => castTop (ef_rI1 m o0 o1) k
  obtain ⟨cl1, Ar1, -, Sa1, -⟩ := id V_c
  obtain ⟨_, _, ⟨T2, L2, k2, n2⟩, -, X2, hSi2, hgr2, ⟨Lc2, hQ2, l2, y2, z2, hC2⟩, st2⟩ := X0.specialBackS hx (y := (⟨"java/lang/String", "<init>", "([CIILjava/lang/Void;)V"⟩ : MethodName)) rfl hown (mvT hZ (hw _ (List.mem_of_getElem? (i := 56) rfl))) (mvT hZ (hw _ (List.mem_of_getElem? (i := 57) rfl))) (mvT hZ (hw _ (List.mem_of_getElem? (i := 59) rfl))) (by decide) (backOfSH (W := 0) (rI4 l Z a0 hw [] o0 o1 hEL k0 n g hn hg h0 n0 Z0 E_o g_o F_v F_c V_c cs hcs S_C) hZ (hw _ (List.mem_of_getElem? (i := 59) rfl)) (hw _ (List.mem_of_getElem? (i := 3) rfl)) (by decide) (by decide) hEL hCR0.1) (g := (mkF m 6 #[.val (.ref o0), .val (.ref o1)] [.null, (.int (Int32.ofNat n)), (.int (0 : Int32)), (.ref o1), (.ref o0)])) rfl (by rw [hml]; rfl) (Steps.refl _) (a := o0) (argsL := [(.ref o1), (.int (0 : Int32)), (.int (Int32.ofNat n)), .null]) (rest := []) (lenOf pd___CIILjava_lang_Void__V rfl) rfl (by show 2 * 0 + _ ≤ _; exact Nat.le_of_eq rfl) (hb hby d10_6) (fun _ _ => ⟨rfl, e0, (by decide : 0 + 4 ≤ _), (by decide : 0 + 9 ≤ _)⟩)
  dsimp only [Pt.U, Pt.locs, Pt.cells, Pt.slots] at X2 l2 y2 z2 st2 hQ2 hSi2 hgr2
  rw [l2, y2, z2] at X2
  have hS2 : s.Since T2.vm T2.heap.size := foldS hS0 (by rw [e0]; exact (Nat.zero_le _)) hSi2 hgr2
  have hZ2 : Z.Warmed39 (s.setVm T2.vm).vm := State.Warmed39.trans (t := s.setVm s.vm) hZ hSi2.1
  have hown2 : (s.setVm T2.vm).vm.findClass "java/lang/String" = some m.cls := by rw [show (s.setVm T2.vm).vm = T2.vm from rfl, hSi2.1.alike.findClass]; exact hown
  have X2 : Stand p l e ({ frames := 3, cells := 4, slots := 9, locals := 70 } : Room) (s.setVm T2.vm) m #[(.ref o0), (.ref o1)] below meth c T2 _ _ _ := X2
  have hkc2 : T2.heap.size ≤ T2.heap.size := Nat.le_refl _
  dsimp only [Pt.U] at hC2
  have hCR3 : CHr Z consts_1 s.vm h0 T2.vm T2.heap := hCR0.trans hC2
  obtain ⟨rfl, N2q, Kp2, qs2⟩ := hQ2
  have N2 := Fr.app N0 N2q
  obtain ⟨fs, hr, hrun, hended, hEnd⟩ := X2.leaveW (s := s) hS2 (hkc2) (v := none) (fun _ => rfl)
  refine ⟨_, _, pre0 _ ?_, hrun, hended, _, _, rfl, ?_, (by show CHr Z consts_1 s.vm s.heap T2.vm T2.heap; rw [hh]; exact hCR3.trans (CHv.at X2 hZ2 hEL hCR3.1)), hEnd.1, hEnd.2.1, hEnd.2.2.1, hEnd.2.2.2.mono (by decide) (by decide)⟩
  · skip
    show Steps p.tables e below (s₁.setTop (mkF m 0 #[.val (.ref o0), .val (.ref o1)] [])) _
    refine XS.aloadN X0.here hx rfl (hb hby d10_0) rfl rfl ?_
    show Steps p.tables e below (s₁.setTop (mkF m 1 #[.val (.ref o0), .val (.ref o1)] [(.ref o0)])) _
    refine XS.aloadN X0.here hx rfl (hb hby d10_1) rfl rfl ?_
    show Steps p.tables e below (s₁.setTop (mkF m 2 #[.val (.ref o0), .val (.ref o1)] [(.ref o1), (.ref o0)])) _
    refine XS.iconst X0.here hx rfl (hb hby d10_2) ?_
    show Steps p.tables e below (s₁.setTop (mkF m 3 #[.val (.ref o0), .val (.ref o1)] [(.int (0 : Int32)), (.ref o1), (.ref o0)])) _
    refine XS.aloadN X0.here hx rfl (hb hby d10_3) rfl rfl ?_
    show Steps p.tables e below (s₁.setTop (mkF m 4 #[.val (.ref o0), .val (.ref o1)] [(.ref o1), (.int (0 : Int32)), (.ref o1), (.ref o0)])) _
    refine X0.arraylength hx (by rw [e0]; exact Ar1.1) (State.isArrayOf_alike hZ.alike Ar1.2.1) (g := (mkF m 4 #[.val (.ref o0), .val (.ref o1)] [(.ref o1), (.int (0 : Int32)), (.ref o1), (.ref o0)])) rfl rfl (hb hby d10_4) _ ?_
    rw [own_len Sa1]
    show Steps p.tables e below (s₁.setTop (mkF m 5 #[.val (.ref o0), .val (.ref o1)] [(.int (Int32.ofNat n)), (.int (0 : Int32)), (.ref o1), (.ref o0)])) _
    refine XS.aconstNull X0.here hx rfl (hb hby d10_5) ?_
    show Steps p.tables e below (s₁.setTop (mkF m 6 #[.val (.ref o0), .val (.ref o1)] [.null, (.int (Int32.ofNat n)), (.int (0 : Int32)), (.ref o1), (.ref o0)])) _
    refine st2.trans ?_
    show Steps p.tables e below (T2.setTop (mkF m 9 #[.val (.ref o0), .val (.ref o1)] [])) _
    exact X2.returnOut hx Bd.returns (hb hby d10_9) hr
  · show QSi Z o0 n h0 n0 _ T2.heap _
    exact ⟨rfl, N2, Kp2, qs2⟩
def QVa (Z : State) (W : Nat → Addr) (h0 : Heap) (n0 : Nat) (v : Option Value) (h : Heap) (L : List Loc) : Prop := ∃ (a : Addr) (k : ClassId), v = some (.ref a) ∧ Fr n0 L ∧ Keep h0 h [] ∧ GA Z h a k (.object "heslar/Boundary$Kind") 3 (fun i => .ref (W i))
theorem d17_0 : decode prog_2_method_1_code 0 = .ok (.getstatic 13, 3) := by decide +kernel
theorem d17_3 : decode prog_2_method_1_code 3 = .ok (.invokevirtual 17, 3) := by decide +kernel
theorem d17_6 : decode prog_2_method_1_code 6 = .ok (.checkcast 18, 3) := by decide +kernel
theorem d17_9 : decode prog_2_method_1_code 9 = .ok (.areturn, 1) := by decide +kernel
theorem pn_17 : plainName "heslar/Boundary$Kind" = true := by first | (simp [plainName, overriddenIn]; done) | decide +kernel
theorem ef_rVal (m : MethodId)  : entryFrame m #[] 0 = mkF m 0 #[] [] := by first | (simp [entryFrame, mkF, argsToLocals, Value.category]; done) | rfl
set_option maxRecDepth 65536 in
set_option maxHeartbeats 40000000 in
theorem rVal (l : Launch) (Z : State) (a0 : Array Value) (hw : ∀ d ∈ tables_1, d.before a0 Z = true) (ws : List Jvm.Cond)  (W : Nat → Addr) (kV : ClassId) (aV : Addr) (h0 : Heap) (n0 : Nat) (Z0 : n0 ≤ h0.size) (S_V : Sta Z h0 "heslar/Boundary$Kind" "$VALUES" "[Lheslar/Boundary$Kind;" (.ref aV)) (E_V : Exa Z h0 aV "[Lheslar/Boundary$Kind;") (V_V : GA Z h0 aV kV (.object "heslar/Boundary$Kind") 3 (fun i => .ref (W i))) :
    MetFree l (⟨"heslar/Boundary$Kind", "values", "()[Lheslar/Boundary$Kind;"⟩ : MethodName) (head1 (Jvm.Cond.code (⟨"heslar/Boundary$Kind", "values", "()[Lheslar/Boundary$Kind;"⟩ : MethodName) prog_2_method_1_code 0 (some (.array (.object "heslar/Boundary$Kind"))) :: ws) ({ frames := 1, cells := 1, slots := 3, locals := 14 } : Room)) (fun a U => a = #[] ∧ Z.Warmed39 U.vm ∧ U.heap = h0) (fun _ _ _ _ _ => True) (fun _ U o U' => ∃ v L, o = .returned v ∧ QVa Z W h0 n0 v U'.heap L ∧ FrameEnd U o U' L ({ frames := 1, cells := 1, slots := 3, locals := 14 } : Room).cells ({ frames := 1, cells := 1, slots := 3, locals := 14 } : Room).slots) := by
  refine MetFree.of_bodySF (plainFor_of_name pn_17) hisR ?_
  intro p e s m args below meth c s₁ Bd hml0 hP hK
  obtain ⟨rfl, hZ, hh⟩ := hP
  have hx := Bd.exec
  have hby := Bd.bytes
  have hml : c.maxLocals = 0 := hml0
  have hown : s.vm.findClass "heslar/Boundary$Kind" = some m.cls := findClass_of_methodNamed Bd.named
  have hnm := (name_of_methodNamed Bd.named Bd.method).1
  have X0 : Stand p l e ({ frames := 1, cells := 1, slots := 3, locals := 14 } : Room) s m #[] below meth c s₁ [] 0 0 := Stand.of_body Bd
  have e0 : s₁.heap = h0 := by rw [← hh, Bd.state]; rfl
  have N0 := Fr.nil n0
  have pre0 : ∀ t, Steps p.tables e below (s₁.setTop (mkF m 0 #[] [])) t → Steps p.tables e below (s₁.setTop (entryFrame m #[] 0)) t := fun t k => castTop (ef_rVal m ) k
  obtain ⟨T1, X1, e1, st1⟩ := getS2 X0 hx hZ hown (host := "") (Or.inl (hw _ (List.mem_of_getElem? (i := 80) rfl))) Via.refl e0 S_V (g := (mkF m 0 #[] [])) rfl (hb hby d17_0)
  obtain ⟨clv, Av, qv, Sv, Hv⟩ := id V_V
  have FCv : FitC Z clv := fitC_of Av fun i hi v hv => by rw [Hv i (Sv ▸ hi)] at hv; cases hv; rfl
  obtain ⟨T2, h2, X2, e2, E2, A2, Ex2, st2⟩ := cloneA X1 hx hZ hown (hw _ (List.mem_of_getElem? (i := 82) rfl)) (hw _ (List.mem_of_getElem? (i := 83) rfl)) (hw _ (List.mem_of_getElem? (i := 87) rfl)) (hw _ (List.mem_of_getElem? (i := 85) rfl)) (hw _ (List.mem_of_getElem? (i := 86) rfl)) (hw _ (List.mem_of_getElem? (i := 88) rfl)) e1 Av E_V FCv (g := (mkF m 3 #[] [(.ref aV)])) rfl (by rw [hml]; rfl) rfl (hb hby d17_3) (by decide) (W := 0) (by show 2 * 0 + _ ≤ _; exact Nat.le_of_eq rfl) (by decide) (cap := 3) (by rw [Sv]; decide) (by decide) (by decide)
  obtain ⟨b2, g2⟩ : ∃ z, z = h0.size := ⟨_, rfl⟩
  rw [← g2] at A2 Ex2 st2
  have g_b2 : n0 ≤ b2 := Nat.le_trans Z0 (Nat.le_of_eq g2.symm)
  have sz_b2 : h0.size ≤ b2 := Nat.le_trans (Keep.refl h0 []).1 (Nat.le_of_eq g2.symm)
  have Zs2 : n0 ≤ h2.size := Nat.le_trans Z0 E2.1
  have K2 : Keep h0 h2 [] := (Keep.refl h0 []).ext E2
  have G2 : GA Z h2 b2 kV (.object "heslar/Boundary$Kind") 3 (fun i => .ref (W i)) := ⟨_, A2, qv, Sv, Hv⟩
  obtain ⟨T3, X3, e3, st3⟩ := castY X2 hx hZ hown (hw _ (List.mem_of_getElem? (i := 93) rfl)) e2 (Ins.self Ex2) (g := (mkF m 6 #[] [(.ref b2)])) rfl rfl (hb hby d17_6)
  obtain ⟨fs, hr, hrun, hended, hW, hsame⟩ := X3.leave (v := some (.ref b2)) (fun h => by rw [Bd.returns] at h; cases h)
  refine ⟨_, _, pre0 _ ?_, hrun, hended, _, _, rfl, ?_, ⟨_, rfl⟩, hW, hsame.mono (by decide) (by decide)⟩
  · skip
    show Steps p.tables e below (s₁.setTop (mkF m 0 #[] [])) _
    refine st1 _ ?_
    show Steps p.tables e below (T1.setTop (mkF m 3 #[] [(.ref aV)])) _
    refine st2 _ ?_
    show Steps p.tables e below (T2.setTop (mkF m 6 #[] [(.ref b2)])) _
    refine st3 _ ?_
    show Steps p.tables e below (T3.setTop (mkF m 9 #[] [(.ref b2)])) _
    jvm_step X3.here [X3.here.top, hx, (hb hby d17_9), X3.method', Bd.returns, Value.isRef, FieldType.isReference]
    first | (intro acts; rw [hr _ acts rfl rfl rfl]) | rw [hr _ _ rfl rfl rfl]
    exact Steps.refl _
  · show QVa Z W h0 n0 _ T3.heap _
    rw [e3]
    exact ⟨_, kV, rfl, N0, K2, G2⟩
def own_res (W : Nat → Addr) (rr : Nat → Int32) : Value := if rr 0 = 0 then (if rr 1 = 0 then (if rr 2 = 0 then .null else .ref (W 2)) else .ref (W 1)) else .ref (W 0)
def QKd (W : Nat → Addr) (rr : Nat → Int32) (h0 : Heap) (n0 : Nat) (v : Option Value) (h : Heap) (L : List Loc) : Prop := v = some (own_res W rr) ∧ Fr n0 L ∧ Keep h0 h []
theorem d16_0 : decode prog_2_method_5_code 0 = .ok (.invokestatic 36, 3) := by decide +kernel
theorem pd____Lheslar_Boundary_Kind_ : parseMethodDescriptor "()[Lheslar/Boundary$Kind;" = some ⟨[], some (.array (.object "heslar/Boundary$Kind"))⟩ := by decide +kernel
theorem d16_3 : decode prog_2_method_5_code 3 = .ok (.astore_n 1, 1) := by decide +kernel
theorem d16_4 : decode prog_2_method_5_code 4 = .ok (.aload_n 1, 1) := by decide +kernel
theorem d16_5 : decode prog_2_method_5_code 5 = .ok (.arraylength, 1) := by decide +kernel
theorem d16_6 : decode prog_2_method_5_code 6 = .ok (.istore_n 2, 1) := by decide +kernel
theorem d16_7 : decode prog_2_method_5_code 7 = .ok (.iconst 0, 1) := by decide +kernel
theorem d16_8 : decode prog_2_method_5_code 8 = .ok (.istore_n 3, 1) := by decide +kernel
theorem d16_9 : decode prog_2_method_5_code 9 = .ok (.iload_n 3, 1) := by decide +kernel
theorem d16_10 : decode prog_2_method_5_code 10 = .ok (.iload_n 2, 1) := by decide +kernel
theorem d16_11 : decode prog_2_method_5_code 11 = .ok (.if_icmp .ge 29, 3) := by decide +kernel
theorem d16_14 : decode prog_2_method_5_code 14 = .ok (.aload_n 1, 1) := by decide +kernel
theorem d16_15 : decode prog_2_method_5_code 15 = .ok (.iload_n 3, 1) := by decide +kernel
theorem d16_16 : decode prog_2_method_5_code 16 = .ok (.aaload, 1) := by decide +kernel
theorem d16_17 : decode prog_2_method_5_code 17 = .ok (.astore 4, 2) := by decide +kernel
theorem d16_19 : decode prog_2_method_5_code 19 = .ok (.aload 4, 2) := by decide +kernel
theorem d16_21 : decode prog_2_method_5_code 21 = .ok (.getfield 32, 3) := by decide +kernel
theorem d16_24 : decode prog_2_method_5_code 24 = .ok (.aload_n 0, 1) := by decide +kernel
theorem d16_25 : decode prog_2_method_5_code 25 = .ok (.invokevirtual 40, 3) := by decide +kernel
theorem pd__Ljava_lang_Object__Z : parseMethodDescriptor "(Ljava/lang/Object;)Z" = some ⟨[(.object "java/lang/Object")], some .boolean⟩ := by decide +kernel
theorem d16_28 : decode prog_2_method_5_code 28 = .ok (.ifCond .eq 6, 3) := by decide +kernel
theorem d16_34 : decode prog_2_method_5_code 34 = .ok (.iinc 3 1, 3) := by decide +kernel
theorem d16_37 : decode prog_2_method_5_code 37 = .ok (.goto (-28), 3) := by decide +kernel
theorem d16_40 : decode prog_2_method_5_code 40 = .ok (.aconst_null, 1) := by decide +kernel
theorem d16_41 : decode prog_2_method_5_code 41 = .ok (.areturn, 1) := by decide +kernel
theorem d16_31 : decode prog_2_method_5_code 31 = .ok (.aload 4, 2) := by decide +kernel
theorem d16_33 : decode prog_2_method_5_code 33 = .ok (.areturn, 1) := by decide +kernel
theorem pn_16 : plainName "heslar/Boundary$Kind" = true := by first | (simp [plainName, overriddenIn]; done) | decide +kernel
theorem ef_rBy (m : MethodId) (x0 : Addr) : entryFrame m #[(.ref x0)] 5 = mkF m 0 #[.val (.ref x0), .unset, .unset, .unset, .unset] [] := by first | (simp [entryFrame, mkF, argsToLocals, Value.category]; done) | rfl
set_option maxRecDepth 65536 in
set_option maxHeartbeats 40000000 in
theorem rBy (l : Launch) (Z : State) (a0 : Array Value) (hw : ∀ d ∈ tables_1, d.before a0 Z = true) (ws : List Jvm.Cond) (o0 : Addr) (W : Nat → Addr) (kV : ClassId) (aV : Addr) (h0 : Heap) (n0 : Nat) (Z0 : n0 ≤ h0.size) (S_V : Sta Z h0 "heslar/Boundary$Kind" "$VALUES" "[Lheslar/Boundary$Kind;" (.ref aV)) (E_V : Exa Z h0 aV "[Lheslar/Boundary$Kind;") (V_V : GA Z h0 aV kV (.object "heslar/Boundary$Kind") 3 (fun i => .ref (W i))) (cw cv : Nat → Addr) (ck : Nat → ClassId) (cl : Nat → Nat) (cf : Nat → Nat → Int32) (hcl : ∀ i, i < 3 → cl i ≤ 4000) (hF : ∀ i, i < 3 → Fld Z h0 (W i) "heslar/Boundary$Kind" "code" "Ljava/lang/String;" (.ref (cw i))) (hE : ∀ i, i < 3 → Exa Z h0 (W i) "heslar/Boundary$Kind") (hSB : ∀ i, i < 3 → SB Z h0 (cw i) (cv i) (ck i) (cl i) (cf i)) (cs : Int32) (hcs : ¬ cs = (0 : Int32)) (S_C : Sta Z h0 "java/lang/String" "COMPACT_STRINGS" "Z" (.int cs)) (v0 : Addr) (k0 : ClassId) (n : Nat) (f : Nat → Int32) (rr : Nat → Int32) (hn : n ≤ 4000) (R_s : SB Z h0 o0 v0 k0 n f) (hrr : ∀ i, i < 3 → (rr i = (1 : Int32) ∧ Same (cl i) n (cf i) f) ∨ (rr i = (0 : Int32) ∧ ¬ Same (cl i) n (cf i) f)) :
    MetFree l (⟨"heslar/Boundary$Kind", "byCode", "(Ljava/lang/String;)Lheslar/Boundary$Kind;"⟩ : MethodName) (head1 (Jvm.Cond.code (⟨"heslar/Boundary$Kind", "byCode", "(Ljava/lang/String;)Lheslar/Boundary$Kind;"⟩ : MethodName) prog_2_method_5_code 5 (some (.object "heslar/Boundary$Kind")) :: ws) ({ frames := 2, cells := 1, slots := 3, locals := 40 } : Room)) (fun a U => a = #[(.ref o0)] ∧ Z.Warmed39 U.vm ∧ U.heap = h0) (fun _ _ _ _ _ => True) (fun _ U o U' => ∃ v L, o = .returned v ∧ QKd W rr h0 n0 v U'.heap L ∧ FrameEnd U o U' L ({ frames := 2, cells := 1, slots := 3, locals := 40 } : Room).cells ({ frames := 2, cells := 1, slots := 3, locals := 40 } : Room).slots) := by
  refine MetFree.of_bodySF (plainFor_of_name pn_16) hisR ?_
  intro p e s m args below meth c s₁ Bd hml0 hP hK
  obtain ⟨rfl, hZ, hh⟩ := hP
  have hx := Bd.exec
  have hby := Bd.bytes
  have hml : c.maxLocals = 5 := hml0
  have hown : s.vm.findClass "heslar/Boundary$Kind" = some m.cls := findClass_of_methodNamed Bd.named
  have hnm := (name_of_methodNamed Bd.named Bd.method).1
  have X0 : Stand p l e ({ frames := 2, cells := 1, slots := 3, locals := 40 } : Room) s m #[(.ref o0)] below meth c s₁ [] 0 0 := Stand.of_body Bd
  have e0 : s₁.heap = h0 := by rw [← hh, Bd.state]; rfl
  have N0 := Fr.nil n0
  have pre0 : ∀ t, Steps p.tables e below (s₁.setTop (mkF m 0 #[.val (.ref o0), .unset, .unset, .unset, .unset] [])) t → Steps p.tables e below (s₁.setTop (entryFrame m #[(.ref o0)] 5)) t := fun t k => castTop (ef_rBy m o0) k
  obtain ⟨_, _, ⟨T1, L1, k1, n1⟩, -, X1, ⟨Lc1, hQ1, l1, y1, z1⟩, st1⟩ := Jvm.LawKit.callS X0 hx (y := (⟨"heslar/Boundary$Kind", "values", "()[Lheslar/Boundary$Kind;"⟩ : MethodName)) hown (mvT hZ (hw _ (List.mem_of_getElem? (i := 77) rfl))) (mvT hZ (hw _ (List.mem_of_getElem? (i := 78) rfl))) (mvT hZ (hw _ (List.mem_of_getElem? (i := 75) rfl))) (mvT hZ (hw _ (List.mem_of_getElem? (i := 79) rfl))) (by decide) (backOf (W := 0) (rVal l Z a0 hw [] W kV aV h0 n0 Z0 S_V E_V V_V) hZ (hw _ (List.mem_of_getElem? (i := 79) rfl)) (hw _ (List.mem_of_getElem? (i := 75) rfl)) (by decide) (by decide)) (g := (mkF m 0 #[.val (.ref o0), .unset, .unset, .unset, .unset] [])) rfl (by rw [hml]; rfl) (argsL := []) (rest := []) (lenOf pd____Lheslar_Boundary_Kind_ rfl) rfl (by show 2 * 0 + _ ≤ _; exact Nat.le_of_eq rfl) (hb hby d16_0) (fun _ _ => ⟨rfl, e0, (by decide : 0 + 1 ≤ _), (by decide : 0 + 3 ≤ _)⟩)
  dsimp only [Pt.U, Pt.locs, Pt.cells, Pt.slots] at X1 l1 y1 z1 st1 hQ1
  rw [l1, y1, z1] at X1
  obtain ⟨va1, kv1, rfl, N1q, Kp1, Gv1⟩ := hQ1
  have N1 := Fr.app N0 N1q
  have Zs1 : n0 ≤ T1.heap.size := Nat.le_trans Z0 Kp1.1
  have Kk1 : Keep h0 T1.heap [] := (Keep.refl h0 []).trans Kp1 all0
  have EX := own_ext Kp1
  have Fk0 := (hF 0 (by decide)).ext EX
  have Sk0 := (hSB 0 (by decide)).ext EX
  have Ek0 := Sk0.1
  have Fk1 := (hF 1 (by decide)).ext EX
  have Sk1 := (hSB 1 (by decide)).ext EX
  have Ek1 := Sk1.1
  have Fk2 := (hF 2 (by decide)).ext EX
  have Sk2 := (hSB 2 (by decide)).ext EX
  have Ek2 := Sk2.1
  have Rs := R_s.ext EX
  have S_C_2 := (own_sta_keep S_C Kp1 all0)
  have SC := S_C_2
  obtain ⟨cl3, Ar3, -, Sa3, -⟩ := id Gv1
  obtain ⟨cl4, Ar4, qa4, Sa4, Ha4⟩ := id Gv1
  have hin4 : ¬ ((Int32.ofNat 0) < 0 ∨ cl4.slots.size ≤ (Int32.ofNat 0).toNatClampNeg) := own_inb Sa4 (show 0 < 3 by decide) (show 3 < 2147483648 by decide)
  have hat4 : cl4.slots[(Int32.ofNat 0).toNatClampNeg]? = some (.ref (W 0)) := by rw [own_cl (Nat.lt_trans (show 0 < 3 by decide) (show 3 < 2147483648 by decide))]; exact Ha4 0 (show 0 < 3 by decide)
  obtain ⟨T5, X5, e5, st5⟩ := getF X1 hx hZ hown (host := "") (Or.inl (hw _ (List.mem_of_getElem? (i := 95) rfl))) Via.refl rfl Fk0 (g := (mkF m 21 #[.val (.ref o0), .val (.ref va1), .val (.int (Int32.ofNat 3)), .val (.int (Int32.ofNat 0)), .val (.ref (W 0))] [(.ref (W 0))])) rfl rfl (hb hby d16_21)
  obtain ⟨cq6, kq6, q6a, q6b, q6c⟩ := isOf hZ e5 Ek0
  obtain ⟨_, _, ⟨T6, L6, k6, n6⟩, -, X6, ⟨Lc6, hQ6, l6, y6, z6⟩, st6⟩ := X5.virtualBack hx (y := (⟨"java/lang/String", "equals", "(Ljava/lang/Object;)Z"⟩ : MethodName)) (z := (⟨"java/lang/String", "equals", "(Ljava/lang/Object;)Z"⟩ : MethodName)) hown (mvT hZ (hw _ (List.mem_of_getElem? (i := 97) rfl))) (mvT hZ (hw _ (List.mem_of_getElem? (i := 98) rfl))) (notFace_of_selects (args := #[]) (mvT hZ (hw _ (List.mem_of_getElem? (i := 100) rfl)))) (mvT hZ (hw _ (List.mem_of_getElem? (i := 100) rfl))) (mvT hZ (hw _ (List.mem_of_getElem? (i := 99) rfl))) (by decide) (backOf (W := 0) (rEq l Z a0 hw [] (cw 0) o0 (cv 0) v0 (ck 0) k0 (cl 0) n (cf 0) f (rr 0) (hcl 0 (by decide)) hn (hrr 0 (by decide)) T1.heap n0 Zs1 Sk0 Rs cs hcs SC) hZ (hw _ (List.mem_of_getElem? (i := 101) rfl)) (hw _ (List.mem_of_getElem? (i := 3) rfl)) (by decide) (by decide)) q6a q6c (g := (mkF m 25 #[.val (.ref o0), .val (.ref va1), .val (.int (Int32.ofNat 3)), .val (.int (Int32.ofNat 0)), .val (.ref (W 0))] [(.ref o0), (.ref (cw 0))])) rfl (by rw [hml]; rfl) (Steps.refl _) (argsL := [(.ref o0)]) (rest := []) (lenOf pd__Ljava_lang_Object__Z rfl) rfl (by show 2 * 0 + _ ≤ _; exact Nat.le_of_eq rfl) (hb hby d16_25) (fun _ _ => ⟨rfl, e5, (by decide : 1 + 0 ≤ _), (by decide : 3 + 0 ≤ _)⟩)
  dsimp only [Pt.U, Pt.locs, Pt.cells, Pt.slots] at X6 l6 y6 z6 st6 hQ6
  rw [l6, y6, z6] at X6
  obtain ⟨rfl, N6q, e6⟩ := hQ6
  have N6 := Fr.app N1 N6q
  have pre7 : ∀ t, Steps p.tables e below (T6.setTop (mkF m 28 #[.val (.ref o0), .val (.ref va1), .val (.int (Int32.ofNat 3)), .val (.int (Int32.ofNat 0)), .val (.ref (W 0))] [(.int (rr 0))])) t → Steps p.tables e below (s₁.setTop (entryFrame m #[(.ref o0)] 5)) t := by
    intro t kt
    refine pre0 t ?_
    show Steps p.tables e below (s₁.setTop (mkF m 0 #[.val (.ref o0), .unset, .unset, .unset, .unset] [])) _
    refine st1 _ ?_
    show Steps p.tables e below (T1.setTop (mkF m 3 #[.val (.ref o0), .unset, .unset, .unset, .unset] [(.ref va1)])) _
    refine XS.astoreN X1.here hx rfl (hb hby d16_3) rfl rfl (l' := #[.val (.ref o0), .val (.ref va1), .unset, .unset, .unset]) rfl ?_
    show Steps p.tables e below (T1.setTop (mkF m 4 #[.val (.ref o0), .val (.ref va1), .unset, .unset, .unset] [])) _
    refine XS.aloadN X1.here hx rfl (hb hby d16_4) rfl rfl ?_
    show Steps p.tables e below (T1.setTop (mkF m 5 #[.val (.ref o0), .val (.ref va1), .unset, .unset, .unset] [(.ref va1)])) _
    refine X1.arraylength hx Ar3.1 (State.isArrayOf_alike hZ.alike Ar3.2.1) (g := (mkF m 5 #[.val (.ref o0), .val (.ref va1), .unset, .unset, .unset] [(.ref va1)])) rfl rfl (hb hby d16_5) _ ?_
    rw [own_len Sa3]
    show Steps p.tables e below (T1.setTop (mkF m 6 #[.val (.ref o0), .val (.ref va1), .unset, .unset, .unset] [(.int (Int32.ofNat 3))])) _
    refine XS.istoreN X1.here hx rfl (hb hby d16_6) rfl (l' := #[.val (.ref o0), .val (.ref va1), .val (.int (Int32.ofNat 3)), .unset, .unset]) rfl ?_
    show Steps p.tables e below (T1.setTop (mkF m 7 #[.val (.ref o0), .val (.ref va1), .val (.int (Int32.ofNat 3)), .unset, .unset] [])) _
    refine XS.iconst X1.here hx rfl (hb hby d16_7) ?_
    show Steps p.tables e below (T1.setTop (mkF m 8 #[.val (.ref o0), .val (.ref va1), .val (.int (Int32.ofNat 3)), .unset, .unset] [(.int (0 : Int32))])) _
    refine XS.istoreN X1.here hx rfl (hb hby d16_8) rfl (l' := #[.val (.ref o0), .val (.ref va1), .val (.int (Int32.ofNat 3)), .val (.int (0 : Int32)), .unset]) rfl ?_
    show Steps p.tables e below (T1.setTop (mkF m 9 #[.val (.ref o0), .val (.ref va1), .val (.int (Int32.ofNat 3)), .val (.int (0 : Int32)), .unset] [])) _
    show Steps p.tables e below (T1.setTop (mkF m 9 #[.val (.ref o0), .val (.ref va1), .val (.int (Int32.ofNat 3)), .val (.int (Int32.ofNat 0)), .unset] [])) _
    refine XS.iloadN X1.here hx rfl (hb hby d16_9) rfl ?_
    show Steps p.tables e below (T1.setTop (mkF m 10 #[.val (.ref o0), .val (.ref va1), .val (.int (Int32.ofNat 3)), .val (.int (Int32.ofNat 0)), .unset] [(.int (Int32.ofNat 0))])) _
    refine XS.iloadN X1.here hx rfl (hb hby d16_10) rfl ?_
    show Steps p.tables e below (T1.setTop (mkF m 11 #[.val (.ref o0), .val (.ref va1), .val (.int (Int32.ofNat 3)), .val (.int (Int32.ofNat 0)), .unset] [(.int (Int32.ofNat 3)), (.int (Int32.ofNat 0))])) _
    refine XS.icmpNo X1.here hx rfl (hb hby d16_11) rfl (tlt (by decide)).2.1 ?_
    show Steps p.tables e below (T1.setTop (mkF m 14 #[.val (.ref o0), .val (.ref va1), .val (.int (Int32.ofNat 3)), .val (.int (Int32.ofNat 0)), .unset] [])) _
    refine XS.aloadN X1.here hx rfl (hb hby d16_14) rfl rfl ?_
    show Steps p.tables e below (T1.setTop (mkF m 15 #[.val (.ref o0), .val (.ref va1), .val (.int (Int32.ofNat 3)), .val (.int (Int32.ofNat 0)), .unset] [(.ref va1)])) _
    refine XS.iloadN X1.here hx rfl (hb hby d16_15) rfl ?_
    show Steps p.tables e below (T1.setTop (mkF m 16 #[.val (.ref o0), .val (.ref va1), .val (.int (Int32.ofNat 3)), .val (.int (Int32.ofNat 0)), .unset] [(.int (Int32.ofNat 0)), (.ref va1)])) _
    refine X1.aaload hx (j := (Int32.ofNat 0)) (v := (.ref (W 0))) Ar4.1 (State.isArrayOf_alike hZ.alike Ar4.2.1) rfl Ar4.2.2 hin4 hat4 (g := (mkF m 16 #[.val (.ref o0), .val (.ref va1), .val (.int (Int32.ofNat 3)), .val (.int (Int32.ofNat 0)), .unset] [(.int (Int32.ofNat 0)), (.ref va1)])) rfl rfl (hb hby d16_16) _ ?_
    show Steps p.tables e below (T1.setTop (mkF m 17 #[.val (.ref o0), .val (.ref va1), .val (.int (Int32.ofNat 3)), .val (.int (Int32.ofNat 0)), .unset] [(.ref (W 0))])) _
    refine XS.astore X1.here hx rfl (hb hby d16_17) rfl rfl (l' := #[.val (.ref o0), .val (.ref va1), .val (.int (Int32.ofNat 3)), .val (.int (Int32.ofNat 0)), .val (.ref (W 0))]) rfl ?_
    show Steps p.tables e below (T1.setTop (mkF m 19 #[.val (.ref o0), .val (.ref va1), .val (.int (Int32.ofNat 3)), .val (.int (Int32.ofNat 0)), .val (.ref (W 0))] [])) _
    refine XS.aload X1.here hx rfl (hb hby d16_19) rfl rfl ?_
    show Steps p.tables e below (T1.setTop (mkF m 21 #[.val (.ref o0), .val (.ref va1), .val (.int (Int32.ofNat 3)), .val (.int (Int32.ofNat 0)), .val (.ref (W 0))] [(.ref (W 0))])) _
    refine st5 _ ?_
    show Steps p.tables e below (T5.setTop (mkF m 24 #[.val (.ref o0), .val (.ref va1), .val (.int (Int32.ofNat 3)), .val (.int (Int32.ofNat 0)), .val (.ref (W 0))] [(.ref (cw 0))])) _
    refine XS.aloadN X5.here hx rfl (hb hby d16_24) rfl rfl ?_
    show Steps p.tables e below (T5.setTop (mkF m 25 #[.val (.ref o0), .val (.ref va1), .val (.int (Int32.ofNat 3)), .val (.int (Int32.ofNat 0)), .val (.ref (W 0))] [(.ref o0), (.ref (cw 0))])) _
    refine st6.trans ?_
    exact kt
  by_cases hc8 : (rr 0) = (0 : Int32)
  · skip
    obtain ⟨cl9, Ar9, qa9, Sa9, Ha9⟩ := id Gv1
    have hin9 : ¬ ((Int32.ofNat 1) < 0 ∨ cl9.slots.size ≤ (Int32.ofNat 1).toNatClampNeg) := own_inb Sa9 (show 1 < 3 by decide) (show 3 < 2147483648 by decide)
    have hat9 : cl9.slots[(Int32.ofNat 1).toNatClampNeg]? = some (.ref (W 1)) := by rw [own_cl (Nat.lt_trans (show 1 < 3 by decide) (show 3 < 2147483648 by decide))]; exact Ha9 1 (show 1 < 3 by decide)
    obtain ⟨T10, X10, e10, st10⟩ := getF X6 hx hZ hown (host := "") (Or.inl (hw _ (List.mem_of_getElem? (i := 95) rfl))) Via.refl e6 Fk1 (g := (mkF m 21 #[.val (.ref o0), .val (.ref va1), .val (.int (Int32.ofNat 3)), .val (.int (Int32.ofNat 1)), .val (.ref (W 1))] [(.ref (W 1))])) rfl rfl (hb hby d16_21)
    obtain ⟨cq11, kq11, q11a, q11b, q11c⟩ := isOf hZ e10 Ek1
    obtain ⟨_, _, ⟨T11, L11, k11, n11⟩, -, X11, ⟨Lc11, hQ11, l11, y11, z11⟩, st11⟩ := X10.virtualBack hx (y := (⟨"java/lang/String", "equals", "(Ljava/lang/Object;)Z"⟩ : MethodName)) (z := (⟨"java/lang/String", "equals", "(Ljava/lang/Object;)Z"⟩ : MethodName)) hown (mvT hZ (hw _ (List.mem_of_getElem? (i := 97) rfl))) (mvT hZ (hw _ (List.mem_of_getElem? (i := 98) rfl))) (notFace_of_selects (args := #[]) (mvT hZ (hw _ (List.mem_of_getElem? (i := 100) rfl)))) (mvT hZ (hw _ (List.mem_of_getElem? (i := 100) rfl))) (mvT hZ (hw _ (List.mem_of_getElem? (i := 99) rfl))) (by decide) (backOf (W := 0) (rEq l Z a0 hw [] (cw 1) o0 (cv 1) v0 (ck 1) k0 (cl 1) n (cf 1) f (rr 1) (hcl 1 (by decide)) hn (hrr 1 (by decide)) T1.heap n0 Zs1 Sk1 Rs cs hcs SC) hZ (hw _ (List.mem_of_getElem? (i := 101) rfl)) (hw _ (List.mem_of_getElem? (i := 3) rfl)) (by decide) (by decide)) q11a q11c (g := (mkF m 25 #[.val (.ref o0), .val (.ref va1), .val (.int (Int32.ofNat 3)), .val (.int (Int32.ofNat 1)), .val (.ref (W 1))] [(.ref o0), (.ref (cw 1))])) rfl (by rw [hml]; rfl) (Steps.refl _) (argsL := [(.ref o0)]) (rest := []) (lenOf pd__Ljava_lang_Object__Z rfl) rfl (by show 2 * 0 + _ ≤ _; exact Nat.le_of_eq rfl) (hb hby d16_25) (fun _ _ => ⟨rfl, e10, (by decide : 1 + 0 ≤ _), (by decide : 3 + 0 ≤ _)⟩)
    dsimp only [Pt.U, Pt.locs, Pt.cells, Pt.slots] at X11 l11 y11 z11 st11 hQ11
    rw [l11, y11, z11] at X11
    obtain ⟨rfl, N11q, e11⟩ := hQ11
    have N11 := Fr.app N6 N11q
    have pre12 : ∀ t, Steps p.tables e below (T11.setTop (mkF m 28 #[.val (.ref o0), .val (.ref va1), .val (.int (Int32.ofNat 3)), .val (.int (Int32.ofNat 1)), .val (.ref (W 1))] [(.int (rr 1))])) t → Steps p.tables e below (s₁.setTop (entryFrame m #[(.ref o0)] 5)) t := by
      intro t kt
      refine pre7 t ?_
      show Steps p.tables e below (T6.setTop (mkF m 28 #[.val (.ref o0), .val (.ref va1), .val (.int (Int32.ofNat 3)), .val (.int (Int32.ofNat 0)), .val (.ref (W 0))] [(.int (rr 0))])) _
      refine XS.ifYes X6.here hx rfl (pc0 := 28) (pc' := 34) rfl (hb hby d16_28) rfl ((if0 _ _).trans (teq hc8).1) (by decide) (by decide) ?_
      show Steps p.tables e below (T6.setTop (mkF m 34 #[.val (.ref o0), .val (.ref va1), .val (.int (Int32.ofNat 3)), .val (.int (Int32.ofNat 0)), .val (.ref (W 0))] [])) _
      refine XS.iinc X6.here hx rfl (hb hby d16_34) rfl (l' := #[.val (.ref o0), .val (.ref va1), .val (.int (Int32.ofNat 3)), .val (.int ((Int32.ofNat 0) + (1 : Int32))), .val (.ref (W 0))]) rfl ?_
      show Steps p.tables e below (T6.setTop (mkF m 37 #[.val (.ref o0), .val (.ref va1), .val (.int (Int32.ofNat 3)), .val (.int ((Int32.ofNat 0) + (1 : Int32))), .val (.ref (W 0))] [])) _
      refine XS.goto X6.here hx rfl (pc0 := 37) (pc' := 9) rfl (hb hby d16_37) (by decide) (by decide) ?_
      show Steps p.tables e below (T6.setTop (mkF m 9 #[.val (.ref o0), .val (.ref va1), .val (.int (Int32.ofNat 3)), .val (.int ((Int32.ofNat 0) + (1 : Int32))), .val (.ref (W 0))] [])) _
      rw [show ((Int32.ofNat 0) + (1 : Int32)) = Int32.ofNat 1 from rfl]
      show Steps p.tables e below (T6.setTop (mkF m 9 #[.val (.ref o0), .val (.ref va1), .val (.int (Int32.ofNat 3)), .val (.int (Int32.ofNat 1)), .val (.ref (W 0))] [])) _
      refine XS.iloadN X6.here hx rfl (hb hby d16_9) rfl ?_
      show Steps p.tables e below (T6.setTop (mkF m 10 #[.val (.ref o0), .val (.ref va1), .val (.int (Int32.ofNat 3)), .val (.int (Int32.ofNat 1)), .val (.ref (W 0))] [(.int (Int32.ofNat 1))])) _
      refine XS.iloadN X6.here hx rfl (hb hby d16_10) rfl ?_
      show Steps p.tables e below (T6.setTop (mkF m 11 #[.val (.ref o0), .val (.ref va1), .val (.int (Int32.ofNat 3)), .val (.int (Int32.ofNat 1)), .val (.ref (W 0))] [(.int (Int32.ofNat 3)), (.int (Int32.ofNat 1))])) _
      refine XS.icmpNo X6.here hx rfl (hb hby d16_11) rfl (tlt (by decide)).2.1 ?_
      show Steps p.tables e below (T6.setTop (mkF m 14 #[.val (.ref o0), .val (.ref va1), .val (.int (Int32.ofNat 3)), .val (.int (Int32.ofNat 1)), .val (.ref (W 0))] [])) _
      refine XS.aloadN X6.here hx rfl (hb hby d16_14) rfl rfl ?_
      show Steps p.tables e below (T6.setTop (mkF m 15 #[.val (.ref o0), .val (.ref va1), .val (.int (Int32.ofNat 3)), .val (.int (Int32.ofNat 1)), .val (.ref (W 0))] [(.ref va1)])) _
      refine XS.iloadN X6.here hx rfl (hb hby d16_15) rfl ?_
      show Steps p.tables e below (T6.setTop (mkF m 16 #[.val (.ref o0), .val (.ref va1), .val (.int (Int32.ofNat 3)), .val (.int (Int32.ofNat 1)), .val (.ref (W 0))] [(.int (Int32.ofNat 1)), (.ref va1)])) _
      refine X6.aaload hx (j := (Int32.ofNat 1)) (v := (.ref (W 1))) (by rw [e6]; exact Ar9.1) (State.isArrayOf_alike hZ.alike Ar9.2.1) rfl Ar9.2.2 hin9 hat9 (g := (mkF m 16 #[.val (.ref o0), .val (.ref va1), .val (.int (Int32.ofNat 3)), .val (.int (Int32.ofNat 1)), .val (.ref (W 0))] [(.int (Int32.ofNat 1)), (.ref va1)])) rfl rfl (hb hby d16_16) _ ?_
      show Steps p.tables e below (T6.setTop (mkF m 17 #[.val (.ref o0), .val (.ref va1), .val (.int (Int32.ofNat 3)), .val (.int (Int32.ofNat 1)), .val (.ref (W 0))] [(.ref (W 1))])) _
      refine XS.astore X6.here hx rfl (hb hby d16_17) rfl rfl (l' := #[.val (.ref o0), .val (.ref va1), .val (.int (Int32.ofNat 3)), .val (.int (Int32.ofNat 1)), .val (.ref (W 1))]) rfl ?_
      show Steps p.tables e below (T6.setTop (mkF m 19 #[.val (.ref o0), .val (.ref va1), .val (.int (Int32.ofNat 3)), .val (.int (Int32.ofNat 1)), .val (.ref (W 1))] [])) _
      refine XS.aload X6.here hx rfl (hb hby d16_19) rfl rfl ?_
      show Steps p.tables e below (T6.setTop (mkF m 21 #[.val (.ref o0), .val (.ref va1), .val (.int (Int32.ofNat 3)), .val (.int (Int32.ofNat 1)), .val (.ref (W 1))] [(.ref (W 1))])) _
      refine st10 _ ?_
      show Steps p.tables e below (T10.setTop (mkF m 24 #[.val (.ref o0), .val (.ref va1), .val (.int (Int32.ofNat 3)), .val (.int (Int32.ofNat 1)), .val (.ref (W 1))] [(.ref (cw 1))])) _
      refine XS.aloadN X10.here hx rfl (hb hby d16_24) rfl rfl ?_
      show Steps p.tables e below (T10.setTop (mkF m 25 #[.val (.ref o0), .val (.ref va1), .val (.int (Int32.ofNat 3)), .val (.int (Int32.ofNat 1)), .val (.ref (W 1))] [(.ref o0), (.ref (cw 1))])) _
      refine st11.trans ?_
      exact kt
    by_cases hc13 : (rr 1) = (0 : Int32)
    · skip
      obtain ⟨cl14, Ar14, qa14, Sa14, Ha14⟩ := id Gv1
      have hin14 : ¬ ((Int32.ofNat 2) < 0 ∨ cl14.slots.size ≤ (Int32.ofNat 2).toNatClampNeg) := own_inb Sa14 (show 2 < 3 by decide) (show 3 < 2147483648 by decide)
      have hat14 : cl14.slots[(Int32.ofNat 2).toNatClampNeg]? = some (.ref (W 2)) := by rw [own_cl (Nat.lt_trans (show 2 < 3 by decide) (show 3 < 2147483648 by decide))]; exact Ha14 2 (show 2 < 3 by decide)
      obtain ⟨T15, X15, e15, st15⟩ := getF X11 hx hZ hown (host := "") (Or.inl (hw _ (List.mem_of_getElem? (i := 95) rfl))) Via.refl e11 Fk2 (g := (mkF m 21 #[.val (.ref o0), .val (.ref va1), .val (.int (Int32.ofNat 3)), .val (.int (Int32.ofNat 2)), .val (.ref (W 2))] [(.ref (W 2))])) rfl rfl (hb hby d16_21)
      obtain ⟨cq16, kq16, q16a, q16b, q16c⟩ := isOf hZ e15 Ek2
      obtain ⟨_, _, ⟨T16, L16, k16, n16⟩, -, X16, ⟨Lc16, hQ16, l16, y16, z16⟩, st16⟩ := X15.virtualBack hx (y := (⟨"java/lang/String", "equals", "(Ljava/lang/Object;)Z"⟩ : MethodName)) (z := (⟨"java/lang/String", "equals", "(Ljava/lang/Object;)Z"⟩ : MethodName)) hown (mvT hZ (hw _ (List.mem_of_getElem? (i := 97) rfl))) (mvT hZ (hw _ (List.mem_of_getElem? (i := 98) rfl))) (notFace_of_selects (args := #[]) (mvT hZ (hw _ (List.mem_of_getElem? (i := 100) rfl)))) (mvT hZ (hw _ (List.mem_of_getElem? (i := 100) rfl))) (mvT hZ (hw _ (List.mem_of_getElem? (i := 99) rfl))) (by decide) (backOf (W := 0) (rEq l Z a0 hw [] (cw 2) o0 (cv 2) v0 (ck 2) k0 (cl 2) n (cf 2) f (rr 2) (hcl 2 (by decide)) hn (hrr 2 (by decide)) T1.heap n0 Zs1 Sk2 Rs cs hcs SC) hZ (hw _ (List.mem_of_getElem? (i := 101) rfl)) (hw _ (List.mem_of_getElem? (i := 3) rfl)) (by decide) (by decide)) q16a q16c (g := (mkF m 25 #[.val (.ref o0), .val (.ref va1), .val (.int (Int32.ofNat 3)), .val (.int (Int32.ofNat 2)), .val (.ref (W 2))] [(.ref o0), (.ref (cw 2))])) rfl (by rw [hml]; rfl) (Steps.refl _) (argsL := [(.ref o0)]) (rest := []) (lenOf pd__Ljava_lang_Object__Z rfl) rfl (by show 2 * 0 + _ ≤ _; exact Nat.le_of_eq rfl) (hb hby d16_25) (fun _ _ => ⟨rfl, e15, (by decide : 1 + 0 ≤ _), (by decide : 3 + 0 ≤ _)⟩)
      dsimp only [Pt.U, Pt.locs, Pt.cells, Pt.slots] at X16 l16 y16 z16 st16 hQ16
      rw [l16, y16, z16] at X16
      obtain ⟨rfl, N16q, e16⟩ := hQ16
      have N16 := Fr.app N11 N16q
      have pre17 : ∀ t, Steps p.tables e below (T16.setTop (mkF m 28 #[.val (.ref o0), .val (.ref va1), .val (.int (Int32.ofNat 3)), .val (.int (Int32.ofNat 2)), .val (.ref (W 2))] [(.int (rr 2))])) t → Steps p.tables e below (s₁.setTop (entryFrame m #[(.ref o0)] 5)) t := by
        intro t kt
        refine pre12 t ?_
        show Steps p.tables e below (T11.setTop (mkF m 28 #[.val (.ref o0), .val (.ref va1), .val (.int (Int32.ofNat 3)), .val (.int (Int32.ofNat 1)), .val (.ref (W 1))] [(.int (rr 1))])) _
        refine XS.ifYes X11.here hx rfl (pc0 := 28) (pc' := 34) rfl (hb hby d16_28) rfl ((if0 _ _).trans (teq hc13).1) (by decide) (by decide) ?_
        show Steps p.tables e below (T11.setTop (mkF m 34 #[.val (.ref o0), .val (.ref va1), .val (.int (Int32.ofNat 3)), .val (.int (Int32.ofNat 1)), .val (.ref (W 1))] [])) _
        refine XS.iinc X11.here hx rfl (hb hby d16_34) rfl (l' := #[.val (.ref o0), .val (.ref va1), .val (.int (Int32.ofNat 3)), .val (.int ((Int32.ofNat 1) + (1 : Int32))), .val (.ref (W 1))]) rfl ?_
        show Steps p.tables e below (T11.setTop (mkF m 37 #[.val (.ref o0), .val (.ref va1), .val (.int (Int32.ofNat 3)), .val (.int ((Int32.ofNat 1) + (1 : Int32))), .val (.ref (W 1))] [])) _
        refine XS.goto X11.here hx rfl (pc0 := 37) (pc' := 9) rfl (hb hby d16_37) (by decide) (by decide) ?_
        show Steps p.tables e below (T11.setTop (mkF m 9 #[.val (.ref o0), .val (.ref va1), .val (.int (Int32.ofNat 3)), .val (.int ((Int32.ofNat 1) + (1 : Int32))), .val (.ref (W 1))] [])) _
        rw [show ((Int32.ofNat 1) + (1 : Int32)) = Int32.ofNat 2 from rfl]
        show Steps p.tables e below (T11.setTop (mkF m 9 #[.val (.ref o0), .val (.ref va1), .val (.int (Int32.ofNat 3)), .val (.int (Int32.ofNat 2)), .val (.ref (W 1))] [])) _
        refine XS.iloadN X11.here hx rfl (hb hby d16_9) rfl ?_
        show Steps p.tables e below (T11.setTop (mkF m 10 #[.val (.ref o0), .val (.ref va1), .val (.int (Int32.ofNat 3)), .val (.int (Int32.ofNat 2)), .val (.ref (W 1))] [(.int (Int32.ofNat 2))])) _
        refine XS.iloadN X11.here hx rfl (hb hby d16_10) rfl ?_
        show Steps p.tables e below (T11.setTop (mkF m 11 #[.val (.ref o0), .val (.ref va1), .val (.int (Int32.ofNat 3)), .val (.int (Int32.ofNat 2)), .val (.ref (W 1))] [(.int (Int32.ofNat 3)), (.int (Int32.ofNat 2))])) _
        refine XS.icmpNo X11.here hx rfl (hb hby d16_11) rfl (tlt (by decide)).2.1 ?_
        show Steps p.tables e below (T11.setTop (mkF m 14 #[.val (.ref o0), .val (.ref va1), .val (.int (Int32.ofNat 3)), .val (.int (Int32.ofNat 2)), .val (.ref (W 1))] [])) _
        refine XS.aloadN X11.here hx rfl (hb hby d16_14) rfl rfl ?_
        show Steps p.tables e below (T11.setTop (mkF m 15 #[.val (.ref o0), .val (.ref va1), .val (.int (Int32.ofNat 3)), .val (.int (Int32.ofNat 2)), .val (.ref (W 1))] [(.ref va1)])) _
        refine XS.iloadN X11.here hx rfl (hb hby d16_15) rfl ?_
        show Steps p.tables e below (T11.setTop (mkF m 16 #[.val (.ref o0), .val (.ref va1), .val (.int (Int32.ofNat 3)), .val (.int (Int32.ofNat 2)), .val (.ref (W 1))] [(.int (Int32.ofNat 2)), (.ref va1)])) _
        refine X11.aaload hx (j := (Int32.ofNat 2)) (v := (.ref (W 2))) (by rw [e11]; exact Ar14.1) (State.isArrayOf_alike hZ.alike Ar14.2.1) rfl Ar14.2.2 hin14 hat14 (g := (mkF m 16 #[.val (.ref o0), .val (.ref va1), .val (.int (Int32.ofNat 3)), .val (.int (Int32.ofNat 2)), .val (.ref (W 1))] [(.int (Int32.ofNat 2)), (.ref va1)])) rfl rfl (hb hby d16_16) _ ?_
        show Steps p.tables e below (T11.setTop (mkF m 17 #[.val (.ref o0), .val (.ref va1), .val (.int (Int32.ofNat 3)), .val (.int (Int32.ofNat 2)), .val (.ref (W 1))] [(.ref (W 2))])) _
        refine XS.astore X11.here hx rfl (hb hby d16_17) rfl rfl (l' := #[.val (.ref o0), .val (.ref va1), .val (.int (Int32.ofNat 3)), .val (.int (Int32.ofNat 2)), .val (.ref (W 2))]) rfl ?_
        show Steps p.tables e below (T11.setTop (mkF m 19 #[.val (.ref o0), .val (.ref va1), .val (.int (Int32.ofNat 3)), .val (.int (Int32.ofNat 2)), .val (.ref (W 2))] [])) _
        refine XS.aload X11.here hx rfl (hb hby d16_19) rfl rfl ?_
        show Steps p.tables e below (T11.setTop (mkF m 21 #[.val (.ref o0), .val (.ref va1), .val (.int (Int32.ofNat 3)), .val (.int (Int32.ofNat 2)), .val (.ref (W 2))] [(.ref (W 2))])) _
        refine st15 _ ?_
        show Steps p.tables e below (T15.setTop (mkF m 24 #[.val (.ref o0), .val (.ref va1), .val (.int (Int32.ofNat 3)), .val (.int (Int32.ofNat 2)), .val (.ref (W 2))] [(.ref (cw 2))])) _
        refine XS.aloadN X15.here hx rfl (hb hby d16_24) rfl rfl ?_
        show Steps p.tables e below (T15.setTop (mkF m 25 #[.val (.ref o0), .val (.ref va1), .val (.int (Int32.ofNat 3)), .val (.int (Int32.ofNat 2)), .val (.ref (W 2))] [(.ref o0), (.ref (cw 2))])) _
        refine st16.trans ?_
        exact kt
      by_cases hc18 : (rr 2) = (0 : Int32)
      · skip
        obtain ⟨fs, hr, hrun, hended, hW, hsame⟩ := X16.leave (v := some .null) (fun h => by rw [Bd.returns] at h; cases h)
        refine ⟨_, _, pre17 _ ?_, hrun, hended, _, _, rfl, ?_, ⟨_, rfl⟩, hW, hsame.mono (by decide) (by decide)⟩
        · skip
          show Steps p.tables e below (T16.setTop (mkF m 28 #[.val (.ref o0), .val (.ref va1), .val (.int (Int32.ofNat 3)), .val (.int (Int32.ofNat 2)), .val (.ref (W 2))] [(.int (rr 2))])) _
          refine XS.ifYes X16.here hx rfl (pc0 := 28) (pc' := 34) rfl (hb hby d16_28) rfl ((if0 _ _).trans (teq hc18).1) (by decide) (by decide) ?_
          show Steps p.tables e below (T16.setTop (mkF m 34 #[.val (.ref o0), .val (.ref va1), .val (.int (Int32.ofNat 3)), .val (.int (Int32.ofNat 2)), .val (.ref (W 2))] [])) _
          refine XS.iinc X16.here hx rfl (hb hby d16_34) rfl (l' := #[.val (.ref o0), .val (.ref va1), .val (.int (Int32.ofNat 3)), .val (.int ((Int32.ofNat 2) + (1 : Int32))), .val (.ref (W 2))]) rfl ?_
          show Steps p.tables e below (T16.setTop (mkF m 37 #[.val (.ref o0), .val (.ref va1), .val (.int (Int32.ofNat 3)), .val (.int ((Int32.ofNat 2) + (1 : Int32))), .val (.ref (W 2))] [])) _
          refine XS.goto X16.here hx rfl (pc0 := 37) (pc' := 9) rfl (hb hby d16_37) (by decide) (by decide) ?_
          show Steps p.tables e below (T16.setTop (mkF m 9 #[.val (.ref o0), .val (.ref va1), .val (.int (Int32.ofNat 3)), .val (.int ((Int32.ofNat 2) + (1 : Int32))), .val (.ref (W 2))] [])) _
          rw [show ((Int32.ofNat 2) + (1 : Int32)) = Int32.ofNat 3 from rfl]
          show Steps p.tables e below (T16.setTop (mkF m 9 #[.val (.ref o0), .val (.ref va1), .val (.int (Int32.ofNat 3)), .val (.int (Int32.ofNat 3)), .val (.ref (W 2))] [])) _
          refine XS.iloadN X16.here hx rfl (hb hby d16_9) rfl ?_
          show Steps p.tables e below (T16.setTop (mkF m 10 #[.val (.ref o0), .val (.ref va1), .val (.int (Int32.ofNat 3)), .val (.int (Int32.ofNat 3)), .val (.ref (W 2))] [(.int (Int32.ofNat 3))])) _
          refine XS.iloadN X16.here hx rfl (hb hby d16_10) rfl ?_
          show Steps p.tables e below (T16.setTop (mkF m 11 #[.val (.ref o0), .val (.ref va1), .val (.int (Int32.ofNat 3)), .val (.int (Int32.ofNat 3)), .val (.ref (W 2))] [(.int (Int32.ofNat 3)), (.int (Int32.ofNat 3))])) _
          refine XS.icmpYes X16.here hx rfl (pc0 := 11) (pc' := 40) rfl (hb hby d16_11) rfl (flt (by decide)).2.1 (by decide) (by decide) ?_
          show Steps p.tables e below (T16.setTop (mkF m 40 #[.val (.ref o0), .val (.ref va1), .val (.int (Int32.ofNat 3)), .val (.int (Int32.ofNat 3)), .val (.ref (W 2))] [])) _
          refine XS.aconstNull X16.here hx rfl (hb hby d16_40) ?_
          show Steps p.tables e below (T16.setTop (mkF m 41 #[.val (.ref o0), .val (.ref va1), .val (.int (Int32.ofNat 3)), .val (.int (Int32.ofNat 3)), .val (.ref (W 2))] [.null])) _
          jvm_step X16.here [X16.here.top, hx, (hb hby d16_41), X16.method', Bd.returns, Value.isRef, FieldType.isReference]
          first | (intro acts; rw [hr _ acts rfl rfl rfl]) | rw [hr _ _ rfl rfl rfl]
          exact Steps.refl _
        · show QKd W rr h0 n0 _ T16.heap _
          rw [e16]
          exact ⟨(by simp [own_res, hc8, hc13, hc18]), N16, Kk1⟩
      · skip
        obtain ⟨fs, hr, hrun, hended, hW, hsame⟩ := X16.leave (v := some (.ref (W 2))) (fun h => by rw [Bd.returns] at h; cases h)
        refine ⟨_, _, pre17 _ ?_, hrun, hended, _, _, rfl, ?_, ⟨_, rfl⟩, hW, hsame.mono (by decide) (by decide)⟩
        · skip
          show Steps p.tables e below (T16.setTop (mkF m 28 #[.val (.ref o0), .val (.ref va1), .val (.int (Int32.ofNat 3)), .val (.int (Int32.ofNat 2)), .val (.ref (W 2))] [(.int (rr 2))])) _
          refine XS.ifNo X16.here hx rfl (hb hby d16_28) rfl ((if0 _ _).trans (feq hc18).1) ?_
          show Steps p.tables e below (T16.setTop (mkF m 31 #[.val (.ref o0), .val (.ref va1), .val (.int (Int32.ofNat 3)), .val (.int (Int32.ofNat 2)), .val (.ref (W 2))] [])) _
          refine XS.aload X16.here hx rfl (hb hby d16_31) rfl rfl ?_
          show Steps p.tables e below (T16.setTop (mkF m 33 #[.val (.ref o0), .val (.ref va1), .val (.int (Int32.ofNat 3)), .val (.int (Int32.ofNat 2)), .val (.ref (W 2))] [(.ref (W 2))])) _
          jvm_step X16.here [X16.here.top, hx, (hb hby d16_33), X16.method', Bd.returns, Value.isRef, FieldType.isReference]
          first | (intro acts; rw [hr _ acts rfl rfl rfl]) | rw [hr _ _ rfl rfl rfl]
          exact Steps.refl _
        · show QKd W rr h0 n0 _ T16.heap _
          rw [e16]
          exact ⟨(by simp [own_res, hc8, hc13, hc18]), N16, Kk1⟩
    · skip
      obtain ⟨fs, hr, hrun, hended, hW, hsame⟩ := X11.leave (v := some (.ref (W 1))) (fun h => by rw [Bd.returns] at h; cases h)
      refine ⟨_, _, pre12 _ ?_, hrun, hended, _, _, rfl, ?_, ⟨_, rfl⟩, hW, hsame.mono (by decide) (by decide)⟩
      · skip
        show Steps p.tables e below (T11.setTop (mkF m 28 #[.val (.ref o0), .val (.ref va1), .val (.int (Int32.ofNat 3)), .val (.int (Int32.ofNat 1)), .val (.ref (W 1))] [(.int (rr 1))])) _
        refine XS.ifNo X11.here hx rfl (hb hby d16_28) rfl ((if0 _ _).trans (feq hc13).1) ?_
        show Steps p.tables e below (T11.setTop (mkF m 31 #[.val (.ref o0), .val (.ref va1), .val (.int (Int32.ofNat 3)), .val (.int (Int32.ofNat 1)), .val (.ref (W 1))] [])) _
        refine XS.aload X11.here hx rfl (hb hby d16_31) rfl rfl ?_
        show Steps p.tables e below (T11.setTop (mkF m 33 #[.val (.ref o0), .val (.ref va1), .val (.int (Int32.ofNat 3)), .val (.int (Int32.ofNat 1)), .val (.ref (W 1))] [(.ref (W 1))])) _
        jvm_step X11.here [X11.here.top, hx, (hb hby d16_33), X11.method', Bd.returns, Value.isRef, FieldType.isReference]
        first | (intro acts; rw [hr _ acts rfl rfl rfl]) | rw [hr _ _ rfl rfl rfl]
        exact Steps.refl _
      · show QKd W rr h0 n0 _ T11.heap _
        rw [e11]
        exact ⟨(by simp [own_res, hc8, hc13]), N11, Kk1⟩
  · skip
    obtain ⟨fs, hr, hrun, hended, hW, hsame⟩ := X6.leave (v := some (.ref (W 0))) (fun h => by rw [Bd.returns] at h; cases h)
    refine ⟨_, _, pre7 _ ?_, hrun, hended, _, _, rfl, ?_, ⟨_, rfl⟩, hW, hsame.mono (by decide) (by decide)⟩
    · skip
      show Steps p.tables e below (T6.setTop (mkF m 28 #[.val (.ref o0), .val (.ref va1), .val (.int (Int32.ofNat 3)), .val (.int (Int32.ofNat 0)), .val (.ref (W 0))] [(.int (rr 0))])) _
      refine XS.ifNo X6.here hx rfl (hb hby d16_28) rfl ((if0 _ _).trans (feq hc8).1) ?_
      show Steps p.tables e below (T6.setTop (mkF m 31 #[.val (.ref o0), .val (.ref va1), .val (.int (Int32.ofNat 3)), .val (.int (Int32.ofNat 0)), .val (.ref (W 0))] [])) _
      refine XS.aload X6.here hx rfl (hb hby d16_31) rfl rfl ?_
      show Steps p.tables e below (T6.setTop (mkF m 33 #[.val (.ref o0), .val (.ref va1), .val (.int (Int32.ofNat 3)), .val (.int (Int32.ofNat 0)), .val (.ref (W 0))] [(.ref (W 0))])) _
      jvm_step X6.here [X6.here.top, hx, (hb hby d16_33), X6.method', Bd.returns, Value.isRef, FieldType.isReference]
      first | (intro acts; rw [hr _ acts rfl rfl rfl]) | rw [hr _ _ rfl rfl rfl]
      exact Steps.refl _
    · show QKd W rr h0 n0 _ T6.heap _
      rw [e6]
      exact ⟨(by simp [own_res, hc8]), N6, Kk1⟩
theorem ef_rByn (m : MethodId)  : entryFrame m #[.null] 5 = mkF m 0 #[.val .null, .unset, .unset, .unset, .unset] [] := by first | (simp [entryFrame, mkF, argsToLocals, Value.category]; done) | rfl
set_option maxRecDepth 65536 in
set_option maxHeartbeats 40000000 in
theorem rByn (l : Launch) (Z : State) (a0 : Array Value) (hw : ∀ d ∈ tables_1, d.before a0 Z = true) (ws : List Jvm.Cond)  (W : Nat → Addr) (kV : ClassId) (aV : Addr) (h0 : Heap) (n0 : Nat) (Z0 : n0 ≤ h0.size) (S_V : Sta Z h0 "heslar/Boundary$Kind" "$VALUES" "[Lheslar/Boundary$Kind;" (.ref aV)) (E_V : Exa Z h0 aV "[Lheslar/Boundary$Kind;") (V_V : GA Z h0 aV kV (.object "heslar/Boundary$Kind") 3 (fun i => .ref (W i))) (cw cv : Nat → Addr) (ck : Nat → ClassId) (cl : Nat → Nat) (cf : Nat → Nat → Int32) (hcl : ∀ i, i < 3 → cl i ≤ 4000) (hF : ∀ i, i < 3 → Fld Z h0 (W i) "heslar/Boundary$Kind" "code" "Ljava/lang/String;" (.ref (cw i))) (hE : ∀ i, i < 3 → Exa Z h0 (W i) "heslar/Boundary$Kind") (hSB : ∀ i, i < 3 → SB Z h0 (cw i) (cv i) (ck i) (cl i) (cf i)) (cs : Int32) (hcs : ¬ cs = (0 : Int32)) (S_C : Sta Z h0 "java/lang/String" "COMPACT_STRINGS" "Z" (.int cs)) :
    MetFree l (⟨"heslar/Boundary$Kind", "byCode", "(Ljava/lang/String;)Lheslar/Boundary$Kind;"⟩ : MethodName) (head1 (Jvm.Cond.code (⟨"heslar/Boundary$Kind", "byCode", "(Ljava/lang/String;)Lheslar/Boundary$Kind;"⟩ : MethodName) prog_2_method_5_code 5 (some (.object "heslar/Boundary$Kind")) :: ws) ({ frames := 2, cells := 1, slots := 3, locals := 40 } : Room)) (fun a U => a = #[.null] ∧ Z.Warmed39 U.vm ∧ U.heap = h0) (fun _ _ _ _ _ => True) (fun _ U o U' => ∃ v L, o = .returned v ∧ QKd W (fun _ => 0) h0 n0 v U'.heap L ∧ FrameEnd U o U' L ({ frames := 2, cells := 1, slots := 3, locals := 40 } : Room).cells ({ frames := 2, cells := 1, slots := 3, locals := 40 } : Room).slots) := by
  refine MetFree.of_bodySF (plainFor_of_name pn_16) hisR ?_
  intro p e s m args below meth c s₁ Bd hml0 hP hK
  obtain ⟨rfl, hZ, hh⟩ := hP
  have hx := Bd.exec
  have hby := Bd.bytes
  have hml : c.maxLocals = 5 := hml0
  have hown : s.vm.findClass "heslar/Boundary$Kind" = some m.cls := findClass_of_methodNamed Bd.named
  have hnm := (name_of_methodNamed Bd.named Bd.method).1
  have X0 : Stand p l e ({ frames := 2, cells := 1, slots := 3, locals := 40 } : Room) s m #[.null] below meth c s₁ [] 0 0 := Stand.of_body Bd
  have e0 : s₁.heap = h0 := by rw [← hh, Bd.state]; rfl
  have N0 := Fr.nil n0
  have pre0 : ∀ t, Steps p.tables e below (s₁.setTop (mkF m 0 #[.val .null, .unset, .unset, .unset, .unset] [])) t → Steps p.tables e below (s₁.setTop (entryFrame m #[.null] 5)) t := fun t k => castTop (ef_rByn m ) k
  obtain ⟨_, _, ⟨T1, L1, k1, n1⟩, -, X1, ⟨Lc1, hQ1, l1, y1, z1⟩, st1⟩ := Jvm.LawKit.callS X0 hx (y := (⟨"heslar/Boundary$Kind", "values", "()[Lheslar/Boundary$Kind;"⟩ : MethodName)) hown (mvT hZ (hw _ (List.mem_of_getElem? (i := 77) rfl))) (mvT hZ (hw _ (List.mem_of_getElem? (i := 78) rfl))) (mvT hZ (hw _ (List.mem_of_getElem? (i := 75) rfl))) (mvT hZ (hw _ (List.mem_of_getElem? (i := 79) rfl))) (by decide) (backOf (W := 0) (rVal l Z a0 hw [] W kV aV h0 n0 Z0 S_V E_V V_V) hZ (hw _ (List.mem_of_getElem? (i := 79) rfl)) (hw _ (List.mem_of_getElem? (i := 75) rfl)) (by decide) (by decide)) (g := (mkF m 0 #[.val .null, .unset, .unset, .unset, .unset] [])) rfl (by rw [hml]; rfl) (argsL := []) (rest := []) (lenOf pd____Lheslar_Boundary_Kind_ rfl) rfl (by show 2 * 0 + _ ≤ _; exact Nat.le_of_eq rfl) (hb hby d16_0) (fun _ _ => ⟨rfl, e0, (by decide : 0 + 1 ≤ _), (by decide : 0 + 3 ≤ _)⟩)
  dsimp only [Pt.U, Pt.locs, Pt.cells, Pt.slots] at X1 l1 y1 z1 st1 hQ1
  rw [l1, y1, z1] at X1
  obtain ⟨va1, kv1, rfl, N1q, Kp1, Gv1⟩ := hQ1
  have N1 := Fr.app N0 N1q
  have Zs1 : n0 ≤ T1.heap.size := Nat.le_trans Z0 Kp1.1
  have Kk1 : Keep h0 T1.heap [] := (Keep.refl h0 []).trans Kp1 all0
  have EX := own_ext Kp1
  have Fk0 := (hF 0 (by decide)).ext EX
  have Sk0 := (hSB 0 (by decide)).ext EX
  have Ek0 := Sk0.1
  have Fk1 := (hF 1 (by decide)).ext EX
  have Sk1 := (hSB 1 (by decide)).ext EX
  have Ek1 := Sk1.1
  have Fk2 := (hF 2 (by decide)).ext EX
  have Sk2 := (hSB 2 (by decide)).ext EX
  have Ek2 := Sk2.1
  have S_C_2 := (own_sta_keep S_C Kp1 all0)
  have SC := S_C_2
  obtain ⟨cl3, Ar3, -, Sa3, -⟩ := id Gv1
  obtain ⟨cl4, Ar4, qa4, Sa4, Ha4⟩ := id Gv1
  have hin4 : ¬ ((Int32.ofNat 0) < 0 ∨ cl4.slots.size ≤ (Int32.ofNat 0).toNatClampNeg) := own_inb Sa4 (show 0 < 3 by decide) (show 3 < 2147483648 by decide)
  have hat4 : cl4.slots[(Int32.ofNat 0).toNatClampNeg]? = some (.ref (W 0)) := by rw [own_cl (Nat.lt_trans (show 0 < 3 by decide) (show 3 < 2147483648 by decide))]; exact Ha4 0 (show 0 < 3 by decide)
  obtain ⟨T5, X5, e5, st5⟩ := getF X1 hx hZ hown (host := "") (Or.inl (hw _ (List.mem_of_getElem? (i := 95) rfl))) Via.refl rfl Fk0 (g := (mkF m 21 #[.val .null, .val (.ref va1), .val (.int (Int32.ofNat 3)), .val (.int (Int32.ofNat 0)), .val (.ref (W 0))] [(.ref (W 0))])) rfl rfl (hb hby d16_21)
  obtain ⟨cq6, kq6, q6a, q6b, q6c⟩ := isOf hZ e5 Ek0
  obtain ⟨_, _, ⟨T6, L6, k6, n6⟩, -, X6, ⟨Lc6, hQ6, l6, y6, z6⟩, st6⟩ := X5.virtualBack hx (y := (⟨"java/lang/String", "equals", "(Ljava/lang/Object;)Z"⟩ : MethodName)) (z := (⟨"java/lang/String", "equals", "(Ljava/lang/Object;)Z"⟩ : MethodName)) hown (mvT hZ (hw _ (List.mem_of_getElem? (i := 97) rfl))) (mvT hZ (hw _ (List.mem_of_getElem? (i := 98) rfl))) (notFace_of_selects (args := #[]) (mvT hZ (hw _ (List.mem_of_getElem? (i := 100) rfl)))) (mvT hZ (hw _ (List.mem_of_getElem? (i := 100) rfl))) (mvT hZ (hw _ (List.mem_of_getElem? (i := 99) rfl))) (by decide) (backOf (W := 0) (rEqn l Z a0 hw [] (cw 0) T1.heap n0 Zs1) hZ (hw _ (List.mem_of_getElem? (i := 101) rfl)) (hw _ (List.mem_of_getElem? (i := 3) rfl)) (by decide) (by decide)) q6a q6c (g := (mkF m 25 #[.val .null, .val (.ref va1), .val (.int (Int32.ofNat 3)), .val (.int (Int32.ofNat 0)), .val (.ref (W 0))] [.null, (.ref (cw 0))])) rfl (by rw [hml]; rfl) (Steps.refl _) (argsL := [.null]) (rest := []) (lenOf pd__Ljava_lang_Object__Z rfl) rfl (by show 2 * 0 + _ ≤ _; exact Nat.le_of_eq rfl) (hb hby d16_25) (fun _ _ => ⟨rfl, e5, (by decide : 1 + 0 ≤ _), (by decide : 3 + 0 ≤ _)⟩)
  dsimp only [Pt.U, Pt.locs, Pt.cells, Pt.slots] at X6 l6 y6 z6 st6 hQ6
  rw [l6, y6, z6] at X6
  obtain ⟨rfl, N6q, e6⟩ := hQ6
  have N6 := Fr.app N1 N6q
  obtain ⟨cl7, Ar7, qa7, Sa7, Ha7⟩ := id Gv1
  have hin7 : ¬ ((Int32.ofNat 1) < 0 ∨ cl7.slots.size ≤ (Int32.ofNat 1).toNatClampNeg) := own_inb Sa7 (show 1 < 3 by decide) (show 3 < 2147483648 by decide)
  have hat7 : cl7.slots[(Int32.ofNat 1).toNatClampNeg]? = some (.ref (W 1)) := by rw [own_cl (Nat.lt_trans (show 1 < 3 by decide) (show 3 < 2147483648 by decide))]; exact Ha7 1 (show 1 < 3 by decide)
  obtain ⟨T8, X8, e8, st8⟩ := getF X6 hx hZ hown (host := "") (Or.inl (hw _ (List.mem_of_getElem? (i := 95) rfl))) Via.refl e6 Fk1 (g := (mkF m 21 #[.val .null, .val (.ref va1), .val (.int (Int32.ofNat 3)), .val (.int (Int32.ofNat 1)), .val (.ref (W 1))] [(.ref (W 1))])) rfl rfl (hb hby d16_21)
  obtain ⟨cq9, kq9, q9a, q9b, q9c⟩ := isOf hZ e8 Ek1
  obtain ⟨_, _, ⟨T9, L9, k9, n9⟩, -, X9, ⟨Lc9, hQ9, l9, y9, z9⟩, st9⟩ := X8.virtualBack hx (y := (⟨"java/lang/String", "equals", "(Ljava/lang/Object;)Z"⟩ : MethodName)) (z := (⟨"java/lang/String", "equals", "(Ljava/lang/Object;)Z"⟩ : MethodName)) hown (mvT hZ (hw _ (List.mem_of_getElem? (i := 97) rfl))) (mvT hZ (hw _ (List.mem_of_getElem? (i := 98) rfl))) (notFace_of_selects (args := #[]) (mvT hZ (hw _ (List.mem_of_getElem? (i := 100) rfl)))) (mvT hZ (hw _ (List.mem_of_getElem? (i := 100) rfl))) (mvT hZ (hw _ (List.mem_of_getElem? (i := 99) rfl))) (by decide) (backOf (W := 0) (rEqn l Z a0 hw [] (cw 1) T1.heap n0 Zs1) hZ (hw _ (List.mem_of_getElem? (i := 101) rfl)) (hw _ (List.mem_of_getElem? (i := 3) rfl)) (by decide) (by decide)) q9a q9c (g := (mkF m 25 #[.val .null, .val (.ref va1), .val (.int (Int32.ofNat 3)), .val (.int (Int32.ofNat 1)), .val (.ref (W 1))] [.null, (.ref (cw 1))])) rfl (by rw [hml]; rfl) (Steps.refl _) (argsL := [.null]) (rest := []) (lenOf pd__Ljava_lang_Object__Z rfl) rfl (by show 2 * 0 + _ ≤ _; exact Nat.le_of_eq rfl) (hb hby d16_25) (fun _ _ => ⟨rfl, e8, (by decide : 1 + 0 ≤ _), (by decide : 3 + 0 ≤ _)⟩)
  dsimp only [Pt.U, Pt.locs, Pt.cells, Pt.slots] at X9 l9 y9 z9 st9 hQ9
  rw [l9, y9, z9] at X9
  obtain ⟨rfl, N9q, e9⟩ := hQ9
  have N9 := Fr.app N6 N9q
  obtain ⟨cl10, Ar10, qa10, Sa10, Ha10⟩ := id Gv1
  have hin10 : ¬ ((Int32.ofNat 2) < 0 ∨ cl10.slots.size ≤ (Int32.ofNat 2).toNatClampNeg) := own_inb Sa10 (show 2 < 3 by decide) (show 3 < 2147483648 by decide)
  have hat10 : cl10.slots[(Int32.ofNat 2).toNatClampNeg]? = some (.ref (W 2)) := by rw [own_cl (Nat.lt_trans (show 2 < 3 by decide) (show 3 < 2147483648 by decide))]; exact Ha10 2 (show 2 < 3 by decide)
  obtain ⟨T11, X11, e11, st11⟩ := getF X9 hx hZ hown (host := "") (Or.inl (hw _ (List.mem_of_getElem? (i := 95) rfl))) Via.refl e9 Fk2 (g := (mkF m 21 #[.val .null, .val (.ref va1), .val (.int (Int32.ofNat 3)), .val (.int (Int32.ofNat 2)), .val (.ref (W 2))] [(.ref (W 2))])) rfl rfl (hb hby d16_21)
  obtain ⟨cq12, kq12, q12a, q12b, q12c⟩ := isOf hZ e11 Ek2
  obtain ⟨_, _, ⟨T12, L12, k12, n12⟩, -, X12, ⟨Lc12, hQ12, l12, y12, z12⟩, st12⟩ := X11.virtualBack hx (y := (⟨"java/lang/String", "equals", "(Ljava/lang/Object;)Z"⟩ : MethodName)) (z := (⟨"java/lang/String", "equals", "(Ljava/lang/Object;)Z"⟩ : MethodName)) hown (mvT hZ (hw _ (List.mem_of_getElem? (i := 97) rfl))) (mvT hZ (hw _ (List.mem_of_getElem? (i := 98) rfl))) (notFace_of_selects (args := #[]) (mvT hZ (hw _ (List.mem_of_getElem? (i := 100) rfl)))) (mvT hZ (hw _ (List.mem_of_getElem? (i := 100) rfl))) (mvT hZ (hw _ (List.mem_of_getElem? (i := 99) rfl))) (by decide) (backOf (W := 0) (rEqn l Z a0 hw [] (cw 2) T1.heap n0 Zs1) hZ (hw _ (List.mem_of_getElem? (i := 101) rfl)) (hw _ (List.mem_of_getElem? (i := 3) rfl)) (by decide) (by decide)) q12a q12c (g := (mkF m 25 #[.val .null, .val (.ref va1), .val (.int (Int32.ofNat 3)), .val (.int (Int32.ofNat 2)), .val (.ref (W 2))] [.null, (.ref (cw 2))])) rfl (by rw [hml]; rfl) (Steps.refl _) (argsL := [.null]) (rest := []) (lenOf pd__Ljava_lang_Object__Z rfl) rfl (by show 2 * 0 + _ ≤ _; exact Nat.le_of_eq rfl) (hb hby d16_25) (fun _ _ => ⟨rfl, e11, (by decide : 1 + 0 ≤ _), (by decide : 3 + 0 ≤ _)⟩)
  dsimp only [Pt.U, Pt.locs, Pt.cells, Pt.slots] at X12 l12 y12 z12 st12 hQ12
  rw [l12, y12, z12] at X12
  obtain ⟨rfl, N12q, e12⟩ := hQ12
  have N12 := Fr.app N9 N12q
  obtain ⟨fs, hr, hrun, hended, hW, hsame⟩ := X12.leave (v := some .null) (fun h => by rw [Bd.returns] at h; cases h)
  refine ⟨_, _, pre0 _ ?_, hrun, hended, _, _, rfl, ?_, ⟨_, rfl⟩, hW, hsame.mono (by decide) (by decide)⟩
  · skip
    show Steps p.tables e below (s₁.setTop (mkF m 0 #[.val .null, .unset, .unset, .unset, .unset] [])) _
    refine st1 _ ?_
    show Steps p.tables e below (T1.setTop (mkF m 3 #[.val .null, .unset, .unset, .unset, .unset] [(.ref va1)])) _
    refine XS.astoreN X1.here hx rfl (hb hby d16_3) rfl rfl (l' := #[.val .null, .val (.ref va1), .unset, .unset, .unset]) rfl ?_
    show Steps p.tables e below (T1.setTop (mkF m 4 #[.val .null, .val (.ref va1), .unset, .unset, .unset] [])) _
    refine XS.aloadN X1.here hx rfl (hb hby d16_4) rfl rfl ?_
    show Steps p.tables e below (T1.setTop (mkF m 5 #[.val .null, .val (.ref va1), .unset, .unset, .unset] [(.ref va1)])) _
    refine X1.arraylength hx Ar3.1 (State.isArrayOf_alike hZ.alike Ar3.2.1) (g := (mkF m 5 #[.val .null, .val (.ref va1), .unset, .unset, .unset] [(.ref va1)])) rfl rfl (hb hby d16_5) _ ?_
    rw [own_len Sa3]
    show Steps p.tables e below (T1.setTop (mkF m 6 #[.val .null, .val (.ref va1), .unset, .unset, .unset] [(.int (Int32.ofNat 3))])) _
    refine XS.istoreN X1.here hx rfl (hb hby d16_6) rfl (l' := #[.val .null, .val (.ref va1), .val (.int (Int32.ofNat 3)), .unset, .unset]) rfl ?_
    show Steps p.tables e below (T1.setTop (mkF m 7 #[.val .null, .val (.ref va1), .val (.int (Int32.ofNat 3)), .unset, .unset] [])) _
    refine XS.iconst X1.here hx rfl (hb hby d16_7) ?_
    show Steps p.tables e below (T1.setTop (mkF m 8 #[.val .null, .val (.ref va1), .val (.int (Int32.ofNat 3)), .unset, .unset] [(.int (0 : Int32))])) _
    refine XS.istoreN X1.here hx rfl (hb hby d16_8) rfl (l' := #[.val .null, .val (.ref va1), .val (.int (Int32.ofNat 3)), .val (.int (0 : Int32)), .unset]) rfl ?_
    show Steps p.tables e below (T1.setTop (mkF m 9 #[.val .null, .val (.ref va1), .val (.int (Int32.ofNat 3)), .val (.int (0 : Int32)), .unset] [])) _
    show Steps p.tables e below (T1.setTop (mkF m 9 #[.val .null, .val (.ref va1), .val (.int (Int32.ofNat 3)), .val (.int (Int32.ofNat 0)), .unset] [])) _
    refine XS.iloadN X1.here hx rfl (hb hby d16_9) rfl ?_
    show Steps p.tables e below (T1.setTop (mkF m 10 #[.val .null, .val (.ref va1), .val (.int (Int32.ofNat 3)), .val (.int (Int32.ofNat 0)), .unset] [(.int (Int32.ofNat 0))])) _
    refine XS.iloadN X1.here hx rfl (hb hby d16_10) rfl ?_
    show Steps p.tables e below (T1.setTop (mkF m 11 #[.val .null, .val (.ref va1), .val (.int (Int32.ofNat 3)), .val (.int (Int32.ofNat 0)), .unset] [(.int (Int32.ofNat 3)), (.int (Int32.ofNat 0))])) _
    refine XS.icmpNo X1.here hx rfl (hb hby d16_11) rfl (tlt (by decide)).2.1 ?_
    show Steps p.tables e below (T1.setTop (mkF m 14 #[.val .null, .val (.ref va1), .val (.int (Int32.ofNat 3)), .val (.int (Int32.ofNat 0)), .unset] [])) _
    refine XS.aloadN X1.here hx rfl (hb hby d16_14) rfl rfl ?_
    show Steps p.tables e below (T1.setTop (mkF m 15 #[.val .null, .val (.ref va1), .val (.int (Int32.ofNat 3)), .val (.int (Int32.ofNat 0)), .unset] [(.ref va1)])) _
    refine XS.iloadN X1.here hx rfl (hb hby d16_15) rfl ?_
    show Steps p.tables e below (T1.setTop (mkF m 16 #[.val .null, .val (.ref va1), .val (.int (Int32.ofNat 3)), .val (.int (Int32.ofNat 0)), .unset] [(.int (Int32.ofNat 0)), (.ref va1)])) _
    refine X1.aaload hx (j := (Int32.ofNat 0)) (v := (.ref (W 0))) Ar4.1 (State.isArrayOf_alike hZ.alike Ar4.2.1) rfl Ar4.2.2 hin4 hat4 (g := (mkF m 16 #[.val .null, .val (.ref va1), .val (.int (Int32.ofNat 3)), .val (.int (Int32.ofNat 0)), .unset] [(.int (Int32.ofNat 0)), (.ref va1)])) rfl rfl (hb hby d16_16) _ ?_
    show Steps p.tables e below (T1.setTop (mkF m 17 #[.val .null, .val (.ref va1), .val (.int (Int32.ofNat 3)), .val (.int (Int32.ofNat 0)), .unset] [(.ref (W 0))])) _
    refine XS.astore X1.here hx rfl (hb hby d16_17) rfl rfl (l' := #[.val .null, .val (.ref va1), .val (.int (Int32.ofNat 3)), .val (.int (Int32.ofNat 0)), .val (.ref (W 0))]) rfl ?_
    show Steps p.tables e below (T1.setTop (mkF m 19 #[.val .null, .val (.ref va1), .val (.int (Int32.ofNat 3)), .val (.int (Int32.ofNat 0)), .val (.ref (W 0))] [])) _
    refine XS.aload X1.here hx rfl (hb hby d16_19) rfl rfl ?_
    show Steps p.tables e below (T1.setTop (mkF m 21 #[.val .null, .val (.ref va1), .val (.int (Int32.ofNat 3)), .val (.int (Int32.ofNat 0)), .val (.ref (W 0))] [(.ref (W 0))])) _
    refine st5 _ ?_
    show Steps p.tables e below (T5.setTop (mkF m 24 #[.val .null, .val (.ref va1), .val (.int (Int32.ofNat 3)), .val (.int (Int32.ofNat 0)), .val (.ref (W 0))] [(.ref (cw 0))])) _
    refine XS.aloadN X5.here hx rfl (hb hby d16_24) rfl rfl ?_
    show Steps p.tables e below (T5.setTop (mkF m 25 #[.val .null, .val (.ref va1), .val (.int (Int32.ofNat 3)), .val (.int (Int32.ofNat 0)), .val (.ref (W 0))] [.null, (.ref (cw 0))])) _
    refine st6.trans ?_
    show Steps p.tables e below (T6.setTop (mkF m 28 #[.val .null, .val (.ref va1), .val (.int (Int32.ofNat 3)), .val (.int (Int32.ofNat 0)), .val (.ref (W 0))] [(.int (0 : Int32))])) _
    refine XS.ifYes X6.here hx rfl (pc0 := 28) (pc' := 34) rfl (hb hby d16_28) rfl ((if0 _ _).trans (teq (by decide : (0 : Int32) = (0 : Int32))).1) (by decide) (by decide) ?_
    show Steps p.tables e below (T6.setTop (mkF m 34 #[.val .null, .val (.ref va1), .val (.int (Int32.ofNat 3)), .val (.int (Int32.ofNat 0)), .val (.ref (W 0))] [])) _
    refine XS.iinc X6.here hx rfl (hb hby d16_34) rfl (l' := #[.val .null, .val (.ref va1), .val (.int (Int32.ofNat 3)), .val (.int ((Int32.ofNat 0) + (1 : Int32))), .val (.ref (W 0))]) rfl ?_
    show Steps p.tables e below (T6.setTop (mkF m 37 #[.val .null, .val (.ref va1), .val (.int (Int32.ofNat 3)), .val (.int ((Int32.ofNat 0) + (1 : Int32))), .val (.ref (W 0))] [])) _
    refine XS.goto X6.here hx rfl (pc0 := 37) (pc' := 9) rfl (hb hby d16_37) (by decide) (by decide) ?_
    show Steps p.tables e below (T6.setTop (mkF m 9 #[.val .null, .val (.ref va1), .val (.int (Int32.ofNat 3)), .val (.int ((Int32.ofNat 0) + (1 : Int32))), .val (.ref (W 0))] [])) _
    rw [show ((Int32.ofNat 0) + (1 : Int32)) = Int32.ofNat 1 from rfl]
    show Steps p.tables e below (T6.setTop (mkF m 9 #[.val .null, .val (.ref va1), .val (.int (Int32.ofNat 3)), .val (.int (Int32.ofNat 1)), .val (.ref (W 0))] [])) _
    refine XS.iloadN X6.here hx rfl (hb hby d16_9) rfl ?_
    show Steps p.tables e below (T6.setTop (mkF m 10 #[.val .null, .val (.ref va1), .val (.int (Int32.ofNat 3)), .val (.int (Int32.ofNat 1)), .val (.ref (W 0))] [(.int (Int32.ofNat 1))])) _
    refine XS.iloadN X6.here hx rfl (hb hby d16_10) rfl ?_
    show Steps p.tables e below (T6.setTop (mkF m 11 #[.val .null, .val (.ref va1), .val (.int (Int32.ofNat 3)), .val (.int (Int32.ofNat 1)), .val (.ref (W 0))] [(.int (Int32.ofNat 3)), (.int (Int32.ofNat 1))])) _
    refine XS.icmpNo X6.here hx rfl (hb hby d16_11) rfl (tlt (by decide)).2.1 ?_
    show Steps p.tables e below (T6.setTop (mkF m 14 #[.val .null, .val (.ref va1), .val (.int (Int32.ofNat 3)), .val (.int (Int32.ofNat 1)), .val (.ref (W 0))] [])) _
    refine XS.aloadN X6.here hx rfl (hb hby d16_14) rfl rfl ?_
    show Steps p.tables e below (T6.setTop (mkF m 15 #[.val .null, .val (.ref va1), .val (.int (Int32.ofNat 3)), .val (.int (Int32.ofNat 1)), .val (.ref (W 0))] [(.ref va1)])) _
    refine XS.iloadN X6.here hx rfl (hb hby d16_15) rfl ?_
    show Steps p.tables e below (T6.setTop (mkF m 16 #[.val .null, .val (.ref va1), .val (.int (Int32.ofNat 3)), .val (.int (Int32.ofNat 1)), .val (.ref (W 0))] [(.int (Int32.ofNat 1)), (.ref va1)])) _
    refine X6.aaload hx (j := (Int32.ofNat 1)) (v := (.ref (W 1))) (by rw [e6]; exact Ar7.1) (State.isArrayOf_alike hZ.alike Ar7.2.1) rfl Ar7.2.2 hin7 hat7 (g := (mkF m 16 #[.val .null, .val (.ref va1), .val (.int (Int32.ofNat 3)), .val (.int (Int32.ofNat 1)), .val (.ref (W 0))] [(.int (Int32.ofNat 1)), (.ref va1)])) rfl rfl (hb hby d16_16) _ ?_
    show Steps p.tables e below (T6.setTop (mkF m 17 #[.val .null, .val (.ref va1), .val (.int (Int32.ofNat 3)), .val (.int (Int32.ofNat 1)), .val (.ref (W 0))] [(.ref (W 1))])) _
    refine XS.astore X6.here hx rfl (hb hby d16_17) rfl rfl (l' := #[.val .null, .val (.ref va1), .val (.int (Int32.ofNat 3)), .val (.int (Int32.ofNat 1)), .val (.ref (W 1))]) rfl ?_
    show Steps p.tables e below (T6.setTop (mkF m 19 #[.val .null, .val (.ref va1), .val (.int (Int32.ofNat 3)), .val (.int (Int32.ofNat 1)), .val (.ref (W 1))] [])) _
    refine XS.aload X6.here hx rfl (hb hby d16_19) rfl rfl ?_
    show Steps p.tables e below (T6.setTop (mkF m 21 #[.val .null, .val (.ref va1), .val (.int (Int32.ofNat 3)), .val (.int (Int32.ofNat 1)), .val (.ref (W 1))] [(.ref (W 1))])) _
    refine st8 _ ?_
    show Steps p.tables e below (T8.setTop (mkF m 24 #[.val .null, .val (.ref va1), .val (.int (Int32.ofNat 3)), .val (.int (Int32.ofNat 1)), .val (.ref (W 1))] [(.ref (cw 1))])) _
    refine XS.aloadN X8.here hx rfl (hb hby d16_24) rfl rfl ?_
    show Steps p.tables e below (T8.setTop (mkF m 25 #[.val .null, .val (.ref va1), .val (.int (Int32.ofNat 3)), .val (.int (Int32.ofNat 1)), .val (.ref (W 1))] [.null, (.ref (cw 1))])) _
    refine st9.trans ?_
    show Steps p.tables e below (T9.setTop (mkF m 28 #[.val .null, .val (.ref va1), .val (.int (Int32.ofNat 3)), .val (.int (Int32.ofNat 1)), .val (.ref (W 1))] [(.int (0 : Int32))])) _
    refine XS.ifYes X9.here hx rfl (pc0 := 28) (pc' := 34) rfl (hb hby d16_28) rfl ((if0 _ _).trans (teq (by decide : (0 : Int32) = (0 : Int32))).1) (by decide) (by decide) ?_
    show Steps p.tables e below (T9.setTop (mkF m 34 #[.val .null, .val (.ref va1), .val (.int (Int32.ofNat 3)), .val (.int (Int32.ofNat 1)), .val (.ref (W 1))] [])) _
    refine XS.iinc X9.here hx rfl (hb hby d16_34) rfl (l' := #[.val .null, .val (.ref va1), .val (.int (Int32.ofNat 3)), .val (.int ((Int32.ofNat 1) + (1 : Int32))), .val (.ref (W 1))]) rfl ?_
    show Steps p.tables e below (T9.setTop (mkF m 37 #[.val .null, .val (.ref va1), .val (.int (Int32.ofNat 3)), .val (.int ((Int32.ofNat 1) + (1 : Int32))), .val (.ref (W 1))] [])) _
    refine XS.goto X9.here hx rfl (pc0 := 37) (pc' := 9) rfl (hb hby d16_37) (by decide) (by decide) ?_
    show Steps p.tables e below (T9.setTop (mkF m 9 #[.val .null, .val (.ref va1), .val (.int (Int32.ofNat 3)), .val (.int ((Int32.ofNat 1) + (1 : Int32))), .val (.ref (W 1))] [])) _
    rw [show ((Int32.ofNat 1) + (1 : Int32)) = Int32.ofNat 2 from rfl]
    show Steps p.tables e below (T9.setTop (mkF m 9 #[.val .null, .val (.ref va1), .val (.int (Int32.ofNat 3)), .val (.int (Int32.ofNat 2)), .val (.ref (W 1))] [])) _
    refine XS.iloadN X9.here hx rfl (hb hby d16_9) rfl ?_
    show Steps p.tables e below (T9.setTop (mkF m 10 #[.val .null, .val (.ref va1), .val (.int (Int32.ofNat 3)), .val (.int (Int32.ofNat 2)), .val (.ref (W 1))] [(.int (Int32.ofNat 2))])) _
    refine XS.iloadN X9.here hx rfl (hb hby d16_10) rfl ?_
    show Steps p.tables e below (T9.setTop (mkF m 11 #[.val .null, .val (.ref va1), .val (.int (Int32.ofNat 3)), .val (.int (Int32.ofNat 2)), .val (.ref (W 1))] [(.int (Int32.ofNat 3)), (.int (Int32.ofNat 2))])) _
    refine XS.icmpNo X9.here hx rfl (hb hby d16_11) rfl (tlt (by decide)).2.1 ?_
    show Steps p.tables e below (T9.setTop (mkF m 14 #[.val .null, .val (.ref va1), .val (.int (Int32.ofNat 3)), .val (.int (Int32.ofNat 2)), .val (.ref (W 1))] [])) _
    refine XS.aloadN X9.here hx rfl (hb hby d16_14) rfl rfl ?_
    show Steps p.tables e below (T9.setTop (mkF m 15 #[.val .null, .val (.ref va1), .val (.int (Int32.ofNat 3)), .val (.int (Int32.ofNat 2)), .val (.ref (W 1))] [(.ref va1)])) _
    refine XS.iloadN X9.here hx rfl (hb hby d16_15) rfl ?_
    show Steps p.tables e below (T9.setTop (mkF m 16 #[.val .null, .val (.ref va1), .val (.int (Int32.ofNat 3)), .val (.int (Int32.ofNat 2)), .val (.ref (W 1))] [(.int (Int32.ofNat 2)), (.ref va1)])) _
    refine X9.aaload hx (j := (Int32.ofNat 2)) (v := (.ref (W 2))) (by rw [e9]; exact Ar10.1) (State.isArrayOf_alike hZ.alike Ar10.2.1) rfl Ar10.2.2 hin10 hat10 (g := (mkF m 16 #[.val .null, .val (.ref va1), .val (.int (Int32.ofNat 3)), .val (.int (Int32.ofNat 2)), .val (.ref (W 1))] [(.int (Int32.ofNat 2)), (.ref va1)])) rfl rfl (hb hby d16_16) _ ?_
    show Steps p.tables e below (T9.setTop (mkF m 17 #[.val .null, .val (.ref va1), .val (.int (Int32.ofNat 3)), .val (.int (Int32.ofNat 2)), .val (.ref (W 1))] [(.ref (W 2))])) _
    refine XS.astore X9.here hx rfl (hb hby d16_17) rfl rfl (l' := #[.val .null, .val (.ref va1), .val (.int (Int32.ofNat 3)), .val (.int (Int32.ofNat 2)), .val (.ref (W 2))]) rfl ?_
    show Steps p.tables e below (T9.setTop (mkF m 19 #[.val .null, .val (.ref va1), .val (.int (Int32.ofNat 3)), .val (.int (Int32.ofNat 2)), .val (.ref (W 2))] [])) _
    refine XS.aload X9.here hx rfl (hb hby d16_19) rfl rfl ?_
    show Steps p.tables e below (T9.setTop (mkF m 21 #[.val .null, .val (.ref va1), .val (.int (Int32.ofNat 3)), .val (.int (Int32.ofNat 2)), .val (.ref (W 2))] [(.ref (W 2))])) _
    refine st11 _ ?_
    show Steps p.tables e below (T11.setTop (mkF m 24 #[.val .null, .val (.ref va1), .val (.int (Int32.ofNat 3)), .val (.int (Int32.ofNat 2)), .val (.ref (W 2))] [(.ref (cw 2))])) _
    refine XS.aloadN X11.here hx rfl (hb hby d16_24) rfl rfl ?_
    show Steps p.tables e below (T11.setTop (mkF m 25 #[.val .null, .val (.ref va1), .val (.int (Int32.ofNat 3)), .val (.int (Int32.ofNat 2)), .val (.ref (W 2))] [.null, (.ref (cw 2))])) _
    refine st12.trans ?_
    show Steps p.tables e below (T12.setTop (mkF m 28 #[.val .null, .val (.ref va1), .val (.int (Int32.ofNat 3)), .val (.int (Int32.ofNat 2)), .val (.ref (W 2))] [(.int (0 : Int32))])) _
    refine XS.ifYes X12.here hx rfl (pc0 := 28) (pc' := 34) rfl (hb hby d16_28) rfl ((if0 _ _).trans (teq (by decide : (0 : Int32) = (0 : Int32))).1) (by decide) (by decide) ?_
    show Steps p.tables e below (T12.setTop (mkF m 34 #[.val .null, .val (.ref va1), .val (.int (Int32.ofNat 3)), .val (.int (Int32.ofNat 2)), .val (.ref (W 2))] [])) _
    refine XS.iinc X12.here hx rfl (hb hby d16_34) rfl (l' := #[.val .null, .val (.ref va1), .val (.int (Int32.ofNat 3)), .val (.int ((Int32.ofNat 2) + (1 : Int32))), .val (.ref (W 2))]) rfl ?_
    show Steps p.tables e below (T12.setTop (mkF m 37 #[.val .null, .val (.ref va1), .val (.int (Int32.ofNat 3)), .val (.int ((Int32.ofNat 2) + (1 : Int32))), .val (.ref (W 2))] [])) _
    refine XS.goto X12.here hx rfl (pc0 := 37) (pc' := 9) rfl (hb hby d16_37) (by decide) (by decide) ?_
    show Steps p.tables e below (T12.setTop (mkF m 9 #[.val .null, .val (.ref va1), .val (.int (Int32.ofNat 3)), .val (.int ((Int32.ofNat 2) + (1 : Int32))), .val (.ref (W 2))] [])) _
    rw [show ((Int32.ofNat 2) + (1 : Int32)) = Int32.ofNat 3 from rfl]
    show Steps p.tables e below (T12.setTop (mkF m 9 #[.val .null, .val (.ref va1), .val (.int (Int32.ofNat 3)), .val (.int (Int32.ofNat 3)), .val (.ref (W 2))] [])) _
    refine XS.iloadN X12.here hx rfl (hb hby d16_9) rfl ?_
    show Steps p.tables e below (T12.setTop (mkF m 10 #[.val .null, .val (.ref va1), .val (.int (Int32.ofNat 3)), .val (.int (Int32.ofNat 3)), .val (.ref (W 2))] [(.int (Int32.ofNat 3))])) _
    refine XS.iloadN X12.here hx rfl (hb hby d16_10) rfl ?_
    show Steps p.tables e below (T12.setTop (mkF m 11 #[.val .null, .val (.ref va1), .val (.int (Int32.ofNat 3)), .val (.int (Int32.ofNat 3)), .val (.ref (W 2))] [(.int (Int32.ofNat 3)), (.int (Int32.ofNat 3))])) _
    refine XS.icmpYes X12.here hx rfl (pc0 := 11) (pc' := 40) rfl (hb hby d16_11) rfl (flt (by decide)).2.1 (by decide) (by decide) ?_
    show Steps p.tables e below (T12.setTop (mkF m 40 #[.val .null, .val (.ref va1), .val (.int (Int32.ofNat 3)), .val (.int (Int32.ofNat 3)), .val (.ref (W 2))] [])) _
    refine XS.aconstNull X12.here hx rfl (hb hby d16_40) ?_
    show Steps p.tables e below (T12.setTop (mkF m 41 #[.val .null, .val (.ref va1), .val (.int (Int32.ofNat 3)), .val (.int (Int32.ofNat 3)), .val (.ref (W 2))] [.null])) _
    jvm_step X12.here [X12.here.top, hx, (hb hby d16_41), X12.method', Bd.returns, Value.isRef, FieldType.isReference]
    first | (intro acts; rw [hr _ acts rfl rfl rfl]) | rw [hr _ _ rfl rfl rfl]
    exact Steps.refl _
  · show QKd W (fun _ => 0) h0 n0 _ T12.heap _
    rw [e12]
    exact ⟨(by simp [own_res, ]), N12, Kk1⟩
def Rg (g : Nat → Int32) : Prop := ∀ j, 0 ≤ (g j).toInt ∧ (g j).toInt < 256
theorem own_gset {Z : State} {h h' : Heap} {a : Addr} {c : Cell} {k : ClassId} {N : Nat} {j x : Int32} {g : Nat → Int32} (A : Arr Z h a c .char) (q1 : c.cls = k) (S : c.slots.size = N) (H : ∀ i, i < N → c.slots[i]? = some ((fun i => Value.int (g i)) i)) (W : Wr h h' a j.toNatClampNeg (.int (nar .char x))) (hg : Rg g) (hx : 0 ≤ x.toInt ∧ x.toInt < 256) : ∃ g', GA Z h' a k .char N (fun i => .int (g' i)) ∧ Rg g' := by
  refine ⟨fun i => if i = j.toNatClampNeg then x else g i, ?_, fun i => ?_⟩
  · rw [own_narc hx.1 hx.2] at W
    refine (GA.set A q1 S H W).eqv fun i _ => ?_
    show (if i = j.toNatClampNeg then Value.int x else Value.int (g i)) = Value.int (if i = j.toNatClampNeg then x else g i)
    by_cases z : i = j.toNatClampNeg
    · rw [if_pos z, if_pos z]
    · rw [if_neg z, if_neg z]
  · show 0 ≤ (if i = j.toNatClampNeg then x else g i).toInt ∧ (if i = j.toNatClampNeg then x else g i).toInt < 256
    by_cases z : i = j.toNatClampNeg
    · rw [if_pos z]; exact hx
    · rw [if_neg z]; exact hg i
theorem own_rg0 : Rg (fun _ => (0 : Int32)) := fun _ => ⟨show (0 : Int) ≤ (0 : Int32).toInt by decide, show (0 : Int32).toInt < 256 by decide⟩
def QTa (Z : State) (n : Nat) (h0 : Heap) (n0 : Nat) (v : Option Value) (h : Heap) (L : List Loc) : Prop := ∃ (a : Addr) (k : ClassId) (g : Nat → Int32), v = some (.ref a) ∧ Fr n0 L ∧ Keep h0 h [] ∧ h0.size ≤ a ∧ GA Z h a k .char n (fun i => .int (g i)) ∧ Rg g
theorem d9_0 : decode method_5_code 0 = .ok (.iload_n 1, 1) := by decide +kernel
theorem d9_1 : decode method_5_code 1 = .ok (.ifCond .ne 7, 3) := by decide +kernel
theorem d9_4 : decode method_5_code 4 = .ok (.iconst 0, 1) := by decide +kernel
theorem d9_5 : decode method_5_code 5 = .ok (.newarray .char, 2) := by decide +kernel
theorem d9_7 : decode method_5_code 7 = .ok (.areturn, 1) := by decide +kernel
theorem d9_8 : decode method_5_code 8 = .ok (.iload_n 1, 1) := by decide +kernel
theorem d9_9 : decode method_5_code 9 = .ok (.iconst 1, 1) := by decide +kernel
theorem d9_10 : decode method_5_code 10 = .ok (.if_icmp .ne 13, 3) := by decide +kernel
theorem d9_13 : decode method_5_code 13 = .ok (.iconst 1, 1) := by decide +kernel
theorem d9_14 : decode method_5_code 14 = .ok (.newarray .char, 2) := by decide +kernel
theorem d9_16 : decode method_5_code 16 = .ok (.dup, 1) := by decide +kernel
theorem d9_17 : decode method_5_code 17 = .ok (.iconst 0, 1) := by decide +kernel
theorem d9_18 : decode method_5_code 18 = .ok (.aload_n 0, 1) := by decide +kernel
theorem d9_19 : decode method_5_code 19 = .ok (.iconst 0, 1) := by decide +kernel
theorem d9_20 : decode method_5_code 20 = .ok (.caload, 1) := by decide +kernel
theorem d9_21 : decode method_5_code 21 = .ok (.castore, 1) := by decide +kernel
theorem d9_22 : decode method_5_code 22 = .ok (.areturn, 1) := by decide +kernel
theorem d9_23 : decode method_5_code 23 = .ok (.iload_n 1, 1) := by decide +kernel
theorem d9_24 : decode method_5_code 24 = .ok (.iconst 2, 1) := by decide +kernel
theorem d9_25 : decode method_5_code 25 = .ok (.if_icmp .ne 19, 3) := by decide +kernel
theorem d9_28 : decode method_5_code 28 = .ok (.iconst 2, 1) := by decide +kernel
theorem d9_29 : decode method_5_code 29 = .ok (.newarray .char, 2) := by decide +kernel
theorem d9_31 : decode method_5_code 31 = .ok (.dup, 1) := by decide +kernel
theorem d9_32 : decode method_5_code 32 = .ok (.iconst 0, 1) := by decide +kernel
theorem d9_33 : decode method_5_code 33 = .ok (.aload_n 0, 1) := by decide +kernel
theorem d9_34 : decode method_5_code 34 = .ok (.iconst 0, 1) := by decide +kernel
theorem d9_35 : decode method_5_code 35 = .ok (.caload, 1) := by decide +kernel
theorem d9_36 : decode method_5_code 36 = .ok (.castore, 1) := by decide +kernel
theorem d9_37 : decode method_5_code 37 = .ok (.dup, 1) := by decide +kernel
theorem d9_38 : decode method_5_code 38 = .ok (.iconst 1, 1) := by decide +kernel
theorem d9_39 : decode method_5_code 39 = .ok (.aload_n 0, 1) := by decide +kernel
theorem d9_40 : decode method_5_code 40 = .ok (.iconst 1, 1) := by decide +kernel
theorem d9_41 : decode method_5_code 41 = .ok (.caload, 1) := by decide +kernel
theorem d9_42 : decode method_5_code 42 = .ok (.castore, 1) := by decide +kernel
theorem d9_43 : decode method_5_code 43 = .ok (.areturn, 1) := by decide +kernel
theorem d9_44 : decode method_5_code 44 = .ok (.iload_n 1, 1) := by decide +kernel
theorem d9_45 : decode method_5_code 45 = .ok (.iconst 3, 1) := by decide +kernel
theorem d9_46 : decode method_5_code 46 = .ok (.if_icmp .ne 25, 3) := by decide +kernel
theorem d9_49 : decode method_5_code 49 = .ok (.iconst 3, 1) := by decide +kernel
theorem d9_50 : decode method_5_code 50 = .ok (.newarray .char, 2) := by decide +kernel
theorem d9_52 : decode method_5_code 52 = .ok (.dup, 1) := by decide +kernel
theorem d9_53 : decode method_5_code 53 = .ok (.iconst 0, 1) := by decide +kernel
theorem d9_54 : decode method_5_code 54 = .ok (.aload_n 0, 1) := by decide +kernel
theorem d9_55 : decode method_5_code 55 = .ok (.iconst 0, 1) := by decide +kernel
theorem d9_56 : decode method_5_code 56 = .ok (.caload, 1) := by decide +kernel
theorem d9_57 : decode method_5_code 57 = .ok (.castore, 1) := by decide +kernel
theorem d9_58 : decode method_5_code 58 = .ok (.dup, 1) := by decide +kernel
theorem d9_59 : decode method_5_code 59 = .ok (.iconst 1, 1) := by decide +kernel
theorem d9_60 : decode method_5_code 60 = .ok (.aload_n 0, 1) := by decide +kernel
theorem d9_61 : decode method_5_code 61 = .ok (.iconst 1, 1) := by decide +kernel
theorem d9_62 : decode method_5_code 62 = .ok (.caload, 1) := by decide +kernel
theorem d9_63 : decode method_5_code 63 = .ok (.castore, 1) := by decide +kernel
theorem d9_64 : decode method_5_code 64 = .ok (.dup, 1) := by decide +kernel
theorem d9_65 : decode method_5_code 65 = .ok (.iconst 2, 1) := by decide +kernel
theorem d9_66 : decode method_5_code 66 = .ok (.aload_n 0, 1) := by decide +kernel
theorem d9_67 : decode method_5_code 67 = .ok (.iconst 2, 1) := by decide +kernel
theorem d9_68 : decode method_5_code 68 = .ok (.caload, 1) := by decide +kernel
theorem d9_69 : decode method_5_code 69 = .ok (.castore, 1) := by decide +kernel
theorem d9_70 : decode method_5_code 70 = .ok (.areturn, 1) := by decide +kernel
theorem d9_71 : decode method_5_code 71 = .ok (.iload_n 1, 1) := by decide +kernel
theorem d9_72 : decode method_5_code 72 = .ok (.iconst 4, 1) := by decide +kernel
theorem d9_73 : decode method_5_code 73 = .ok (.if_icmp .ne 31, 3) := by decide +kernel
theorem d9_76 : decode method_5_code 76 = .ok (.iconst 4, 1) := by decide +kernel
theorem d9_77 : decode method_5_code 77 = .ok (.newarray .char, 2) := by decide +kernel
theorem d9_79 : decode method_5_code 79 = .ok (.dup, 1) := by decide +kernel
theorem d9_80 : decode method_5_code 80 = .ok (.iconst 0, 1) := by decide +kernel
theorem d9_81 : decode method_5_code 81 = .ok (.aload_n 0, 1) := by decide +kernel
theorem d9_82 : decode method_5_code 82 = .ok (.iconst 0, 1) := by decide +kernel
theorem d9_83 : decode method_5_code 83 = .ok (.caload, 1) := by decide +kernel
theorem d9_84 : decode method_5_code 84 = .ok (.castore, 1) := by decide +kernel
theorem d9_85 : decode method_5_code 85 = .ok (.dup, 1) := by decide +kernel
theorem d9_86 : decode method_5_code 86 = .ok (.iconst 1, 1) := by decide +kernel
theorem d9_87 : decode method_5_code 87 = .ok (.aload_n 0, 1) := by decide +kernel
theorem d9_88 : decode method_5_code 88 = .ok (.iconst 1, 1) := by decide +kernel
theorem d9_89 : decode method_5_code 89 = .ok (.caload, 1) := by decide +kernel
theorem d9_90 : decode method_5_code 90 = .ok (.castore, 1) := by decide +kernel
theorem d9_91 : decode method_5_code 91 = .ok (.dup, 1) := by decide +kernel
theorem d9_92 : decode method_5_code 92 = .ok (.iconst 2, 1) := by decide +kernel
theorem d9_93 : decode method_5_code 93 = .ok (.aload_n 0, 1) := by decide +kernel
theorem d9_94 : decode method_5_code 94 = .ok (.iconst 2, 1) := by decide +kernel
theorem d9_95 : decode method_5_code 95 = .ok (.caload, 1) := by decide +kernel
theorem d9_96 : decode method_5_code 96 = .ok (.castore, 1) := by decide +kernel
theorem d9_97 : decode method_5_code 97 = .ok (.dup, 1) := by decide +kernel
theorem d9_98 : decode method_5_code 98 = .ok (.iconst 3, 1) := by decide +kernel
theorem d9_99 : decode method_5_code 99 = .ok (.aload_n 0, 1) := by decide +kernel
theorem d9_100 : decode method_5_code 100 = .ok (.iconst 3, 1) := by decide +kernel
theorem d9_101 : decode method_5_code 101 = .ok (.caload, 1) := by decide +kernel
theorem d9_102 : decode method_5_code 102 = .ok (.castore, 1) := by decide +kernel
theorem d9_103 : decode method_5_code 103 = .ok (.areturn, 1) := by decide +kernel
theorem d9_104 : decode method_5_code 104 = .ok (.iload_n 1, 1) := by decide +kernel
theorem d9_105 : decode method_5_code 105 = .ok (.iconst 5, 1) := by decide +kernel
theorem d9_106 : decode method_5_code 106 = .ok (.if_icmp .ne 37, 3) := by decide +kernel
theorem d9_109 : decode method_5_code 109 = .ok (.iconst 5, 1) := by decide +kernel
theorem d9_110 : decode method_5_code 110 = .ok (.newarray .char, 2) := by decide +kernel
theorem d9_112 : decode method_5_code 112 = .ok (.dup, 1) := by decide +kernel
theorem d9_113 : decode method_5_code 113 = .ok (.iconst 0, 1) := by decide +kernel
theorem d9_114 : decode method_5_code 114 = .ok (.aload_n 0, 1) := by decide +kernel
theorem d9_115 : decode method_5_code 115 = .ok (.iconst 0, 1) := by decide +kernel
theorem d9_116 : decode method_5_code 116 = .ok (.caload, 1) := by decide +kernel
theorem d9_117 : decode method_5_code 117 = .ok (.castore, 1) := by decide +kernel
theorem d9_118 : decode method_5_code 118 = .ok (.dup, 1) := by decide +kernel
theorem d9_119 : decode method_5_code 119 = .ok (.iconst 1, 1) := by decide +kernel
theorem d9_120 : decode method_5_code 120 = .ok (.aload_n 0, 1) := by decide +kernel
theorem d9_121 : decode method_5_code 121 = .ok (.iconst 1, 1) := by decide +kernel
theorem d9_122 : decode method_5_code 122 = .ok (.caload, 1) := by decide +kernel
theorem d9_123 : decode method_5_code 123 = .ok (.castore, 1) := by decide +kernel
theorem d9_124 : decode method_5_code 124 = .ok (.dup, 1) := by decide +kernel
theorem d9_125 : decode method_5_code 125 = .ok (.iconst 2, 1) := by decide +kernel
theorem d9_126 : decode method_5_code 126 = .ok (.aload_n 0, 1) := by decide +kernel
theorem d9_127 : decode method_5_code 127 = .ok (.iconst 2, 1) := by decide +kernel
theorem d9_128 : decode method_5_code 128 = .ok (.caload, 1) := by decide +kernel
theorem d9_129 : decode method_5_code 129 = .ok (.castore, 1) := by decide +kernel
theorem d9_130 : decode method_5_code 130 = .ok (.dup, 1) := by decide +kernel
theorem d9_131 : decode method_5_code 131 = .ok (.iconst 3, 1) := by decide +kernel
theorem d9_132 : decode method_5_code 132 = .ok (.aload_n 0, 1) := by decide +kernel
theorem d9_133 : decode method_5_code 133 = .ok (.iconst 3, 1) := by decide +kernel
theorem d9_134 : decode method_5_code 134 = .ok (.caload, 1) := by decide +kernel
theorem d9_135 : decode method_5_code 135 = .ok (.castore, 1) := by decide +kernel
theorem d9_136 : decode method_5_code 136 = .ok (.dup, 1) := by decide +kernel
theorem d9_137 : decode method_5_code 137 = .ok (.iconst 4, 1) := by decide +kernel
theorem d9_138 : decode method_5_code 138 = .ok (.aload_n 0, 1) := by decide +kernel
theorem d9_139 : decode method_5_code 139 = .ok (.iconst 4, 1) := by decide +kernel
theorem d9_140 : decode method_5_code 140 = .ok (.caload, 1) := by decide +kernel
theorem d9_141 : decode method_5_code 141 = .ok (.castore, 1) := by decide +kernel
theorem d9_142 : decode method_5_code 142 = .ok (.areturn, 1) := by decide +kernel
theorem d9_143 : decode method_5_code 143 = .ok (.iload_n 1, 1) := by decide +kernel
theorem d9_144 : decode method_5_code 144 = .ok (.bipush 6, 2) := by decide +kernel
theorem d9_146 : decode method_5_code 146 = .ok (.if_icmp .ne 44, 3) := by decide +kernel
theorem d9_149 : decode method_5_code 149 = .ok (.bipush 6, 2) := by decide +kernel
theorem d9_151 : decode method_5_code 151 = .ok (.newarray .char, 2) := by decide +kernel
theorem d9_153 : decode method_5_code 153 = .ok (.dup, 1) := by decide +kernel
theorem d9_154 : decode method_5_code 154 = .ok (.iconst 0, 1) := by decide +kernel
theorem d9_155 : decode method_5_code 155 = .ok (.aload_n 0, 1) := by decide +kernel
theorem d9_156 : decode method_5_code 156 = .ok (.iconst 0, 1) := by decide +kernel
theorem d9_157 : decode method_5_code 157 = .ok (.caload, 1) := by decide +kernel
theorem d9_158 : decode method_5_code 158 = .ok (.castore, 1) := by decide +kernel
theorem d9_159 : decode method_5_code 159 = .ok (.dup, 1) := by decide +kernel
theorem d9_160 : decode method_5_code 160 = .ok (.iconst 1, 1) := by decide +kernel
theorem d9_161 : decode method_5_code 161 = .ok (.aload_n 0, 1) := by decide +kernel
theorem d9_162 : decode method_5_code 162 = .ok (.iconst 1, 1) := by decide +kernel
theorem d9_163 : decode method_5_code 163 = .ok (.caload, 1) := by decide +kernel
theorem d9_164 : decode method_5_code 164 = .ok (.castore, 1) := by decide +kernel
theorem d9_165 : decode method_5_code 165 = .ok (.dup, 1) := by decide +kernel
theorem d9_166 : decode method_5_code 166 = .ok (.iconst 2, 1) := by decide +kernel
theorem d9_167 : decode method_5_code 167 = .ok (.aload_n 0, 1) := by decide +kernel
theorem d9_168 : decode method_5_code 168 = .ok (.iconst 2, 1) := by decide +kernel
theorem d9_169 : decode method_5_code 169 = .ok (.caload, 1) := by decide +kernel
theorem d9_170 : decode method_5_code 170 = .ok (.castore, 1) := by decide +kernel
theorem d9_171 : decode method_5_code 171 = .ok (.dup, 1) := by decide +kernel
theorem d9_172 : decode method_5_code 172 = .ok (.iconst 3, 1) := by decide +kernel
theorem d9_173 : decode method_5_code 173 = .ok (.aload_n 0, 1) := by decide +kernel
theorem d9_174 : decode method_5_code 174 = .ok (.iconst 3, 1) := by decide +kernel
theorem d9_175 : decode method_5_code 175 = .ok (.caload, 1) := by decide +kernel
theorem d9_176 : decode method_5_code 176 = .ok (.castore, 1) := by decide +kernel
theorem d9_177 : decode method_5_code 177 = .ok (.dup, 1) := by decide +kernel
theorem d9_178 : decode method_5_code 178 = .ok (.iconst 4, 1) := by decide +kernel
theorem d9_179 : decode method_5_code 179 = .ok (.aload_n 0, 1) := by decide +kernel
theorem d9_180 : decode method_5_code 180 = .ok (.iconst 4, 1) := by decide +kernel
theorem d9_181 : decode method_5_code 181 = .ok (.caload, 1) := by decide +kernel
theorem d9_182 : decode method_5_code 182 = .ok (.castore, 1) := by decide +kernel
theorem d9_183 : decode method_5_code 183 = .ok (.dup, 1) := by decide +kernel
theorem d9_184 : decode method_5_code 184 = .ok (.iconst 5, 1) := by decide +kernel
theorem d9_185 : decode method_5_code 185 = .ok (.aload_n 0, 1) := by decide +kernel
theorem d9_186 : decode method_5_code 186 = .ok (.iconst 5, 1) := by decide +kernel
theorem d9_187 : decode method_5_code 187 = .ok (.caload, 1) := by decide +kernel
theorem d9_188 : decode method_5_code 188 = .ok (.castore, 1) := by decide +kernel
theorem d9_189 : decode method_5_code 189 = .ok (.areturn, 1) := by decide +kernel
theorem d9_190 : decode method_5_code 190 = .ok (.iload_n 1, 1) := by decide +kernel
theorem d9_191 : decode method_5_code 191 = .ok (.bipush 7, 2) := by decide +kernel
theorem d9_193 : decode method_5_code 193 = .ok (.if_icmp .ne 52, 3) := by decide +kernel
theorem d9_196 : decode method_5_code 196 = .ok (.bipush 7, 2) := by decide +kernel
theorem d9_198 : decode method_5_code 198 = .ok (.newarray .char, 2) := by decide +kernel
theorem d9_200 : decode method_5_code 200 = .ok (.dup, 1) := by decide +kernel
theorem d9_201 : decode method_5_code 201 = .ok (.iconst 0, 1) := by decide +kernel
theorem d9_202 : decode method_5_code 202 = .ok (.aload_n 0, 1) := by decide +kernel
theorem d9_203 : decode method_5_code 203 = .ok (.iconst 0, 1) := by decide +kernel
theorem d9_204 : decode method_5_code 204 = .ok (.caload, 1) := by decide +kernel
theorem d9_205 : decode method_5_code 205 = .ok (.castore, 1) := by decide +kernel
theorem d9_206 : decode method_5_code 206 = .ok (.dup, 1) := by decide +kernel
theorem d9_207 : decode method_5_code 207 = .ok (.iconst 1, 1) := by decide +kernel
theorem d9_208 : decode method_5_code 208 = .ok (.aload_n 0, 1) := by decide +kernel
theorem d9_209 : decode method_5_code 209 = .ok (.iconst 1, 1) := by decide +kernel
theorem d9_210 : decode method_5_code 210 = .ok (.caload, 1) := by decide +kernel
theorem d9_211 : decode method_5_code 211 = .ok (.castore, 1) := by decide +kernel
theorem d9_212 : decode method_5_code 212 = .ok (.dup, 1) := by decide +kernel
theorem d9_213 : decode method_5_code 213 = .ok (.iconst 2, 1) := by decide +kernel
theorem d9_214 : decode method_5_code 214 = .ok (.aload_n 0, 1) := by decide +kernel
theorem d9_215 : decode method_5_code 215 = .ok (.iconst 2, 1) := by decide +kernel
theorem d9_216 : decode method_5_code 216 = .ok (.caload, 1) := by decide +kernel
theorem d9_217 : decode method_5_code 217 = .ok (.castore, 1) := by decide +kernel
theorem d9_218 : decode method_5_code 218 = .ok (.dup, 1) := by decide +kernel
theorem d9_219 : decode method_5_code 219 = .ok (.iconst 3, 1) := by decide +kernel
theorem d9_220 : decode method_5_code 220 = .ok (.aload_n 0, 1) := by decide +kernel
theorem d9_221 : decode method_5_code 221 = .ok (.iconst 3, 1) := by decide +kernel
theorem d9_222 : decode method_5_code 222 = .ok (.caload, 1) := by decide +kernel
theorem d9_223 : decode method_5_code 223 = .ok (.castore, 1) := by decide +kernel
theorem d9_224 : decode method_5_code 224 = .ok (.dup, 1) := by decide +kernel
theorem d9_225 : decode method_5_code 225 = .ok (.iconst 4, 1) := by decide +kernel
theorem d9_226 : decode method_5_code 226 = .ok (.aload_n 0, 1) := by decide +kernel
theorem d9_227 : decode method_5_code 227 = .ok (.iconst 4, 1) := by decide +kernel
theorem d9_228 : decode method_5_code 228 = .ok (.caload, 1) := by decide +kernel
theorem d9_229 : decode method_5_code 229 = .ok (.castore, 1) := by decide +kernel
theorem d9_230 : decode method_5_code 230 = .ok (.dup, 1) := by decide +kernel
theorem d9_231 : decode method_5_code 231 = .ok (.iconst 5, 1) := by decide +kernel
theorem d9_232 : decode method_5_code 232 = .ok (.aload_n 0, 1) := by decide +kernel
theorem d9_233 : decode method_5_code 233 = .ok (.iconst 5, 1) := by decide +kernel
theorem d9_234 : decode method_5_code 234 = .ok (.caload, 1) := by decide +kernel
theorem d9_235 : decode method_5_code 235 = .ok (.castore, 1) := by decide +kernel
theorem d9_236 : decode method_5_code 236 = .ok (.dup, 1) := by decide +kernel
theorem d9_237 : decode method_5_code 237 = .ok (.bipush 6, 2) := by decide +kernel
theorem d9_239 : decode method_5_code 239 = .ok (.aload_n 0, 1) := by decide +kernel
theorem d9_240 : decode method_5_code 240 = .ok (.bipush 6, 2) := by decide +kernel
theorem d9_242 : decode method_5_code 242 = .ok (.caload, 1) := by decide +kernel
theorem d9_243 : decode method_5_code 243 = .ok (.castore, 1) := by decide +kernel
theorem d9_244 : decode method_5_code 244 = .ok (.areturn, 1) := by decide +kernel
theorem d9_245 : decode method_5_code 245 = .ok (.iload_n 1, 1) := by decide +kernel
theorem d9_246 : decode method_5_code 246 = .ok (.bipush 8, 2) := by decide +kernel
theorem d9_248 : decode method_5_code 248 = .ok (.if_icmp .ne 60, 3) := by decide +kernel
theorem d9_251 : decode method_5_code 251 = .ok (.bipush 8, 2) := by decide +kernel
theorem d9_253 : decode method_5_code 253 = .ok (.newarray .char, 2) := by decide +kernel
theorem d9_255 : decode method_5_code 255 = .ok (.dup, 1) := by decide +kernel
theorem d9_256 : decode method_5_code 256 = .ok (.iconst 0, 1) := by decide +kernel
theorem d9_257 : decode method_5_code 257 = .ok (.aload_n 0, 1) := by decide +kernel
theorem d9_258 : decode method_5_code 258 = .ok (.iconst 0, 1) := by decide +kernel
theorem d9_259 : decode method_5_code 259 = .ok (.caload, 1) := by decide +kernel
theorem d9_260 : decode method_5_code 260 = .ok (.castore, 1) := by decide +kernel
theorem d9_261 : decode method_5_code 261 = .ok (.dup, 1) := by decide +kernel
theorem d9_262 : decode method_5_code 262 = .ok (.iconst 1, 1) := by decide +kernel
theorem d9_263 : decode method_5_code 263 = .ok (.aload_n 0, 1) := by decide +kernel
theorem d9_264 : decode method_5_code 264 = .ok (.iconst 1, 1) := by decide +kernel
theorem d9_265 : decode method_5_code 265 = .ok (.caload, 1) := by decide +kernel
theorem d9_266 : decode method_5_code 266 = .ok (.castore, 1) := by decide +kernel
theorem d9_267 : decode method_5_code 267 = .ok (.dup, 1) := by decide +kernel
theorem d9_268 : decode method_5_code 268 = .ok (.iconst 2, 1) := by decide +kernel
theorem d9_269 : decode method_5_code 269 = .ok (.aload_n 0, 1) := by decide +kernel
theorem d9_270 : decode method_5_code 270 = .ok (.iconst 2, 1) := by decide +kernel
theorem d9_271 : decode method_5_code 271 = .ok (.caload, 1) := by decide +kernel
theorem d9_272 : decode method_5_code 272 = .ok (.castore, 1) := by decide +kernel
theorem d9_273 : decode method_5_code 273 = .ok (.dup, 1) := by decide +kernel
theorem d9_274 : decode method_5_code 274 = .ok (.iconst 3, 1) := by decide +kernel
theorem d9_275 : decode method_5_code 275 = .ok (.aload_n 0, 1) := by decide +kernel
theorem d9_276 : decode method_5_code 276 = .ok (.iconst 3, 1) := by decide +kernel
theorem d9_277 : decode method_5_code 277 = .ok (.caload, 1) := by decide +kernel
theorem d9_278 : decode method_5_code 278 = .ok (.castore, 1) := by decide +kernel
theorem d9_279 : decode method_5_code 279 = .ok (.dup, 1) := by decide +kernel
theorem d9_280 : decode method_5_code 280 = .ok (.iconst 4, 1) := by decide +kernel
theorem d9_281 : decode method_5_code 281 = .ok (.aload_n 0, 1) := by decide +kernel
theorem d9_282 : decode method_5_code 282 = .ok (.iconst 4, 1) := by decide +kernel
theorem d9_283 : decode method_5_code 283 = .ok (.caload, 1) := by decide +kernel
theorem d9_284 : decode method_5_code 284 = .ok (.castore, 1) := by decide +kernel
theorem d9_285 : decode method_5_code 285 = .ok (.dup, 1) := by decide +kernel
theorem d9_286 : decode method_5_code 286 = .ok (.iconst 5, 1) := by decide +kernel
theorem d9_287 : decode method_5_code 287 = .ok (.aload_n 0, 1) := by decide +kernel
theorem d9_288 : decode method_5_code 288 = .ok (.iconst 5, 1) := by decide +kernel
theorem d9_289 : decode method_5_code 289 = .ok (.caload, 1) := by decide +kernel
theorem d9_290 : decode method_5_code 290 = .ok (.castore, 1) := by decide +kernel
theorem d9_291 : decode method_5_code 291 = .ok (.dup, 1) := by decide +kernel
theorem d9_292 : decode method_5_code 292 = .ok (.bipush 6, 2) := by decide +kernel
theorem d9_294 : decode method_5_code 294 = .ok (.aload_n 0, 1) := by decide +kernel
theorem d9_295 : decode method_5_code 295 = .ok (.bipush 6, 2) := by decide +kernel
theorem d9_297 : decode method_5_code 297 = .ok (.caload, 1) := by decide +kernel
theorem d9_298 : decode method_5_code 298 = .ok (.castore, 1) := by decide +kernel
theorem d9_299 : decode method_5_code 299 = .ok (.dup, 1) := by decide +kernel
theorem d9_300 : decode method_5_code 300 = .ok (.bipush 7, 2) := by decide +kernel
theorem d9_302 : decode method_5_code 302 = .ok (.aload_n 0, 1) := by decide +kernel
theorem d9_303 : decode method_5_code 303 = .ok (.bipush 7, 2) := by decide +kernel
theorem d9_305 : decode method_5_code 305 = .ok (.caload, 1) := by decide +kernel
theorem d9_306 : decode method_5_code 306 = .ok (.castore, 1) := by decide +kernel
theorem d9_307 : decode method_5_code 307 = .ok (.areturn, 1) := by decide +kernel
theorem d9_308 : decode method_5_code 308 = .ok (.bipush 9, 2) := by decide +kernel
theorem d9_310 : decode method_5_code 310 = .ok (.newarray .char, 2) := by decide +kernel
theorem d9_312 : decode method_5_code 312 = .ok (.dup, 1) := by decide +kernel
theorem d9_313 : decode method_5_code 313 = .ok (.iconst 0, 1) := by decide +kernel
theorem d9_314 : decode method_5_code 314 = .ok (.aload_n 0, 1) := by decide +kernel
theorem d9_315 : decode method_5_code 315 = .ok (.iconst 0, 1) := by decide +kernel
theorem d9_316 : decode method_5_code 316 = .ok (.caload, 1) := by decide +kernel
theorem d9_317 : decode method_5_code 317 = .ok (.castore, 1) := by decide +kernel
theorem d9_318 : decode method_5_code 318 = .ok (.dup, 1) := by decide +kernel
theorem d9_319 : decode method_5_code 319 = .ok (.iconst 1, 1) := by decide +kernel
theorem d9_320 : decode method_5_code 320 = .ok (.aload_n 0, 1) := by decide +kernel
theorem d9_321 : decode method_5_code 321 = .ok (.iconst 1, 1) := by decide +kernel
theorem d9_322 : decode method_5_code 322 = .ok (.caload, 1) := by decide +kernel
theorem d9_323 : decode method_5_code 323 = .ok (.castore, 1) := by decide +kernel
theorem d9_324 : decode method_5_code 324 = .ok (.dup, 1) := by decide +kernel
theorem d9_325 : decode method_5_code 325 = .ok (.iconst 2, 1) := by decide +kernel
theorem d9_326 : decode method_5_code 326 = .ok (.aload_n 0, 1) := by decide +kernel
theorem d9_327 : decode method_5_code 327 = .ok (.iconst 2, 1) := by decide +kernel
theorem d9_328 : decode method_5_code 328 = .ok (.caload, 1) := by decide +kernel
theorem d9_329 : decode method_5_code 329 = .ok (.castore, 1) := by decide +kernel
theorem d9_330 : decode method_5_code 330 = .ok (.dup, 1) := by decide +kernel
theorem d9_331 : decode method_5_code 331 = .ok (.iconst 3, 1) := by decide +kernel
theorem d9_332 : decode method_5_code 332 = .ok (.aload_n 0, 1) := by decide +kernel
theorem d9_333 : decode method_5_code 333 = .ok (.iconst 3, 1) := by decide +kernel
theorem d9_334 : decode method_5_code 334 = .ok (.caload, 1) := by decide +kernel
theorem d9_335 : decode method_5_code 335 = .ok (.castore, 1) := by decide +kernel
theorem d9_336 : decode method_5_code 336 = .ok (.dup, 1) := by decide +kernel
theorem d9_337 : decode method_5_code 337 = .ok (.iconst 4, 1) := by decide +kernel
theorem d9_338 : decode method_5_code 338 = .ok (.aload_n 0, 1) := by decide +kernel
theorem d9_339 : decode method_5_code 339 = .ok (.iconst 4, 1) := by decide +kernel
theorem d9_340 : decode method_5_code 340 = .ok (.caload, 1) := by decide +kernel
theorem d9_341 : decode method_5_code 341 = .ok (.castore, 1) := by decide +kernel
theorem d9_342 : decode method_5_code 342 = .ok (.dup, 1) := by decide +kernel
theorem d9_343 : decode method_5_code 343 = .ok (.iconst 5, 1) := by decide +kernel
theorem d9_344 : decode method_5_code 344 = .ok (.aload_n 0, 1) := by decide +kernel
theorem d9_345 : decode method_5_code 345 = .ok (.iconst 5, 1) := by decide +kernel
theorem d9_346 : decode method_5_code 346 = .ok (.caload, 1) := by decide +kernel
theorem d9_347 : decode method_5_code 347 = .ok (.castore, 1) := by decide +kernel
theorem d9_348 : decode method_5_code 348 = .ok (.dup, 1) := by decide +kernel
theorem d9_349 : decode method_5_code 349 = .ok (.bipush 6, 2) := by decide +kernel
theorem d9_351 : decode method_5_code 351 = .ok (.aload_n 0, 1) := by decide +kernel
theorem d9_352 : decode method_5_code 352 = .ok (.bipush 6, 2) := by decide +kernel
theorem d9_354 : decode method_5_code 354 = .ok (.caload, 1) := by decide +kernel
theorem d9_355 : decode method_5_code 355 = .ok (.castore, 1) := by decide +kernel
theorem d9_356 : decode method_5_code 356 = .ok (.dup, 1) := by decide +kernel
theorem d9_357 : decode method_5_code 357 = .ok (.bipush 7, 2) := by decide +kernel
theorem d9_359 : decode method_5_code 359 = .ok (.aload_n 0, 1) := by decide +kernel
theorem d9_360 : decode method_5_code 360 = .ok (.bipush 7, 2) := by decide +kernel
theorem d9_362 : decode method_5_code 362 = .ok (.caload, 1) := by decide +kernel
theorem d9_363 : decode method_5_code 363 = .ok (.castore, 1) := by decide +kernel
theorem d9_364 : decode method_5_code 364 = .ok (.dup, 1) := by decide +kernel
theorem d9_365 : decode method_5_code 365 = .ok (.bipush 8, 2) := by decide +kernel
theorem d9_367 : decode method_5_code 367 = .ok (.aload_n 0, 1) := by decide +kernel
theorem d9_368 : decode method_5_code 368 = .ok (.bipush 8, 2) := by decide +kernel
theorem d9_370 : decode method_5_code 370 = .ok (.caload, 1) := by decide +kernel
theorem d9_371 : decode method_5_code 371 = .ok (.castore, 1) := by decide +kernel
theorem d9_372 : decode method_5_code 372 = .ok (.areturn, 1) := by decide +kernel
theorem pn_9 : plainName "heslar/KindByCodePinLaw" = true := by first | (simp [plainName, overriddenIn]; done) | decide +kernel
theorem ef_rTa (m : MethodId) (x0 : Addr) (x1 : Int32) : entryFrame m #[(.ref x0), (.int x1)] 2 = mkF m 0 #[.val (.ref x0), .val (.int x1)] [] := by first | (simp [entryFrame, mkF, argsToLocals, Value.category]; done) | rfl
set_option maxRecDepth 65536 in
set_option maxHeartbeats 40000000 in
theorem rTa (l : Launch) (Z : State) (a0 : Array Value) (hw : ∀ d ∈ tables_1, d.before a0 Z = true) (ws : List Jvm.Cond) (o0 : Addr) (k0 : ClassId) (n : Nat) (g0 : Nat → Int32) (hn : n ≤ 9) (hg0 : Rg g0) (h0 : Heap) (n0 : Nat) (Z0 : n0 ≤ h0.size) (V_c : GA Z h0 o0 k0 .char 9 (fun i => .int (g0 i))) :
    MetFree l (⟨"heslar/KindByCodePinLaw", "take", "([CI)[C"⟩ : MethodName) (head1 (Jvm.Cond.code (⟨"heslar/KindByCodePinLaw", "take", "([CI)[C"⟩ : MethodName) method_5_code 2 (some (.array .char)) :: ws) ({ frames := 0, cells := 1, slots := 9, locals := 0 } : Room)) (fun a U => a = #[(.ref o0), (.int (Int32.ofNat n))] ∧ Z.Warmed39 U.vm ∧ U.heap = h0) (fun _ _ _ _ _ => True) (fun _ U o U' => ∃ v L, o = .returned v ∧ QTa Z n h0 n0 v U'.heap L ∧ FrameEnd U o U' L ({ frames := 0, cells := 1, slots := 9, locals := 0 } : Room).cells ({ frames := 0, cells := 1, slots := 9, locals := 0 } : Room).slots) := by
  refine MetFree.of_bodySF (plainFor_of_name pn_9) hisR ?_
  intro p e s m args below meth c s₁ Bd hml0 hP hK
  obtain ⟨rfl, hZ, hh⟩ := hP
  have hx := Bd.exec
  have hby := Bd.bytes
  have hml : c.maxLocals = 2 := hml0
  have hown : s.vm.findClass "heslar/KindByCodePinLaw" = some m.cls := findClass_of_methodNamed Bd.named
  have hnm := (name_of_methodNamed Bd.named Bd.method).1
  have X0 : Stand p l e ({ frames := 0, cells := 1, slots := 9, locals := 0 } : Room) s m #[(.ref o0), (.int (Int32.ofNat n))] below meth c s₁ [] 0 0 := Stand.of_body Bd
  have e0 : s₁.heap = h0 := by rw [← hh, Bd.state]; rfl
  have N0 := Fr.nil n0
  have pre0 : ∀ t, Steps p.tables e below (s₁.setTop (mkF m 0 #[.val (.ref o0), .val (.int (Int32.ofNat n))] [])) t → Steps p.tables e below (s₁.setTop (entryFrame m #[(.ref o0), (.int (Int32.ofNat n))] 2)) t := fun t k => castTop (ef_rTa m o0 (Int32.ofNat n)) k
  have pre1 : ∀ t, Steps p.tables e below (s₁.setTop (mkF m 1 #[.val (.ref o0), .val (.int (Int32.ofNat n))] [(.int (Int32.ofNat n))])) t → Steps p.tables e below (s₁.setTop (entryFrame m #[(.ref o0), (.int (Int32.ofNat n))] 2)) t := by
    intro t kt
    refine pre0 t ?_
    show Steps p.tables e below (s₁.setTop (mkF m 0 #[.val (.ref o0), .val (.int (Int32.ofNat n))] [])) _
    refine XS.iloadN X0.here hx rfl (hb hby d9_0) rfl ?_
    exact kt
  by_cases hc2 : (Int32.ofNat n) = (0 : Int32)
  · skip
    have hc2' : n = 0 := (own_inj (j := 0) (by omega) (by decide)).mp hc2
    obtain ⟨T3, h3, k3, X3, e3, E3, A3, st3⟩ := newP X0 hx hZ (hw _ (List.mem_of_getElem? (i := 1) rfl)) e0 (g := (mkF m 5 #[.val (.ref o0), .val (.int (Int32.ofNat n))] [(.int (0 : Int32))])) rfl (hb hby d9_5) rfl (by decide) (cap := 0) (by decide) (by decide) (by decide) (by decide)
    obtain ⟨b3, g3⟩ : ∃ z, z = h0.size := ⟨_, rfl⟩
    rw [← g3] at A3 st3
    have g_b3 : n0 ≤ b3 := Nat.le_trans Z0 (Nat.le_of_eq g3.symm)
    have sz_b3 : h0.size ≤ b3 := Nat.le_trans (Keep.refl h0 []).1 (Nat.le_of_eq g3.symm)
    have ne3_o0 : o0 ≠ b3 := Nat.ne_of_lt (Nat.lt_of_lt_of_le (V_c).lt (Nat.le_of_eq g3.symm))
    have Zs3 : n0 ≤ h3.size := Nat.le_trans Z0 E3.1
    have K3 : Keep h0 h3 [] := (Keep.refl h0 []).ext E3
    have G3 : GA Z h3 b3 k3 .char 0 (fun i => .int ((fun _ => (0 : Int32)) i)) := GA.new A3 rfl
    have hg3 : Rg (fun _ => (0 : Int32)) := own_rg0
    have en : n = 0 := by omega
    obtain ⟨fs, hr, hrun, hended, hW, hsame⟩ := X3.leave (v := some (.ref b3)) (fun h => by rw [Bd.returns] at h; cases h)
    refine ⟨_, _, pre1 _ ?_, hrun, hended, _, _, rfl, ?_, ⟨_, rfl⟩, hW, hsame.mono (by decide) (by decide)⟩
    · skip
      show Steps p.tables e below (s₁.setTop (mkF m 1 #[.val (.ref o0), .val (.int (Int32.ofNat n))] [(.int (Int32.ofNat n))])) _
      refine XS.ifNo X0.here hx rfl (hb hby d9_1) rfl ((if0 _ _).trans (teq hc2).2) ?_
      show Steps p.tables e below (s₁.setTop (mkF m 4 #[.val (.ref o0), .val (.int (Int32.ofNat n))] [])) _
      refine XS.iconst X0.here hx rfl (hb hby d9_4) ?_
      show Steps p.tables e below (s₁.setTop (mkF m 5 #[.val (.ref o0), .val (.int (Int32.ofNat n))] [(.int (0 : Int32))])) _
      refine st3 _ ?_
      show Steps p.tables e below (T3.setTop (mkF m 7 #[.val (.ref o0), .val (.int (Int32.ofNat n))] [(.ref b3)])) _
      jvm_step X3.here [X3.here.top, hx, (hb hby d9_7), X3.method', Bd.returns, Value.isRef, FieldType.isReference]
      first | (intro acts; rw [hr _ acts rfl rfl rfl]) | rw [hr _ _ rfl rfl rfl]
      exact Steps.refl _
    · show QTa Z n h0 n0 _ T3.heap _
      rw [e3]
      exact ⟨_, k3, (fun _ => (0 : Int32)), rfl, N0, K3, sz_b3, (by rw [en]; exact G3), hg3⟩
  · skip
    have hc2' : ¬ n = 0 := fun q => hc2 ((own_inj (j := 0) (by omega) (by decide)).mpr q)
    have pre4 : ∀ t, Steps p.tables e below (s₁.setTop (mkF m 10 #[.val (.ref o0), .val (.int (Int32.ofNat n))] [(.int (1 : Int32)), (.int (Int32.ofNat n))])) t → Steps p.tables e below (s₁.setTop (entryFrame m #[(.ref o0), (.int (Int32.ofNat n))] 2)) t := by
      intro t kt
      refine pre1 t ?_
      show Steps p.tables e below (s₁.setTop (mkF m 1 #[.val (.ref o0), .val (.int (Int32.ofNat n))] [(.int (Int32.ofNat n))])) _
      refine XS.ifYes X0.here hx rfl (pc0 := 1) (pc' := 8) rfl (hb hby d9_1) rfl ((if0 _ _).trans (feq hc2).2) (by decide) (by decide) ?_
      show Steps p.tables e below (s₁.setTop (mkF m 8 #[.val (.ref o0), .val (.int (Int32.ofNat n))] [])) _
      refine XS.iloadN X0.here hx rfl (hb hby d9_8) rfl ?_
      show Steps p.tables e below (s₁.setTop (mkF m 9 #[.val (.ref o0), .val (.int (Int32.ofNat n))] [(.int (Int32.ofNat n))])) _
      refine XS.iconst X0.here hx rfl (hb hby d9_9) ?_
      exact kt
    by_cases hc5 : (Int32.ofNat n) = (1 : Int32)
    · skip
      have hc5' : n = 1 := (own_inj (j := 1) (by omega) (by decide)).mp hc5
      obtain ⟨T6, h6, k6, X6, e6, E6, A6, st6⟩ := newP X0 hx hZ (hw _ (List.mem_of_getElem? (i := 1) rfl)) e0 (g := (mkF m 14 #[.val (.ref o0), .val (.int (Int32.ofNat n))] [(.int (1 : Int32))])) rfl (hb hby d9_14) rfl (by decide) (cap := 1) (by decide) (by decide) (by decide) (by decide)
      obtain ⟨b6, g6⟩ : ∃ z, z = h0.size := ⟨_, rfl⟩
      rw [← g6] at A6 st6
      have g_b6 : n0 ≤ b6 := Nat.le_trans Z0 (Nat.le_of_eq g6.symm)
      have sz_b6 : h0.size ≤ b6 := Nat.le_trans (Keep.refl h0 []).1 (Nat.le_of_eq g6.symm)
      have ne6_o0 : o0 ≠ b6 := Nat.ne_of_lt (Nat.lt_of_lt_of_le (V_c).lt (Nat.le_of_eq g6.symm))
      have Zs6 : n0 ≤ h6.size := Nat.le_trans Z0 E6.1
      have K6 : Keep h0 h6 [] := (Keep.refl h0 []).ext E6
      have G6 : GA Z h6 b6 k6 .char 1 (fun i => .int ((fun _ => (0 : Int32)) i)) := GA.new A6 rfl
      have hg6 : Rg (fun _ => (0 : Int32)) := own_rg0
      have V_c_8 := (V_c.ext E6)
      obtain ⟨cl7, Ar7, qa7, Sa7, Ha7⟩ := id V_c_8
      have hin7 : ¬ ((Int32.ofNat 0) < 0 ∨ cl7.slots.size ≤ (Int32.ofNat 0).toNatClampNeg) := own_inb Sa7 (show 0 < 9 by decide) (show 9 < 2147483648 by decide)
      have hat7 : cl7.slots[(Int32.ofNat 0).toNatClampNeg]? = some (.int (g0 0)) := by rw [own_cl (Nat.lt_trans (show 0 < 9 by decide) (show 9 < 2147483648 by decide))]; exact Ha7 0 (show 0 < 9 by decide)
      obtain ⟨cl9, Ar9, qa9, Sa9, Ha9⟩ := id G6
      have hin9 : ¬ ((Int32.ofNat 0) < 0 ∨ cl9.slots.size ≤ (Int32.ofNat 0).toNatClampNeg) := own_inb Sa9 (show 0 < 1 by decide) (show 1 < 2147483648 by decide)
      obtain ⟨T10, h10, X10, e10, W10, st10⟩ := stC X6 hx hZ e6 Ar9 (j := (0 : Int32)) hin9 (g := (mkF m 21 #[.val (.ref o0), .val (.int (Int32.ofNat n))] [(.int (g0 0)), (.int (0 : Int32)), (.ref b6), (.ref b6)])) rfl rfl (hb hby d9_21)
      obtain ⟨g10, G10, hg10⟩ := own_gset Ar9 qa9 Sa9 Ha9 W10 hg6 (hg0 0)
      have Zs10 : n0 ≤ h10.size := Nat.le_trans Zs6 (Nat.le_of_eq W10.size.symm)
      have K10 : Keep h0 h10 [] := K6.wr W10 (Or.inr sz_b6)
      have N10 := Fr.snoc X10 N0 g_b6
      have en : n = 1 := by omega
      obtain ⟨fs, hr, hrun, hended, hW, hsame⟩ := X10.leave (v := some (.ref b6)) (fun h => by rw [Bd.returns] at h; cases h)
      refine ⟨_, _, pre4 _ ?_, hrun, hended, _, _, rfl, ?_, ⟨_, rfl⟩, hW, hsame.mono (by decide) (by decide)⟩
      · skip
        show Steps p.tables e below (s₁.setTop (mkF m 10 #[.val (.ref o0), .val (.int (Int32.ofNat n))] [(.int (1 : Int32)), (.int (Int32.ofNat n))])) _
        refine XS.icmpNo X0.here hx rfl (hb hby d9_10) rfl (teq hc5).2 ?_
        show Steps p.tables e below (s₁.setTop (mkF m 13 #[.val (.ref o0), .val (.int (Int32.ofNat n))] [])) _
        refine XS.iconst X0.here hx rfl (hb hby d9_13) ?_
        show Steps p.tables e below (s₁.setTop (mkF m 14 #[.val (.ref o0), .val (.int (Int32.ofNat n))] [(.int (1 : Int32))])) _
        refine st6 _ ?_
        show Steps p.tables e below (T6.setTop (mkF m 16 #[.val (.ref o0), .val (.int (Int32.ofNat n))] [(.ref b6)])) _
        refine XS.dup X6.here hx rfl (hb hby d9_16) rfl rfl ?_
        show Steps p.tables e below (T6.setTop (mkF m 17 #[.val (.ref o0), .val (.int (Int32.ofNat n))] [(.ref b6), (.ref b6)])) _
        refine XS.iconst X6.here hx rfl (hb hby d9_17) ?_
        show Steps p.tables e below (T6.setTop (mkF m 18 #[.val (.ref o0), .val (.int (Int32.ofNat n))] [(.int (0 : Int32)), (.ref b6), (.ref b6)])) _
        refine XS.aloadN X6.here hx rfl (hb hby d9_18) rfl rfl ?_
        show Steps p.tables e below (T6.setTop (mkF m 19 #[.val (.ref o0), .val (.int (Int32.ofNat n))] [(.ref o0), (.int (0 : Int32)), (.ref b6), (.ref b6)])) _
        refine XS.iconst X6.here hx rfl (hb hby d9_19) ?_
        show Steps p.tables e below (T6.setTop (mkF m 20 #[.val (.ref o0), .val (.int (Int32.ofNat n))] [(.int (0 : Int32)), (.ref o0), (.int (0 : Int32)), (.ref b6), (.ref b6)])) _
        refine X6.caload hx (j := (0 : Int32)) (v := (.int (g0 0))) (by rw [e6]; exact Ar7.1) (State.isArrayOf_alike hZ.alike Ar7.2.1) Ar7.2.2 hin7 hat7 (g := (mkF m 20 #[.val (.ref o0), .val (.int (Int32.ofNat n))] [(.int (0 : Int32)), (.ref o0), (.int (0 : Int32)), (.ref b6), (.ref b6)])) rfl rfl (hb hby d9_20) _ ?_
        show Steps p.tables e below (T6.setTop (mkF m 21 #[.val (.ref o0), .val (.int (Int32.ofNat n))] [(.int (g0 0)), (.int (0 : Int32)), (.ref b6), (.ref b6)])) _
        refine st10 _ ?_
        show Steps p.tables e below (T10.setTop (mkF m 22 #[.val (.ref o0), .val (.int (Int32.ofNat n))] [(.ref b6)])) _
        jvm_step X10.here [X10.here.top, hx, (hb hby d9_22), X10.method', Bd.returns, Value.isRef, FieldType.isReference]
        first | (intro acts; rw [hr _ acts rfl rfl rfl]) | rw [hr _ _ rfl rfl rfl]
        exact Steps.refl _
      · show QTa Z n h0 n0 _ T10.heap _
        rw [e10]
        exact ⟨_, k6, g10, rfl, N10, K10, sz_b6, (by rw [en]; exact G10), hg10⟩
    · skip
      have hc5' : ¬ n = 1 := fun q => hc5 ((own_inj (j := 1) (by omega) (by decide)).mpr q)
      have pre11 : ∀ t, Steps p.tables e below (s₁.setTop (mkF m 25 #[.val (.ref o0), .val (.int (Int32.ofNat n))] [(.int (2 : Int32)), (.int (Int32.ofNat n))])) t → Steps p.tables e below (s₁.setTop (entryFrame m #[(.ref o0), (.int (Int32.ofNat n))] 2)) t := by
        intro t kt
        refine pre4 t ?_
        show Steps p.tables e below (s₁.setTop (mkF m 10 #[.val (.ref o0), .val (.int (Int32.ofNat n))] [(.int (1 : Int32)), (.int (Int32.ofNat n))])) _
        refine XS.icmpYes X0.here hx rfl (pc0 := 10) (pc' := 23) rfl (hb hby d9_10) rfl (feq hc5).2 (by decide) (by decide) ?_
        show Steps p.tables e below (s₁.setTop (mkF m 23 #[.val (.ref o0), .val (.int (Int32.ofNat n))] [])) _
        refine XS.iloadN X0.here hx rfl (hb hby d9_23) rfl ?_
        show Steps p.tables e below (s₁.setTop (mkF m 24 #[.val (.ref o0), .val (.int (Int32.ofNat n))] [(.int (Int32.ofNat n))])) _
        refine XS.iconst X0.here hx rfl (hb hby d9_24) ?_
        exact kt
      by_cases hc12 : (Int32.ofNat n) = (2 : Int32)
      · skip
        have hc12' : n = 2 := (own_inj (j := 2) (by omega) (by decide)).mp hc12
        obtain ⟨T13, h13, k13, X13, e13, E13, A13, st13⟩ := newP X0 hx hZ (hw _ (List.mem_of_getElem? (i := 1) rfl)) e0 (g := (mkF m 29 #[.val (.ref o0), .val (.int (Int32.ofNat n))] [(.int (2 : Int32))])) rfl (hb hby d9_29) rfl (by decide) (cap := 2) (by decide) (by decide) (by decide) (by decide)
        obtain ⟨b13, g13⟩ : ∃ z, z = h0.size := ⟨_, rfl⟩
        rw [← g13] at A13 st13
        have g_b13 : n0 ≤ b13 := Nat.le_trans Z0 (Nat.le_of_eq g13.symm)
        have sz_b13 : h0.size ≤ b13 := Nat.le_trans (Keep.refl h0 []).1 (Nat.le_of_eq g13.symm)
        have ne13_o0 : o0 ≠ b13 := Nat.ne_of_lt (Nat.lt_of_lt_of_le (V_c).lt (Nat.le_of_eq g13.symm))
        have Zs13 : n0 ≤ h13.size := Nat.le_trans Z0 E13.1
        have K13 : Keep h0 h13 [] := (Keep.refl h0 []).ext E13
        have G13 : GA Z h13 b13 k13 .char 2 (fun i => .int ((fun _ => (0 : Int32)) i)) := GA.new A13 rfl
        have hg13 : Rg (fun _ => (0 : Int32)) := own_rg0
        have V_c_15 := (V_c.ext E13)
        obtain ⟨cl14, Ar14, qa14, Sa14, Ha14⟩ := id V_c_15
        have hin14 : ¬ ((Int32.ofNat 0) < 0 ∨ cl14.slots.size ≤ (Int32.ofNat 0).toNatClampNeg) := own_inb Sa14 (show 0 < 9 by decide) (show 9 < 2147483648 by decide)
        have hat14 : cl14.slots[(Int32.ofNat 0).toNatClampNeg]? = some (.int (g0 0)) := by rw [own_cl (Nat.lt_trans (show 0 < 9 by decide) (show 9 < 2147483648 by decide))]; exact Ha14 0 (show 0 < 9 by decide)
        obtain ⟨cl16, Ar16, qa16, Sa16, Ha16⟩ := id G13
        have hin16 : ¬ ((Int32.ofNat 0) < 0 ∨ cl16.slots.size ≤ (Int32.ofNat 0).toNatClampNeg) := own_inb Sa16 (show 0 < 2 by decide) (show 2 < 2147483648 by decide)
        obtain ⟨T17, h17, X17, e17, W17, st17⟩ := stC X13 hx hZ e13 Ar16 (j := (0 : Int32)) hin16 (g := (mkF m 36 #[.val (.ref o0), .val (.int (Int32.ofNat n))] [(.int (g0 0)), (.int (0 : Int32)), (.ref b13), (.ref b13)])) rfl rfl (hb hby d9_36)
        obtain ⟨g17, G17, hg17⟩ := own_gset Ar16 qa16 Sa16 Ha16 W17 hg13 (hg0 0)
        have Zs17 : n0 ≤ h17.size := Nat.le_trans Zs13 (Nat.le_of_eq W17.size.symm)
        have K17 : Keep h0 h17 [] := K13.wr W17 (Or.inr sz_b13)
        have N17 := Fr.snoc X17 N0 g_b13
        have V_c_19 := (V_c_15.other W17 ne13_o0)
        obtain ⟨cl18, Ar18, qa18, Sa18, Ha18⟩ := id V_c_19
        have hin18 : ¬ ((Int32.ofNat 1) < 0 ∨ cl18.slots.size ≤ (Int32.ofNat 1).toNatClampNeg) := own_inb Sa18 (show 1 < 9 by decide) (show 9 < 2147483648 by decide)
        have hat18 : cl18.slots[(Int32.ofNat 1).toNatClampNeg]? = some (.int (g0 1)) := by rw [own_cl (Nat.lt_trans (show 1 < 9 by decide) (show 9 < 2147483648 by decide))]; exact Ha18 1 (show 1 < 9 by decide)
        obtain ⟨cl20, Ar20, qa20, Sa20, Ha20⟩ := id G17
        have hin20 : ¬ ((Int32.ofNat 1) < 0 ∨ cl20.slots.size ≤ (Int32.ofNat 1).toNatClampNeg) := own_inb Sa20 (show 1 < 2 by decide) (show 2 < 2147483648 by decide)
        obtain ⟨T21, h21, X21, e21, W21, st21⟩ := stC X17 hx hZ e17 Ar20 (j := (1 : Int32)) hin20 (g := (mkF m 42 #[.val (.ref o0), .val (.int (Int32.ofNat n))] [(.int (g0 1)), (.int (1 : Int32)), (.ref b13), (.ref b13)])) rfl rfl (hb hby d9_42)
        obtain ⟨g21, G21, hg21⟩ := own_gset Ar20 qa20 Sa20 Ha20 W21 hg17 (hg0 1)
        have Zs21 : n0 ≤ h21.size := Nat.le_trans Zs17 (Nat.le_of_eq W21.size.symm)
        have K21 : Keep h0 h21 [] := K17.wr W21 (Or.inr sz_b13)
        have N21 := Fr.snoc X21 N17 g_b13
        have en : n = 2 := by omega
        obtain ⟨fs, hr, hrun, hended, hW, hsame⟩ := X21.leave (v := some (.ref b13)) (fun h => by rw [Bd.returns] at h; cases h)
        refine ⟨_, _, pre11 _ ?_, hrun, hended, _, _, rfl, ?_, ⟨_, rfl⟩, hW, hsame.mono (by decide) (by decide)⟩
        · skip
          show Steps p.tables e below (s₁.setTop (mkF m 25 #[.val (.ref o0), .val (.int (Int32.ofNat n))] [(.int (2 : Int32)), (.int (Int32.ofNat n))])) _
          refine XS.icmpNo X0.here hx rfl (hb hby d9_25) rfl (teq hc12).2 ?_
          show Steps p.tables e below (s₁.setTop (mkF m 28 #[.val (.ref o0), .val (.int (Int32.ofNat n))] [])) _
          refine XS.iconst X0.here hx rfl (hb hby d9_28) ?_
          show Steps p.tables e below (s₁.setTop (mkF m 29 #[.val (.ref o0), .val (.int (Int32.ofNat n))] [(.int (2 : Int32))])) _
          refine st13 _ ?_
          show Steps p.tables e below (T13.setTop (mkF m 31 #[.val (.ref o0), .val (.int (Int32.ofNat n))] [(.ref b13)])) _
          refine XS.dup X13.here hx rfl (hb hby d9_31) rfl rfl ?_
          show Steps p.tables e below (T13.setTop (mkF m 32 #[.val (.ref o0), .val (.int (Int32.ofNat n))] [(.ref b13), (.ref b13)])) _
          refine XS.iconst X13.here hx rfl (hb hby d9_32) ?_
          show Steps p.tables e below (T13.setTop (mkF m 33 #[.val (.ref o0), .val (.int (Int32.ofNat n))] [(.int (0 : Int32)), (.ref b13), (.ref b13)])) _
          refine XS.aloadN X13.here hx rfl (hb hby d9_33) rfl rfl ?_
          show Steps p.tables e below (T13.setTop (mkF m 34 #[.val (.ref o0), .val (.int (Int32.ofNat n))] [(.ref o0), (.int (0 : Int32)), (.ref b13), (.ref b13)])) _
          refine XS.iconst X13.here hx rfl (hb hby d9_34) ?_
          show Steps p.tables e below (T13.setTop (mkF m 35 #[.val (.ref o0), .val (.int (Int32.ofNat n))] [(.int (0 : Int32)), (.ref o0), (.int (0 : Int32)), (.ref b13), (.ref b13)])) _
          refine X13.caload hx (j := (0 : Int32)) (v := (.int (g0 0))) (by rw [e13]; exact Ar14.1) (State.isArrayOf_alike hZ.alike Ar14.2.1) Ar14.2.2 hin14 hat14 (g := (mkF m 35 #[.val (.ref o0), .val (.int (Int32.ofNat n))] [(.int (0 : Int32)), (.ref o0), (.int (0 : Int32)), (.ref b13), (.ref b13)])) rfl rfl (hb hby d9_35) _ ?_
          show Steps p.tables e below (T13.setTop (mkF m 36 #[.val (.ref o0), .val (.int (Int32.ofNat n))] [(.int (g0 0)), (.int (0 : Int32)), (.ref b13), (.ref b13)])) _
          refine st17 _ ?_
          show Steps p.tables e below (T17.setTop (mkF m 37 #[.val (.ref o0), .val (.int (Int32.ofNat n))] [(.ref b13)])) _
          refine XS.dup X17.here hx rfl (hb hby d9_37) rfl rfl ?_
          show Steps p.tables e below (T17.setTop (mkF m 38 #[.val (.ref o0), .val (.int (Int32.ofNat n))] [(.ref b13), (.ref b13)])) _
          refine XS.iconst X17.here hx rfl (hb hby d9_38) ?_
          show Steps p.tables e below (T17.setTop (mkF m 39 #[.val (.ref o0), .val (.int (Int32.ofNat n))] [(.int (1 : Int32)), (.ref b13), (.ref b13)])) _
          refine XS.aloadN X17.here hx rfl (hb hby d9_39) rfl rfl ?_
          show Steps p.tables e below (T17.setTop (mkF m 40 #[.val (.ref o0), .val (.int (Int32.ofNat n))] [(.ref o0), (.int (1 : Int32)), (.ref b13), (.ref b13)])) _
          refine XS.iconst X17.here hx rfl (hb hby d9_40) ?_
          show Steps p.tables e below (T17.setTop (mkF m 41 #[.val (.ref o0), .val (.int (Int32.ofNat n))] [(.int (1 : Int32)), (.ref o0), (.int (1 : Int32)), (.ref b13), (.ref b13)])) _
          refine X17.caload hx (j := (1 : Int32)) (v := (.int (g0 1))) (by rw [e17]; exact Ar18.1) (State.isArrayOf_alike hZ.alike Ar18.2.1) Ar18.2.2 hin18 hat18 (g := (mkF m 41 #[.val (.ref o0), .val (.int (Int32.ofNat n))] [(.int (1 : Int32)), (.ref o0), (.int (1 : Int32)), (.ref b13), (.ref b13)])) rfl rfl (hb hby d9_41) _ ?_
          show Steps p.tables e below (T17.setTop (mkF m 42 #[.val (.ref o0), .val (.int (Int32.ofNat n))] [(.int (g0 1)), (.int (1 : Int32)), (.ref b13), (.ref b13)])) _
          refine st21 _ ?_
          show Steps p.tables e below (T21.setTop (mkF m 43 #[.val (.ref o0), .val (.int (Int32.ofNat n))] [(.ref b13)])) _
          jvm_step X21.here [X21.here.top, hx, (hb hby d9_43), X21.method', Bd.returns, Value.isRef, FieldType.isReference]
          first | (intro acts; rw [hr _ acts rfl rfl rfl]) | rw [hr _ _ rfl rfl rfl]
          exact Steps.refl _
        · show QTa Z n h0 n0 _ T21.heap _
          rw [e21]
          exact ⟨_, k13, g21, rfl, N21, K21, sz_b13, (by rw [en]; exact G21), hg21⟩
      · skip
        have hc12' : ¬ n = 2 := fun q => hc12 ((own_inj (j := 2) (by omega) (by decide)).mpr q)
        have pre22 : ∀ t, Steps p.tables e below (s₁.setTop (mkF m 46 #[.val (.ref o0), .val (.int (Int32.ofNat n))] [(.int (3 : Int32)), (.int (Int32.ofNat n))])) t → Steps p.tables e below (s₁.setTop (entryFrame m #[(.ref o0), (.int (Int32.ofNat n))] 2)) t := by
          intro t kt
          refine pre11 t ?_
          show Steps p.tables e below (s₁.setTop (mkF m 25 #[.val (.ref o0), .val (.int (Int32.ofNat n))] [(.int (2 : Int32)), (.int (Int32.ofNat n))])) _
          refine XS.icmpYes X0.here hx rfl (pc0 := 25) (pc' := 44) rfl (hb hby d9_25) rfl (feq hc12).2 (by decide) (by decide) ?_
          show Steps p.tables e below (s₁.setTop (mkF m 44 #[.val (.ref o0), .val (.int (Int32.ofNat n))] [])) _
          refine XS.iloadN X0.here hx rfl (hb hby d9_44) rfl ?_
          show Steps p.tables e below (s₁.setTop (mkF m 45 #[.val (.ref o0), .val (.int (Int32.ofNat n))] [(.int (Int32.ofNat n))])) _
          refine XS.iconst X0.here hx rfl (hb hby d9_45) ?_
          exact kt
        by_cases hc23 : (Int32.ofNat n) = (3 : Int32)
        · skip
          have hc23' : n = 3 := (own_inj (j := 3) (by omega) (by decide)).mp hc23
          obtain ⟨T24, h24, k24, X24, e24, E24, A24, st24⟩ := newP X0 hx hZ (hw _ (List.mem_of_getElem? (i := 1) rfl)) e0 (g := (mkF m 50 #[.val (.ref o0), .val (.int (Int32.ofNat n))] [(.int (3 : Int32))])) rfl (hb hby d9_50) rfl (by decide) (cap := 3) (by decide) (by decide) (by decide) (by decide)
          obtain ⟨b24, g24⟩ : ∃ z, z = h0.size := ⟨_, rfl⟩
          rw [← g24] at A24 st24
          have g_b24 : n0 ≤ b24 := Nat.le_trans Z0 (Nat.le_of_eq g24.symm)
          have sz_b24 : h0.size ≤ b24 := Nat.le_trans (Keep.refl h0 []).1 (Nat.le_of_eq g24.symm)
          have ne24_o0 : o0 ≠ b24 := Nat.ne_of_lt (Nat.lt_of_lt_of_le (V_c).lt (Nat.le_of_eq g24.symm))
          have Zs24 : n0 ≤ h24.size := Nat.le_trans Z0 E24.1
          have K24 : Keep h0 h24 [] := (Keep.refl h0 []).ext E24
          have G24 : GA Z h24 b24 k24 .char 3 (fun i => .int ((fun _ => (0 : Int32)) i)) := GA.new A24 rfl
          have hg24 : Rg (fun _ => (0 : Int32)) := own_rg0
          have V_c_26 := (V_c.ext E24)
          obtain ⟨cl25, Ar25, qa25, Sa25, Ha25⟩ := id V_c_26
          have hin25 : ¬ ((Int32.ofNat 0) < 0 ∨ cl25.slots.size ≤ (Int32.ofNat 0).toNatClampNeg) := own_inb Sa25 (show 0 < 9 by decide) (show 9 < 2147483648 by decide)
          have hat25 : cl25.slots[(Int32.ofNat 0).toNatClampNeg]? = some (.int (g0 0)) := by rw [own_cl (Nat.lt_trans (show 0 < 9 by decide) (show 9 < 2147483648 by decide))]; exact Ha25 0 (show 0 < 9 by decide)
          obtain ⟨cl27, Ar27, qa27, Sa27, Ha27⟩ := id G24
          have hin27 : ¬ ((Int32.ofNat 0) < 0 ∨ cl27.slots.size ≤ (Int32.ofNat 0).toNatClampNeg) := own_inb Sa27 (show 0 < 3 by decide) (show 3 < 2147483648 by decide)
          obtain ⟨T28, h28, X28, e28, W28, st28⟩ := stC X24 hx hZ e24 Ar27 (j := (0 : Int32)) hin27 (g := (mkF m 57 #[.val (.ref o0), .val (.int (Int32.ofNat n))] [(.int (g0 0)), (.int (0 : Int32)), (.ref b24), (.ref b24)])) rfl rfl (hb hby d9_57)
          obtain ⟨g28, G28, hg28⟩ := own_gset Ar27 qa27 Sa27 Ha27 W28 hg24 (hg0 0)
          have Zs28 : n0 ≤ h28.size := Nat.le_trans Zs24 (Nat.le_of_eq W28.size.symm)
          have K28 : Keep h0 h28 [] := K24.wr W28 (Or.inr sz_b24)
          have N28 := Fr.snoc X28 N0 g_b24
          have V_c_30 := (V_c_26.other W28 ne24_o0)
          obtain ⟨cl29, Ar29, qa29, Sa29, Ha29⟩ := id V_c_30
          have hin29 : ¬ ((Int32.ofNat 1) < 0 ∨ cl29.slots.size ≤ (Int32.ofNat 1).toNatClampNeg) := own_inb Sa29 (show 1 < 9 by decide) (show 9 < 2147483648 by decide)
          have hat29 : cl29.slots[(Int32.ofNat 1).toNatClampNeg]? = some (.int (g0 1)) := by rw [own_cl (Nat.lt_trans (show 1 < 9 by decide) (show 9 < 2147483648 by decide))]; exact Ha29 1 (show 1 < 9 by decide)
          obtain ⟨cl31, Ar31, qa31, Sa31, Ha31⟩ := id G28
          have hin31 : ¬ ((Int32.ofNat 1) < 0 ∨ cl31.slots.size ≤ (Int32.ofNat 1).toNatClampNeg) := own_inb Sa31 (show 1 < 3 by decide) (show 3 < 2147483648 by decide)
          obtain ⟨T32, h32, X32, e32, W32, st32⟩ := stC X28 hx hZ e28 Ar31 (j := (1 : Int32)) hin31 (g := (mkF m 63 #[.val (.ref o0), .val (.int (Int32.ofNat n))] [(.int (g0 1)), (.int (1 : Int32)), (.ref b24), (.ref b24)])) rfl rfl (hb hby d9_63)
          obtain ⟨g32, G32, hg32⟩ := own_gset Ar31 qa31 Sa31 Ha31 W32 hg28 (hg0 1)
          have Zs32 : n0 ≤ h32.size := Nat.le_trans Zs28 (Nat.le_of_eq W32.size.symm)
          have K32 : Keep h0 h32 [] := K28.wr W32 (Or.inr sz_b24)
          have N32 := Fr.snoc X32 N28 g_b24
          have V_c_34 := (V_c_30.other W32 ne24_o0)
          obtain ⟨cl33, Ar33, qa33, Sa33, Ha33⟩ := id V_c_34
          have hin33 : ¬ ((Int32.ofNat 2) < 0 ∨ cl33.slots.size ≤ (Int32.ofNat 2).toNatClampNeg) := own_inb Sa33 (show 2 < 9 by decide) (show 9 < 2147483648 by decide)
          have hat33 : cl33.slots[(Int32.ofNat 2).toNatClampNeg]? = some (.int (g0 2)) := by rw [own_cl (Nat.lt_trans (show 2 < 9 by decide) (show 9 < 2147483648 by decide))]; exact Ha33 2 (show 2 < 9 by decide)
          obtain ⟨cl35, Ar35, qa35, Sa35, Ha35⟩ := id G32
          have hin35 : ¬ ((Int32.ofNat 2) < 0 ∨ cl35.slots.size ≤ (Int32.ofNat 2).toNatClampNeg) := own_inb Sa35 (show 2 < 3 by decide) (show 3 < 2147483648 by decide)
          obtain ⟨T36, h36, X36, e36, W36, st36⟩ := stC X32 hx hZ e32 Ar35 (j := (2 : Int32)) hin35 (g := (mkF m 69 #[.val (.ref o0), .val (.int (Int32.ofNat n))] [(.int (g0 2)), (.int (2 : Int32)), (.ref b24), (.ref b24)])) rfl rfl (hb hby d9_69)
          obtain ⟨g36, G36, hg36⟩ := own_gset Ar35 qa35 Sa35 Ha35 W36 hg32 (hg0 2)
          have Zs36 : n0 ≤ h36.size := Nat.le_trans Zs32 (Nat.le_of_eq W36.size.symm)
          have K36 : Keep h0 h36 [] := K32.wr W36 (Or.inr sz_b24)
          have N36 := Fr.snoc X36 N32 g_b24
          have en : n = 3 := by omega
          obtain ⟨fs, hr, hrun, hended, hW, hsame⟩ := X36.leave (v := some (.ref b24)) (fun h => by rw [Bd.returns] at h; cases h)
          refine ⟨_, _, pre22 _ ?_, hrun, hended, _, _, rfl, ?_, ⟨_, rfl⟩, hW, hsame.mono (by decide) (by decide)⟩
          · skip
            show Steps p.tables e below (s₁.setTop (mkF m 46 #[.val (.ref o0), .val (.int (Int32.ofNat n))] [(.int (3 : Int32)), (.int (Int32.ofNat n))])) _
            refine XS.icmpNo X0.here hx rfl (hb hby d9_46) rfl (teq hc23).2 ?_
            show Steps p.tables e below (s₁.setTop (mkF m 49 #[.val (.ref o0), .val (.int (Int32.ofNat n))] [])) _
            refine XS.iconst X0.here hx rfl (hb hby d9_49) ?_
            show Steps p.tables e below (s₁.setTop (mkF m 50 #[.val (.ref o0), .val (.int (Int32.ofNat n))] [(.int (3 : Int32))])) _
            refine st24 _ ?_
            show Steps p.tables e below (T24.setTop (mkF m 52 #[.val (.ref o0), .val (.int (Int32.ofNat n))] [(.ref b24)])) _
            refine XS.dup X24.here hx rfl (hb hby d9_52) rfl rfl ?_
            show Steps p.tables e below (T24.setTop (mkF m 53 #[.val (.ref o0), .val (.int (Int32.ofNat n))] [(.ref b24), (.ref b24)])) _
            refine XS.iconst X24.here hx rfl (hb hby d9_53) ?_
            show Steps p.tables e below (T24.setTop (mkF m 54 #[.val (.ref o0), .val (.int (Int32.ofNat n))] [(.int (0 : Int32)), (.ref b24), (.ref b24)])) _
            refine XS.aloadN X24.here hx rfl (hb hby d9_54) rfl rfl ?_
            show Steps p.tables e below (T24.setTop (mkF m 55 #[.val (.ref o0), .val (.int (Int32.ofNat n))] [(.ref o0), (.int (0 : Int32)), (.ref b24), (.ref b24)])) _
            refine XS.iconst X24.here hx rfl (hb hby d9_55) ?_
            show Steps p.tables e below (T24.setTop (mkF m 56 #[.val (.ref o0), .val (.int (Int32.ofNat n))] [(.int (0 : Int32)), (.ref o0), (.int (0 : Int32)), (.ref b24), (.ref b24)])) _
            refine X24.caload hx (j := (0 : Int32)) (v := (.int (g0 0))) (by rw [e24]; exact Ar25.1) (State.isArrayOf_alike hZ.alike Ar25.2.1) Ar25.2.2 hin25 hat25 (g := (mkF m 56 #[.val (.ref o0), .val (.int (Int32.ofNat n))] [(.int (0 : Int32)), (.ref o0), (.int (0 : Int32)), (.ref b24), (.ref b24)])) rfl rfl (hb hby d9_56) _ ?_
            show Steps p.tables e below (T24.setTop (mkF m 57 #[.val (.ref o0), .val (.int (Int32.ofNat n))] [(.int (g0 0)), (.int (0 : Int32)), (.ref b24), (.ref b24)])) _
            refine st28 _ ?_
            show Steps p.tables e below (T28.setTop (mkF m 58 #[.val (.ref o0), .val (.int (Int32.ofNat n))] [(.ref b24)])) _
            refine XS.dup X28.here hx rfl (hb hby d9_58) rfl rfl ?_
            show Steps p.tables e below (T28.setTop (mkF m 59 #[.val (.ref o0), .val (.int (Int32.ofNat n))] [(.ref b24), (.ref b24)])) _
            refine XS.iconst X28.here hx rfl (hb hby d9_59) ?_
            show Steps p.tables e below (T28.setTop (mkF m 60 #[.val (.ref o0), .val (.int (Int32.ofNat n))] [(.int (1 : Int32)), (.ref b24), (.ref b24)])) _
            refine XS.aloadN X28.here hx rfl (hb hby d9_60) rfl rfl ?_
            show Steps p.tables e below (T28.setTop (mkF m 61 #[.val (.ref o0), .val (.int (Int32.ofNat n))] [(.ref o0), (.int (1 : Int32)), (.ref b24), (.ref b24)])) _
            refine XS.iconst X28.here hx rfl (hb hby d9_61) ?_
            show Steps p.tables e below (T28.setTop (mkF m 62 #[.val (.ref o0), .val (.int (Int32.ofNat n))] [(.int (1 : Int32)), (.ref o0), (.int (1 : Int32)), (.ref b24), (.ref b24)])) _
            refine X28.caload hx (j := (1 : Int32)) (v := (.int (g0 1))) (by rw [e28]; exact Ar29.1) (State.isArrayOf_alike hZ.alike Ar29.2.1) Ar29.2.2 hin29 hat29 (g := (mkF m 62 #[.val (.ref o0), .val (.int (Int32.ofNat n))] [(.int (1 : Int32)), (.ref o0), (.int (1 : Int32)), (.ref b24), (.ref b24)])) rfl rfl (hb hby d9_62) _ ?_
            show Steps p.tables e below (T28.setTop (mkF m 63 #[.val (.ref o0), .val (.int (Int32.ofNat n))] [(.int (g0 1)), (.int (1 : Int32)), (.ref b24), (.ref b24)])) _
            refine st32 _ ?_
            show Steps p.tables e below (T32.setTop (mkF m 64 #[.val (.ref o0), .val (.int (Int32.ofNat n))] [(.ref b24)])) _
            refine XS.dup X32.here hx rfl (hb hby d9_64) rfl rfl ?_
            show Steps p.tables e below (T32.setTop (mkF m 65 #[.val (.ref o0), .val (.int (Int32.ofNat n))] [(.ref b24), (.ref b24)])) _
            refine XS.iconst X32.here hx rfl (hb hby d9_65) ?_
            show Steps p.tables e below (T32.setTop (mkF m 66 #[.val (.ref o0), .val (.int (Int32.ofNat n))] [(.int (2 : Int32)), (.ref b24), (.ref b24)])) _
            refine XS.aloadN X32.here hx rfl (hb hby d9_66) rfl rfl ?_
            show Steps p.tables e below (T32.setTop (mkF m 67 #[.val (.ref o0), .val (.int (Int32.ofNat n))] [(.ref o0), (.int (2 : Int32)), (.ref b24), (.ref b24)])) _
            refine XS.iconst X32.here hx rfl (hb hby d9_67) ?_
            show Steps p.tables e below (T32.setTop (mkF m 68 #[.val (.ref o0), .val (.int (Int32.ofNat n))] [(.int (2 : Int32)), (.ref o0), (.int (2 : Int32)), (.ref b24), (.ref b24)])) _
            refine X32.caload hx (j := (2 : Int32)) (v := (.int (g0 2))) (by rw [e32]; exact Ar33.1) (State.isArrayOf_alike hZ.alike Ar33.2.1) Ar33.2.2 hin33 hat33 (g := (mkF m 68 #[.val (.ref o0), .val (.int (Int32.ofNat n))] [(.int (2 : Int32)), (.ref o0), (.int (2 : Int32)), (.ref b24), (.ref b24)])) rfl rfl (hb hby d9_68) _ ?_
            show Steps p.tables e below (T32.setTop (mkF m 69 #[.val (.ref o0), .val (.int (Int32.ofNat n))] [(.int (g0 2)), (.int (2 : Int32)), (.ref b24), (.ref b24)])) _
            refine st36 _ ?_
            show Steps p.tables e below (T36.setTop (mkF m 70 #[.val (.ref o0), .val (.int (Int32.ofNat n))] [(.ref b24)])) _
            jvm_step X36.here [X36.here.top, hx, (hb hby d9_70), X36.method', Bd.returns, Value.isRef, FieldType.isReference]
            first | (intro acts; rw [hr _ acts rfl rfl rfl]) | rw [hr _ _ rfl rfl rfl]
            exact Steps.refl _
          · show QTa Z n h0 n0 _ T36.heap _
            rw [e36]
            exact ⟨_, k24, g36, rfl, N36, K36, sz_b24, (by rw [en]; exact G36), hg36⟩
        · skip
          have hc23' : ¬ n = 3 := fun q => hc23 ((own_inj (j := 3) (by omega) (by decide)).mpr q)
          have pre37 : ∀ t, Steps p.tables e below (s₁.setTop (mkF m 73 #[.val (.ref o0), .val (.int (Int32.ofNat n))] [(.int (4 : Int32)), (.int (Int32.ofNat n))])) t → Steps p.tables e below (s₁.setTop (entryFrame m #[(.ref o0), (.int (Int32.ofNat n))] 2)) t := by
            intro t kt
            refine pre22 t ?_
            show Steps p.tables e below (s₁.setTop (mkF m 46 #[.val (.ref o0), .val (.int (Int32.ofNat n))] [(.int (3 : Int32)), (.int (Int32.ofNat n))])) _
            refine XS.icmpYes X0.here hx rfl (pc0 := 46) (pc' := 71) rfl (hb hby d9_46) rfl (feq hc23).2 (by decide) (by decide) ?_
            show Steps p.tables e below (s₁.setTop (mkF m 71 #[.val (.ref o0), .val (.int (Int32.ofNat n))] [])) _
            refine XS.iloadN X0.here hx rfl (hb hby d9_71) rfl ?_
            show Steps p.tables e below (s₁.setTop (mkF m 72 #[.val (.ref o0), .val (.int (Int32.ofNat n))] [(.int (Int32.ofNat n))])) _
            refine XS.iconst X0.here hx rfl (hb hby d9_72) ?_
            exact kt
          by_cases hc38 : (Int32.ofNat n) = (4 : Int32)
          · skip
            have hc38' : n = 4 := (own_inj (j := 4) (by omega) (by decide)).mp hc38
            obtain ⟨T39, h39, k39, X39, e39, E39, A39, st39⟩ := newP X0 hx hZ (hw _ (List.mem_of_getElem? (i := 1) rfl)) e0 (g := (mkF m 77 #[.val (.ref o0), .val (.int (Int32.ofNat n))] [(.int (4 : Int32))])) rfl (hb hby d9_77) rfl (by decide) (cap := 4) (by decide) (by decide) (by decide) (by decide)
            obtain ⟨b39, g39⟩ : ∃ z, z = h0.size := ⟨_, rfl⟩
            rw [← g39] at A39 st39
            have g_b39 : n0 ≤ b39 := Nat.le_trans Z0 (Nat.le_of_eq g39.symm)
            have sz_b39 : h0.size ≤ b39 := Nat.le_trans (Keep.refl h0 []).1 (Nat.le_of_eq g39.symm)
            have ne39_o0 : o0 ≠ b39 := Nat.ne_of_lt (Nat.lt_of_lt_of_le (V_c).lt (Nat.le_of_eq g39.symm))
            have Zs39 : n0 ≤ h39.size := Nat.le_trans Z0 E39.1
            have K39 : Keep h0 h39 [] := (Keep.refl h0 []).ext E39
            have G39 : GA Z h39 b39 k39 .char 4 (fun i => .int ((fun _ => (0 : Int32)) i)) := GA.new A39 rfl
            have hg39 : Rg (fun _ => (0 : Int32)) := own_rg0
            have V_c_41 := (V_c.ext E39)
            obtain ⟨cl40, Ar40, qa40, Sa40, Ha40⟩ := id V_c_41
            have hin40 : ¬ ((Int32.ofNat 0) < 0 ∨ cl40.slots.size ≤ (Int32.ofNat 0).toNatClampNeg) := own_inb Sa40 (show 0 < 9 by decide) (show 9 < 2147483648 by decide)
            have hat40 : cl40.slots[(Int32.ofNat 0).toNatClampNeg]? = some (.int (g0 0)) := by rw [own_cl (Nat.lt_trans (show 0 < 9 by decide) (show 9 < 2147483648 by decide))]; exact Ha40 0 (show 0 < 9 by decide)
            obtain ⟨cl42, Ar42, qa42, Sa42, Ha42⟩ := id G39
            have hin42 : ¬ ((Int32.ofNat 0) < 0 ∨ cl42.slots.size ≤ (Int32.ofNat 0).toNatClampNeg) := own_inb Sa42 (show 0 < 4 by decide) (show 4 < 2147483648 by decide)
            obtain ⟨T43, h43, X43, e43, W43, st43⟩ := stC X39 hx hZ e39 Ar42 (j := (0 : Int32)) hin42 (g := (mkF m 84 #[.val (.ref o0), .val (.int (Int32.ofNat n))] [(.int (g0 0)), (.int (0 : Int32)), (.ref b39), (.ref b39)])) rfl rfl (hb hby d9_84)
            obtain ⟨g43, G43, hg43⟩ := own_gset Ar42 qa42 Sa42 Ha42 W43 hg39 (hg0 0)
            have Zs43 : n0 ≤ h43.size := Nat.le_trans Zs39 (Nat.le_of_eq W43.size.symm)
            have K43 : Keep h0 h43 [] := K39.wr W43 (Or.inr sz_b39)
            have N43 := Fr.snoc X43 N0 g_b39
            have V_c_45 := (V_c_41.other W43 ne39_o0)
            obtain ⟨cl44, Ar44, qa44, Sa44, Ha44⟩ := id V_c_45
            have hin44 : ¬ ((Int32.ofNat 1) < 0 ∨ cl44.slots.size ≤ (Int32.ofNat 1).toNatClampNeg) := own_inb Sa44 (show 1 < 9 by decide) (show 9 < 2147483648 by decide)
            have hat44 : cl44.slots[(Int32.ofNat 1).toNatClampNeg]? = some (.int (g0 1)) := by rw [own_cl (Nat.lt_trans (show 1 < 9 by decide) (show 9 < 2147483648 by decide))]; exact Ha44 1 (show 1 < 9 by decide)
            obtain ⟨cl46, Ar46, qa46, Sa46, Ha46⟩ := id G43
            have hin46 : ¬ ((Int32.ofNat 1) < 0 ∨ cl46.slots.size ≤ (Int32.ofNat 1).toNatClampNeg) := own_inb Sa46 (show 1 < 4 by decide) (show 4 < 2147483648 by decide)
            obtain ⟨T47, h47, X47, e47, W47, st47⟩ := stC X43 hx hZ e43 Ar46 (j := (1 : Int32)) hin46 (g := (mkF m 90 #[.val (.ref o0), .val (.int (Int32.ofNat n))] [(.int (g0 1)), (.int (1 : Int32)), (.ref b39), (.ref b39)])) rfl rfl (hb hby d9_90)
            obtain ⟨g47, G47, hg47⟩ := own_gset Ar46 qa46 Sa46 Ha46 W47 hg43 (hg0 1)
            have Zs47 : n0 ≤ h47.size := Nat.le_trans Zs43 (Nat.le_of_eq W47.size.symm)
            have K47 : Keep h0 h47 [] := K43.wr W47 (Or.inr sz_b39)
            have N47 := Fr.snoc X47 N43 g_b39
            have V_c_49 := (V_c_45.other W47 ne39_o0)
            obtain ⟨cl48, Ar48, qa48, Sa48, Ha48⟩ := id V_c_49
            have hin48 : ¬ ((Int32.ofNat 2) < 0 ∨ cl48.slots.size ≤ (Int32.ofNat 2).toNatClampNeg) := own_inb Sa48 (show 2 < 9 by decide) (show 9 < 2147483648 by decide)
            have hat48 : cl48.slots[(Int32.ofNat 2).toNatClampNeg]? = some (.int (g0 2)) := by rw [own_cl (Nat.lt_trans (show 2 < 9 by decide) (show 9 < 2147483648 by decide))]; exact Ha48 2 (show 2 < 9 by decide)
            obtain ⟨cl50, Ar50, qa50, Sa50, Ha50⟩ := id G47
            have hin50 : ¬ ((Int32.ofNat 2) < 0 ∨ cl50.slots.size ≤ (Int32.ofNat 2).toNatClampNeg) := own_inb Sa50 (show 2 < 4 by decide) (show 4 < 2147483648 by decide)
            obtain ⟨T51, h51, X51, e51, W51, st51⟩ := stC X47 hx hZ e47 Ar50 (j := (2 : Int32)) hin50 (g := (mkF m 96 #[.val (.ref o0), .val (.int (Int32.ofNat n))] [(.int (g0 2)), (.int (2 : Int32)), (.ref b39), (.ref b39)])) rfl rfl (hb hby d9_96)
            obtain ⟨g51, G51, hg51⟩ := own_gset Ar50 qa50 Sa50 Ha50 W51 hg47 (hg0 2)
            have Zs51 : n0 ≤ h51.size := Nat.le_trans Zs47 (Nat.le_of_eq W51.size.symm)
            have K51 : Keep h0 h51 [] := K47.wr W51 (Or.inr sz_b39)
            have N51 := Fr.snoc X51 N47 g_b39
            have V_c_53 := (V_c_49.other W51 ne39_o0)
            obtain ⟨cl52, Ar52, qa52, Sa52, Ha52⟩ := id V_c_53
            have hin52 : ¬ ((Int32.ofNat 3) < 0 ∨ cl52.slots.size ≤ (Int32.ofNat 3).toNatClampNeg) := own_inb Sa52 (show 3 < 9 by decide) (show 9 < 2147483648 by decide)
            have hat52 : cl52.slots[(Int32.ofNat 3).toNatClampNeg]? = some (.int (g0 3)) := by rw [own_cl (Nat.lt_trans (show 3 < 9 by decide) (show 9 < 2147483648 by decide))]; exact Ha52 3 (show 3 < 9 by decide)
            obtain ⟨cl54, Ar54, qa54, Sa54, Ha54⟩ := id G51
            have hin54 : ¬ ((Int32.ofNat 3) < 0 ∨ cl54.slots.size ≤ (Int32.ofNat 3).toNatClampNeg) := own_inb Sa54 (show 3 < 4 by decide) (show 4 < 2147483648 by decide)
            obtain ⟨T55, h55, X55, e55, W55, st55⟩ := stC X51 hx hZ e51 Ar54 (j := (3 : Int32)) hin54 (g := (mkF m 102 #[.val (.ref o0), .val (.int (Int32.ofNat n))] [(.int (g0 3)), (.int (3 : Int32)), (.ref b39), (.ref b39)])) rfl rfl (hb hby d9_102)
            obtain ⟨g55, G55, hg55⟩ := own_gset Ar54 qa54 Sa54 Ha54 W55 hg51 (hg0 3)
            have Zs55 : n0 ≤ h55.size := Nat.le_trans Zs51 (Nat.le_of_eq W55.size.symm)
            have K55 : Keep h0 h55 [] := K51.wr W55 (Or.inr sz_b39)
            have N55 := Fr.snoc X55 N51 g_b39
            have en : n = 4 := by omega
            obtain ⟨fs, hr, hrun, hended, hW, hsame⟩ := X55.leave (v := some (.ref b39)) (fun h => by rw [Bd.returns] at h; cases h)
            refine ⟨_, _, pre37 _ ?_, hrun, hended, _, _, rfl, ?_, ⟨_, rfl⟩, hW, hsame.mono (by decide) (by decide)⟩
            · skip
              show Steps p.tables e below (s₁.setTop (mkF m 73 #[.val (.ref o0), .val (.int (Int32.ofNat n))] [(.int (4 : Int32)), (.int (Int32.ofNat n))])) _
              refine XS.icmpNo X0.here hx rfl (hb hby d9_73) rfl (teq hc38).2 ?_
              show Steps p.tables e below (s₁.setTop (mkF m 76 #[.val (.ref o0), .val (.int (Int32.ofNat n))] [])) _
              refine XS.iconst X0.here hx rfl (hb hby d9_76) ?_
              show Steps p.tables e below (s₁.setTop (mkF m 77 #[.val (.ref o0), .val (.int (Int32.ofNat n))] [(.int (4 : Int32))])) _
              refine st39 _ ?_
              show Steps p.tables e below (T39.setTop (mkF m 79 #[.val (.ref o0), .val (.int (Int32.ofNat n))] [(.ref b39)])) _
              refine XS.dup X39.here hx rfl (hb hby d9_79) rfl rfl ?_
              show Steps p.tables e below (T39.setTop (mkF m 80 #[.val (.ref o0), .val (.int (Int32.ofNat n))] [(.ref b39), (.ref b39)])) _
              refine XS.iconst X39.here hx rfl (hb hby d9_80) ?_
              show Steps p.tables e below (T39.setTop (mkF m 81 #[.val (.ref o0), .val (.int (Int32.ofNat n))] [(.int (0 : Int32)), (.ref b39), (.ref b39)])) _
              refine XS.aloadN X39.here hx rfl (hb hby d9_81) rfl rfl ?_
              show Steps p.tables e below (T39.setTop (mkF m 82 #[.val (.ref o0), .val (.int (Int32.ofNat n))] [(.ref o0), (.int (0 : Int32)), (.ref b39), (.ref b39)])) _
              refine XS.iconst X39.here hx rfl (hb hby d9_82) ?_
              show Steps p.tables e below (T39.setTop (mkF m 83 #[.val (.ref o0), .val (.int (Int32.ofNat n))] [(.int (0 : Int32)), (.ref o0), (.int (0 : Int32)), (.ref b39), (.ref b39)])) _
              refine X39.caload hx (j := (0 : Int32)) (v := (.int (g0 0))) (by rw [e39]; exact Ar40.1) (State.isArrayOf_alike hZ.alike Ar40.2.1) Ar40.2.2 hin40 hat40 (g := (mkF m 83 #[.val (.ref o0), .val (.int (Int32.ofNat n))] [(.int (0 : Int32)), (.ref o0), (.int (0 : Int32)), (.ref b39), (.ref b39)])) rfl rfl (hb hby d9_83) _ ?_
              show Steps p.tables e below (T39.setTop (mkF m 84 #[.val (.ref o0), .val (.int (Int32.ofNat n))] [(.int (g0 0)), (.int (0 : Int32)), (.ref b39), (.ref b39)])) _
              refine st43 _ ?_
              show Steps p.tables e below (T43.setTop (mkF m 85 #[.val (.ref o0), .val (.int (Int32.ofNat n))] [(.ref b39)])) _
              refine XS.dup X43.here hx rfl (hb hby d9_85) rfl rfl ?_
              show Steps p.tables e below (T43.setTop (mkF m 86 #[.val (.ref o0), .val (.int (Int32.ofNat n))] [(.ref b39), (.ref b39)])) _
              refine XS.iconst X43.here hx rfl (hb hby d9_86) ?_
              show Steps p.tables e below (T43.setTop (mkF m 87 #[.val (.ref o0), .val (.int (Int32.ofNat n))] [(.int (1 : Int32)), (.ref b39), (.ref b39)])) _
              refine XS.aloadN X43.here hx rfl (hb hby d9_87) rfl rfl ?_
              show Steps p.tables e below (T43.setTop (mkF m 88 #[.val (.ref o0), .val (.int (Int32.ofNat n))] [(.ref o0), (.int (1 : Int32)), (.ref b39), (.ref b39)])) _
              refine XS.iconst X43.here hx rfl (hb hby d9_88) ?_
              show Steps p.tables e below (T43.setTop (mkF m 89 #[.val (.ref o0), .val (.int (Int32.ofNat n))] [(.int (1 : Int32)), (.ref o0), (.int (1 : Int32)), (.ref b39), (.ref b39)])) _
              refine X43.caload hx (j := (1 : Int32)) (v := (.int (g0 1))) (by rw [e43]; exact Ar44.1) (State.isArrayOf_alike hZ.alike Ar44.2.1) Ar44.2.2 hin44 hat44 (g := (mkF m 89 #[.val (.ref o0), .val (.int (Int32.ofNat n))] [(.int (1 : Int32)), (.ref o0), (.int (1 : Int32)), (.ref b39), (.ref b39)])) rfl rfl (hb hby d9_89) _ ?_
              show Steps p.tables e below (T43.setTop (mkF m 90 #[.val (.ref o0), .val (.int (Int32.ofNat n))] [(.int (g0 1)), (.int (1 : Int32)), (.ref b39), (.ref b39)])) _
              refine st47 _ ?_
              show Steps p.tables e below (T47.setTop (mkF m 91 #[.val (.ref o0), .val (.int (Int32.ofNat n))] [(.ref b39)])) _
              refine XS.dup X47.here hx rfl (hb hby d9_91) rfl rfl ?_
              show Steps p.tables e below (T47.setTop (mkF m 92 #[.val (.ref o0), .val (.int (Int32.ofNat n))] [(.ref b39), (.ref b39)])) _
              refine XS.iconst X47.here hx rfl (hb hby d9_92) ?_
              show Steps p.tables e below (T47.setTop (mkF m 93 #[.val (.ref o0), .val (.int (Int32.ofNat n))] [(.int (2 : Int32)), (.ref b39), (.ref b39)])) _
              refine XS.aloadN X47.here hx rfl (hb hby d9_93) rfl rfl ?_
              show Steps p.tables e below (T47.setTop (mkF m 94 #[.val (.ref o0), .val (.int (Int32.ofNat n))] [(.ref o0), (.int (2 : Int32)), (.ref b39), (.ref b39)])) _
              refine XS.iconst X47.here hx rfl (hb hby d9_94) ?_
              show Steps p.tables e below (T47.setTop (mkF m 95 #[.val (.ref o0), .val (.int (Int32.ofNat n))] [(.int (2 : Int32)), (.ref o0), (.int (2 : Int32)), (.ref b39), (.ref b39)])) _
              refine X47.caload hx (j := (2 : Int32)) (v := (.int (g0 2))) (by rw [e47]; exact Ar48.1) (State.isArrayOf_alike hZ.alike Ar48.2.1) Ar48.2.2 hin48 hat48 (g := (mkF m 95 #[.val (.ref o0), .val (.int (Int32.ofNat n))] [(.int (2 : Int32)), (.ref o0), (.int (2 : Int32)), (.ref b39), (.ref b39)])) rfl rfl (hb hby d9_95) _ ?_
              show Steps p.tables e below (T47.setTop (mkF m 96 #[.val (.ref o0), .val (.int (Int32.ofNat n))] [(.int (g0 2)), (.int (2 : Int32)), (.ref b39), (.ref b39)])) _
              refine st51 _ ?_
              show Steps p.tables e below (T51.setTop (mkF m 97 #[.val (.ref o0), .val (.int (Int32.ofNat n))] [(.ref b39)])) _
              refine XS.dup X51.here hx rfl (hb hby d9_97) rfl rfl ?_
              show Steps p.tables e below (T51.setTop (mkF m 98 #[.val (.ref o0), .val (.int (Int32.ofNat n))] [(.ref b39), (.ref b39)])) _
              refine XS.iconst X51.here hx rfl (hb hby d9_98) ?_
              show Steps p.tables e below (T51.setTop (mkF m 99 #[.val (.ref o0), .val (.int (Int32.ofNat n))] [(.int (3 : Int32)), (.ref b39), (.ref b39)])) _
              refine XS.aloadN X51.here hx rfl (hb hby d9_99) rfl rfl ?_
              show Steps p.tables e below (T51.setTop (mkF m 100 #[.val (.ref o0), .val (.int (Int32.ofNat n))] [(.ref o0), (.int (3 : Int32)), (.ref b39), (.ref b39)])) _
              refine XS.iconst X51.here hx rfl (hb hby d9_100) ?_
              show Steps p.tables e below (T51.setTop (mkF m 101 #[.val (.ref o0), .val (.int (Int32.ofNat n))] [(.int (3 : Int32)), (.ref o0), (.int (3 : Int32)), (.ref b39), (.ref b39)])) _
              refine X51.caload hx (j := (3 : Int32)) (v := (.int (g0 3))) (by rw [e51]; exact Ar52.1) (State.isArrayOf_alike hZ.alike Ar52.2.1) Ar52.2.2 hin52 hat52 (g := (mkF m 101 #[.val (.ref o0), .val (.int (Int32.ofNat n))] [(.int (3 : Int32)), (.ref o0), (.int (3 : Int32)), (.ref b39), (.ref b39)])) rfl rfl (hb hby d9_101) _ ?_
              show Steps p.tables e below (T51.setTop (mkF m 102 #[.val (.ref o0), .val (.int (Int32.ofNat n))] [(.int (g0 3)), (.int (3 : Int32)), (.ref b39), (.ref b39)])) _
              refine st55 _ ?_
              show Steps p.tables e below (T55.setTop (mkF m 103 #[.val (.ref o0), .val (.int (Int32.ofNat n))] [(.ref b39)])) _
              jvm_step X55.here [X55.here.top, hx, (hb hby d9_103), X55.method', Bd.returns, Value.isRef, FieldType.isReference]
              first | (intro acts; rw [hr _ acts rfl rfl rfl]) | rw [hr _ _ rfl rfl rfl]
              exact Steps.refl _
            · show QTa Z n h0 n0 _ T55.heap _
              rw [e55]
              exact ⟨_, k39, g55, rfl, N55, K55, sz_b39, (by rw [en]; exact G55), hg55⟩
          · skip
            have hc38' : ¬ n = 4 := fun q => hc38 ((own_inj (j := 4) (by omega) (by decide)).mpr q)
            have pre56 : ∀ t, Steps p.tables e below (s₁.setTop (mkF m 106 #[.val (.ref o0), .val (.int (Int32.ofNat n))] [(.int (5 : Int32)), (.int (Int32.ofNat n))])) t → Steps p.tables e below (s₁.setTop (entryFrame m #[(.ref o0), (.int (Int32.ofNat n))] 2)) t := by
              intro t kt
              refine pre37 t ?_
              show Steps p.tables e below (s₁.setTop (mkF m 73 #[.val (.ref o0), .val (.int (Int32.ofNat n))] [(.int (4 : Int32)), (.int (Int32.ofNat n))])) _
              refine XS.icmpYes X0.here hx rfl (pc0 := 73) (pc' := 104) rfl (hb hby d9_73) rfl (feq hc38).2 (by decide) (by decide) ?_
              show Steps p.tables e below (s₁.setTop (mkF m 104 #[.val (.ref o0), .val (.int (Int32.ofNat n))] [])) _
              refine XS.iloadN X0.here hx rfl (hb hby d9_104) rfl ?_
              show Steps p.tables e below (s₁.setTop (mkF m 105 #[.val (.ref o0), .val (.int (Int32.ofNat n))] [(.int (Int32.ofNat n))])) _
              refine XS.iconst X0.here hx rfl (hb hby d9_105) ?_
              exact kt
            by_cases hc57 : (Int32.ofNat n) = (5 : Int32)
            · skip
              have hc57' : n = 5 := (own_inj (j := 5) (by omega) (by decide)).mp hc57
              obtain ⟨T58, h58, k58, X58, e58, E58, A58, st58⟩ := newP X0 hx hZ (hw _ (List.mem_of_getElem? (i := 1) rfl)) e0 (g := (mkF m 110 #[.val (.ref o0), .val (.int (Int32.ofNat n))] [(.int (5 : Int32))])) rfl (hb hby d9_110) rfl (by decide) (cap := 5) (by decide) (by decide) (by decide) (by decide)
              obtain ⟨b58, g58⟩ : ∃ z, z = h0.size := ⟨_, rfl⟩
              rw [← g58] at A58 st58
              have g_b58 : n0 ≤ b58 := Nat.le_trans Z0 (Nat.le_of_eq g58.symm)
              have sz_b58 : h0.size ≤ b58 := Nat.le_trans (Keep.refl h0 []).1 (Nat.le_of_eq g58.symm)
              have ne58_o0 : o0 ≠ b58 := Nat.ne_of_lt (Nat.lt_of_lt_of_le (V_c).lt (Nat.le_of_eq g58.symm))
              have Zs58 : n0 ≤ h58.size := Nat.le_trans Z0 E58.1
              have K58 : Keep h0 h58 [] := (Keep.refl h0 []).ext E58
              have G58 : GA Z h58 b58 k58 .char 5 (fun i => .int ((fun _ => (0 : Int32)) i)) := GA.new A58 rfl
              have hg58 : Rg (fun _ => (0 : Int32)) := own_rg0
              have V_c_60 := (V_c.ext E58)
              obtain ⟨cl59, Ar59, qa59, Sa59, Ha59⟩ := id V_c_60
              have hin59 : ¬ ((Int32.ofNat 0) < 0 ∨ cl59.slots.size ≤ (Int32.ofNat 0).toNatClampNeg) := own_inb Sa59 (show 0 < 9 by decide) (show 9 < 2147483648 by decide)
              have hat59 : cl59.slots[(Int32.ofNat 0).toNatClampNeg]? = some (.int (g0 0)) := by rw [own_cl (Nat.lt_trans (show 0 < 9 by decide) (show 9 < 2147483648 by decide))]; exact Ha59 0 (show 0 < 9 by decide)
              obtain ⟨cl61, Ar61, qa61, Sa61, Ha61⟩ := id G58
              have hin61 : ¬ ((Int32.ofNat 0) < 0 ∨ cl61.slots.size ≤ (Int32.ofNat 0).toNatClampNeg) := own_inb Sa61 (show 0 < 5 by decide) (show 5 < 2147483648 by decide)
              obtain ⟨T62, h62, X62, e62, W62, st62⟩ := stC X58 hx hZ e58 Ar61 (j := (0 : Int32)) hin61 (g := (mkF m 117 #[.val (.ref o0), .val (.int (Int32.ofNat n))] [(.int (g0 0)), (.int (0 : Int32)), (.ref b58), (.ref b58)])) rfl rfl (hb hby d9_117)
              obtain ⟨g62, G62, hg62⟩ := own_gset Ar61 qa61 Sa61 Ha61 W62 hg58 (hg0 0)
              have Zs62 : n0 ≤ h62.size := Nat.le_trans Zs58 (Nat.le_of_eq W62.size.symm)
              have K62 : Keep h0 h62 [] := K58.wr W62 (Or.inr sz_b58)
              have N62 := Fr.snoc X62 N0 g_b58
              have V_c_64 := (V_c_60.other W62 ne58_o0)
              obtain ⟨cl63, Ar63, qa63, Sa63, Ha63⟩ := id V_c_64
              have hin63 : ¬ ((Int32.ofNat 1) < 0 ∨ cl63.slots.size ≤ (Int32.ofNat 1).toNatClampNeg) := own_inb Sa63 (show 1 < 9 by decide) (show 9 < 2147483648 by decide)
              have hat63 : cl63.slots[(Int32.ofNat 1).toNatClampNeg]? = some (.int (g0 1)) := by rw [own_cl (Nat.lt_trans (show 1 < 9 by decide) (show 9 < 2147483648 by decide))]; exact Ha63 1 (show 1 < 9 by decide)
              obtain ⟨cl65, Ar65, qa65, Sa65, Ha65⟩ := id G62
              have hin65 : ¬ ((Int32.ofNat 1) < 0 ∨ cl65.slots.size ≤ (Int32.ofNat 1).toNatClampNeg) := own_inb Sa65 (show 1 < 5 by decide) (show 5 < 2147483648 by decide)
              obtain ⟨T66, h66, X66, e66, W66, st66⟩ := stC X62 hx hZ e62 Ar65 (j := (1 : Int32)) hin65 (g := (mkF m 123 #[.val (.ref o0), .val (.int (Int32.ofNat n))] [(.int (g0 1)), (.int (1 : Int32)), (.ref b58), (.ref b58)])) rfl rfl (hb hby d9_123)
              obtain ⟨g66, G66, hg66⟩ := own_gset Ar65 qa65 Sa65 Ha65 W66 hg62 (hg0 1)
              have Zs66 : n0 ≤ h66.size := Nat.le_trans Zs62 (Nat.le_of_eq W66.size.symm)
              have K66 : Keep h0 h66 [] := K62.wr W66 (Or.inr sz_b58)
              have N66 := Fr.snoc X66 N62 g_b58
              have V_c_68 := (V_c_64.other W66 ne58_o0)
              obtain ⟨cl67, Ar67, qa67, Sa67, Ha67⟩ := id V_c_68
              have hin67 : ¬ ((Int32.ofNat 2) < 0 ∨ cl67.slots.size ≤ (Int32.ofNat 2).toNatClampNeg) := own_inb Sa67 (show 2 < 9 by decide) (show 9 < 2147483648 by decide)
              have hat67 : cl67.slots[(Int32.ofNat 2).toNatClampNeg]? = some (.int (g0 2)) := by rw [own_cl (Nat.lt_trans (show 2 < 9 by decide) (show 9 < 2147483648 by decide))]; exact Ha67 2 (show 2 < 9 by decide)
              obtain ⟨cl69, Ar69, qa69, Sa69, Ha69⟩ := id G66
              have hin69 : ¬ ((Int32.ofNat 2) < 0 ∨ cl69.slots.size ≤ (Int32.ofNat 2).toNatClampNeg) := own_inb Sa69 (show 2 < 5 by decide) (show 5 < 2147483648 by decide)
              obtain ⟨T70, h70, X70, e70, W70, st70⟩ := stC X66 hx hZ e66 Ar69 (j := (2 : Int32)) hin69 (g := (mkF m 129 #[.val (.ref o0), .val (.int (Int32.ofNat n))] [(.int (g0 2)), (.int (2 : Int32)), (.ref b58), (.ref b58)])) rfl rfl (hb hby d9_129)
              obtain ⟨g70, G70, hg70⟩ := own_gset Ar69 qa69 Sa69 Ha69 W70 hg66 (hg0 2)
              have Zs70 : n0 ≤ h70.size := Nat.le_trans Zs66 (Nat.le_of_eq W70.size.symm)
              have K70 : Keep h0 h70 [] := K66.wr W70 (Or.inr sz_b58)
              have N70 := Fr.snoc X70 N66 g_b58
              have V_c_72 := (V_c_68.other W70 ne58_o0)
              obtain ⟨cl71, Ar71, qa71, Sa71, Ha71⟩ := id V_c_72
              have hin71 : ¬ ((Int32.ofNat 3) < 0 ∨ cl71.slots.size ≤ (Int32.ofNat 3).toNatClampNeg) := own_inb Sa71 (show 3 < 9 by decide) (show 9 < 2147483648 by decide)
              have hat71 : cl71.slots[(Int32.ofNat 3).toNatClampNeg]? = some (.int (g0 3)) := by rw [own_cl (Nat.lt_trans (show 3 < 9 by decide) (show 9 < 2147483648 by decide))]; exact Ha71 3 (show 3 < 9 by decide)
              obtain ⟨cl73, Ar73, qa73, Sa73, Ha73⟩ := id G70
              have hin73 : ¬ ((Int32.ofNat 3) < 0 ∨ cl73.slots.size ≤ (Int32.ofNat 3).toNatClampNeg) := own_inb Sa73 (show 3 < 5 by decide) (show 5 < 2147483648 by decide)
              obtain ⟨T74, h74, X74, e74, W74, st74⟩ := stC X70 hx hZ e70 Ar73 (j := (3 : Int32)) hin73 (g := (mkF m 135 #[.val (.ref o0), .val (.int (Int32.ofNat n))] [(.int (g0 3)), (.int (3 : Int32)), (.ref b58), (.ref b58)])) rfl rfl (hb hby d9_135)
              obtain ⟨g74, G74, hg74⟩ := own_gset Ar73 qa73 Sa73 Ha73 W74 hg70 (hg0 3)
              have Zs74 : n0 ≤ h74.size := Nat.le_trans Zs70 (Nat.le_of_eq W74.size.symm)
              have K74 : Keep h0 h74 [] := K70.wr W74 (Or.inr sz_b58)
              have N74 := Fr.snoc X74 N70 g_b58
              have V_c_76 := (V_c_72.other W74 ne58_o0)
              obtain ⟨cl75, Ar75, qa75, Sa75, Ha75⟩ := id V_c_76
              have hin75 : ¬ ((Int32.ofNat 4) < 0 ∨ cl75.slots.size ≤ (Int32.ofNat 4).toNatClampNeg) := own_inb Sa75 (show 4 < 9 by decide) (show 9 < 2147483648 by decide)
              have hat75 : cl75.slots[(Int32.ofNat 4).toNatClampNeg]? = some (.int (g0 4)) := by rw [own_cl (Nat.lt_trans (show 4 < 9 by decide) (show 9 < 2147483648 by decide))]; exact Ha75 4 (show 4 < 9 by decide)
              obtain ⟨cl77, Ar77, qa77, Sa77, Ha77⟩ := id G74
              have hin77 : ¬ ((Int32.ofNat 4) < 0 ∨ cl77.slots.size ≤ (Int32.ofNat 4).toNatClampNeg) := own_inb Sa77 (show 4 < 5 by decide) (show 5 < 2147483648 by decide)
              obtain ⟨T78, h78, X78, e78, W78, st78⟩ := stC X74 hx hZ e74 Ar77 (j := (4 : Int32)) hin77 (g := (mkF m 141 #[.val (.ref o0), .val (.int (Int32.ofNat n))] [(.int (g0 4)), (.int (4 : Int32)), (.ref b58), (.ref b58)])) rfl rfl (hb hby d9_141)
              obtain ⟨g78, G78, hg78⟩ := own_gset Ar77 qa77 Sa77 Ha77 W78 hg74 (hg0 4)
              have Zs78 : n0 ≤ h78.size := Nat.le_trans Zs74 (Nat.le_of_eq W78.size.symm)
              have K78 : Keep h0 h78 [] := K74.wr W78 (Or.inr sz_b58)
              have N78 := Fr.snoc X78 N74 g_b58
              have en : n = 5 := by omega
              obtain ⟨fs, hr, hrun, hended, hW, hsame⟩ := X78.leave (v := some (.ref b58)) (fun h => by rw [Bd.returns] at h; cases h)
              refine ⟨_, _, pre56 _ ?_, hrun, hended, _, _, rfl, ?_, ⟨_, rfl⟩, hW, hsame.mono (by decide) (by decide)⟩
              · skip
                show Steps p.tables e below (s₁.setTop (mkF m 106 #[.val (.ref o0), .val (.int (Int32.ofNat n))] [(.int (5 : Int32)), (.int (Int32.ofNat n))])) _
                refine XS.icmpNo X0.here hx rfl (hb hby d9_106) rfl (teq hc57).2 ?_
                show Steps p.tables e below (s₁.setTop (mkF m 109 #[.val (.ref o0), .val (.int (Int32.ofNat n))] [])) _
                refine XS.iconst X0.here hx rfl (hb hby d9_109) ?_
                show Steps p.tables e below (s₁.setTop (mkF m 110 #[.val (.ref o0), .val (.int (Int32.ofNat n))] [(.int (5 : Int32))])) _
                refine st58 _ ?_
                show Steps p.tables e below (T58.setTop (mkF m 112 #[.val (.ref o0), .val (.int (Int32.ofNat n))] [(.ref b58)])) _
                refine XS.dup X58.here hx rfl (hb hby d9_112) rfl rfl ?_
                show Steps p.tables e below (T58.setTop (mkF m 113 #[.val (.ref o0), .val (.int (Int32.ofNat n))] [(.ref b58), (.ref b58)])) _
                refine XS.iconst X58.here hx rfl (hb hby d9_113) ?_
                show Steps p.tables e below (T58.setTop (mkF m 114 #[.val (.ref o0), .val (.int (Int32.ofNat n))] [(.int (0 : Int32)), (.ref b58), (.ref b58)])) _
                refine XS.aloadN X58.here hx rfl (hb hby d9_114) rfl rfl ?_
                show Steps p.tables e below (T58.setTop (mkF m 115 #[.val (.ref o0), .val (.int (Int32.ofNat n))] [(.ref o0), (.int (0 : Int32)), (.ref b58), (.ref b58)])) _
                refine XS.iconst X58.here hx rfl (hb hby d9_115) ?_
                show Steps p.tables e below (T58.setTop (mkF m 116 #[.val (.ref o0), .val (.int (Int32.ofNat n))] [(.int (0 : Int32)), (.ref o0), (.int (0 : Int32)), (.ref b58), (.ref b58)])) _
                refine X58.caload hx (j := (0 : Int32)) (v := (.int (g0 0))) (by rw [e58]; exact Ar59.1) (State.isArrayOf_alike hZ.alike Ar59.2.1) Ar59.2.2 hin59 hat59 (g := (mkF m 116 #[.val (.ref o0), .val (.int (Int32.ofNat n))] [(.int (0 : Int32)), (.ref o0), (.int (0 : Int32)), (.ref b58), (.ref b58)])) rfl rfl (hb hby d9_116) _ ?_
                show Steps p.tables e below (T58.setTop (mkF m 117 #[.val (.ref o0), .val (.int (Int32.ofNat n))] [(.int (g0 0)), (.int (0 : Int32)), (.ref b58), (.ref b58)])) _
                refine st62 _ ?_
                show Steps p.tables e below (T62.setTop (mkF m 118 #[.val (.ref o0), .val (.int (Int32.ofNat n))] [(.ref b58)])) _
                refine XS.dup X62.here hx rfl (hb hby d9_118) rfl rfl ?_
                show Steps p.tables e below (T62.setTop (mkF m 119 #[.val (.ref o0), .val (.int (Int32.ofNat n))] [(.ref b58), (.ref b58)])) _
                refine XS.iconst X62.here hx rfl (hb hby d9_119) ?_
                show Steps p.tables e below (T62.setTop (mkF m 120 #[.val (.ref o0), .val (.int (Int32.ofNat n))] [(.int (1 : Int32)), (.ref b58), (.ref b58)])) _
                refine XS.aloadN X62.here hx rfl (hb hby d9_120) rfl rfl ?_
                show Steps p.tables e below (T62.setTop (mkF m 121 #[.val (.ref o0), .val (.int (Int32.ofNat n))] [(.ref o0), (.int (1 : Int32)), (.ref b58), (.ref b58)])) _
                refine XS.iconst X62.here hx rfl (hb hby d9_121) ?_
                show Steps p.tables e below (T62.setTop (mkF m 122 #[.val (.ref o0), .val (.int (Int32.ofNat n))] [(.int (1 : Int32)), (.ref o0), (.int (1 : Int32)), (.ref b58), (.ref b58)])) _
                refine X62.caload hx (j := (1 : Int32)) (v := (.int (g0 1))) (by rw [e62]; exact Ar63.1) (State.isArrayOf_alike hZ.alike Ar63.2.1) Ar63.2.2 hin63 hat63 (g := (mkF m 122 #[.val (.ref o0), .val (.int (Int32.ofNat n))] [(.int (1 : Int32)), (.ref o0), (.int (1 : Int32)), (.ref b58), (.ref b58)])) rfl rfl (hb hby d9_122) _ ?_
                show Steps p.tables e below (T62.setTop (mkF m 123 #[.val (.ref o0), .val (.int (Int32.ofNat n))] [(.int (g0 1)), (.int (1 : Int32)), (.ref b58), (.ref b58)])) _
                refine st66 _ ?_
                show Steps p.tables e below (T66.setTop (mkF m 124 #[.val (.ref o0), .val (.int (Int32.ofNat n))] [(.ref b58)])) _
                refine XS.dup X66.here hx rfl (hb hby d9_124) rfl rfl ?_
                show Steps p.tables e below (T66.setTop (mkF m 125 #[.val (.ref o0), .val (.int (Int32.ofNat n))] [(.ref b58), (.ref b58)])) _
                refine XS.iconst X66.here hx rfl (hb hby d9_125) ?_
                show Steps p.tables e below (T66.setTop (mkF m 126 #[.val (.ref o0), .val (.int (Int32.ofNat n))] [(.int (2 : Int32)), (.ref b58), (.ref b58)])) _
                refine XS.aloadN X66.here hx rfl (hb hby d9_126) rfl rfl ?_
                show Steps p.tables e below (T66.setTop (mkF m 127 #[.val (.ref o0), .val (.int (Int32.ofNat n))] [(.ref o0), (.int (2 : Int32)), (.ref b58), (.ref b58)])) _
                refine XS.iconst X66.here hx rfl (hb hby d9_127) ?_
                show Steps p.tables e below (T66.setTop (mkF m 128 #[.val (.ref o0), .val (.int (Int32.ofNat n))] [(.int (2 : Int32)), (.ref o0), (.int (2 : Int32)), (.ref b58), (.ref b58)])) _
                refine X66.caload hx (j := (2 : Int32)) (v := (.int (g0 2))) (by rw [e66]; exact Ar67.1) (State.isArrayOf_alike hZ.alike Ar67.2.1) Ar67.2.2 hin67 hat67 (g := (mkF m 128 #[.val (.ref o0), .val (.int (Int32.ofNat n))] [(.int (2 : Int32)), (.ref o0), (.int (2 : Int32)), (.ref b58), (.ref b58)])) rfl rfl (hb hby d9_128) _ ?_
                show Steps p.tables e below (T66.setTop (mkF m 129 #[.val (.ref o0), .val (.int (Int32.ofNat n))] [(.int (g0 2)), (.int (2 : Int32)), (.ref b58), (.ref b58)])) _
                refine st70 _ ?_
                show Steps p.tables e below (T70.setTop (mkF m 130 #[.val (.ref o0), .val (.int (Int32.ofNat n))] [(.ref b58)])) _
                refine XS.dup X70.here hx rfl (hb hby d9_130) rfl rfl ?_
                show Steps p.tables e below (T70.setTop (mkF m 131 #[.val (.ref o0), .val (.int (Int32.ofNat n))] [(.ref b58), (.ref b58)])) _
                refine XS.iconst X70.here hx rfl (hb hby d9_131) ?_
                show Steps p.tables e below (T70.setTop (mkF m 132 #[.val (.ref o0), .val (.int (Int32.ofNat n))] [(.int (3 : Int32)), (.ref b58), (.ref b58)])) _
                refine XS.aloadN X70.here hx rfl (hb hby d9_132) rfl rfl ?_
                show Steps p.tables e below (T70.setTop (mkF m 133 #[.val (.ref o0), .val (.int (Int32.ofNat n))] [(.ref o0), (.int (3 : Int32)), (.ref b58), (.ref b58)])) _
                refine XS.iconst X70.here hx rfl (hb hby d9_133) ?_
                show Steps p.tables e below (T70.setTop (mkF m 134 #[.val (.ref o0), .val (.int (Int32.ofNat n))] [(.int (3 : Int32)), (.ref o0), (.int (3 : Int32)), (.ref b58), (.ref b58)])) _
                refine X70.caload hx (j := (3 : Int32)) (v := (.int (g0 3))) (by rw [e70]; exact Ar71.1) (State.isArrayOf_alike hZ.alike Ar71.2.1) Ar71.2.2 hin71 hat71 (g := (mkF m 134 #[.val (.ref o0), .val (.int (Int32.ofNat n))] [(.int (3 : Int32)), (.ref o0), (.int (3 : Int32)), (.ref b58), (.ref b58)])) rfl rfl (hb hby d9_134) _ ?_
                show Steps p.tables e below (T70.setTop (mkF m 135 #[.val (.ref o0), .val (.int (Int32.ofNat n))] [(.int (g0 3)), (.int (3 : Int32)), (.ref b58), (.ref b58)])) _
                refine st74 _ ?_
                show Steps p.tables e below (T74.setTop (mkF m 136 #[.val (.ref o0), .val (.int (Int32.ofNat n))] [(.ref b58)])) _
                refine XS.dup X74.here hx rfl (hb hby d9_136) rfl rfl ?_
                show Steps p.tables e below (T74.setTop (mkF m 137 #[.val (.ref o0), .val (.int (Int32.ofNat n))] [(.ref b58), (.ref b58)])) _
                refine XS.iconst X74.here hx rfl (hb hby d9_137) ?_
                show Steps p.tables e below (T74.setTop (mkF m 138 #[.val (.ref o0), .val (.int (Int32.ofNat n))] [(.int (4 : Int32)), (.ref b58), (.ref b58)])) _
                refine XS.aloadN X74.here hx rfl (hb hby d9_138) rfl rfl ?_
                show Steps p.tables e below (T74.setTop (mkF m 139 #[.val (.ref o0), .val (.int (Int32.ofNat n))] [(.ref o0), (.int (4 : Int32)), (.ref b58), (.ref b58)])) _
                refine XS.iconst X74.here hx rfl (hb hby d9_139) ?_
                show Steps p.tables e below (T74.setTop (mkF m 140 #[.val (.ref o0), .val (.int (Int32.ofNat n))] [(.int (4 : Int32)), (.ref o0), (.int (4 : Int32)), (.ref b58), (.ref b58)])) _
                refine X74.caload hx (j := (4 : Int32)) (v := (.int (g0 4))) (by rw [e74]; exact Ar75.1) (State.isArrayOf_alike hZ.alike Ar75.2.1) Ar75.2.2 hin75 hat75 (g := (mkF m 140 #[.val (.ref o0), .val (.int (Int32.ofNat n))] [(.int (4 : Int32)), (.ref o0), (.int (4 : Int32)), (.ref b58), (.ref b58)])) rfl rfl (hb hby d9_140) _ ?_
                show Steps p.tables e below (T74.setTop (mkF m 141 #[.val (.ref o0), .val (.int (Int32.ofNat n))] [(.int (g0 4)), (.int (4 : Int32)), (.ref b58), (.ref b58)])) _
                refine st78 _ ?_
                show Steps p.tables e below (T78.setTop (mkF m 142 #[.val (.ref o0), .val (.int (Int32.ofNat n))] [(.ref b58)])) _
                jvm_step X78.here [X78.here.top, hx, (hb hby d9_142), X78.method', Bd.returns, Value.isRef, FieldType.isReference]
                first | (intro acts; rw [hr _ acts rfl rfl rfl]) | rw [hr _ _ rfl rfl rfl]
                exact Steps.refl _
              · show QTa Z n h0 n0 _ T78.heap _
                rw [e78]
                exact ⟨_, k58, g78, rfl, N78, K78, sz_b58, (by rw [en]; exact G78), hg78⟩
            · skip
              have hc57' : ¬ n = 5 := fun q => hc57 ((own_inj (j := 5) (by omega) (by decide)).mpr q)
              have pre79 : ∀ t, Steps p.tables e below (s₁.setTop (mkF m 146 #[.val (.ref o0), .val (.int (Int32.ofNat n))] [(.int (6 : Int32)), (.int (Int32.ofNat n))])) t → Steps p.tables e below (s₁.setTop (entryFrame m #[(.ref o0), (.int (Int32.ofNat n))] 2)) t := by
                intro t kt
                refine pre56 t ?_
                show Steps p.tables e below (s₁.setTop (mkF m 106 #[.val (.ref o0), .val (.int (Int32.ofNat n))] [(.int (5 : Int32)), (.int (Int32.ofNat n))])) _
                refine XS.icmpYes X0.here hx rfl (pc0 := 106) (pc' := 143) rfl (hb hby d9_106) rfl (feq hc57).2 (by decide) (by decide) ?_
                show Steps p.tables e below (s₁.setTop (mkF m 143 #[.val (.ref o0), .val (.int (Int32.ofNat n))] [])) _
                refine XS.iloadN X0.here hx rfl (hb hby d9_143) rfl ?_
                show Steps p.tables e below (s₁.setTop (mkF m 144 #[.val (.ref o0), .val (.int (Int32.ofNat n))] [(.int (Int32.ofNat n))])) _
                refine XS.bipush X0.here hx rfl (hb hby d9_144) ?_
                exact kt
              by_cases hc80 : (Int32.ofNat n) = (6 : Int32)
              · skip
                have hc80' : n = 6 := (own_inj (j := 6) (by omega) (by decide)).mp hc80
                obtain ⟨T81, h81, k81, X81, e81, E81, A81, st81⟩ := newP X0 hx hZ (hw _ (List.mem_of_getElem? (i := 1) rfl)) e0 (g := (mkF m 151 #[.val (.ref o0), .val (.int (Int32.ofNat n))] [(.int (6 : Int32))])) rfl (hb hby d9_151) rfl (by decide) (cap := 6) (by decide) (by decide) (by decide) (by decide)
                obtain ⟨b81, g81⟩ : ∃ z, z = h0.size := ⟨_, rfl⟩
                rw [← g81] at A81 st81
                have g_b81 : n0 ≤ b81 := Nat.le_trans Z0 (Nat.le_of_eq g81.symm)
                have sz_b81 : h0.size ≤ b81 := Nat.le_trans (Keep.refl h0 []).1 (Nat.le_of_eq g81.symm)
                have ne81_o0 : o0 ≠ b81 := Nat.ne_of_lt (Nat.lt_of_lt_of_le (V_c).lt (Nat.le_of_eq g81.symm))
                have Zs81 : n0 ≤ h81.size := Nat.le_trans Z0 E81.1
                have K81 : Keep h0 h81 [] := (Keep.refl h0 []).ext E81
                have G81 : GA Z h81 b81 k81 .char 6 (fun i => .int ((fun _ => (0 : Int32)) i)) := GA.new A81 rfl
                have hg81 : Rg (fun _ => (0 : Int32)) := own_rg0
                have V_c_83 := (V_c.ext E81)
                obtain ⟨cl82, Ar82, qa82, Sa82, Ha82⟩ := id V_c_83
                have hin82 : ¬ ((Int32.ofNat 0) < 0 ∨ cl82.slots.size ≤ (Int32.ofNat 0).toNatClampNeg) := own_inb Sa82 (show 0 < 9 by decide) (show 9 < 2147483648 by decide)
                have hat82 : cl82.slots[(Int32.ofNat 0).toNatClampNeg]? = some (.int (g0 0)) := by rw [own_cl (Nat.lt_trans (show 0 < 9 by decide) (show 9 < 2147483648 by decide))]; exact Ha82 0 (show 0 < 9 by decide)
                obtain ⟨cl84, Ar84, qa84, Sa84, Ha84⟩ := id G81
                have hin84 : ¬ ((Int32.ofNat 0) < 0 ∨ cl84.slots.size ≤ (Int32.ofNat 0).toNatClampNeg) := own_inb Sa84 (show 0 < 6 by decide) (show 6 < 2147483648 by decide)
                obtain ⟨T85, h85, X85, e85, W85, st85⟩ := stC X81 hx hZ e81 Ar84 (j := (0 : Int32)) hin84 (g := (mkF m 158 #[.val (.ref o0), .val (.int (Int32.ofNat n))] [(.int (g0 0)), (.int (0 : Int32)), (.ref b81), (.ref b81)])) rfl rfl (hb hby d9_158)
                obtain ⟨g85, G85, hg85⟩ := own_gset Ar84 qa84 Sa84 Ha84 W85 hg81 (hg0 0)
                have Zs85 : n0 ≤ h85.size := Nat.le_trans Zs81 (Nat.le_of_eq W85.size.symm)
                have K85 : Keep h0 h85 [] := K81.wr W85 (Or.inr sz_b81)
                have N85 := Fr.snoc X85 N0 g_b81
                have V_c_87 := (V_c_83.other W85 ne81_o0)
                obtain ⟨cl86, Ar86, qa86, Sa86, Ha86⟩ := id V_c_87
                have hin86 : ¬ ((Int32.ofNat 1) < 0 ∨ cl86.slots.size ≤ (Int32.ofNat 1).toNatClampNeg) := own_inb Sa86 (show 1 < 9 by decide) (show 9 < 2147483648 by decide)
                have hat86 : cl86.slots[(Int32.ofNat 1).toNatClampNeg]? = some (.int (g0 1)) := by rw [own_cl (Nat.lt_trans (show 1 < 9 by decide) (show 9 < 2147483648 by decide))]; exact Ha86 1 (show 1 < 9 by decide)
                obtain ⟨cl88, Ar88, qa88, Sa88, Ha88⟩ := id G85
                have hin88 : ¬ ((Int32.ofNat 1) < 0 ∨ cl88.slots.size ≤ (Int32.ofNat 1).toNatClampNeg) := own_inb Sa88 (show 1 < 6 by decide) (show 6 < 2147483648 by decide)
                obtain ⟨T89, h89, X89, e89, W89, st89⟩ := stC X85 hx hZ e85 Ar88 (j := (1 : Int32)) hin88 (g := (mkF m 164 #[.val (.ref o0), .val (.int (Int32.ofNat n))] [(.int (g0 1)), (.int (1 : Int32)), (.ref b81), (.ref b81)])) rfl rfl (hb hby d9_164)
                obtain ⟨g89, G89, hg89⟩ := own_gset Ar88 qa88 Sa88 Ha88 W89 hg85 (hg0 1)
                have Zs89 : n0 ≤ h89.size := Nat.le_trans Zs85 (Nat.le_of_eq W89.size.symm)
                have K89 : Keep h0 h89 [] := K85.wr W89 (Or.inr sz_b81)
                have N89 := Fr.snoc X89 N85 g_b81
                have V_c_91 := (V_c_87.other W89 ne81_o0)
                obtain ⟨cl90, Ar90, qa90, Sa90, Ha90⟩ := id V_c_91
                have hin90 : ¬ ((Int32.ofNat 2) < 0 ∨ cl90.slots.size ≤ (Int32.ofNat 2).toNatClampNeg) := own_inb Sa90 (show 2 < 9 by decide) (show 9 < 2147483648 by decide)
                have hat90 : cl90.slots[(Int32.ofNat 2).toNatClampNeg]? = some (.int (g0 2)) := by rw [own_cl (Nat.lt_trans (show 2 < 9 by decide) (show 9 < 2147483648 by decide))]; exact Ha90 2 (show 2 < 9 by decide)
                obtain ⟨cl92, Ar92, qa92, Sa92, Ha92⟩ := id G89
                have hin92 : ¬ ((Int32.ofNat 2) < 0 ∨ cl92.slots.size ≤ (Int32.ofNat 2).toNatClampNeg) := own_inb Sa92 (show 2 < 6 by decide) (show 6 < 2147483648 by decide)
                obtain ⟨T93, h93, X93, e93, W93, st93⟩ := stC X89 hx hZ e89 Ar92 (j := (2 : Int32)) hin92 (g := (mkF m 170 #[.val (.ref o0), .val (.int (Int32.ofNat n))] [(.int (g0 2)), (.int (2 : Int32)), (.ref b81), (.ref b81)])) rfl rfl (hb hby d9_170)
                obtain ⟨g93, G93, hg93⟩ := own_gset Ar92 qa92 Sa92 Ha92 W93 hg89 (hg0 2)
                have Zs93 : n0 ≤ h93.size := Nat.le_trans Zs89 (Nat.le_of_eq W93.size.symm)
                have K93 : Keep h0 h93 [] := K89.wr W93 (Or.inr sz_b81)
                have N93 := Fr.snoc X93 N89 g_b81
                have V_c_95 := (V_c_91.other W93 ne81_o0)
                obtain ⟨cl94, Ar94, qa94, Sa94, Ha94⟩ := id V_c_95
                have hin94 : ¬ ((Int32.ofNat 3) < 0 ∨ cl94.slots.size ≤ (Int32.ofNat 3).toNatClampNeg) := own_inb Sa94 (show 3 < 9 by decide) (show 9 < 2147483648 by decide)
                have hat94 : cl94.slots[(Int32.ofNat 3).toNatClampNeg]? = some (.int (g0 3)) := by rw [own_cl (Nat.lt_trans (show 3 < 9 by decide) (show 9 < 2147483648 by decide))]; exact Ha94 3 (show 3 < 9 by decide)
                obtain ⟨cl96, Ar96, qa96, Sa96, Ha96⟩ := id G93
                have hin96 : ¬ ((Int32.ofNat 3) < 0 ∨ cl96.slots.size ≤ (Int32.ofNat 3).toNatClampNeg) := own_inb Sa96 (show 3 < 6 by decide) (show 6 < 2147483648 by decide)
                obtain ⟨T97, h97, X97, e97, W97, st97⟩ := stC X93 hx hZ e93 Ar96 (j := (3 : Int32)) hin96 (g := (mkF m 176 #[.val (.ref o0), .val (.int (Int32.ofNat n))] [(.int (g0 3)), (.int (3 : Int32)), (.ref b81), (.ref b81)])) rfl rfl (hb hby d9_176)
                obtain ⟨g97, G97, hg97⟩ := own_gset Ar96 qa96 Sa96 Ha96 W97 hg93 (hg0 3)
                have Zs97 : n0 ≤ h97.size := Nat.le_trans Zs93 (Nat.le_of_eq W97.size.symm)
                have K97 : Keep h0 h97 [] := K93.wr W97 (Or.inr sz_b81)
                have N97 := Fr.snoc X97 N93 g_b81
                have V_c_99 := (V_c_95.other W97 ne81_o0)
                obtain ⟨cl98, Ar98, qa98, Sa98, Ha98⟩ := id V_c_99
                have hin98 : ¬ ((Int32.ofNat 4) < 0 ∨ cl98.slots.size ≤ (Int32.ofNat 4).toNatClampNeg) := own_inb Sa98 (show 4 < 9 by decide) (show 9 < 2147483648 by decide)
                have hat98 : cl98.slots[(Int32.ofNat 4).toNatClampNeg]? = some (.int (g0 4)) := by rw [own_cl (Nat.lt_trans (show 4 < 9 by decide) (show 9 < 2147483648 by decide))]; exact Ha98 4 (show 4 < 9 by decide)
                obtain ⟨cl100, Ar100, qa100, Sa100, Ha100⟩ := id G97
                have hin100 : ¬ ((Int32.ofNat 4) < 0 ∨ cl100.slots.size ≤ (Int32.ofNat 4).toNatClampNeg) := own_inb Sa100 (show 4 < 6 by decide) (show 6 < 2147483648 by decide)
                obtain ⟨T101, h101, X101, e101, W101, st101⟩ := stC X97 hx hZ e97 Ar100 (j := (4 : Int32)) hin100 (g := (mkF m 182 #[.val (.ref o0), .val (.int (Int32.ofNat n))] [(.int (g0 4)), (.int (4 : Int32)), (.ref b81), (.ref b81)])) rfl rfl (hb hby d9_182)
                obtain ⟨g101, G101, hg101⟩ := own_gset Ar100 qa100 Sa100 Ha100 W101 hg97 (hg0 4)
                have Zs101 : n0 ≤ h101.size := Nat.le_trans Zs97 (Nat.le_of_eq W101.size.symm)
                have K101 : Keep h0 h101 [] := K97.wr W101 (Or.inr sz_b81)
                have N101 := Fr.snoc X101 N97 g_b81
                have V_c_103 := (V_c_99.other W101 ne81_o0)
                obtain ⟨cl102, Ar102, qa102, Sa102, Ha102⟩ := id V_c_103
                have hin102 : ¬ ((Int32.ofNat 5) < 0 ∨ cl102.slots.size ≤ (Int32.ofNat 5).toNatClampNeg) := own_inb Sa102 (show 5 < 9 by decide) (show 9 < 2147483648 by decide)
                have hat102 : cl102.slots[(Int32.ofNat 5).toNatClampNeg]? = some (.int (g0 5)) := by rw [own_cl (Nat.lt_trans (show 5 < 9 by decide) (show 9 < 2147483648 by decide))]; exact Ha102 5 (show 5 < 9 by decide)
                obtain ⟨cl104, Ar104, qa104, Sa104, Ha104⟩ := id G101
                have hin104 : ¬ ((Int32.ofNat 5) < 0 ∨ cl104.slots.size ≤ (Int32.ofNat 5).toNatClampNeg) := own_inb Sa104 (show 5 < 6 by decide) (show 6 < 2147483648 by decide)
                obtain ⟨T105, h105, X105, e105, W105, st105⟩ := stC X101 hx hZ e101 Ar104 (j := (5 : Int32)) hin104 (g := (mkF m 188 #[.val (.ref o0), .val (.int (Int32.ofNat n))] [(.int (g0 5)), (.int (5 : Int32)), (.ref b81), (.ref b81)])) rfl rfl (hb hby d9_188)
                obtain ⟨g105, G105, hg105⟩ := own_gset Ar104 qa104 Sa104 Ha104 W105 hg101 (hg0 5)
                have Zs105 : n0 ≤ h105.size := Nat.le_trans Zs101 (Nat.le_of_eq W105.size.symm)
                have K105 : Keep h0 h105 [] := K101.wr W105 (Or.inr sz_b81)
                have N105 := Fr.snoc X105 N101 g_b81
                have en : n = 6 := by omega
                obtain ⟨fs, hr, hrun, hended, hW, hsame⟩ := X105.leave (v := some (.ref b81)) (fun h => by rw [Bd.returns] at h; cases h)
                refine ⟨_, _, pre79 _ ?_, hrun, hended, _, _, rfl, ?_, ⟨_, rfl⟩, hW, hsame.mono (by decide) (by decide)⟩
                · skip
                  show Steps p.tables e below (s₁.setTop (mkF m 146 #[.val (.ref o0), .val (.int (Int32.ofNat n))] [(.int (6 : Int32)), (.int (Int32.ofNat n))])) _
                  refine XS.icmpNo X0.here hx rfl (hb hby d9_146) rfl (teq hc80).2 ?_
                  show Steps p.tables e below (s₁.setTop (mkF m 149 #[.val (.ref o0), .val (.int (Int32.ofNat n))] [])) _
                  refine XS.bipush X0.here hx rfl (hb hby d9_149) ?_
                  show Steps p.tables e below (s₁.setTop (mkF m 151 #[.val (.ref o0), .val (.int (Int32.ofNat n))] [(.int (6 : Int32))])) _
                  refine st81 _ ?_
                  show Steps p.tables e below (T81.setTop (mkF m 153 #[.val (.ref o0), .val (.int (Int32.ofNat n))] [(.ref b81)])) _
                  refine XS.dup X81.here hx rfl (hb hby d9_153) rfl rfl ?_
                  show Steps p.tables e below (T81.setTop (mkF m 154 #[.val (.ref o0), .val (.int (Int32.ofNat n))] [(.ref b81), (.ref b81)])) _
                  refine XS.iconst X81.here hx rfl (hb hby d9_154) ?_
                  show Steps p.tables e below (T81.setTop (mkF m 155 #[.val (.ref o0), .val (.int (Int32.ofNat n))] [(.int (0 : Int32)), (.ref b81), (.ref b81)])) _
                  refine XS.aloadN X81.here hx rfl (hb hby d9_155) rfl rfl ?_
                  show Steps p.tables e below (T81.setTop (mkF m 156 #[.val (.ref o0), .val (.int (Int32.ofNat n))] [(.ref o0), (.int (0 : Int32)), (.ref b81), (.ref b81)])) _
                  refine XS.iconst X81.here hx rfl (hb hby d9_156) ?_
                  show Steps p.tables e below (T81.setTop (mkF m 157 #[.val (.ref o0), .val (.int (Int32.ofNat n))] [(.int (0 : Int32)), (.ref o0), (.int (0 : Int32)), (.ref b81), (.ref b81)])) _
                  refine X81.caload hx (j := (0 : Int32)) (v := (.int (g0 0))) (by rw [e81]; exact Ar82.1) (State.isArrayOf_alike hZ.alike Ar82.2.1) Ar82.2.2 hin82 hat82 (g := (mkF m 157 #[.val (.ref o0), .val (.int (Int32.ofNat n))] [(.int (0 : Int32)), (.ref o0), (.int (0 : Int32)), (.ref b81), (.ref b81)])) rfl rfl (hb hby d9_157) _ ?_
                  show Steps p.tables e below (T81.setTop (mkF m 158 #[.val (.ref o0), .val (.int (Int32.ofNat n))] [(.int (g0 0)), (.int (0 : Int32)), (.ref b81), (.ref b81)])) _
                  refine st85 _ ?_
                  show Steps p.tables e below (T85.setTop (mkF m 159 #[.val (.ref o0), .val (.int (Int32.ofNat n))] [(.ref b81)])) _
                  refine XS.dup X85.here hx rfl (hb hby d9_159) rfl rfl ?_
                  show Steps p.tables e below (T85.setTop (mkF m 160 #[.val (.ref o0), .val (.int (Int32.ofNat n))] [(.ref b81), (.ref b81)])) _
                  refine XS.iconst X85.here hx rfl (hb hby d9_160) ?_
                  show Steps p.tables e below (T85.setTop (mkF m 161 #[.val (.ref o0), .val (.int (Int32.ofNat n))] [(.int (1 : Int32)), (.ref b81), (.ref b81)])) _
                  refine XS.aloadN X85.here hx rfl (hb hby d9_161) rfl rfl ?_
                  show Steps p.tables e below (T85.setTop (mkF m 162 #[.val (.ref o0), .val (.int (Int32.ofNat n))] [(.ref o0), (.int (1 : Int32)), (.ref b81), (.ref b81)])) _
                  refine XS.iconst X85.here hx rfl (hb hby d9_162) ?_
                  show Steps p.tables e below (T85.setTop (mkF m 163 #[.val (.ref o0), .val (.int (Int32.ofNat n))] [(.int (1 : Int32)), (.ref o0), (.int (1 : Int32)), (.ref b81), (.ref b81)])) _
                  refine X85.caload hx (j := (1 : Int32)) (v := (.int (g0 1))) (by rw [e85]; exact Ar86.1) (State.isArrayOf_alike hZ.alike Ar86.2.1) Ar86.2.2 hin86 hat86 (g := (mkF m 163 #[.val (.ref o0), .val (.int (Int32.ofNat n))] [(.int (1 : Int32)), (.ref o0), (.int (1 : Int32)), (.ref b81), (.ref b81)])) rfl rfl (hb hby d9_163) _ ?_
                  show Steps p.tables e below (T85.setTop (mkF m 164 #[.val (.ref o0), .val (.int (Int32.ofNat n))] [(.int (g0 1)), (.int (1 : Int32)), (.ref b81), (.ref b81)])) _
                  refine st89 _ ?_
                  show Steps p.tables e below (T89.setTop (mkF m 165 #[.val (.ref o0), .val (.int (Int32.ofNat n))] [(.ref b81)])) _
                  refine XS.dup X89.here hx rfl (hb hby d9_165) rfl rfl ?_
                  show Steps p.tables e below (T89.setTop (mkF m 166 #[.val (.ref o0), .val (.int (Int32.ofNat n))] [(.ref b81), (.ref b81)])) _
                  refine XS.iconst X89.here hx rfl (hb hby d9_166) ?_
                  show Steps p.tables e below (T89.setTop (mkF m 167 #[.val (.ref o0), .val (.int (Int32.ofNat n))] [(.int (2 : Int32)), (.ref b81), (.ref b81)])) _
                  refine XS.aloadN X89.here hx rfl (hb hby d9_167) rfl rfl ?_
                  show Steps p.tables e below (T89.setTop (mkF m 168 #[.val (.ref o0), .val (.int (Int32.ofNat n))] [(.ref o0), (.int (2 : Int32)), (.ref b81), (.ref b81)])) _
                  refine XS.iconst X89.here hx rfl (hb hby d9_168) ?_
                  show Steps p.tables e below (T89.setTop (mkF m 169 #[.val (.ref o0), .val (.int (Int32.ofNat n))] [(.int (2 : Int32)), (.ref o0), (.int (2 : Int32)), (.ref b81), (.ref b81)])) _
                  refine X89.caload hx (j := (2 : Int32)) (v := (.int (g0 2))) (by rw [e89]; exact Ar90.1) (State.isArrayOf_alike hZ.alike Ar90.2.1) Ar90.2.2 hin90 hat90 (g := (mkF m 169 #[.val (.ref o0), .val (.int (Int32.ofNat n))] [(.int (2 : Int32)), (.ref o0), (.int (2 : Int32)), (.ref b81), (.ref b81)])) rfl rfl (hb hby d9_169) _ ?_
                  show Steps p.tables e below (T89.setTop (mkF m 170 #[.val (.ref o0), .val (.int (Int32.ofNat n))] [(.int (g0 2)), (.int (2 : Int32)), (.ref b81), (.ref b81)])) _
                  refine st93 _ ?_
                  show Steps p.tables e below (T93.setTop (mkF m 171 #[.val (.ref o0), .val (.int (Int32.ofNat n))] [(.ref b81)])) _
                  refine XS.dup X93.here hx rfl (hb hby d9_171) rfl rfl ?_
                  show Steps p.tables e below (T93.setTop (mkF m 172 #[.val (.ref o0), .val (.int (Int32.ofNat n))] [(.ref b81), (.ref b81)])) _
                  refine XS.iconst X93.here hx rfl (hb hby d9_172) ?_
                  show Steps p.tables e below (T93.setTop (mkF m 173 #[.val (.ref o0), .val (.int (Int32.ofNat n))] [(.int (3 : Int32)), (.ref b81), (.ref b81)])) _
                  refine XS.aloadN X93.here hx rfl (hb hby d9_173) rfl rfl ?_
                  show Steps p.tables e below (T93.setTop (mkF m 174 #[.val (.ref o0), .val (.int (Int32.ofNat n))] [(.ref o0), (.int (3 : Int32)), (.ref b81), (.ref b81)])) _
                  refine XS.iconst X93.here hx rfl (hb hby d9_174) ?_
                  show Steps p.tables e below (T93.setTop (mkF m 175 #[.val (.ref o0), .val (.int (Int32.ofNat n))] [(.int (3 : Int32)), (.ref o0), (.int (3 : Int32)), (.ref b81), (.ref b81)])) _
                  refine X93.caload hx (j := (3 : Int32)) (v := (.int (g0 3))) (by rw [e93]; exact Ar94.1) (State.isArrayOf_alike hZ.alike Ar94.2.1) Ar94.2.2 hin94 hat94 (g := (mkF m 175 #[.val (.ref o0), .val (.int (Int32.ofNat n))] [(.int (3 : Int32)), (.ref o0), (.int (3 : Int32)), (.ref b81), (.ref b81)])) rfl rfl (hb hby d9_175) _ ?_
                  show Steps p.tables e below (T93.setTop (mkF m 176 #[.val (.ref o0), .val (.int (Int32.ofNat n))] [(.int (g0 3)), (.int (3 : Int32)), (.ref b81), (.ref b81)])) _
                  refine st97 _ ?_
                  show Steps p.tables e below (T97.setTop (mkF m 177 #[.val (.ref o0), .val (.int (Int32.ofNat n))] [(.ref b81)])) _
                  refine XS.dup X97.here hx rfl (hb hby d9_177) rfl rfl ?_
                  show Steps p.tables e below (T97.setTop (mkF m 178 #[.val (.ref o0), .val (.int (Int32.ofNat n))] [(.ref b81), (.ref b81)])) _
                  refine XS.iconst X97.here hx rfl (hb hby d9_178) ?_
                  show Steps p.tables e below (T97.setTop (mkF m 179 #[.val (.ref o0), .val (.int (Int32.ofNat n))] [(.int (4 : Int32)), (.ref b81), (.ref b81)])) _
                  refine XS.aloadN X97.here hx rfl (hb hby d9_179) rfl rfl ?_
                  show Steps p.tables e below (T97.setTop (mkF m 180 #[.val (.ref o0), .val (.int (Int32.ofNat n))] [(.ref o0), (.int (4 : Int32)), (.ref b81), (.ref b81)])) _
                  refine XS.iconst X97.here hx rfl (hb hby d9_180) ?_
                  show Steps p.tables e below (T97.setTop (mkF m 181 #[.val (.ref o0), .val (.int (Int32.ofNat n))] [(.int (4 : Int32)), (.ref o0), (.int (4 : Int32)), (.ref b81), (.ref b81)])) _
                  refine X97.caload hx (j := (4 : Int32)) (v := (.int (g0 4))) (by rw [e97]; exact Ar98.1) (State.isArrayOf_alike hZ.alike Ar98.2.1) Ar98.2.2 hin98 hat98 (g := (mkF m 181 #[.val (.ref o0), .val (.int (Int32.ofNat n))] [(.int (4 : Int32)), (.ref o0), (.int (4 : Int32)), (.ref b81), (.ref b81)])) rfl rfl (hb hby d9_181) _ ?_
                  show Steps p.tables e below (T97.setTop (mkF m 182 #[.val (.ref o0), .val (.int (Int32.ofNat n))] [(.int (g0 4)), (.int (4 : Int32)), (.ref b81), (.ref b81)])) _
                  refine st101 _ ?_
                  show Steps p.tables e below (T101.setTop (mkF m 183 #[.val (.ref o0), .val (.int (Int32.ofNat n))] [(.ref b81)])) _
                  refine XS.dup X101.here hx rfl (hb hby d9_183) rfl rfl ?_
                  show Steps p.tables e below (T101.setTop (mkF m 184 #[.val (.ref o0), .val (.int (Int32.ofNat n))] [(.ref b81), (.ref b81)])) _
                  refine XS.iconst X101.here hx rfl (hb hby d9_184) ?_
                  show Steps p.tables e below (T101.setTop (mkF m 185 #[.val (.ref o0), .val (.int (Int32.ofNat n))] [(.int (5 : Int32)), (.ref b81), (.ref b81)])) _
                  refine XS.aloadN X101.here hx rfl (hb hby d9_185) rfl rfl ?_
                  show Steps p.tables e below (T101.setTop (mkF m 186 #[.val (.ref o0), .val (.int (Int32.ofNat n))] [(.ref o0), (.int (5 : Int32)), (.ref b81), (.ref b81)])) _
                  refine XS.iconst X101.here hx rfl (hb hby d9_186) ?_
                  show Steps p.tables e below (T101.setTop (mkF m 187 #[.val (.ref o0), .val (.int (Int32.ofNat n))] [(.int (5 : Int32)), (.ref o0), (.int (5 : Int32)), (.ref b81), (.ref b81)])) _
                  refine X101.caload hx (j := (5 : Int32)) (v := (.int (g0 5))) (by rw [e101]; exact Ar102.1) (State.isArrayOf_alike hZ.alike Ar102.2.1) Ar102.2.2 hin102 hat102 (g := (mkF m 187 #[.val (.ref o0), .val (.int (Int32.ofNat n))] [(.int (5 : Int32)), (.ref o0), (.int (5 : Int32)), (.ref b81), (.ref b81)])) rfl rfl (hb hby d9_187) _ ?_
                  show Steps p.tables e below (T101.setTop (mkF m 188 #[.val (.ref o0), .val (.int (Int32.ofNat n))] [(.int (g0 5)), (.int (5 : Int32)), (.ref b81), (.ref b81)])) _
                  refine st105 _ ?_
                  show Steps p.tables e below (T105.setTop (mkF m 189 #[.val (.ref o0), .val (.int (Int32.ofNat n))] [(.ref b81)])) _
                  jvm_step X105.here [X105.here.top, hx, (hb hby d9_189), X105.method', Bd.returns, Value.isRef, FieldType.isReference]
                  first | (intro acts; rw [hr _ acts rfl rfl rfl]) | rw [hr _ _ rfl rfl rfl]
                  exact Steps.refl _
                · show QTa Z n h0 n0 _ T105.heap _
                  rw [e105]
                  exact ⟨_, k81, g105, rfl, N105, K105, sz_b81, (by rw [en]; exact G105), hg105⟩
              · skip
                have hc80' : ¬ n = 6 := fun q => hc80 ((own_inj (j := 6) (by omega) (by decide)).mpr q)
                have pre106 : ∀ t, Steps p.tables e below (s₁.setTop (mkF m 193 #[.val (.ref o0), .val (.int (Int32.ofNat n))] [(.int (7 : Int32)), (.int (Int32.ofNat n))])) t → Steps p.tables e below (s₁.setTop (entryFrame m #[(.ref o0), (.int (Int32.ofNat n))] 2)) t := by
                  intro t kt
                  refine pre79 t ?_
                  show Steps p.tables e below (s₁.setTop (mkF m 146 #[.val (.ref o0), .val (.int (Int32.ofNat n))] [(.int (6 : Int32)), (.int (Int32.ofNat n))])) _
                  refine XS.icmpYes X0.here hx rfl (pc0 := 146) (pc' := 190) rfl (hb hby d9_146) rfl (feq hc80).2 (by decide) (by decide) ?_
                  show Steps p.tables e below (s₁.setTop (mkF m 190 #[.val (.ref o0), .val (.int (Int32.ofNat n))] [])) _
                  refine XS.iloadN X0.here hx rfl (hb hby d9_190) rfl ?_
                  show Steps p.tables e below (s₁.setTop (mkF m 191 #[.val (.ref o0), .val (.int (Int32.ofNat n))] [(.int (Int32.ofNat n))])) _
                  refine XS.bipush X0.here hx rfl (hb hby d9_191) ?_
                  exact kt
                by_cases hc107 : (Int32.ofNat n) = (7 : Int32)
                · skip
                  have hc107' : n = 7 := (own_inj (j := 7) (by omega) (by decide)).mp hc107
                  obtain ⟨T108, h108, k108, X108, e108, E108, A108, st108⟩ := newP X0 hx hZ (hw _ (List.mem_of_getElem? (i := 1) rfl)) e0 (g := (mkF m 198 #[.val (.ref o0), .val (.int (Int32.ofNat n))] [(.int (7 : Int32))])) rfl (hb hby d9_198) rfl (by decide) (cap := 7) (by decide) (by decide) (by decide) (by decide)
                  obtain ⟨b108, g108⟩ : ∃ z, z = h0.size := ⟨_, rfl⟩
                  rw [← g108] at A108 st108
                  have g_b108 : n0 ≤ b108 := Nat.le_trans Z0 (Nat.le_of_eq g108.symm)
                  have sz_b108 : h0.size ≤ b108 := Nat.le_trans (Keep.refl h0 []).1 (Nat.le_of_eq g108.symm)
                  have ne108_o0 : o0 ≠ b108 := Nat.ne_of_lt (Nat.lt_of_lt_of_le (V_c).lt (Nat.le_of_eq g108.symm))
                  have Zs108 : n0 ≤ h108.size := Nat.le_trans Z0 E108.1
                  have K108 : Keep h0 h108 [] := (Keep.refl h0 []).ext E108
                  have G108 : GA Z h108 b108 k108 .char 7 (fun i => .int ((fun _ => (0 : Int32)) i)) := GA.new A108 rfl
                  have hg108 : Rg (fun _ => (0 : Int32)) := own_rg0
                  have V_c_110 := (V_c.ext E108)
                  obtain ⟨cl109, Ar109, qa109, Sa109, Ha109⟩ := id V_c_110
                  have hin109 : ¬ ((Int32.ofNat 0) < 0 ∨ cl109.slots.size ≤ (Int32.ofNat 0).toNatClampNeg) := own_inb Sa109 (show 0 < 9 by decide) (show 9 < 2147483648 by decide)
                  have hat109 : cl109.slots[(Int32.ofNat 0).toNatClampNeg]? = some (.int (g0 0)) := by rw [own_cl (Nat.lt_trans (show 0 < 9 by decide) (show 9 < 2147483648 by decide))]; exact Ha109 0 (show 0 < 9 by decide)
                  obtain ⟨cl111, Ar111, qa111, Sa111, Ha111⟩ := id G108
                  have hin111 : ¬ ((Int32.ofNat 0) < 0 ∨ cl111.slots.size ≤ (Int32.ofNat 0).toNatClampNeg) := own_inb Sa111 (show 0 < 7 by decide) (show 7 < 2147483648 by decide)
                  obtain ⟨T112, h112, X112, e112, W112, st112⟩ := stC X108 hx hZ e108 Ar111 (j := (0 : Int32)) hin111 (g := (mkF m 205 #[.val (.ref o0), .val (.int (Int32.ofNat n))] [(.int (g0 0)), (.int (0 : Int32)), (.ref b108), (.ref b108)])) rfl rfl (hb hby d9_205)
                  obtain ⟨g112, G112, hg112⟩ := own_gset Ar111 qa111 Sa111 Ha111 W112 hg108 (hg0 0)
                  have Zs112 : n0 ≤ h112.size := Nat.le_trans Zs108 (Nat.le_of_eq W112.size.symm)
                  have K112 : Keep h0 h112 [] := K108.wr W112 (Or.inr sz_b108)
                  have N112 := Fr.snoc X112 N0 g_b108
                  have V_c_114 := (V_c_110.other W112 ne108_o0)
                  obtain ⟨cl113, Ar113, qa113, Sa113, Ha113⟩ := id V_c_114
                  have hin113 : ¬ ((Int32.ofNat 1) < 0 ∨ cl113.slots.size ≤ (Int32.ofNat 1).toNatClampNeg) := own_inb Sa113 (show 1 < 9 by decide) (show 9 < 2147483648 by decide)
                  have hat113 : cl113.slots[(Int32.ofNat 1).toNatClampNeg]? = some (.int (g0 1)) := by rw [own_cl (Nat.lt_trans (show 1 < 9 by decide) (show 9 < 2147483648 by decide))]; exact Ha113 1 (show 1 < 9 by decide)
                  obtain ⟨cl115, Ar115, qa115, Sa115, Ha115⟩ := id G112
                  have hin115 : ¬ ((Int32.ofNat 1) < 0 ∨ cl115.slots.size ≤ (Int32.ofNat 1).toNatClampNeg) := own_inb Sa115 (show 1 < 7 by decide) (show 7 < 2147483648 by decide)
                  obtain ⟨T116, h116, X116, e116, W116, st116⟩ := stC X112 hx hZ e112 Ar115 (j := (1 : Int32)) hin115 (g := (mkF m 211 #[.val (.ref o0), .val (.int (Int32.ofNat n))] [(.int (g0 1)), (.int (1 : Int32)), (.ref b108), (.ref b108)])) rfl rfl (hb hby d9_211)
                  obtain ⟨g116, G116, hg116⟩ := own_gset Ar115 qa115 Sa115 Ha115 W116 hg112 (hg0 1)
                  have Zs116 : n0 ≤ h116.size := Nat.le_trans Zs112 (Nat.le_of_eq W116.size.symm)
                  have K116 : Keep h0 h116 [] := K112.wr W116 (Or.inr sz_b108)
                  have N116 := Fr.snoc X116 N112 g_b108
                  have V_c_118 := (V_c_114.other W116 ne108_o0)
                  obtain ⟨cl117, Ar117, qa117, Sa117, Ha117⟩ := id V_c_118
                  have hin117 : ¬ ((Int32.ofNat 2) < 0 ∨ cl117.slots.size ≤ (Int32.ofNat 2).toNatClampNeg) := own_inb Sa117 (show 2 < 9 by decide) (show 9 < 2147483648 by decide)
                  have hat117 : cl117.slots[(Int32.ofNat 2).toNatClampNeg]? = some (.int (g0 2)) := by rw [own_cl (Nat.lt_trans (show 2 < 9 by decide) (show 9 < 2147483648 by decide))]; exact Ha117 2 (show 2 < 9 by decide)
                  obtain ⟨cl119, Ar119, qa119, Sa119, Ha119⟩ := id G116
                  have hin119 : ¬ ((Int32.ofNat 2) < 0 ∨ cl119.slots.size ≤ (Int32.ofNat 2).toNatClampNeg) := own_inb Sa119 (show 2 < 7 by decide) (show 7 < 2147483648 by decide)
                  obtain ⟨T120, h120, X120, e120, W120, st120⟩ := stC X116 hx hZ e116 Ar119 (j := (2 : Int32)) hin119 (g := (mkF m 217 #[.val (.ref o0), .val (.int (Int32.ofNat n))] [(.int (g0 2)), (.int (2 : Int32)), (.ref b108), (.ref b108)])) rfl rfl (hb hby d9_217)
                  obtain ⟨g120, G120, hg120⟩ := own_gset Ar119 qa119 Sa119 Ha119 W120 hg116 (hg0 2)
                  have Zs120 : n0 ≤ h120.size := Nat.le_trans Zs116 (Nat.le_of_eq W120.size.symm)
                  have K120 : Keep h0 h120 [] := K116.wr W120 (Or.inr sz_b108)
                  have N120 := Fr.snoc X120 N116 g_b108
                  have V_c_122 := (V_c_118.other W120 ne108_o0)
                  obtain ⟨cl121, Ar121, qa121, Sa121, Ha121⟩ := id V_c_122
                  have hin121 : ¬ ((Int32.ofNat 3) < 0 ∨ cl121.slots.size ≤ (Int32.ofNat 3).toNatClampNeg) := own_inb Sa121 (show 3 < 9 by decide) (show 9 < 2147483648 by decide)
                  have hat121 : cl121.slots[(Int32.ofNat 3).toNatClampNeg]? = some (.int (g0 3)) := by rw [own_cl (Nat.lt_trans (show 3 < 9 by decide) (show 9 < 2147483648 by decide))]; exact Ha121 3 (show 3 < 9 by decide)
                  obtain ⟨cl123, Ar123, qa123, Sa123, Ha123⟩ := id G120
                  have hin123 : ¬ ((Int32.ofNat 3) < 0 ∨ cl123.slots.size ≤ (Int32.ofNat 3).toNatClampNeg) := own_inb Sa123 (show 3 < 7 by decide) (show 7 < 2147483648 by decide)
                  obtain ⟨T124, h124, X124, e124, W124, st124⟩ := stC X120 hx hZ e120 Ar123 (j := (3 : Int32)) hin123 (g := (mkF m 223 #[.val (.ref o0), .val (.int (Int32.ofNat n))] [(.int (g0 3)), (.int (3 : Int32)), (.ref b108), (.ref b108)])) rfl rfl (hb hby d9_223)
                  obtain ⟨g124, G124, hg124⟩ := own_gset Ar123 qa123 Sa123 Ha123 W124 hg120 (hg0 3)
                  have Zs124 : n0 ≤ h124.size := Nat.le_trans Zs120 (Nat.le_of_eq W124.size.symm)
                  have K124 : Keep h0 h124 [] := K120.wr W124 (Or.inr sz_b108)
                  have N124 := Fr.snoc X124 N120 g_b108
                  have V_c_126 := (V_c_122.other W124 ne108_o0)
                  obtain ⟨cl125, Ar125, qa125, Sa125, Ha125⟩ := id V_c_126
                  have hin125 : ¬ ((Int32.ofNat 4) < 0 ∨ cl125.slots.size ≤ (Int32.ofNat 4).toNatClampNeg) := own_inb Sa125 (show 4 < 9 by decide) (show 9 < 2147483648 by decide)
                  have hat125 : cl125.slots[(Int32.ofNat 4).toNatClampNeg]? = some (.int (g0 4)) := by rw [own_cl (Nat.lt_trans (show 4 < 9 by decide) (show 9 < 2147483648 by decide))]; exact Ha125 4 (show 4 < 9 by decide)
                  obtain ⟨cl127, Ar127, qa127, Sa127, Ha127⟩ := id G124
                  have hin127 : ¬ ((Int32.ofNat 4) < 0 ∨ cl127.slots.size ≤ (Int32.ofNat 4).toNatClampNeg) := own_inb Sa127 (show 4 < 7 by decide) (show 7 < 2147483648 by decide)
                  obtain ⟨T128, h128, X128, e128, W128, st128⟩ := stC X124 hx hZ e124 Ar127 (j := (4 : Int32)) hin127 (g := (mkF m 229 #[.val (.ref o0), .val (.int (Int32.ofNat n))] [(.int (g0 4)), (.int (4 : Int32)), (.ref b108), (.ref b108)])) rfl rfl (hb hby d9_229)
                  obtain ⟨g128, G128, hg128⟩ := own_gset Ar127 qa127 Sa127 Ha127 W128 hg124 (hg0 4)
                  have Zs128 : n0 ≤ h128.size := Nat.le_trans Zs124 (Nat.le_of_eq W128.size.symm)
                  have K128 : Keep h0 h128 [] := K124.wr W128 (Or.inr sz_b108)
                  have N128 := Fr.snoc X128 N124 g_b108
                  have V_c_130 := (V_c_126.other W128 ne108_o0)
                  obtain ⟨cl129, Ar129, qa129, Sa129, Ha129⟩ := id V_c_130
                  have hin129 : ¬ ((Int32.ofNat 5) < 0 ∨ cl129.slots.size ≤ (Int32.ofNat 5).toNatClampNeg) := own_inb Sa129 (show 5 < 9 by decide) (show 9 < 2147483648 by decide)
                  have hat129 : cl129.slots[(Int32.ofNat 5).toNatClampNeg]? = some (.int (g0 5)) := by rw [own_cl (Nat.lt_trans (show 5 < 9 by decide) (show 9 < 2147483648 by decide))]; exact Ha129 5 (show 5 < 9 by decide)
                  obtain ⟨cl131, Ar131, qa131, Sa131, Ha131⟩ := id G128
                  have hin131 : ¬ ((Int32.ofNat 5) < 0 ∨ cl131.slots.size ≤ (Int32.ofNat 5).toNatClampNeg) := own_inb Sa131 (show 5 < 7 by decide) (show 7 < 2147483648 by decide)
                  obtain ⟨T132, h132, X132, e132, W132, st132⟩ := stC X128 hx hZ e128 Ar131 (j := (5 : Int32)) hin131 (g := (mkF m 235 #[.val (.ref o0), .val (.int (Int32.ofNat n))] [(.int (g0 5)), (.int (5 : Int32)), (.ref b108), (.ref b108)])) rfl rfl (hb hby d9_235)
                  obtain ⟨g132, G132, hg132⟩ := own_gset Ar131 qa131 Sa131 Ha131 W132 hg128 (hg0 5)
                  have Zs132 : n0 ≤ h132.size := Nat.le_trans Zs128 (Nat.le_of_eq W132.size.symm)
                  have K132 : Keep h0 h132 [] := K128.wr W132 (Or.inr sz_b108)
                  have N132 := Fr.snoc X132 N128 g_b108
                  have V_c_134 := (V_c_130.other W132 ne108_o0)
                  obtain ⟨cl133, Ar133, qa133, Sa133, Ha133⟩ := id V_c_134
                  have hin133 : ¬ ((Int32.ofNat 6) < 0 ∨ cl133.slots.size ≤ (Int32.ofNat 6).toNatClampNeg) := own_inb Sa133 (show 6 < 9 by decide) (show 9 < 2147483648 by decide)
                  have hat133 : cl133.slots[(Int32.ofNat 6).toNatClampNeg]? = some (.int (g0 6)) := by rw [own_cl (Nat.lt_trans (show 6 < 9 by decide) (show 9 < 2147483648 by decide))]; exact Ha133 6 (show 6 < 9 by decide)
                  obtain ⟨cl135, Ar135, qa135, Sa135, Ha135⟩ := id G132
                  have hin135 : ¬ ((Int32.ofNat 6) < 0 ∨ cl135.slots.size ≤ (Int32.ofNat 6).toNatClampNeg) := own_inb Sa135 (show 6 < 7 by decide) (show 7 < 2147483648 by decide)
                  obtain ⟨T136, h136, X136, e136, W136, st136⟩ := stC X132 hx hZ e132 Ar135 (j := (6 : Int32)) hin135 (g := (mkF m 243 #[.val (.ref o0), .val (.int (Int32.ofNat n))] [(.int (g0 6)), (.int (6 : Int32)), (.ref b108), (.ref b108)])) rfl rfl (hb hby d9_243)
                  obtain ⟨g136, G136, hg136⟩ := own_gset Ar135 qa135 Sa135 Ha135 W136 hg132 (hg0 6)
                  have Zs136 : n0 ≤ h136.size := Nat.le_trans Zs132 (Nat.le_of_eq W136.size.symm)
                  have K136 : Keep h0 h136 [] := K132.wr W136 (Or.inr sz_b108)
                  have N136 := Fr.snoc X136 N132 g_b108
                  have en : n = 7 := by omega
                  obtain ⟨fs, hr, hrun, hended, hW, hsame⟩ := X136.leave (v := some (.ref b108)) (fun h => by rw [Bd.returns] at h; cases h)
                  refine ⟨_, _, pre106 _ ?_, hrun, hended, _, _, rfl, ?_, ⟨_, rfl⟩, hW, hsame.mono (by decide) (by decide)⟩
                  · skip
                    show Steps p.tables e below (s₁.setTop (mkF m 193 #[.val (.ref o0), .val (.int (Int32.ofNat n))] [(.int (7 : Int32)), (.int (Int32.ofNat n))])) _
                    refine XS.icmpNo X0.here hx rfl (hb hby d9_193) rfl (teq hc107).2 ?_
                    show Steps p.tables e below (s₁.setTop (mkF m 196 #[.val (.ref o0), .val (.int (Int32.ofNat n))] [])) _
                    refine XS.bipush X0.here hx rfl (hb hby d9_196) ?_
                    show Steps p.tables e below (s₁.setTop (mkF m 198 #[.val (.ref o0), .val (.int (Int32.ofNat n))] [(.int (7 : Int32))])) _
                    refine st108 _ ?_
                    show Steps p.tables e below (T108.setTop (mkF m 200 #[.val (.ref o0), .val (.int (Int32.ofNat n))] [(.ref b108)])) _
                    refine XS.dup X108.here hx rfl (hb hby d9_200) rfl rfl ?_
                    show Steps p.tables e below (T108.setTop (mkF m 201 #[.val (.ref o0), .val (.int (Int32.ofNat n))] [(.ref b108), (.ref b108)])) _
                    refine XS.iconst X108.here hx rfl (hb hby d9_201) ?_
                    show Steps p.tables e below (T108.setTop (mkF m 202 #[.val (.ref o0), .val (.int (Int32.ofNat n))] [(.int (0 : Int32)), (.ref b108), (.ref b108)])) _
                    refine XS.aloadN X108.here hx rfl (hb hby d9_202) rfl rfl ?_
                    show Steps p.tables e below (T108.setTop (mkF m 203 #[.val (.ref o0), .val (.int (Int32.ofNat n))] [(.ref o0), (.int (0 : Int32)), (.ref b108), (.ref b108)])) _
                    refine XS.iconst X108.here hx rfl (hb hby d9_203) ?_
                    show Steps p.tables e below (T108.setTop (mkF m 204 #[.val (.ref o0), .val (.int (Int32.ofNat n))] [(.int (0 : Int32)), (.ref o0), (.int (0 : Int32)), (.ref b108), (.ref b108)])) _
                    refine X108.caload hx (j := (0 : Int32)) (v := (.int (g0 0))) (by rw [e108]; exact Ar109.1) (State.isArrayOf_alike hZ.alike Ar109.2.1) Ar109.2.2 hin109 hat109 (g := (mkF m 204 #[.val (.ref o0), .val (.int (Int32.ofNat n))] [(.int (0 : Int32)), (.ref o0), (.int (0 : Int32)), (.ref b108), (.ref b108)])) rfl rfl (hb hby d9_204) _ ?_
                    show Steps p.tables e below (T108.setTop (mkF m 205 #[.val (.ref o0), .val (.int (Int32.ofNat n))] [(.int (g0 0)), (.int (0 : Int32)), (.ref b108), (.ref b108)])) _
                    refine st112 _ ?_
                    show Steps p.tables e below (T112.setTop (mkF m 206 #[.val (.ref o0), .val (.int (Int32.ofNat n))] [(.ref b108)])) _
                    refine XS.dup X112.here hx rfl (hb hby d9_206) rfl rfl ?_
                    show Steps p.tables e below (T112.setTop (mkF m 207 #[.val (.ref o0), .val (.int (Int32.ofNat n))] [(.ref b108), (.ref b108)])) _
                    refine XS.iconst X112.here hx rfl (hb hby d9_207) ?_
                    show Steps p.tables e below (T112.setTop (mkF m 208 #[.val (.ref o0), .val (.int (Int32.ofNat n))] [(.int (1 : Int32)), (.ref b108), (.ref b108)])) _
                    refine XS.aloadN X112.here hx rfl (hb hby d9_208) rfl rfl ?_
                    show Steps p.tables e below (T112.setTop (mkF m 209 #[.val (.ref o0), .val (.int (Int32.ofNat n))] [(.ref o0), (.int (1 : Int32)), (.ref b108), (.ref b108)])) _
                    refine XS.iconst X112.here hx rfl (hb hby d9_209) ?_
                    show Steps p.tables e below (T112.setTop (mkF m 210 #[.val (.ref o0), .val (.int (Int32.ofNat n))] [(.int (1 : Int32)), (.ref o0), (.int (1 : Int32)), (.ref b108), (.ref b108)])) _
                    refine X112.caload hx (j := (1 : Int32)) (v := (.int (g0 1))) (by rw [e112]; exact Ar113.1) (State.isArrayOf_alike hZ.alike Ar113.2.1) Ar113.2.2 hin113 hat113 (g := (mkF m 210 #[.val (.ref o0), .val (.int (Int32.ofNat n))] [(.int (1 : Int32)), (.ref o0), (.int (1 : Int32)), (.ref b108), (.ref b108)])) rfl rfl (hb hby d9_210) _ ?_
                    show Steps p.tables e below (T112.setTop (mkF m 211 #[.val (.ref o0), .val (.int (Int32.ofNat n))] [(.int (g0 1)), (.int (1 : Int32)), (.ref b108), (.ref b108)])) _
                    refine st116 _ ?_
                    show Steps p.tables e below (T116.setTop (mkF m 212 #[.val (.ref o0), .val (.int (Int32.ofNat n))] [(.ref b108)])) _
                    refine XS.dup X116.here hx rfl (hb hby d9_212) rfl rfl ?_
                    show Steps p.tables e below (T116.setTop (mkF m 213 #[.val (.ref o0), .val (.int (Int32.ofNat n))] [(.ref b108), (.ref b108)])) _
                    refine XS.iconst X116.here hx rfl (hb hby d9_213) ?_
                    show Steps p.tables e below (T116.setTop (mkF m 214 #[.val (.ref o0), .val (.int (Int32.ofNat n))] [(.int (2 : Int32)), (.ref b108), (.ref b108)])) _
                    refine XS.aloadN X116.here hx rfl (hb hby d9_214) rfl rfl ?_
                    show Steps p.tables e below (T116.setTop (mkF m 215 #[.val (.ref o0), .val (.int (Int32.ofNat n))] [(.ref o0), (.int (2 : Int32)), (.ref b108), (.ref b108)])) _
                    refine XS.iconst X116.here hx rfl (hb hby d9_215) ?_
                    show Steps p.tables e below (T116.setTop (mkF m 216 #[.val (.ref o0), .val (.int (Int32.ofNat n))] [(.int (2 : Int32)), (.ref o0), (.int (2 : Int32)), (.ref b108), (.ref b108)])) _
                    refine X116.caload hx (j := (2 : Int32)) (v := (.int (g0 2))) (by rw [e116]; exact Ar117.1) (State.isArrayOf_alike hZ.alike Ar117.2.1) Ar117.2.2 hin117 hat117 (g := (mkF m 216 #[.val (.ref o0), .val (.int (Int32.ofNat n))] [(.int (2 : Int32)), (.ref o0), (.int (2 : Int32)), (.ref b108), (.ref b108)])) rfl rfl (hb hby d9_216) _ ?_
                    show Steps p.tables e below (T116.setTop (mkF m 217 #[.val (.ref o0), .val (.int (Int32.ofNat n))] [(.int (g0 2)), (.int (2 : Int32)), (.ref b108), (.ref b108)])) _
                    refine st120 _ ?_
                    show Steps p.tables e below (T120.setTop (mkF m 218 #[.val (.ref o0), .val (.int (Int32.ofNat n))] [(.ref b108)])) _
                    refine XS.dup X120.here hx rfl (hb hby d9_218) rfl rfl ?_
                    show Steps p.tables e below (T120.setTop (mkF m 219 #[.val (.ref o0), .val (.int (Int32.ofNat n))] [(.ref b108), (.ref b108)])) _
                    refine XS.iconst X120.here hx rfl (hb hby d9_219) ?_
                    show Steps p.tables e below (T120.setTop (mkF m 220 #[.val (.ref o0), .val (.int (Int32.ofNat n))] [(.int (3 : Int32)), (.ref b108), (.ref b108)])) _
                    refine XS.aloadN X120.here hx rfl (hb hby d9_220) rfl rfl ?_
                    show Steps p.tables e below (T120.setTop (mkF m 221 #[.val (.ref o0), .val (.int (Int32.ofNat n))] [(.ref o0), (.int (3 : Int32)), (.ref b108), (.ref b108)])) _
                    refine XS.iconst X120.here hx rfl (hb hby d9_221) ?_
                    show Steps p.tables e below (T120.setTop (mkF m 222 #[.val (.ref o0), .val (.int (Int32.ofNat n))] [(.int (3 : Int32)), (.ref o0), (.int (3 : Int32)), (.ref b108), (.ref b108)])) _
                    refine X120.caload hx (j := (3 : Int32)) (v := (.int (g0 3))) (by rw [e120]; exact Ar121.1) (State.isArrayOf_alike hZ.alike Ar121.2.1) Ar121.2.2 hin121 hat121 (g := (mkF m 222 #[.val (.ref o0), .val (.int (Int32.ofNat n))] [(.int (3 : Int32)), (.ref o0), (.int (3 : Int32)), (.ref b108), (.ref b108)])) rfl rfl (hb hby d9_222) _ ?_
                    show Steps p.tables e below (T120.setTop (mkF m 223 #[.val (.ref o0), .val (.int (Int32.ofNat n))] [(.int (g0 3)), (.int (3 : Int32)), (.ref b108), (.ref b108)])) _
                    refine st124 _ ?_
                    show Steps p.tables e below (T124.setTop (mkF m 224 #[.val (.ref o0), .val (.int (Int32.ofNat n))] [(.ref b108)])) _
                    refine XS.dup X124.here hx rfl (hb hby d9_224) rfl rfl ?_
                    show Steps p.tables e below (T124.setTop (mkF m 225 #[.val (.ref o0), .val (.int (Int32.ofNat n))] [(.ref b108), (.ref b108)])) _
                    refine XS.iconst X124.here hx rfl (hb hby d9_225) ?_
                    show Steps p.tables e below (T124.setTop (mkF m 226 #[.val (.ref o0), .val (.int (Int32.ofNat n))] [(.int (4 : Int32)), (.ref b108), (.ref b108)])) _
                    refine XS.aloadN X124.here hx rfl (hb hby d9_226) rfl rfl ?_
                    show Steps p.tables e below (T124.setTop (mkF m 227 #[.val (.ref o0), .val (.int (Int32.ofNat n))] [(.ref o0), (.int (4 : Int32)), (.ref b108), (.ref b108)])) _
                    refine XS.iconst X124.here hx rfl (hb hby d9_227) ?_
                    show Steps p.tables e below (T124.setTop (mkF m 228 #[.val (.ref o0), .val (.int (Int32.ofNat n))] [(.int (4 : Int32)), (.ref o0), (.int (4 : Int32)), (.ref b108), (.ref b108)])) _
                    refine X124.caload hx (j := (4 : Int32)) (v := (.int (g0 4))) (by rw [e124]; exact Ar125.1) (State.isArrayOf_alike hZ.alike Ar125.2.1) Ar125.2.2 hin125 hat125 (g := (mkF m 228 #[.val (.ref o0), .val (.int (Int32.ofNat n))] [(.int (4 : Int32)), (.ref o0), (.int (4 : Int32)), (.ref b108), (.ref b108)])) rfl rfl (hb hby d9_228) _ ?_
                    show Steps p.tables e below (T124.setTop (mkF m 229 #[.val (.ref o0), .val (.int (Int32.ofNat n))] [(.int (g0 4)), (.int (4 : Int32)), (.ref b108), (.ref b108)])) _
                    refine st128 _ ?_
                    show Steps p.tables e below (T128.setTop (mkF m 230 #[.val (.ref o0), .val (.int (Int32.ofNat n))] [(.ref b108)])) _
                    refine XS.dup X128.here hx rfl (hb hby d9_230) rfl rfl ?_
                    show Steps p.tables e below (T128.setTop (mkF m 231 #[.val (.ref o0), .val (.int (Int32.ofNat n))] [(.ref b108), (.ref b108)])) _
                    refine XS.iconst X128.here hx rfl (hb hby d9_231) ?_
                    show Steps p.tables e below (T128.setTop (mkF m 232 #[.val (.ref o0), .val (.int (Int32.ofNat n))] [(.int (5 : Int32)), (.ref b108), (.ref b108)])) _
                    refine XS.aloadN X128.here hx rfl (hb hby d9_232) rfl rfl ?_
                    show Steps p.tables e below (T128.setTop (mkF m 233 #[.val (.ref o0), .val (.int (Int32.ofNat n))] [(.ref o0), (.int (5 : Int32)), (.ref b108), (.ref b108)])) _
                    refine XS.iconst X128.here hx rfl (hb hby d9_233) ?_
                    show Steps p.tables e below (T128.setTop (mkF m 234 #[.val (.ref o0), .val (.int (Int32.ofNat n))] [(.int (5 : Int32)), (.ref o0), (.int (5 : Int32)), (.ref b108), (.ref b108)])) _
                    refine X128.caload hx (j := (5 : Int32)) (v := (.int (g0 5))) (by rw [e128]; exact Ar129.1) (State.isArrayOf_alike hZ.alike Ar129.2.1) Ar129.2.2 hin129 hat129 (g := (mkF m 234 #[.val (.ref o0), .val (.int (Int32.ofNat n))] [(.int (5 : Int32)), (.ref o0), (.int (5 : Int32)), (.ref b108), (.ref b108)])) rfl rfl (hb hby d9_234) _ ?_
                    show Steps p.tables e below (T128.setTop (mkF m 235 #[.val (.ref o0), .val (.int (Int32.ofNat n))] [(.int (g0 5)), (.int (5 : Int32)), (.ref b108), (.ref b108)])) _
                    refine st132 _ ?_
                    show Steps p.tables e below (T132.setTop (mkF m 236 #[.val (.ref o0), .val (.int (Int32.ofNat n))] [(.ref b108)])) _
                    refine XS.dup X132.here hx rfl (hb hby d9_236) rfl rfl ?_
                    show Steps p.tables e below (T132.setTop (mkF m 237 #[.val (.ref o0), .val (.int (Int32.ofNat n))] [(.ref b108), (.ref b108)])) _
                    refine XS.bipush X132.here hx rfl (hb hby d9_237) ?_
                    show Steps p.tables e below (T132.setTop (mkF m 239 #[.val (.ref o0), .val (.int (Int32.ofNat n))] [(.int (6 : Int32)), (.ref b108), (.ref b108)])) _
                    refine XS.aloadN X132.here hx rfl (hb hby d9_239) rfl rfl ?_
                    show Steps p.tables e below (T132.setTop (mkF m 240 #[.val (.ref o0), .val (.int (Int32.ofNat n))] [(.ref o0), (.int (6 : Int32)), (.ref b108), (.ref b108)])) _
                    refine XS.bipush X132.here hx rfl (hb hby d9_240) ?_
                    show Steps p.tables e below (T132.setTop (mkF m 242 #[.val (.ref o0), .val (.int (Int32.ofNat n))] [(.int (6 : Int32)), (.ref o0), (.int (6 : Int32)), (.ref b108), (.ref b108)])) _
                    refine X132.caload hx (j := (6 : Int32)) (v := (.int (g0 6))) (by rw [e132]; exact Ar133.1) (State.isArrayOf_alike hZ.alike Ar133.2.1) Ar133.2.2 hin133 hat133 (g := (mkF m 242 #[.val (.ref o0), .val (.int (Int32.ofNat n))] [(.int (6 : Int32)), (.ref o0), (.int (6 : Int32)), (.ref b108), (.ref b108)])) rfl rfl (hb hby d9_242) _ ?_
                    show Steps p.tables e below (T132.setTop (mkF m 243 #[.val (.ref o0), .val (.int (Int32.ofNat n))] [(.int (g0 6)), (.int (6 : Int32)), (.ref b108), (.ref b108)])) _
                    refine st136 _ ?_
                    show Steps p.tables e below (T136.setTop (mkF m 244 #[.val (.ref o0), .val (.int (Int32.ofNat n))] [(.ref b108)])) _
                    jvm_step X136.here [X136.here.top, hx, (hb hby d9_244), X136.method', Bd.returns, Value.isRef, FieldType.isReference]
                    first | (intro acts; rw [hr _ acts rfl rfl rfl]) | rw [hr _ _ rfl rfl rfl]
                    exact Steps.refl _
                  · show QTa Z n h0 n0 _ T136.heap _
                    rw [e136]
                    exact ⟨_, k108, g136, rfl, N136, K136, sz_b108, (by rw [en]; exact G136), hg136⟩
                · skip
                  have hc107' : ¬ n = 7 := fun q => hc107 ((own_inj (j := 7) (by omega) (by decide)).mpr q)
                  have pre137 : ∀ t, Steps p.tables e below (s₁.setTop (mkF m 248 #[.val (.ref o0), .val (.int (Int32.ofNat n))] [(.int (8 : Int32)), (.int (Int32.ofNat n))])) t → Steps p.tables e below (s₁.setTop (entryFrame m #[(.ref o0), (.int (Int32.ofNat n))] 2)) t := by
                    intro t kt
                    refine pre106 t ?_
                    show Steps p.tables e below (s₁.setTop (mkF m 193 #[.val (.ref o0), .val (.int (Int32.ofNat n))] [(.int (7 : Int32)), (.int (Int32.ofNat n))])) _
                    refine XS.icmpYes X0.here hx rfl (pc0 := 193) (pc' := 245) rfl (hb hby d9_193) rfl (feq hc107).2 (by decide) (by decide) ?_
                    show Steps p.tables e below (s₁.setTop (mkF m 245 #[.val (.ref o0), .val (.int (Int32.ofNat n))] [])) _
                    refine XS.iloadN X0.here hx rfl (hb hby d9_245) rfl ?_
                    show Steps p.tables e below (s₁.setTop (mkF m 246 #[.val (.ref o0), .val (.int (Int32.ofNat n))] [(.int (Int32.ofNat n))])) _
                    refine XS.bipush X0.here hx rfl (hb hby d9_246) ?_
                    exact kt
                  by_cases hc138 : (Int32.ofNat n) = (8 : Int32)
                  · skip
                    have hc138' : n = 8 := (own_inj (j := 8) (by omega) (by decide)).mp hc138
                    obtain ⟨T139, h139, k139, X139, e139, E139, A139, st139⟩ := newP X0 hx hZ (hw _ (List.mem_of_getElem? (i := 1) rfl)) e0 (g := (mkF m 253 #[.val (.ref o0), .val (.int (Int32.ofNat n))] [(.int (8 : Int32))])) rfl (hb hby d9_253) rfl (by decide) (cap := 8) (by decide) (by decide) (by decide) (by decide)
                    obtain ⟨b139, g139⟩ : ∃ z, z = h0.size := ⟨_, rfl⟩
                    rw [← g139] at A139 st139
                    have g_b139 : n0 ≤ b139 := Nat.le_trans Z0 (Nat.le_of_eq g139.symm)
                    have sz_b139 : h0.size ≤ b139 := Nat.le_trans (Keep.refl h0 []).1 (Nat.le_of_eq g139.symm)
                    have ne139_o0 : o0 ≠ b139 := Nat.ne_of_lt (Nat.lt_of_lt_of_le (V_c).lt (Nat.le_of_eq g139.symm))
                    have Zs139 : n0 ≤ h139.size := Nat.le_trans Z0 E139.1
                    have K139 : Keep h0 h139 [] := (Keep.refl h0 []).ext E139
                    have G139 : GA Z h139 b139 k139 .char 8 (fun i => .int ((fun _ => (0 : Int32)) i)) := GA.new A139 rfl
                    have hg139 : Rg (fun _ => (0 : Int32)) := own_rg0
                    have V_c_141 := (V_c.ext E139)
                    obtain ⟨cl140, Ar140, qa140, Sa140, Ha140⟩ := id V_c_141
                    have hin140 : ¬ ((Int32.ofNat 0) < 0 ∨ cl140.slots.size ≤ (Int32.ofNat 0).toNatClampNeg) := own_inb Sa140 (show 0 < 9 by decide) (show 9 < 2147483648 by decide)
                    have hat140 : cl140.slots[(Int32.ofNat 0).toNatClampNeg]? = some (.int (g0 0)) := by rw [own_cl (Nat.lt_trans (show 0 < 9 by decide) (show 9 < 2147483648 by decide))]; exact Ha140 0 (show 0 < 9 by decide)
                    obtain ⟨cl142, Ar142, qa142, Sa142, Ha142⟩ := id G139
                    have hin142 : ¬ ((Int32.ofNat 0) < 0 ∨ cl142.slots.size ≤ (Int32.ofNat 0).toNatClampNeg) := own_inb Sa142 (show 0 < 8 by decide) (show 8 < 2147483648 by decide)
                    obtain ⟨T143, h143, X143, e143, W143, st143⟩ := stC X139 hx hZ e139 Ar142 (j := (0 : Int32)) hin142 (g := (mkF m 260 #[.val (.ref o0), .val (.int (Int32.ofNat n))] [(.int (g0 0)), (.int (0 : Int32)), (.ref b139), (.ref b139)])) rfl rfl (hb hby d9_260)
                    obtain ⟨g143, G143, hg143⟩ := own_gset Ar142 qa142 Sa142 Ha142 W143 hg139 (hg0 0)
                    have Zs143 : n0 ≤ h143.size := Nat.le_trans Zs139 (Nat.le_of_eq W143.size.symm)
                    have K143 : Keep h0 h143 [] := K139.wr W143 (Or.inr sz_b139)
                    have N143 := Fr.snoc X143 N0 g_b139
                    have V_c_145 := (V_c_141.other W143 ne139_o0)
                    obtain ⟨cl144, Ar144, qa144, Sa144, Ha144⟩ := id V_c_145
                    have hin144 : ¬ ((Int32.ofNat 1) < 0 ∨ cl144.slots.size ≤ (Int32.ofNat 1).toNatClampNeg) := own_inb Sa144 (show 1 < 9 by decide) (show 9 < 2147483648 by decide)
                    have hat144 : cl144.slots[(Int32.ofNat 1).toNatClampNeg]? = some (.int (g0 1)) := by rw [own_cl (Nat.lt_trans (show 1 < 9 by decide) (show 9 < 2147483648 by decide))]; exact Ha144 1 (show 1 < 9 by decide)
                    obtain ⟨cl146, Ar146, qa146, Sa146, Ha146⟩ := id G143
                    have hin146 : ¬ ((Int32.ofNat 1) < 0 ∨ cl146.slots.size ≤ (Int32.ofNat 1).toNatClampNeg) := own_inb Sa146 (show 1 < 8 by decide) (show 8 < 2147483648 by decide)
                    obtain ⟨T147, h147, X147, e147, W147, st147⟩ := stC X143 hx hZ e143 Ar146 (j := (1 : Int32)) hin146 (g := (mkF m 266 #[.val (.ref o0), .val (.int (Int32.ofNat n))] [(.int (g0 1)), (.int (1 : Int32)), (.ref b139), (.ref b139)])) rfl rfl (hb hby d9_266)
                    obtain ⟨g147, G147, hg147⟩ := own_gset Ar146 qa146 Sa146 Ha146 W147 hg143 (hg0 1)
                    have Zs147 : n0 ≤ h147.size := Nat.le_trans Zs143 (Nat.le_of_eq W147.size.symm)
                    have K147 : Keep h0 h147 [] := K143.wr W147 (Or.inr sz_b139)
                    have N147 := Fr.snoc X147 N143 g_b139
                    have V_c_149 := (V_c_145.other W147 ne139_o0)
                    obtain ⟨cl148, Ar148, qa148, Sa148, Ha148⟩ := id V_c_149
                    have hin148 : ¬ ((Int32.ofNat 2) < 0 ∨ cl148.slots.size ≤ (Int32.ofNat 2).toNatClampNeg) := own_inb Sa148 (show 2 < 9 by decide) (show 9 < 2147483648 by decide)
                    have hat148 : cl148.slots[(Int32.ofNat 2).toNatClampNeg]? = some (.int (g0 2)) := by rw [own_cl (Nat.lt_trans (show 2 < 9 by decide) (show 9 < 2147483648 by decide))]; exact Ha148 2 (show 2 < 9 by decide)
                    obtain ⟨cl150, Ar150, qa150, Sa150, Ha150⟩ := id G147
                    have hin150 : ¬ ((Int32.ofNat 2) < 0 ∨ cl150.slots.size ≤ (Int32.ofNat 2).toNatClampNeg) := own_inb Sa150 (show 2 < 8 by decide) (show 8 < 2147483648 by decide)
                    obtain ⟨T151, h151, X151, e151, W151, st151⟩ := stC X147 hx hZ e147 Ar150 (j := (2 : Int32)) hin150 (g := (mkF m 272 #[.val (.ref o0), .val (.int (Int32.ofNat n))] [(.int (g0 2)), (.int (2 : Int32)), (.ref b139), (.ref b139)])) rfl rfl (hb hby d9_272)
                    obtain ⟨g151, G151, hg151⟩ := own_gset Ar150 qa150 Sa150 Ha150 W151 hg147 (hg0 2)
                    have Zs151 : n0 ≤ h151.size := Nat.le_trans Zs147 (Nat.le_of_eq W151.size.symm)
                    have K151 : Keep h0 h151 [] := K147.wr W151 (Or.inr sz_b139)
                    have N151 := Fr.snoc X151 N147 g_b139
                    have V_c_153 := (V_c_149.other W151 ne139_o0)
                    obtain ⟨cl152, Ar152, qa152, Sa152, Ha152⟩ := id V_c_153
                    have hin152 : ¬ ((Int32.ofNat 3) < 0 ∨ cl152.slots.size ≤ (Int32.ofNat 3).toNatClampNeg) := own_inb Sa152 (show 3 < 9 by decide) (show 9 < 2147483648 by decide)
                    have hat152 : cl152.slots[(Int32.ofNat 3).toNatClampNeg]? = some (.int (g0 3)) := by rw [own_cl (Nat.lt_trans (show 3 < 9 by decide) (show 9 < 2147483648 by decide))]; exact Ha152 3 (show 3 < 9 by decide)
                    obtain ⟨cl154, Ar154, qa154, Sa154, Ha154⟩ := id G151
                    have hin154 : ¬ ((Int32.ofNat 3) < 0 ∨ cl154.slots.size ≤ (Int32.ofNat 3).toNatClampNeg) := own_inb Sa154 (show 3 < 8 by decide) (show 8 < 2147483648 by decide)
                    obtain ⟨T155, h155, X155, e155, W155, st155⟩ := stC X151 hx hZ e151 Ar154 (j := (3 : Int32)) hin154 (g := (mkF m 278 #[.val (.ref o0), .val (.int (Int32.ofNat n))] [(.int (g0 3)), (.int (3 : Int32)), (.ref b139), (.ref b139)])) rfl rfl (hb hby d9_278)
                    obtain ⟨g155, G155, hg155⟩ := own_gset Ar154 qa154 Sa154 Ha154 W155 hg151 (hg0 3)
                    have Zs155 : n0 ≤ h155.size := Nat.le_trans Zs151 (Nat.le_of_eq W155.size.symm)
                    have K155 : Keep h0 h155 [] := K151.wr W155 (Or.inr sz_b139)
                    have N155 := Fr.snoc X155 N151 g_b139
                    have V_c_157 := (V_c_153.other W155 ne139_o0)
                    obtain ⟨cl156, Ar156, qa156, Sa156, Ha156⟩ := id V_c_157
                    have hin156 : ¬ ((Int32.ofNat 4) < 0 ∨ cl156.slots.size ≤ (Int32.ofNat 4).toNatClampNeg) := own_inb Sa156 (show 4 < 9 by decide) (show 9 < 2147483648 by decide)
                    have hat156 : cl156.slots[(Int32.ofNat 4).toNatClampNeg]? = some (.int (g0 4)) := by rw [own_cl (Nat.lt_trans (show 4 < 9 by decide) (show 9 < 2147483648 by decide))]; exact Ha156 4 (show 4 < 9 by decide)
                    obtain ⟨cl158, Ar158, qa158, Sa158, Ha158⟩ := id G155
                    have hin158 : ¬ ((Int32.ofNat 4) < 0 ∨ cl158.slots.size ≤ (Int32.ofNat 4).toNatClampNeg) := own_inb Sa158 (show 4 < 8 by decide) (show 8 < 2147483648 by decide)
                    obtain ⟨T159, h159, X159, e159, W159, st159⟩ := stC X155 hx hZ e155 Ar158 (j := (4 : Int32)) hin158 (g := (mkF m 284 #[.val (.ref o0), .val (.int (Int32.ofNat n))] [(.int (g0 4)), (.int (4 : Int32)), (.ref b139), (.ref b139)])) rfl rfl (hb hby d9_284)
                    obtain ⟨g159, G159, hg159⟩ := own_gset Ar158 qa158 Sa158 Ha158 W159 hg155 (hg0 4)
                    have Zs159 : n0 ≤ h159.size := Nat.le_trans Zs155 (Nat.le_of_eq W159.size.symm)
                    have K159 : Keep h0 h159 [] := K155.wr W159 (Or.inr sz_b139)
                    have N159 := Fr.snoc X159 N155 g_b139
                    have V_c_161 := (V_c_157.other W159 ne139_o0)
                    obtain ⟨cl160, Ar160, qa160, Sa160, Ha160⟩ := id V_c_161
                    have hin160 : ¬ ((Int32.ofNat 5) < 0 ∨ cl160.slots.size ≤ (Int32.ofNat 5).toNatClampNeg) := own_inb Sa160 (show 5 < 9 by decide) (show 9 < 2147483648 by decide)
                    have hat160 : cl160.slots[(Int32.ofNat 5).toNatClampNeg]? = some (.int (g0 5)) := by rw [own_cl (Nat.lt_trans (show 5 < 9 by decide) (show 9 < 2147483648 by decide))]; exact Ha160 5 (show 5 < 9 by decide)
                    obtain ⟨cl162, Ar162, qa162, Sa162, Ha162⟩ := id G159
                    have hin162 : ¬ ((Int32.ofNat 5) < 0 ∨ cl162.slots.size ≤ (Int32.ofNat 5).toNatClampNeg) := own_inb Sa162 (show 5 < 8 by decide) (show 8 < 2147483648 by decide)
                    obtain ⟨T163, h163, X163, e163, W163, st163⟩ := stC X159 hx hZ e159 Ar162 (j := (5 : Int32)) hin162 (g := (mkF m 290 #[.val (.ref o0), .val (.int (Int32.ofNat n))] [(.int (g0 5)), (.int (5 : Int32)), (.ref b139), (.ref b139)])) rfl rfl (hb hby d9_290)
                    obtain ⟨g163, G163, hg163⟩ := own_gset Ar162 qa162 Sa162 Ha162 W163 hg159 (hg0 5)
                    have Zs163 : n0 ≤ h163.size := Nat.le_trans Zs159 (Nat.le_of_eq W163.size.symm)
                    have K163 : Keep h0 h163 [] := K159.wr W163 (Or.inr sz_b139)
                    have N163 := Fr.snoc X163 N159 g_b139
                    have V_c_165 := (V_c_161.other W163 ne139_o0)
                    obtain ⟨cl164, Ar164, qa164, Sa164, Ha164⟩ := id V_c_165
                    have hin164 : ¬ ((Int32.ofNat 6) < 0 ∨ cl164.slots.size ≤ (Int32.ofNat 6).toNatClampNeg) := own_inb Sa164 (show 6 < 9 by decide) (show 9 < 2147483648 by decide)
                    have hat164 : cl164.slots[(Int32.ofNat 6).toNatClampNeg]? = some (.int (g0 6)) := by rw [own_cl (Nat.lt_trans (show 6 < 9 by decide) (show 9 < 2147483648 by decide))]; exact Ha164 6 (show 6 < 9 by decide)
                    obtain ⟨cl166, Ar166, qa166, Sa166, Ha166⟩ := id G163
                    have hin166 : ¬ ((Int32.ofNat 6) < 0 ∨ cl166.slots.size ≤ (Int32.ofNat 6).toNatClampNeg) := own_inb Sa166 (show 6 < 8 by decide) (show 8 < 2147483648 by decide)
                    obtain ⟨T167, h167, X167, e167, W167, st167⟩ := stC X163 hx hZ e163 Ar166 (j := (6 : Int32)) hin166 (g := (mkF m 298 #[.val (.ref o0), .val (.int (Int32.ofNat n))] [(.int (g0 6)), (.int (6 : Int32)), (.ref b139), (.ref b139)])) rfl rfl (hb hby d9_298)
                    obtain ⟨g167, G167, hg167⟩ := own_gset Ar166 qa166 Sa166 Ha166 W167 hg163 (hg0 6)
                    have Zs167 : n0 ≤ h167.size := Nat.le_trans Zs163 (Nat.le_of_eq W167.size.symm)
                    have K167 : Keep h0 h167 [] := K163.wr W167 (Or.inr sz_b139)
                    have N167 := Fr.snoc X167 N163 g_b139
                    have V_c_169 := (V_c_165.other W167 ne139_o0)
                    obtain ⟨cl168, Ar168, qa168, Sa168, Ha168⟩ := id V_c_169
                    have hin168 : ¬ ((Int32.ofNat 7) < 0 ∨ cl168.slots.size ≤ (Int32.ofNat 7).toNatClampNeg) := own_inb Sa168 (show 7 < 9 by decide) (show 9 < 2147483648 by decide)
                    have hat168 : cl168.slots[(Int32.ofNat 7).toNatClampNeg]? = some (.int (g0 7)) := by rw [own_cl (Nat.lt_trans (show 7 < 9 by decide) (show 9 < 2147483648 by decide))]; exact Ha168 7 (show 7 < 9 by decide)
                    obtain ⟨cl170, Ar170, qa170, Sa170, Ha170⟩ := id G167
                    have hin170 : ¬ ((Int32.ofNat 7) < 0 ∨ cl170.slots.size ≤ (Int32.ofNat 7).toNatClampNeg) := own_inb Sa170 (show 7 < 8 by decide) (show 8 < 2147483648 by decide)
                    obtain ⟨T171, h171, X171, e171, W171, st171⟩ := stC X167 hx hZ e167 Ar170 (j := (7 : Int32)) hin170 (g := (mkF m 306 #[.val (.ref o0), .val (.int (Int32.ofNat n))] [(.int (g0 7)), (.int (7 : Int32)), (.ref b139), (.ref b139)])) rfl rfl (hb hby d9_306)
                    obtain ⟨g171, G171, hg171⟩ := own_gset Ar170 qa170 Sa170 Ha170 W171 hg167 (hg0 7)
                    have Zs171 : n0 ≤ h171.size := Nat.le_trans Zs167 (Nat.le_of_eq W171.size.symm)
                    have K171 : Keep h0 h171 [] := K167.wr W171 (Or.inr sz_b139)
                    have N171 := Fr.snoc X171 N167 g_b139
                    have en : n = 8 := by omega
                    obtain ⟨fs, hr, hrun, hended, hW, hsame⟩ := X171.leave (v := some (.ref b139)) (fun h => by rw [Bd.returns] at h; cases h)
                    refine ⟨_, _, pre137 _ ?_, hrun, hended, _, _, rfl, ?_, ⟨_, rfl⟩, hW, hsame.mono (by decide) (by decide)⟩
                    · skip
                      show Steps p.tables e below (s₁.setTop (mkF m 248 #[.val (.ref o0), .val (.int (Int32.ofNat n))] [(.int (8 : Int32)), (.int (Int32.ofNat n))])) _
                      refine XS.icmpNo X0.here hx rfl (hb hby d9_248) rfl (teq hc138).2 ?_
                      show Steps p.tables e below (s₁.setTop (mkF m 251 #[.val (.ref o0), .val (.int (Int32.ofNat n))] [])) _
                      refine XS.bipush X0.here hx rfl (hb hby d9_251) ?_
                      show Steps p.tables e below (s₁.setTop (mkF m 253 #[.val (.ref o0), .val (.int (Int32.ofNat n))] [(.int (8 : Int32))])) _
                      refine st139 _ ?_
                      show Steps p.tables e below (T139.setTop (mkF m 255 #[.val (.ref o0), .val (.int (Int32.ofNat n))] [(.ref b139)])) _
                      refine XS.dup X139.here hx rfl (hb hby d9_255) rfl rfl ?_
                      show Steps p.tables e below (T139.setTop (mkF m 256 #[.val (.ref o0), .val (.int (Int32.ofNat n))] [(.ref b139), (.ref b139)])) _
                      refine XS.iconst X139.here hx rfl (hb hby d9_256) ?_
                      show Steps p.tables e below (T139.setTop (mkF m 257 #[.val (.ref o0), .val (.int (Int32.ofNat n))] [(.int (0 : Int32)), (.ref b139), (.ref b139)])) _
                      refine XS.aloadN X139.here hx rfl (hb hby d9_257) rfl rfl ?_
                      show Steps p.tables e below (T139.setTop (mkF m 258 #[.val (.ref o0), .val (.int (Int32.ofNat n))] [(.ref o0), (.int (0 : Int32)), (.ref b139), (.ref b139)])) _
                      refine XS.iconst X139.here hx rfl (hb hby d9_258) ?_
                      show Steps p.tables e below (T139.setTop (mkF m 259 #[.val (.ref o0), .val (.int (Int32.ofNat n))] [(.int (0 : Int32)), (.ref o0), (.int (0 : Int32)), (.ref b139), (.ref b139)])) _
                      refine X139.caload hx (j := (0 : Int32)) (v := (.int (g0 0))) (by rw [e139]; exact Ar140.1) (State.isArrayOf_alike hZ.alike Ar140.2.1) Ar140.2.2 hin140 hat140 (g := (mkF m 259 #[.val (.ref o0), .val (.int (Int32.ofNat n))] [(.int (0 : Int32)), (.ref o0), (.int (0 : Int32)), (.ref b139), (.ref b139)])) rfl rfl (hb hby d9_259) _ ?_
                      show Steps p.tables e below (T139.setTop (mkF m 260 #[.val (.ref o0), .val (.int (Int32.ofNat n))] [(.int (g0 0)), (.int (0 : Int32)), (.ref b139), (.ref b139)])) _
                      refine st143 _ ?_
                      show Steps p.tables e below (T143.setTop (mkF m 261 #[.val (.ref o0), .val (.int (Int32.ofNat n))] [(.ref b139)])) _
                      refine XS.dup X143.here hx rfl (hb hby d9_261) rfl rfl ?_
                      show Steps p.tables e below (T143.setTop (mkF m 262 #[.val (.ref o0), .val (.int (Int32.ofNat n))] [(.ref b139), (.ref b139)])) _
                      refine XS.iconst X143.here hx rfl (hb hby d9_262) ?_
                      show Steps p.tables e below (T143.setTop (mkF m 263 #[.val (.ref o0), .val (.int (Int32.ofNat n))] [(.int (1 : Int32)), (.ref b139), (.ref b139)])) _
                      refine XS.aloadN X143.here hx rfl (hb hby d9_263) rfl rfl ?_
                      show Steps p.tables e below (T143.setTop (mkF m 264 #[.val (.ref o0), .val (.int (Int32.ofNat n))] [(.ref o0), (.int (1 : Int32)), (.ref b139), (.ref b139)])) _
                      refine XS.iconst X143.here hx rfl (hb hby d9_264) ?_
                      show Steps p.tables e below (T143.setTop (mkF m 265 #[.val (.ref o0), .val (.int (Int32.ofNat n))] [(.int (1 : Int32)), (.ref o0), (.int (1 : Int32)), (.ref b139), (.ref b139)])) _
                      refine X143.caload hx (j := (1 : Int32)) (v := (.int (g0 1))) (by rw [e143]; exact Ar144.1) (State.isArrayOf_alike hZ.alike Ar144.2.1) Ar144.2.2 hin144 hat144 (g := (mkF m 265 #[.val (.ref o0), .val (.int (Int32.ofNat n))] [(.int (1 : Int32)), (.ref o0), (.int (1 : Int32)), (.ref b139), (.ref b139)])) rfl rfl (hb hby d9_265) _ ?_
                      show Steps p.tables e below (T143.setTop (mkF m 266 #[.val (.ref o0), .val (.int (Int32.ofNat n))] [(.int (g0 1)), (.int (1 : Int32)), (.ref b139), (.ref b139)])) _
                      refine st147 _ ?_
                      show Steps p.tables e below (T147.setTop (mkF m 267 #[.val (.ref o0), .val (.int (Int32.ofNat n))] [(.ref b139)])) _
                      refine XS.dup X147.here hx rfl (hb hby d9_267) rfl rfl ?_
                      show Steps p.tables e below (T147.setTop (mkF m 268 #[.val (.ref o0), .val (.int (Int32.ofNat n))] [(.ref b139), (.ref b139)])) _
                      refine XS.iconst X147.here hx rfl (hb hby d9_268) ?_
                      show Steps p.tables e below (T147.setTop (mkF m 269 #[.val (.ref o0), .val (.int (Int32.ofNat n))] [(.int (2 : Int32)), (.ref b139), (.ref b139)])) _
                      refine XS.aloadN X147.here hx rfl (hb hby d9_269) rfl rfl ?_
                      show Steps p.tables e below (T147.setTop (mkF m 270 #[.val (.ref o0), .val (.int (Int32.ofNat n))] [(.ref o0), (.int (2 : Int32)), (.ref b139), (.ref b139)])) _
                      refine XS.iconst X147.here hx rfl (hb hby d9_270) ?_
                      show Steps p.tables e below (T147.setTop (mkF m 271 #[.val (.ref o0), .val (.int (Int32.ofNat n))] [(.int (2 : Int32)), (.ref o0), (.int (2 : Int32)), (.ref b139), (.ref b139)])) _
                      refine X147.caload hx (j := (2 : Int32)) (v := (.int (g0 2))) (by rw [e147]; exact Ar148.1) (State.isArrayOf_alike hZ.alike Ar148.2.1) Ar148.2.2 hin148 hat148 (g := (mkF m 271 #[.val (.ref o0), .val (.int (Int32.ofNat n))] [(.int (2 : Int32)), (.ref o0), (.int (2 : Int32)), (.ref b139), (.ref b139)])) rfl rfl (hb hby d9_271) _ ?_
                      show Steps p.tables e below (T147.setTop (mkF m 272 #[.val (.ref o0), .val (.int (Int32.ofNat n))] [(.int (g0 2)), (.int (2 : Int32)), (.ref b139), (.ref b139)])) _
                      refine st151 _ ?_
                      show Steps p.tables e below (T151.setTop (mkF m 273 #[.val (.ref o0), .val (.int (Int32.ofNat n))] [(.ref b139)])) _
                      refine XS.dup X151.here hx rfl (hb hby d9_273) rfl rfl ?_
                      show Steps p.tables e below (T151.setTop (mkF m 274 #[.val (.ref o0), .val (.int (Int32.ofNat n))] [(.ref b139), (.ref b139)])) _
                      refine XS.iconst X151.here hx rfl (hb hby d9_274) ?_
                      show Steps p.tables e below (T151.setTop (mkF m 275 #[.val (.ref o0), .val (.int (Int32.ofNat n))] [(.int (3 : Int32)), (.ref b139), (.ref b139)])) _
                      refine XS.aloadN X151.here hx rfl (hb hby d9_275) rfl rfl ?_
                      show Steps p.tables e below (T151.setTop (mkF m 276 #[.val (.ref o0), .val (.int (Int32.ofNat n))] [(.ref o0), (.int (3 : Int32)), (.ref b139), (.ref b139)])) _
                      refine XS.iconst X151.here hx rfl (hb hby d9_276) ?_
                      show Steps p.tables e below (T151.setTop (mkF m 277 #[.val (.ref o0), .val (.int (Int32.ofNat n))] [(.int (3 : Int32)), (.ref o0), (.int (3 : Int32)), (.ref b139), (.ref b139)])) _
                      refine X151.caload hx (j := (3 : Int32)) (v := (.int (g0 3))) (by rw [e151]; exact Ar152.1) (State.isArrayOf_alike hZ.alike Ar152.2.1) Ar152.2.2 hin152 hat152 (g := (mkF m 277 #[.val (.ref o0), .val (.int (Int32.ofNat n))] [(.int (3 : Int32)), (.ref o0), (.int (3 : Int32)), (.ref b139), (.ref b139)])) rfl rfl (hb hby d9_277) _ ?_
                      show Steps p.tables e below (T151.setTop (mkF m 278 #[.val (.ref o0), .val (.int (Int32.ofNat n))] [(.int (g0 3)), (.int (3 : Int32)), (.ref b139), (.ref b139)])) _
                      refine st155 _ ?_
                      show Steps p.tables e below (T155.setTop (mkF m 279 #[.val (.ref o0), .val (.int (Int32.ofNat n))] [(.ref b139)])) _
                      refine XS.dup X155.here hx rfl (hb hby d9_279) rfl rfl ?_
                      show Steps p.tables e below (T155.setTop (mkF m 280 #[.val (.ref o0), .val (.int (Int32.ofNat n))] [(.ref b139), (.ref b139)])) _
                      refine XS.iconst X155.here hx rfl (hb hby d9_280) ?_
                      show Steps p.tables e below (T155.setTop (mkF m 281 #[.val (.ref o0), .val (.int (Int32.ofNat n))] [(.int (4 : Int32)), (.ref b139), (.ref b139)])) _
                      refine XS.aloadN X155.here hx rfl (hb hby d9_281) rfl rfl ?_
                      show Steps p.tables e below (T155.setTop (mkF m 282 #[.val (.ref o0), .val (.int (Int32.ofNat n))] [(.ref o0), (.int (4 : Int32)), (.ref b139), (.ref b139)])) _
                      refine XS.iconst X155.here hx rfl (hb hby d9_282) ?_
                      show Steps p.tables e below (T155.setTop (mkF m 283 #[.val (.ref o0), .val (.int (Int32.ofNat n))] [(.int (4 : Int32)), (.ref o0), (.int (4 : Int32)), (.ref b139), (.ref b139)])) _
                      refine X155.caload hx (j := (4 : Int32)) (v := (.int (g0 4))) (by rw [e155]; exact Ar156.1) (State.isArrayOf_alike hZ.alike Ar156.2.1) Ar156.2.2 hin156 hat156 (g := (mkF m 283 #[.val (.ref o0), .val (.int (Int32.ofNat n))] [(.int (4 : Int32)), (.ref o0), (.int (4 : Int32)), (.ref b139), (.ref b139)])) rfl rfl (hb hby d9_283) _ ?_
                      show Steps p.tables e below (T155.setTop (mkF m 284 #[.val (.ref o0), .val (.int (Int32.ofNat n))] [(.int (g0 4)), (.int (4 : Int32)), (.ref b139), (.ref b139)])) _
                      refine st159 _ ?_
                      show Steps p.tables e below (T159.setTop (mkF m 285 #[.val (.ref o0), .val (.int (Int32.ofNat n))] [(.ref b139)])) _
                      refine XS.dup X159.here hx rfl (hb hby d9_285) rfl rfl ?_
                      show Steps p.tables e below (T159.setTop (mkF m 286 #[.val (.ref o0), .val (.int (Int32.ofNat n))] [(.ref b139), (.ref b139)])) _
                      refine XS.iconst X159.here hx rfl (hb hby d9_286) ?_
                      show Steps p.tables e below (T159.setTop (mkF m 287 #[.val (.ref o0), .val (.int (Int32.ofNat n))] [(.int (5 : Int32)), (.ref b139), (.ref b139)])) _
                      refine XS.aloadN X159.here hx rfl (hb hby d9_287) rfl rfl ?_
                      show Steps p.tables e below (T159.setTop (mkF m 288 #[.val (.ref o0), .val (.int (Int32.ofNat n))] [(.ref o0), (.int (5 : Int32)), (.ref b139), (.ref b139)])) _
                      refine XS.iconst X159.here hx rfl (hb hby d9_288) ?_
                      show Steps p.tables e below (T159.setTop (mkF m 289 #[.val (.ref o0), .val (.int (Int32.ofNat n))] [(.int (5 : Int32)), (.ref o0), (.int (5 : Int32)), (.ref b139), (.ref b139)])) _
                      refine X159.caload hx (j := (5 : Int32)) (v := (.int (g0 5))) (by rw [e159]; exact Ar160.1) (State.isArrayOf_alike hZ.alike Ar160.2.1) Ar160.2.2 hin160 hat160 (g := (mkF m 289 #[.val (.ref o0), .val (.int (Int32.ofNat n))] [(.int (5 : Int32)), (.ref o0), (.int (5 : Int32)), (.ref b139), (.ref b139)])) rfl rfl (hb hby d9_289) _ ?_
                      show Steps p.tables e below (T159.setTop (mkF m 290 #[.val (.ref o0), .val (.int (Int32.ofNat n))] [(.int (g0 5)), (.int (5 : Int32)), (.ref b139), (.ref b139)])) _
                      refine st163 _ ?_
                      show Steps p.tables e below (T163.setTop (mkF m 291 #[.val (.ref o0), .val (.int (Int32.ofNat n))] [(.ref b139)])) _
                      refine XS.dup X163.here hx rfl (hb hby d9_291) rfl rfl ?_
                      show Steps p.tables e below (T163.setTop (mkF m 292 #[.val (.ref o0), .val (.int (Int32.ofNat n))] [(.ref b139), (.ref b139)])) _
                      refine XS.bipush X163.here hx rfl (hb hby d9_292) ?_
                      show Steps p.tables e below (T163.setTop (mkF m 294 #[.val (.ref o0), .val (.int (Int32.ofNat n))] [(.int (6 : Int32)), (.ref b139), (.ref b139)])) _
                      refine XS.aloadN X163.here hx rfl (hb hby d9_294) rfl rfl ?_
                      show Steps p.tables e below (T163.setTop (mkF m 295 #[.val (.ref o0), .val (.int (Int32.ofNat n))] [(.ref o0), (.int (6 : Int32)), (.ref b139), (.ref b139)])) _
                      refine XS.bipush X163.here hx rfl (hb hby d9_295) ?_
                      show Steps p.tables e below (T163.setTop (mkF m 297 #[.val (.ref o0), .val (.int (Int32.ofNat n))] [(.int (6 : Int32)), (.ref o0), (.int (6 : Int32)), (.ref b139), (.ref b139)])) _
                      refine X163.caload hx (j := (6 : Int32)) (v := (.int (g0 6))) (by rw [e163]; exact Ar164.1) (State.isArrayOf_alike hZ.alike Ar164.2.1) Ar164.2.2 hin164 hat164 (g := (mkF m 297 #[.val (.ref o0), .val (.int (Int32.ofNat n))] [(.int (6 : Int32)), (.ref o0), (.int (6 : Int32)), (.ref b139), (.ref b139)])) rfl rfl (hb hby d9_297) _ ?_
                      show Steps p.tables e below (T163.setTop (mkF m 298 #[.val (.ref o0), .val (.int (Int32.ofNat n))] [(.int (g0 6)), (.int (6 : Int32)), (.ref b139), (.ref b139)])) _
                      refine st167 _ ?_
                      show Steps p.tables e below (T167.setTop (mkF m 299 #[.val (.ref o0), .val (.int (Int32.ofNat n))] [(.ref b139)])) _
                      refine XS.dup X167.here hx rfl (hb hby d9_299) rfl rfl ?_
                      show Steps p.tables e below (T167.setTop (mkF m 300 #[.val (.ref o0), .val (.int (Int32.ofNat n))] [(.ref b139), (.ref b139)])) _
                      refine XS.bipush X167.here hx rfl (hb hby d9_300) ?_
                      show Steps p.tables e below (T167.setTop (mkF m 302 #[.val (.ref o0), .val (.int (Int32.ofNat n))] [(.int (7 : Int32)), (.ref b139), (.ref b139)])) _
                      refine XS.aloadN X167.here hx rfl (hb hby d9_302) rfl rfl ?_
                      show Steps p.tables e below (T167.setTop (mkF m 303 #[.val (.ref o0), .val (.int (Int32.ofNat n))] [(.ref o0), (.int (7 : Int32)), (.ref b139), (.ref b139)])) _
                      refine XS.bipush X167.here hx rfl (hb hby d9_303) ?_
                      show Steps p.tables e below (T167.setTop (mkF m 305 #[.val (.ref o0), .val (.int (Int32.ofNat n))] [(.int (7 : Int32)), (.ref o0), (.int (7 : Int32)), (.ref b139), (.ref b139)])) _
                      refine X167.caload hx (j := (7 : Int32)) (v := (.int (g0 7))) (by rw [e167]; exact Ar168.1) (State.isArrayOf_alike hZ.alike Ar168.2.1) Ar168.2.2 hin168 hat168 (g := (mkF m 305 #[.val (.ref o0), .val (.int (Int32.ofNat n))] [(.int (7 : Int32)), (.ref o0), (.int (7 : Int32)), (.ref b139), (.ref b139)])) rfl rfl (hb hby d9_305) _ ?_
                      show Steps p.tables e below (T167.setTop (mkF m 306 #[.val (.ref o0), .val (.int (Int32.ofNat n))] [(.int (g0 7)), (.int (7 : Int32)), (.ref b139), (.ref b139)])) _
                      refine st171 _ ?_
                      show Steps p.tables e below (T171.setTop (mkF m 307 #[.val (.ref o0), .val (.int (Int32.ofNat n))] [(.ref b139)])) _
                      jvm_step X171.here [X171.here.top, hx, (hb hby d9_307), X171.method', Bd.returns, Value.isRef, FieldType.isReference]
                      first | (intro acts; rw [hr _ acts rfl rfl rfl]) | rw [hr _ _ rfl rfl rfl]
                      exact Steps.refl _
                    · show QTa Z n h0 n0 _ T171.heap _
                      rw [e171]
                      exact ⟨_, k139, g171, rfl, N171, K171, sz_b139, (by rw [en]; exact G171), hg171⟩
                  · skip
                    have hc138' : ¬ n = 8 := fun q => hc138 ((own_inj (j := 8) (by omega) (by decide)).mpr q)
                    obtain ⟨T172, h172, k172, X172, e172, E172, A172, st172⟩ := newP X0 hx hZ (hw _ (List.mem_of_getElem? (i := 1) rfl)) e0 (g := (mkF m 310 #[.val (.ref o0), .val (.int (Int32.ofNat n))] [(.int (9 : Int32))])) rfl (hb hby d9_310) rfl (by decide) (cap := 9) (by decide) (by decide) (by decide) (by decide)
                    obtain ⟨b172, g172⟩ : ∃ z, z = h0.size := ⟨_, rfl⟩
                    rw [← g172] at A172 st172
                    have g_b172 : n0 ≤ b172 := Nat.le_trans Z0 (Nat.le_of_eq g172.symm)
                    have sz_b172 : h0.size ≤ b172 := Nat.le_trans (Keep.refl h0 []).1 (Nat.le_of_eq g172.symm)
                    have ne172_o0 : o0 ≠ b172 := Nat.ne_of_lt (Nat.lt_of_lt_of_le (V_c).lt (Nat.le_of_eq g172.symm))
                    have Zs172 : n0 ≤ h172.size := Nat.le_trans Z0 E172.1
                    have K172 : Keep h0 h172 [] := (Keep.refl h0 []).ext E172
                    have G172 : GA Z h172 b172 k172 .char 9 (fun i => .int ((fun _ => (0 : Int32)) i)) := GA.new A172 rfl
                    have hg172 : Rg (fun _ => (0 : Int32)) := own_rg0
                    have V_c_174 := (V_c.ext E172)
                    obtain ⟨cl173, Ar173, qa173, Sa173, Ha173⟩ := id V_c_174
                    have hin173 : ¬ ((Int32.ofNat 0) < 0 ∨ cl173.slots.size ≤ (Int32.ofNat 0).toNatClampNeg) := own_inb Sa173 (show 0 < 9 by decide) (show 9 < 2147483648 by decide)
                    have hat173 : cl173.slots[(Int32.ofNat 0).toNatClampNeg]? = some (.int (g0 0)) := by rw [own_cl (Nat.lt_trans (show 0 < 9 by decide) (show 9 < 2147483648 by decide))]; exact Ha173 0 (show 0 < 9 by decide)
                    obtain ⟨cl175, Ar175, qa175, Sa175, Ha175⟩ := id G172
                    have hin175 : ¬ ((Int32.ofNat 0) < 0 ∨ cl175.slots.size ≤ (Int32.ofNat 0).toNatClampNeg) := own_inb Sa175 (show 0 < 9 by decide) (show 9 < 2147483648 by decide)
                    obtain ⟨T176, h176, X176, e176, W176, st176⟩ := stC X172 hx hZ e172 Ar175 (j := (0 : Int32)) hin175 (g := (mkF m 317 #[.val (.ref o0), .val (.int (Int32.ofNat n))] [(.int (g0 0)), (.int (0 : Int32)), (.ref b172), (.ref b172)])) rfl rfl (hb hby d9_317)
                    obtain ⟨g176, G176, hg176⟩ := own_gset Ar175 qa175 Sa175 Ha175 W176 hg172 (hg0 0)
                    have Zs176 : n0 ≤ h176.size := Nat.le_trans Zs172 (Nat.le_of_eq W176.size.symm)
                    have K176 : Keep h0 h176 [] := K172.wr W176 (Or.inr sz_b172)
                    have N176 := Fr.snoc X176 N0 g_b172
                    have V_c_178 := (V_c_174.other W176 ne172_o0)
                    obtain ⟨cl177, Ar177, qa177, Sa177, Ha177⟩ := id V_c_178
                    have hin177 : ¬ ((Int32.ofNat 1) < 0 ∨ cl177.slots.size ≤ (Int32.ofNat 1).toNatClampNeg) := own_inb Sa177 (show 1 < 9 by decide) (show 9 < 2147483648 by decide)
                    have hat177 : cl177.slots[(Int32.ofNat 1).toNatClampNeg]? = some (.int (g0 1)) := by rw [own_cl (Nat.lt_trans (show 1 < 9 by decide) (show 9 < 2147483648 by decide))]; exact Ha177 1 (show 1 < 9 by decide)
                    obtain ⟨cl179, Ar179, qa179, Sa179, Ha179⟩ := id G176
                    have hin179 : ¬ ((Int32.ofNat 1) < 0 ∨ cl179.slots.size ≤ (Int32.ofNat 1).toNatClampNeg) := own_inb Sa179 (show 1 < 9 by decide) (show 9 < 2147483648 by decide)
                    obtain ⟨T180, h180, X180, e180, W180, st180⟩ := stC X176 hx hZ e176 Ar179 (j := (1 : Int32)) hin179 (g := (mkF m 323 #[.val (.ref o0), .val (.int (Int32.ofNat n))] [(.int (g0 1)), (.int (1 : Int32)), (.ref b172), (.ref b172)])) rfl rfl (hb hby d9_323)
                    obtain ⟨g180, G180, hg180⟩ := own_gset Ar179 qa179 Sa179 Ha179 W180 hg176 (hg0 1)
                    have Zs180 : n0 ≤ h180.size := Nat.le_trans Zs176 (Nat.le_of_eq W180.size.symm)
                    have K180 : Keep h0 h180 [] := K176.wr W180 (Or.inr sz_b172)
                    have N180 := Fr.snoc X180 N176 g_b172
                    have V_c_182 := (V_c_178.other W180 ne172_o0)
                    obtain ⟨cl181, Ar181, qa181, Sa181, Ha181⟩ := id V_c_182
                    have hin181 : ¬ ((Int32.ofNat 2) < 0 ∨ cl181.slots.size ≤ (Int32.ofNat 2).toNatClampNeg) := own_inb Sa181 (show 2 < 9 by decide) (show 9 < 2147483648 by decide)
                    have hat181 : cl181.slots[(Int32.ofNat 2).toNatClampNeg]? = some (.int (g0 2)) := by rw [own_cl (Nat.lt_trans (show 2 < 9 by decide) (show 9 < 2147483648 by decide))]; exact Ha181 2 (show 2 < 9 by decide)
                    obtain ⟨cl183, Ar183, qa183, Sa183, Ha183⟩ := id G180
                    have hin183 : ¬ ((Int32.ofNat 2) < 0 ∨ cl183.slots.size ≤ (Int32.ofNat 2).toNatClampNeg) := own_inb Sa183 (show 2 < 9 by decide) (show 9 < 2147483648 by decide)
                    obtain ⟨T184, h184, X184, e184, W184, st184⟩ := stC X180 hx hZ e180 Ar183 (j := (2 : Int32)) hin183 (g := (mkF m 329 #[.val (.ref o0), .val (.int (Int32.ofNat n))] [(.int (g0 2)), (.int (2 : Int32)), (.ref b172), (.ref b172)])) rfl rfl (hb hby d9_329)
                    obtain ⟨g184, G184, hg184⟩ := own_gset Ar183 qa183 Sa183 Ha183 W184 hg180 (hg0 2)
                    have Zs184 : n0 ≤ h184.size := Nat.le_trans Zs180 (Nat.le_of_eq W184.size.symm)
                    have K184 : Keep h0 h184 [] := K180.wr W184 (Or.inr sz_b172)
                    have N184 := Fr.snoc X184 N180 g_b172
                    have V_c_186 := (V_c_182.other W184 ne172_o0)
                    obtain ⟨cl185, Ar185, qa185, Sa185, Ha185⟩ := id V_c_186
                    have hin185 : ¬ ((Int32.ofNat 3) < 0 ∨ cl185.slots.size ≤ (Int32.ofNat 3).toNatClampNeg) := own_inb Sa185 (show 3 < 9 by decide) (show 9 < 2147483648 by decide)
                    have hat185 : cl185.slots[(Int32.ofNat 3).toNatClampNeg]? = some (.int (g0 3)) := by rw [own_cl (Nat.lt_trans (show 3 < 9 by decide) (show 9 < 2147483648 by decide))]; exact Ha185 3 (show 3 < 9 by decide)
                    obtain ⟨cl187, Ar187, qa187, Sa187, Ha187⟩ := id G184
                    have hin187 : ¬ ((Int32.ofNat 3) < 0 ∨ cl187.slots.size ≤ (Int32.ofNat 3).toNatClampNeg) := own_inb Sa187 (show 3 < 9 by decide) (show 9 < 2147483648 by decide)
                    obtain ⟨T188, h188, X188, e188, W188, st188⟩ := stC X184 hx hZ e184 Ar187 (j := (3 : Int32)) hin187 (g := (mkF m 335 #[.val (.ref o0), .val (.int (Int32.ofNat n))] [(.int (g0 3)), (.int (3 : Int32)), (.ref b172), (.ref b172)])) rfl rfl (hb hby d9_335)
                    obtain ⟨g188, G188, hg188⟩ := own_gset Ar187 qa187 Sa187 Ha187 W188 hg184 (hg0 3)
                    have Zs188 : n0 ≤ h188.size := Nat.le_trans Zs184 (Nat.le_of_eq W188.size.symm)
                    have K188 : Keep h0 h188 [] := K184.wr W188 (Or.inr sz_b172)
                    have N188 := Fr.snoc X188 N184 g_b172
                    have V_c_190 := (V_c_186.other W188 ne172_o0)
                    obtain ⟨cl189, Ar189, qa189, Sa189, Ha189⟩ := id V_c_190
                    have hin189 : ¬ ((Int32.ofNat 4) < 0 ∨ cl189.slots.size ≤ (Int32.ofNat 4).toNatClampNeg) := own_inb Sa189 (show 4 < 9 by decide) (show 9 < 2147483648 by decide)
                    have hat189 : cl189.slots[(Int32.ofNat 4).toNatClampNeg]? = some (.int (g0 4)) := by rw [own_cl (Nat.lt_trans (show 4 < 9 by decide) (show 9 < 2147483648 by decide))]; exact Ha189 4 (show 4 < 9 by decide)
                    obtain ⟨cl191, Ar191, qa191, Sa191, Ha191⟩ := id G188
                    have hin191 : ¬ ((Int32.ofNat 4) < 0 ∨ cl191.slots.size ≤ (Int32.ofNat 4).toNatClampNeg) := own_inb Sa191 (show 4 < 9 by decide) (show 9 < 2147483648 by decide)
                    obtain ⟨T192, h192, X192, e192, W192, st192⟩ := stC X188 hx hZ e188 Ar191 (j := (4 : Int32)) hin191 (g := (mkF m 341 #[.val (.ref o0), .val (.int (Int32.ofNat n))] [(.int (g0 4)), (.int (4 : Int32)), (.ref b172), (.ref b172)])) rfl rfl (hb hby d9_341)
                    obtain ⟨g192, G192, hg192⟩ := own_gset Ar191 qa191 Sa191 Ha191 W192 hg188 (hg0 4)
                    have Zs192 : n0 ≤ h192.size := Nat.le_trans Zs188 (Nat.le_of_eq W192.size.symm)
                    have K192 : Keep h0 h192 [] := K188.wr W192 (Or.inr sz_b172)
                    have N192 := Fr.snoc X192 N188 g_b172
                    have V_c_194 := (V_c_190.other W192 ne172_o0)
                    obtain ⟨cl193, Ar193, qa193, Sa193, Ha193⟩ := id V_c_194
                    have hin193 : ¬ ((Int32.ofNat 5) < 0 ∨ cl193.slots.size ≤ (Int32.ofNat 5).toNatClampNeg) := own_inb Sa193 (show 5 < 9 by decide) (show 9 < 2147483648 by decide)
                    have hat193 : cl193.slots[(Int32.ofNat 5).toNatClampNeg]? = some (.int (g0 5)) := by rw [own_cl (Nat.lt_trans (show 5 < 9 by decide) (show 9 < 2147483648 by decide))]; exact Ha193 5 (show 5 < 9 by decide)
                    obtain ⟨cl195, Ar195, qa195, Sa195, Ha195⟩ := id G192
                    have hin195 : ¬ ((Int32.ofNat 5) < 0 ∨ cl195.slots.size ≤ (Int32.ofNat 5).toNatClampNeg) := own_inb Sa195 (show 5 < 9 by decide) (show 9 < 2147483648 by decide)
                    obtain ⟨T196, h196, X196, e196, W196, st196⟩ := stC X192 hx hZ e192 Ar195 (j := (5 : Int32)) hin195 (g := (mkF m 347 #[.val (.ref o0), .val (.int (Int32.ofNat n))] [(.int (g0 5)), (.int (5 : Int32)), (.ref b172), (.ref b172)])) rfl rfl (hb hby d9_347)
                    obtain ⟨g196, G196, hg196⟩ := own_gset Ar195 qa195 Sa195 Ha195 W196 hg192 (hg0 5)
                    have Zs196 : n0 ≤ h196.size := Nat.le_trans Zs192 (Nat.le_of_eq W196.size.symm)
                    have K196 : Keep h0 h196 [] := K192.wr W196 (Or.inr sz_b172)
                    have N196 := Fr.snoc X196 N192 g_b172
                    have V_c_198 := (V_c_194.other W196 ne172_o0)
                    obtain ⟨cl197, Ar197, qa197, Sa197, Ha197⟩ := id V_c_198
                    have hin197 : ¬ ((Int32.ofNat 6) < 0 ∨ cl197.slots.size ≤ (Int32.ofNat 6).toNatClampNeg) := own_inb Sa197 (show 6 < 9 by decide) (show 9 < 2147483648 by decide)
                    have hat197 : cl197.slots[(Int32.ofNat 6).toNatClampNeg]? = some (.int (g0 6)) := by rw [own_cl (Nat.lt_trans (show 6 < 9 by decide) (show 9 < 2147483648 by decide))]; exact Ha197 6 (show 6 < 9 by decide)
                    obtain ⟨cl199, Ar199, qa199, Sa199, Ha199⟩ := id G196
                    have hin199 : ¬ ((Int32.ofNat 6) < 0 ∨ cl199.slots.size ≤ (Int32.ofNat 6).toNatClampNeg) := own_inb Sa199 (show 6 < 9 by decide) (show 9 < 2147483648 by decide)
                    obtain ⟨T200, h200, X200, e200, W200, st200⟩ := stC X196 hx hZ e196 Ar199 (j := (6 : Int32)) hin199 (g := (mkF m 355 #[.val (.ref o0), .val (.int (Int32.ofNat n))] [(.int (g0 6)), (.int (6 : Int32)), (.ref b172), (.ref b172)])) rfl rfl (hb hby d9_355)
                    obtain ⟨g200, G200, hg200⟩ := own_gset Ar199 qa199 Sa199 Ha199 W200 hg196 (hg0 6)
                    have Zs200 : n0 ≤ h200.size := Nat.le_trans Zs196 (Nat.le_of_eq W200.size.symm)
                    have K200 : Keep h0 h200 [] := K196.wr W200 (Or.inr sz_b172)
                    have N200 := Fr.snoc X200 N196 g_b172
                    have V_c_202 := (V_c_198.other W200 ne172_o0)
                    obtain ⟨cl201, Ar201, qa201, Sa201, Ha201⟩ := id V_c_202
                    have hin201 : ¬ ((Int32.ofNat 7) < 0 ∨ cl201.slots.size ≤ (Int32.ofNat 7).toNatClampNeg) := own_inb Sa201 (show 7 < 9 by decide) (show 9 < 2147483648 by decide)
                    have hat201 : cl201.slots[(Int32.ofNat 7).toNatClampNeg]? = some (.int (g0 7)) := by rw [own_cl (Nat.lt_trans (show 7 < 9 by decide) (show 9 < 2147483648 by decide))]; exact Ha201 7 (show 7 < 9 by decide)
                    obtain ⟨cl203, Ar203, qa203, Sa203, Ha203⟩ := id G200
                    have hin203 : ¬ ((Int32.ofNat 7) < 0 ∨ cl203.slots.size ≤ (Int32.ofNat 7).toNatClampNeg) := own_inb Sa203 (show 7 < 9 by decide) (show 9 < 2147483648 by decide)
                    obtain ⟨T204, h204, X204, e204, W204, st204⟩ := stC X200 hx hZ e200 Ar203 (j := (7 : Int32)) hin203 (g := (mkF m 363 #[.val (.ref o0), .val (.int (Int32.ofNat n))] [(.int (g0 7)), (.int (7 : Int32)), (.ref b172), (.ref b172)])) rfl rfl (hb hby d9_363)
                    obtain ⟨g204, G204, hg204⟩ := own_gset Ar203 qa203 Sa203 Ha203 W204 hg200 (hg0 7)
                    have Zs204 : n0 ≤ h204.size := Nat.le_trans Zs200 (Nat.le_of_eq W204.size.symm)
                    have K204 : Keep h0 h204 [] := K200.wr W204 (Or.inr sz_b172)
                    have N204 := Fr.snoc X204 N200 g_b172
                    have V_c_206 := (V_c_202.other W204 ne172_o0)
                    obtain ⟨cl205, Ar205, qa205, Sa205, Ha205⟩ := id V_c_206
                    have hin205 : ¬ ((Int32.ofNat 8) < 0 ∨ cl205.slots.size ≤ (Int32.ofNat 8).toNatClampNeg) := own_inb Sa205 (show 8 < 9 by decide) (show 9 < 2147483648 by decide)
                    have hat205 : cl205.slots[(Int32.ofNat 8).toNatClampNeg]? = some (.int (g0 8)) := by rw [own_cl (Nat.lt_trans (show 8 < 9 by decide) (show 9 < 2147483648 by decide))]; exact Ha205 8 (show 8 < 9 by decide)
                    obtain ⟨cl207, Ar207, qa207, Sa207, Ha207⟩ := id G204
                    have hin207 : ¬ ((Int32.ofNat 8) < 0 ∨ cl207.slots.size ≤ (Int32.ofNat 8).toNatClampNeg) := own_inb Sa207 (show 8 < 9 by decide) (show 9 < 2147483648 by decide)
                    obtain ⟨T208, h208, X208, e208, W208, st208⟩ := stC X204 hx hZ e204 Ar207 (j := (8 : Int32)) hin207 (g := (mkF m 371 #[.val (.ref o0), .val (.int (Int32.ofNat n))] [(.int (g0 8)), (.int (8 : Int32)), (.ref b172), (.ref b172)])) rfl rfl (hb hby d9_371)
                    obtain ⟨g208, G208, hg208⟩ := own_gset Ar207 qa207 Sa207 Ha207 W208 hg204 (hg0 8)
                    have Zs208 : n0 ≤ h208.size := Nat.le_trans Zs204 (Nat.le_of_eq W208.size.symm)
                    have K208 : Keep h0 h208 [] := K204.wr W208 (Or.inr sz_b172)
                    have N208 := Fr.snoc X208 N204 g_b172
                    have en : n = 9 := by omega
                    obtain ⟨fs, hr, hrun, hended, hW, hsame⟩ := X208.leave (v := some (.ref b172)) (fun h => by rw [Bd.returns] at h; cases h)
                    refine ⟨_, _, pre137 _ ?_, hrun, hended, _, _, rfl, ?_, ⟨_, rfl⟩, hW, hsame.mono (by decide) (by decide)⟩
                    · skip
                      show Steps p.tables e below (s₁.setTop (mkF m 248 #[.val (.ref o0), .val (.int (Int32.ofNat n))] [(.int (8 : Int32)), (.int (Int32.ofNat n))])) _
                      refine XS.icmpYes X0.here hx rfl (pc0 := 248) (pc' := 308) rfl (hb hby d9_248) rfl (feq hc138).2 (by decide) (by decide) ?_
                      show Steps p.tables e below (s₁.setTop (mkF m 308 #[.val (.ref o0), .val (.int (Int32.ofNat n))] [])) _
                      refine XS.bipush X0.here hx rfl (hb hby d9_308) ?_
                      show Steps p.tables e below (s₁.setTop (mkF m 310 #[.val (.ref o0), .val (.int (Int32.ofNat n))] [(.int (9 : Int32))])) _
                      refine st172 _ ?_
                      show Steps p.tables e below (T172.setTop (mkF m 312 #[.val (.ref o0), .val (.int (Int32.ofNat n))] [(.ref b172)])) _
                      refine XS.dup X172.here hx rfl (hb hby d9_312) rfl rfl ?_
                      show Steps p.tables e below (T172.setTop (mkF m 313 #[.val (.ref o0), .val (.int (Int32.ofNat n))] [(.ref b172), (.ref b172)])) _
                      refine XS.iconst X172.here hx rfl (hb hby d9_313) ?_
                      show Steps p.tables e below (T172.setTop (mkF m 314 #[.val (.ref o0), .val (.int (Int32.ofNat n))] [(.int (0 : Int32)), (.ref b172), (.ref b172)])) _
                      refine XS.aloadN X172.here hx rfl (hb hby d9_314) rfl rfl ?_
                      show Steps p.tables e below (T172.setTop (mkF m 315 #[.val (.ref o0), .val (.int (Int32.ofNat n))] [(.ref o0), (.int (0 : Int32)), (.ref b172), (.ref b172)])) _
                      refine XS.iconst X172.here hx rfl (hb hby d9_315) ?_
                      show Steps p.tables e below (T172.setTop (mkF m 316 #[.val (.ref o0), .val (.int (Int32.ofNat n))] [(.int (0 : Int32)), (.ref o0), (.int (0 : Int32)), (.ref b172), (.ref b172)])) _
                      refine X172.caload hx (j := (0 : Int32)) (v := (.int (g0 0))) (by rw [e172]; exact Ar173.1) (State.isArrayOf_alike hZ.alike Ar173.2.1) Ar173.2.2 hin173 hat173 (g := (mkF m 316 #[.val (.ref o0), .val (.int (Int32.ofNat n))] [(.int (0 : Int32)), (.ref o0), (.int (0 : Int32)), (.ref b172), (.ref b172)])) rfl rfl (hb hby d9_316) _ ?_
                      show Steps p.tables e below (T172.setTop (mkF m 317 #[.val (.ref o0), .val (.int (Int32.ofNat n))] [(.int (g0 0)), (.int (0 : Int32)), (.ref b172), (.ref b172)])) _
                      refine st176 _ ?_
                      show Steps p.tables e below (T176.setTop (mkF m 318 #[.val (.ref o0), .val (.int (Int32.ofNat n))] [(.ref b172)])) _
                      refine XS.dup X176.here hx rfl (hb hby d9_318) rfl rfl ?_
                      show Steps p.tables e below (T176.setTop (mkF m 319 #[.val (.ref o0), .val (.int (Int32.ofNat n))] [(.ref b172), (.ref b172)])) _
                      refine XS.iconst X176.here hx rfl (hb hby d9_319) ?_
                      show Steps p.tables e below (T176.setTop (mkF m 320 #[.val (.ref o0), .val (.int (Int32.ofNat n))] [(.int (1 : Int32)), (.ref b172), (.ref b172)])) _
                      refine XS.aloadN X176.here hx rfl (hb hby d9_320) rfl rfl ?_
                      show Steps p.tables e below (T176.setTop (mkF m 321 #[.val (.ref o0), .val (.int (Int32.ofNat n))] [(.ref o0), (.int (1 : Int32)), (.ref b172), (.ref b172)])) _
                      refine XS.iconst X176.here hx rfl (hb hby d9_321) ?_
                      show Steps p.tables e below (T176.setTop (mkF m 322 #[.val (.ref o0), .val (.int (Int32.ofNat n))] [(.int (1 : Int32)), (.ref o0), (.int (1 : Int32)), (.ref b172), (.ref b172)])) _
                      refine X176.caload hx (j := (1 : Int32)) (v := (.int (g0 1))) (by rw [e176]; exact Ar177.1) (State.isArrayOf_alike hZ.alike Ar177.2.1) Ar177.2.2 hin177 hat177 (g := (mkF m 322 #[.val (.ref o0), .val (.int (Int32.ofNat n))] [(.int (1 : Int32)), (.ref o0), (.int (1 : Int32)), (.ref b172), (.ref b172)])) rfl rfl (hb hby d9_322) _ ?_
                      show Steps p.tables e below (T176.setTop (mkF m 323 #[.val (.ref o0), .val (.int (Int32.ofNat n))] [(.int (g0 1)), (.int (1 : Int32)), (.ref b172), (.ref b172)])) _
                      refine st180 _ ?_
                      show Steps p.tables e below (T180.setTop (mkF m 324 #[.val (.ref o0), .val (.int (Int32.ofNat n))] [(.ref b172)])) _
                      refine XS.dup X180.here hx rfl (hb hby d9_324) rfl rfl ?_
                      show Steps p.tables e below (T180.setTop (mkF m 325 #[.val (.ref o0), .val (.int (Int32.ofNat n))] [(.ref b172), (.ref b172)])) _
                      refine XS.iconst X180.here hx rfl (hb hby d9_325) ?_
                      show Steps p.tables e below (T180.setTop (mkF m 326 #[.val (.ref o0), .val (.int (Int32.ofNat n))] [(.int (2 : Int32)), (.ref b172), (.ref b172)])) _
                      refine XS.aloadN X180.here hx rfl (hb hby d9_326) rfl rfl ?_
                      show Steps p.tables e below (T180.setTop (mkF m 327 #[.val (.ref o0), .val (.int (Int32.ofNat n))] [(.ref o0), (.int (2 : Int32)), (.ref b172), (.ref b172)])) _
                      refine XS.iconst X180.here hx rfl (hb hby d9_327) ?_
                      show Steps p.tables e below (T180.setTop (mkF m 328 #[.val (.ref o0), .val (.int (Int32.ofNat n))] [(.int (2 : Int32)), (.ref o0), (.int (2 : Int32)), (.ref b172), (.ref b172)])) _
                      refine X180.caload hx (j := (2 : Int32)) (v := (.int (g0 2))) (by rw [e180]; exact Ar181.1) (State.isArrayOf_alike hZ.alike Ar181.2.1) Ar181.2.2 hin181 hat181 (g := (mkF m 328 #[.val (.ref o0), .val (.int (Int32.ofNat n))] [(.int (2 : Int32)), (.ref o0), (.int (2 : Int32)), (.ref b172), (.ref b172)])) rfl rfl (hb hby d9_328) _ ?_
                      show Steps p.tables e below (T180.setTop (mkF m 329 #[.val (.ref o0), .val (.int (Int32.ofNat n))] [(.int (g0 2)), (.int (2 : Int32)), (.ref b172), (.ref b172)])) _
                      refine st184 _ ?_
                      show Steps p.tables e below (T184.setTop (mkF m 330 #[.val (.ref o0), .val (.int (Int32.ofNat n))] [(.ref b172)])) _
                      refine XS.dup X184.here hx rfl (hb hby d9_330) rfl rfl ?_
                      show Steps p.tables e below (T184.setTop (mkF m 331 #[.val (.ref o0), .val (.int (Int32.ofNat n))] [(.ref b172), (.ref b172)])) _
                      refine XS.iconst X184.here hx rfl (hb hby d9_331) ?_
                      show Steps p.tables e below (T184.setTop (mkF m 332 #[.val (.ref o0), .val (.int (Int32.ofNat n))] [(.int (3 : Int32)), (.ref b172), (.ref b172)])) _
                      refine XS.aloadN X184.here hx rfl (hb hby d9_332) rfl rfl ?_
                      show Steps p.tables e below (T184.setTop (mkF m 333 #[.val (.ref o0), .val (.int (Int32.ofNat n))] [(.ref o0), (.int (3 : Int32)), (.ref b172), (.ref b172)])) _
                      refine XS.iconst X184.here hx rfl (hb hby d9_333) ?_
                      show Steps p.tables e below (T184.setTop (mkF m 334 #[.val (.ref o0), .val (.int (Int32.ofNat n))] [(.int (3 : Int32)), (.ref o0), (.int (3 : Int32)), (.ref b172), (.ref b172)])) _
                      refine X184.caload hx (j := (3 : Int32)) (v := (.int (g0 3))) (by rw [e184]; exact Ar185.1) (State.isArrayOf_alike hZ.alike Ar185.2.1) Ar185.2.2 hin185 hat185 (g := (mkF m 334 #[.val (.ref o0), .val (.int (Int32.ofNat n))] [(.int (3 : Int32)), (.ref o0), (.int (3 : Int32)), (.ref b172), (.ref b172)])) rfl rfl (hb hby d9_334) _ ?_
                      show Steps p.tables e below (T184.setTop (mkF m 335 #[.val (.ref o0), .val (.int (Int32.ofNat n))] [(.int (g0 3)), (.int (3 : Int32)), (.ref b172), (.ref b172)])) _
                      refine st188 _ ?_
                      show Steps p.tables e below (T188.setTop (mkF m 336 #[.val (.ref o0), .val (.int (Int32.ofNat n))] [(.ref b172)])) _
                      refine XS.dup X188.here hx rfl (hb hby d9_336) rfl rfl ?_
                      show Steps p.tables e below (T188.setTop (mkF m 337 #[.val (.ref o0), .val (.int (Int32.ofNat n))] [(.ref b172), (.ref b172)])) _
                      refine XS.iconst X188.here hx rfl (hb hby d9_337) ?_
                      show Steps p.tables e below (T188.setTop (mkF m 338 #[.val (.ref o0), .val (.int (Int32.ofNat n))] [(.int (4 : Int32)), (.ref b172), (.ref b172)])) _
                      refine XS.aloadN X188.here hx rfl (hb hby d9_338) rfl rfl ?_
                      show Steps p.tables e below (T188.setTop (mkF m 339 #[.val (.ref o0), .val (.int (Int32.ofNat n))] [(.ref o0), (.int (4 : Int32)), (.ref b172), (.ref b172)])) _
                      refine XS.iconst X188.here hx rfl (hb hby d9_339) ?_
                      show Steps p.tables e below (T188.setTop (mkF m 340 #[.val (.ref o0), .val (.int (Int32.ofNat n))] [(.int (4 : Int32)), (.ref o0), (.int (4 : Int32)), (.ref b172), (.ref b172)])) _
                      refine X188.caload hx (j := (4 : Int32)) (v := (.int (g0 4))) (by rw [e188]; exact Ar189.1) (State.isArrayOf_alike hZ.alike Ar189.2.1) Ar189.2.2 hin189 hat189 (g := (mkF m 340 #[.val (.ref o0), .val (.int (Int32.ofNat n))] [(.int (4 : Int32)), (.ref o0), (.int (4 : Int32)), (.ref b172), (.ref b172)])) rfl rfl (hb hby d9_340) _ ?_
                      show Steps p.tables e below (T188.setTop (mkF m 341 #[.val (.ref o0), .val (.int (Int32.ofNat n))] [(.int (g0 4)), (.int (4 : Int32)), (.ref b172), (.ref b172)])) _
                      refine st192 _ ?_
                      show Steps p.tables e below (T192.setTop (mkF m 342 #[.val (.ref o0), .val (.int (Int32.ofNat n))] [(.ref b172)])) _
                      refine XS.dup X192.here hx rfl (hb hby d9_342) rfl rfl ?_
                      show Steps p.tables e below (T192.setTop (mkF m 343 #[.val (.ref o0), .val (.int (Int32.ofNat n))] [(.ref b172), (.ref b172)])) _
                      refine XS.iconst X192.here hx rfl (hb hby d9_343) ?_
                      show Steps p.tables e below (T192.setTop (mkF m 344 #[.val (.ref o0), .val (.int (Int32.ofNat n))] [(.int (5 : Int32)), (.ref b172), (.ref b172)])) _
                      refine XS.aloadN X192.here hx rfl (hb hby d9_344) rfl rfl ?_
                      show Steps p.tables e below (T192.setTop (mkF m 345 #[.val (.ref o0), .val (.int (Int32.ofNat n))] [(.ref o0), (.int (5 : Int32)), (.ref b172), (.ref b172)])) _
                      refine XS.iconst X192.here hx rfl (hb hby d9_345) ?_
                      show Steps p.tables e below (T192.setTop (mkF m 346 #[.val (.ref o0), .val (.int (Int32.ofNat n))] [(.int (5 : Int32)), (.ref o0), (.int (5 : Int32)), (.ref b172), (.ref b172)])) _
                      refine X192.caload hx (j := (5 : Int32)) (v := (.int (g0 5))) (by rw [e192]; exact Ar193.1) (State.isArrayOf_alike hZ.alike Ar193.2.1) Ar193.2.2 hin193 hat193 (g := (mkF m 346 #[.val (.ref o0), .val (.int (Int32.ofNat n))] [(.int (5 : Int32)), (.ref o0), (.int (5 : Int32)), (.ref b172), (.ref b172)])) rfl rfl (hb hby d9_346) _ ?_
                      show Steps p.tables e below (T192.setTop (mkF m 347 #[.val (.ref o0), .val (.int (Int32.ofNat n))] [(.int (g0 5)), (.int (5 : Int32)), (.ref b172), (.ref b172)])) _
                      refine st196 _ ?_
                      show Steps p.tables e below (T196.setTop (mkF m 348 #[.val (.ref o0), .val (.int (Int32.ofNat n))] [(.ref b172)])) _
                      refine XS.dup X196.here hx rfl (hb hby d9_348) rfl rfl ?_
                      show Steps p.tables e below (T196.setTop (mkF m 349 #[.val (.ref o0), .val (.int (Int32.ofNat n))] [(.ref b172), (.ref b172)])) _
                      refine XS.bipush X196.here hx rfl (hb hby d9_349) ?_
                      show Steps p.tables e below (T196.setTop (mkF m 351 #[.val (.ref o0), .val (.int (Int32.ofNat n))] [(.int (6 : Int32)), (.ref b172), (.ref b172)])) _
                      refine XS.aloadN X196.here hx rfl (hb hby d9_351) rfl rfl ?_
                      show Steps p.tables e below (T196.setTop (mkF m 352 #[.val (.ref o0), .val (.int (Int32.ofNat n))] [(.ref o0), (.int (6 : Int32)), (.ref b172), (.ref b172)])) _
                      refine XS.bipush X196.here hx rfl (hb hby d9_352) ?_
                      show Steps p.tables e below (T196.setTop (mkF m 354 #[.val (.ref o0), .val (.int (Int32.ofNat n))] [(.int (6 : Int32)), (.ref o0), (.int (6 : Int32)), (.ref b172), (.ref b172)])) _
                      refine X196.caload hx (j := (6 : Int32)) (v := (.int (g0 6))) (by rw [e196]; exact Ar197.1) (State.isArrayOf_alike hZ.alike Ar197.2.1) Ar197.2.2 hin197 hat197 (g := (mkF m 354 #[.val (.ref o0), .val (.int (Int32.ofNat n))] [(.int (6 : Int32)), (.ref o0), (.int (6 : Int32)), (.ref b172), (.ref b172)])) rfl rfl (hb hby d9_354) _ ?_
                      show Steps p.tables e below (T196.setTop (mkF m 355 #[.val (.ref o0), .val (.int (Int32.ofNat n))] [(.int (g0 6)), (.int (6 : Int32)), (.ref b172), (.ref b172)])) _
                      refine st200 _ ?_
                      show Steps p.tables e below (T200.setTop (mkF m 356 #[.val (.ref o0), .val (.int (Int32.ofNat n))] [(.ref b172)])) _
                      refine XS.dup X200.here hx rfl (hb hby d9_356) rfl rfl ?_
                      show Steps p.tables e below (T200.setTop (mkF m 357 #[.val (.ref o0), .val (.int (Int32.ofNat n))] [(.ref b172), (.ref b172)])) _
                      refine XS.bipush X200.here hx rfl (hb hby d9_357) ?_
                      show Steps p.tables e below (T200.setTop (mkF m 359 #[.val (.ref o0), .val (.int (Int32.ofNat n))] [(.int (7 : Int32)), (.ref b172), (.ref b172)])) _
                      refine XS.aloadN X200.here hx rfl (hb hby d9_359) rfl rfl ?_
                      show Steps p.tables e below (T200.setTop (mkF m 360 #[.val (.ref o0), .val (.int (Int32.ofNat n))] [(.ref o0), (.int (7 : Int32)), (.ref b172), (.ref b172)])) _
                      refine XS.bipush X200.here hx rfl (hb hby d9_360) ?_
                      show Steps p.tables e below (T200.setTop (mkF m 362 #[.val (.ref o0), .val (.int (Int32.ofNat n))] [(.int (7 : Int32)), (.ref o0), (.int (7 : Int32)), (.ref b172), (.ref b172)])) _
                      refine X200.caload hx (j := (7 : Int32)) (v := (.int (g0 7))) (by rw [e200]; exact Ar201.1) (State.isArrayOf_alike hZ.alike Ar201.2.1) Ar201.2.2 hin201 hat201 (g := (mkF m 362 #[.val (.ref o0), .val (.int (Int32.ofNat n))] [(.int (7 : Int32)), (.ref o0), (.int (7 : Int32)), (.ref b172), (.ref b172)])) rfl rfl (hb hby d9_362) _ ?_
                      show Steps p.tables e below (T200.setTop (mkF m 363 #[.val (.ref o0), .val (.int (Int32.ofNat n))] [(.int (g0 7)), (.int (7 : Int32)), (.ref b172), (.ref b172)])) _
                      refine st204 _ ?_
                      show Steps p.tables e below (T204.setTop (mkF m 364 #[.val (.ref o0), .val (.int (Int32.ofNat n))] [(.ref b172)])) _
                      refine XS.dup X204.here hx rfl (hb hby d9_364) rfl rfl ?_
                      show Steps p.tables e below (T204.setTop (mkF m 365 #[.val (.ref o0), .val (.int (Int32.ofNat n))] [(.ref b172), (.ref b172)])) _
                      refine XS.bipush X204.here hx rfl (hb hby d9_365) ?_
                      show Steps p.tables e below (T204.setTop (mkF m 367 #[.val (.ref o0), .val (.int (Int32.ofNat n))] [(.int (8 : Int32)), (.ref b172), (.ref b172)])) _
                      refine XS.aloadN X204.here hx rfl (hb hby d9_367) rfl rfl ?_
                      show Steps p.tables e below (T204.setTop (mkF m 368 #[.val (.ref o0), .val (.int (Int32.ofNat n))] [(.ref o0), (.int (8 : Int32)), (.ref b172), (.ref b172)])) _
                      refine XS.bipush X204.here hx rfl (hb hby d9_368) ?_
                      show Steps p.tables e below (T204.setTop (mkF m 370 #[.val (.ref o0), .val (.int (Int32.ofNat n))] [(.int (8 : Int32)), (.ref o0), (.int (8 : Int32)), (.ref b172), (.ref b172)])) _
                      refine X204.caload hx (j := (8 : Int32)) (v := (.int (g0 8))) (by rw [e204]; exact Ar205.1) (State.isArrayOf_alike hZ.alike Ar205.2.1) Ar205.2.2 hin205 hat205 (g := (mkF m 370 #[.val (.ref o0), .val (.int (Int32.ofNat n))] [(.int (8 : Int32)), (.ref o0), (.int (8 : Int32)), (.ref b172), (.ref b172)])) rfl rfl (hb hby d9_370) _ ?_
                      show Steps p.tables e below (T204.setTop (mkF m 371 #[.val (.ref o0), .val (.int (Int32.ofNat n))] [(.int (g0 8)), (.int (8 : Int32)), (.ref b172), (.ref b172)])) _
                      refine st208 _ ?_
                      show Steps p.tables e below (T208.setTop (mkF m 372 #[.val (.ref o0), .val (.int (Int32.ofNat n))] [(.ref b172)])) _
                      jvm_step X208.here [X208.here.top, hx, (hb hby d9_372), X208.method', Bd.returns, Value.isRef, FieldType.isReference]
                      first | (intro acts; rw [hr _ acts rfl rfl rfl]) | rw [hr _ _ rfl rfl rfl]
                      exact Steps.refl _
                    · show QTa Z n h0 n0 _ T208.heap _
                      rw [e208]
                      exact ⟨_, k172, g208, rfl, N208, K208, sz_b172, (by rw [en]; exact G208), hg208⟩
def QEx (W : Nat → Addr) (rr : Nat → Int32) (n0 : Nat) (v : Option Value) (h : Heap) (L : List Loc) : Prop := v = some (own_res W rr) ∧ Fr n0 L
theorem d20_0 : decode method_4_code 0 = .ok (.aload_n 0, 1) := by decide +kernel
theorem d20_1 : decode method_4_code 1 = .ok (.ifnonnull 5, 3) := by decide +kernel
theorem d20_6 : decode method_4_code 6 = .ok (.aload_n 0, 1) := by decide +kernel
theorem d20_7 : decode method_4_code 7 = .ok (.ldc 8, 2) := by decide +kernel
theorem d20_9 : decode method_4_code 9 = .ok (.invokevirtual 52, 3) := by decide +kernel
theorem d20_12 : decode method_4_code 12 = .ok (.ifCond .eq 7, 3) := by decide +kernel
theorem d20_19 : decode method_4_code 19 = .ok (.aload_n 0, 1) := by decide +kernel
theorem d20_20 : decode method_4_code 20 = .ok (.ldc 10, 2) := by decide +kernel
theorem d20_22 : decode method_4_code 22 = .ok (.invokevirtual 52, 3) := by decide +kernel
theorem d20_25 : decode method_4_code 25 = .ok (.ifCond .eq 7, 3) := by decide +kernel
theorem d20_32 : decode method_4_code 32 = .ok (.aload_n 0, 1) := by decide +kernel
theorem d20_33 : decode method_4_code 33 = .ok (.ldc 12, 2) := by decide +kernel
theorem d20_35 : decode method_4_code 35 = .ok (.invokevirtual 52, 3) := by decide +kernel
theorem d20_38 : decode method_4_code 38 = .ok (.ifCond .eq 7, 3) := by decide +kernel
theorem d20_45 : decode method_4_code 45 = .ok (.aconst_null, 1) := by decide +kernel
theorem d20_46 : decode method_4_code 46 = .ok (.areturn, 1) := by decide +kernel
theorem d20_41 : decode method_4_code 41 = .ok (.getstatic 63, 3) := by decide +kernel
theorem d20_44 : decode method_4_code 44 = .ok (.areturn, 1) := by decide +kernel
theorem d20_28 : decode method_4_code 28 = .ok (.getstatic 60, 3) := by decide +kernel
theorem d20_31 : decode method_4_code 31 = .ok (.areturn, 1) := by decide +kernel
theorem d20_15 : decode method_4_code 15 = .ok (.getstatic 56, 3) := by decide +kernel
theorem d20_18 : decode method_4_code 18 = .ok (.areturn, 1) := by decide +kernel
theorem pn_20 : plainName "heslar/KindByCodePinLaw" = true := by first | (simp [plainName, overriddenIn]; done) | decide +kernel
theorem ef_rEx (m : MethodId) (x0 : Addr) : entryFrame m #[(.ref x0)] 1 = mkF m 0 #[.val (.ref x0)] [] := by first | (simp [entryFrame, mkF, argsToLocals, Value.category]; done) | rfl
set_option maxRecDepth 65536 in
set_option maxHeartbeats 40000000 in
theorem rEx (l : Launch) (Z : State) (a0 : Array Value) (hw : ∀ d ∈ tables_1, d.before a0 Z = true) (ws : List Jvm.Cond) (o0 : Addr) (hEL : EW Z a0 consts_1) (W : Nat → Addr) (h0 : Heap) (n0 : Nat) (Z0 : n0 ≤ h0.size) (S_0 : Sta Z h0 "heslar/Boundary$Kind" "EXACT" "Lheslar/Boundary$Kind;" (.ref (W 0))) (S_1 : Sta Z h0 "heslar/Boundary$Kind" "ACTIVITY" "Lheslar/Boundary$Kind;" (.ref (W 1))) (S_2 : Sta Z h0 "heslar/Boundary$Kind" "MENTION" "Lheslar/Boundary$Kind;" (.ref (W 2))) (cs : Int32) (hcs : ¬ cs = (0 : Int32)) (S_C : Sta Z h0 "java/lang/String" "COMPACT_STRINGS" "Z" (.int cs)) (v0 : Addr) (k0 : ClassId) (n : Nat) (f : Nat → Int32) (rr : Nat → Int32) (hn : n ≤ 4000) (R_s : SB Z h0 o0 v0 k0 n f) (hr0 : (rr 0 = (1 : Int32) ∧ Same n 5 f (fun i => ([101, 120, 97, 99, 116] : List Int32).getD i 0)) ∨ (rr 0 = (0 : Int32) ∧ ¬ Same n 5 f (fun i => ([101, 120, 97, 99, 116] : List Int32).getD i 0))) (hr1 : (rr 1 = (1 : Int32) ∧ Same n 8 f (fun i => ([97, 99, 116, 105, 118, 105, 116, 121] : List Int32).getD i 0)) ∨ (rr 1 = (0 : Int32) ∧ ¬ Same n 8 f (fun i => ([97, 99, 116, 105, 118, 105, 116, 121] : List Int32).getD i 0))) (hr2 : (rr 2 = (1 : Int32) ∧ Same n 7 f (fun i => ([109, 101, 110, 116, 105, 111, 110] : List Int32).getD i 0)) ∨ (rr 2 = (0 : Int32) ∧ ¬ Same n 7 f (fun i => ([109, 101, 110, 116, 105, 111, 110] : List Int32).getD i 0))) :
    MetFree l (⟨"heslar/KindByCodePinLaw", "expected", "(Ljava/lang/String;)Lheslar/Boundary$Kind;"⟩ : MethodName) (head1 (Jvm.Cond.code (⟨"heslar/KindByCodePinLaw", "expected", "(Ljava/lang/String;)Lheslar/Boundary$Kind;"⟩ : MethodName) method_4_code 1 (some (.object "heslar/Boundary$Kind")) :: ws) ({ frames := 2, cells := 6, slots := 108, locals := 30 } : Room)) (fun a U => a = #[(.ref o0)] ∧ Z.Warmed39 U.vm ∧ U.heap = h0 ∧ CHv Z consts_1 U.vm h0) (fun _ _ _ _ _ => True) (fun _ U o U' => ∃ v L, o = .returned v ∧ QEx W rr n0 v U'.heap L ∧ CHr Z consts_1 U.vm U.heap U'.vm U'.heap ∧ ReturnedEndW U o U' L ({ frames := 2, cells := 6, slots := 108, locals := 30 } : Room).cells ({ frames := 2, cells := 6, slots := 108, locals := 30 } : Room).slots) := by
  refine MetFree.of_bodySF (plainFor_of_name pn_20) hisR ?_
  intro p e s m args below meth c s₁ Bd hml0 hP hK
  obtain ⟨rfl, hZ, hh, hCH⟩ := hP
  have hx := Bd.exec
  have hby := Bd.bytes
  have hml : c.maxLocals = 1 := hml0
  have hown : s.vm.findClass "heslar/KindByCodePinLaw" = some m.cls := findClass_of_methodNamed Bd.named
  have hnm := (name_of_methodNamed Bd.named Bd.method).1
  have X0 : Stand p l e ({ frames := 2, cells := 6, slots := 108, locals := 30 } : Room) (s.setVm s.vm) m #[(.ref o0)] below meth c s₁ [] 0 0 := Stand.of_body Bd
  have e0 : s₁.heap = h0 := by rw [← hh, Bd.state]; rfl
  have N0 := Fr.nil n0
  have hS0 : s.Since s.vm 0 := (State.WarmedH.refl s).since 0
  have hCR0 : CHr Z consts_1 s.vm h0 s.vm h0 := CHr.refl hCH
  have pre0 : ∀ t, Steps p.tables e below (s₁.setTop (mkF m 0 #[.val (.ref o0)] [])) t → Steps p.tables e below (s₁.setTop (entryFrame m #[(.ref o0)] 1)) t := fun t k => castTop (ef_rEx m o0) k
  obtain ⟨E, Fc, Fv, Va⟩ := id R_s
  obtain ⟨a1, T1, h1, kk1, bb1, kb1, X1, e1, E1, hS1, hk1, hZ1, hown1, Ex1, Fc1, Fv1, Va1, la1, lb1, hC1, Lt1, sf1, st1⟩ := ldcCH (s := s) X0 hx hZ hown (hw _ (List.mem_of_getElem? (i := 2) rfl)) (own_strings hw) e0 hS0 (Nat.zero_le _) hEL (by decide) hCR0.1 (vs := [.int 101, .int 120, .int 97, .int 99, .int 116]) (z := (5 : Int32)) ⟨by decide, by decide⟩ (by decide) (by decide) (g := (mkF m 7 #[.val (.ref o0)] [(.ref o0)])) rfl (hb hby d20_7) (n := 32) (by decide) (by decide) (by decide) (by decide)
  have Zs1 : n0 ≤ h1.size := Nat.le_trans Z0 E1.1
  have hCR2 : CHr Z consts_1 s.vm h0 T1.vm h1 := hCR0.trans hC1
  have E_3 := (E.ext E1)
  have Fc_4 := (Fc.ext E1)
  have Fv_5 := (Fv.ext E1)
  have Va_6 := (Va.ext E1)
  have S_C_7 := (S_C.ext E1)
  obtain ⟨cq8, kq8, q8a, q8b, q8c⟩ := isOf hZ1 e1 E_3
  obtain ⟨_, _, ⟨T8, L8, k8, n8⟩, -, X8, ⟨Lc8, hQ8, l8, y8, z8⟩, st8⟩ := X1.virtualBack hx (y := (⟨"java/lang/String", "equals", "(Ljava/lang/Object;)Z"⟩ : MethodName)) (z := (⟨"java/lang/String", "equals", "(Ljava/lang/Object;)Z"⟩ : MethodName)) hown1 (mvT hZ1 (hw _ (List.mem_of_getElem? (i := 109) rfl))) (mvT hZ1 (hw _ (List.mem_of_getElem? (i := 98) rfl))) (notFace_of_selects (args := #[]) (mvT hZ1 (hw _ (List.mem_of_getElem? (i := 100) rfl)))) (mvT hZ1 (hw _ (List.mem_of_getElem? (i := 100) rfl))) (mvT hZ1 (hw _ (List.mem_of_getElem? (i := 99) rfl))) (by decide) (backOf (W := 0) (rEq l Z a0 hw [] o0 a1 v0 bb1 k0 kb1 n 5 f (fun i => ([101, 120, 97, 99, 116] : List Int32).getD i 0) (rr 0) hn (by decide) hr0 h1 n0 Zs1 ⟨E_3, Fc_4, Fv_5, Va_6⟩ ⟨Ex1, Fc1, Fv1, own_arvGA (us := [101, 120, 97, 99, 116]) Va1 rfl⟩ cs hcs S_C_7) hZ1 (hw _ (List.mem_of_getElem? (i := 101) rfl)) (hw _ (List.mem_of_getElem? (i := 3) rfl)) (by decide) (by decide)) q8a q8c (g := (mkF m 9 #[.val (.ref o0)] [(.ref a1), (.ref o0)])) rfl (by rw [hml]; rfl) (Steps.refl _) (argsL := [(.ref a1)]) (rest := []) (lenOf pd__Ljava_lang_Object__Z rfl) rfl (by show 2 * 0 + _ ≤ _; exact Nat.le_of_eq rfl) (hb hby d20_9) (fun _ _ => ⟨rfl, e1, (by decide : 2 + 0 ≤ _), (by decide : 36 + 0 ≤ _)⟩)
  dsimp only [Pt.U, Pt.locs, Pt.cells, Pt.slots] at X8 l8 y8 z8 st8 hQ8
  rw [l8, y8, z8] at X8
  obtain ⟨rfl, N8q, e8⟩ := hQ8
  have N8 := Fr.app N0 N8q
  have pre9 : ∀ t, Steps p.tables e below (T8.setTop (mkF m 12 #[.val (.ref o0)] [(.int (rr 0))])) t → Steps p.tables e below (s₁.setTop (entryFrame m #[(.ref o0)] 1)) t := by
    intro t kt
    refine pre0 t ?_
    show Steps p.tables e below (s₁.setTop (mkF m 0 #[.val (.ref o0)] [])) _
    refine XS.aloadN X0.here hx rfl (hb hby d20_0) rfl rfl ?_
    show Steps p.tables e below (s₁.setTop (mkF m 1 #[.val (.ref o0)] [(.ref o0)])) _
    refine XS.ifnonnullYes X0.here hx rfl (pc0 := 1) (pc' := 6) rfl (hb hby d20_1) rfl (by decide) (by decide) ?_
    show Steps p.tables e below (s₁.setTop (mkF m 6 #[.val (.ref o0)] [])) _
    refine XS.aloadN X0.here hx rfl (hb hby d20_6) rfl rfl ?_
    show Steps p.tables e below (s₁.setTop (mkF m 7 #[.val (.ref o0)] [(.ref o0)])) _
    refine st1 _ ?_
    show Steps p.tables e below (T1.setTop (mkF m 9 #[.val (.ref o0)] [(.ref a1), (.ref o0)])) _
    refine st8.trans ?_
    exact kt
  by_cases hc10 : (rr 0) = (0 : Int32)
  · skip
    obtain ⟨a11, T11, h11, kk11, bb11, kb11, X11, e11, E11, hS11, hk11, hZ11, hown11, Ex11, Fc11, Fv11, Va11, la11, lb11, hC11, Lt11, sf11, st11⟩ := ldcCH (s := s) X8 hx hZ1 hown1 (hw _ (List.mem_of_getElem? (i := 110) rfl)) (own_strings hw) e8 hS1 hk1 hEL (by decide) hCR2.1 (vs := [.int 97, .int 99, .int 116, .int 105, .int 118, .int 105, .int 116, .int 121]) (z := (8 : Int32)) ⟨by decide, by decide⟩ (by decide) (by decide) (g := (mkF m 20 #[.val (.ref o0)] [(.ref o0)])) rfl (hb hby d20_20) (n := 32) (by decide) (by decide) (by decide) (by decide)
    have Zs11 : n0 ≤ h11.size := Nat.le_trans Zs1 E11.1
    have hCR12 : CHr Z consts_1 s.vm h0 T11.vm h11 := hCR2.trans hC11
    have E_13 := (E_3.ext E11)
    have Fc_14 := (Fc_4.ext E11)
    have Fv_15 := (Fv_5.ext E11)
    have Va_16 := (Va_6.ext E11)
    have S_C_17 := (S_C_7.ext E11)
    obtain ⟨cq18, kq18, q18a, q18b, q18c⟩ := isOf hZ11 e11 E_13
    obtain ⟨_, _, ⟨T18, L18, k18, n18⟩, -, X18, ⟨Lc18, hQ18, l18, y18, z18⟩, st18⟩ := X11.virtualBack hx (y := (⟨"java/lang/String", "equals", "(Ljava/lang/Object;)Z"⟩ : MethodName)) (z := (⟨"java/lang/String", "equals", "(Ljava/lang/Object;)Z"⟩ : MethodName)) hown11 (mvT hZ11 (hw _ (List.mem_of_getElem? (i := 109) rfl))) (mvT hZ11 (hw _ (List.mem_of_getElem? (i := 98) rfl))) (notFace_of_selects (args := #[]) (mvT hZ11 (hw _ (List.mem_of_getElem? (i := 100) rfl)))) (mvT hZ11 (hw _ (List.mem_of_getElem? (i := 100) rfl))) (mvT hZ11 (hw _ (List.mem_of_getElem? (i := 99) rfl))) (by decide) (backOf (W := 0) (rEq l Z a0 hw [] o0 a11 v0 bb11 k0 kb11 n 8 f (fun i => ([97, 99, 116, 105, 118, 105, 116, 121] : List Int32).getD i 0) (rr 1) hn (by decide) hr1 h11 n0 Zs11 ⟨E_13, Fc_14, Fv_15, Va_16⟩ ⟨Ex11, Fc11, Fv11, own_arvGA (us := [97, 99, 116, 105, 118, 105, 116, 121]) Va11 rfl⟩ cs hcs S_C_17) hZ11 (hw _ (List.mem_of_getElem? (i := 101) rfl)) (hw _ (List.mem_of_getElem? (i := 3) rfl)) (by decide) (by decide)) q18a q18c (g := (mkF m 22 #[.val (.ref o0)] [(.ref a11), (.ref o0)])) rfl (by rw [hml]; rfl) (Steps.refl _) (argsL := [(.ref a11)]) (rest := []) (lenOf pd__Ljava_lang_Object__Z rfl) rfl (by show 2 * 0 + _ ≤ _; exact Nat.le_of_eq rfl) (hb hby d20_22) (fun _ _ => ⟨rfl, e11, (by decide : 4 + 0 ≤ _), (by decide : 72 + 0 ≤ _)⟩)
    dsimp only [Pt.U, Pt.locs, Pt.cells, Pt.slots] at X18 l18 y18 z18 st18 hQ18
    rw [l18, y18, z18] at X18
    obtain ⟨rfl, N18q, e18⟩ := hQ18
    have N18 := Fr.app N8 N18q
    have pre19 : ∀ t, Steps p.tables e below (T18.setTop (mkF m 25 #[.val (.ref o0)] [(.int (rr 1))])) t → Steps p.tables e below (s₁.setTop (entryFrame m #[(.ref o0)] 1)) t := by
      intro t kt
      refine pre9 t ?_
      show Steps p.tables e below (T8.setTop (mkF m 12 #[.val (.ref o0)] [(.int (rr 0))])) _
      refine XS.ifYes X8.here hx rfl (pc0 := 12) (pc' := 19) rfl (hb hby d20_12) rfl ((if0 _ _).trans (teq hc10).1) (by decide) (by decide) ?_
      show Steps p.tables e below (T8.setTop (mkF m 19 #[.val (.ref o0)] [])) _
      refine XS.aloadN X8.here hx rfl (hb hby d20_19) rfl rfl ?_
      show Steps p.tables e below (T8.setTop (mkF m 20 #[.val (.ref o0)] [(.ref o0)])) _
      refine st11 _ ?_
      show Steps p.tables e below (T11.setTop (mkF m 22 #[.val (.ref o0)] [(.ref a11), (.ref o0)])) _
      refine st18.trans ?_
      exact kt
    by_cases hc20 : (rr 1) = (0 : Int32)
    · skip
      obtain ⟨a21, T21, h21, kk21, bb21, kb21, X21, e21, E21, hS21, hk21, hZ21, hown21, Ex21, Fc21, Fv21, Va21, la21, lb21, hC21, Lt21, sf21, st21⟩ := ldcCH (s := s) X18 hx hZ11 hown11 (hw _ (List.mem_of_getElem? (i := 111) rfl)) (own_strings hw) e18 hS11 hk11 hEL (by decide) hCR12.1 (vs := [.int 109, .int 101, .int 110, .int 116, .int 105, .int 111, .int 110]) (z := (7 : Int32)) ⟨by decide, by decide⟩ (by decide) (by decide) (g := (mkF m 33 #[.val (.ref o0)] [(.ref o0)])) rfl (hb hby d20_33) (n := 32) (by decide) (by decide) (by decide) (by decide)
      have Zs21 : n0 ≤ h21.size := Nat.le_trans Zs11 E21.1
      have hCR22 : CHr Z consts_1 s.vm h0 T21.vm h21 := hCR12.trans hC21
      have E_23 := (E_13.ext E21)
      have Fc_24 := (Fc_14.ext E21)
      have Fv_25 := (Fv_15.ext E21)
      have Va_26 := (Va_16.ext E21)
      have S_C_27 := (S_C_17.ext E21)
      obtain ⟨cq28, kq28, q28a, q28b, q28c⟩ := isOf hZ21 e21 E_23
      obtain ⟨_, _, ⟨T28, L28, k28, n28⟩, -, X28, ⟨Lc28, hQ28, l28, y28, z28⟩, st28⟩ := X21.virtualBack hx (y := (⟨"java/lang/String", "equals", "(Ljava/lang/Object;)Z"⟩ : MethodName)) (z := (⟨"java/lang/String", "equals", "(Ljava/lang/Object;)Z"⟩ : MethodName)) hown21 (mvT hZ21 (hw _ (List.mem_of_getElem? (i := 109) rfl))) (mvT hZ21 (hw _ (List.mem_of_getElem? (i := 98) rfl))) (notFace_of_selects (args := #[]) (mvT hZ21 (hw _ (List.mem_of_getElem? (i := 100) rfl)))) (mvT hZ21 (hw _ (List.mem_of_getElem? (i := 100) rfl))) (mvT hZ21 (hw _ (List.mem_of_getElem? (i := 99) rfl))) (by decide) (backOf (W := 0) (rEq l Z a0 hw [] o0 a21 v0 bb21 k0 kb21 n 7 f (fun i => ([109, 101, 110, 116, 105, 111, 110] : List Int32).getD i 0) (rr 2) hn (by decide) hr2 h21 n0 Zs21 ⟨E_23, Fc_24, Fv_25, Va_26⟩ ⟨Ex21, Fc21, Fv21, own_arvGA (us := [109, 101, 110, 116, 105, 111, 110]) Va21 rfl⟩ cs hcs S_C_27) hZ21 (hw _ (List.mem_of_getElem? (i := 101) rfl)) (hw _ (List.mem_of_getElem? (i := 3) rfl)) (by decide) (by decide)) q28a q28c (g := (mkF m 35 #[.val (.ref o0)] [(.ref a21), (.ref o0)])) rfl (by rw [hml]; rfl) (Steps.refl _) (argsL := [(.ref a21)]) (rest := []) (lenOf pd__Ljava_lang_Object__Z rfl) rfl (by show 2 * 0 + _ ≤ _; exact Nat.le_of_eq rfl) (hb hby d20_35) (fun _ _ => ⟨rfl, e21, (by decide : 6 + 0 ≤ _), (by decide : 108 + 0 ≤ _)⟩)
      dsimp only [Pt.U, Pt.locs, Pt.cells, Pt.slots] at X28 l28 y28 z28 st28 hQ28
      rw [l28, y28, z28] at X28
      obtain ⟨rfl, N28q, e28⟩ := hQ28
      have N28 := Fr.app N18 N28q
      have pre29 : ∀ t, Steps p.tables e below (T28.setTop (mkF m 38 #[.val (.ref o0)] [(.int (rr 2))])) t → Steps p.tables e below (s₁.setTop (entryFrame m #[(.ref o0)] 1)) t := by
        intro t kt
        refine pre19 t ?_
        show Steps p.tables e below (T18.setTop (mkF m 25 #[.val (.ref o0)] [(.int (rr 1))])) _
        refine XS.ifYes X18.here hx rfl (pc0 := 25) (pc' := 32) rfl (hb hby d20_25) rfl ((if0 _ _).trans (teq hc20).1) (by decide) (by decide) ?_
        show Steps p.tables e below (T18.setTop (mkF m 32 #[.val (.ref o0)] [])) _
        refine XS.aloadN X18.here hx rfl (hb hby d20_32) rfl rfl ?_
        show Steps p.tables e below (T18.setTop (mkF m 33 #[.val (.ref o0)] [(.ref o0)])) _
        refine st21 _ ?_
        show Steps p.tables e below (T21.setTop (mkF m 35 #[.val (.ref o0)] [(.ref a21), (.ref o0)])) _
        refine st28.trans ?_
        exact kt
      by_cases hc30 : (rr 2) = (0 : Int32)
      · skip
        obtain ⟨fs, hr, hrun, hended, hEnd⟩ := X28.leaveW (s := s) hS21 (by rw [e28]; exact hk21) (v := some .null) (fun h => by rw [Bd.returns] at h; cases h)
        refine ⟨_, _, pre29 _ ?_, hrun, hended, _, _, rfl, ?_, (by show CHr Z consts_1 s.vm s.heap T28.vm T28.heap; rw [hh, e28]; exact hCR22.trans (CHv.at X28 hZ21 hEL hCR22.1)), hEnd.1, hEnd.2.1, hEnd.2.2.1, hEnd.2.2.2.mono (by decide) (by decide)⟩
        · skip
          show Steps p.tables e below (T28.setTop (mkF m 38 #[.val (.ref o0)] [(.int (rr 2))])) _
          refine XS.ifYes X28.here hx rfl (pc0 := 38) (pc' := 45) rfl (hb hby d20_38) rfl ((if0 _ _).trans (teq hc30).1) (by decide) (by decide) ?_
          show Steps p.tables e below (T28.setTop (mkF m 45 #[.val (.ref o0)] [])) _
          refine XS.aconstNull X28.here hx rfl (hb hby d20_45) ?_
          show Steps p.tables e below (T28.setTop (mkF m 46 #[.val (.ref o0)] [.null])) _
          jvm_step X28.here [X28.here.top, hx, (hb hby d20_46), X28.method', Bd.returns, Value.isRef, FieldType.isReference]
          first | (intro acts; rw [hr _ acts rfl rfl rfl]) | rw [hr _ _ rfl rfl rfl]
          exact Steps.refl _
        · show QEx W rr n0 _ T28.heap _
          rw [e28]
          exact ⟨(by simp [own_res, hc10, hc20, hc30]), N28⟩
      · skip
        have S_2_31 := (((S_2.ext E1).ext E11).ext E21)
        obtain ⟨T32, X32, e32, st32⟩ := getS2 X28 hx hZ21 hown21 (host := "") (Or.inl (hw _ (List.mem_of_getElem? (i := 112) rfl))) Via.refl e28 S_2_31 (g := (mkF m 41 #[.val (.ref o0)] [])) rfl (hb hby d20_41)
        obtain ⟨fs, hr, hrun, hended, hEnd⟩ := X32.leaveW (s := s) hS21 (by rw [e32]; exact hk21) (v := some (.ref (W 2))) (fun h => by rw [Bd.returns] at h; cases h)
        refine ⟨_, _, pre29 _ ?_, hrun, hended, _, _, rfl, ?_, (by show CHr Z consts_1 s.vm s.heap T32.vm T32.heap; rw [hh, e32]; exact hCR22.trans (CHv.at X32 hZ21 hEL hCR22.1)), hEnd.1, hEnd.2.1, hEnd.2.2.1, hEnd.2.2.2.mono (by decide) (by decide)⟩
        · skip
          show Steps p.tables e below (T28.setTop (mkF m 38 #[.val (.ref o0)] [(.int (rr 2))])) _
          refine XS.ifNo X28.here hx rfl (hb hby d20_38) rfl ((if0 _ _).trans (feq hc30).1) ?_
          show Steps p.tables e below (T28.setTop (mkF m 41 #[.val (.ref o0)] [])) _
          refine st32 _ ?_
          show Steps p.tables e below (T32.setTop (mkF m 44 #[.val (.ref o0)] [(.ref (W 2))])) _
          jvm_step X32.here [X32.here.top, hx, (hb hby d20_44), X32.method', Bd.returns, Value.isRef, FieldType.isReference]
          first | (intro acts; rw [hr _ acts rfl rfl rfl]) | rw [hr _ _ rfl rfl rfl]
          exact Steps.refl _
        · show QEx W rr n0 _ T32.heap _
          rw [e32]
          exact ⟨(by simp [own_res, hc10, hc20, hc30]), N28⟩
    · skip
      have S_1_33 := ((S_1.ext E1).ext E11)
      obtain ⟨T34, X34, e34, st34⟩ := getS2 X18 hx hZ11 hown11 (host := "") (Or.inl (hw _ (List.mem_of_getElem? (i := 116) rfl))) Via.refl e18 S_1_33 (g := (mkF m 28 #[.val (.ref o0)] [])) rfl (hb hby d20_28)
      obtain ⟨fs, hr, hrun, hended, hEnd⟩ := X34.leaveW (s := s) hS11 (by rw [e34]; exact hk11) (v := some (.ref (W 1))) (fun h => by rw [Bd.returns] at h; cases h)
      refine ⟨_, _, pre19 _ ?_, hrun, hended, _, _, rfl, ?_, (by show CHr Z consts_1 s.vm s.heap T34.vm T34.heap; rw [hh, e34]; exact hCR12.trans (CHv.at X34 hZ11 hEL hCR12.1)), hEnd.1, hEnd.2.1, hEnd.2.2.1, hEnd.2.2.2.mono (by decide) (by decide)⟩
      · skip
        show Steps p.tables e below (T18.setTop (mkF m 25 #[.val (.ref o0)] [(.int (rr 1))])) _
        refine XS.ifNo X18.here hx rfl (hb hby d20_25) rfl ((if0 _ _).trans (feq hc20).1) ?_
        show Steps p.tables e below (T18.setTop (mkF m 28 #[.val (.ref o0)] [])) _
        refine st34 _ ?_
        show Steps p.tables e below (T34.setTop (mkF m 31 #[.val (.ref o0)] [(.ref (W 1))])) _
        jvm_step X34.here [X34.here.top, hx, (hb hby d20_31), X34.method', Bd.returns, Value.isRef, FieldType.isReference]
        first | (intro acts; rw [hr _ acts rfl rfl rfl]) | rw [hr _ _ rfl rfl rfl]
        exact Steps.refl _
      · show QEx W rr n0 _ T34.heap _
        rw [e34]
        exact ⟨(by simp [own_res, hc10, hc20]), N18⟩
  · skip
    have S_0_35 := (S_0.ext E1)
    obtain ⟨T36, X36, e36, st36⟩ := getS2 X8 hx hZ1 hown1 (host := "") (Or.inl (hw _ (List.mem_of_getElem? (i := 118) rfl))) Via.refl e8 S_0_35 (g := (mkF m 15 #[.val (.ref o0)] [])) rfl (hb hby d20_15)
    obtain ⟨fs, hr, hrun, hended, hEnd⟩ := X36.leaveW (s := s) hS1 (by rw [e36]; exact hk1) (v := some (.ref (W 0))) (fun h => by rw [Bd.returns] at h; cases h)
    refine ⟨_, _, pre9 _ ?_, hrun, hended, _, _, rfl, ?_, (by show CHr Z consts_1 s.vm s.heap T36.vm T36.heap; rw [hh, e36]; exact hCR2.trans (CHv.at X36 hZ1 hEL hCR2.1)), hEnd.1, hEnd.2.1, hEnd.2.2.1, hEnd.2.2.2.mono (by decide) (by decide)⟩
    · skip
      show Steps p.tables e below (T8.setTop (mkF m 12 #[.val (.ref o0)] [(.int (rr 0))])) _
      refine XS.ifNo X8.here hx rfl (hb hby d20_12) rfl ((if0 _ _).trans (feq hc10).1) ?_
      show Steps p.tables e below (T8.setTop (mkF m 15 #[.val (.ref o0)] [])) _
      refine st36 _ ?_
      show Steps p.tables e below (T36.setTop (mkF m 18 #[.val (.ref o0)] [(.ref (W 0))])) _
      jvm_step X36.here [X36.here.top, hx, (hb hby d20_18), X36.method', Bd.returns, Value.isRef, FieldType.isReference]
      first | (intro acts; rw [hr _ acts rfl rfl rfl]) | rw [hr _ _ rfl rfl rfl]
      exact Steps.refl _
    · show QEx W rr n0 _ T36.heap _
      rw [e36]
      exact ⟨(by simp [own_res, hc10]), N8⟩
theorem d20_4 : decode method_4_code 4 = .ok (.aconst_null, 1) := by decide +kernel
theorem d20_5 : decode method_4_code 5 = .ok (.areturn, 1) := by decide +kernel
theorem ef_rExn (m : MethodId)  : entryFrame m #[.null] 1 = mkF m 0 #[.val .null] [] := by first | (simp [entryFrame, mkF, argsToLocals, Value.category]; done) | rfl
set_option maxRecDepth 65536 in
set_option maxHeartbeats 40000000 in
theorem rExn (l : Launch) (Z : State) (a0 : Array Value) (hw : ∀ d ∈ tables_1, d.before a0 Z = true) (ws : List Jvm.Cond)  (hEL : EW Z a0 consts_1) (W : Nat → Addr) (h0 : Heap) (n0 : Nat) (Z0 : n0 ≤ h0.size) (S_0 : Sta Z h0 "heslar/Boundary$Kind" "EXACT" "Lheslar/Boundary$Kind;" (.ref (W 0))) (S_1 : Sta Z h0 "heslar/Boundary$Kind" "ACTIVITY" "Lheslar/Boundary$Kind;" (.ref (W 1))) (S_2 : Sta Z h0 "heslar/Boundary$Kind" "MENTION" "Lheslar/Boundary$Kind;" (.ref (W 2))) :
    MetFree l (⟨"heslar/KindByCodePinLaw", "expected", "(Ljava/lang/String;)Lheslar/Boundary$Kind;"⟩ : MethodName) (head1 (Jvm.Cond.code (⟨"heslar/KindByCodePinLaw", "expected", "(Ljava/lang/String;)Lheslar/Boundary$Kind;"⟩ : MethodName) method_4_code 1 (some (.object "heslar/Boundary$Kind")) :: ws) ({ frames := 2, cells := 6, slots := 108, locals := 30 } : Room)) (fun a U => a = #[.null] ∧ Z.Warmed39 U.vm ∧ U.heap = h0 ∧ CHv Z consts_1 U.vm h0) (fun _ _ _ _ _ => True) (fun _ U o U' => ∃ v L, o = .returned v ∧ QEx W (fun _ => 0) n0 v U'.heap L ∧ CHr Z consts_1 U.vm U.heap U'.vm U'.heap ∧ ReturnedEndW U o U' L ({ frames := 2, cells := 6, slots := 108, locals := 30 } : Room).cells ({ frames := 2, cells := 6, slots := 108, locals := 30 } : Room).slots) := by
  refine MetFree.of_bodySF (plainFor_of_name pn_20) hisR ?_
  intro p e s m args below meth c s₁ Bd hml0 hP hK
  obtain ⟨rfl, hZ, hh, hCH⟩ := hP
  have hx := Bd.exec
  have hby := Bd.bytes
  have hml : c.maxLocals = 1 := hml0
  have hown : s.vm.findClass "heslar/KindByCodePinLaw" = some m.cls := findClass_of_methodNamed Bd.named
  have hnm := (name_of_methodNamed Bd.named Bd.method).1
  have X0 : Stand p l e ({ frames := 2, cells := 6, slots := 108, locals := 30 } : Room) (s.setVm s.vm) m #[.null] below meth c s₁ [] 0 0 := Stand.of_body Bd
  have e0 : s₁.heap = h0 := by rw [← hh, Bd.state]; rfl
  have N0 := Fr.nil n0
  have hS0 : s.Since s.vm 0 := (State.WarmedH.refl s).since 0
  have hCR0 : CHr Z consts_1 s.vm h0 s.vm h0 := CHr.refl hCH
  have pre0 : ∀ t, Steps p.tables e below (s₁.setTop (mkF m 0 #[.val .null] [])) t → Steps p.tables e below (s₁.setTop (entryFrame m #[.null] 1)) t := fun t k => castTop (ef_rExn m ) k
  obtain ⟨fs, hr, hrun, hended, hEnd⟩ := X0.leaveW (s := s) hS0 (by rw [e0]; exact (Nat.zero_le _)) (v := some .null) (fun h => by rw [Bd.returns] at h; cases h)
  refine ⟨_, _, pre0 _ ?_, hrun, hended, _, _, rfl, ?_, (by show CHr Z consts_1 s.vm s.heap s₁.vm s₁.heap; rw [hh, e0]; exact hCR0.trans (CHv.at X0 hZ hEL hCR0.1)), hEnd.1, hEnd.2.1, hEnd.2.2.1, hEnd.2.2.2.mono (by decide) (by decide)⟩
  · skip
    show Steps p.tables e below (s₁.setTop (mkF m 0 #[.val .null] [])) _
    refine XS.aloadN X0.here hx rfl (hb hby d20_0) rfl rfl ?_
    show Steps p.tables e below (s₁.setTop (mkF m 1 #[.val .null] [.null])) _
    refine XS.ifnonnullNo X0.here hx rfl (hb hby d20_1) rfl ?_
    show Steps p.tables e below (s₁.setTop (mkF m 4 #[.val .null] [])) _
    refine XS.aconstNull X0.here hx rfl (hb hby d20_4) ?_
    show Steps p.tables e below (s₁.setTop (mkF m 5 #[.val .null] [.null])) _
    jvm_step X0.here [X0.here.top, hx, (hb hby d20_5), X0.method', Bd.returns, Value.isRef, FieldType.isReference]
    first | (intro acts; rw [hr _ acts rfl rfl rfl]) | rw [hr _ _ rfl rfl rfl]
    exact Steps.refl _
  · show QEx W (fun _ => 0) n0 _ s₁.heap _
    rw [e0]
    exact ⟨rfl, N0⟩
theorem own_up {p : Program} {l : Launch} {e : Env} {R : Room} {s : State} {m : MethodId} {args : Array Value} {below : List Frame} {meth : Method} {c : Code} {T : State} {locs : List Loc} {c1 n1 c2 n2 : Nat} (X : Stand p l e R s m args below meth c T locs c1 n1) (h1 : c1 ≤ c2) (h2 : n1 ≤ n2) : Stand p l e R s m args below meth c T locs c2 n2 :=
  ⟨X.admits, X.cas, X.clock, X.frames, X.room, X.hears, X.method, X.code, X.here, X.tail, X.warmed, X.limits, X.bytes, X.same.mono h1 h2⟩
theorem own_ci {x : Int32} (h : 0 ≤ x.toInt ∧ x.toInt < 256) : 0 ≤ (x.toUInt32.toUInt16.toUInt32.toInt32).toInt ∧ (x.toUInt32.toUInt16.toUInt32.toInt32).toInt < 256 := by
  rw [own_i2c h.1 h.2]; exact h
theorem own_landL (x m : Int64) (hm : 0 ≤ m.toInt) : 0 ≤ (x &&& m).toInt ∧ (x &&& m).toInt ≤ m.toInt := by
  have h0 := (c_andSL x m).2.2 hm
  have key : ∀ y : Int64, 0 ≤ y.toInt → y.toInt = (y.toBitVec.toNat : Int) := fun y hy => by
    have c := BitVec.toInt_eq_toNat_cond y.toBitVec
    have l := y.toBitVec.isLt
    have hy' : 0 ≤ y.toBitVec.toInt := hy
    show y.toBitVec.toInt = _
    by_cases q : 2 * y.toBitVec.toNat < 2 ^ 64
    · rw [c, if_pos q]
    · rw [c, if_neg q] at hy'; omega
  refine ⟨h0, ?_⟩
  rw [key _ h0, key m hm]
  exact Int.ofNat_le.mpr (by rw [show (x &&& m).toBitVec = x.toBitVec &&& m.toBitVec from rfl, BitVec.toNat_and]; exact Nat.and_le_right)
theorem own_land255 (x : Int64) : 0 ≤ ((x &&& (255 : Int64)).toInt32).toInt ∧ ((x &&& (255 : Int64)).toInt32).toInt < 256 := by
  have h := own_landL x 255 (by decide)
  have e : (255 : Int64).toInt = 255 := rfl
  rw [e] at h
  have q := c_l2i (x &&& (255 : Int64))
  have b1 := ((x &&& (255 : Int64)).toInt32).toInt_lt
  have b2 := ((x &&& (255 : Int64)).toInt32).le_toInt
  omega
theorem own_lrem10 (x : Int64) : ∃ i, i ≤ 9 ∧ ((x &&& (2147483647 : Int64)) - ((x &&& (2147483647 : Int64)) / (10 : Int64)) * (10 : Int64)).toInt32 = Int32.ofNat i := by
  have h := own_landL x 2147483647 (by decide)
  have e : (2147483647 : Int64).toInt = 2147483647 := rfl
  rw [e] at h
  generalize (x &&& (2147483647 : Int64)) = y at h
  have q := (c_lrem y 10 10 rfl).1 h.1
  generalize (y - (y / (10 : Int64)) * (10 : Int64)) = z at q
  have q2 := c_l2i z
  have b1 := (z.toInt32).toInt_lt
  have b2 := (z.toInt32).le_toInt
  refine ⟨(z.toInt32).toNatClampNeg, ?_, own_nat (by omega)⟩
  simp only [Int32.toNatClampNeg]; omega
theorem own_remn (x : Int32) {n : Nat} (h0 : 0 < n) (hn : n ≤ 4000) : ∃ i, i < n ∧ (x &&& (2147483647 : Int32)) % (Int32.ofNat n) = Int32.ofNat i := by
  have h := own_mod x (Int32.ofNat n) n (own_i32 (by omega)) (by omega)
  exact ⟨_, own_clamp h.1 h.2, own_nat h.1⟩
theorem own_nzn {n : Nat} (h0 : 0 < n) (hn : n ≤ 4000) : Int32.ofNat n ≠ 0 := fun q => by
  have := congrArg Int32.toInt q
  rw [own_i32 (by omega)] at this
  have e : (0 : Int32).toInt = 0 := rfl
  omega
theorem pd__Ljava_lang_String_I_C : parseMethodDescriptor "(Ljava/lang/String;I)C" = some ⟨[(.object "java/lang/String"), .int], some .char⟩ := by decide +kernel
set_option maxRecDepth 65536 in
set_option maxHeartbeats 40000000 in
theorem lwA2 {p : Program} {l : Launch} {e : Env} {s : State} {m : MethodId} {args : Array Value} {below : List Frame} {meth : Method} {c : Code} {T0 : State} {locs : List Loc} {Z : State} {a0 : Array Value} {h0 : Heap} (n0 : Nat) (p0 p1 p2 p3 : Int32) (q4 q5 : Int64) (kk : Int32) (bu : Addr) (kb : ClassId) (g0 : Nat → Int32) (o0 v0 : Addr) (k0 : ClassId) (n : Nat) (f : Nat → Int32) (X0 : Stand p l e room_1 s m args below meth c T0 locs 3 45) (hx : p.tables.exec = Jvm.exec) (hZ : Z.Warmed39 s.vm) (hw : ∀ d ∈ tables_1, d.before a0 Z = true) (hby : c.code = code) (hml : c.maxLocals = 17) (hown : s.vm.findClass "heslar/KindByCodePinLaw" = some m.cls) (e0 : T0.heap = h0) (N0 : Fr n0 locs) (Z0 : n0 ≤ h0.size) (g_b : n0 ≤ bu) (V_c : GA Z h0 bu kb .char 9 (fun i => .int (g0 i))) (hgG : Rg g0) (hn : n ≤ 9) (R_s : SB Z h0 o0 v0 k0 n f) (nb1 : o0 ≠ bu) (nb2 : v0 ≠ bu) (cs : Int32) (hcs : ¬ cs = (0 : Int32)) (S_C : Sta Z h0 "java/lang/String" "COMPACT_STRINGS" "Z" (.int cs)) (fm : Value) (hfm : fm.isRef = true) (S_F : Sta Z h0 "jdk/internal/util/Preconditions" "SIOOBE_FORMATTER" "Ljava/util/function/BiFunction;" fm) :
    ∃ (T' : State) (locs' : List Loc) (g' : Nat → Int32), Stand p l e room_1 s m args below meth c T' locs' 3 45 ∧ Keep h0 T'.heap [bu] ∧ Fr n0 locs' ∧ GA Z T'.heap bu kb .char 9 (fun i => .int (g' i)) ∧ Rg g' ∧ ∀ target, Steps p.tables e below (T'.setTop (mkF m 299 #[.val (.int p0), .val (.int p1), .val (.int p2), .val (.int p3), .val (.long q4), .second, .val (.long q5), .second, .val (.int kk), .val (.ref bu), .val (.int (Int32.ofNat n)), .val (.ref o0), .unset, .unset, .unset, .unset, .unset] [])) target → Steps p.tables e below (T0.setTop (mkF m 45 #[.val (.int p0), .val (.int p1), .val (.int p2), .val (.int p3), .val (.long q4), .second, .val (.long q5), .second, .val (.int kk), .val (.ref bu), .unset, .val (.ref o0), .unset, .unset, .unset, .unset, .unset] [])) target := by
  have pre0 : ∀ t, Steps p.tables e below (T0.setTop (mkF m 45 #[.val (.int p0), .val (.int p1), .val (.int p2), .val (.int p3), .val (.long q4), .second, .val (.long q5), .second, .val (.int kk), .val (.ref bu), .unset, .val (.ref o0), .unset, .unset, .unset, .unset, .unset] [])) t → Steps p.tables e below (T0.setTop (mkF m 45 #[.val (.int p0), .val (.int p1), .val (.int p2), .val (.int p3), .val (.long q4), .second, .val (.long q5), .second, .val (.int kk), .val (.ref bu), .unset, .val (.ref o0), .unset, .unset, .unset, .unset, .unset] [])) t := fun _ k => k
  obtain ⟨E, Fc, Fv, Va⟩ := id R_s
  have hn4 : n ≤ 4000 := by omega
  obtain ⟨cq1, kq1, q1a, q1b, q1c⟩ := isOf hZ e0 E
  obtain ⟨_, _, ⟨T1, L1, k1, n1⟩, -, X1, ⟨Lc1, hQ1, l1, y1, z1⟩, st1⟩ := X0.virtualBack hx (y := (⟨"java/lang/String", "length", "()I"⟩ : MethodName)) (z := (⟨"java/lang/String", "length", "()I"⟩ : MethodName)) hown (mvT hZ (hw _ (List.mem_of_getElem? (i := 10) rfl))) (mvT hZ (hw _ (List.mem_of_getElem? (i := 11) rfl))) (notFace_of_selects (args := #[]) (mvT hZ (hw _ (List.mem_of_getElem? (i := 13) rfl)))) (mvT hZ (hw _ (List.mem_of_getElem? (i := 13) rfl))) (mvT hZ (hw _ (List.mem_of_getElem? (i := 12) rfl))) (by decide) (backOf (W := 0) (rLen l Z a0 hw [] o0 v0 k0 n f hn4 h0 n0 Z0 ⟨E, Fc, Fv, Va⟩ cs hcs S_C) hZ (hw _ (List.mem_of_getElem? (i := 14) rfl)) (hw _ (List.mem_of_getElem? (i := 3) rfl)) (by decide) (by decide)) q1a q1c (g := (mkF m 47 #[.val (.int p0), .val (.int p1), .val (.int p2), .val (.int p3), .val (.long q4), .second, .val (.long q5), .second, .val (.int kk), .val (.ref bu), .unset, .val (.ref o0), .unset, .unset, .unset, .unset, .unset] [(.ref o0)])) rfl (by rw [hml]; rfl) (Steps.refl _) (argsL := []) (rest := []) (lenOf pd___I rfl) rfl (by show 2 * 0 + _ ≤ _; exact Nat.le_of_eq rfl) (hb hby at_47) (fun _ _ => ⟨rfl, e0, (by decide : 3 + 0 ≤ _), (by decide : 45 + 0 ≤ _)⟩)
  dsimp only [Pt.U, Pt.locs, Pt.cells, Pt.slots] at X1 l1 y1 z1 st1 hQ1
  rw [l1, y1, z1] at X1
  obtain ⟨rfl, N1q, e1⟩ := hQ1
  have N1 := Fr.app N0 N1q
  obtain ⟨_, _, ⟨T2, L2, k2, n2⟩, -, X2, ⟨Lc2, hQ2, l2, y2, z2⟩, st2⟩ := Jvm.LawKit.callS X1 hx (y := (⟨"heslar/KindByCodePinLaw", "at", "(Ljava/lang/String;I)C"⟩ : MethodName)) hown (mvT hZ (hw _ (List.mem_of_getElem? (i := 23) rfl))) (mvT hZ (hw _ (List.mem_of_getElem? (i := 24) rfl))) (mvT hZ (hw _ (List.mem_of_getElem? (i := 25) rfl))) (mvT hZ (hw _ (List.mem_of_getElem? (i := 26) rfl))) (by decide) (backOf (W := 2) (rAt l Z a0 hw [] o0 v0 k0 n f 0 (by decide) hn4 h0 n0 Z0 ⟨E, Fc, Fv, Va⟩ cs hcs S_C fm hfm S_F) hZ (hw _ (List.mem_of_getElem? (i := 26) rfl)) (hw _ (List.mem_of_getElem? (i := 25) rfl)) (by decide) (by decide)) (g := (mkF m 58 #[.val (.int p0), .val (.int p1), .val (.int p2), .val (.int p3), .val (.long q4), .second, .val (.long q5), .second, .val (.int kk), .val (.ref bu), .val (.int (Int32.ofNat n)), .val (.ref o0), .unset, .unset, .unset, .unset, .unset] [(.int (0 : Int32)), (.ref o0), (.int (0 : Int32)), (.ref bu)])) rfl (by rw [hml]; rfl) (argsL := [(.ref o0), (.int (0 : Int32))]) (rest := [(.int (0 : Int32)), (.ref bu)]) (lenOf pd__Ljava_lang_String_I_C rfl) rfl (by show 2 * 0 + _ ≤ _; exact Nat.le_of_eq rfl) (hb hby at_58) (fun _ _ => ⟨rfl, e1, (by decide : 3 + 0 ≤ _), (by decide : 45 + 0 ≤ _)⟩)
  dsimp only [Pt.U, Pt.locs, Pt.cells, Pt.slots] at X2 l2 y2 z2 st2 hQ2
  rw [l2, y2, z2] at X2
  obtain ⟨z2c, rfl, N2q, e2, hz20, hz21⟩ := hQ2
  have N2 := Fr.app N1 N2q
  obtain ⟨cl3, Ar3, qa3, Sa3, Ha3⟩ := id V_c
  have hin3 : ¬ ((Int32.ofNat 0) < 0 ∨ cl3.slots.size ≤ (Int32.ofNat 0).toNatClampNeg) := own_inb Sa3 (show 0 < 9 by decide) (show 9 < 2147483648 by decide)
  obtain ⟨T4, h4, X4, e4, W4, st4⟩ := stC X2 hx hZ e2 Ar3 (j := (0 : Int32)) hin3 (g := (mkF m 61 #[.val (.int p0), .val (.int p1), .val (.int p2), .val (.int p3), .val (.long q4), .second, .val (.long q5), .second, .val (.int kk), .val (.ref bu), .val (.int (Int32.ofNat n)), .val (.ref o0), .unset, .unset, .unset, .unset, .unset] [(.int z2c), (.int (0 : Int32)), (.ref bu)])) rfl rfl (hb hby at_61)
  obtain ⟨g4, G4, hg4⟩ := own_gset Ar3 qa3 Sa3 Ha3 W4 hgG ⟨hz20, hz21⟩
  have Zs4 : n0 ≤ h4.size := Nat.le_trans Z0 (Nat.le_of_eq W4.size.symm)
  have K4 : Keep h0 h4 [bu] := (Keep.refl h0 [bu]).wr W4 (Or.inl (List.mem_of_getElem? (i := 0) rfl))
  have N4 := Fr.snoc X4 N2 g_b
  have E_5 := (E.wr W4)
  have Fc_6 := (Fc.other W4 (Or.inl nb1))
  have Fv_7 := (Fv.other W4 (Or.inl nb1))
  have Va_8 := (Va.other W4 nb2)
  have S_C_9 := (S_C.wr W4)
  have S_F_10 := (S_F.wr W4)
  obtain ⟨_, _, ⟨T11, L11, k11, n11⟩, -, X11, ⟨Lc11, hQ11, l11, y11, z11⟩, st11⟩ := Jvm.LawKit.callS X4 hx (y := (⟨"heslar/KindByCodePinLaw", "at", "(Ljava/lang/String;I)C"⟩ : MethodName)) hown (mvT hZ (hw _ (List.mem_of_getElem? (i := 23) rfl))) (mvT hZ (hw _ (List.mem_of_getElem? (i := 24) rfl))) (mvT hZ (hw _ (List.mem_of_getElem? (i := 25) rfl))) (mvT hZ (hw _ (List.mem_of_getElem? (i := 26) rfl))) (by decide) (backOf (W := 2) (rAt l Z a0 hw [] o0 v0 k0 n f 1 (by decide) hn4 h4 n0 Zs4 ⟨E_5, Fc_6, Fv_7, Va_8⟩ cs hcs S_C_9 fm hfm S_F_10) hZ (hw _ (List.mem_of_getElem? (i := 26) rfl)) (hw _ (List.mem_of_getElem? (i := 25) rfl)) (by decide) (by decide)) (g := (mkF m 68 #[.val (.int p0), .val (.int p1), .val (.int p2), .val (.int p3), .val (.long q4), .second, .val (.long q5), .second, .val (.int kk), .val (.ref bu), .val (.int (Int32.ofNat n)), .val (.ref o0), .unset, .unset, .unset, .unset, .unset] [(.int (1 : Int32)), (.ref o0), (.int (1 : Int32)), (.ref bu)])) rfl (by rw [hml]; rfl) (argsL := [(.ref o0), (.int (1 : Int32))]) (rest := [(.int (1 : Int32)), (.ref bu)]) (lenOf pd__Ljava_lang_String_I_C rfl) rfl (by show 2 * 0 + _ ≤ _; exact Nat.le_of_eq rfl) (hb hby at_68) (fun _ _ => ⟨rfl, e4, (by decide : 3 + 0 ≤ _), (by decide : 45 + 0 ≤ _)⟩)
  dsimp only [Pt.U, Pt.locs, Pt.cells, Pt.slots] at X11 l11 y11 z11 st11 hQ11
  rw [l11, y11, z11] at X11
  obtain ⟨z11c, rfl, N11q, e11, hz110, hz111⟩ := hQ11
  have N11 := Fr.app N4 N11q
  obtain ⟨cl12, Ar12, qa12, Sa12, Ha12⟩ := id G4
  have hin12 : ¬ ((Int32.ofNat 1) < 0 ∨ cl12.slots.size ≤ (Int32.ofNat 1).toNatClampNeg) := own_inb Sa12 (show 1 < 9 by decide) (show 9 < 2147483648 by decide)
  obtain ⟨T13, h13, X13, e13, W13, st13⟩ := stC X11 hx hZ e11 Ar12 (j := (1 : Int32)) hin12 (g := (mkF m 71 #[.val (.int p0), .val (.int p1), .val (.int p2), .val (.int p3), .val (.long q4), .second, .val (.long q5), .second, .val (.int kk), .val (.ref bu), .val (.int (Int32.ofNat n)), .val (.ref o0), .unset, .unset, .unset, .unset, .unset] [(.int z11c), (.int (1 : Int32)), (.ref bu)])) rfl rfl (hb hby at_71)
  obtain ⟨g13, G13, hg13⟩ := own_gset Ar12 qa12 Sa12 Ha12 W13 hg4 ⟨hz110, hz111⟩
  have Zs13 : n0 ≤ h13.size := Nat.le_trans Zs4 (Nat.le_of_eq W13.size.symm)
  have K13 : Keep h0 h13 [bu] := K4.wr W13 (Or.inl (List.mem_of_getElem? (i := 0) rfl))
  have N13 := Fr.snoc X13 N11 g_b
  have E_14 := (E_5.wr W13)
  have Fc_15 := (Fc_6.other W13 (Or.inl nb1))
  have Fv_16 := (Fv_7.other W13 (Or.inl nb1))
  have Va_17 := (Va_8.other W13 nb2)
  have S_C_18 := (S_C_9.wr W13)
  have S_F_19 := (S_F_10.wr W13)
  obtain ⟨_, _, ⟨T20, L20, k20, n20⟩, -, X20, ⟨Lc20, hQ20, l20, y20, z20⟩, st20⟩ := Jvm.LawKit.callS X13 hx (y := (⟨"heslar/KindByCodePinLaw", "at", "(Ljava/lang/String;I)C"⟩ : MethodName)) hown (mvT hZ (hw _ (List.mem_of_getElem? (i := 23) rfl))) (mvT hZ (hw _ (List.mem_of_getElem? (i := 24) rfl))) (mvT hZ (hw _ (List.mem_of_getElem? (i := 25) rfl))) (mvT hZ (hw _ (List.mem_of_getElem? (i := 26) rfl))) (by decide) (backOf (W := 2) (rAt l Z a0 hw [] o0 v0 k0 n f 2 (by decide) hn4 h13 n0 Zs13 ⟨E_14, Fc_15, Fv_16, Va_17⟩ cs hcs S_C_18 fm hfm S_F_19) hZ (hw _ (List.mem_of_getElem? (i := 26) rfl)) (hw _ (List.mem_of_getElem? (i := 25) rfl)) (by decide) (by decide)) (g := (mkF m 78 #[.val (.int p0), .val (.int p1), .val (.int p2), .val (.int p3), .val (.long q4), .second, .val (.long q5), .second, .val (.int kk), .val (.ref bu), .val (.int (Int32.ofNat n)), .val (.ref o0), .unset, .unset, .unset, .unset, .unset] [(.int (2 : Int32)), (.ref o0), (.int (2 : Int32)), (.ref bu)])) rfl (by rw [hml]; rfl) (argsL := [(.ref o0), (.int (2 : Int32))]) (rest := [(.int (2 : Int32)), (.ref bu)]) (lenOf pd__Ljava_lang_String_I_C rfl) rfl (by show 2 * 0 + _ ≤ _; exact Nat.le_of_eq rfl) (hb hby at_78) (fun _ _ => ⟨rfl, e13, (by decide : 3 + 0 ≤ _), (by decide : 45 + 0 ≤ _)⟩)
  dsimp only [Pt.U, Pt.locs, Pt.cells, Pt.slots] at X20 l20 y20 z20 st20 hQ20
  rw [l20, y20, z20] at X20
  obtain ⟨z20c, rfl, N20q, e20, hz200, hz201⟩ := hQ20
  have N20 := Fr.app N13 N20q
  obtain ⟨cl21, Ar21, qa21, Sa21, Ha21⟩ := id G13
  have hin21 : ¬ ((Int32.ofNat 2) < 0 ∨ cl21.slots.size ≤ (Int32.ofNat 2).toNatClampNeg) := own_inb Sa21 (show 2 < 9 by decide) (show 9 < 2147483648 by decide)
  obtain ⟨T22, h22, X22, e22, W22, st22⟩ := stC X20 hx hZ e20 Ar21 (j := (2 : Int32)) hin21 (g := (mkF m 81 #[.val (.int p0), .val (.int p1), .val (.int p2), .val (.int p3), .val (.long q4), .second, .val (.long q5), .second, .val (.int kk), .val (.ref bu), .val (.int (Int32.ofNat n)), .val (.ref o0), .unset, .unset, .unset, .unset, .unset] [(.int z20c), (.int (2 : Int32)), (.ref bu)])) rfl rfl (hb hby at_81)
  obtain ⟨g22, G22, hg22⟩ := own_gset Ar21 qa21 Sa21 Ha21 W22 hg13 ⟨hz200, hz201⟩
  have Zs22 : n0 ≤ h22.size := Nat.le_trans Zs13 (Nat.le_of_eq W22.size.symm)
  have K22 : Keep h0 h22 [bu] := K13.wr W22 (Or.inl (List.mem_of_getElem? (i := 0) rfl))
  have N22 := Fr.snoc X22 N20 g_b
  have E_23 := (E_14.wr W22)
  have Fc_24 := (Fc_15.other W22 (Or.inl nb1))
  have Fv_25 := (Fv_16.other W22 (Or.inl nb1))
  have Va_26 := (Va_17.other W22 nb2)
  have S_C_27 := (S_C_18.wr W22)
  have S_F_28 := (S_F_19.wr W22)
  obtain ⟨_, _, ⟨T29, L29, k29, n29⟩, -, X29, ⟨Lc29, hQ29, l29, y29, z29⟩, st29⟩ := Jvm.LawKit.callS X22 hx (y := (⟨"heslar/KindByCodePinLaw", "at", "(Ljava/lang/String;I)C"⟩ : MethodName)) hown (mvT hZ (hw _ (List.mem_of_getElem? (i := 23) rfl))) (mvT hZ (hw _ (List.mem_of_getElem? (i := 24) rfl))) (mvT hZ (hw _ (List.mem_of_getElem? (i := 25) rfl))) (mvT hZ (hw _ (List.mem_of_getElem? (i := 26) rfl))) (by decide) (backOf (W := 2) (rAt l Z a0 hw [] o0 v0 k0 n f 3 (by decide) hn4 h22 n0 Zs22 ⟨E_23, Fc_24, Fv_25, Va_26⟩ cs hcs S_C_27 fm hfm S_F_28) hZ (hw _ (List.mem_of_getElem? (i := 26) rfl)) (hw _ (List.mem_of_getElem? (i := 25) rfl)) (by decide) (by decide)) (g := (mkF m 88 #[.val (.int p0), .val (.int p1), .val (.int p2), .val (.int p3), .val (.long q4), .second, .val (.long q5), .second, .val (.int kk), .val (.ref bu), .val (.int (Int32.ofNat n)), .val (.ref o0), .unset, .unset, .unset, .unset, .unset] [(.int (3 : Int32)), (.ref o0), (.int (3 : Int32)), (.ref bu)])) rfl (by rw [hml]; rfl) (argsL := [(.ref o0), (.int (3 : Int32))]) (rest := [(.int (3 : Int32)), (.ref bu)]) (lenOf pd__Ljava_lang_String_I_C rfl) rfl (by show 2 * 0 + _ ≤ _; exact Nat.le_of_eq rfl) (hb hby at_88) (fun _ _ => ⟨rfl, e22, (by decide : 3 + 0 ≤ _), (by decide : 45 + 0 ≤ _)⟩)
  dsimp only [Pt.U, Pt.locs, Pt.cells, Pt.slots] at X29 l29 y29 z29 st29 hQ29
  rw [l29, y29, z29] at X29
  obtain ⟨z29c, rfl, N29q, e29, hz290, hz291⟩ := hQ29
  have N29 := Fr.app N22 N29q
  obtain ⟨cl30, Ar30, qa30, Sa30, Ha30⟩ := id G22
  have hin30 : ¬ ((Int32.ofNat 3) < 0 ∨ cl30.slots.size ≤ (Int32.ofNat 3).toNatClampNeg) := own_inb Sa30 (show 3 < 9 by decide) (show 9 < 2147483648 by decide)
  obtain ⟨T31, h31, X31, e31, W31, st31⟩ := stC X29 hx hZ e29 Ar30 (j := (3 : Int32)) hin30 (g := (mkF m 91 #[.val (.int p0), .val (.int p1), .val (.int p2), .val (.int p3), .val (.long q4), .second, .val (.long q5), .second, .val (.int kk), .val (.ref bu), .val (.int (Int32.ofNat n)), .val (.ref o0), .unset, .unset, .unset, .unset, .unset] [(.int z29c), (.int (3 : Int32)), (.ref bu)])) rfl rfl (hb hby at_91)
  obtain ⟨g31, G31, hg31⟩ := own_gset Ar30 qa30 Sa30 Ha30 W31 hg22 ⟨hz290, hz291⟩
  have Zs31 : n0 ≤ h31.size := Nat.le_trans Zs22 (Nat.le_of_eq W31.size.symm)
  have K31 : Keep h0 h31 [bu] := K22.wr W31 (Or.inl (List.mem_of_getElem? (i := 0) rfl))
  have N31 := Fr.snoc X31 N29 g_b
  have E_32 := (E_23.wr W31)
  have Fc_33 := (Fc_24.other W31 (Or.inl nb1))
  have Fv_34 := (Fv_25.other W31 (Or.inl nb1))
  have Va_35 := (Va_26.other W31 nb2)
  have S_C_36 := (S_C_27.wr W31)
  have S_F_37 := (S_F_28.wr W31)
  obtain ⟨_, _, ⟨T38, L38, k38, n38⟩, -, X38, ⟨Lc38, hQ38, l38, y38, z38⟩, st38⟩ := Jvm.LawKit.callS X31 hx (y := (⟨"heslar/KindByCodePinLaw", "at", "(Ljava/lang/String;I)C"⟩ : MethodName)) hown (mvT hZ (hw _ (List.mem_of_getElem? (i := 23) rfl))) (mvT hZ (hw _ (List.mem_of_getElem? (i := 24) rfl))) (mvT hZ (hw _ (List.mem_of_getElem? (i := 25) rfl))) (mvT hZ (hw _ (List.mem_of_getElem? (i := 26) rfl))) (by decide) (backOf (W := 2) (rAt l Z a0 hw [] o0 v0 k0 n f 4 (by decide) hn4 h31 n0 Zs31 ⟨E_32, Fc_33, Fv_34, Va_35⟩ cs hcs S_C_36 fm hfm S_F_37) hZ (hw _ (List.mem_of_getElem? (i := 26) rfl)) (hw _ (List.mem_of_getElem? (i := 25) rfl)) (by decide) (by decide)) (g := (mkF m 98 #[.val (.int p0), .val (.int p1), .val (.int p2), .val (.int p3), .val (.long q4), .second, .val (.long q5), .second, .val (.int kk), .val (.ref bu), .val (.int (Int32.ofNat n)), .val (.ref o0), .unset, .unset, .unset, .unset, .unset] [(.int (4 : Int32)), (.ref o0), (.int (4 : Int32)), (.ref bu)])) rfl (by rw [hml]; rfl) (argsL := [(.ref o0), (.int (4 : Int32))]) (rest := [(.int (4 : Int32)), (.ref bu)]) (lenOf pd__Ljava_lang_String_I_C rfl) rfl (by show 2 * 0 + _ ≤ _; exact Nat.le_of_eq rfl) (hb hby at_98) (fun _ _ => ⟨rfl, e31, (by decide : 3 + 0 ≤ _), (by decide : 45 + 0 ≤ _)⟩)
  dsimp only [Pt.U, Pt.locs, Pt.cells, Pt.slots] at X38 l38 y38 z38 st38 hQ38
  rw [l38, y38, z38] at X38
  obtain ⟨z38c, rfl, N38q, e38, hz380, hz381⟩ := hQ38
  have N38 := Fr.app N31 N38q
  obtain ⟨cl39, Ar39, qa39, Sa39, Ha39⟩ := id G31
  have hin39 : ¬ ((Int32.ofNat 4) < 0 ∨ cl39.slots.size ≤ (Int32.ofNat 4).toNatClampNeg) := own_inb Sa39 (show 4 < 9 by decide) (show 9 < 2147483648 by decide)
  obtain ⟨T40, h40, X40, e40, W40, st40⟩ := stC X38 hx hZ e38 Ar39 (j := (4 : Int32)) hin39 (g := (mkF m 101 #[.val (.int p0), .val (.int p1), .val (.int p2), .val (.int p3), .val (.long q4), .second, .val (.long q5), .second, .val (.int kk), .val (.ref bu), .val (.int (Int32.ofNat n)), .val (.ref o0), .unset, .unset, .unset, .unset, .unset] [(.int z38c), (.int (4 : Int32)), (.ref bu)])) rfl rfl (hb hby at_101)
  obtain ⟨g40, G40, hg40⟩ := own_gset Ar39 qa39 Sa39 Ha39 W40 hg31 ⟨hz380, hz381⟩
  have Zs40 : n0 ≤ h40.size := Nat.le_trans Zs31 (Nat.le_of_eq W40.size.symm)
  have K40 : Keep h0 h40 [bu] := K31.wr W40 (Or.inl (List.mem_of_getElem? (i := 0) rfl))
  have N40 := Fr.snoc X40 N38 g_b
  have E_41 := (E_32.wr W40)
  have Fc_42 := (Fc_33.other W40 (Or.inl nb1))
  have Fv_43 := (Fv_34.other W40 (Or.inl nb1))
  have Va_44 := (Va_35.other W40 nb2)
  have S_C_45 := (S_C_36.wr W40)
  have S_F_46 := (S_F_37.wr W40)
  obtain ⟨_, _, ⟨T47, L47, k47, n47⟩, -, X47, ⟨Lc47, hQ47, l47, y47, z47⟩, st47⟩ := Jvm.LawKit.callS X40 hx (y := (⟨"heslar/KindByCodePinLaw", "at", "(Ljava/lang/String;I)C"⟩ : MethodName)) hown (mvT hZ (hw _ (List.mem_of_getElem? (i := 23) rfl))) (mvT hZ (hw _ (List.mem_of_getElem? (i := 24) rfl))) (mvT hZ (hw _ (List.mem_of_getElem? (i := 25) rfl))) (mvT hZ (hw _ (List.mem_of_getElem? (i := 26) rfl))) (by decide) (backOf (W := 2) (rAt l Z a0 hw [] o0 v0 k0 n f 5 (by decide) hn4 h40 n0 Zs40 ⟨E_41, Fc_42, Fv_43, Va_44⟩ cs hcs S_C_45 fm hfm S_F_46) hZ (hw _ (List.mem_of_getElem? (i := 26) rfl)) (hw _ (List.mem_of_getElem? (i := 25) rfl)) (by decide) (by decide)) (g := (mkF m 108 #[.val (.int p0), .val (.int p1), .val (.int p2), .val (.int p3), .val (.long q4), .second, .val (.long q5), .second, .val (.int kk), .val (.ref bu), .val (.int (Int32.ofNat n)), .val (.ref o0), .unset, .unset, .unset, .unset, .unset] [(.int (5 : Int32)), (.ref o0), (.int (5 : Int32)), (.ref bu)])) rfl (by rw [hml]; rfl) (argsL := [(.ref o0), (.int (5 : Int32))]) (rest := [(.int (5 : Int32)), (.ref bu)]) (lenOf pd__Ljava_lang_String_I_C rfl) rfl (by show 2 * 0 + _ ≤ _; exact Nat.le_of_eq rfl) (hb hby at_108) (fun _ _ => ⟨rfl, e40, (by decide : 3 + 0 ≤ _), (by decide : 45 + 0 ≤ _)⟩)
  dsimp only [Pt.U, Pt.locs, Pt.cells, Pt.slots] at X47 l47 y47 z47 st47 hQ47
  rw [l47, y47, z47] at X47
  obtain ⟨z47c, rfl, N47q, e47, hz470, hz471⟩ := hQ47
  have N47 := Fr.app N40 N47q
  obtain ⟨cl48, Ar48, qa48, Sa48, Ha48⟩ := id G40
  have hin48 : ¬ ((Int32.ofNat 5) < 0 ∨ cl48.slots.size ≤ (Int32.ofNat 5).toNatClampNeg) := own_inb Sa48 (show 5 < 9 by decide) (show 9 < 2147483648 by decide)
  obtain ⟨T49, h49, X49, e49, W49, st49⟩ := stC X47 hx hZ e47 Ar48 (j := (5 : Int32)) hin48 (g := (mkF m 111 #[.val (.int p0), .val (.int p1), .val (.int p2), .val (.int p3), .val (.long q4), .second, .val (.long q5), .second, .val (.int kk), .val (.ref bu), .val (.int (Int32.ofNat n)), .val (.ref o0), .unset, .unset, .unset, .unset, .unset] [(.int z47c), (.int (5 : Int32)), (.ref bu)])) rfl rfl (hb hby at_111)
  obtain ⟨g49, G49, hg49⟩ := own_gset Ar48 qa48 Sa48 Ha48 W49 hg40 ⟨hz470, hz471⟩
  have Zs49 : n0 ≤ h49.size := Nat.le_trans Zs40 (Nat.le_of_eq W49.size.symm)
  have K49 : Keep h0 h49 [bu] := K40.wr W49 (Or.inl (List.mem_of_getElem? (i := 0) rfl))
  have N49 := Fr.snoc X49 N47 g_b
  have E_50 := (E_41.wr W49)
  have Fc_51 := (Fc_42.other W49 (Or.inl nb1))
  have Fv_52 := (Fv_43.other W49 (Or.inl nb1))
  have Va_53 := (Va_44.other W49 nb2)
  have S_C_54 := (S_C_45.wr W49)
  have S_F_55 := (S_F_46.wr W49)
  obtain ⟨_, _, ⟨T56, L56, k56, n56⟩, -, X56, ⟨Lc56, hQ56, l56, y56, z56⟩, st56⟩ := Jvm.LawKit.callS X49 hx (y := (⟨"heslar/KindByCodePinLaw", "at", "(Ljava/lang/String;I)C"⟩ : MethodName)) hown (mvT hZ (hw _ (List.mem_of_getElem? (i := 23) rfl))) (mvT hZ (hw _ (List.mem_of_getElem? (i := 24) rfl))) (mvT hZ (hw _ (List.mem_of_getElem? (i := 25) rfl))) (mvT hZ (hw _ (List.mem_of_getElem? (i := 26) rfl))) (by decide) (backOf (W := 2) (rAt l Z a0 hw [] o0 v0 k0 n f 6 (by decide) hn4 h49 n0 Zs49 ⟨E_50, Fc_51, Fv_52, Va_53⟩ cs hcs S_C_54 fm hfm S_F_55) hZ (hw _ (List.mem_of_getElem? (i := 26) rfl)) (hw _ (List.mem_of_getElem? (i := 25) rfl)) (by decide) (by decide)) (g := (mkF m 120 #[.val (.int p0), .val (.int p1), .val (.int p2), .val (.int p3), .val (.long q4), .second, .val (.long q5), .second, .val (.int kk), .val (.ref bu), .val (.int (Int32.ofNat n)), .val (.ref o0), .unset, .unset, .unset, .unset, .unset] [(.int (6 : Int32)), (.ref o0), (.int (6 : Int32)), (.ref bu)])) rfl (by rw [hml]; rfl) (argsL := [(.ref o0), (.int (6 : Int32))]) (rest := [(.int (6 : Int32)), (.ref bu)]) (lenOf pd__Ljava_lang_String_I_C rfl) rfl (by show 2 * 0 + _ ≤ _; exact Nat.le_of_eq rfl) (hb hby at_120) (fun _ _ => ⟨rfl, e49, (by decide : 3 + 0 ≤ _), (by decide : 45 + 0 ≤ _)⟩)
  dsimp only [Pt.U, Pt.locs, Pt.cells, Pt.slots] at X56 l56 y56 z56 st56 hQ56
  rw [l56, y56, z56] at X56
  obtain ⟨z56c, rfl, N56q, e56, hz560, hz561⟩ := hQ56
  have N56 := Fr.app N49 N56q
  obtain ⟨cl57, Ar57, qa57, Sa57, Ha57⟩ := id G49
  have hin57 : ¬ ((Int32.ofNat 6) < 0 ∨ cl57.slots.size ≤ (Int32.ofNat 6).toNatClampNeg) := own_inb Sa57 (show 6 < 9 by decide) (show 9 < 2147483648 by decide)
  obtain ⟨T58, h58, X58, e58, W58, st58⟩ := stC X56 hx hZ e56 Ar57 (j := (6 : Int32)) hin57 (g := (mkF m 123 #[.val (.int p0), .val (.int p1), .val (.int p2), .val (.int p3), .val (.long q4), .second, .val (.long q5), .second, .val (.int kk), .val (.ref bu), .val (.int (Int32.ofNat n)), .val (.ref o0), .unset, .unset, .unset, .unset, .unset] [(.int z56c), (.int (6 : Int32)), (.ref bu)])) rfl rfl (hb hby at_123)
  obtain ⟨g58, G58, hg58⟩ := own_gset Ar57 qa57 Sa57 Ha57 W58 hg49 ⟨hz560, hz561⟩
  have Zs58 : n0 ≤ h58.size := Nat.le_trans Zs49 (Nat.le_of_eq W58.size.symm)
  have K58 : Keep h0 h58 [bu] := K49.wr W58 (Or.inl (List.mem_of_getElem? (i := 0) rfl))
  have N58 := Fr.snoc X58 N56 g_b
  have E_59 := (E_50.wr W58)
  have Fc_60 := (Fc_51.other W58 (Or.inl nb1))
  have Fv_61 := (Fv_52.other W58 (Or.inl nb1))
  have Va_62 := (Va_53.other W58 nb2)
  have S_C_63 := (S_C_54.wr W58)
  have S_F_64 := (S_F_55.wr W58)
  obtain ⟨_, _, ⟨T65, L65, k65, n65⟩, -, X65, ⟨Lc65, hQ65, l65, y65, z65⟩, st65⟩ := Jvm.LawKit.callS X58 hx (y := (⟨"heslar/KindByCodePinLaw", "at", "(Ljava/lang/String;I)C"⟩ : MethodName)) hown (mvT hZ (hw _ (List.mem_of_getElem? (i := 23) rfl))) (mvT hZ (hw _ (List.mem_of_getElem? (i := 24) rfl))) (mvT hZ (hw _ (List.mem_of_getElem? (i := 25) rfl))) (mvT hZ (hw _ (List.mem_of_getElem? (i := 26) rfl))) (by decide) (backOf (W := 2) (rAt l Z a0 hw [] o0 v0 k0 n f 7 (by decide) hn4 h58 n0 Zs58 ⟨E_59, Fc_60, Fv_61, Va_62⟩ cs hcs S_C_63 fm hfm S_F_64) hZ (hw _ (List.mem_of_getElem? (i := 26) rfl)) (hw _ (List.mem_of_getElem? (i := 25) rfl)) (by decide) (by decide)) (g := (mkF m 132 #[.val (.int p0), .val (.int p1), .val (.int p2), .val (.int p3), .val (.long q4), .second, .val (.long q5), .second, .val (.int kk), .val (.ref bu), .val (.int (Int32.ofNat n)), .val (.ref o0), .unset, .unset, .unset, .unset, .unset] [(.int (7 : Int32)), (.ref o0), (.int (7 : Int32)), (.ref bu)])) rfl (by rw [hml]; rfl) (argsL := [(.ref o0), (.int (7 : Int32))]) (rest := [(.int (7 : Int32)), (.ref bu)]) (lenOf pd__Ljava_lang_String_I_C rfl) rfl (by show 2 * 0 + _ ≤ _; exact Nat.le_of_eq rfl) (hb hby at_132) (fun _ _ => ⟨rfl, e58, (by decide : 3 + 0 ≤ _), (by decide : 45 + 0 ≤ _)⟩)
  dsimp only [Pt.U, Pt.locs, Pt.cells, Pt.slots] at X65 l65 y65 z65 st65 hQ65
  rw [l65, y65, z65] at X65
  obtain ⟨z65c, rfl, N65q, e65, hz650, hz651⟩ := hQ65
  have N65 := Fr.app N58 N65q
  obtain ⟨cl66, Ar66, qa66, Sa66, Ha66⟩ := id G58
  have hin66 : ¬ ((Int32.ofNat 7) < 0 ∨ cl66.slots.size ≤ (Int32.ofNat 7).toNatClampNeg) := own_inb Sa66 (show 7 < 9 by decide) (show 9 < 2147483648 by decide)
  obtain ⟨T67, h67, X67, e67, W67, st67⟩ := stC X65 hx hZ e65 Ar66 (j := (7 : Int32)) hin66 (g := (mkF m 135 #[.val (.int p0), .val (.int p1), .val (.int p2), .val (.int p3), .val (.long q4), .second, .val (.long q5), .second, .val (.int kk), .val (.ref bu), .val (.int (Int32.ofNat n)), .val (.ref o0), .unset, .unset, .unset, .unset, .unset] [(.int z65c), (.int (7 : Int32)), (.ref bu)])) rfl rfl (hb hby at_135)
  obtain ⟨g67, G67, hg67⟩ := own_gset Ar66 qa66 Sa66 Ha66 W67 hg58 ⟨hz650, hz651⟩
  have Zs67 : n0 ≤ h67.size := Nat.le_trans Zs58 (Nat.le_of_eq W67.size.symm)
  have K67 : Keep h0 h67 [bu] := K58.wr W67 (Or.inl (List.mem_of_getElem? (i := 0) rfl))
  have N67 := Fr.snoc X67 N65 g_b
  have E_68 := (E_59.wr W67)
  have Fc_69 := (Fc_60.other W67 (Or.inl nb1))
  have Fv_70 := (Fv_61.other W67 (Or.inl nb1))
  have Va_71 := (Va_62.other W67 nb2)
  have S_C_72 := (S_C_63.wr W67)
  have S_F_73 := (S_F_64.wr W67)
  obtain ⟨_, _, ⟨T74, L74, k74, n74⟩, -, X74, ⟨Lc74, hQ74, l74, y74, z74⟩, st74⟩ := Jvm.LawKit.callS X67 hx (y := (⟨"heslar/KindByCodePinLaw", "at", "(Ljava/lang/String;I)C"⟩ : MethodName)) hown (mvT hZ (hw _ (List.mem_of_getElem? (i := 23) rfl))) (mvT hZ (hw _ (List.mem_of_getElem? (i := 24) rfl))) (mvT hZ (hw _ (List.mem_of_getElem? (i := 25) rfl))) (mvT hZ (hw _ (List.mem_of_getElem? (i := 26) rfl))) (by decide) (backOf (W := 2) (rAt l Z a0 hw [] o0 v0 k0 n f 8 (by decide) hn4 h67 n0 Zs67 ⟨E_68, Fc_69, Fv_70, Va_71⟩ cs hcs S_C_72 fm hfm S_F_73) hZ (hw _ (List.mem_of_getElem? (i := 26) rfl)) (hw _ (List.mem_of_getElem? (i := 25) rfl)) (by decide) (by decide)) (g := (mkF m 144 #[.val (.int p0), .val (.int p1), .val (.int p2), .val (.int p3), .val (.long q4), .second, .val (.long q5), .second, .val (.int kk), .val (.ref bu), .val (.int (Int32.ofNat n)), .val (.ref o0), .unset, .unset, .unset, .unset, .unset] [(.int (8 : Int32)), (.ref o0), (.int (8 : Int32)), (.ref bu)])) rfl (by rw [hml]; rfl) (argsL := [(.ref o0), (.int (8 : Int32))]) (rest := [(.int (8 : Int32)), (.ref bu)]) (lenOf pd__Ljava_lang_String_I_C rfl) rfl (by show 2 * 0 + _ ≤ _; exact Nat.le_of_eq rfl) (hb hby at_144) (fun _ _ => ⟨rfl, e67, (by decide : 3 + 0 ≤ _), (by decide : 45 + 0 ≤ _)⟩)
  dsimp only [Pt.U, Pt.locs, Pt.cells, Pt.slots] at X74 l74 y74 z74 st74 hQ74
  rw [l74, y74, z74] at X74
  obtain ⟨z74c, rfl, N74q, e74, hz740, hz741⟩ := hQ74
  have N74 := Fr.app N67 N74q
  obtain ⟨cl75, Ar75, qa75, Sa75, Ha75⟩ := id G67
  have hin75 : ¬ ((Int32.ofNat 8) < 0 ∨ cl75.slots.size ≤ (Int32.ofNat 8).toNatClampNeg) := own_inb Sa75 (show 8 < 9 by decide) (show 9 < 2147483648 by decide)
  obtain ⟨T76, h76, X76, e76, W76, st76⟩ := stC X74 hx hZ e74 Ar75 (j := (8 : Int32)) hin75 (g := (mkF m 147 #[.val (.int p0), .val (.int p1), .val (.int p2), .val (.int p3), .val (.long q4), .second, .val (.long q5), .second, .val (.int kk), .val (.ref bu), .val (.int (Int32.ofNat n)), .val (.ref o0), .unset, .unset, .unset, .unset, .unset] [(.int z74c), (.int (8 : Int32)), (.ref bu)])) rfl rfl (hb hby at_147)
  obtain ⟨g76, G76, hg76⟩ := own_gset Ar75 qa75 Sa75 Ha75 W76 hg67 ⟨hz740, hz741⟩
  have Zs76 : n0 ≤ h76.size := Nat.le_trans Zs67 (Nat.le_of_eq W76.size.symm)
  have K76 : Keep h0 h76 [bu] := K67.wr W76 (Or.inl (List.mem_of_getElem? (i := 0) rfl))
  have N76 := Fr.snoc X76 N74 g_b
  have pre77 : ∀ t, Steps p.tables e below (T76.setTop (mkF m 299 #[.val (.int p0), .val (.int p1), .val (.int p2), .val (.int p3), .val (.long q4), .second, .val (.long q5), .second, .val (.int kk), .val (.ref bu), .val (.int (Int32.ofNat n)), .val (.ref o0), .unset, .unset, .unset, .unset, .unset] [])) t → Steps p.tables e below (T0.setTop (mkF m 45 #[.val (.int p0), .val (.int p1), .val (.int p2), .val (.int p3), .val (.long q4), .second, .val (.long q5), .second, .val (.int kk), .val (.ref bu), .unset, .val (.ref o0), .unset, .unset, .unset, .unset, .unset] [])) t := by
    intro t kt
    refine pre0 t ?_
    show Steps p.tables e below (T0.setTop (mkF m 45 #[.val (.int p0), .val (.int p1), .val (.int p2), .val (.int p3), .val (.long q4), .second, .val (.long q5), .second, .val (.int kk), .val (.ref bu), .unset, .val (.ref o0), .unset, .unset, .unset, .unset, .unset] [])) _
    refine XS.aload X0.here hx rfl (hb hby at_45) rfl rfl ?_
    show Steps p.tables e below (T0.setTop (mkF m 47 #[.val (.int p0), .val (.int p1), .val (.int p2), .val (.int p3), .val (.long q4), .second, .val (.long q5), .second, .val (.int kk), .val (.ref bu), .unset, .val (.ref o0), .unset, .unset, .unset, .unset, .unset] [(.ref o0)])) _
    refine st1.trans ?_
    show Steps p.tables e below (T1.setTop (mkF m 50 #[.val (.int p0), .val (.int p1), .val (.int p2), .val (.int p3), .val (.long q4), .second, .val (.long q5), .second, .val (.int kk), .val (.ref bu), .unset, .val (.ref o0), .unset, .unset, .unset, .unset, .unset] [(.int (Int32.ofNat n))])) _
    refine XS.istore X1.here hx rfl (hb hby at_50) rfl (l' := #[.val (.int p0), .val (.int p1), .val (.int p2), .val (.int p3), .val (.long q4), .second, .val (.long q5), .second, .val (.int kk), .val (.ref bu), .val (.int (Int32.ofNat n)), .val (.ref o0), .unset, .unset, .unset, .unset, .unset]) rfl ?_
    show Steps p.tables e below (T1.setTop (mkF m 52 #[.val (.int p0), .val (.int p1), .val (.int p2), .val (.int p3), .val (.long q4), .second, .val (.long q5), .second, .val (.int kk), .val (.ref bu), .val (.int (Int32.ofNat n)), .val (.ref o0), .unset, .unset, .unset, .unset, .unset] [])) _
    refine XS.aload X1.here hx rfl (hb hby at_52) rfl rfl ?_
    show Steps p.tables e below (T1.setTop (mkF m 54 #[.val (.int p0), .val (.int p1), .val (.int p2), .val (.int p3), .val (.long q4), .second, .val (.long q5), .second, .val (.int kk), .val (.ref bu), .val (.int (Int32.ofNat n)), .val (.ref o0), .unset, .unset, .unset, .unset, .unset] [(.ref bu)])) _
    refine XS.iconst X1.here hx rfl (hb hby at_54) ?_
    show Steps p.tables e below (T1.setTop (mkF m 55 #[.val (.int p0), .val (.int p1), .val (.int p2), .val (.int p3), .val (.long q4), .second, .val (.long q5), .second, .val (.int kk), .val (.ref bu), .val (.int (Int32.ofNat n)), .val (.ref o0), .unset, .unset, .unset, .unset, .unset] [(.int (0 : Int32)), (.ref bu)])) _
    refine XS.aload X1.here hx rfl (hb hby at_55) rfl rfl ?_
    show Steps p.tables e below (T1.setTop (mkF m 57 #[.val (.int p0), .val (.int p1), .val (.int p2), .val (.int p3), .val (.long q4), .second, .val (.long q5), .second, .val (.int kk), .val (.ref bu), .val (.int (Int32.ofNat n)), .val (.ref o0), .unset, .unset, .unset, .unset, .unset] [(.ref o0), (.int (0 : Int32)), (.ref bu)])) _
    refine XS.iconst X1.here hx rfl (hb hby at_57) ?_
    show Steps p.tables e below (T1.setTop (mkF m 58 #[.val (.int p0), .val (.int p1), .val (.int p2), .val (.int p3), .val (.long q4), .second, .val (.long q5), .second, .val (.int kk), .val (.ref bu), .val (.int (Int32.ofNat n)), .val (.ref o0), .unset, .unset, .unset, .unset, .unset] [(.int (0 : Int32)), (.ref o0), (.int (0 : Int32)), (.ref bu)])) _
    refine st2 _ ?_
    show Steps p.tables e below (T2.setTop (mkF m 61 #[.val (.int p0), .val (.int p1), .val (.int p2), .val (.int p3), .val (.long q4), .second, .val (.long q5), .second, .val (.int kk), .val (.ref bu), .val (.int (Int32.ofNat n)), .val (.ref o0), .unset, .unset, .unset, .unset, .unset] [(.int z2c), (.int (0 : Int32)), (.ref bu)])) _
    refine st4 _ ?_
    show Steps p.tables e below (T4.setTop (mkF m 62 #[.val (.int p0), .val (.int p1), .val (.int p2), .val (.int p3), .val (.long q4), .second, .val (.long q5), .second, .val (.int kk), .val (.ref bu), .val (.int (Int32.ofNat n)), .val (.ref o0), .unset, .unset, .unset, .unset, .unset] [])) _
    refine XS.aload X4.here hx rfl (hb hby at_62) rfl rfl ?_
    show Steps p.tables e below (T4.setTop (mkF m 64 #[.val (.int p0), .val (.int p1), .val (.int p2), .val (.int p3), .val (.long q4), .second, .val (.long q5), .second, .val (.int kk), .val (.ref bu), .val (.int (Int32.ofNat n)), .val (.ref o0), .unset, .unset, .unset, .unset, .unset] [(.ref bu)])) _
    refine XS.iconst X4.here hx rfl (hb hby at_64) ?_
    show Steps p.tables e below (T4.setTop (mkF m 65 #[.val (.int p0), .val (.int p1), .val (.int p2), .val (.int p3), .val (.long q4), .second, .val (.long q5), .second, .val (.int kk), .val (.ref bu), .val (.int (Int32.ofNat n)), .val (.ref o0), .unset, .unset, .unset, .unset, .unset] [(.int (1 : Int32)), (.ref bu)])) _
    refine XS.aload X4.here hx rfl (hb hby at_65) rfl rfl ?_
    show Steps p.tables e below (T4.setTop (mkF m 67 #[.val (.int p0), .val (.int p1), .val (.int p2), .val (.int p3), .val (.long q4), .second, .val (.long q5), .second, .val (.int kk), .val (.ref bu), .val (.int (Int32.ofNat n)), .val (.ref o0), .unset, .unset, .unset, .unset, .unset] [(.ref o0), (.int (1 : Int32)), (.ref bu)])) _
    refine XS.iconst X4.here hx rfl (hb hby at_67) ?_
    show Steps p.tables e below (T4.setTop (mkF m 68 #[.val (.int p0), .val (.int p1), .val (.int p2), .val (.int p3), .val (.long q4), .second, .val (.long q5), .second, .val (.int kk), .val (.ref bu), .val (.int (Int32.ofNat n)), .val (.ref o0), .unset, .unset, .unset, .unset, .unset] [(.int (1 : Int32)), (.ref o0), (.int (1 : Int32)), (.ref bu)])) _
    refine st11 _ ?_
    show Steps p.tables e below (T11.setTop (mkF m 71 #[.val (.int p0), .val (.int p1), .val (.int p2), .val (.int p3), .val (.long q4), .second, .val (.long q5), .second, .val (.int kk), .val (.ref bu), .val (.int (Int32.ofNat n)), .val (.ref o0), .unset, .unset, .unset, .unset, .unset] [(.int z11c), (.int (1 : Int32)), (.ref bu)])) _
    refine st13 _ ?_
    show Steps p.tables e below (T13.setTop (mkF m 72 #[.val (.int p0), .val (.int p1), .val (.int p2), .val (.int p3), .val (.long q4), .second, .val (.long q5), .second, .val (.int kk), .val (.ref bu), .val (.int (Int32.ofNat n)), .val (.ref o0), .unset, .unset, .unset, .unset, .unset] [])) _
    refine XS.aload X13.here hx rfl (hb hby at_72) rfl rfl ?_
    show Steps p.tables e below (T13.setTop (mkF m 74 #[.val (.int p0), .val (.int p1), .val (.int p2), .val (.int p3), .val (.long q4), .second, .val (.long q5), .second, .val (.int kk), .val (.ref bu), .val (.int (Int32.ofNat n)), .val (.ref o0), .unset, .unset, .unset, .unset, .unset] [(.ref bu)])) _
    refine XS.iconst X13.here hx rfl (hb hby at_74) ?_
    show Steps p.tables e below (T13.setTop (mkF m 75 #[.val (.int p0), .val (.int p1), .val (.int p2), .val (.int p3), .val (.long q4), .second, .val (.long q5), .second, .val (.int kk), .val (.ref bu), .val (.int (Int32.ofNat n)), .val (.ref o0), .unset, .unset, .unset, .unset, .unset] [(.int (2 : Int32)), (.ref bu)])) _
    refine XS.aload X13.here hx rfl (hb hby at_75) rfl rfl ?_
    show Steps p.tables e below (T13.setTop (mkF m 77 #[.val (.int p0), .val (.int p1), .val (.int p2), .val (.int p3), .val (.long q4), .second, .val (.long q5), .second, .val (.int kk), .val (.ref bu), .val (.int (Int32.ofNat n)), .val (.ref o0), .unset, .unset, .unset, .unset, .unset] [(.ref o0), (.int (2 : Int32)), (.ref bu)])) _
    refine XS.iconst X13.here hx rfl (hb hby at_77) ?_
    show Steps p.tables e below (T13.setTop (mkF m 78 #[.val (.int p0), .val (.int p1), .val (.int p2), .val (.int p3), .val (.long q4), .second, .val (.long q5), .second, .val (.int kk), .val (.ref bu), .val (.int (Int32.ofNat n)), .val (.ref o0), .unset, .unset, .unset, .unset, .unset] [(.int (2 : Int32)), (.ref o0), (.int (2 : Int32)), (.ref bu)])) _
    refine st20 _ ?_
    show Steps p.tables e below (T20.setTop (mkF m 81 #[.val (.int p0), .val (.int p1), .val (.int p2), .val (.int p3), .val (.long q4), .second, .val (.long q5), .second, .val (.int kk), .val (.ref bu), .val (.int (Int32.ofNat n)), .val (.ref o0), .unset, .unset, .unset, .unset, .unset] [(.int z20c), (.int (2 : Int32)), (.ref bu)])) _
    refine st22 _ ?_
    show Steps p.tables e below (T22.setTop (mkF m 82 #[.val (.int p0), .val (.int p1), .val (.int p2), .val (.int p3), .val (.long q4), .second, .val (.long q5), .second, .val (.int kk), .val (.ref bu), .val (.int (Int32.ofNat n)), .val (.ref o0), .unset, .unset, .unset, .unset, .unset] [])) _
    refine XS.aload X22.here hx rfl (hb hby at_82) rfl rfl ?_
    show Steps p.tables e below (T22.setTop (mkF m 84 #[.val (.int p0), .val (.int p1), .val (.int p2), .val (.int p3), .val (.long q4), .second, .val (.long q5), .second, .val (.int kk), .val (.ref bu), .val (.int (Int32.ofNat n)), .val (.ref o0), .unset, .unset, .unset, .unset, .unset] [(.ref bu)])) _
    refine XS.iconst X22.here hx rfl (hb hby at_84) ?_
    show Steps p.tables e below (T22.setTop (mkF m 85 #[.val (.int p0), .val (.int p1), .val (.int p2), .val (.int p3), .val (.long q4), .second, .val (.long q5), .second, .val (.int kk), .val (.ref bu), .val (.int (Int32.ofNat n)), .val (.ref o0), .unset, .unset, .unset, .unset, .unset] [(.int (3 : Int32)), (.ref bu)])) _
    refine XS.aload X22.here hx rfl (hb hby at_85) rfl rfl ?_
    show Steps p.tables e below (T22.setTop (mkF m 87 #[.val (.int p0), .val (.int p1), .val (.int p2), .val (.int p3), .val (.long q4), .second, .val (.long q5), .second, .val (.int kk), .val (.ref bu), .val (.int (Int32.ofNat n)), .val (.ref o0), .unset, .unset, .unset, .unset, .unset] [(.ref o0), (.int (3 : Int32)), (.ref bu)])) _
    refine XS.iconst X22.here hx rfl (hb hby at_87) ?_
    show Steps p.tables e below (T22.setTop (mkF m 88 #[.val (.int p0), .val (.int p1), .val (.int p2), .val (.int p3), .val (.long q4), .second, .val (.long q5), .second, .val (.int kk), .val (.ref bu), .val (.int (Int32.ofNat n)), .val (.ref o0), .unset, .unset, .unset, .unset, .unset] [(.int (3 : Int32)), (.ref o0), (.int (3 : Int32)), (.ref bu)])) _
    refine st29 _ ?_
    show Steps p.tables e below (T29.setTop (mkF m 91 #[.val (.int p0), .val (.int p1), .val (.int p2), .val (.int p3), .val (.long q4), .second, .val (.long q5), .second, .val (.int kk), .val (.ref bu), .val (.int (Int32.ofNat n)), .val (.ref o0), .unset, .unset, .unset, .unset, .unset] [(.int z29c), (.int (3 : Int32)), (.ref bu)])) _
    refine st31 _ ?_
    show Steps p.tables e below (T31.setTop (mkF m 92 #[.val (.int p0), .val (.int p1), .val (.int p2), .val (.int p3), .val (.long q4), .second, .val (.long q5), .second, .val (.int kk), .val (.ref bu), .val (.int (Int32.ofNat n)), .val (.ref o0), .unset, .unset, .unset, .unset, .unset] [])) _
    refine XS.aload X31.here hx rfl (hb hby at_92) rfl rfl ?_
    show Steps p.tables e below (T31.setTop (mkF m 94 #[.val (.int p0), .val (.int p1), .val (.int p2), .val (.int p3), .val (.long q4), .second, .val (.long q5), .second, .val (.int kk), .val (.ref bu), .val (.int (Int32.ofNat n)), .val (.ref o0), .unset, .unset, .unset, .unset, .unset] [(.ref bu)])) _
    refine XS.iconst X31.here hx rfl (hb hby at_94) ?_
    show Steps p.tables e below (T31.setTop (mkF m 95 #[.val (.int p0), .val (.int p1), .val (.int p2), .val (.int p3), .val (.long q4), .second, .val (.long q5), .second, .val (.int kk), .val (.ref bu), .val (.int (Int32.ofNat n)), .val (.ref o0), .unset, .unset, .unset, .unset, .unset] [(.int (4 : Int32)), (.ref bu)])) _
    refine XS.aload X31.here hx rfl (hb hby at_95) rfl rfl ?_
    show Steps p.tables e below (T31.setTop (mkF m 97 #[.val (.int p0), .val (.int p1), .val (.int p2), .val (.int p3), .val (.long q4), .second, .val (.long q5), .second, .val (.int kk), .val (.ref bu), .val (.int (Int32.ofNat n)), .val (.ref o0), .unset, .unset, .unset, .unset, .unset] [(.ref o0), (.int (4 : Int32)), (.ref bu)])) _
    refine XS.iconst X31.here hx rfl (hb hby at_97) ?_
    show Steps p.tables e below (T31.setTop (mkF m 98 #[.val (.int p0), .val (.int p1), .val (.int p2), .val (.int p3), .val (.long q4), .second, .val (.long q5), .second, .val (.int kk), .val (.ref bu), .val (.int (Int32.ofNat n)), .val (.ref o0), .unset, .unset, .unset, .unset, .unset] [(.int (4 : Int32)), (.ref o0), (.int (4 : Int32)), (.ref bu)])) _
    refine st38 _ ?_
    show Steps p.tables e below (T38.setTop (mkF m 101 #[.val (.int p0), .val (.int p1), .val (.int p2), .val (.int p3), .val (.long q4), .second, .val (.long q5), .second, .val (.int kk), .val (.ref bu), .val (.int (Int32.ofNat n)), .val (.ref o0), .unset, .unset, .unset, .unset, .unset] [(.int z38c), (.int (4 : Int32)), (.ref bu)])) _
    refine st40 _ ?_
    show Steps p.tables e below (T40.setTop (mkF m 102 #[.val (.int p0), .val (.int p1), .val (.int p2), .val (.int p3), .val (.long q4), .second, .val (.long q5), .second, .val (.int kk), .val (.ref bu), .val (.int (Int32.ofNat n)), .val (.ref o0), .unset, .unset, .unset, .unset, .unset] [])) _
    refine XS.aload X40.here hx rfl (hb hby at_102) rfl rfl ?_
    show Steps p.tables e below (T40.setTop (mkF m 104 #[.val (.int p0), .val (.int p1), .val (.int p2), .val (.int p3), .val (.long q4), .second, .val (.long q5), .second, .val (.int kk), .val (.ref bu), .val (.int (Int32.ofNat n)), .val (.ref o0), .unset, .unset, .unset, .unset, .unset] [(.ref bu)])) _
    refine XS.iconst X40.here hx rfl (hb hby at_104) ?_
    show Steps p.tables e below (T40.setTop (mkF m 105 #[.val (.int p0), .val (.int p1), .val (.int p2), .val (.int p3), .val (.long q4), .second, .val (.long q5), .second, .val (.int kk), .val (.ref bu), .val (.int (Int32.ofNat n)), .val (.ref o0), .unset, .unset, .unset, .unset, .unset] [(.int (5 : Int32)), (.ref bu)])) _
    refine XS.aload X40.here hx rfl (hb hby at_105) rfl rfl ?_
    show Steps p.tables e below (T40.setTop (mkF m 107 #[.val (.int p0), .val (.int p1), .val (.int p2), .val (.int p3), .val (.long q4), .second, .val (.long q5), .second, .val (.int kk), .val (.ref bu), .val (.int (Int32.ofNat n)), .val (.ref o0), .unset, .unset, .unset, .unset, .unset] [(.ref o0), (.int (5 : Int32)), (.ref bu)])) _
    refine XS.iconst X40.here hx rfl (hb hby at_107) ?_
    show Steps p.tables e below (T40.setTop (mkF m 108 #[.val (.int p0), .val (.int p1), .val (.int p2), .val (.int p3), .val (.long q4), .second, .val (.long q5), .second, .val (.int kk), .val (.ref bu), .val (.int (Int32.ofNat n)), .val (.ref o0), .unset, .unset, .unset, .unset, .unset] [(.int (5 : Int32)), (.ref o0), (.int (5 : Int32)), (.ref bu)])) _
    refine st47 _ ?_
    show Steps p.tables e below (T47.setTop (mkF m 111 #[.val (.int p0), .val (.int p1), .val (.int p2), .val (.int p3), .val (.long q4), .second, .val (.long q5), .second, .val (.int kk), .val (.ref bu), .val (.int (Int32.ofNat n)), .val (.ref o0), .unset, .unset, .unset, .unset, .unset] [(.int z47c), (.int (5 : Int32)), (.ref bu)])) _
    refine st49 _ ?_
    show Steps p.tables e below (T49.setTop (mkF m 112 #[.val (.int p0), .val (.int p1), .val (.int p2), .val (.int p3), .val (.long q4), .second, .val (.long q5), .second, .val (.int kk), .val (.ref bu), .val (.int (Int32.ofNat n)), .val (.ref o0), .unset, .unset, .unset, .unset, .unset] [])) _
    refine XS.aload X49.here hx rfl (hb hby at_112) rfl rfl ?_
    show Steps p.tables e below (T49.setTop (mkF m 114 #[.val (.int p0), .val (.int p1), .val (.int p2), .val (.int p3), .val (.long q4), .second, .val (.long q5), .second, .val (.int kk), .val (.ref bu), .val (.int (Int32.ofNat n)), .val (.ref o0), .unset, .unset, .unset, .unset, .unset] [(.ref bu)])) _
    refine XS.bipush X49.here hx rfl (hb hby at_114) ?_
    show Steps p.tables e below (T49.setTop (mkF m 116 #[.val (.int p0), .val (.int p1), .val (.int p2), .val (.int p3), .val (.long q4), .second, .val (.long q5), .second, .val (.int kk), .val (.ref bu), .val (.int (Int32.ofNat n)), .val (.ref o0), .unset, .unset, .unset, .unset, .unset] [(.int (6 : Int32)), (.ref bu)])) _
    refine XS.aload X49.here hx rfl (hb hby at_116) rfl rfl ?_
    show Steps p.tables e below (T49.setTop (mkF m 118 #[.val (.int p0), .val (.int p1), .val (.int p2), .val (.int p3), .val (.long q4), .second, .val (.long q5), .second, .val (.int kk), .val (.ref bu), .val (.int (Int32.ofNat n)), .val (.ref o0), .unset, .unset, .unset, .unset, .unset] [(.ref o0), (.int (6 : Int32)), (.ref bu)])) _
    refine XS.bipush X49.here hx rfl (hb hby at_118) ?_
    show Steps p.tables e below (T49.setTop (mkF m 120 #[.val (.int p0), .val (.int p1), .val (.int p2), .val (.int p3), .val (.long q4), .second, .val (.long q5), .second, .val (.int kk), .val (.ref bu), .val (.int (Int32.ofNat n)), .val (.ref o0), .unset, .unset, .unset, .unset, .unset] [(.int (6 : Int32)), (.ref o0), (.int (6 : Int32)), (.ref bu)])) _
    refine st56 _ ?_
    show Steps p.tables e below (T56.setTop (mkF m 123 #[.val (.int p0), .val (.int p1), .val (.int p2), .val (.int p3), .val (.long q4), .second, .val (.long q5), .second, .val (.int kk), .val (.ref bu), .val (.int (Int32.ofNat n)), .val (.ref o0), .unset, .unset, .unset, .unset, .unset] [(.int z56c), (.int (6 : Int32)), (.ref bu)])) _
    refine st58 _ ?_
    show Steps p.tables e below (T58.setTop (mkF m 124 #[.val (.int p0), .val (.int p1), .val (.int p2), .val (.int p3), .val (.long q4), .second, .val (.long q5), .second, .val (.int kk), .val (.ref bu), .val (.int (Int32.ofNat n)), .val (.ref o0), .unset, .unset, .unset, .unset, .unset] [])) _
    refine XS.aload X58.here hx rfl (hb hby at_124) rfl rfl ?_
    show Steps p.tables e below (T58.setTop (mkF m 126 #[.val (.int p0), .val (.int p1), .val (.int p2), .val (.int p3), .val (.long q4), .second, .val (.long q5), .second, .val (.int kk), .val (.ref bu), .val (.int (Int32.ofNat n)), .val (.ref o0), .unset, .unset, .unset, .unset, .unset] [(.ref bu)])) _
    refine XS.bipush X58.here hx rfl (hb hby at_126) ?_
    show Steps p.tables e below (T58.setTop (mkF m 128 #[.val (.int p0), .val (.int p1), .val (.int p2), .val (.int p3), .val (.long q4), .second, .val (.long q5), .second, .val (.int kk), .val (.ref bu), .val (.int (Int32.ofNat n)), .val (.ref o0), .unset, .unset, .unset, .unset, .unset] [(.int (7 : Int32)), (.ref bu)])) _
    refine XS.aload X58.here hx rfl (hb hby at_128) rfl rfl ?_
    show Steps p.tables e below (T58.setTop (mkF m 130 #[.val (.int p0), .val (.int p1), .val (.int p2), .val (.int p3), .val (.long q4), .second, .val (.long q5), .second, .val (.int kk), .val (.ref bu), .val (.int (Int32.ofNat n)), .val (.ref o0), .unset, .unset, .unset, .unset, .unset] [(.ref o0), (.int (7 : Int32)), (.ref bu)])) _
    refine XS.bipush X58.here hx rfl (hb hby at_130) ?_
    show Steps p.tables e below (T58.setTop (mkF m 132 #[.val (.int p0), .val (.int p1), .val (.int p2), .val (.int p3), .val (.long q4), .second, .val (.long q5), .second, .val (.int kk), .val (.ref bu), .val (.int (Int32.ofNat n)), .val (.ref o0), .unset, .unset, .unset, .unset, .unset] [(.int (7 : Int32)), (.ref o0), (.int (7 : Int32)), (.ref bu)])) _
    refine st65 _ ?_
    show Steps p.tables e below (T65.setTop (mkF m 135 #[.val (.int p0), .val (.int p1), .val (.int p2), .val (.int p3), .val (.long q4), .second, .val (.long q5), .second, .val (.int kk), .val (.ref bu), .val (.int (Int32.ofNat n)), .val (.ref o0), .unset, .unset, .unset, .unset, .unset] [(.int z65c), (.int (7 : Int32)), (.ref bu)])) _
    refine st67 _ ?_
    show Steps p.tables e below (T67.setTop (mkF m 136 #[.val (.int p0), .val (.int p1), .val (.int p2), .val (.int p3), .val (.long q4), .second, .val (.long q5), .second, .val (.int kk), .val (.ref bu), .val (.int (Int32.ofNat n)), .val (.ref o0), .unset, .unset, .unset, .unset, .unset] [])) _
    refine XS.aload X67.here hx rfl (hb hby at_136) rfl rfl ?_
    show Steps p.tables e below (T67.setTop (mkF m 138 #[.val (.int p0), .val (.int p1), .val (.int p2), .val (.int p3), .val (.long q4), .second, .val (.long q5), .second, .val (.int kk), .val (.ref bu), .val (.int (Int32.ofNat n)), .val (.ref o0), .unset, .unset, .unset, .unset, .unset] [(.ref bu)])) _
    refine XS.bipush X67.here hx rfl (hb hby at_138) ?_
    show Steps p.tables e below (T67.setTop (mkF m 140 #[.val (.int p0), .val (.int p1), .val (.int p2), .val (.int p3), .val (.long q4), .second, .val (.long q5), .second, .val (.int kk), .val (.ref bu), .val (.int (Int32.ofNat n)), .val (.ref o0), .unset, .unset, .unset, .unset, .unset] [(.int (8 : Int32)), (.ref bu)])) _
    refine XS.aload X67.here hx rfl (hb hby at_140) rfl rfl ?_
    show Steps p.tables e below (T67.setTop (mkF m 142 #[.val (.int p0), .val (.int p1), .val (.int p2), .val (.int p3), .val (.long q4), .second, .val (.long q5), .second, .val (.int kk), .val (.ref bu), .val (.int (Int32.ofNat n)), .val (.ref o0), .unset, .unset, .unset, .unset, .unset] [(.ref o0), (.int (8 : Int32)), (.ref bu)])) _
    refine XS.bipush X67.here hx rfl (hb hby at_142) ?_
    show Steps p.tables e below (T67.setTop (mkF m 144 #[.val (.int p0), .val (.int p1), .val (.int p2), .val (.int p3), .val (.long q4), .second, .val (.long q5), .second, .val (.int kk), .val (.ref bu), .val (.int (Int32.ofNat n)), .val (.ref o0), .unset, .unset, .unset, .unset, .unset] [(.int (8 : Int32)), (.ref o0), (.int (8 : Int32)), (.ref bu)])) _
    refine st74 _ ?_
    show Steps p.tables e below (T74.setTop (mkF m 147 #[.val (.int p0), .val (.int p1), .val (.int p2), .val (.int p3), .val (.long q4), .second, .val (.long q5), .second, .val (.int kk), .val (.ref bu), .val (.int (Int32.ofNat n)), .val (.ref o0), .unset, .unset, .unset, .unset, .unset] [(.int z74c), (.int (8 : Int32)), (.ref bu)])) _
    refine st76 _ ?_
    show Steps p.tables e below (T76.setTop (mkF m 148 #[.val (.int p0), .val (.int p1), .val (.int p2), .val (.int p3), .val (.long q4), .second, .val (.long q5), .second, .val (.int kk), .val (.ref bu), .val (.int (Int32.ofNat n)), .val (.ref o0), .unset, .unset, .unset, .unset, .unset] [])) _
    refine XS.goto X76.here hx rfl (pc0 := 148) (pc' := 299) rfl (hb hby at_148) (by decide) (by decide) ?_
    exact kt
  exact ⟨T76, _, g76, X76, (by rw [e76]; exact K76), N76, (by rw [e76]; exact G76), hg76, fun target kt => pre77 target kt⟩
set_option maxRecDepth 65536 in
set_option maxHeartbeats 40000000 in
theorem lwA3 {p : Program} {l : Launch} {e : Env} {s : State} {m : MethodId} {args : Array Value} {below : List Frame} {meth : Method} {c : Code} {T0 : State} {locs : List Loc} {Z : State} {a0 : Array Value} {h0 : Heap} (n0 : Nat) (p0 p1 p2 p3 : Int32) (q4 q5 : Int64) (kk : Int32) (bu : Addr) (kb : ClassId) (g0 : Nat → Int32) (X0 : Stand p l e room_1 s m args below meth c T0 locs 1 9) (hx : p.tables.exec = Jvm.exec) (hZ : Z.Warmed39 s.vm) (hw : ∀ d ∈ tables_1, d.before a0 Z = true) (hby : c.code = code) (hml : c.maxLocals = 17) (hown : s.vm.findClass "heslar/KindByCodePinLaw" = some m.cls) (e0 : T0.heap = h0) (N0 : Fr n0 locs) (Z0 : n0 ≤ h0.size) (g_b : n0 ≤ bu) (V_c : GA Z h0 bu kb .char 9 (fun i => .int (g0 i))) (hgG : Rg g0) :
    ∃ (T' : State) (locs' : List Loc) (g' : Nat → Int32) (n : Nat), Stand p l e room_1 s m args below meth c T' locs' 3 45 ∧ Keep h0 T'.heap [bu] ∧ Fr n0 locs' ∧ GA Z T'.heap bu kb .char 9 (fun i => .int (g' i)) ∧ Rg g' ∧ n ≤ 9 ∧ ∀ target, Steps p.tables e below (T'.setTop (mkF m 299 #[.val (.int p0), .val (.int p1), .val (.int p2), .val (.int p3), .val (.long q4), .second, .val (.long q5), .second, .val (.int kk), .val (.ref bu), .val (.int (Int32.ofNat n)), .unset, .unset, .unset, .unset, .unset, .unset] [])) target → Steps p.tables e below (T0.setTop (mkF m 151 #[.val (.int p0), .val (.int p1), .val (.int p2), .val (.int p3), .val (.long q4), .second, .val (.long q5), .second, .val (.int kk), .val (.ref bu), .unset, .unset, .unset, .unset, .unset, .unset, .unset] [])) target := by
  have pre0 : ∀ t, Steps p.tables e below (T0.setTop (mkF m 151 #[.val (.int p0), .val (.int p1), .val (.int p2), .val (.int p3), .val (.long q4), .second, .val (.long q5), .second, .val (.int kk), .val (.ref bu), .unset, .unset, .unset, .unset, .unset, .unset, .unset] [])) t → Steps p.tables e below (T0.setTop (mkF m 151 #[.val (.int p0), .val (.int p1), .val (.int p2), .val (.int p3), .val (.long q4), .second, .val (.long q5), .second, .val (.int kk), .val (.ref bu), .unset, .unset, .unset, .unset, .unset, .unset, .unset] [])) t := fun _ k => k
  obtain ⟨cl1, Ar1, qa1, Sa1, Ha1⟩ := id V_c
  have hin1 : ¬ ((Int32.ofNat 0) < 0 ∨ cl1.slots.size ≤ (Int32.ofNat 0).toNatClampNeg) := own_inb Sa1 (show 0 < 9 by decide) (show 9 < 2147483648 by decide)
  obtain ⟨T2, h2, X2, e2, W2, st2⟩ := stC X0 hx hZ e0 Ar1 (j := (0 : Int32)) hin1 (g := (mkF m 162 #[.val (.int p0), .val (.int p1), .val (.int p2), .val (.int p3), .val (.long q4), .second, .val (.long q5), .second, .val (.int kk), .val (.ref bu), .unset, .unset, .unset, .unset, .unset, .unset, .unset] [(.int (((q4 &&& (255 : Int64)).toInt32).toUInt32.toUInt16.toUInt32.toInt32)), (.int (0 : Int32)), (.ref bu)])) rfl rfl (hb hby at_162)
  obtain ⟨g2, G2, hg2⟩ := own_gset Ar1 qa1 Sa1 Ha1 W2 hgG (own_ci (own_land255 _))
  have Zs2 : n0 ≤ h2.size := Nat.le_trans Z0 (Nat.le_of_eq W2.size.symm)
  have K2 : Keep h0 h2 [bu] := (Keep.refl h0 [bu]).wr W2 (Or.inl (List.mem_of_getElem? (i := 0) rfl))
  have N2 := Fr.snoc X2 N0 g_b
  obtain ⟨cl3, Ar3, qa3, Sa3, Ha3⟩ := id G2
  have hin3 : ¬ ((Int32.ofNat 1) < 0 ∨ cl3.slots.size ≤ (Int32.ofNat 1).toNatClampNeg) := own_inb Sa3 (show 1 < 9 by decide) (show 9 < 2147483648 by decide)
  obtain ⟨T4, h4, X4, e4, W4, st4⟩ := stC X2 hx hZ e2 Ar3 (j := (1 : Int32)) hin3 (g := (mkF m 177 #[.val (.int p0), .val (.int p1), .val (.int p2), .val (.int p3), .val (.long q4), .second, .val (.long q5), .second, .val (.int kk), .val (.ref bu), .unset, .unset, .unset, .unset, .unset, .unset, .unset] [(.int (((((q4.toUInt64 >>> ((8 : Int32) &&& 0x3f).toInt64.toUInt64).toInt64) &&& (255 : Int64)).toInt32).toUInt32.toUInt16.toUInt32.toInt32)), (.int (1 : Int32)), (.ref bu)])) rfl rfl (hb hby at_177)
  obtain ⟨g4, G4, hg4⟩ := own_gset Ar3 qa3 Sa3 Ha3 W4 hg2 (own_ci (own_land255 _))
  have Zs4 : n0 ≤ h4.size := Nat.le_trans Zs2 (Nat.le_of_eq W4.size.symm)
  have K4 : Keep h0 h4 [bu] := K2.wr W4 (Or.inl (List.mem_of_getElem? (i := 0) rfl))
  have N4 := Fr.snoc X4 N2 g_b
  obtain ⟨cl5, Ar5, qa5, Sa5, Ha5⟩ := id G4
  have hin5 : ¬ ((Int32.ofNat 2) < 0 ∨ cl5.slots.size ≤ (Int32.ofNat 2).toNatClampNeg) := own_inb Sa5 (show 2 < 9 by decide) (show 9 < 2147483648 by decide)
  obtain ⟨T6, h6, X6, e6, W6, st6⟩ := stC X4 hx hZ e4 Ar5 (j := (2 : Int32)) hin5 (g := (mkF m 192 #[.val (.int p0), .val (.int p1), .val (.int p2), .val (.int p3), .val (.long q4), .second, .val (.long q5), .second, .val (.int kk), .val (.ref bu), .unset, .unset, .unset, .unset, .unset, .unset, .unset] [(.int (((((q4.toUInt64 >>> ((16 : Int32) &&& 0x3f).toInt64.toUInt64).toInt64) &&& (255 : Int64)).toInt32).toUInt32.toUInt16.toUInt32.toInt32)), (.int (2 : Int32)), (.ref bu)])) rfl rfl (hb hby at_192)
  obtain ⟨g6, G6, hg6⟩ := own_gset Ar5 qa5 Sa5 Ha5 W6 hg4 (own_ci (own_land255 _))
  have Zs6 : n0 ≤ h6.size := Nat.le_trans Zs4 (Nat.le_of_eq W6.size.symm)
  have K6 : Keep h0 h6 [bu] := K4.wr W6 (Or.inl (List.mem_of_getElem? (i := 0) rfl))
  have N6 := Fr.snoc X6 N4 g_b
  obtain ⟨cl7, Ar7, qa7, Sa7, Ha7⟩ := id G6
  have hin7 : ¬ ((Int32.ofNat 3) < 0 ∨ cl7.slots.size ≤ (Int32.ofNat 3).toNatClampNeg) := own_inb Sa7 (show 3 < 9 by decide) (show 9 < 2147483648 by decide)
  obtain ⟨T8, h8, X8, e8, W8, st8⟩ := stC X6 hx hZ e6 Ar7 (j := (3 : Int32)) hin7 (g := (mkF m 207 #[.val (.int p0), .val (.int p1), .val (.int p2), .val (.int p3), .val (.long q4), .second, .val (.long q5), .second, .val (.int kk), .val (.ref bu), .unset, .unset, .unset, .unset, .unset, .unset, .unset] [(.int (((((q4.toUInt64 >>> ((24 : Int32) &&& 0x3f).toInt64.toUInt64).toInt64) &&& (255 : Int64)).toInt32).toUInt32.toUInt16.toUInt32.toInt32)), (.int (3 : Int32)), (.ref bu)])) rfl rfl (hb hby at_207)
  obtain ⟨g8, G8, hg8⟩ := own_gset Ar7 qa7 Sa7 Ha7 W8 hg6 (own_ci (own_land255 _))
  have Zs8 : n0 ≤ h8.size := Nat.le_trans Zs6 (Nat.le_of_eq W8.size.symm)
  have K8 : Keep h0 h8 [bu] := K6.wr W8 (Or.inl (List.mem_of_getElem? (i := 0) rfl))
  have N8 := Fr.snoc X8 N6 g_b
  obtain ⟨cl9, Ar9, qa9, Sa9, Ha9⟩ := id G8
  have hin9 : ¬ ((Int32.ofNat 4) < 0 ∨ cl9.slots.size ≤ (Int32.ofNat 4).toNatClampNeg) := own_inb Sa9 (show 4 < 9 by decide) (show 9 < 2147483648 by decide)
  obtain ⟨T10, h10, X10, e10, W10, st10⟩ := stC X8 hx hZ e8 Ar9 (j := (4 : Int32)) hin9 (g := (mkF m 222 #[.val (.int p0), .val (.int p1), .val (.int p2), .val (.int p3), .val (.long q4), .second, .val (.long q5), .second, .val (.int kk), .val (.ref bu), .unset, .unset, .unset, .unset, .unset, .unset, .unset] [(.int (((((q4.toUInt64 >>> ((32 : Int32) &&& 0x3f).toInt64.toUInt64).toInt64) &&& (255 : Int64)).toInt32).toUInt32.toUInt16.toUInt32.toInt32)), (.int (4 : Int32)), (.ref bu)])) rfl rfl (hb hby at_222)
  obtain ⟨g10, G10, hg10⟩ := own_gset Ar9 qa9 Sa9 Ha9 W10 hg8 (own_ci (own_land255 _))
  have Zs10 : n0 ≤ h10.size := Nat.le_trans Zs8 (Nat.le_of_eq W10.size.symm)
  have K10 : Keep h0 h10 [bu] := K8.wr W10 (Or.inl (List.mem_of_getElem? (i := 0) rfl))
  have N10 := Fr.snoc X10 N8 g_b
  obtain ⟨cl11, Ar11, qa11, Sa11, Ha11⟩ := id G10
  have hin11 : ¬ ((Int32.ofNat 5) < 0 ∨ cl11.slots.size ≤ (Int32.ofNat 5).toNatClampNeg) := own_inb Sa11 (show 5 < 9 by decide) (show 9 < 2147483648 by decide)
  obtain ⟨T12, h12, X12, e12, W12, st12⟩ := stC X10 hx hZ e10 Ar11 (j := (5 : Int32)) hin11 (g := (mkF m 237 #[.val (.int p0), .val (.int p1), .val (.int p2), .val (.int p3), .val (.long q4), .second, .val (.long q5), .second, .val (.int kk), .val (.ref bu), .unset, .unset, .unset, .unset, .unset, .unset, .unset] [(.int (((((q4.toUInt64 >>> ((40 : Int32) &&& 0x3f).toInt64.toUInt64).toInt64) &&& (255 : Int64)).toInt32).toUInt32.toUInt16.toUInt32.toInt32)), (.int (5 : Int32)), (.ref bu)])) rfl rfl (hb hby at_237)
  obtain ⟨g12, G12, hg12⟩ := own_gset Ar11 qa11 Sa11 Ha11 W12 hg10 (own_ci (own_land255 _))
  have Zs12 : n0 ≤ h12.size := Nat.le_trans Zs10 (Nat.le_of_eq W12.size.symm)
  have K12 : Keep h0 h12 [bu] := K10.wr W12 (Or.inl (List.mem_of_getElem? (i := 0) rfl))
  have N12 := Fr.snoc X12 N10 g_b
  obtain ⟨cl13, Ar13, qa13, Sa13, Ha13⟩ := id G12
  have hin13 : ¬ ((Int32.ofNat 6) < 0 ∨ cl13.slots.size ≤ (Int32.ofNat 6).toNatClampNeg) := own_inb Sa13 (show 6 < 9 by decide) (show 9 < 2147483648 by decide)
  obtain ⟨T14, h14, X14, e14, W14, st14⟩ := stC X12 hx hZ e12 Ar13 (j := (6 : Int32)) hin13 (g := (mkF m 253 #[.val (.int p0), .val (.int p1), .val (.int p2), .val (.int p3), .val (.long q4), .second, .val (.long q5), .second, .val (.int kk), .val (.ref bu), .unset, .unset, .unset, .unset, .unset, .unset, .unset] [(.int (((((q4.toUInt64 >>> ((48 : Int32) &&& 0x3f).toInt64.toUInt64).toInt64) &&& (255 : Int64)).toInt32).toUInt32.toUInt16.toUInt32.toInt32)), (.int (6 : Int32)), (.ref bu)])) rfl rfl (hb hby at_253)
  obtain ⟨g14, G14, hg14⟩ := own_gset Ar13 qa13 Sa13 Ha13 W14 hg12 (own_ci (own_land255 _))
  have Zs14 : n0 ≤ h14.size := Nat.le_trans Zs12 (Nat.le_of_eq W14.size.symm)
  have K14 : Keep h0 h14 [bu] := K12.wr W14 (Or.inl (List.mem_of_getElem? (i := 0) rfl))
  have N14 := Fr.snoc X14 N12 g_b
  obtain ⟨cl15, Ar15, qa15, Sa15, Ha15⟩ := id G14
  have hin15 : ¬ ((Int32.ofNat 7) < 0 ∨ cl15.slots.size ≤ (Int32.ofNat 7).toNatClampNeg) := own_inb Sa15 (show 7 < 9 by decide) (show 9 < 2147483648 by decide)
  obtain ⟨T16, h16, X16, e16, W16, st16⟩ := stC X14 hx hZ e14 Ar15 (j := (7 : Int32)) hin15 (g := (mkF m 269 #[.val (.int p0), .val (.int p1), .val (.int p2), .val (.int p3), .val (.long q4), .second, .val (.long q5), .second, .val (.int kk), .val (.ref bu), .unset, .unset, .unset, .unset, .unset, .unset, .unset] [(.int (((((q4.toUInt64 >>> ((56 : Int32) &&& 0x3f).toInt64.toUInt64).toInt64) &&& (255 : Int64)).toInt32).toUInt32.toUInt16.toUInt32.toInt32)), (.int (7 : Int32)), (.ref bu)])) rfl rfl (hb hby at_269)
  obtain ⟨g16, G16, hg16⟩ := own_gset Ar15 qa15 Sa15 Ha15 W16 hg14 (own_ci (own_land255 _))
  have Zs16 : n0 ≤ h16.size := Nat.le_trans Zs14 (Nat.le_of_eq W16.size.symm)
  have K16 : Keep h0 h16 [bu] := K14.wr W16 (Or.inl (List.mem_of_getElem? (i := 0) rfl))
  have N16 := Fr.snoc X16 N14 g_b
  obtain ⟨cl17, Ar17, qa17, Sa17, Ha17⟩ := id G16
  have hin17 : ¬ ((Int32.ofNat 8) < 0 ∨ cl17.slots.size ≤ (Int32.ofNat 8).toNatClampNeg) := own_inb Sa17 (show 8 < 9 by decide) (show 9 < 2147483648 by decide)
  obtain ⟨T18, h18, X18, e18, W18, st18⟩ := stC X16 hx hZ e16 Ar17 (j := (8 : Int32)) hin17 (g := (mkF m 282 #[.val (.int p0), .val (.int p1), .val (.int p2), .val (.int p3), .val (.long q4), .second, .val (.long q5), .second, .val (.int kk), .val (.ref bu), .unset, .unset, .unset, .unset, .unset, .unset, .unset] [(.int (((q5 &&& (255 : Int64)).toInt32).toUInt32.toUInt16.toUInt32.toInt32)), (.int (8 : Int32)), (.ref bu)])) rfl rfl (hb hby at_282)
  obtain ⟨g18, G18, hg18⟩ := own_gset Ar17 qa17 Sa17 Ha17 W18 hg16 (own_ci (own_land255 _))
  have Zs18 : n0 ≤ h18.size := Nat.le_trans Zs16 (Nat.le_of_eq W18.size.symm)
  have K18 : Keep h0 h18 [bu] := K16.wr W18 (Or.inl (List.mem_of_getElem? (i := 0) rfl))
  have N18 := Fr.snoc X18 N16 g_b
  obtain ⟨n, hn, en⟩ := own_lrem10 (((q5.toUInt64 >>> ((8 : Int32) &&& 0x3f).toInt64.toUInt64).toInt64))
  have pre19 : ∀ t, Steps p.tables e below (T18.setTop (mkF m 299 #[.val (.int p0), .val (.int p1), .val (.int p2), .val (.int p3), .val (.long q4), .second, .val (.long q5), .second, .val (.int kk), .val (.ref bu), .val (.int (Int32.ofNat n)), .unset, .unset, .unset, .unset, .unset, .unset] [])) t → Steps p.tables e below (T0.setTop (mkF m 151 #[.val (.int p0), .val (.int p1), .val (.int p2), .val (.int p3), .val (.long q4), .second, .val (.long q5), .second, .val (.int kk), .val (.ref bu), .unset, .unset, .unset, .unset, .unset, .unset, .unset] [])) t := by
    intro t kt
    refine pre0 t ?_
    show Steps p.tables e below (T0.setTop (mkF m 151 #[.val (.int p0), .val (.int p1), .val (.int p2), .val (.int p3), .val (.long q4), .second, .val (.long q5), .second, .val (.int kk), .val (.ref bu), .unset, .unset, .unset, .unset, .unset, .unset, .unset] [])) _
    refine XS.aload X0.here hx rfl (hb hby at_151) rfl rfl ?_
    show Steps p.tables e below (T0.setTop (mkF m 153 #[.val (.int p0), .val (.int p1), .val (.int p2), .val (.int p3), .val (.long q4), .second, .val (.long q5), .second, .val (.int kk), .val (.ref bu), .unset, .unset, .unset, .unset, .unset, .unset, .unset] [(.ref bu)])) _
    refine XS.iconst X0.here hx rfl (hb hby at_153) ?_
    show Steps p.tables e below (T0.setTop (mkF m 154 #[.val (.int p0), .val (.int p1), .val (.int p2), .val (.int p3), .val (.long q4), .second, .val (.long q5), .second, .val (.int kk), .val (.ref bu), .unset, .unset, .unset, .unset, .unset, .unset, .unset] [(.int (0 : Int32)), (.ref bu)])) _
    refine XS.lload X0.here hx rfl (hb hby at_154) rfl ?_
    show Steps p.tables e below (T0.setTop (mkF m 156 #[.val (.int p0), .val (.int p1), .val (.int p2), .val (.int p3), .val (.long q4), .second, .val (.long q5), .second, .val (.int kk), .val (.ref bu), .unset, .unset, .unset, .unset, .unset, .unset, .unset] [(.long q4), (.int (0 : Int32)), (.ref bu)])) _
    refine X0.ldc2Long hx hown (mvT hZ (hw _ (List.mem_of_getElem? (i := 113) rfl))) (g := (mkF m 156 #[.val (.int p0), .val (.int p1), .val (.int p2), .val (.int p3), .val (.long q4), .second, .val (.long q5), .second, .val (.int kk), .val (.ref bu), .unset, .unset, .unset, .unset, .unset, .unset, .unset] [(.long q4), (.int (0 : Int32)), (.ref bu)])) rfl (hb hby at_156) _ ?_
    show Steps p.tables e below (T0.setTop (mkF m 159 #[.val (.int p0), .val (.int p1), .val (.int p2), .val (.int p3), .val (.long q4), .second, .val (.long q5), .second, .val (.int kk), .val (.ref bu), .unset, .unset, .unset, .unset, .unset, .unset, .unset] [(.long (255 : Int64)), (.long q4), (.int (0 : Int32)), (.ref bu)])) _
    refine XS.land X0.here hx rfl (hb hby at_159) rfl ?_
    show Steps p.tables e below (T0.setTop (mkF m 160 #[.val (.int p0), .val (.int p1), .val (.int p2), .val (.int p3), .val (.long q4), .second, .val (.long q5), .second, .val (.int kk), .val (.ref bu), .unset, .unset, .unset, .unset, .unset, .unset, .unset] [(.long (q4 &&& (255 : Int64))), (.int (0 : Int32)), (.ref bu)])) _
    refine XS.l2i X0.here hx rfl (hb hby at_160) rfl ?_
    show Steps p.tables e below (T0.setTop (mkF m 161 #[.val (.int p0), .val (.int p1), .val (.int p2), .val (.int p3), .val (.long q4), .second, .val (.long q5), .second, .val (.int kk), .val (.ref bu), .unset, .unset, .unset, .unset, .unset, .unset, .unset] [(.int ((q4 &&& (255 : Int64)).toInt32)), (.int (0 : Int32)), (.ref bu)])) _
    refine XS.i2c X0.here hx rfl (hb hby at_161) rfl ?_
    show Steps p.tables e below (T0.setTop (mkF m 162 #[.val (.int p0), .val (.int p1), .val (.int p2), .val (.int p3), .val (.long q4), .second, .val (.long q5), .second, .val (.int kk), .val (.ref bu), .unset, .unset, .unset, .unset, .unset, .unset, .unset] [(.int (((q4 &&& (255 : Int64)).toInt32).toUInt32.toUInt16.toUInt32.toInt32)), (.int (0 : Int32)), (.ref bu)])) _
    refine st2 _ ?_
    show Steps p.tables e below (T2.setTop (mkF m 163 #[.val (.int p0), .val (.int p1), .val (.int p2), .val (.int p3), .val (.long q4), .second, .val (.long q5), .second, .val (.int kk), .val (.ref bu), .unset, .unset, .unset, .unset, .unset, .unset, .unset] [])) _
    refine XS.aload X2.here hx rfl (hb hby at_163) rfl rfl ?_
    show Steps p.tables e below (T2.setTop (mkF m 165 #[.val (.int p0), .val (.int p1), .val (.int p2), .val (.int p3), .val (.long q4), .second, .val (.long q5), .second, .val (.int kk), .val (.ref bu), .unset, .unset, .unset, .unset, .unset, .unset, .unset] [(.ref bu)])) _
    refine XS.iconst X2.here hx rfl (hb hby at_165) ?_
    show Steps p.tables e below (T2.setTop (mkF m 166 #[.val (.int p0), .val (.int p1), .val (.int p2), .val (.int p3), .val (.long q4), .second, .val (.long q5), .second, .val (.int kk), .val (.ref bu), .unset, .unset, .unset, .unset, .unset, .unset, .unset] [(.int (1 : Int32)), (.ref bu)])) _
    refine XS.lload X2.here hx rfl (hb hby at_166) rfl ?_
    show Steps p.tables e below (T2.setTop (mkF m 168 #[.val (.int p0), .val (.int p1), .val (.int p2), .val (.int p3), .val (.long q4), .second, .val (.long q5), .second, .val (.int kk), .val (.ref bu), .unset, .unset, .unset, .unset, .unset, .unset, .unset] [(.long q4), (.int (1 : Int32)), (.ref bu)])) _
    refine XS.bipush X2.here hx rfl (hb hby at_168) ?_
    show Steps p.tables e below (T2.setTop (mkF m 170 #[.val (.int p0), .val (.int p1), .val (.int p2), .val (.int p3), .val (.long q4), .second, .val (.long q5), .second, .val (.int kk), .val (.ref bu), .unset, .unset, .unset, .unset, .unset, .unset, .unset] [(.int (8 : Int32)), (.long q4), (.int (1 : Int32)), (.ref bu)])) _
    refine XS.lushr X2.here hx rfl (hb hby at_170) rfl ?_
    show Steps p.tables e below (T2.setTop (mkF m 171 #[.val (.int p0), .val (.int p1), .val (.int p2), .val (.int p3), .val (.long q4), .second, .val (.long q5), .second, .val (.int kk), .val (.ref bu), .unset, .unset, .unset, .unset, .unset, .unset, .unset] [(.long ((q4.toUInt64 >>> ((8 : Int32) &&& 0x3f).toInt64.toUInt64).toInt64)), (.int (1 : Int32)), (.ref bu)])) _
    refine X2.ldc2Long hx hown (mvT hZ (hw _ (List.mem_of_getElem? (i := 113) rfl))) (g := (mkF m 171 #[.val (.int p0), .val (.int p1), .val (.int p2), .val (.int p3), .val (.long q4), .second, .val (.long q5), .second, .val (.int kk), .val (.ref bu), .unset, .unset, .unset, .unset, .unset, .unset, .unset] [(.long ((q4.toUInt64 >>> ((8 : Int32) &&& 0x3f).toInt64.toUInt64).toInt64)), (.int (1 : Int32)), (.ref bu)])) rfl (hb hby at_171) _ ?_
    show Steps p.tables e below (T2.setTop (mkF m 174 #[.val (.int p0), .val (.int p1), .val (.int p2), .val (.int p3), .val (.long q4), .second, .val (.long q5), .second, .val (.int kk), .val (.ref bu), .unset, .unset, .unset, .unset, .unset, .unset, .unset] [(.long (255 : Int64)), (.long ((q4.toUInt64 >>> ((8 : Int32) &&& 0x3f).toInt64.toUInt64).toInt64)), (.int (1 : Int32)), (.ref bu)])) _
    refine XS.land X2.here hx rfl (hb hby at_174) rfl ?_
    show Steps p.tables e below (T2.setTop (mkF m 175 #[.val (.int p0), .val (.int p1), .val (.int p2), .val (.int p3), .val (.long q4), .second, .val (.long q5), .second, .val (.int kk), .val (.ref bu), .unset, .unset, .unset, .unset, .unset, .unset, .unset] [(.long (((q4.toUInt64 >>> ((8 : Int32) &&& 0x3f).toInt64.toUInt64).toInt64) &&& (255 : Int64))), (.int (1 : Int32)), (.ref bu)])) _
    refine XS.l2i X2.here hx rfl (hb hby at_175) rfl ?_
    show Steps p.tables e below (T2.setTop (mkF m 176 #[.val (.int p0), .val (.int p1), .val (.int p2), .val (.int p3), .val (.long q4), .second, .val (.long q5), .second, .val (.int kk), .val (.ref bu), .unset, .unset, .unset, .unset, .unset, .unset, .unset] [(.int ((((q4.toUInt64 >>> ((8 : Int32) &&& 0x3f).toInt64.toUInt64).toInt64) &&& (255 : Int64)).toInt32)), (.int (1 : Int32)), (.ref bu)])) _
    refine XS.i2c X2.here hx rfl (hb hby at_176) rfl ?_
    show Steps p.tables e below (T2.setTop (mkF m 177 #[.val (.int p0), .val (.int p1), .val (.int p2), .val (.int p3), .val (.long q4), .second, .val (.long q5), .second, .val (.int kk), .val (.ref bu), .unset, .unset, .unset, .unset, .unset, .unset, .unset] [(.int (((((q4.toUInt64 >>> ((8 : Int32) &&& 0x3f).toInt64.toUInt64).toInt64) &&& (255 : Int64)).toInt32).toUInt32.toUInt16.toUInt32.toInt32)), (.int (1 : Int32)), (.ref bu)])) _
    refine st4 _ ?_
    show Steps p.tables e below (T4.setTop (mkF m 178 #[.val (.int p0), .val (.int p1), .val (.int p2), .val (.int p3), .val (.long q4), .second, .val (.long q5), .second, .val (.int kk), .val (.ref bu), .unset, .unset, .unset, .unset, .unset, .unset, .unset] [])) _
    refine XS.aload X4.here hx rfl (hb hby at_178) rfl rfl ?_
    show Steps p.tables e below (T4.setTop (mkF m 180 #[.val (.int p0), .val (.int p1), .val (.int p2), .val (.int p3), .val (.long q4), .second, .val (.long q5), .second, .val (.int kk), .val (.ref bu), .unset, .unset, .unset, .unset, .unset, .unset, .unset] [(.ref bu)])) _
    refine XS.iconst X4.here hx rfl (hb hby at_180) ?_
    show Steps p.tables e below (T4.setTop (mkF m 181 #[.val (.int p0), .val (.int p1), .val (.int p2), .val (.int p3), .val (.long q4), .second, .val (.long q5), .second, .val (.int kk), .val (.ref bu), .unset, .unset, .unset, .unset, .unset, .unset, .unset] [(.int (2 : Int32)), (.ref bu)])) _
    refine XS.lload X4.here hx rfl (hb hby at_181) rfl ?_
    show Steps p.tables e below (T4.setTop (mkF m 183 #[.val (.int p0), .val (.int p1), .val (.int p2), .val (.int p3), .val (.long q4), .second, .val (.long q5), .second, .val (.int kk), .val (.ref bu), .unset, .unset, .unset, .unset, .unset, .unset, .unset] [(.long q4), (.int (2 : Int32)), (.ref bu)])) _
    refine XS.bipush X4.here hx rfl (hb hby at_183) ?_
    show Steps p.tables e below (T4.setTop (mkF m 185 #[.val (.int p0), .val (.int p1), .val (.int p2), .val (.int p3), .val (.long q4), .second, .val (.long q5), .second, .val (.int kk), .val (.ref bu), .unset, .unset, .unset, .unset, .unset, .unset, .unset] [(.int (16 : Int32)), (.long q4), (.int (2 : Int32)), (.ref bu)])) _
    refine XS.lushr X4.here hx rfl (hb hby at_185) rfl ?_
    show Steps p.tables e below (T4.setTop (mkF m 186 #[.val (.int p0), .val (.int p1), .val (.int p2), .val (.int p3), .val (.long q4), .second, .val (.long q5), .second, .val (.int kk), .val (.ref bu), .unset, .unset, .unset, .unset, .unset, .unset, .unset] [(.long ((q4.toUInt64 >>> ((16 : Int32) &&& 0x3f).toInt64.toUInt64).toInt64)), (.int (2 : Int32)), (.ref bu)])) _
    refine X4.ldc2Long hx hown (mvT hZ (hw _ (List.mem_of_getElem? (i := 113) rfl))) (g := (mkF m 186 #[.val (.int p0), .val (.int p1), .val (.int p2), .val (.int p3), .val (.long q4), .second, .val (.long q5), .second, .val (.int kk), .val (.ref bu), .unset, .unset, .unset, .unset, .unset, .unset, .unset] [(.long ((q4.toUInt64 >>> ((16 : Int32) &&& 0x3f).toInt64.toUInt64).toInt64)), (.int (2 : Int32)), (.ref bu)])) rfl (hb hby at_186) _ ?_
    show Steps p.tables e below (T4.setTop (mkF m 189 #[.val (.int p0), .val (.int p1), .val (.int p2), .val (.int p3), .val (.long q4), .second, .val (.long q5), .second, .val (.int kk), .val (.ref bu), .unset, .unset, .unset, .unset, .unset, .unset, .unset] [(.long (255 : Int64)), (.long ((q4.toUInt64 >>> ((16 : Int32) &&& 0x3f).toInt64.toUInt64).toInt64)), (.int (2 : Int32)), (.ref bu)])) _
    refine XS.land X4.here hx rfl (hb hby at_189) rfl ?_
    show Steps p.tables e below (T4.setTop (mkF m 190 #[.val (.int p0), .val (.int p1), .val (.int p2), .val (.int p3), .val (.long q4), .second, .val (.long q5), .second, .val (.int kk), .val (.ref bu), .unset, .unset, .unset, .unset, .unset, .unset, .unset] [(.long (((q4.toUInt64 >>> ((16 : Int32) &&& 0x3f).toInt64.toUInt64).toInt64) &&& (255 : Int64))), (.int (2 : Int32)), (.ref bu)])) _
    refine XS.l2i X4.here hx rfl (hb hby at_190) rfl ?_
    show Steps p.tables e below (T4.setTop (mkF m 191 #[.val (.int p0), .val (.int p1), .val (.int p2), .val (.int p3), .val (.long q4), .second, .val (.long q5), .second, .val (.int kk), .val (.ref bu), .unset, .unset, .unset, .unset, .unset, .unset, .unset] [(.int ((((q4.toUInt64 >>> ((16 : Int32) &&& 0x3f).toInt64.toUInt64).toInt64) &&& (255 : Int64)).toInt32)), (.int (2 : Int32)), (.ref bu)])) _
    refine XS.i2c X4.here hx rfl (hb hby at_191) rfl ?_
    show Steps p.tables e below (T4.setTop (mkF m 192 #[.val (.int p0), .val (.int p1), .val (.int p2), .val (.int p3), .val (.long q4), .second, .val (.long q5), .second, .val (.int kk), .val (.ref bu), .unset, .unset, .unset, .unset, .unset, .unset, .unset] [(.int (((((q4.toUInt64 >>> ((16 : Int32) &&& 0x3f).toInt64.toUInt64).toInt64) &&& (255 : Int64)).toInt32).toUInt32.toUInt16.toUInt32.toInt32)), (.int (2 : Int32)), (.ref bu)])) _
    refine st6 _ ?_
    show Steps p.tables e below (T6.setTop (mkF m 193 #[.val (.int p0), .val (.int p1), .val (.int p2), .val (.int p3), .val (.long q4), .second, .val (.long q5), .second, .val (.int kk), .val (.ref bu), .unset, .unset, .unset, .unset, .unset, .unset, .unset] [])) _
    refine XS.aload X6.here hx rfl (hb hby at_193) rfl rfl ?_
    show Steps p.tables e below (T6.setTop (mkF m 195 #[.val (.int p0), .val (.int p1), .val (.int p2), .val (.int p3), .val (.long q4), .second, .val (.long q5), .second, .val (.int kk), .val (.ref bu), .unset, .unset, .unset, .unset, .unset, .unset, .unset] [(.ref bu)])) _
    refine XS.iconst X6.here hx rfl (hb hby at_195) ?_
    show Steps p.tables e below (T6.setTop (mkF m 196 #[.val (.int p0), .val (.int p1), .val (.int p2), .val (.int p3), .val (.long q4), .second, .val (.long q5), .second, .val (.int kk), .val (.ref bu), .unset, .unset, .unset, .unset, .unset, .unset, .unset] [(.int (3 : Int32)), (.ref bu)])) _
    refine XS.lload X6.here hx rfl (hb hby at_196) rfl ?_
    show Steps p.tables e below (T6.setTop (mkF m 198 #[.val (.int p0), .val (.int p1), .val (.int p2), .val (.int p3), .val (.long q4), .second, .val (.long q5), .second, .val (.int kk), .val (.ref bu), .unset, .unset, .unset, .unset, .unset, .unset, .unset] [(.long q4), (.int (3 : Int32)), (.ref bu)])) _
    refine XS.bipush X6.here hx rfl (hb hby at_198) ?_
    show Steps p.tables e below (T6.setTop (mkF m 200 #[.val (.int p0), .val (.int p1), .val (.int p2), .val (.int p3), .val (.long q4), .second, .val (.long q5), .second, .val (.int kk), .val (.ref bu), .unset, .unset, .unset, .unset, .unset, .unset, .unset] [(.int (24 : Int32)), (.long q4), (.int (3 : Int32)), (.ref bu)])) _
    refine XS.lushr X6.here hx rfl (hb hby at_200) rfl ?_
    show Steps p.tables e below (T6.setTop (mkF m 201 #[.val (.int p0), .val (.int p1), .val (.int p2), .val (.int p3), .val (.long q4), .second, .val (.long q5), .second, .val (.int kk), .val (.ref bu), .unset, .unset, .unset, .unset, .unset, .unset, .unset] [(.long ((q4.toUInt64 >>> ((24 : Int32) &&& 0x3f).toInt64.toUInt64).toInt64)), (.int (3 : Int32)), (.ref bu)])) _
    refine X6.ldc2Long hx hown (mvT hZ (hw _ (List.mem_of_getElem? (i := 113) rfl))) (g := (mkF m 201 #[.val (.int p0), .val (.int p1), .val (.int p2), .val (.int p3), .val (.long q4), .second, .val (.long q5), .second, .val (.int kk), .val (.ref bu), .unset, .unset, .unset, .unset, .unset, .unset, .unset] [(.long ((q4.toUInt64 >>> ((24 : Int32) &&& 0x3f).toInt64.toUInt64).toInt64)), (.int (3 : Int32)), (.ref bu)])) rfl (hb hby at_201) _ ?_
    show Steps p.tables e below (T6.setTop (mkF m 204 #[.val (.int p0), .val (.int p1), .val (.int p2), .val (.int p3), .val (.long q4), .second, .val (.long q5), .second, .val (.int kk), .val (.ref bu), .unset, .unset, .unset, .unset, .unset, .unset, .unset] [(.long (255 : Int64)), (.long ((q4.toUInt64 >>> ((24 : Int32) &&& 0x3f).toInt64.toUInt64).toInt64)), (.int (3 : Int32)), (.ref bu)])) _
    refine XS.land X6.here hx rfl (hb hby at_204) rfl ?_
    show Steps p.tables e below (T6.setTop (mkF m 205 #[.val (.int p0), .val (.int p1), .val (.int p2), .val (.int p3), .val (.long q4), .second, .val (.long q5), .second, .val (.int kk), .val (.ref bu), .unset, .unset, .unset, .unset, .unset, .unset, .unset] [(.long (((q4.toUInt64 >>> ((24 : Int32) &&& 0x3f).toInt64.toUInt64).toInt64) &&& (255 : Int64))), (.int (3 : Int32)), (.ref bu)])) _
    refine XS.l2i X6.here hx rfl (hb hby at_205) rfl ?_
    show Steps p.tables e below (T6.setTop (mkF m 206 #[.val (.int p0), .val (.int p1), .val (.int p2), .val (.int p3), .val (.long q4), .second, .val (.long q5), .second, .val (.int kk), .val (.ref bu), .unset, .unset, .unset, .unset, .unset, .unset, .unset] [(.int ((((q4.toUInt64 >>> ((24 : Int32) &&& 0x3f).toInt64.toUInt64).toInt64) &&& (255 : Int64)).toInt32)), (.int (3 : Int32)), (.ref bu)])) _
    refine XS.i2c X6.here hx rfl (hb hby at_206) rfl ?_
    show Steps p.tables e below (T6.setTop (mkF m 207 #[.val (.int p0), .val (.int p1), .val (.int p2), .val (.int p3), .val (.long q4), .second, .val (.long q5), .second, .val (.int kk), .val (.ref bu), .unset, .unset, .unset, .unset, .unset, .unset, .unset] [(.int (((((q4.toUInt64 >>> ((24 : Int32) &&& 0x3f).toInt64.toUInt64).toInt64) &&& (255 : Int64)).toInt32).toUInt32.toUInt16.toUInt32.toInt32)), (.int (3 : Int32)), (.ref bu)])) _
    refine st8 _ ?_
    show Steps p.tables e below (T8.setTop (mkF m 208 #[.val (.int p0), .val (.int p1), .val (.int p2), .val (.int p3), .val (.long q4), .second, .val (.long q5), .second, .val (.int kk), .val (.ref bu), .unset, .unset, .unset, .unset, .unset, .unset, .unset] [])) _
    refine XS.aload X8.here hx rfl (hb hby at_208) rfl rfl ?_
    show Steps p.tables e below (T8.setTop (mkF m 210 #[.val (.int p0), .val (.int p1), .val (.int p2), .val (.int p3), .val (.long q4), .second, .val (.long q5), .second, .val (.int kk), .val (.ref bu), .unset, .unset, .unset, .unset, .unset, .unset, .unset] [(.ref bu)])) _
    refine XS.iconst X8.here hx rfl (hb hby at_210) ?_
    show Steps p.tables e below (T8.setTop (mkF m 211 #[.val (.int p0), .val (.int p1), .val (.int p2), .val (.int p3), .val (.long q4), .second, .val (.long q5), .second, .val (.int kk), .val (.ref bu), .unset, .unset, .unset, .unset, .unset, .unset, .unset] [(.int (4 : Int32)), (.ref bu)])) _
    refine XS.lload X8.here hx rfl (hb hby at_211) rfl ?_
    show Steps p.tables e below (T8.setTop (mkF m 213 #[.val (.int p0), .val (.int p1), .val (.int p2), .val (.int p3), .val (.long q4), .second, .val (.long q5), .second, .val (.int kk), .val (.ref bu), .unset, .unset, .unset, .unset, .unset, .unset, .unset] [(.long q4), (.int (4 : Int32)), (.ref bu)])) _
    refine XS.bipush X8.here hx rfl (hb hby at_213) ?_
    show Steps p.tables e below (T8.setTop (mkF m 215 #[.val (.int p0), .val (.int p1), .val (.int p2), .val (.int p3), .val (.long q4), .second, .val (.long q5), .second, .val (.int kk), .val (.ref bu), .unset, .unset, .unset, .unset, .unset, .unset, .unset] [(.int (32 : Int32)), (.long q4), (.int (4 : Int32)), (.ref bu)])) _
    refine XS.lushr X8.here hx rfl (hb hby at_215) rfl ?_
    show Steps p.tables e below (T8.setTop (mkF m 216 #[.val (.int p0), .val (.int p1), .val (.int p2), .val (.int p3), .val (.long q4), .second, .val (.long q5), .second, .val (.int kk), .val (.ref bu), .unset, .unset, .unset, .unset, .unset, .unset, .unset] [(.long ((q4.toUInt64 >>> ((32 : Int32) &&& 0x3f).toInt64.toUInt64).toInt64)), (.int (4 : Int32)), (.ref bu)])) _
    refine X8.ldc2Long hx hown (mvT hZ (hw _ (List.mem_of_getElem? (i := 113) rfl))) (g := (mkF m 216 #[.val (.int p0), .val (.int p1), .val (.int p2), .val (.int p3), .val (.long q4), .second, .val (.long q5), .second, .val (.int kk), .val (.ref bu), .unset, .unset, .unset, .unset, .unset, .unset, .unset] [(.long ((q4.toUInt64 >>> ((32 : Int32) &&& 0x3f).toInt64.toUInt64).toInt64)), (.int (4 : Int32)), (.ref bu)])) rfl (hb hby at_216) _ ?_
    show Steps p.tables e below (T8.setTop (mkF m 219 #[.val (.int p0), .val (.int p1), .val (.int p2), .val (.int p3), .val (.long q4), .second, .val (.long q5), .second, .val (.int kk), .val (.ref bu), .unset, .unset, .unset, .unset, .unset, .unset, .unset] [(.long (255 : Int64)), (.long ((q4.toUInt64 >>> ((32 : Int32) &&& 0x3f).toInt64.toUInt64).toInt64)), (.int (4 : Int32)), (.ref bu)])) _
    refine XS.land X8.here hx rfl (hb hby at_219) rfl ?_
    show Steps p.tables e below (T8.setTop (mkF m 220 #[.val (.int p0), .val (.int p1), .val (.int p2), .val (.int p3), .val (.long q4), .second, .val (.long q5), .second, .val (.int kk), .val (.ref bu), .unset, .unset, .unset, .unset, .unset, .unset, .unset] [(.long (((q4.toUInt64 >>> ((32 : Int32) &&& 0x3f).toInt64.toUInt64).toInt64) &&& (255 : Int64))), (.int (4 : Int32)), (.ref bu)])) _
    refine XS.l2i X8.here hx rfl (hb hby at_220) rfl ?_
    show Steps p.tables e below (T8.setTop (mkF m 221 #[.val (.int p0), .val (.int p1), .val (.int p2), .val (.int p3), .val (.long q4), .second, .val (.long q5), .second, .val (.int kk), .val (.ref bu), .unset, .unset, .unset, .unset, .unset, .unset, .unset] [(.int ((((q4.toUInt64 >>> ((32 : Int32) &&& 0x3f).toInt64.toUInt64).toInt64) &&& (255 : Int64)).toInt32)), (.int (4 : Int32)), (.ref bu)])) _
    refine XS.i2c X8.here hx rfl (hb hby at_221) rfl ?_
    show Steps p.tables e below (T8.setTop (mkF m 222 #[.val (.int p0), .val (.int p1), .val (.int p2), .val (.int p3), .val (.long q4), .second, .val (.long q5), .second, .val (.int kk), .val (.ref bu), .unset, .unset, .unset, .unset, .unset, .unset, .unset] [(.int (((((q4.toUInt64 >>> ((32 : Int32) &&& 0x3f).toInt64.toUInt64).toInt64) &&& (255 : Int64)).toInt32).toUInt32.toUInt16.toUInt32.toInt32)), (.int (4 : Int32)), (.ref bu)])) _
    refine st10 _ ?_
    show Steps p.tables e below (T10.setTop (mkF m 223 #[.val (.int p0), .val (.int p1), .val (.int p2), .val (.int p3), .val (.long q4), .second, .val (.long q5), .second, .val (.int kk), .val (.ref bu), .unset, .unset, .unset, .unset, .unset, .unset, .unset] [])) _
    refine XS.aload X10.here hx rfl (hb hby at_223) rfl rfl ?_
    show Steps p.tables e below (T10.setTop (mkF m 225 #[.val (.int p0), .val (.int p1), .val (.int p2), .val (.int p3), .val (.long q4), .second, .val (.long q5), .second, .val (.int kk), .val (.ref bu), .unset, .unset, .unset, .unset, .unset, .unset, .unset] [(.ref bu)])) _
    refine XS.iconst X10.here hx rfl (hb hby at_225) ?_
    show Steps p.tables e below (T10.setTop (mkF m 226 #[.val (.int p0), .val (.int p1), .val (.int p2), .val (.int p3), .val (.long q4), .second, .val (.long q5), .second, .val (.int kk), .val (.ref bu), .unset, .unset, .unset, .unset, .unset, .unset, .unset] [(.int (5 : Int32)), (.ref bu)])) _
    refine XS.lload X10.here hx rfl (hb hby at_226) rfl ?_
    show Steps p.tables e below (T10.setTop (mkF m 228 #[.val (.int p0), .val (.int p1), .val (.int p2), .val (.int p3), .val (.long q4), .second, .val (.long q5), .second, .val (.int kk), .val (.ref bu), .unset, .unset, .unset, .unset, .unset, .unset, .unset] [(.long q4), (.int (5 : Int32)), (.ref bu)])) _
    refine XS.bipush X10.here hx rfl (hb hby at_228) ?_
    show Steps p.tables e below (T10.setTop (mkF m 230 #[.val (.int p0), .val (.int p1), .val (.int p2), .val (.int p3), .val (.long q4), .second, .val (.long q5), .second, .val (.int kk), .val (.ref bu), .unset, .unset, .unset, .unset, .unset, .unset, .unset] [(.int (40 : Int32)), (.long q4), (.int (5 : Int32)), (.ref bu)])) _
    refine XS.lushr X10.here hx rfl (hb hby at_230) rfl ?_
    show Steps p.tables e below (T10.setTop (mkF m 231 #[.val (.int p0), .val (.int p1), .val (.int p2), .val (.int p3), .val (.long q4), .second, .val (.long q5), .second, .val (.int kk), .val (.ref bu), .unset, .unset, .unset, .unset, .unset, .unset, .unset] [(.long ((q4.toUInt64 >>> ((40 : Int32) &&& 0x3f).toInt64.toUInt64).toInt64)), (.int (5 : Int32)), (.ref bu)])) _
    refine X10.ldc2Long hx hown (mvT hZ (hw _ (List.mem_of_getElem? (i := 113) rfl))) (g := (mkF m 231 #[.val (.int p0), .val (.int p1), .val (.int p2), .val (.int p3), .val (.long q4), .second, .val (.long q5), .second, .val (.int kk), .val (.ref bu), .unset, .unset, .unset, .unset, .unset, .unset, .unset] [(.long ((q4.toUInt64 >>> ((40 : Int32) &&& 0x3f).toInt64.toUInt64).toInt64)), (.int (5 : Int32)), (.ref bu)])) rfl (hb hby at_231) _ ?_
    show Steps p.tables e below (T10.setTop (mkF m 234 #[.val (.int p0), .val (.int p1), .val (.int p2), .val (.int p3), .val (.long q4), .second, .val (.long q5), .second, .val (.int kk), .val (.ref bu), .unset, .unset, .unset, .unset, .unset, .unset, .unset] [(.long (255 : Int64)), (.long ((q4.toUInt64 >>> ((40 : Int32) &&& 0x3f).toInt64.toUInt64).toInt64)), (.int (5 : Int32)), (.ref bu)])) _
    refine XS.land X10.here hx rfl (hb hby at_234) rfl ?_
    show Steps p.tables e below (T10.setTop (mkF m 235 #[.val (.int p0), .val (.int p1), .val (.int p2), .val (.int p3), .val (.long q4), .second, .val (.long q5), .second, .val (.int kk), .val (.ref bu), .unset, .unset, .unset, .unset, .unset, .unset, .unset] [(.long (((q4.toUInt64 >>> ((40 : Int32) &&& 0x3f).toInt64.toUInt64).toInt64) &&& (255 : Int64))), (.int (5 : Int32)), (.ref bu)])) _
    refine XS.l2i X10.here hx rfl (hb hby at_235) rfl ?_
    show Steps p.tables e below (T10.setTop (mkF m 236 #[.val (.int p0), .val (.int p1), .val (.int p2), .val (.int p3), .val (.long q4), .second, .val (.long q5), .second, .val (.int kk), .val (.ref bu), .unset, .unset, .unset, .unset, .unset, .unset, .unset] [(.int ((((q4.toUInt64 >>> ((40 : Int32) &&& 0x3f).toInt64.toUInt64).toInt64) &&& (255 : Int64)).toInt32)), (.int (5 : Int32)), (.ref bu)])) _
    refine XS.i2c X10.here hx rfl (hb hby at_236) rfl ?_
    show Steps p.tables e below (T10.setTop (mkF m 237 #[.val (.int p0), .val (.int p1), .val (.int p2), .val (.int p3), .val (.long q4), .second, .val (.long q5), .second, .val (.int kk), .val (.ref bu), .unset, .unset, .unset, .unset, .unset, .unset, .unset] [(.int (((((q4.toUInt64 >>> ((40 : Int32) &&& 0x3f).toInt64.toUInt64).toInt64) &&& (255 : Int64)).toInt32).toUInt32.toUInt16.toUInt32.toInt32)), (.int (5 : Int32)), (.ref bu)])) _
    refine st12 _ ?_
    show Steps p.tables e below (T12.setTop (mkF m 238 #[.val (.int p0), .val (.int p1), .val (.int p2), .val (.int p3), .val (.long q4), .second, .val (.long q5), .second, .val (.int kk), .val (.ref bu), .unset, .unset, .unset, .unset, .unset, .unset, .unset] [])) _
    refine XS.aload X12.here hx rfl (hb hby at_238) rfl rfl ?_
    show Steps p.tables e below (T12.setTop (mkF m 240 #[.val (.int p0), .val (.int p1), .val (.int p2), .val (.int p3), .val (.long q4), .second, .val (.long q5), .second, .val (.int kk), .val (.ref bu), .unset, .unset, .unset, .unset, .unset, .unset, .unset] [(.ref bu)])) _
    refine XS.bipush X12.here hx rfl (hb hby at_240) ?_
    show Steps p.tables e below (T12.setTop (mkF m 242 #[.val (.int p0), .val (.int p1), .val (.int p2), .val (.int p3), .val (.long q4), .second, .val (.long q5), .second, .val (.int kk), .val (.ref bu), .unset, .unset, .unset, .unset, .unset, .unset, .unset] [(.int (6 : Int32)), (.ref bu)])) _
    refine XS.lload X12.here hx rfl (hb hby at_242) rfl ?_
    show Steps p.tables e below (T12.setTop (mkF m 244 #[.val (.int p0), .val (.int p1), .val (.int p2), .val (.int p3), .val (.long q4), .second, .val (.long q5), .second, .val (.int kk), .val (.ref bu), .unset, .unset, .unset, .unset, .unset, .unset, .unset] [(.long q4), (.int (6 : Int32)), (.ref bu)])) _
    refine XS.bipush X12.here hx rfl (hb hby at_244) ?_
    show Steps p.tables e below (T12.setTop (mkF m 246 #[.val (.int p0), .val (.int p1), .val (.int p2), .val (.int p3), .val (.long q4), .second, .val (.long q5), .second, .val (.int kk), .val (.ref bu), .unset, .unset, .unset, .unset, .unset, .unset, .unset] [(.int (48 : Int32)), (.long q4), (.int (6 : Int32)), (.ref bu)])) _
    refine XS.lushr X12.here hx rfl (hb hby at_246) rfl ?_
    show Steps p.tables e below (T12.setTop (mkF m 247 #[.val (.int p0), .val (.int p1), .val (.int p2), .val (.int p3), .val (.long q4), .second, .val (.long q5), .second, .val (.int kk), .val (.ref bu), .unset, .unset, .unset, .unset, .unset, .unset, .unset] [(.long ((q4.toUInt64 >>> ((48 : Int32) &&& 0x3f).toInt64.toUInt64).toInt64)), (.int (6 : Int32)), (.ref bu)])) _
    refine X12.ldc2Long hx hown (mvT hZ (hw _ (List.mem_of_getElem? (i := 113) rfl))) (g := (mkF m 247 #[.val (.int p0), .val (.int p1), .val (.int p2), .val (.int p3), .val (.long q4), .second, .val (.long q5), .second, .val (.int kk), .val (.ref bu), .unset, .unset, .unset, .unset, .unset, .unset, .unset] [(.long ((q4.toUInt64 >>> ((48 : Int32) &&& 0x3f).toInt64.toUInt64).toInt64)), (.int (6 : Int32)), (.ref bu)])) rfl (hb hby at_247) _ ?_
    show Steps p.tables e below (T12.setTop (mkF m 250 #[.val (.int p0), .val (.int p1), .val (.int p2), .val (.int p3), .val (.long q4), .second, .val (.long q5), .second, .val (.int kk), .val (.ref bu), .unset, .unset, .unset, .unset, .unset, .unset, .unset] [(.long (255 : Int64)), (.long ((q4.toUInt64 >>> ((48 : Int32) &&& 0x3f).toInt64.toUInt64).toInt64)), (.int (6 : Int32)), (.ref bu)])) _
    refine XS.land X12.here hx rfl (hb hby at_250) rfl ?_
    show Steps p.tables e below (T12.setTop (mkF m 251 #[.val (.int p0), .val (.int p1), .val (.int p2), .val (.int p3), .val (.long q4), .second, .val (.long q5), .second, .val (.int kk), .val (.ref bu), .unset, .unset, .unset, .unset, .unset, .unset, .unset] [(.long (((q4.toUInt64 >>> ((48 : Int32) &&& 0x3f).toInt64.toUInt64).toInt64) &&& (255 : Int64))), (.int (6 : Int32)), (.ref bu)])) _
    refine XS.l2i X12.here hx rfl (hb hby at_251) rfl ?_
    show Steps p.tables e below (T12.setTop (mkF m 252 #[.val (.int p0), .val (.int p1), .val (.int p2), .val (.int p3), .val (.long q4), .second, .val (.long q5), .second, .val (.int kk), .val (.ref bu), .unset, .unset, .unset, .unset, .unset, .unset, .unset] [(.int ((((q4.toUInt64 >>> ((48 : Int32) &&& 0x3f).toInt64.toUInt64).toInt64) &&& (255 : Int64)).toInt32)), (.int (6 : Int32)), (.ref bu)])) _
    refine XS.i2c X12.here hx rfl (hb hby at_252) rfl ?_
    show Steps p.tables e below (T12.setTop (mkF m 253 #[.val (.int p0), .val (.int p1), .val (.int p2), .val (.int p3), .val (.long q4), .second, .val (.long q5), .second, .val (.int kk), .val (.ref bu), .unset, .unset, .unset, .unset, .unset, .unset, .unset] [(.int (((((q4.toUInt64 >>> ((48 : Int32) &&& 0x3f).toInt64.toUInt64).toInt64) &&& (255 : Int64)).toInt32).toUInt32.toUInt16.toUInt32.toInt32)), (.int (6 : Int32)), (.ref bu)])) _
    refine st14 _ ?_
    show Steps p.tables e below (T14.setTop (mkF m 254 #[.val (.int p0), .val (.int p1), .val (.int p2), .val (.int p3), .val (.long q4), .second, .val (.long q5), .second, .val (.int kk), .val (.ref bu), .unset, .unset, .unset, .unset, .unset, .unset, .unset] [])) _
    refine XS.aload X14.here hx rfl (hb hby at_254) rfl rfl ?_
    show Steps p.tables e below (T14.setTop (mkF m 256 #[.val (.int p0), .val (.int p1), .val (.int p2), .val (.int p3), .val (.long q4), .second, .val (.long q5), .second, .val (.int kk), .val (.ref bu), .unset, .unset, .unset, .unset, .unset, .unset, .unset] [(.ref bu)])) _
    refine XS.bipush X14.here hx rfl (hb hby at_256) ?_
    show Steps p.tables e below (T14.setTop (mkF m 258 #[.val (.int p0), .val (.int p1), .val (.int p2), .val (.int p3), .val (.long q4), .second, .val (.long q5), .second, .val (.int kk), .val (.ref bu), .unset, .unset, .unset, .unset, .unset, .unset, .unset] [(.int (7 : Int32)), (.ref bu)])) _
    refine XS.lload X14.here hx rfl (hb hby at_258) rfl ?_
    show Steps p.tables e below (T14.setTop (mkF m 260 #[.val (.int p0), .val (.int p1), .val (.int p2), .val (.int p3), .val (.long q4), .second, .val (.long q5), .second, .val (.int kk), .val (.ref bu), .unset, .unset, .unset, .unset, .unset, .unset, .unset] [(.long q4), (.int (7 : Int32)), (.ref bu)])) _
    refine XS.bipush X14.here hx rfl (hb hby at_260) ?_
    show Steps p.tables e below (T14.setTop (mkF m 262 #[.val (.int p0), .val (.int p1), .val (.int p2), .val (.int p3), .val (.long q4), .second, .val (.long q5), .second, .val (.int kk), .val (.ref bu), .unset, .unset, .unset, .unset, .unset, .unset, .unset] [(.int (56 : Int32)), (.long q4), (.int (7 : Int32)), (.ref bu)])) _
    refine XS.lushr X14.here hx rfl (hb hby at_262) rfl ?_
    show Steps p.tables e below (T14.setTop (mkF m 263 #[.val (.int p0), .val (.int p1), .val (.int p2), .val (.int p3), .val (.long q4), .second, .val (.long q5), .second, .val (.int kk), .val (.ref bu), .unset, .unset, .unset, .unset, .unset, .unset, .unset] [(.long ((q4.toUInt64 >>> ((56 : Int32) &&& 0x3f).toInt64.toUInt64).toInt64)), (.int (7 : Int32)), (.ref bu)])) _
    refine X14.ldc2Long hx hown (mvT hZ (hw _ (List.mem_of_getElem? (i := 113) rfl))) (g := (mkF m 263 #[.val (.int p0), .val (.int p1), .val (.int p2), .val (.int p3), .val (.long q4), .second, .val (.long q5), .second, .val (.int kk), .val (.ref bu), .unset, .unset, .unset, .unset, .unset, .unset, .unset] [(.long ((q4.toUInt64 >>> ((56 : Int32) &&& 0x3f).toInt64.toUInt64).toInt64)), (.int (7 : Int32)), (.ref bu)])) rfl (hb hby at_263) _ ?_
    show Steps p.tables e below (T14.setTop (mkF m 266 #[.val (.int p0), .val (.int p1), .val (.int p2), .val (.int p3), .val (.long q4), .second, .val (.long q5), .second, .val (.int kk), .val (.ref bu), .unset, .unset, .unset, .unset, .unset, .unset, .unset] [(.long (255 : Int64)), (.long ((q4.toUInt64 >>> ((56 : Int32) &&& 0x3f).toInt64.toUInt64).toInt64)), (.int (7 : Int32)), (.ref bu)])) _
    refine XS.land X14.here hx rfl (hb hby at_266) rfl ?_
    show Steps p.tables e below (T14.setTop (mkF m 267 #[.val (.int p0), .val (.int p1), .val (.int p2), .val (.int p3), .val (.long q4), .second, .val (.long q5), .second, .val (.int kk), .val (.ref bu), .unset, .unset, .unset, .unset, .unset, .unset, .unset] [(.long (((q4.toUInt64 >>> ((56 : Int32) &&& 0x3f).toInt64.toUInt64).toInt64) &&& (255 : Int64))), (.int (7 : Int32)), (.ref bu)])) _
    refine XS.l2i X14.here hx rfl (hb hby at_267) rfl ?_
    show Steps p.tables e below (T14.setTop (mkF m 268 #[.val (.int p0), .val (.int p1), .val (.int p2), .val (.int p3), .val (.long q4), .second, .val (.long q5), .second, .val (.int kk), .val (.ref bu), .unset, .unset, .unset, .unset, .unset, .unset, .unset] [(.int ((((q4.toUInt64 >>> ((56 : Int32) &&& 0x3f).toInt64.toUInt64).toInt64) &&& (255 : Int64)).toInt32)), (.int (7 : Int32)), (.ref bu)])) _
    refine XS.i2c X14.here hx rfl (hb hby at_268) rfl ?_
    show Steps p.tables e below (T14.setTop (mkF m 269 #[.val (.int p0), .val (.int p1), .val (.int p2), .val (.int p3), .val (.long q4), .second, .val (.long q5), .second, .val (.int kk), .val (.ref bu), .unset, .unset, .unset, .unset, .unset, .unset, .unset] [(.int (((((q4.toUInt64 >>> ((56 : Int32) &&& 0x3f).toInt64.toUInt64).toInt64) &&& (255 : Int64)).toInt32).toUInt32.toUInt16.toUInt32.toInt32)), (.int (7 : Int32)), (.ref bu)])) _
    refine st16 _ ?_
    show Steps p.tables e below (T16.setTop (mkF m 270 #[.val (.int p0), .val (.int p1), .val (.int p2), .val (.int p3), .val (.long q4), .second, .val (.long q5), .second, .val (.int kk), .val (.ref bu), .unset, .unset, .unset, .unset, .unset, .unset, .unset] [])) _
    refine XS.aload X16.here hx rfl (hb hby at_270) rfl rfl ?_
    show Steps p.tables e below (T16.setTop (mkF m 272 #[.val (.int p0), .val (.int p1), .val (.int p2), .val (.int p3), .val (.long q4), .second, .val (.long q5), .second, .val (.int kk), .val (.ref bu), .unset, .unset, .unset, .unset, .unset, .unset, .unset] [(.ref bu)])) _
    refine XS.bipush X16.here hx rfl (hb hby at_272) ?_
    show Steps p.tables e below (T16.setTop (mkF m 274 #[.val (.int p0), .val (.int p1), .val (.int p2), .val (.int p3), .val (.long q4), .second, .val (.long q5), .second, .val (.int kk), .val (.ref bu), .unset, .unset, .unset, .unset, .unset, .unset, .unset] [(.int (8 : Int32)), (.ref bu)])) _
    refine XS.lload X16.here hx rfl (hb hby at_274) rfl ?_
    show Steps p.tables e below (T16.setTop (mkF m 276 #[.val (.int p0), .val (.int p1), .val (.int p2), .val (.int p3), .val (.long q4), .second, .val (.long q5), .second, .val (.int kk), .val (.ref bu), .unset, .unset, .unset, .unset, .unset, .unset, .unset] [(.long q5), (.int (8 : Int32)), (.ref bu)])) _
    refine X16.ldc2Long hx hown (mvT hZ (hw _ (List.mem_of_getElem? (i := 113) rfl))) (g := (mkF m 276 #[.val (.int p0), .val (.int p1), .val (.int p2), .val (.int p3), .val (.long q4), .second, .val (.long q5), .second, .val (.int kk), .val (.ref bu), .unset, .unset, .unset, .unset, .unset, .unset, .unset] [(.long q5), (.int (8 : Int32)), (.ref bu)])) rfl (hb hby at_276) _ ?_
    show Steps p.tables e below (T16.setTop (mkF m 279 #[.val (.int p0), .val (.int p1), .val (.int p2), .val (.int p3), .val (.long q4), .second, .val (.long q5), .second, .val (.int kk), .val (.ref bu), .unset, .unset, .unset, .unset, .unset, .unset, .unset] [(.long (255 : Int64)), (.long q5), (.int (8 : Int32)), (.ref bu)])) _
    refine XS.land X16.here hx rfl (hb hby at_279) rfl ?_
    show Steps p.tables e below (T16.setTop (mkF m 280 #[.val (.int p0), .val (.int p1), .val (.int p2), .val (.int p3), .val (.long q4), .second, .val (.long q5), .second, .val (.int kk), .val (.ref bu), .unset, .unset, .unset, .unset, .unset, .unset, .unset] [(.long (q5 &&& (255 : Int64))), (.int (8 : Int32)), (.ref bu)])) _
    refine XS.l2i X16.here hx rfl (hb hby at_280) rfl ?_
    show Steps p.tables e below (T16.setTop (mkF m 281 #[.val (.int p0), .val (.int p1), .val (.int p2), .val (.int p3), .val (.long q4), .second, .val (.long q5), .second, .val (.int kk), .val (.ref bu), .unset, .unset, .unset, .unset, .unset, .unset, .unset] [(.int ((q5 &&& (255 : Int64)).toInt32)), (.int (8 : Int32)), (.ref bu)])) _
    refine XS.i2c X16.here hx rfl (hb hby at_281) rfl ?_
    show Steps p.tables e below (T16.setTop (mkF m 282 #[.val (.int p0), .val (.int p1), .val (.int p2), .val (.int p3), .val (.long q4), .second, .val (.long q5), .second, .val (.int kk), .val (.ref bu), .unset, .unset, .unset, .unset, .unset, .unset, .unset] [(.int (((q5 &&& (255 : Int64)).toInt32).toUInt32.toUInt16.toUInt32.toInt32)), (.int (8 : Int32)), (.ref bu)])) _
    refine st18 _ ?_
    show Steps p.tables e below (T18.setTop (mkF m 283 #[.val (.int p0), .val (.int p1), .val (.int p2), .val (.int p3), .val (.long q4), .second, .val (.long q5), .second, .val (.int kk), .val (.ref bu), .unset, .unset, .unset, .unset, .unset, .unset, .unset] [])) _
    refine XS.lload X18.here hx rfl (hb hby at_283) rfl ?_
    show Steps p.tables e below (T18.setTop (mkF m 285 #[.val (.int p0), .val (.int p1), .val (.int p2), .val (.int p3), .val (.long q4), .second, .val (.long q5), .second, .val (.int kk), .val (.ref bu), .unset, .unset, .unset, .unset, .unset, .unset, .unset] [(.long q5)])) _
    refine XS.bipush X18.here hx rfl (hb hby at_285) ?_
    show Steps p.tables e below (T18.setTop (mkF m 287 #[.val (.int p0), .val (.int p1), .val (.int p2), .val (.int p3), .val (.long q4), .second, .val (.long q5), .second, .val (.int kk), .val (.ref bu), .unset, .unset, .unset, .unset, .unset, .unset, .unset] [(.int (8 : Int32)), (.long q5)])) _
    refine XS.lushr X18.here hx rfl (hb hby at_287) rfl ?_
    show Steps p.tables e below (T18.setTop (mkF m 288 #[.val (.int p0), .val (.int p1), .val (.int p2), .val (.int p3), .val (.long q4), .second, .val (.long q5), .second, .val (.int kk), .val (.ref bu), .unset, .unset, .unset, .unset, .unset, .unset, .unset] [(.long ((q5.toUInt64 >>> ((8 : Int32) &&& 0x3f).toInt64.toUInt64).toInt64))])) _
    refine X18.ldc2Long hx hown (mvT hZ (hw _ (List.mem_of_getElem? (i := 114) rfl))) (g := (mkF m 288 #[.val (.int p0), .val (.int p1), .val (.int p2), .val (.int p3), .val (.long q4), .second, .val (.long q5), .second, .val (.int kk), .val (.ref bu), .unset, .unset, .unset, .unset, .unset, .unset, .unset] [(.long ((q5.toUInt64 >>> ((8 : Int32) &&& 0x3f).toInt64.toUInt64).toInt64))])) rfl (hb hby at_288) _ ?_
    show Steps p.tables e below (T18.setTop (mkF m 291 #[.val (.int p0), .val (.int p1), .val (.int p2), .val (.int p3), .val (.long q4), .second, .val (.long q5), .second, .val (.int kk), .val (.ref bu), .unset, .unset, .unset, .unset, .unset, .unset, .unset] [(.long (2147483647 : Int64)), (.long ((q5.toUInt64 >>> ((8 : Int32) &&& 0x3f).toInt64.toUInt64).toInt64))])) _
    refine XS.land X18.here hx rfl (hb hby at_291) rfl ?_
    show Steps p.tables e below (T18.setTop (mkF m 292 #[.val (.int p0), .val (.int p1), .val (.int p2), .val (.int p3), .val (.long q4), .second, .val (.long q5), .second, .val (.int kk), .val (.ref bu), .unset, .unset, .unset, .unset, .unset, .unset, .unset] [(.long (((q5.toUInt64 >>> ((8 : Int32) &&& 0x3f).toInt64.toUInt64).toInt64) &&& (2147483647 : Int64)))])) _
    refine X18.ldc2Long hx hown (mvT hZ (hw _ (List.mem_of_getElem? (i := 115) rfl))) (g := (mkF m 292 #[.val (.int p0), .val (.int p1), .val (.int p2), .val (.int p3), .val (.long q4), .second, .val (.long q5), .second, .val (.int kk), .val (.ref bu), .unset, .unset, .unset, .unset, .unset, .unset, .unset] [(.long (((q5.toUInt64 >>> ((8 : Int32) &&& 0x3f).toInt64.toUInt64).toInt64) &&& (2147483647 : Int64)))])) rfl (hb hby at_292) _ ?_
    show Steps p.tables e below (T18.setTop (mkF m 295 #[.val (.int p0), .val (.int p1), .val (.int p2), .val (.int p3), .val (.long q4), .second, .val (.long q5), .second, .val (.int kk), .val (.ref bu), .unset, .unset, .unset, .unset, .unset, .unset, .unset] [(.long (10 : Int64)), (.long (((q5.toUInt64 >>> ((8 : Int32) &&& 0x3f).toInt64.toUInt64).toInt64) &&& (2147483647 : Int64)))])) _
    refine XS.lrem X18.here hx rfl (hb hby at_295) rfl (by decide) ?_
    show Steps p.tables e below (T18.setTop (mkF m 296 #[.val (.int p0), .val (.int p1), .val (.int p2), .val (.int p3), .val (.long q4), .second, .val (.long q5), .second, .val (.int kk), .val (.ref bu), .unset, .unset, .unset, .unset, .unset, .unset, .unset] [(.long ((((q5.toUInt64 >>> ((8 : Int32) &&& 0x3f).toInt64.toUInt64).toInt64) &&& (2147483647 : Int64)) - ((((q5.toUInt64 >>> ((8 : Int32) &&& 0x3f).toInt64.toUInt64).toInt64) &&& (2147483647 : Int64)) / (10 : Int64)) * (10 : Int64)))])) _
    refine XS.l2i X18.here hx rfl (hb hby at_296) rfl ?_
    show Steps p.tables e below (T18.setTop (mkF m 297 #[.val (.int p0), .val (.int p1), .val (.int p2), .val (.int p3), .val (.long q4), .second, .val (.long q5), .second, .val (.int kk), .val (.ref bu), .unset, .unset, .unset, .unset, .unset, .unset, .unset] [(.int (((((q5.toUInt64 >>> ((8 : Int32) &&& 0x3f).toInt64.toUInt64).toInt64) &&& (2147483647 : Int64)) - ((((q5.toUInt64 >>> ((8 : Int32) &&& 0x3f).toInt64.toUInt64).toInt64) &&& (2147483647 : Int64)) / (10 : Int64)) * (10 : Int64)).toInt32))])) _
    rw [en]
    show Steps p.tables e below (T18.setTop (mkF m 297 #[.val (.int p0), .val (.int p1), .val (.int p2), .val (.int p3), .val (.long q4), .second, .val (.long q5), .second, .val (.int kk), .val (.ref bu), .unset, .unset, .unset, .unset, .unset, .unset, .unset] [(.int (Int32.ofNat n))])) _
    refine XS.istore X18.here hx rfl (hb hby at_297) rfl (l' := #[.val (.int p0), .val (.int p1), .val (.int p2), .val (.int p3), .val (.long q4), .second, .val (.long q5), .second, .val (.int kk), .val (.ref bu), .val (.int (Int32.ofNat n)), .unset, .unset, .unset, .unset, .unset, .unset]) rfl ?_
    exact kt
  exact ⟨T18, _, g18, n, own_up X18 (by decide) (by decide), (by rw [e18]; exact K18), N18, (by rw [e18]; exact G18), hg18, hn, fun target kt => pre19 target kt⟩
theorem os_lwB_302 {z0 : Value} {z1 : Value} {z2 : Value} {z3 : Value} {z4 : Value} {z6 : Value} {z8 : Value} {z9 : Value} {z10 : Value} {s11 : Slot} {v : Int32} (h : One s11) : storeLocals #[.val z0, .val z1, .val z2, .val z3, .val z4, .second, .val z6, .second, .val z8, .val z9, .val z10, s11, .unset, .unset, .unset, .unset, .unset] 11 (.int v) = some #[.val z0, .val z1, .val z2, .val z3, .val z4, .second, .val z6, .second, .val z8, .val z9, .val z10, .val (.int v), .unset, .unset, .unset, .unset, .unset] := by
  rcases h with rfl | ⟨w, rfl, hw⟩
  · rfl
  · cases w <;> first | rfl | (simp [Value.category] at hw)
set_option maxRecDepth 65536 in
set_option maxHeartbeats 40000000 in
theorem lwB {p : Program} {l : Launch} {e : Env} {s : State} {m : MethodId} {args : Array Value} {below : List Frame} {meth : Method} {c : Code} {T0 : State} {locs : List Loc} {Z : State} {a0 : Array Value} {h0 : Heap} (n0 : Nat) (p0 p1 p2 p3 : Int32) (q4 q5 : Int64) (kk : Int32) (bu : Addr) (kb : ClassId) (g0 : Nat → Int32) (n : Nat) (s11 : Slot) (X0 : Stand p l e room_1 s m args below meth c T0 locs 3 45) (hx : p.tables.exec = Jvm.exec) (hZ : Z.Warmed39 s.vm) (hw : ∀ d ∈ tables_1, d.before a0 Z = true) (hby : c.code = code) (hml : c.maxLocals = 17) (hown : s.vm.findClass "heslar/KindByCodePinLaw" = some m.cls) (e0 : T0.heap = h0) (N0 : Fr n0 locs) (Z0 : n0 ≤ h0.size) (g_b : n0 ≤ bu) (V_c : GA Z h0 bu kb .char 9 (fun i => .int (g0 i))) (hgG : Rg g0) (hn : n ≤ 9) (hs11 : One s11) :
    ∃ (T' : State) (locs' : List Loc) (g' : Nat → Int32) (n' : Nat), Stand p l e room_1 s m args below meth c T' locs' 3 45 ∧ Keep h0 T'.heap [bu] ∧ Fr n0 locs' ∧ GA Z T'.heap bu kb .char 9 (fun i => .int (g' i)) ∧ Rg g' ∧ n' ≤ 9 ∧ ∀ target, Steps p.tables e below (T'.setTop (mkF m 386 #[.val (.int p0), .val (.int p1), .val (.int p2), .val (.int p3), .val (.long q4), .second, .val (.long q5), .second, .val (.int kk), .val (.ref bu), .val (.int (Int32.ofNat n')), .val (.int (p1 &&& (3 : Int32))), .val (.int ((p3 &&& (255 : Int32)).toUInt32.toUInt16.toUInt32.toInt32)), .val (.int (p2 &&& (2147483647 : Int32))), .unset, .unset, .unset] [])) target → Steps p.tables e below (T0.setTop (mkF m 299 #[.val (.int p0), .val (.int p1), .val (.int p2), .val (.int p3), .val (.long q4), .second, .val (.long q5), .second, .val (.int kk), .val (.ref bu), .val (.int (Int32.ofNat n)), s11, .unset, .unset, .unset, .unset, .unset] [])) target := by
  have pre0 : ∀ t, Steps p.tables e below (T0.setTop (mkF m 299 #[.val (.int p0), .val (.int p1), .val (.int p2), .val (.int p3), .val (.long q4), .second, .val (.long q5), .second, .val (.int kk), .val (.ref bu), .val (.int (Int32.ofNat n)), s11, .unset, .unset, .unset, .unset, .unset] [])) t → Steps p.tables e below (T0.setTop (mkF m 299 #[.val (.int p0), .val (.int p1), .val (.int p2), .val (.int p3), .val (.long q4), .second, .val (.long q5), .second, .val (.int kk), .val (.ref bu), .val (.int (Int32.ofNat n)), s11, .unset, .unset, .unset, .unset, .unset] [])) t := fun _ k => k
  have pre1 : ∀ t, Steps p.tables e below (T0.setTop (mkF m 321 #[.val (.int p0), .val (.int p1), .val (.int p2), .val (.int p3), .val (.long q4), .second, .val (.long q5), .second, .val (.int kk), .val (.ref bu), .val (.int (Int32.ofNat n)), .val (.int (p1 &&& (3 : Int32))), .val (.int ((p3 &&& (255 : Int32)).toUInt32.toUInt16.toUInt32.toInt32)), .val (.int (p2 &&& (2147483647 : Int32))), .unset, .unset, .unset] [(.int (1 : Int32)), (.int (p1 &&& (3 : Int32)))])) t → Steps p.tables e below (T0.setTop (mkF m 299 #[.val (.int p0), .val (.int p1), .val (.int p2), .val (.int p3), .val (.long q4), .second, .val (.long q5), .second, .val (.int kk), .val (.ref bu), .val (.int (Int32.ofNat n)), s11, .unset, .unset, .unset, .unset, .unset] [])) t := by
    intro t kt
    refine pre0 t ?_
    show Steps p.tables e below (T0.setTop (mkF m 299 #[.val (.int p0), .val (.int p1), .val (.int p2), .val (.int p3), .val (.long q4), .second, .val (.long q5), .second, .val (.int kk), .val (.ref bu), .val (.int (Int32.ofNat n)), s11, .unset, .unset, .unset, .unset, .unset] [])) _
    refine XS.iloadN X0.here hx rfl (hb hby at_299) rfl ?_
    show Steps p.tables e below (T0.setTop (mkF m 300 #[.val (.int p0), .val (.int p1), .val (.int p2), .val (.int p3), .val (.long q4), .second, .val (.long q5), .second, .val (.int kk), .val (.ref bu), .val (.int (Int32.ofNat n)), s11, .unset, .unset, .unset, .unset, .unset] [(.int p1)])) _
    refine XS.iconst X0.here hx rfl (hb hby at_300) ?_
    show Steps p.tables e below (T0.setTop (mkF m 301 #[.val (.int p0), .val (.int p1), .val (.int p2), .val (.int p3), .val (.long q4), .second, .val (.long q5), .second, .val (.int kk), .val (.ref bu), .val (.int (Int32.ofNat n)), s11, .unset, .unset, .unset, .unset, .unset] [(.int (3 : Int32)), (.int p1)])) _
    refine XS.iand X0.here hx rfl (hb hby at_301) rfl ?_
    show Steps p.tables e below (T0.setTop (mkF m 302 #[.val (.int p0), .val (.int p1), .val (.int p2), .val (.int p3), .val (.long q4), .second, .val (.long q5), .second, .val (.int kk), .val (.ref bu), .val (.int (Int32.ofNat n)), s11, .unset, .unset, .unset, .unset, .unset] [(.int (p1 &&& (3 : Int32)))])) _
    refine XS.istore X0.here hx rfl (hb hby at_302) rfl (l' := #[.val (.int p0), .val (.int p1), .val (.int p2), .val (.int p3), .val (.long q4), .second, .val (.long q5), .second, .val (.int kk), .val (.ref bu), .val (.int (Int32.ofNat n)), .val (.int (p1 &&& (3 : Int32))), .unset, .unset, .unset, .unset, .unset]) (os_lwB_302 hs11) ?_
    show Steps p.tables e below (T0.setTop (mkF m 304 #[.val (.int p0), .val (.int p1), .val (.int p2), .val (.int p3), .val (.long q4), .second, .val (.long q5), .second, .val (.int kk), .val (.ref bu), .val (.int (Int32.ofNat n)), .val (.int (p1 &&& (3 : Int32))), .unset, .unset, .unset, .unset, .unset] [])) _
    refine XS.iloadN X0.here hx rfl (hb hby at_304) rfl ?_
    show Steps p.tables e below (T0.setTop (mkF m 305 #[.val (.int p0), .val (.int p1), .val (.int p2), .val (.int p3), .val (.long q4), .second, .val (.long q5), .second, .val (.int kk), .val (.ref bu), .val (.int (Int32.ofNat n)), .val (.int (p1 &&& (3 : Int32))), .unset, .unset, .unset, .unset, .unset] [(.int p3)])) _
    refine XS.sipush X0.here hx rfl (hb hby at_305) ?_
    show Steps p.tables e below (T0.setTop (mkF m 308 #[.val (.int p0), .val (.int p1), .val (.int p2), .val (.int p3), .val (.long q4), .second, .val (.long q5), .second, .val (.int kk), .val (.ref bu), .val (.int (Int32.ofNat n)), .val (.int (p1 &&& (3 : Int32))), .unset, .unset, .unset, .unset, .unset] [(.int (255 : Int32)), (.int p3)])) _
    refine XS.iand X0.here hx rfl (hb hby at_308) rfl ?_
    show Steps p.tables e below (T0.setTop (mkF m 309 #[.val (.int p0), .val (.int p1), .val (.int p2), .val (.int p3), .val (.long q4), .second, .val (.long q5), .second, .val (.int kk), .val (.ref bu), .val (.int (Int32.ofNat n)), .val (.int (p1 &&& (3 : Int32))), .unset, .unset, .unset, .unset, .unset] [(.int (p3 &&& (255 : Int32)))])) _
    refine XS.i2c X0.here hx rfl (hb hby at_309) rfl ?_
    show Steps p.tables e below (T0.setTop (mkF m 310 #[.val (.int p0), .val (.int p1), .val (.int p2), .val (.int p3), .val (.long q4), .second, .val (.long q5), .second, .val (.int kk), .val (.ref bu), .val (.int (Int32.ofNat n)), .val (.int (p1 &&& (3 : Int32))), .unset, .unset, .unset, .unset, .unset] [(.int ((p3 &&& (255 : Int32)).toUInt32.toUInt16.toUInt32.toInt32))])) _
    refine XS.istore X0.here hx rfl (hb hby at_310) rfl (l' := #[.val (.int p0), .val (.int p1), .val (.int p2), .val (.int p3), .val (.long q4), .second, .val (.long q5), .second, .val (.int kk), .val (.ref bu), .val (.int (Int32.ofNat n)), .val (.int (p1 &&& (3 : Int32))), .val (.int ((p3 &&& (255 : Int32)).toUInt32.toUInt16.toUInt32.toInt32)), .unset, .unset, .unset, .unset]) rfl ?_
    show Steps p.tables e below (T0.setTop (mkF m 312 #[.val (.int p0), .val (.int p1), .val (.int p2), .val (.int p3), .val (.long q4), .second, .val (.long q5), .second, .val (.int kk), .val (.ref bu), .val (.int (Int32.ofNat n)), .val (.int (p1 &&& (3 : Int32))), .val (.int ((p3 &&& (255 : Int32)).toUInt32.toUInt16.toUInt32.toInt32)), .unset, .unset, .unset, .unset] [])) _
    refine XS.iloadN X0.here hx rfl (hb hby at_312) rfl ?_
    show Steps p.tables e below (T0.setTop (mkF m 313 #[.val (.int p0), .val (.int p1), .val (.int p2), .val (.int p3), .val (.long q4), .second, .val (.long q5), .second, .val (.int kk), .val (.ref bu), .val (.int (Int32.ofNat n)), .val (.int (p1 &&& (3 : Int32))), .val (.int ((p3 &&& (255 : Int32)).toUInt32.toUInt16.toUInt32.toInt32)), .unset, .unset, .unset, .unset] [(.int p2)])) _
    refine X0.ldcInt hx hown (mvT hZ (hw _ (List.mem_of_getElem? (i := 0) rfl))) (g := (mkF m 313 #[.val (.int p0), .val (.int p1), .val (.int p2), .val (.int p3), .val (.long q4), .second, .val (.long q5), .second, .val (.int kk), .val (.ref bu), .val (.int (Int32.ofNat n)), .val (.int (p1 &&& (3 : Int32))), .val (.int ((p3 &&& (255 : Int32)).toUInt32.toUInt16.toUInt32.toInt32)), .unset, .unset, .unset, .unset] [(.int p2)])) rfl (hb hby at_313) _ ?_
    show Steps p.tables e below (T0.setTop (mkF m 315 #[.val (.int p0), .val (.int p1), .val (.int p2), .val (.int p3), .val (.long q4), .second, .val (.long q5), .second, .val (.int kk), .val (.ref bu), .val (.int (Int32.ofNat n)), .val (.int (p1 &&& (3 : Int32))), .val (.int ((p3 &&& (255 : Int32)).toUInt32.toUInt16.toUInt32.toInt32)), .unset, .unset, .unset, .unset] [(.int (2147483647 : Int32)), (.int p2)])) _
    refine XS.iand X0.here hx rfl (hb hby at_315) rfl ?_
    show Steps p.tables e below (T0.setTop (mkF m 316 #[.val (.int p0), .val (.int p1), .val (.int p2), .val (.int p3), .val (.long q4), .second, .val (.long q5), .second, .val (.int kk), .val (.ref bu), .val (.int (Int32.ofNat n)), .val (.int (p1 &&& (3 : Int32))), .val (.int ((p3 &&& (255 : Int32)).toUInt32.toUInt16.toUInt32.toInt32)), .unset, .unset, .unset, .unset] [(.int (p2 &&& (2147483647 : Int32)))])) _
    refine XS.istore X0.here hx rfl (hb hby at_316) rfl (l' := #[.val (.int p0), .val (.int p1), .val (.int p2), .val (.int p3), .val (.long q4), .second, .val (.long q5), .second, .val (.int kk), .val (.ref bu), .val (.int (Int32.ofNat n)), .val (.int (p1 &&& (3 : Int32))), .val (.int ((p3 &&& (255 : Int32)).toUInt32.toUInt16.toUInt32.toInt32)), .val (.int (p2 &&& (2147483647 : Int32))), .unset, .unset, .unset]) rfl ?_
    show Steps p.tables e below (T0.setTop (mkF m 318 #[.val (.int p0), .val (.int p1), .val (.int p2), .val (.int p3), .val (.long q4), .second, .val (.long q5), .second, .val (.int kk), .val (.ref bu), .val (.int (Int32.ofNat n)), .val (.int (p1 &&& (3 : Int32))), .val (.int ((p3 &&& (255 : Int32)).toUInt32.toUInt16.toUInt32.toInt32)), .val (.int (p2 &&& (2147483647 : Int32))), .unset, .unset, .unset] [])) _
    refine XS.iload X0.here hx rfl (hb hby at_318) rfl ?_
    show Steps p.tables e below (T0.setTop (mkF m 320 #[.val (.int p0), .val (.int p1), .val (.int p2), .val (.int p3), .val (.long q4), .second, .val (.long q5), .second, .val (.int kk), .val (.ref bu), .val (.int (Int32.ofNat n)), .val (.int (p1 &&& (3 : Int32))), .val (.int ((p3 &&& (255 : Int32)).toUInt32.toUInt16.toUInt32.toInt32)), .val (.int (p2 &&& (2147483647 : Int32))), .unset, .unset, .unset] [(.int (p1 &&& (3 : Int32)))])) _
    refine XS.iconst X0.here hx rfl (hb hby at_320) ?_
    exact kt
  by_cases hc2 : (p1 &&& (3 : Int32)) = (1 : Int32)
  · skip
    have pre3 : ∀ t, Steps p.tables e below (T0.setTop (mkF m 326 #[.val (.int p0), .val (.int p1), .val (.int p2), .val (.int p3), .val (.long q4), .second, .val (.long q5), .second, .val (.int kk), .val (.ref bu), .val (.int (Int32.ofNat n)), .val (.int (p1 &&& (3 : Int32))), .val (.int ((p3 &&& (255 : Int32)).toUInt32.toUInt16.toUInt32.toInt32)), .val (.int (p2 &&& (2147483647 : Int32))), .unset, .unset, .unset] [(.int (Int32.ofNat n))])) t → Steps p.tables e below (T0.setTop (mkF m 299 #[.val (.int p0), .val (.int p1), .val (.int p2), .val (.int p3), .val (.long q4), .second, .val (.long q5), .second, .val (.int kk), .val (.ref bu), .val (.int (Int32.ofNat n)), s11, .unset, .unset, .unset, .unset, .unset] [])) t := by
      intro t kt
      refine pre1 t ?_
      show Steps p.tables e below (T0.setTop (mkF m 321 #[.val (.int p0), .val (.int p1), .val (.int p2), .val (.int p3), .val (.long q4), .second, .val (.long q5), .second, .val (.int kk), .val (.ref bu), .val (.int (Int32.ofNat n)), .val (.int (p1 &&& (3 : Int32))), .val (.int ((p3 &&& (255 : Int32)).toUInt32.toUInt16.toUInt32.toInt32)), .val (.int (p2 &&& (2147483647 : Int32))), .unset, .unset, .unset] [(.int (1 : Int32)), (.int (p1 &&& (3 : Int32)))])) _
      refine XS.icmpNo X0.here hx rfl (hb hby at_321) rfl (teq hc2).2 ?_
      show Steps p.tables e below (T0.setTop (mkF m 324 #[.val (.int p0), .val (.int p1), .val (.int p2), .val (.int p3), .val (.long q4), .second, .val (.long q5), .second, .val (.int kk), .val (.ref bu), .val (.int (Int32.ofNat n)), .val (.int (p1 &&& (3 : Int32))), .val (.int ((p3 &&& (255 : Int32)).toUInt32.toUInt16.toUInt32.toInt32)), .val (.int (p2 &&& (2147483647 : Int32))), .unset, .unset, .unset] [])) _
      refine XS.iload X0.here hx rfl (hb hby at_324) rfl ?_
      exact kt
    by_cases hc4 : (0 : Int32) < (Int32.ofNat n)
    · skip
      have hp : 0 < n := (own_ltI (i := 0) (by decide) (by omega)).mp hc4
      obtain ⟨ix, hix, ex⟩ := own_remn p2 hp (by omega)
      have hix9 : ix < 9 := by omega
      obtain ⟨cl5, Ar5, qa5, Sa5, Ha5⟩ := id V_c
      have hin5 : ¬ ((Int32.ofNat ix) < 0 ∨ cl5.slots.size ≤ (Int32.ofNat ix).toNatClampNeg) := own_inb Sa5 hix9 (show 9 < 2147483648 by decide)
      obtain ⟨T6, h6, X6, e6, W6, st6⟩ := stC X0 hx hZ e0 Ar5 (j := (Int32.ofNat ix)) hin5 (g := (mkF m 338 #[.val (.int p0), .val (.int p1), .val (.int p2), .val (.int p3), .val (.long q4), .second, .val (.long q5), .second, .val (.int kk), .val (.ref bu), .val (.int (Int32.ofNat n)), .val (.int (p1 &&& (3 : Int32))), .val (.int ((p3 &&& (255 : Int32)).toUInt32.toUInt16.toUInt32.toInt32)), .val (.int (p2 &&& (2147483647 : Int32))), .unset, .unset, .unset] [(.int ((p3 &&& (255 : Int32)).toUInt32.toUInt16.toUInt32.toInt32)), (.int (Int32.ofNat ix)), (.ref bu)])) rfl rfl (hb hby at_338)
      obtain ⟨g6, G6, hg6⟩ := own_gset Ar5 qa5 Sa5 Ha5 W6 hgG (own_ci (own_and255 _))
      have Zs6 : n0 ≤ h6.size := Nat.le_trans Z0 (Nat.le_of_eq W6.size.symm)
      have K6 : Keep h0 h6 [bu] := (Keep.refl h0 [bu]).wr W6 (Or.inl (List.mem_of_getElem? (i := 0) rfl))
      have N6 := Fr.snoc X6 N0 g_b
      have pre7 : ∀ t, Steps p.tables e below (T6.setTop (mkF m 386 #[.val (.int p0), .val (.int p1), .val (.int p2), .val (.int p3), .val (.long q4), .second, .val (.long q5), .second, .val (.int kk), .val (.ref bu), .val (.int (Int32.ofNat n)), .val (.int (p1 &&& (3 : Int32))), .val (.int ((p3 &&& (255 : Int32)).toUInt32.toUInt16.toUInt32.toInt32)), .val (.int (p2 &&& (2147483647 : Int32))), .unset, .unset, .unset] [])) t → Steps p.tables e below (T0.setTop (mkF m 299 #[.val (.int p0), .val (.int p1), .val (.int p2), .val (.int p3), .val (.long q4), .second, .val (.long q5), .second, .val (.int kk), .val (.ref bu), .val (.int (Int32.ofNat n)), s11, .unset, .unset, .unset, .unset, .unset] [])) t := by
        intro t kt
        refine pre3 t ?_
        show Steps p.tables e below (T0.setTop (mkF m 326 #[.val (.int p0), .val (.int p1), .val (.int p2), .val (.int p3), .val (.long q4), .second, .val (.long q5), .second, .val (.int kk), .val (.ref bu), .val (.int (Int32.ofNat n)), .val (.int (p1 &&& (3 : Int32))), .val (.int ((p3 &&& (255 : Int32)).toUInt32.toUInt16.toUInt32.toInt32)), .val (.int (p2 &&& (2147483647 : Int32))), .unset, .unset, .unset] [(.int (Int32.ofNat n))])) _
        refine XS.ifNo X0.here hx rfl (hb hby at_326) rfl ((if0 _ _).trans (tlt hc4).2.2.2) ?_
        show Steps p.tables e below (T0.setTop (mkF m 329 #[.val (.int p0), .val (.int p1), .val (.int p2), .val (.int p3), .val (.long q4), .second, .val (.long q5), .second, .val (.int kk), .val (.ref bu), .val (.int (Int32.ofNat n)), .val (.int (p1 &&& (3 : Int32))), .val (.int ((p3 &&& (255 : Int32)).toUInt32.toUInt16.toUInt32.toInt32)), .val (.int (p2 &&& (2147483647 : Int32))), .unset, .unset, .unset] [])) _
        refine XS.aload X0.here hx rfl (hb hby at_329) rfl rfl ?_
        show Steps p.tables e below (T0.setTop (mkF m 331 #[.val (.int p0), .val (.int p1), .val (.int p2), .val (.int p3), .val (.long q4), .second, .val (.long q5), .second, .val (.int kk), .val (.ref bu), .val (.int (Int32.ofNat n)), .val (.int (p1 &&& (3 : Int32))), .val (.int ((p3 &&& (255 : Int32)).toUInt32.toUInt16.toUInt32.toInt32)), .val (.int (p2 &&& (2147483647 : Int32))), .unset, .unset, .unset] [(.ref bu)])) _
        refine XS.iload X0.here hx rfl (hb hby at_331) rfl ?_
        show Steps p.tables e below (T0.setTop (mkF m 333 #[.val (.int p0), .val (.int p1), .val (.int p2), .val (.int p3), .val (.long q4), .second, .val (.long q5), .second, .val (.int kk), .val (.ref bu), .val (.int (Int32.ofNat n)), .val (.int (p1 &&& (3 : Int32))), .val (.int ((p3 &&& (255 : Int32)).toUInt32.toUInt16.toUInt32.toInt32)), .val (.int (p2 &&& (2147483647 : Int32))), .unset, .unset, .unset] [(.int (p2 &&& (2147483647 : Int32))), (.ref bu)])) _
        refine XS.iload X0.here hx rfl (hb hby at_333) rfl ?_
        show Steps p.tables e below (T0.setTop (mkF m 335 #[.val (.int p0), .val (.int p1), .val (.int p2), .val (.int p3), .val (.long q4), .second, .val (.long q5), .second, .val (.int kk), .val (.ref bu), .val (.int (Int32.ofNat n)), .val (.int (p1 &&& (3 : Int32))), .val (.int ((p3 &&& (255 : Int32)).toUInt32.toUInt16.toUInt32.toInt32)), .val (.int (p2 &&& (2147483647 : Int32))), .unset, .unset, .unset] [(.int (Int32.ofNat n)), (.int (p2 &&& (2147483647 : Int32))), (.ref bu)])) _
        refine iremM (g := (mkF m 335 #[.val (.int p0), .val (.int p1), .val (.int p2), .val (.int p3), .val (.long q4), .second, .val (.long q5), .second, .val (.int kk), .val (.ref bu), .val (.int (Int32.ofNat n)), .val (.int (p1 &&& (3 : Int32))), .val (.int ((p3 &&& (255 : Int32)).toUInt32.toUInt16.toUInt32.toInt32)), .val (.int (p2 &&& (2147483647 : Int32))), .unset, .unset, .unset] [(.int (Int32.ofNat n)), (.int (p2 &&& (2147483647 : Int32))), (.ref bu)])) X0 hx rfl (hb hby at_335) rfl (own_nzn hp (by omega)) ?_
        show Steps p.tables e below (T0.setTop (mkF m 336 #[.val (.int p0), .val (.int p1), .val (.int p2), .val (.int p3), .val (.long q4), .second, .val (.long q5), .second, .val (.int kk), .val (.ref bu), .val (.int (Int32.ofNat n)), .val (.int (p1 &&& (3 : Int32))), .val (.int ((p3 &&& (255 : Int32)).toUInt32.toUInt16.toUInt32.toInt32)), .val (.int (p2 &&& (2147483647 : Int32))), .unset, .unset, .unset] [(.int ((p2 &&& (2147483647 : Int32)) % (Int32.ofNat n))), (.ref bu)])) _
        rw [ex]
        show Steps p.tables e below (T0.setTop (mkF m 336 #[.val (.int p0), .val (.int p1), .val (.int p2), .val (.int p3), .val (.long q4), .second, .val (.long q5), .second, .val (.int kk), .val (.ref bu), .val (.int (Int32.ofNat n)), .val (.int (p1 &&& (3 : Int32))), .val (.int ((p3 &&& (255 : Int32)).toUInt32.toUInt16.toUInt32.toInt32)), .val (.int (p2 &&& (2147483647 : Int32))), .unset, .unset, .unset] [(.int (Int32.ofNat ix)), (.ref bu)])) _
        refine XS.iload X0.here hx rfl (hb hby at_336) rfl ?_
        show Steps p.tables e below (T0.setTop (mkF m 338 #[.val (.int p0), .val (.int p1), .val (.int p2), .val (.int p3), .val (.long q4), .second, .val (.long q5), .second, .val (.int kk), .val (.ref bu), .val (.int (Int32.ofNat n)), .val (.int (p1 &&& (3 : Int32))), .val (.int ((p3 &&& (255 : Int32)).toUInt32.toUInt16.toUInt32.toInt32)), .val (.int (p2 &&& (2147483647 : Int32))), .unset, .unset, .unset] [(.int ((p3 &&& (255 : Int32)).toUInt32.toUInt16.toUInt32.toInt32)), (.int (Int32.ofNat ix)), (.ref bu)])) _
        refine st6 _ ?_
        show Steps p.tables e below (T6.setTop (mkF m 339 #[.val (.int p0), .val (.int p1), .val (.int p2), .val (.int p3), .val (.long q4), .second, .val (.long q5), .second, .val (.int kk), .val (.ref bu), .val (.int (Int32.ofNat n)), .val (.int (p1 &&& (3 : Int32))), .val (.int ((p3 &&& (255 : Int32)).toUInt32.toUInt16.toUInt32.toInt32)), .val (.int (p2 &&& (2147483647 : Int32))), .unset, .unset, .unset] [])) _
        refine XS.goto X6.here hx rfl (pc0 := 339) (pc' := 386) rfl (hb hby at_339) (by decide) (by decide) ?_
        exact kt
      exact ⟨T6, _, g6, n, X6, (by rw [e6]; exact K6), N6, (by rw [e6]; exact G6), hg6, by omega, fun target kt => pre7 target kt⟩
    · skip
      have pre8 : ∀ t, Steps p.tables e below (T0.setTop (mkF m 345 #[.val (.int p0), .val (.int p1), .val (.int p2), .val (.int p3), .val (.long q4), .second, .val (.long q5), .second, .val (.int kk), .val (.ref bu), .val (.int (Int32.ofNat n)), .val (.int (p1 &&& (3 : Int32))), .val (.int ((p3 &&& (255 : Int32)).toUInt32.toUInt16.toUInt32.toInt32)), .val (.int (p2 &&& (2147483647 : Int32))), .unset, .unset, .unset] [(.int (2 : Int32)), (.int (p1 &&& (3 : Int32)))])) t → Steps p.tables e below (T0.setTop (mkF m 299 #[.val (.int p0), .val (.int p1), .val (.int p2), .val (.int p3), .val (.long q4), .second, .val (.long q5), .second, .val (.int kk), .val (.ref bu), .val (.int (Int32.ofNat n)), s11, .unset, .unset, .unset, .unset, .unset] [])) t := by
        intro t kt
        refine pre3 t ?_
        show Steps p.tables e below (T0.setTop (mkF m 326 #[.val (.int p0), .val (.int p1), .val (.int p2), .val (.int p3), .val (.long q4), .second, .val (.long q5), .second, .val (.int kk), .val (.ref bu), .val (.int (Int32.ofNat n)), .val (.int (p1 &&& (3 : Int32))), .val (.int ((p3 &&& (255 : Int32)).toUInt32.toUInt16.toUInt32.toInt32)), .val (.int (p2 &&& (2147483647 : Int32))), .unset, .unset, .unset] [(.int (Int32.ofNat n))])) _
        refine XS.ifYes X0.here hx rfl (pc0 := 326) (pc' := 342) rfl (hb hby at_326) rfl ((if0 _ _).trans (flt hc4).2.2.2) (by decide) (by decide) ?_
        show Steps p.tables e below (T0.setTop (mkF m 342 #[.val (.int p0), .val (.int p1), .val (.int p2), .val (.int p3), .val (.long q4), .second, .val (.long q5), .second, .val (.int kk), .val (.ref bu), .val (.int (Int32.ofNat n)), .val (.int (p1 &&& (3 : Int32))), .val (.int ((p3 &&& (255 : Int32)).toUInt32.toUInt16.toUInt32.toInt32)), .val (.int (p2 &&& (2147483647 : Int32))), .unset, .unset, .unset] [])) _
        refine XS.iload X0.here hx rfl (hb hby at_342) rfl ?_
        show Steps p.tables e below (T0.setTop (mkF m 344 #[.val (.int p0), .val (.int p1), .val (.int p2), .val (.int p3), .val (.long q4), .second, .val (.long q5), .second, .val (.int kk), .val (.ref bu), .val (.int (Int32.ofNat n)), .val (.int (p1 &&& (3 : Int32))), .val (.int ((p3 &&& (255 : Int32)).toUInt32.toUInt16.toUInt32.toInt32)), .val (.int (p2 &&& (2147483647 : Int32))), .unset, .unset, .unset] [(.int (p1 &&& (3 : Int32)))])) _
        refine XS.iconst X0.here hx rfl (hb hby at_344) ?_
        exact kt
      by_cases hc9 : (p1 &&& (3 : Int32)) = (2 : Int32)
      · skip
        obtain ⟨ix, hix, ex⟩ := own_remn p2 (n := n + 1) (Nat.succ_pos n) (by omega)
        have pre10 : ∀ t, Steps p.tables e below (T0.setTop (mkF m 386 #[.val (.int p0), .val (.int p1), .val (.int p2), .val (.int p3), .val (.long q4), .second, .val (.long q5), .second, .val (.int kk), .val (.ref bu), .val (.int (Int32.ofNat ix)), .val (.int (p1 &&& (3 : Int32))), .val (.int ((p3 &&& (255 : Int32)).toUInt32.toUInt16.toUInt32.toInt32)), .val (.int (p2 &&& (2147483647 : Int32))), .unset, .unset, .unset] [])) t → Steps p.tables e below (T0.setTop (mkF m 299 #[.val (.int p0), .val (.int p1), .val (.int p2), .val (.int p3), .val (.long q4), .second, .val (.long q5), .second, .val (.int kk), .val (.ref bu), .val (.int (Int32.ofNat n)), s11, .unset, .unset, .unset, .unset, .unset] [])) t := by
          intro t kt
          refine pre8 t ?_
          show Steps p.tables e below (T0.setTop (mkF m 345 #[.val (.int p0), .val (.int p1), .val (.int p2), .val (.int p3), .val (.long q4), .second, .val (.long q5), .second, .val (.int kk), .val (.ref bu), .val (.int (Int32.ofNat n)), .val (.int (p1 &&& (3 : Int32))), .val (.int ((p3 &&& (255 : Int32)).toUInt32.toUInt16.toUInt32.toInt32)), .val (.int (p2 &&& (2147483647 : Int32))), .unset, .unset, .unset] [(.int (2 : Int32)), (.int (p1 &&& (3 : Int32)))])) _
          refine XS.icmpNo X0.here hx rfl (hb hby at_345) rfl (teq hc9).2 ?_
          show Steps p.tables e below (T0.setTop (mkF m 348 #[.val (.int p0), .val (.int p1), .val (.int p2), .val (.int p3), .val (.long q4), .second, .val (.long q5), .second, .val (.int kk), .val (.ref bu), .val (.int (Int32.ofNat n)), .val (.int (p1 &&& (3 : Int32))), .val (.int ((p3 &&& (255 : Int32)).toUInt32.toUInt16.toUInt32.toInt32)), .val (.int (p2 &&& (2147483647 : Int32))), .unset, .unset, .unset] [])) _
          refine XS.iload X0.here hx rfl (hb hby at_348) rfl ?_
          show Steps p.tables e below (T0.setTop (mkF m 350 #[.val (.int p0), .val (.int p1), .val (.int p2), .val (.int p3), .val (.long q4), .second, .val (.long q5), .second, .val (.int kk), .val (.ref bu), .val (.int (Int32.ofNat n)), .val (.int (p1 &&& (3 : Int32))), .val (.int ((p3 &&& (255 : Int32)).toUInt32.toUInt16.toUInt32.toInt32)), .val (.int (p2 &&& (2147483647 : Int32))), .unset, .unset, .unset] [(.int (p2 &&& (2147483647 : Int32)))])) _
          refine XS.iload X0.here hx rfl (hb hby at_350) rfl ?_
          show Steps p.tables e below (T0.setTop (mkF m 352 #[.val (.int p0), .val (.int p1), .val (.int p2), .val (.int p3), .val (.long q4), .second, .val (.long q5), .second, .val (.int kk), .val (.ref bu), .val (.int (Int32.ofNat n)), .val (.int (p1 &&& (3 : Int32))), .val (.int ((p3 &&& (255 : Int32)).toUInt32.toUInt16.toUInt32.toInt32)), .val (.int (p2 &&& (2147483647 : Int32))), .unset, .unset, .unset] [(.int (Int32.ofNat n)), (.int (p2 &&& (2147483647 : Int32)))])) _
          refine XS.iconst X0.here hx rfl (hb hby at_352) ?_
          show Steps p.tables e below (T0.setTop (mkF m 353 #[.val (.int p0), .val (.int p1), .val (.int p2), .val (.int p3), .val (.long q4), .second, .val (.long q5), .second, .val (.int kk), .val (.ref bu), .val (.int (Int32.ofNat n)), .val (.int (p1 &&& (3 : Int32))), .val (.int ((p3 &&& (255 : Int32)).toUInt32.toUInt16.toUInt32.toInt32)), .val (.int (p2 &&& (2147483647 : Int32))), .unset, .unset, .unset] [(.int (1 : Int32)), (.int (Int32.ofNat n)), (.int (p2 &&& (2147483647 : Int32)))])) _
          refine XS.iadd X0.here hx rfl (hb hby at_353) rfl ?_
          show Steps p.tables e below (T0.setTop (mkF m 354 #[.val (.int p0), .val (.int p1), .val (.int p2), .val (.int p3), .val (.long q4), .second, .val (.long q5), .second, .val (.int kk), .val (.ref bu), .val (.int (Int32.ofNat n)), .val (.int (p1 &&& (3 : Int32))), .val (.int ((p3 &&& (255 : Int32)).toUInt32.toUInt16.toUInt32.toInt32)), .val (.int (p2 &&& (2147483647 : Int32))), .unset, .unset, .unset] [(.int ((Int32.ofNat n) + (1 : Int32))), (.int (p2 &&& (2147483647 : Int32)))])) _
          rw [own_oneI]
          show Steps p.tables e below (T0.setTop (mkF m 354 #[.val (.int p0), .val (.int p1), .val (.int p2), .val (.int p3), .val (.long q4), .second, .val (.long q5), .second, .val (.int kk), .val (.ref bu), .val (.int (Int32.ofNat n)), .val (.int (p1 &&& (3 : Int32))), .val (.int ((p3 &&& (255 : Int32)).toUInt32.toUInt16.toUInt32.toInt32)), .val (.int (p2 &&& (2147483647 : Int32))), .unset, .unset, .unset] [(.int (Int32.ofNat (n + 1))), (.int (p2 &&& (2147483647 : Int32)))])) _
          refine iremM (g := (mkF m 354 #[.val (.int p0), .val (.int p1), .val (.int p2), .val (.int p3), .val (.long q4), .second, .val (.long q5), .second, .val (.int kk), .val (.ref bu), .val (.int (Int32.ofNat n)), .val (.int (p1 &&& (3 : Int32))), .val (.int ((p3 &&& (255 : Int32)).toUInt32.toUInt16.toUInt32.toInt32)), .val (.int (p2 &&& (2147483647 : Int32))), .unset, .unset, .unset] [(.int (Int32.ofNat (n + 1))), (.int (p2 &&& (2147483647 : Int32)))])) X0 hx rfl (hb hby at_354) rfl (own_nzn (n := n + 1) (Nat.succ_pos n) (by omega)) ?_
          show Steps p.tables e below (T0.setTop (mkF m 355 #[.val (.int p0), .val (.int p1), .val (.int p2), .val (.int p3), .val (.long q4), .second, .val (.long q5), .second, .val (.int kk), .val (.ref bu), .val (.int (Int32.ofNat n)), .val (.int (p1 &&& (3 : Int32))), .val (.int ((p3 &&& (255 : Int32)).toUInt32.toUInt16.toUInt32.toInt32)), .val (.int (p2 &&& (2147483647 : Int32))), .unset, .unset, .unset] [(.int ((p2 &&& (2147483647 : Int32)) % (Int32.ofNat (n + 1))))])) _
          rw [ex]
          show Steps p.tables e below (T0.setTop (mkF m 355 #[.val (.int p0), .val (.int p1), .val (.int p2), .val (.int p3), .val (.long q4), .second, .val (.long q5), .second, .val (.int kk), .val (.ref bu), .val (.int (Int32.ofNat n)), .val (.int (p1 &&& (3 : Int32))), .val (.int ((p3 &&& (255 : Int32)).toUInt32.toUInt16.toUInt32.toInt32)), .val (.int (p2 &&& (2147483647 : Int32))), .unset, .unset, .unset] [(.int (Int32.ofNat ix))])) _
          refine XS.istore X0.here hx rfl (hb hby at_355) rfl (l' := #[.val (.int p0), .val (.int p1), .val (.int p2), .val (.int p3), .val (.long q4), .second, .val (.long q5), .second, .val (.int kk), .val (.ref bu), .val (.int (Int32.ofNat ix)), .val (.int (p1 &&& (3 : Int32))), .val (.int ((p3 &&& (255 : Int32)).toUInt32.toUInt16.toUInt32.toInt32)), .val (.int (p2 &&& (2147483647 : Int32))), .unset, .unset, .unset]) rfl ?_
          show Steps p.tables e below (T0.setTop (mkF m 357 #[.val (.int p0), .val (.int p1), .val (.int p2), .val (.int p3), .val (.long q4), .second, .val (.long q5), .second, .val (.int kk), .val (.ref bu), .val (.int (Int32.ofNat ix)), .val (.int (p1 &&& (3 : Int32))), .val (.int ((p3 &&& (255 : Int32)).toUInt32.toUInt16.toUInt32.toInt32)), .val (.int (p2 &&& (2147483647 : Int32))), .unset, .unset, .unset] [])) _
          refine XS.goto X0.here hx rfl (pc0 := 357) (pc' := 386) rfl (hb hby at_357) (by decide) (by decide) ?_
          exact kt
        exact ⟨T0, _, g0, ix, X0, (by rw [e0]; exact (Keep.refl h0 [bu])), N0, (by rw [e0]; exact V_c), hgG, by omega, fun target kt => pre10 target kt⟩
      · skip
        have pre11 : ∀ t, Steps p.tables e below (T0.setTop (mkF m 363 #[.val (.int p0), .val (.int p1), .val (.int p2), .val (.int p3), .val (.long q4), .second, .val (.long q5), .second, .val (.int kk), .val (.ref bu), .val (.int (Int32.ofNat n)), .val (.int (p1 &&& (3 : Int32))), .val (.int ((p3 &&& (255 : Int32)).toUInt32.toUInt16.toUInt32.toInt32)), .val (.int (p2 &&& (2147483647 : Int32))), .unset, .unset, .unset] [(.int (3 : Int32)), (.int (p1 &&& (3 : Int32)))])) t → Steps p.tables e below (T0.setTop (mkF m 299 #[.val (.int p0), .val (.int p1), .val (.int p2), .val (.int p3), .val (.long q4), .second, .val (.long q5), .second, .val (.int kk), .val (.ref bu), .val (.int (Int32.ofNat n)), s11, .unset, .unset, .unset, .unset, .unset] [])) t := by
          intro t kt
          refine pre8 t ?_
          show Steps p.tables e below (T0.setTop (mkF m 345 #[.val (.int p0), .val (.int p1), .val (.int p2), .val (.int p3), .val (.long q4), .second, .val (.long q5), .second, .val (.int kk), .val (.ref bu), .val (.int (Int32.ofNat n)), .val (.int (p1 &&& (3 : Int32))), .val (.int ((p3 &&& (255 : Int32)).toUInt32.toUInt16.toUInt32.toInt32)), .val (.int (p2 &&& (2147483647 : Int32))), .unset, .unset, .unset] [(.int (2 : Int32)), (.int (p1 &&& (3 : Int32)))])) _
          refine XS.icmpYes X0.here hx rfl (pc0 := 345) (pc' := 360) rfl (hb hby at_345) rfl (feq hc9).2 (by decide) (by decide) ?_
          show Steps p.tables e below (T0.setTop (mkF m 360 #[.val (.int p0), .val (.int p1), .val (.int p2), .val (.int p3), .val (.long q4), .second, .val (.long q5), .second, .val (.int kk), .val (.ref bu), .val (.int (Int32.ofNat n)), .val (.int (p1 &&& (3 : Int32))), .val (.int ((p3 &&& (255 : Int32)).toUInt32.toUInt16.toUInt32.toInt32)), .val (.int (p2 &&& (2147483647 : Int32))), .unset, .unset, .unset] [])) _
          refine XS.iload X0.here hx rfl (hb hby at_360) rfl ?_
          show Steps p.tables e below (T0.setTop (mkF m 362 #[.val (.int p0), .val (.int p1), .val (.int p2), .val (.int p3), .val (.long q4), .second, .val (.long q5), .second, .val (.int kk), .val (.ref bu), .val (.int (Int32.ofNat n)), .val (.int (p1 &&& (3 : Int32))), .val (.int ((p3 &&& (255 : Int32)).toUInt32.toUInt16.toUInt32.toInt32)), .val (.int (p2 &&& (2147483647 : Int32))), .unset, .unset, .unset] [(.int (p1 &&& (3 : Int32)))])) _
          refine XS.iconst X0.here hx rfl (hb hby at_362) ?_
          exact kt
        by_cases hc12 : (p1 &&& (3 : Int32)) = (3 : Int32)
        · skip
          have pre13 : ∀ t, Steps p.tables e below (T0.setTop (mkF m 370 #[.val (.int p0), .val (.int p1), .val (.int p2), .val (.int p3), .val (.long q4), .second, .val (.long q5), .second, .val (.int kk), .val (.ref bu), .val (.int (Int32.ofNat n)), .val (.int (p1 &&& (3 : Int32))), .val (.int ((p3 &&& (255 : Int32)).toUInt32.toUInt16.toUInt32.toInt32)), .val (.int (p2 &&& (2147483647 : Int32))), .unset, .unset, .unset] [(.int (9 : Int32)), (.int (Int32.ofNat n))])) t → Steps p.tables e below (T0.setTop (mkF m 299 #[.val (.int p0), .val (.int p1), .val (.int p2), .val (.int p3), .val (.long q4), .second, .val (.long q5), .second, .val (.int kk), .val (.ref bu), .val (.int (Int32.ofNat n)), s11, .unset, .unset, .unset, .unset, .unset] [])) t := by
            intro t kt
            refine pre11 t ?_
            show Steps p.tables e below (T0.setTop (mkF m 363 #[.val (.int p0), .val (.int p1), .val (.int p2), .val (.int p3), .val (.long q4), .second, .val (.long q5), .second, .val (.int kk), .val (.ref bu), .val (.int (Int32.ofNat n)), .val (.int (p1 &&& (3 : Int32))), .val (.int ((p3 &&& (255 : Int32)).toUInt32.toUInt16.toUInt32.toInt32)), .val (.int (p2 &&& (2147483647 : Int32))), .unset, .unset, .unset] [(.int (3 : Int32)), (.int (p1 &&& (3 : Int32)))])) _
            refine XS.icmpNo X0.here hx rfl (hb hby at_363) rfl (teq hc12).2 ?_
            show Steps p.tables e below (T0.setTop (mkF m 366 #[.val (.int p0), .val (.int p1), .val (.int p2), .val (.int p3), .val (.long q4), .second, .val (.long q5), .second, .val (.int kk), .val (.ref bu), .val (.int (Int32.ofNat n)), .val (.int (p1 &&& (3 : Int32))), .val (.int ((p3 &&& (255 : Int32)).toUInt32.toUInt16.toUInt32.toInt32)), .val (.int (p2 &&& (2147483647 : Int32))), .unset, .unset, .unset] [])) _
            refine XS.iload X0.here hx rfl (hb hby at_366) rfl ?_
            show Steps p.tables e below (T0.setTop (mkF m 368 #[.val (.int p0), .val (.int p1), .val (.int p2), .val (.int p3), .val (.long q4), .second, .val (.long q5), .second, .val (.int kk), .val (.ref bu), .val (.int (Int32.ofNat n)), .val (.int (p1 &&& (3 : Int32))), .val (.int ((p3 &&& (255 : Int32)).toUInt32.toUInt16.toUInt32.toInt32)), .val (.int (p2 &&& (2147483647 : Int32))), .unset, .unset, .unset] [(.int (Int32.ofNat n))])) _
            refine XS.bipush X0.here hx rfl (hb hby at_368) ?_
            exact kt
          by_cases hc14 : (Int32.ofNat n) < (9 : Int32)
          · skip
            have hl9 : n < 9 := (own_ltI (j := 9) (by omega) (by decide)).mp hc14
            obtain ⟨cl15, Ar15, qa15, Sa15, Ha15⟩ := id V_c
            have hin15 : ¬ ((Int32.ofNat n) < 0 ∨ cl15.slots.size ≤ (Int32.ofNat n).toNatClampNeg) := own_inb Sa15 hl9 (show 9 < 2147483648 by decide)
            obtain ⟨T16, h16, X16, e16, W16, st16⟩ := stC X0 hx hZ e0 Ar15 (j := (Int32.ofNat n)) hin15 (g := (mkF m 379 #[.val (.int p0), .val (.int p1), .val (.int p2), .val (.int p3), .val (.long q4), .second, .val (.long q5), .second, .val (.int kk), .val (.ref bu), .val (.int (Int32.ofNat n)), .val (.int (p1 &&& (3 : Int32))), .val (.int ((p3 &&& (255 : Int32)).toUInt32.toUInt16.toUInt32.toInt32)), .val (.int (p2 &&& (2147483647 : Int32))), .unset, .unset, .unset] [(.int ((p3 &&& (255 : Int32)).toUInt32.toUInt16.toUInt32.toInt32)), (.int (Int32.ofNat n)), (.ref bu)])) rfl rfl (hb hby at_379)
            obtain ⟨g16, G16, hg16⟩ := own_gset Ar15 qa15 Sa15 Ha15 W16 hgG (own_ci (own_and255 _))
            have Zs16 : n0 ≤ h16.size := Nat.le_trans Z0 (Nat.le_of_eq W16.size.symm)
            have K16 : Keep h0 h16 [bu] := (Keep.refl h0 [bu]).wr W16 (Or.inl (List.mem_of_getElem? (i := 0) rfl))
            have N16 := Fr.snoc X16 N0 g_b
            have pre17 : ∀ t, Steps p.tables e below (T16.setTop (mkF m 386 #[.val (.int p0), .val (.int p1), .val (.int p2), .val (.int p3), .val (.long q4), .second, .val (.long q5), .second, .val (.int kk), .val (.ref bu), .val (.int (Int32.ofNat (n + 1))), .val (.int (p1 &&& (3 : Int32))), .val (.int ((p3 &&& (255 : Int32)).toUInt32.toUInt16.toUInt32.toInt32)), .val (.int (p2 &&& (2147483647 : Int32))), .unset, .unset, .unset] [])) t → Steps p.tables e below (T0.setTop (mkF m 299 #[.val (.int p0), .val (.int p1), .val (.int p2), .val (.int p3), .val (.long q4), .second, .val (.long q5), .second, .val (.int kk), .val (.ref bu), .val (.int (Int32.ofNat n)), s11, .unset, .unset, .unset, .unset, .unset] [])) t := by
              intro t kt
              refine pre13 t ?_
              show Steps p.tables e below (T0.setTop (mkF m 370 #[.val (.int p0), .val (.int p1), .val (.int p2), .val (.int p3), .val (.long q4), .second, .val (.long q5), .second, .val (.int kk), .val (.ref bu), .val (.int (Int32.ofNat n)), .val (.int (p1 &&& (3 : Int32))), .val (.int ((p3 &&& (255 : Int32)).toUInt32.toUInt16.toUInt32.toInt32)), .val (.int (p2 &&& (2147483647 : Int32))), .unset, .unset, .unset] [(.int (9 : Int32)), (.int (Int32.ofNat n))])) _
              refine XS.icmpNo X0.here hx rfl (hb hby at_370) rfl (tlt hc14).2.1 ?_
              show Steps p.tables e below (T0.setTop (mkF m 373 #[.val (.int p0), .val (.int p1), .val (.int p2), .val (.int p3), .val (.long q4), .second, .val (.long q5), .second, .val (.int kk), .val (.ref bu), .val (.int (Int32.ofNat n)), .val (.int (p1 &&& (3 : Int32))), .val (.int ((p3 &&& (255 : Int32)).toUInt32.toUInt16.toUInt32.toInt32)), .val (.int (p2 &&& (2147483647 : Int32))), .unset, .unset, .unset] [])) _
              refine XS.aload X0.here hx rfl (hb hby at_373) rfl rfl ?_
              show Steps p.tables e below (T0.setTop (mkF m 375 #[.val (.int p0), .val (.int p1), .val (.int p2), .val (.int p3), .val (.long q4), .second, .val (.long q5), .second, .val (.int kk), .val (.ref bu), .val (.int (Int32.ofNat n)), .val (.int (p1 &&& (3 : Int32))), .val (.int ((p3 &&& (255 : Int32)).toUInt32.toUInt16.toUInt32.toInt32)), .val (.int (p2 &&& (2147483647 : Int32))), .unset, .unset, .unset] [(.ref bu)])) _
              refine XS.iload X0.here hx rfl (hb hby at_375) rfl ?_
              show Steps p.tables e below (T0.setTop (mkF m 377 #[.val (.int p0), .val (.int p1), .val (.int p2), .val (.int p3), .val (.long q4), .second, .val (.long q5), .second, .val (.int kk), .val (.ref bu), .val (.int (Int32.ofNat n)), .val (.int (p1 &&& (3 : Int32))), .val (.int ((p3 &&& (255 : Int32)).toUInt32.toUInt16.toUInt32.toInt32)), .val (.int (p2 &&& (2147483647 : Int32))), .unset, .unset, .unset] [(.int (Int32.ofNat n)), (.ref bu)])) _
              refine XS.iload X0.here hx rfl (hb hby at_377) rfl ?_
              show Steps p.tables e below (T0.setTop (mkF m 379 #[.val (.int p0), .val (.int p1), .val (.int p2), .val (.int p3), .val (.long q4), .second, .val (.long q5), .second, .val (.int kk), .val (.ref bu), .val (.int (Int32.ofNat n)), .val (.int (p1 &&& (3 : Int32))), .val (.int ((p3 &&& (255 : Int32)).toUInt32.toUInt16.toUInt32.toInt32)), .val (.int (p2 &&& (2147483647 : Int32))), .unset, .unset, .unset] [(.int ((p3 &&& (255 : Int32)).toUInt32.toUInt16.toUInt32.toInt32)), (.int (Int32.ofNat n)), (.ref bu)])) _
              refine st16 _ ?_
              show Steps p.tables e below (T16.setTop (mkF m 380 #[.val (.int p0), .val (.int p1), .val (.int p2), .val (.int p3), .val (.long q4), .second, .val (.long q5), .second, .val (.int kk), .val (.ref bu), .val (.int (Int32.ofNat n)), .val (.int (p1 &&& (3 : Int32))), .val (.int ((p3 &&& (255 : Int32)).toUInt32.toUInt16.toUInt32.toInt32)), .val (.int (p2 &&& (2147483647 : Int32))), .unset, .unset, .unset] [])) _
              refine XS.iload X16.here hx rfl (hb hby at_380) rfl ?_
              show Steps p.tables e below (T16.setTop (mkF m 382 #[.val (.int p0), .val (.int p1), .val (.int p2), .val (.int p3), .val (.long q4), .second, .val (.long q5), .second, .val (.int kk), .val (.ref bu), .val (.int (Int32.ofNat n)), .val (.int (p1 &&& (3 : Int32))), .val (.int ((p3 &&& (255 : Int32)).toUInt32.toUInt16.toUInt32.toInt32)), .val (.int (p2 &&& (2147483647 : Int32))), .unset, .unset, .unset] [(.int (Int32.ofNat n))])) _
              refine XS.iconst X16.here hx rfl (hb hby at_382) ?_
              show Steps p.tables e below (T16.setTop (mkF m 383 #[.val (.int p0), .val (.int p1), .val (.int p2), .val (.int p3), .val (.long q4), .second, .val (.long q5), .second, .val (.int kk), .val (.ref bu), .val (.int (Int32.ofNat n)), .val (.int (p1 &&& (3 : Int32))), .val (.int ((p3 &&& (255 : Int32)).toUInt32.toUInt16.toUInt32.toInt32)), .val (.int (p2 &&& (2147483647 : Int32))), .unset, .unset, .unset] [(.int (1 : Int32)), (.int (Int32.ofNat n))])) _
              refine XS.iadd X16.here hx rfl (hb hby at_383) rfl ?_
              show Steps p.tables e below (T16.setTop (mkF m 384 #[.val (.int p0), .val (.int p1), .val (.int p2), .val (.int p3), .val (.long q4), .second, .val (.long q5), .second, .val (.int kk), .val (.ref bu), .val (.int (Int32.ofNat n)), .val (.int (p1 &&& (3 : Int32))), .val (.int ((p3 &&& (255 : Int32)).toUInt32.toUInt16.toUInt32.toInt32)), .val (.int (p2 &&& (2147483647 : Int32))), .unset, .unset, .unset] [(.int ((Int32.ofNat n) + (1 : Int32)))])) _
              rw [own_oneI]
              show Steps p.tables e below (T16.setTop (mkF m 384 #[.val (.int p0), .val (.int p1), .val (.int p2), .val (.int p3), .val (.long q4), .second, .val (.long q5), .second, .val (.int kk), .val (.ref bu), .val (.int (Int32.ofNat n)), .val (.int (p1 &&& (3 : Int32))), .val (.int ((p3 &&& (255 : Int32)).toUInt32.toUInt16.toUInt32.toInt32)), .val (.int (p2 &&& (2147483647 : Int32))), .unset, .unset, .unset] [(.int (Int32.ofNat (n + 1)))])) _
              refine XS.istore X16.here hx rfl (hb hby at_384) rfl (l' := #[.val (.int p0), .val (.int p1), .val (.int p2), .val (.int p3), .val (.long q4), .second, .val (.long q5), .second, .val (.int kk), .val (.ref bu), .val (.int (Int32.ofNat (n + 1))), .val (.int (p1 &&& (3 : Int32))), .val (.int ((p3 &&& (255 : Int32)).toUInt32.toUInt16.toUInt32.toInt32)), .val (.int (p2 &&& (2147483647 : Int32))), .unset, .unset, .unset]) rfl ?_
              exact kt
            exact ⟨T16, _, g16, (n + 1), X16, (by rw [e16]; exact K16), N16, (by rw [e16]; exact G16), hg16, by omega, fun target kt => pre17 target kt⟩
          · skip
            have pre18 : ∀ t, Steps p.tables e below (T0.setTop (mkF m 386 #[.val (.int p0), .val (.int p1), .val (.int p2), .val (.int p3), .val (.long q4), .second, .val (.long q5), .second, .val (.int kk), .val (.ref bu), .val (.int (Int32.ofNat n)), .val (.int (p1 &&& (3 : Int32))), .val (.int ((p3 &&& (255 : Int32)).toUInt32.toUInt16.toUInt32.toInt32)), .val (.int (p2 &&& (2147483647 : Int32))), .unset, .unset, .unset] [])) t → Steps p.tables e below (T0.setTop (mkF m 299 #[.val (.int p0), .val (.int p1), .val (.int p2), .val (.int p3), .val (.long q4), .second, .val (.long q5), .second, .val (.int kk), .val (.ref bu), .val (.int (Int32.ofNat n)), s11, .unset, .unset, .unset, .unset, .unset] [])) t := by
              intro t kt
              refine pre13 t ?_
              show Steps p.tables e below (T0.setTop (mkF m 370 #[.val (.int p0), .val (.int p1), .val (.int p2), .val (.int p3), .val (.long q4), .second, .val (.long q5), .second, .val (.int kk), .val (.ref bu), .val (.int (Int32.ofNat n)), .val (.int (p1 &&& (3 : Int32))), .val (.int ((p3 &&& (255 : Int32)).toUInt32.toUInt16.toUInt32.toInt32)), .val (.int (p2 &&& (2147483647 : Int32))), .unset, .unset, .unset] [(.int (9 : Int32)), (.int (Int32.ofNat n))])) _
              refine XS.icmpYes X0.here hx rfl (pc0 := 370) (pc' := 386) rfl (hb hby at_370) rfl (flt hc14).2.1 (by decide) (by decide) ?_
              exact kt
            exact ⟨T0, _, g0, n, X0, (by rw [e0]; exact (Keep.refl h0 [bu])), N0, (by rw [e0]; exact V_c), hgG, by omega, fun target kt => pre18 target kt⟩
        · skip
          have pre19 : ∀ t, Steps p.tables e below (T0.setTop (mkF m 386 #[.val (.int p0), .val (.int p1), .val (.int p2), .val (.int p3), .val (.long q4), .second, .val (.long q5), .second, .val (.int kk), .val (.ref bu), .val (.int (Int32.ofNat n)), .val (.int (p1 &&& (3 : Int32))), .val (.int ((p3 &&& (255 : Int32)).toUInt32.toUInt16.toUInt32.toInt32)), .val (.int (p2 &&& (2147483647 : Int32))), .unset, .unset, .unset] [])) t → Steps p.tables e below (T0.setTop (mkF m 299 #[.val (.int p0), .val (.int p1), .val (.int p2), .val (.int p3), .val (.long q4), .second, .val (.long q5), .second, .val (.int kk), .val (.ref bu), .val (.int (Int32.ofNat n)), s11, .unset, .unset, .unset, .unset, .unset] [])) t := by
            intro t kt
            refine pre11 t ?_
            show Steps p.tables e below (T0.setTop (mkF m 363 #[.val (.int p0), .val (.int p1), .val (.int p2), .val (.int p3), .val (.long q4), .second, .val (.long q5), .second, .val (.int kk), .val (.ref bu), .val (.int (Int32.ofNat n)), .val (.int (p1 &&& (3 : Int32))), .val (.int ((p3 &&& (255 : Int32)).toUInt32.toUInt16.toUInt32.toInt32)), .val (.int (p2 &&& (2147483647 : Int32))), .unset, .unset, .unset] [(.int (3 : Int32)), (.int (p1 &&& (3 : Int32)))])) _
            refine XS.icmpYes X0.here hx rfl (pc0 := 363) (pc' := 386) rfl (hb hby at_363) rfl (feq hc12).2 (by decide) (by decide) ?_
            exact kt
          exact ⟨T0, _, g0, n, X0, (by rw [e0]; exact (Keep.refl h0 [bu])), N0, (by rw [e0]; exact V_c), hgG, by omega, fun target kt => pre19 target kt⟩
  · skip
    have pre20 : ∀ t, Steps p.tables e below (T0.setTop (mkF m 345 #[.val (.int p0), .val (.int p1), .val (.int p2), .val (.int p3), .val (.long q4), .second, .val (.long q5), .second, .val (.int kk), .val (.ref bu), .val (.int (Int32.ofNat n)), .val (.int (p1 &&& (3 : Int32))), .val (.int ((p3 &&& (255 : Int32)).toUInt32.toUInt16.toUInt32.toInt32)), .val (.int (p2 &&& (2147483647 : Int32))), .unset, .unset, .unset] [(.int (2 : Int32)), (.int (p1 &&& (3 : Int32)))])) t → Steps p.tables e below (T0.setTop (mkF m 299 #[.val (.int p0), .val (.int p1), .val (.int p2), .val (.int p3), .val (.long q4), .second, .val (.long q5), .second, .val (.int kk), .val (.ref bu), .val (.int (Int32.ofNat n)), s11, .unset, .unset, .unset, .unset, .unset] [])) t := by
      intro t kt
      refine pre1 t ?_
      show Steps p.tables e below (T0.setTop (mkF m 321 #[.val (.int p0), .val (.int p1), .val (.int p2), .val (.int p3), .val (.long q4), .second, .val (.long q5), .second, .val (.int kk), .val (.ref bu), .val (.int (Int32.ofNat n)), .val (.int (p1 &&& (3 : Int32))), .val (.int ((p3 &&& (255 : Int32)).toUInt32.toUInt16.toUInt32.toInt32)), .val (.int (p2 &&& (2147483647 : Int32))), .unset, .unset, .unset] [(.int (1 : Int32)), (.int (p1 &&& (3 : Int32)))])) _
      refine XS.icmpYes X0.here hx rfl (pc0 := 321) (pc' := 342) rfl (hb hby at_321) rfl (feq hc2).2 (by decide) (by decide) ?_
      show Steps p.tables e below (T0.setTop (mkF m 342 #[.val (.int p0), .val (.int p1), .val (.int p2), .val (.int p3), .val (.long q4), .second, .val (.long q5), .second, .val (.int kk), .val (.ref bu), .val (.int (Int32.ofNat n)), .val (.int (p1 &&& (3 : Int32))), .val (.int ((p3 &&& (255 : Int32)).toUInt32.toUInt16.toUInt32.toInt32)), .val (.int (p2 &&& (2147483647 : Int32))), .unset, .unset, .unset] [])) _
      refine XS.iload X0.here hx rfl (hb hby at_342) rfl ?_
      show Steps p.tables e below (T0.setTop (mkF m 344 #[.val (.int p0), .val (.int p1), .val (.int p2), .val (.int p3), .val (.long q4), .second, .val (.long q5), .second, .val (.int kk), .val (.ref bu), .val (.int (Int32.ofNat n)), .val (.int (p1 &&& (3 : Int32))), .val (.int ((p3 &&& (255 : Int32)).toUInt32.toUInt16.toUInt32.toInt32)), .val (.int (p2 &&& (2147483647 : Int32))), .unset, .unset, .unset] [(.int (p1 &&& (3 : Int32)))])) _
      refine XS.iconst X0.here hx rfl (hb hby at_344) ?_
      exact kt
    by_cases hc21 : (p1 &&& (3 : Int32)) = (2 : Int32)
    · skip
      obtain ⟨ix, hix, ex⟩ := own_remn p2 (n := n + 1) (Nat.succ_pos n) (by omega)
      have pre22 : ∀ t, Steps p.tables e below (T0.setTop (mkF m 386 #[.val (.int p0), .val (.int p1), .val (.int p2), .val (.int p3), .val (.long q4), .second, .val (.long q5), .second, .val (.int kk), .val (.ref bu), .val (.int (Int32.ofNat ix)), .val (.int (p1 &&& (3 : Int32))), .val (.int ((p3 &&& (255 : Int32)).toUInt32.toUInt16.toUInt32.toInt32)), .val (.int (p2 &&& (2147483647 : Int32))), .unset, .unset, .unset] [])) t → Steps p.tables e below (T0.setTop (mkF m 299 #[.val (.int p0), .val (.int p1), .val (.int p2), .val (.int p3), .val (.long q4), .second, .val (.long q5), .second, .val (.int kk), .val (.ref bu), .val (.int (Int32.ofNat n)), s11, .unset, .unset, .unset, .unset, .unset] [])) t := by
        intro t kt
        refine pre20 t ?_
        show Steps p.tables e below (T0.setTop (mkF m 345 #[.val (.int p0), .val (.int p1), .val (.int p2), .val (.int p3), .val (.long q4), .second, .val (.long q5), .second, .val (.int kk), .val (.ref bu), .val (.int (Int32.ofNat n)), .val (.int (p1 &&& (3 : Int32))), .val (.int ((p3 &&& (255 : Int32)).toUInt32.toUInt16.toUInt32.toInt32)), .val (.int (p2 &&& (2147483647 : Int32))), .unset, .unset, .unset] [(.int (2 : Int32)), (.int (p1 &&& (3 : Int32)))])) _
        refine XS.icmpNo X0.here hx rfl (hb hby at_345) rfl (teq hc21).2 ?_
        show Steps p.tables e below (T0.setTop (mkF m 348 #[.val (.int p0), .val (.int p1), .val (.int p2), .val (.int p3), .val (.long q4), .second, .val (.long q5), .second, .val (.int kk), .val (.ref bu), .val (.int (Int32.ofNat n)), .val (.int (p1 &&& (3 : Int32))), .val (.int ((p3 &&& (255 : Int32)).toUInt32.toUInt16.toUInt32.toInt32)), .val (.int (p2 &&& (2147483647 : Int32))), .unset, .unset, .unset] [])) _
        refine XS.iload X0.here hx rfl (hb hby at_348) rfl ?_
        show Steps p.tables e below (T0.setTop (mkF m 350 #[.val (.int p0), .val (.int p1), .val (.int p2), .val (.int p3), .val (.long q4), .second, .val (.long q5), .second, .val (.int kk), .val (.ref bu), .val (.int (Int32.ofNat n)), .val (.int (p1 &&& (3 : Int32))), .val (.int ((p3 &&& (255 : Int32)).toUInt32.toUInt16.toUInt32.toInt32)), .val (.int (p2 &&& (2147483647 : Int32))), .unset, .unset, .unset] [(.int (p2 &&& (2147483647 : Int32)))])) _
        refine XS.iload X0.here hx rfl (hb hby at_350) rfl ?_
        show Steps p.tables e below (T0.setTop (mkF m 352 #[.val (.int p0), .val (.int p1), .val (.int p2), .val (.int p3), .val (.long q4), .second, .val (.long q5), .second, .val (.int kk), .val (.ref bu), .val (.int (Int32.ofNat n)), .val (.int (p1 &&& (3 : Int32))), .val (.int ((p3 &&& (255 : Int32)).toUInt32.toUInt16.toUInt32.toInt32)), .val (.int (p2 &&& (2147483647 : Int32))), .unset, .unset, .unset] [(.int (Int32.ofNat n)), (.int (p2 &&& (2147483647 : Int32)))])) _
        refine XS.iconst X0.here hx rfl (hb hby at_352) ?_
        show Steps p.tables e below (T0.setTop (mkF m 353 #[.val (.int p0), .val (.int p1), .val (.int p2), .val (.int p3), .val (.long q4), .second, .val (.long q5), .second, .val (.int kk), .val (.ref bu), .val (.int (Int32.ofNat n)), .val (.int (p1 &&& (3 : Int32))), .val (.int ((p3 &&& (255 : Int32)).toUInt32.toUInt16.toUInt32.toInt32)), .val (.int (p2 &&& (2147483647 : Int32))), .unset, .unset, .unset] [(.int (1 : Int32)), (.int (Int32.ofNat n)), (.int (p2 &&& (2147483647 : Int32)))])) _
        refine XS.iadd X0.here hx rfl (hb hby at_353) rfl ?_
        show Steps p.tables e below (T0.setTop (mkF m 354 #[.val (.int p0), .val (.int p1), .val (.int p2), .val (.int p3), .val (.long q4), .second, .val (.long q5), .second, .val (.int kk), .val (.ref bu), .val (.int (Int32.ofNat n)), .val (.int (p1 &&& (3 : Int32))), .val (.int ((p3 &&& (255 : Int32)).toUInt32.toUInt16.toUInt32.toInt32)), .val (.int (p2 &&& (2147483647 : Int32))), .unset, .unset, .unset] [(.int ((Int32.ofNat n) + (1 : Int32))), (.int (p2 &&& (2147483647 : Int32)))])) _
        rw [own_oneI]
        show Steps p.tables e below (T0.setTop (mkF m 354 #[.val (.int p0), .val (.int p1), .val (.int p2), .val (.int p3), .val (.long q4), .second, .val (.long q5), .second, .val (.int kk), .val (.ref bu), .val (.int (Int32.ofNat n)), .val (.int (p1 &&& (3 : Int32))), .val (.int ((p3 &&& (255 : Int32)).toUInt32.toUInt16.toUInt32.toInt32)), .val (.int (p2 &&& (2147483647 : Int32))), .unset, .unset, .unset] [(.int (Int32.ofNat (n + 1))), (.int (p2 &&& (2147483647 : Int32)))])) _
        refine iremM (g := (mkF m 354 #[.val (.int p0), .val (.int p1), .val (.int p2), .val (.int p3), .val (.long q4), .second, .val (.long q5), .second, .val (.int kk), .val (.ref bu), .val (.int (Int32.ofNat n)), .val (.int (p1 &&& (3 : Int32))), .val (.int ((p3 &&& (255 : Int32)).toUInt32.toUInt16.toUInt32.toInt32)), .val (.int (p2 &&& (2147483647 : Int32))), .unset, .unset, .unset] [(.int (Int32.ofNat (n + 1))), (.int (p2 &&& (2147483647 : Int32)))])) X0 hx rfl (hb hby at_354) rfl (own_nzn (n := n + 1) (Nat.succ_pos n) (by omega)) ?_
        show Steps p.tables e below (T0.setTop (mkF m 355 #[.val (.int p0), .val (.int p1), .val (.int p2), .val (.int p3), .val (.long q4), .second, .val (.long q5), .second, .val (.int kk), .val (.ref bu), .val (.int (Int32.ofNat n)), .val (.int (p1 &&& (3 : Int32))), .val (.int ((p3 &&& (255 : Int32)).toUInt32.toUInt16.toUInt32.toInt32)), .val (.int (p2 &&& (2147483647 : Int32))), .unset, .unset, .unset] [(.int ((p2 &&& (2147483647 : Int32)) % (Int32.ofNat (n + 1))))])) _
        rw [ex]
        show Steps p.tables e below (T0.setTop (mkF m 355 #[.val (.int p0), .val (.int p1), .val (.int p2), .val (.int p3), .val (.long q4), .second, .val (.long q5), .second, .val (.int kk), .val (.ref bu), .val (.int (Int32.ofNat n)), .val (.int (p1 &&& (3 : Int32))), .val (.int ((p3 &&& (255 : Int32)).toUInt32.toUInt16.toUInt32.toInt32)), .val (.int (p2 &&& (2147483647 : Int32))), .unset, .unset, .unset] [(.int (Int32.ofNat ix))])) _
        refine XS.istore X0.here hx rfl (hb hby at_355) rfl (l' := #[.val (.int p0), .val (.int p1), .val (.int p2), .val (.int p3), .val (.long q4), .second, .val (.long q5), .second, .val (.int kk), .val (.ref bu), .val (.int (Int32.ofNat ix)), .val (.int (p1 &&& (3 : Int32))), .val (.int ((p3 &&& (255 : Int32)).toUInt32.toUInt16.toUInt32.toInt32)), .val (.int (p2 &&& (2147483647 : Int32))), .unset, .unset, .unset]) rfl ?_
        show Steps p.tables e below (T0.setTop (mkF m 357 #[.val (.int p0), .val (.int p1), .val (.int p2), .val (.int p3), .val (.long q4), .second, .val (.long q5), .second, .val (.int kk), .val (.ref bu), .val (.int (Int32.ofNat ix)), .val (.int (p1 &&& (3 : Int32))), .val (.int ((p3 &&& (255 : Int32)).toUInt32.toUInt16.toUInt32.toInt32)), .val (.int (p2 &&& (2147483647 : Int32))), .unset, .unset, .unset] [])) _
        refine XS.goto X0.here hx rfl (pc0 := 357) (pc' := 386) rfl (hb hby at_357) (by decide) (by decide) ?_
        exact kt
      exact ⟨T0, _, g0, ix, X0, (by rw [e0]; exact (Keep.refl h0 [bu])), N0, (by rw [e0]; exact V_c), hgG, by omega, fun target kt => pre22 target kt⟩
    · skip
      have pre23 : ∀ t, Steps p.tables e below (T0.setTop (mkF m 363 #[.val (.int p0), .val (.int p1), .val (.int p2), .val (.int p3), .val (.long q4), .second, .val (.long q5), .second, .val (.int kk), .val (.ref bu), .val (.int (Int32.ofNat n)), .val (.int (p1 &&& (3 : Int32))), .val (.int ((p3 &&& (255 : Int32)).toUInt32.toUInt16.toUInt32.toInt32)), .val (.int (p2 &&& (2147483647 : Int32))), .unset, .unset, .unset] [(.int (3 : Int32)), (.int (p1 &&& (3 : Int32)))])) t → Steps p.tables e below (T0.setTop (mkF m 299 #[.val (.int p0), .val (.int p1), .val (.int p2), .val (.int p3), .val (.long q4), .second, .val (.long q5), .second, .val (.int kk), .val (.ref bu), .val (.int (Int32.ofNat n)), s11, .unset, .unset, .unset, .unset, .unset] [])) t := by
        intro t kt
        refine pre20 t ?_
        show Steps p.tables e below (T0.setTop (mkF m 345 #[.val (.int p0), .val (.int p1), .val (.int p2), .val (.int p3), .val (.long q4), .second, .val (.long q5), .second, .val (.int kk), .val (.ref bu), .val (.int (Int32.ofNat n)), .val (.int (p1 &&& (3 : Int32))), .val (.int ((p3 &&& (255 : Int32)).toUInt32.toUInt16.toUInt32.toInt32)), .val (.int (p2 &&& (2147483647 : Int32))), .unset, .unset, .unset] [(.int (2 : Int32)), (.int (p1 &&& (3 : Int32)))])) _
        refine XS.icmpYes X0.here hx rfl (pc0 := 345) (pc' := 360) rfl (hb hby at_345) rfl (feq hc21).2 (by decide) (by decide) ?_
        show Steps p.tables e below (T0.setTop (mkF m 360 #[.val (.int p0), .val (.int p1), .val (.int p2), .val (.int p3), .val (.long q4), .second, .val (.long q5), .second, .val (.int kk), .val (.ref bu), .val (.int (Int32.ofNat n)), .val (.int (p1 &&& (3 : Int32))), .val (.int ((p3 &&& (255 : Int32)).toUInt32.toUInt16.toUInt32.toInt32)), .val (.int (p2 &&& (2147483647 : Int32))), .unset, .unset, .unset] [])) _
        refine XS.iload X0.here hx rfl (hb hby at_360) rfl ?_
        show Steps p.tables e below (T0.setTop (mkF m 362 #[.val (.int p0), .val (.int p1), .val (.int p2), .val (.int p3), .val (.long q4), .second, .val (.long q5), .second, .val (.int kk), .val (.ref bu), .val (.int (Int32.ofNat n)), .val (.int (p1 &&& (3 : Int32))), .val (.int ((p3 &&& (255 : Int32)).toUInt32.toUInt16.toUInt32.toInt32)), .val (.int (p2 &&& (2147483647 : Int32))), .unset, .unset, .unset] [(.int (p1 &&& (3 : Int32)))])) _
        refine XS.iconst X0.here hx rfl (hb hby at_362) ?_
        exact kt
      by_cases hc24 : (p1 &&& (3 : Int32)) = (3 : Int32)
      · skip
        have pre25 : ∀ t, Steps p.tables e below (T0.setTop (mkF m 370 #[.val (.int p0), .val (.int p1), .val (.int p2), .val (.int p3), .val (.long q4), .second, .val (.long q5), .second, .val (.int kk), .val (.ref bu), .val (.int (Int32.ofNat n)), .val (.int (p1 &&& (3 : Int32))), .val (.int ((p3 &&& (255 : Int32)).toUInt32.toUInt16.toUInt32.toInt32)), .val (.int (p2 &&& (2147483647 : Int32))), .unset, .unset, .unset] [(.int (9 : Int32)), (.int (Int32.ofNat n))])) t → Steps p.tables e below (T0.setTop (mkF m 299 #[.val (.int p0), .val (.int p1), .val (.int p2), .val (.int p3), .val (.long q4), .second, .val (.long q5), .second, .val (.int kk), .val (.ref bu), .val (.int (Int32.ofNat n)), s11, .unset, .unset, .unset, .unset, .unset] [])) t := by
          intro t kt
          refine pre23 t ?_
          show Steps p.tables e below (T0.setTop (mkF m 363 #[.val (.int p0), .val (.int p1), .val (.int p2), .val (.int p3), .val (.long q4), .second, .val (.long q5), .second, .val (.int kk), .val (.ref bu), .val (.int (Int32.ofNat n)), .val (.int (p1 &&& (3 : Int32))), .val (.int ((p3 &&& (255 : Int32)).toUInt32.toUInt16.toUInt32.toInt32)), .val (.int (p2 &&& (2147483647 : Int32))), .unset, .unset, .unset] [(.int (3 : Int32)), (.int (p1 &&& (3 : Int32)))])) _
          refine XS.icmpNo X0.here hx rfl (hb hby at_363) rfl (teq hc24).2 ?_
          show Steps p.tables e below (T0.setTop (mkF m 366 #[.val (.int p0), .val (.int p1), .val (.int p2), .val (.int p3), .val (.long q4), .second, .val (.long q5), .second, .val (.int kk), .val (.ref bu), .val (.int (Int32.ofNat n)), .val (.int (p1 &&& (3 : Int32))), .val (.int ((p3 &&& (255 : Int32)).toUInt32.toUInt16.toUInt32.toInt32)), .val (.int (p2 &&& (2147483647 : Int32))), .unset, .unset, .unset] [])) _
          refine XS.iload X0.here hx rfl (hb hby at_366) rfl ?_
          show Steps p.tables e below (T0.setTop (mkF m 368 #[.val (.int p0), .val (.int p1), .val (.int p2), .val (.int p3), .val (.long q4), .second, .val (.long q5), .second, .val (.int kk), .val (.ref bu), .val (.int (Int32.ofNat n)), .val (.int (p1 &&& (3 : Int32))), .val (.int ((p3 &&& (255 : Int32)).toUInt32.toUInt16.toUInt32.toInt32)), .val (.int (p2 &&& (2147483647 : Int32))), .unset, .unset, .unset] [(.int (Int32.ofNat n))])) _
          refine XS.bipush X0.here hx rfl (hb hby at_368) ?_
          exact kt
        by_cases hc26 : (Int32.ofNat n) < (9 : Int32)
        · skip
          have hl9 : n < 9 := (own_ltI (j := 9) (by omega) (by decide)).mp hc26
          obtain ⟨cl27, Ar27, qa27, Sa27, Ha27⟩ := id V_c
          have hin27 : ¬ ((Int32.ofNat n) < 0 ∨ cl27.slots.size ≤ (Int32.ofNat n).toNatClampNeg) := own_inb Sa27 hl9 (show 9 < 2147483648 by decide)
          obtain ⟨T28, h28, X28, e28, W28, st28⟩ := stC X0 hx hZ e0 Ar27 (j := (Int32.ofNat n)) hin27 (g := (mkF m 379 #[.val (.int p0), .val (.int p1), .val (.int p2), .val (.int p3), .val (.long q4), .second, .val (.long q5), .second, .val (.int kk), .val (.ref bu), .val (.int (Int32.ofNat n)), .val (.int (p1 &&& (3 : Int32))), .val (.int ((p3 &&& (255 : Int32)).toUInt32.toUInt16.toUInt32.toInt32)), .val (.int (p2 &&& (2147483647 : Int32))), .unset, .unset, .unset] [(.int ((p3 &&& (255 : Int32)).toUInt32.toUInt16.toUInt32.toInt32)), (.int (Int32.ofNat n)), (.ref bu)])) rfl rfl (hb hby at_379)
          obtain ⟨g28, G28, hg28⟩ := own_gset Ar27 qa27 Sa27 Ha27 W28 hgG (own_ci (own_and255 _))
          have Zs28 : n0 ≤ h28.size := Nat.le_trans Z0 (Nat.le_of_eq W28.size.symm)
          have K28 : Keep h0 h28 [bu] := (Keep.refl h0 [bu]).wr W28 (Or.inl (List.mem_of_getElem? (i := 0) rfl))
          have N28 := Fr.snoc X28 N0 g_b
          have pre29 : ∀ t, Steps p.tables e below (T28.setTop (mkF m 386 #[.val (.int p0), .val (.int p1), .val (.int p2), .val (.int p3), .val (.long q4), .second, .val (.long q5), .second, .val (.int kk), .val (.ref bu), .val (.int (Int32.ofNat (n + 1))), .val (.int (p1 &&& (3 : Int32))), .val (.int ((p3 &&& (255 : Int32)).toUInt32.toUInt16.toUInt32.toInt32)), .val (.int (p2 &&& (2147483647 : Int32))), .unset, .unset, .unset] [])) t → Steps p.tables e below (T0.setTop (mkF m 299 #[.val (.int p0), .val (.int p1), .val (.int p2), .val (.int p3), .val (.long q4), .second, .val (.long q5), .second, .val (.int kk), .val (.ref bu), .val (.int (Int32.ofNat n)), s11, .unset, .unset, .unset, .unset, .unset] [])) t := by
            intro t kt
            refine pre25 t ?_
            show Steps p.tables e below (T0.setTop (mkF m 370 #[.val (.int p0), .val (.int p1), .val (.int p2), .val (.int p3), .val (.long q4), .second, .val (.long q5), .second, .val (.int kk), .val (.ref bu), .val (.int (Int32.ofNat n)), .val (.int (p1 &&& (3 : Int32))), .val (.int ((p3 &&& (255 : Int32)).toUInt32.toUInt16.toUInt32.toInt32)), .val (.int (p2 &&& (2147483647 : Int32))), .unset, .unset, .unset] [(.int (9 : Int32)), (.int (Int32.ofNat n))])) _
            refine XS.icmpNo X0.here hx rfl (hb hby at_370) rfl (tlt hc26).2.1 ?_
            show Steps p.tables e below (T0.setTop (mkF m 373 #[.val (.int p0), .val (.int p1), .val (.int p2), .val (.int p3), .val (.long q4), .second, .val (.long q5), .second, .val (.int kk), .val (.ref bu), .val (.int (Int32.ofNat n)), .val (.int (p1 &&& (3 : Int32))), .val (.int ((p3 &&& (255 : Int32)).toUInt32.toUInt16.toUInt32.toInt32)), .val (.int (p2 &&& (2147483647 : Int32))), .unset, .unset, .unset] [])) _
            refine XS.aload X0.here hx rfl (hb hby at_373) rfl rfl ?_
            show Steps p.tables e below (T0.setTop (mkF m 375 #[.val (.int p0), .val (.int p1), .val (.int p2), .val (.int p3), .val (.long q4), .second, .val (.long q5), .second, .val (.int kk), .val (.ref bu), .val (.int (Int32.ofNat n)), .val (.int (p1 &&& (3 : Int32))), .val (.int ((p3 &&& (255 : Int32)).toUInt32.toUInt16.toUInt32.toInt32)), .val (.int (p2 &&& (2147483647 : Int32))), .unset, .unset, .unset] [(.ref bu)])) _
            refine XS.iload X0.here hx rfl (hb hby at_375) rfl ?_
            show Steps p.tables e below (T0.setTop (mkF m 377 #[.val (.int p0), .val (.int p1), .val (.int p2), .val (.int p3), .val (.long q4), .second, .val (.long q5), .second, .val (.int kk), .val (.ref bu), .val (.int (Int32.ofNat n)), .val (.int (p1 &&& (3 : Int32))), .val (.int ((p3 &&& (255 : Int32)).toUInt32.toUInt16.toUInt32.toInt32)), .val (.int (p2 &&& (2147483647 : Int32))), .unset, .unset, .unset] [(.int (Int32.ofNat n)), (.ref bu)])) _
            refine XS.iload X0.here hx rfl (hb hby at_377) rfl ?_
            show Steps p.tables e below (T0.setTop (mkF m 379 #[.val (.int p0), .val (.int p1), .val (.int p2), .val (.int p3), .val (.long q4), .second, .val (.long q5), .second, .val (.int kk), .val (.ref bu), .val (.int (Int32.ofNat n)), .val (.int (p1 &&& (3 : Int32))), .val (.int ((p3 &&& (255 : Int32)).toUInt32.toUInt16.toUInt32.toInt32)), .val (.int (p2 &&& (2147483647 : Int32))), .unset, .unset, .unset] [(.int ((p3 &&& (255 : Int32)).toUInt32.toUInt16.toUInt32.toInt32)), (.int (Int32.ofNat n)), (.ref bu)])) _
            refine st28 _ ?_
            show Steps p.tables e below (T28.setTop (mkF m 380 #[.val (.int p0), .val (.int p1), .val (.int p2), .val (.int p3), .val (.long q4), .second, .val (.long q5), .second, .val (.int kk), .val (.ref bu), .val (.int (Int32.ofNat n)), .val (.int (p1 &&& (3 : Int32))), .val (.int ((p3 &&& (255 : Int32)).toUInt32.toUInt16.toUInt32.toInt32)), .val (.int (p2 &&& (2147483647 : Int32))), .unset, .unset, .unset] [])) _
            refine XS.iload X28.here hx rfl (hb hby at_380) rfl ?_
            show Steps p.tables e below (T28.setTop (mkF m 382 #[.val (.int p0), .val (.int p1), .val (.int p2), .val (.int p3), .val (.long q4), .second, .val (.long q5), .second, .val (.int kk), .val (.ref bu), .val (.int (Int32.ofNat n)), .val (.int (p1 &&& (3 : Int32))), .val (.int ((p3 &&& (255 : Int32)).toUInt32.toUInt16.toUInt32.toInt32)), .val (.int (p2 &&& (2147483647 : Int32))), .unset, .unset, .unset] [(.int (Int32.ofNat n))])) _
            refine XS.iconst X28.here hx rfl (hb hby at_382) ?_
            show Steps p.tables e below (T28.setTop (mkF m 383 #[.val (.int p0), .val (.int p1), .val (.int p2), .val (.int p3), .val (.long q4), .second, .val (.long q5), .second, .val (.int kk), .val (.ref bu), .val (.int (Int32.ofNat n)), .val (.int (p1 &&& (3 : Int32))), .val (.int ((p3 &&& (255 : Int32)).toUInt32.toUInt16.toUInt32.toInt32)), .val (.int (p2 &&& (2147483647 : Int32))), .unset, .unset, .unset] [(.int (1 : Int32)), (.int (Int32.ofNat n))])) _
            refine XS.iadd X28.here hx rfl (hb hby at_383) rfl ?_
            show Steps p.tables e below (T28.setTop (mkF m 384 #[.val (.int p0), .val (.int p1), .val (.int p2), .val (.int p3), .val (.long q4), .second, .val (.long q5), .second, .val (.int kk), .val (.ref bu), .val (.int (Int32.ofNat n)), .val (.int (p1 &&& (3 : Int32))), .val (.int ((p3 &&& (255 : Int32)).toUInt32.toUInt16.toUInt32.toInt32)), .val (.int (p2 &&& (2147483647 : Int32))), .unset, .unset, .unset] [(.int ((Int32.ofNat n) + (1 : Int32)))])) _
            rw [own_oneI]
            show Steps p.tables e below (T28.setTop (mkF m 384 #[.val (.int p0), .val (.int p1), .val (.int p2), .val (.int p3), .val (.long q4), .second, .val (.long q5), .second, .val (.int kk), .val (.ref bu), .val (.int (Int32.ofNat n)), .val (.int (p1 &&& (3 : Int32))), .val (.int ((p3 &&& (255 : Int32)).toUInt32.toUInt16.toUInt32.toInt32)), .val (.int (p2 &&& (2147483647 : Int32))), .unset, .unset, .unset] [(.int (Int32.ofNat (n + 1)))])) _
            refine XS.istore X28.here hx rfl (hb hby at_384) rfl (l' := #[.val (.int p0), .val (.int p1), .val (.int p2), .val (.int p3), .val (.long q4), .second, .val (.long q5), .second, .val (.int kk), .val (.ref bu), .val (.int (Int32.ofNat (n + 1))), .val (.int (p1 &&& (3 : Int32))), .val (.int ((p3 &&& (255 : Int32)).toUInt32.toUInt16.toUInt32.toInt32)), .val (.int (p2 &&& (2147483647 : Int32))), .unset, .unset, .unset]) rfl ?_
            exact kt
          exact ⟨T28, _, g28, (n + 1), X28, (by rw [e28]; exact K28), N28, (by rw [e28]; exact G28), hg28, by omega, fun target kt => pre29 target kt⟩
        · skip
          have pre30 : ∀ t, Steps p.tables e below (T0.setTop (mkF m 386 #[.val (.int p0), .val (.int p1), .val (.int p2), .val (.int p3), .val (.long q4), .second, .val (.long q5), .second, .val (.int kk), .val (.ref bu), .val (.int (Int32.ofNat n)), .val (.int (p1 &&& (3 : Int32))), .val (.int ((p3 &&& (255 : Int32)).toUInt32.toUInt16.toUInt32.toInt32)), .val (.int (p2 &&& (2147483647 : Int32))), .unset, .unset, .unset] [])) t → Steps p.tables e below (T0.setTop (mkF m 299 #[.val (.int p0), .val (.int p1), .val (.int p2), .val (.int p3), .val (.long q4), .second, .val (.long q5), .second, .val (.int kk), .val (.ref bu), .val (.int (Int32.ofNat n)), s11, .unset, .unset, .unset, .unset, .unset] [])) t := by
            intro t kt
            refine pre25 t ?_
            show Steps p.tables e below (T0.setTop (mkF m 370 #[.val (.int p0), .val (.int p1), .val (.int p2), .val (.int p3), .val (.long q4), .second, .val (.long q5), .second, .val (.int kk), .val (.ref bu), .val (.int (Int32.ofNat n)), .val (.int (p1 &&& (3 : Int32))), .val (.int ((p3 &&& (255 : Int32)).toUInt32.toUInt16.toUInt32.toInt32)), .val (.int (p2 &&& (2147483647 : Int32))), .unset, .unset, .unset] [(.int (9 : Int32)), (.int (Int32.ofNat n))])) _
            refine XS.icmpYes X0.here hx rfl (pc0 := 370) (pc' := 386) rfl (hb hby at_370) rfl (flt hc26).2.1 (by decide) (by decide) ?_
            exact kt
          exact ⟨T0, _, g0, n, X0, (by rw [e0]; exact (Keep.refl h0 [bu])), N0, (by rw [e0]; exact V_c), hgG, by omega, fun target kt => pre30 target kt⟩
      · skip
        have pre31 : ∀ t, Steps p.tables e below (T0.setTop (mkF m 386 #[.val (.int p0), .val (.int p1), .val (.int p2), .val (.int p3), .val (.long q4), .second, .val (.long q5), .second, .val (.int kk), .val (.ref bu), .val (.int (Int32.ofNat n)), .val (.int (p1 &&& (3 : Int32))), .val (.int ((p3 &&& (255 : Int32)).toUInt32.toUInt16.toUInt32.toInt32)), .val (.int (p2 &&& (2147483647 : Int32))), .unset, .unset, .unset] [])) t → Steps p.tables e below (T0.setTop (mkF m 299 #[.val (.int p0), .val (.int p1), .val (.int p2), .val (.int p3), .val (.long q4), .second, .val (.long q5), .second, .val (.int kk), .val (.ref bu), .val (.int (Int32.ofNat n)), s11, .unset, .unset, .unset, .unset, .unset] [])) t := by
          intro t kt
          refine pre23 t ?_
          show Steps p.tables e below (T0.setTop (mkF m 363 #[.val (.int p0), .val (.int p1), .val (.int p2), .val (.int p3), .val (.long q4), .second, .val (.long q5), .second, .val (.int kk), .val (.ref bu), .val (.int (Int32.ofNat n)), .val (.int (p1 &&& (3 : Int32))), .val (.int ((p3 &&& (255 : Int32)).toUInt32.toUInt16.toUInt32.toInt32)), .val (.int (p2 &&& (2147483647 : Int32))), .unset, .unset, .unset] [(.int (3 : Int32)), (.int (p1 &&& (3 : Int32)))])) _
          refine XS.icmpYes X0.here hx rfl (pc0 := 363) (pc' := 386) rfl (hb hby at_363) rfl (feq hc24).2 (by decide) (by decide) ?_
          exact kt
        exact ⟨T0, _, g0, n, X0, (by rw [e0]; exact (Keep.refl h0 [bu])), N0, (by rw [e0]; exact V_c), hgG, by omega, fun target kt => pre31 target kt⟩
set_option maxRecDepth 65536 in
set_option maxHeartbeats 40000000 in
theorem lwA {p : Program} {l : Launch} {e : Env} {s : State} {m : MethodId} {args : Array Value} {below : List Frame} {meth : Method} {c : Code} {T0 : State} {locs : List Loc} {Z : State} {a0 : Array Value} {h0 : Heap} {vm0 : Vm} {k0 : Nat} (n0 : Nat) (p0 p1 p2 p3 : Int32) (q4 q5 : Int64) (kk : Int32) (bu : Addr) (kb : ClassId) (g0 : Nat → Int32) (X0 : Stand p l e room_1 (s.setVm vm0) m args below meth c T0 locs 1 9) (hx : p.tables.exec = Jvm.exec) (hZ : Z.Warmed39 vm0) (hw : ∀ d ∈ tables_1, d.before a0 Z = true) (hby : c.code = code) (hml : c.maxLocals = 17) (hown : vm0.findClass "heslar/KindByCodePinLaw" = some m.cls) (e0 : T0.heap = h0) (hS0 : s.Since vm0 k0) (hk0 : k0 ≤ h0.size) (hEL : EW Z a0 consts_1) (hCH : CHv Z consts_1 vm0 h0) (N0 : Fr n0 locs) (Z0 : n0 ≤ h0.size) (g_b : n0 ≤ bu) (V_c : GA Z h0 bu kb .char 9 (fun i => .int (g0 i))) (hgG : Rg g0) (cs : Int32) (hcs : ¬ cs = (0 : Int32)) (S_C : Sta Z h0 "java/lang/String" "COMPACT_STRINGS" "Z" (.int cs)) (fm : Value) (hfm : fm.isRef = true) (S_F : Sta Z h0 "jdk/internal/util/Preconditions" "SIOOBE_FORMATTER" "Ljava/util/function/BiFunction;" fm) :
    ∃ (T' : State) (vm' : Vm) (k' : Nat) (locs' : List Loc) (g' : Nat → Int32) (n : Nat) (s11 : Slot), Stand p l e room_1 (s.setVm vm') m args below meth c T' locs' 3 45 ∧ s.Since vm' k' ∧ k' ≤ T'.heap.size ∧ Z.Warmed39 vm' ∧ vm'.findClass "heslar/KindByCodePinLaw" = some m.cls ∧ CHr Z consts_1 vm0 h0 vm' T'.heap ∧ Keep h0 T'.heap [bu] ∧ Fr n0 locs' ∧ GA Z T'.heap bu kb .char 9 (fun i => .int (g' i)) ∧ Rg g' ∧ n ≤ 9 ∧ One s11 ∧ ∀ target, Steps p.tables e below (T'.setTop (mkF m 299 #[.val (.int p0), .val (.int p1), .val (.int p2), .val (.int p3), .val (.long q4), .second, .val (.long q5), .second, .val (.int kk), .val (.ref bu), .val (.int (Int32.ofNat n)), s11, .unset, .unset, .unset, .unset, .unset] [])) target → Steps p.tables e below (T0.setTop (mkF m 14 #[.val (.int p0), .val (.int p1), .val (.int p2), .val (.int p3), .val (.long q4), .second, .val (.long q5), .second, .val (.int kk), .val (.ref bu), .unset, .unset, .unset, .unset, .unset, .unset, .unset] [])) target := by
  have hCR0 : CHr Z consts_1 vm0 h0 vm0 h0 := CHr.refl hCH
  have pre0 : ∀ t, Steps p.tables e below (T0.setTop (mkF m 14 #[.val (.int p0), .val (.int p1), .val (.int p2), .val (.int p3), .val (.long q4), .second, .val (.long q5), .second, .val (.int kk), .val (.ref bu), .unset, .unset, .unset, .unset, .unset, .unset, .unset] [])) t → Steps p.tables e below (T0.setTop (mkF m 14 #[.val (.int p0), .val (.int p1), .val (.int p2), .val (.int p3), .val (.long q4), .second, .val (.long q5), .second, .val (.int kk), .val (.ref bu), .unset, .unset, .unset, .unset, .unset, .unset, .unset] [])) t := fun _ k => k
  have pre1 : ∀ t, Steps p.tables e below (T0.setTop (mkF m 17 #[.val (.int p0), .val (.int p1), .val (.int p2), .val (.int p3), .val (.long q4), .second, .val (.long q5), .second, .val (.int kk), .val (.ref bu), .unset, .unset, .unset, .unset, .unset, .unset, .unset] [(.int (3 : Int32)), (.int kk)])) t → Steps p.tables e below (T0.setTop (mkF m 14 #[.val (.int p0), .val (.int p1), .val (.int p2), .val (.int p3), .val (.long q4), .second, .val (.long q5), .second, .val (.int kk), .val (.ref bu), .unset, .unset, .unset, .unset, .unset, .unset, .unset] [])) t := by
    intro t kt
    refine pre0 t ?_
    show Steps p.tables e below (T0.setTop (mkF m 14 #[.val (.int p0), .val (.int p1), .val (.int p2), .val (.int p3), .val (.long q4), .second, .val (.long q5), .second, .val (.int kk), .val (.ref bu), .unset, .unset, .unset, .unset, .unset, .unset, .unset] [])) _
    refine XS.iload X0.here hx rfl (hb hby at_14) rfl ?_
    show Steps p.tables e below (T0.setTop (mkF m 16 #[.val (.int p0), .val (.int p1), .val (.int p2), .val (.int p3), .val (.long q4), .second, .val (.long q5), .second, .val (.int kk), .val (.ref bu), .unset, .unset, .unset, .unset, .unset, .unset, .unset] [(.int kk)])) _
    refine XS.iconst X0.here hx rfl (hb hby at_16) ?_
    exact kt
  by_cases hc2 : kk < (3 : Int32)
  · skip
    have pre3 : ∀ t, Steps p.tables e below (T0.setTop (mkF m 22 #[.val (.int p0), .val (.int p1), .val (.int p2), .val (.int p3), .val (.long q4), .second, .val (.long q5), .second, .val (.int kk), .val (.ref bu), .unset, .unset, .unset, .unset, .unset, .unset, .unset] [(.int kk)])) t → Steps p.tables e below (T0.setTop (mkF m 14 #[.val (.int p0), .val (.int p1), .val (.int p2), .val (.int p3), .val (.long q4), .second, .val (.long q5), .second, .val (.int kk), .val (.ref bu), .unset, .unset, .unset, .unset, .unset, .unset, .unset] [])) t := by
      intro t kt
      refine pre1 t ?_
      show Steps p.tables e below (T0.setTop (mkF m 17 #[.val (.int p0), .val (.int p1), .val (.int p2), .val (.int p3), .val (.long q4), .second, .val (.long q5), .second, .val (.int kk), .val (.ref bu), .unset, .unset, .unset, .unset, .unset, .unset, .unset] [(.int (3 : Int32)), (.int kk)])) _
      refine XS.icmpNo X0.here hx rfl (hb hby at_17) rfl (tlt hc2).2.1 ?_
      show Steps p.tables e below (T0.setTop (mkF m 20 #[.val (.int p0), .val (.int p1), .val (.int p2), .val (.int p3), .val (.long q4), .second, .val (.long q5), .second, .val (.int kk), .val (.ref bu), .unset, .unset, .unset, .unset, .unset, .unset, .unset] [])) _
      refine XS.iload X0.here hx rfl (hb hby at_20) rfl ?_
      exact kt
    by_cases hc4 : kk = (0 : Int32)
    · skip
      obtain ⟨a5, T5, h5, kk5, bb5, kb5, X5, e5, E5, hS5, hk5, hZ5, hown5, Ex5, Fc5, Fv5, Va5, la5, lb5, hC5, Lt5, sf5, st5⟩ := ldcCH (s := s) X0 hx hZ hown (hw _ (List.mem_of_getElem? (i := 2) rfl)) (own_strings hw) e0 hS0 hk0 hEL (by decide) hCR0.1 (vs := [.int 101, .int 120, .int 97, .int 99, .int 116]) (z := (5 : Int32)) ⟨by decide, by decide⟩ (by decide) (by decide) (g := (mkF m 25 #[.val (.int p0), .val (.int p1), .val (.int p2), .val (.int p3), .val (.long q4), .second, .val (.long q5), .second, .val (.int kk), .val (.ref bu), .unset, .unset, .unset, .unset, .unset, .unset, .unset] [])) rfl (hb hby at_25) (n := 32) (by decide) (by decide) (by decide) (by decide)
      have Zs5 : n0 ≤ h5.size := Nat.le_trans Z0 E5.1
      have K5 : Keep h0 h5 [bu] := (Keep.refl h0 [bu]).ext E5
      have hCR6 : CHr Z consts_1 vm0 h0 T5.vm h5 := hCR0.trans hC5
      have pre7 : ∀ t, Steps p.tables e below (T5.setTop (mkF m 45 #[.val (.int p0), .val (.int p1), .val (.int p2), .val (.int p3), .val (.long q4), .second, .val (.long q5), .second, .val (.int kk), .val (.ref bu), .unset, .val (.ref a5), .unset, .unset, .unset, .unset, .unset] [])) t → Steps p.tables e below (T0.setTop (mkF m 14 #[.val (.int p0), .val (.int p1), .val (.int p2), .val (.int p3), .val (.long q4), .second, .val (.long q5), .second, .val (.int kk), .val (.ref bu), .unset, .unset, .unset, .unset, .unset, .unset, .unset] [])) t := by
        intro t kt
        refine pre3 t ?_
        show Steps p.tables e below (T0.setTop (mkF m 22 #[.val (.int p0), .val (.int p1), .val (.int p2), .val (.int p3), .val (.long q4), .second, .val (.long q5), .second, .val (.int kk), .val (.ref bu), .unset, .unset, .unset, .unset, .unset, .unset, .unset] [(.int kk)])) _
        refine XS.ifNo X0.here hx rfl (hb hby at_22) rfl ((if0 _ _).trans (teq hc4).2) ?_
        show Steps p.tables e below (T0.setTop (mkF m 25 #[.val (.int p0), .val (.int p1), .val (.int p2), .val (.int p3), .val (.long q4), .second, .val (.long q5), .second, .val (.int kk), .val (.ref bu), .unset, .unset, .unset, .unset, .unset, .unset, .unset] [])) _
        refine st5 _ ?_
        show Steps p.tables e below (T5.setTop (mkF m 27 #[.val (.int p0), .val (.int p1), .val (.int p2), .val (.int p3), .val (.long q4), .second, .val (.long q5), .second, .val (.int kk), .val (.ref bu), .unset, .unset, .unset, .unset, .unset, .unset, .unset] [(.ref a5)])) _
        refine XS.goto X5.here hx rfl (pc0 := 27) (pc' := 43) rfl (hb hby at_27) (by decide) (by decide) ?_
        show Steps p.tables e below (T5.setTop (mkF m 43 #[.val (.int p0), .val (.int p1), .val (.int p2), .val (.int p3), .val (.long q4), .second, .val (.long q5), .second, .val (.int kk), .val (.ref bu), .unset, .unset, .unset, .unset, .unset, .unset, .unset] [(.ref a5)])) _
        refine XS.astore X5.here hx rfl (hb hby at_43) rfl rfl (l' := #[.val (.int p0), .val (.int p1), .val (.int p2), .val (.int p3), .val (.long q4), .second, .val (.long q5), .second, .val (.int kk), .val (.ref bu), .unset, .val (.ref a5), .unset, .unset, .unset, .unset, .unset]) rfl ?_
        exact kt
      have GG_9 := (V_c.ext E5)
      obtain ⟨clb, Arb, -⟩ := id GG_9
      have sfb := (Safe.arr (EL := consts_1) hZ5.alike Arb (by decide))
      have neb := sf5 _ sfb
      have hn8 : 5 ≤ 9 := by decide
      have S_C_10 := (S_C.ext E5)
      have S_F_11 := (S_F.ext E5)
      obtain ⟨T8, L8, g8, X8, K8, N8, G8, hg8, st8⟩ := lwA2 n0 p0 p1 p2 p3 q4 q5 kk bu kb g0 a5 bb5 kb5 5 (fun i => ([101, 120, 97, 99, 116] : List Int32).getD i 0) X5 hx hZ5 hw hby hml hown5 e5 N0 Zs5 g_b GG_9 hgG hn8 ⟨Ex5, Fc5, Fv5, own_arvGA (us := [101, 120, 97, 99, 116]) Va5 rfl⟩ (Ne.symm neb.1) (Ne.symm neb.2) cs hcs S_C_10 fm hfm S_F_11
      exact ⟨T8, T5.vm, _, L8, g8, 5, (.val (.ref a5)), X8, hS5, Nat.le_trans hk5 K8.1, hZ5, hown5, hCR6.trans (CHr.keep K8 (allS sfb all0) hCR6.1), K5.trans K8 (allS (Or.inl (List.mem_of_getElem? (i := 0) rfl)) all0), N8, G8, hg8, hn8, One.val rfl, fun target kt => pre7 target (st8 target kt)⟩
    · skip
      have pre12 : ∀ t, Steps p.tables e below (T0.setTop (mkF m 33 #[.val (.int p0), .val (.int p1), .val (.int p2), .val (.int p3), .val (.long q4), .second, .val (.long q5), .second, .val (.int kk), .val (.ref bu), .unset, .unset, .unset, .unset, .unset, .unset, .unset] [(.int (1 : Int32)), (.int kk)])) t → Steps p.tables e below (T0.setTop (mkF m 14 #[.val (.int p0), .val (.int p1), .val (.int p2), .val (.int p3), .val (.long q4), .second, .val (.long q5), .second, .val (.int kk), .val (.ref bu), .unset, .unset, .unset, .unset, .unset, .unset, .unset] [])) t := by
        intro t kt
        refine pre3 t ?_
        show Steps p.tables e below (T0.setTop (mkF m 22 #[.val (.int p0), .val (.int p1), .val (.int p2), .val (.int p3), .val (.long q4), .second, .val (.long q5), .second, .val (.int kk), .val (.ref bu), .unset, .unset, .unset, .unset, .unset, .unset, .unset] [(.int kk)])) _
        refine XS.ifYes X0.here hx rfl (pc0 := 22) (pc' := 30) rfl (hb hby at_22) rfl ((if0 _ _).trans (feq hc4).2) (by decide) (by decide) ?_
        show Steps p.tables e below (T0.setTop (mkF m 30 #[.val (.int p0), .val (.int p1), .val (.int p2), .val (.int p3), .val (.long q4), .second, .val (.long q5), .second, .val (.int kk), .val (.ref bu), .unset, .unset, .unset, .unset, .unset, .unset, .unset] [])) _
        refine XS.iload X0.here hx rfl (hb hby at_30) rfl ?_
        show Steps p.tables e below (T0.setTop (mkF m 32 #[.val (.int p0), .val (.int p1), .val (.int p2), .val (.int p3), .val (.long q4), .second, .val (.long q5), .second, .val (.int kk), .val (.ref bu), .unset, .unset, .unset, .unset, .unset, .unset, .unset] [(.int kk)])) _
        refine XS.iconst X0.here hx rfl (hb hby at_32) ?_
        exact kt
      by_cases hc13 : kk = (1 : Int32)
      · skip
        obtain ⟨a14, T14, h14, kk14, bb14, kb14, X14, e14, E14, hS14, hk14, hZ14, hown14, Ex14, Fc14, Fv14, Va14, la14, lb14, hC14, Lt14, sf14, st14⟩ := ldcCH (s := s) X0 hx hZ hown (hw _ (List.mem_of_getElem? (i := 110) rfl)) (own_strings hw) e0 hS0 hk0 hEL (by decide) hCR0.1 (vs := [.int 97, .int 99, .int 116, .int 105, .int 118, .int 105, .int 116, .int 121]) (z := (8 : Int32)) ⟨by decide, by decide⟩ (by decide) (by decide) (g := (mkF m 36 #[.val (.int p0), .val (.int p1), .val (.int p2), .val (.int p3), .val (.long q4), .second, .val (.long q5), .second, .val (.int kk), .val (.ref bu), .unset, .unset, .unset, .unset, .unset, .unset, .unset] [])) rfl (hb hby at_36) (n := 32) (by decide) (by decide) (by decide) (by decide)
        have Zs14 : n0 ≤ h14.size := Nat.le_trans Z0 E14.1
        have K14 : Keep h0 h14 [bu] := (Keep.refl h0 [bu]).ext E14
        have hCR15 : CHr Z consts_1 vm0 h0 T14.vm h14 := hCR0.trans hC14
        have pre16 : ∀ t, Steps p.tables e below (T14.setTop (mkF m 45 #[.val (.int p0), .val (.int p1), .val (.int p2), .val (.int p3), .val (.long q4), .second, .val (.long q5), .second, .val (.int kk), .val (.ref bu), .unset, .val (.ref a14), .unset, .unset, .unset, .unset, .unset] [])) t → Steps p.tables e below (T0.setTop (mkF m 14 #[.val (.int p0), .val (.int p1), .val (.int p2), .val (.int p3), .val (.long q4), .second, .val (.long q5), .second, .val (.int kk), .val (.ref bu), .unset, .unset, .unset, .unset, .unset, .unset, .unset] [])) t := by
          intro t kt
          refine pre12 t ?_
          show Steps p.tables e below (T0.setTop (mkF m 33 #[.val (.int p0), .val (.int p1), .val (.int p2), .val (.int p3), .val (.long q4), .second, .val (.long q5), .second, .val (.int kk), .val (.ref bu), .unset, .unset, .unset, .unset, .unset, .unset, .unset] [(.int (1 : Int32)), (.int kk)])) _
          refine XS.icmpNo X0.here hx rfl (hb hby at_33) rfl (teq hc13).2 ?_
          show Steps p.tables e below (T0.setTop (mkF m 36 #[.val (.int p0), .val (.int p1), .val (.int p2), .val (.int p3), .val (.long q4), .second, .val (.long q5), .second, .val (.int kk), .val (.ref bu), .unset, .unset, .unset, .unset, .unset, .unset, .unset] [])) _
          refine st14 _ ?_
          show Steps p.tables e below (T14.setTop (mkF m 38 #[.val (.int p0), .val (.int p1), .val (.int p2), .val (.int p3), .val (.long q4), .second, .val (.long q5), .second, .val (.int kk), .val (.ref bu), .unset, .unset, .unset, .unset, .unset, .unset, .unset] [(.ref a14)])) _
          refine XS.goto X14.here hx rfl (pc0 := 38) (pc' := 43) rfl (hb hby at_38) (by decide) (by decide) ?_
          show Steps p.tables e below (T14.setTop (mkF m 43 #[.val (.int p0), .val (.int p1), .val (.int p2), .val (.int p3), .val (.long q4), .second, .val (.long q5), .second, .val (.int kk), .val (.ref bu), .unset, .unset, .unset, .unset, .unset, .unset, .unset] [(.ref a14)])) _
          refine XS.astore X14.here hx rfl (hb hby at_43) rfl rfl (l' := #[.val (.int p0), .val (.int p1), .val (.int p2), .val (.int p3), .val (.long q4), .second, .val (.long q5), .second, .val (.int kk), .val (.ref bu), .unset, .val (.ref a14), .unset, .unset, .unset, .unset, .unset]) rfl ?_
          exact kt
        have GG_18 := (V_c.ext E14)
        obtain ⟨clb, Arb, -⟩ := id GG_18
        have sfb := (Safe.arr (EL := consts_1) hZ14.alike Arb (by decide))
        have neb := sf14 _ sfb
        have hn17 : 8 ≤ 9 := by decide
        have S_C_19 := (S_C.ext E14)
        have S_F_20 := (S_F.ext E14)
        obtain ⟨T17, L17, g17, X17, K17, N17, G17, hg17, st17⟩ := lwA2 n0 p0 p1 p2 p3 q4 q5 kk bu kb g0 a14 bb14 kb14 8 (fun i => ([97, 99, 116, 105, 118, 105, 116, 121] : List Int32).getD i 0) X14 hx hZ14 hw hby hml hown14 e14 N0 Zs14 g_b GG_18 hgG hn17 ⟨Ex14, Fc14, Fv14, own_arvGA (us := [97, 99, 116, 105, 118, 105, 116, 121]) Va14 rfl⟩ (Ne.symm neb.1) (Ne.symm neb.2) cs hcs S_C_19 fm hfm S_F_20
        exact ⟨T17, T14.vm, _, L17, g17, 8, (.val (.ref a14)), X17, hS14, Nat.le_trans hk14 K17.1, hZ14, hown14, hCR15.trans (CHr.keep K17 (allS sfb all0) hCR15.1), K14.trans K17 (allS (Or.inl (List.mem_of_getElem? (i := 0) rfl)) all0), N17, G17, hg17, hn17, One.val rfl, fun target kt => pre16 target (st17 target kt)⟩
      · skip
        obtain ⟨a21, T21, h21, kk21, bb21, kb21, X21, e21, E21, hS21, hk21, hZ21, hown21, Ex21, Fc21, Fv21, Va21, la21, lb21, hC21, Lt21, sf21, st21⟩ := ldcCH (s := s) X0 hx hZ hown (hw _ (List.mem_of_getElem? (i := 111) rfl)) (own_strings hw) e0 hS0 hk0 hEL (by decide) hCR0.1 (vs := [.int 109, .int 101, .int 110, .int 116, .int 105, .int 111, .int 110]) (z := (7 : Int32)) ⟨by decide, by decide⟩ (by decide) (by decide) (g := (mkF m 41 #[.val (.int p0), .val (.int p1), .val (.int p2), .val (.int p3), .val (.long q4), .second, .val (.long q5), .second, .val (.int kk), .val (.ref bu), .unset, .unset, .unset, .unset, .unset, .unset, .unset] [])) rfl (hb hby at_41) (n := 32) (by decide) (by decide) (by decide) (by decide)
        have Zs21 : n0 ≤ h21.size := Nat.le_trans Z0 E21.1
        have K21 : Keep h0 h21 [bu] := (Keep.refl h0 [bu]).ext E21
        have hCR22 : CHr Z consts_1 vm0 h0 T21.vm h21 := hCR0.trans hC21
        have pre23 : ∀ t, Steps p.tables e below (T21.setTop (mkF m 45 #[.val (.int p0), .val (.int p1), .val (.int p2), .val (.int p3), .val (.long q4), .second, .val (.long q5), .second, .val (.int kk), .val (.ref bu), .unset, .val (.ref a21), .unset, .unset, .unset, .unset, .unset] [])) t → Steps p.tables e below (T0.setTop (mkF m 14 #[.val (.int p0), .val (.int p1), .val (.int p2), .val (.int p3), .val (.long q4), .second, .val (.long q5), .second, .val (.int kk), .val (.ref bu), .unset, .unset, .unset, .unset, .unset, .unset, .unset] [])) t := by
          intro t kt
          refine pre12 t ?_
          show Steps p.tables e below (T0.setTop (mkF m 33 #[.val (.int p0), .val (.int p1), .val (.int p2), .val (.int p3), .val (.long q4), .second, .val (.long q5), .second, .val (.int kk), .val (.ref bu), .unset, .unset, .unset, .unset, .unset, .unset, .unset] [(.int (1 : Int32)), (.int kk)])) _
          refine XS.icmpYes X0.here hx rfl (pc0 := 33) (pc' := 41) rfl (hb hby at_33) rfl (feq hc13).2 (by decide) (by decide) ?_
          show Steps p.tables e below (T0.setTop (mkF m 41 #[.val (.int p0), .val (.int p1), .val (.int p2), .val (.int p3), .val (.long q4), .second, .val (.long q5), .second, .val (.int kk), .val (.ref bu), .unset, .unset, .unset, .unset, .unset, .unset, .unset] [])) _
          refine st21 _ ?_
          show Steps p.tables e below (T21.setTop (mkF m 43 #[.val (.int p0), .val (.int p1), .val (.int p2), .val (.int p3), .val (.long q4), .second, .val (.long q5), .second, .val (.int kk), .val (.ref bu), .unset, .unset, .unset, .unset, .unset, .unset, .unset] [(.ref a21)])) _
          refine XS.astore X21.here hx rfl (hb hby at_43) rfl rfl (l' := #[.val (.int p0), .val (.int p1), .val (.int p2), .val (.int p3), .val (.long q4), .second, .val (.long q5), .second, .val (.int kk), .val (.ref bu), .unset, .val (.ref a21), .unset, .unset, .unset, .unset, .unset]) rfl ?_
          exact kt
        have GG_25 := (V_c.ext E21)
        obtain ⟨clb, Arb, -⟩ := id GG_25
        have sfb := (Safe.arr (EL := consts_1) hZ21.alike Arb (by decide))
        have neb := sf21 _ sfb
        have hn24 : 7 ≤ 9 := by decide
        have S_C_26 := (S_C.ext E21)
        have S_F_27 := (S_F.ext E21)
        obtain ⟨T24, L24, g24, X24, K24, N24, G24, hg24, st24⟩ := lwA2 n0 p0 p1 p2 p3 q4 q5 kk bu kb g0 a21 bb21 kb21 7 (fun i => ([109, 101, 110, 116, 105, 111, 110] : List Int32).getD i 0) X21 hx hZ21 hw hby hml hown21 e21 N0 Zs21 g_b GG_25 hgG hn24 ⟨Ex21, Fc21, Fv21, own_arvGA (us := [109, 101, 110, 116, 105, 111, 110]) Va21 rfl⟩ (Ne.symm neb.1) (Ne.symm neb.2) cs hcs S_C_26 fm hfm S_F_27
        exact ⟨T24, T21.vm, _, L24, g24, 7, (.val (.ref a21)), X24, hS21, Nat.le_trans hk21 K24.1, hZ21, hown21, hCR22.trans (CHr.keep K24 (allS sfb all0) hCR22.1), K21.trans K24 (allS (Or.inl (List.mem_of_getElem? (i := 0) rfl)) all0), N24, G24, hg24, hn24, One.val rfl, fun target kt => pre23 target (st24 target kt)⟩
  · skip
    have pre28 : ∀ t, Steps p.tables e below (T0.setTop (mkF m 151 #[.val (.int p0), .val (.int p1), .val (.int p2), .val (.int p3), .val (.long q4), .second, .val (.long q5), .second, .val (.int kk), .val (.ref bu), .unset, .unset, .unset, .unset, .unset, .unset, .unset] [])) t → Steps p.tables e below (T0.setTop (mkF m 14 #[.val (.int p0), .val (.int p1), .val (.int p2), .val (.int p3), .val (.long q4), .second, .val (.long q5), .second, .val (.int kk), .val (.ref bu), .unset, .unset, .unset, .unset, .unset, .unset, .unset] [])) t := by
      intro t kt
      refine pre1 t ?_
      show Steps p.tables e below (T0.setTop (mkF m 17 #[.val (.int p0), .val (.int p1), .val (.int p2), .val (.int p3), .val (.long q4), .second, .val (.long q5), .second, .val (.int kk), .val (.ref bu), .unset, .unset, .unset, .unset, .unset, .unset, .unset] [(.int (3 : Int32)), (.int kk)])) _
      refine XS.icmpYes X0.here hx rfl (pc0 := 17) (pc' := 151) rfl (hb hby at_17) rfl (flt hc2).2.1 (by decide) (by decide) ?_
      exact kt
    obtain ⟨clb, Arb, -⟩ := id V_c
    have sfb := (Safe.arr (EL := consts_1) hZ.alike Arb (by decide))
    obtain ⟨T29, L29, g29, n29, X29, K29, N29, G29, hg29, hn29, st29⟩ := lwA3 n0 p0 p1 p2 p3 q4 q5 kk bu kb g0 X0 hx hZ hw hby hml hown e0 N0 Z0 g_b V_c hgG
    exact ⟨T29, vm0, _, L29, g29, n29, .unset, X29, hS0, Nat.le_trans hk0 K29.1, hZ, hown, hCR0.trans (CHr.keep K29 (allS sfb all0) hCR0.1), (Keep.refl h0 [bu]).trans K29 (allS (Or.inl (List.mem_of_getElem? (i := 0) rfl)) all0), N29, G29, hg29, hn29, One.u, fun target kt => pre28 target (st29 target kt)⟩
theorem own_rr (cl : Nat → Nat) (cf : Nat → Nat → Int32) (n : Nat) (f : Nat → Int32) : ∃ rr : Nat → Int32, ∀ i, (rr i = (1 : Int32) ∧ Same (cl i) n (cf i) f) ∨ (rr i = (0 : Int32) ∧ ¬ Same (cl i) n (cf i) f) := by
  refine ⟨fun i => @ite _ (Same (cl i) n (cf i) f) (Classical.propDecidable _) 1 0, fun i => ?_⟩
  by_cases h : Same (cl i) n (cf i) f
  · exact Or.inl ⟨if_pos h, h⟩
  · exact Or.inr ⟨if_neg h, h⟩
theorem own_flip {r : Int32} {c n N : Nat} {f g u : Nat → Int32} (h : (r = (1 : Int32) ∧ Same c n g f) ∨ (r = (0 : Int32) ∧ ¬ Same c n g f)) (hc : c = N) (hg : ∀ i, i < N → g i = u i) : (r = (1 : Int32) ∧ Same n N f u) ∨ (r = (0 : Int32) ∧ ¬ Same n N f u) := by
  subst hc
  refine h.imp (fun q => ⟨q.1, q.2.1.symm, fun i hi => ?_⟩) (fun q => ⟨q.1, fun z => q.2 ⟨z.1.symm, fun i hi => ?_⟩⟩)
  · have hi' : i < c := q.2.1 ▸ hi
    rw [← q.2.2 i hi', hg i hi']
  · rw [hg i hi]; exact (z.2 i (z.1 ▸ hi)).symm
theorem own_resC (W : Nat → Addr) (rr : Nat → Int32) : own_res W rr = .null ∨ ∃ a, own_res W rr = .ref a := by
  unfold own_res; split
  · split
    · split
      · exact Or.inl rfl
      · exact Or.inr ⟨_, rfl⟩
    · exact Or.inr ⟨_, rfl⟩
  · exact Or.inr ⟨_, rfl⟩
theorem pd__Ljava_lang_String__Lheslar_Boundary_Kind_ : parseMethodDescriptor "(Ljava/lang/String;)Lheslar/Boundary$Kind;" = some ⟨[(.object "java/lang/String")], some (.object "heslar/Boundary$Kind")⟩ := by decide +kernel
theorem pd___CI__C : parseMethodDescriptor "([CI)[C" = some ⟨[(.array .char), .int], some (.array .char)⟩ := by decide +kernel
theorem pd___C_V : parseMethodDescriptor "([C)V" = some ⟨[(.array .char)], none⟩ := by decide +kernel
theorem pn_0 : plainName "heslar/KindByCodePinLaw" = true := by first | (simp [plainName, overriddenIn]; done) | decide +kernel
theorem ef_rm0 (m : MethodId) (x0 : Int32) (x1 : Int32) (x2 : Int32) (x3 : Int32) (x4 : Int64) (x5 : Int64) : entryFrame m #[(.int x0), (.int x1), (.int x2), (.int x3), (.long x4), (.long x5)] maxLocals = mkF m 0 #[.val (.int x0), .val (.int x1), .val (.int x2), .val (.int x3), .val (.long x4), .second, .val (.long x5), .second, .unset, .unset, .unset, .unset, .unset, .unset, .unset, .unset, .unset] [] := by first | (simp [entryFrame, mkF, argsToLocals, Value.category, maxLocals]; done) | rfl
set_option maxRecDepth 65536 in
set_option maxHeartbeats 40000000 in
theorem rm0 (l : Launch) (Z : State) (a0 : Array Value) (hw : ∀ d ∈ tables_1, d.before a0 Z = true) (ws : List Jvm.Cond) (p0 : Int32) (p1 : Int32) (p2 : Int32) (p3 : Int32) (q4 : Int64) (q5 : Int64) (hEL : EW Z a0 consts_1) (W : Nat → Addr) (kV : ClassId) (aV : Addr) (h0 : Heap) (n0 : Nat) (Z0 : n0 ≤ h0.size) (S_V : Sta Z h0 "heslar/Boundary$Kind" "$VALUES" "[Lheslar/Boundary$Kind;" (.ref aV)) (E_V : Exa Z h0 aV "[Lheslar/Boundary$Kind;") (V_V : GA Z h0 aV kV (.object "heslar/Boundary$Kind") 3 (fun i => .ref (W i))) (cw cv : Nat → Addr) (ck : Nat → ClassId) (cl : Nat → Nat) (cf : Nat → Nat → Int32) (hcl : ∀ i, i < 3 → cl i ≤ 4000) (hF : ∀ i, i < 3 → Fld Z h0 (W i) "heslar/Boundary$Kind" "code" "Ljava/lang/String;" (.ref (cw i))) (hE : ∀ i, i < 3 → Exa Z h0 (W i) "heslar/Boundary$Kind") (hSB : ∀ i, i < 3 → SB Z h0 (cw i) (cv i) (ck i) (cl i) (cf i)) (S_0 : Sta Z h0 "heslar/Boundary$Kind" "EXACT" "Lheslar/Boundary$Kind;" (.ref (W 0))) (S_1 : Sta Z h0 "heslar/Boundary$Kind" "ACTIVITY" "Lheslar/Boundary$Kind;" (.ref (W 1))) (S_2 : Sta Z h0 "heslar/Boundary$Kind" "MENTION" "Lheslar/Boundary$Kind;" (.ref (W 2))) (hl0 : cl 0 = 5) (hl1 : cl 1 = 8) (hl2 : cl 2 = 7) (hf0 : ∀ i, i < 5 → cf 0 i = ([101, 120, 97, 99, 116] : List Int32).getD i 0) (hf1 : ∀ i, i < 8 → cf 1 i = ([97, 99, 116, 105, 118, 105, 116, 121] : List Int32).getD i 0) (hf2 : ∀ i, i < 7 → cf 2 i = ([109, 101, 110, 116, 105, 111, 110] : List Int32).getD i 0) (cs : Int32) (hcs : ¬ cs = (0 : Int32)) (S_C : Sta Z h0 "java/lang/String" "COMPACT_STRINGS" "Z" (.int cs)) (fm : Value) (hfm : fm.isRef = true) (S_F : Sta Z h0 "jdk/internal/util/Preconditions" "SIOOBE_FORMATTER" "Ljava/util/function/BiFunction;" fm) :
    MetFree l x (head1 (Jvm.Cond.code x code maxLocals ret :: ws) room_1) (fun a U => a = #[(.int p0), (.int p1), (.int p2), (.int p3), (.long q4), (.long q5)] ∧ Z.Warmed39 U.vm ∧ U.heap = h0 ∧ CHv Z consts_1 U.vm h0) (fun _ _ _ _ _ => True) (fun _ U o U' => ∃ v L, o = .returned v ∧ QL n0 v U'.heap L ∧ CHr Z consts_1 U.vm U.heap U'.vm U'.heap ∧ ReturnedEndW U o U' L room_1.cells room_1.slots) := by
  refine MetFree.of_bodySF (plainFor_of_name pn_0) hisR ?_
  intro p e s m args below meth c s₁ Bd hml0 hP hK
  obtain ⟨rfl, hZ, hh, hCH⟩ := hP
  have hx := Bd.exec
  have hby := Bd.bytes
  have hml : c.maxLocals = 17 := hml0
  have hown : s.vm.findClass "heslar/KindByCodePinLaw" = some m.cls := findClass_of_methodNamed Bd.named
  have hnm := (name_of_methodNamed Bd.named Bd.method).1
  have X0 : Stand p l e room_1 (s.setVm s.vm) m #[(.int p0), (.int p1), (.int p2), (.int p3), (.long q4), (.long q5)] below meth c s₁ [] 0 0 := Stand.of_body Bd
  have e0 : s₁.heap = h0 := by rw [← hh, Bd.state]; rfl
  have N0 := Fr.nil n0
  have hS0 : s.Since s.vm 0 := (State.WarmedH.refl s).since 0
  have hCR0 : CHr Z consts_1 s.vm h0 s.vm h0 := CHr.refl hCH
  have pre0 : ∀ t, Steps p.tables e below (s₁.setTop (mkF m 0 #[.val (.int p0), .val (.int p1), .val (.int p2), .val (.int p3), .val (.long q4), .second, .val (.long q5), .second, .unset, .unset, .unset, .unset, .unset, .unset, .unset, .unset, .unset] [])) t → Steps p.tables e below (s₁.setTop (entryFrame m #[(.int p0), (.int p1), (.int p2), (.int p3), (.long q4), (.long q5)] maxLocals)) t := fun t k => castTop (ef_rm0 m p0 p1 p2 p3 q4 q5) k
  obtain ⟨T1, h1, k1, X1, e1, E1, A1, st1⟩ := newP X0 hx hZ (hw _ (List.mem_of_getElem? (i := 1) rfl)) e0 (g := (mkF m 10 #[.val (.int p0), .val (.int p1), .val (.int p2), .val (.int p3), .val (.long q4), .second, .val (.long q5), .second, .val (.int ((p0 &&& (2147483647 : Int32)) % (5 : Int32))), .unset, .unset, .unset, .unset, .unset, .unset, .unset, .unset] [(.int (9 : Int32))])) rfl (hb hby at_10) rfl (by decide) (cap := 9) (by decide) (by decide) (by decide) (by decide)
  obtain ⟨b1, g1⟩ : ∃ z, z = h0.size := ⟨_, rfl⟩
  rw [← g1] at A1 st1
  have g_b1 : n0 ≤ b1 := Nat.le_trans Z0 (Nat.le_of_eq g1.symm)
  have sz_b1 : h0.size ≤ b1 := Nat.le_trans (Keep.refl h0 []).1 (Nat.le_of_eq g1.symm)
  have hCR2 : CHr Z consts_1 s.vm h0 s.vm h1 := hCR0.trans (CHr.ext E1 hCR0.1)
  have Zs1 : n0 ≤ h1.size := Nat.le_trans Z0 E1.1
  have K1 : Keep h0 h1 [] := (Keep.refl h0 []).ext E1
  have G1 : GA Z h1 b1 k1 .char 9 (fun i => .int ((fun _ => (0 : Int32)) i)) := GA.new A1 rfl
  have hg1 : Rg (fun _ => (0 : Int32)) := own_rg0
  have pre3 : ∀ t, Steps p.tables e below (T1.setTop (mkF m 14 #[.val (.int p0), .val (.int p1), .val (.int p2), .val (.int p3), .val (.long q4), .second, .val (.long q5), .second, .val (.int ((p0 &&& (2147483647 : Int32)) % (5 : Int32))), .val (.ref b1), .unset, .unset, .unset, .unset, .unset, .unset, .unset] [])) t → Steps p.tables e below (s₁.setTop (entryFrame m #[(.int p0), (.int p1), (.int p2), (.int p3), (.long q4), (.long q5)] maxLocals)) t := by
    intro t kt
    refine pre0 t ?_
    show Steps p.tables e below (s₁.setTop (mkF m 0 #[.val (.int p0), .val (.int p1), .val (.int p2), .val (.int p3), .val (.long q4), .second, .val (.long q5), .second, .unset, .unset, .unset, .unset, .unset, .unset, .unset, .unset, .unset] [])) _
    refine XS.iloadN X0.here hx rfl (hb hby at_0) rfl ?_
    show Steps p.tables e below (s₁.setTop (mkF m 1 #[.val (.int p0), .val (.int p1), .val (.int p2), .val (.int p3), .val (.long q4), .second, .val (.long q5), .second, .unset, .unset, .unset, .unset, .unset, .unset, .unset, .unset, .unset] [(.int p0)])) _
    refine X0.ldcInt hx hown (mvT hZ (hw _ (List.mem_of_getElem? (i := 0) rfl))) (g := (mkF m 1 #[.val (.int p0), .val (.int p1), .val (.int p2), .val (.int p3), .val (.long q4), .second, .val (.long q5), .second, .unset, .unset, .unset, .unset, .unset, .unset, .unset, .unset, .unset] [(.int p0)])) rfl (hb hby at_1) _ ?_
    show Steps p.tables e below (s₁.setTop (mkF m 3 #[.val (.int p0), .val (.int p1), .val (.int p2), .val (.int p3), .val (.long q4), .second, .val (.long q5), .second, .unset, .unset, .unset, .unset, .unset, .unset, .unset, .unset, .unset] [(.int (2147483647 : Int32)), (.int p0)])) _
    refine XS.iand X0.here hx rfl (hb hby at_3) rfl ?_
    show Steps p.tables e below (s₁.setTop (mkF m 4 #[.val (.int p0), .val (.int p1), .val (.int p2), .val (.int p3), .val (.long q4), .second, .val (.long q5), .second, .unset, .unset, .unset, .unset, .unset, .unset, .unset, .unset, .unset] [(.int (p0 &&& (2147483647 : Int32)))])) _
    refine XS.iconst X0.here hx rfl (hb hby at_4) ?_
    show Steps p.tables e below (s₁.setTop (mkF m 5 #[.val (.int p0), .val (.int p1), .val (.int p2), .val (.int p3), .val (.long q4), .second, .val (.long q5), .second, .unset, .unset, .unset, .unset, .unset, .unset, .unset, .unset, .unset] [(.int (5 : Int32)), (.int (p0 &&& (2147483647 : Int32)))])) _
    refine iremM (g := (mkF m 5 #[.val (.int p0), .val (.int p1), .val (.int p2), .val (.int p3), .val (.long q4), .second, .val (.long q5), .second, .unset, .unset, .unset, .unset, .unset, .unset, .unset, .unset, .unset] [(.int (5 : Int32)), (.int (p0 &&& (2147483647 : Int32)))])) X0 hx rfl (hb hby at_5) rfl (by decide) ?_
    show Steps p.tables e below (s₁.setTop (mkF m 6 #[.val (.int p0), .val (.int p1), .val (.int p2), .val (.int p3), .val (.long q4), .second, .val (.long q5), .second, .unset, .unset, .unset, .unset, .unset, .unset, .unset, .unset, .unset] [(.int ((p0 &&& (2147483647 : Int32)) % (5 : Int32)))])) _
    refine XS.istore X0.here hx rfl (hb hby at_6) rfl (l' := #[.val (.int p0), .val (.int p1), .val (.int p2), .val (.int p3), .val (.long q4), .second, .val (.long q5), .second, .val (.int ((p0 &&& (2147483647 : Int32)) % (5 : Int32))), .unset, .unset, .unset, .unset, .unset, .unset, .unset, .unset]) rfl ?_
    show Steps p.tables e below (s₁.setTop (mkF m 8 #[.val (.int p0), .val (.int p1), .val (.int p2), .val (.int p3), .val (.long q4), .second, .val (.long q5), .second, .val (.int ((p0 &&& (2147483647 : Int32)) % (5 : Int32))), .unset, .unset, .unset, .unset, .unset, .unset, .unset, .unset] [])) _
    refine XS.bipush X0.here hx rfl (hb hby at_8) ?_
    show Steps p.tables e below (s₁.setTop (mkF m 10 #[.val (.int p0), .val (.int p1), .val (.int p2), .val (.int p3), .val (.long q4), .second, .val (.long q5), .second, .val (.int ((p0 &&& (2147483647 : Int32)) % (5 : Int32))), .unset, .unset, .unset, .unset, .unset, .unset, .unset, .unset] [(.int (9 : Int32))])) _
    refine st1 _ ?_
    show Steps p.tables e below (T1.setTop (mkF m 12 #[.val (.int p0), .val (.int p1), .val (.int p2), .val (.int p3), .val (.long q4), .second, .val (.long q5), .second, .val (.int ((p0 &&& (2147483647 : Int32)) % (5 : Int32))), .unset, .unset, .unset, .unset, .unset, .unset, .unset, .unset] [(.ref b1)])) _
    refine XS.astore X1.here hx rfl (hb hby at_12) rfl rfl (l' := #[.val (.int p0), .val (.int p1), .val (.int p2), .val (.int p3), .val (.long q4), .second, .val (.long q5), .second, .val (.int ((p0 &&& (2147483647 : Int32)) % (5 : Int32))), .val (.ref b1), .unset, .unset, .unset, .unset, .unset, .unset, .unset]) rfl ?_
    exact kt
  obtain ⟨TA, vmA, kA, LA, gA, nA, sA, XA, hSA, hkA, hZA, hownA, hCA, KA, NA, GA_, hgA, hnA, oA, stA⟩ := lwA n0 p0 p1 p2 p3 q4 q5 ((p0 &&& (2147483647 : Int32)) % (5 : Int32)) b1 k1 (fun _ => (0 : Int32)) X1 hx hZ hw hby hml hown e1 hS0 (Nat.le_trans (Nat.zero_le _) E1.1) hEL hCR2.1 N0 Zs1 g_b1 G1 hg1 cs hcs (own_sta_keep S_C K1 all0) fm hfm (own_sta_keep S_F K1 all0)
  have ZA : n0 ≤ TA.heap.size := Nat.le_trans Zs1 KA.1
  have hCR4 : CHr Z consts_1 s.vm h0 vmA TA.heap := hCR2.trans hCA
  have KkA : Keep h0 TA.heap [] := K1.trans KA (allS (Or.inr sz_b1) all0)
  have preA : ∀ t, Steps p.tables e below (TA.setTop (mkF m 299 #[.val (.int p0), .val (.int p1), .val (.int p2), .val (.int p3), .val (.long q4), .second, .val (.long q5), .second, .val (.int ((p0 &&& (2147483647 : Int32)) % (5 : Int32))), .val (.ref b1), .val (.int (Int32.ofNat nA)), sA, .unset, .unset, .unset, .unset, .unset] [])) t → Steps p.tables e below (s₁.setTop (entryFrame m #[(.int p0), (.int p1), (.int p2), (.int p3), (.long q4), (.long q5)] maxLocals)) t := fun t kt => pre3 t (stA t kt)
  obtain ⟨clb, Arb, -⟩ := id GA_
  have sfb : Safe Z consts_1 vmA TA.heap b1 := Safe.arr hZA.alike Arb (by decide)
  obtain ⟨TB, LB, gB, nB, XB, KB, NB, GB, hgB, hnB, stB⟩ := lwB n0 p0 p1 p2 p3 q4 q5 ((p0 &&& (2147483647 : Int32)) % (5 : Int32)) b1 k1 gA nA sA XA hx hZA hw hby hml hownA rfl NA ZA g_b1 GA_ hgA hnA oA
  have hCR5 : CHr Z consts_1 s.vm h0 vmA TB.heap := hCR4.trans (CHr.keep KB (allS sfb all0) hCR4.1)
  have ZB : n0 ≤ TB.heap.size := Nat.le_trans ZA KB.1
  have KkB : Keep h0 TB.heap [] := KkA.trans KB (allS (Or.inr sz_b1) all0)
  have preB : ∀ t, Steps p.tables e below (TB.setTop (mkF m 386 #[.val (.int p0), .val (.int p1), .val (.int p2), .val (.int p3), .val (.long q4), .second, .val (.long q5), .second, .val (.int ((p0 &&& (2147483647 : Int32)) % (5 : Int32))), .val (.ref b1), .val (.int (Int32.ofNat nB)), .val (.int (p1 &&& (3 : Int32))), .val (.int ((p3 &&& (255 : Int32)).toUInt32.toUInt16.toUInt32.toInt32)), .val (.int (p2 &&& (2147483647 : Int32))), .unset, .unset, .unset] [])) t → Steps p.tables e below (s₁.setTop (entryFrame m #[(.int p0), (.int p1), (.int p2), (.int p3), (.long q4), (.long q5)] maxLocals)) t := fun t kt => preA t (stB t kt)
  have pre6 : ∀ t, Steps p.tables e below (TB.setTop (mkF m 389 #[.val (.int p0), .val (.int p1), .val (.int p2), .val (.int p3), .val (.long q4), .second, .val (.long q5), .second, .val (.int ((p0 &&& (2147483647 : Int32)) % (5 : Int32))), .val (.ref b1), .val (.int (Int32.ofNat nB)), .val (.int (p1 &&& (3 : Int32))), .val (.int ((p3 &&& (255 : Int32)).toUInt32.toUInt16.toUInt32.toInt32)), .val (.int (p2 &&& (2147483647 : Int32))), .unset, .unset, .unset] [(.int (4 : Int32)), (.int ((p0 &&& (2147483647 : Int32)) % (5 : Int32)))])) t → Steps p.tables e below (s₁.setTop (entryFrame m #[(.int p0), (.int p1), (.int p2), (.int p3), (.long q4), (.long q5)] maxLocals)) t := by
    intro t kt
    refine preB t ?_
    show Steps p.tables e below (TB.setTop (mkF m 386 #[.val (.int p0), .val (.int p1), .val (.int p2), .val (.int p3), .val (.long q4), .second, .val (.long q5), .second, .val (.int ((p0 &&& (2147483647 : Int32)) % (5 : Int32))), .val (.ref b1), .val (.int (Int32.ofNat nB)), .val (.int (p1 &&& (3 : Int32))), .val (.int ((p3 &&& (255 : Int32)).toUInt32.toUInt16.toUInt32.toInt32)), .val (.int (p2 &&& (2147483647 : Int32))), .unset, .unset, .unset] [])) _
    refine XS.iload XB.here hx rfl (hb hby at_386) rfl ?_
    show Steps p.tables e below (TB.setTop (mkF m 388 #[.val (.int p0), .val (.int p1), .val (.int p2), .val (.int p3), .val (.long q4), .second, .val (.long q5), .second, .val (.int ((p0 &&& (2147483647 : Int32)) % (5 : Int32))), .val (.ref b1), .val (.int (Int32.ofNat nB)), .val (.int (p1 &&& (3 : Int32))), .val (.int ((p3 &&& (255 : Int32)).toUInt32.toUInt16.toUInt32.toInt32)), .val (.int (p2 &&& (2147483647 : Int32))), .unset, .unset, .unset] [(.int ((p0 &&& (2147483647 : Int32)) % (5 : Int32)))])) _
    refine XS.iconst XB.here hx rfl (hb hby at_388) ?_
    exact kt
  by_cases hc7 : ((p0 &&& (2147483647 : Int32)) % (5 : Int32)) = (4 : Int32)
  · skip
    have pre8 : ∀ t, Steps p.tables e below (TB.setTop (mkF m 414 #[.val (.int p0), .val (.int p1), .val (.int p2), .val (.int p3), .val (.long q4), .second, .val (.long q5), .second, .val (.int ((p0 &&& (2147483647 : Int32)) % (5 : Int32))), .val (.ref b1), .val (.int (Int32.ofNat nB)), .val (.int (p1 &&& (3 : Int32))), .val (.int ((p3 &&& (255 : Int32)).toUInt32.toUInt16.toUInt32.toInt32)), .val (.int (p2 &&& (2147483647 : Int32))), .val .null, .unset, .unset] [.null])) t → Steps p.tables e below (s₁.setTop (entryFrame m #[(.int p0), (.int p1), (.int p2), (.int p3), (.long q4), (.long q5)] maxLocals)) t := by
      intro t kt
      refine pre6 t ?_
      show Steps p.tables e below (TB.setTop (mkF m 389 #[.val (.int p0), .val (.int p1), .val (.int p2), .val (.int p3), .val (.long q4), .second, .val (.long q5), .second, .val (.int ((p0 &&& (2147483647 : Int32)) % (5 : Int32))), .val (.ref b1), .val (.int (Int32.ofNat nB)), .val (.int (p1 &&& (3 : Int32))), .val (.int ((p3 &&& (255 : Int32)).toUInt32.toUInt16.toUInt32.toInt32)), .val (.int (p2 &&& (2147483647 : Int32))), .unset, .unset, .unset] [(.int (4 : Int32)), (.int ((p0 &&& (2147483647 : Int32)) % (5 : Int32)))])) _
      refine XS.icmpNo XB.here hx rfl (hb hby at_389) rfl (teq hc7).2 ?_
      show Steps p.tables e below (TB.setTop (mkF m 392 #[.val (.int p0), .val (.int p1), .val (.int p2), .val (.int p3), .val (.long q4), .second, .val (.long q5), .second, .val (.int ((p0 &&& (2147483647 : Int32)) % (5 : Int32))), .val (.ref b1), .val (.int (Int32.ofNat nB)), .val (.int (p1 &&& (3 : Int32))), .val (.int ((p3 &&& (255 : Int32)).toUInt32.toUInt16.toUInt32.toInt32)), .val (.int (p2 &&& (2147483647 : Int32))), .unset, .unset, .unset] [])) _
      refine XS.aconstNull XB.here hx rfl (hb hby at_392) ?_
      show Steps p.tables e below (TB.setTop (mkF m 393 #[.val (.int p0), .val (.int p1), .val (.int p2), .val (.int p3), .val (.long q4), .second, .val (.long q5), .second, .val (.int ((p0 &&& (2147483647 : Int32)) % (5 : Int32))), .val (.ref b1), .val (.int (Int32.ofNat nB)), .val (.int (p1 &&& (3 : Int32))), .val (.int ((p3 &&& (255 : Int32)).toUInt32.toUInt16.toUInt32.toInt32)), .val (.int (p2 &&& (2147483647 : Int32))), .unset, .unset, .unset] [.null])) _
      refine XS.goto XB.here hx rfl (pc0 := 393) (pc' := 410) rfl (hb hby at_393) (by decide) (by decide) ?_
      show Steps p.tables e below (TB.setTop (mkF m 410 #[.val (.int p0), .val (.int p1), .val (.int p2), .val (.int p3), .val (.long q4), .second, .val (.long q5), .second, .val (.int ((p0 &&& (2147483647 : Int32)) % (5 : Int32))), .val (.ref b1), .val (.int (Int32.ofNat nB)), .val (.int (p1 &&& (3 : Int32))), .val (.int ((p3 &&& (255 : Int32)).toUInt32.toUInt16.toUInt32.toInt32)), .val (.int (p2 &&& (2147483647 : Int32))), .unset, .unset, .unset] [.null])) _
      refine XS.astore XB.here hx rfl (hb hby at_410) rfl rfl (l' := #[.val (.int p0), .val (.int p1), .val (.int p2), .val (.int p3), .val (.long q4), .second, .val (.long q5), .second, .val (.int ((p0 &&& (2147483647 : Int32)) % (5 : Int32))), .val (.ref b1), .val (.int (Int32.ofNat nB)), .val (.int (p1 &&& (3 : Int32))), .val (.int ((p3 &&& (255 : Int32)).toUInt32.toUInt16.toUInt32.toInt32)), .val (.int (p2 &&& (2147483647 : Int32))), .val .null, .unset, .unset]) rfl ?_
      show Steps p.tables e below (TB.setTop (mkF m 412 #[.val (.int p0), .val (.int p1), .val (.int p2), .val (.int p3), .val (.long q4), .second, .val (.long q5), .second, .val (.int ((p0 &&& (2147483647 : Int32)) % (5 : Int32))), .val (.ref b1), .val (.int (Int32.ofNat nB)), .val (.int (p1 &&& (3 : Int32))), .val (.int ((p3 &&& (255 : Int32)).toUInt32.toUInt16.toUInt32.toInt32)), .val (.int (p2 &&& (2147483647 : Int32))), .val .null, .unset, .unset] [])) _
      refine XS.aload XB.here hx rfl (hb hby at_412) rfl rfl ?_
      exact kt
    have hq : own_res W (fun _ => 0) = .null := by simp [own_res]
    obtain ⟨_, _, ⟨T9, L9, k9, n9⟩, -, X9, ⟨Lc9, hQ9, l9, y9, z9⟩, st9⟩ := Jvm.LawKit.callS XB hx (y := (⟨"heslar/Boundary$Kind", "byCode", "(Ljava/lang/String;)Lheslar/Boundary$Kind;"⟩ : MethodName)) hownA (mvT hZA (hw _ (List.mem_of_getElem? (i := 73) rfl))) (mvT hZA (hw _ (List.mem_of_getElem? (i := 74) rfl))) (mvT hZA (hw _ (List.mem_of_getElem? (i := 75) rfl))) (mvT hZA (hw _ (List.mem_of_getElem? (i := 76) rfl))) (by decide) (backOf (W := 0) (rByn l Z a0 hw [] W kV aV TB.heap n0 ZB (own_sta_keep S_V KkB all0) (E_V.keep KkB) (V_V.keep KkB nin0) cw cv ck cl cf hcl (fun i hi => ((hF i hi).keep KkB nin0)) (fun i hi => ((hE i hi).keep KkB)) (fun i hi => ((hSB i hi).keep KkB nin0 nin0)) cs hcs (own_sta_keep S_C KkB all0)) hZA (hw _ (List.mem_of_getElem? (i := 76) rfl)) (hw _ (List.mem_of_getElem? (i := 75) rfl)) (by decide) (by decide)) (g := (mkF m 414 #[.val (.int p0), .val (.int p1), .val (.int p2), .val (.int p3), .val (.long q4), .second, .val (.long q5), .second, .val (.int ((p0 &&& (2147483647 : Int32)) % (5 : Int32))), .val (.ref b1), .val (.int (Int32.ofNat nB)), .val (.int (p1 &&& (3 : Int32))), .val (.int ((p3 &&& (255 : Int32)).toUInt32.toUInt16.toUInt32.toInt32)), .val (.int (p2 &&& (2147483647 : Int32))), .val .null, .unset, .unset] [.null])) rfl (by rw [hml]; rfl) (argsL := [.null]) (rest := []) (lenOf pd__Ljava_lang_String__Lheslar_Boundary_Kind_ rfl) rfl (by show 2 * 0 + _ ≤ _; exact Nat.le_of_eq rfl) (hb hby at_414) (fun _ _ => ⟨rfl, rfl, (by decide : 3 + 1 ≤ _), (by decide : 45 + 3 ≤ _)⟩)
    dsimp only [Pt.U, Pt.locs, Pt.cells, Pt.slots] at X9 l9 y9 z9 st9 hQ9
    rw [l9, y9, z9] at X9
    obtain ⟨q9, N9q, Kp9⟩ := hQ9
    have N9 := Fr.app NB N9q
    have hCR10 : CHr Z consts_1 s.vm h0 vmA T9.heap := hCR5.trans (CHr.keep Kp9 all0 hCR5.1)
    have Zs9 : n0 ≤ T9.heap.size := Nat.le_trans ZB Kp9.1
    have Kk9 : Keep h0 T9.heap [] := KkB.trans Kp9 all0
    rw [hq] at q9; subst q9
    obtain ⟨_, _, ⟨T11, L11, k11, n11⟩, -, X11, hSi11, hgr11, ⟨Lc11, hQ11, l11, y11, z11, hC11⟩, st11⟩ := callSS X9 hx (y := (⟨"heslar/KindByCodePinLaw", "expected", "(Ljava/lang/String;)Lheslar/Boundary$Kind;"⟩ : MethodName)) hownA (mvT hZA (hw _ (List.mem_of_getElem? (i := 106) rfl))) (mvT hZA (hw _ (List.mem_of_getElem? (i := 107) rfl))) (mvT hZA (hw _ (List.mem_of_getElem? (i := 25) rfl))) (mvT hZA (hw _ (List.mem_of_getElem? (i := 108) rfl))) (by decide) (backOfSH (W := 0) (rExn l Z a0 hw [] hEL W T9.heap n0 Zs9 (own_sta_keep S_0 Kk9 all0) (own_sta_keep S_1 Kk9 all0) (own_sta_keep S_2 Kk9 all0)) hZA (hw _ (List.mem_of_getElem? (i := 108) rfl)) (hw _ (List.mem_of_getElem? (i := 25) rfl)) (by decide) (by decide) hEL hCR10.1) (g := (mkF m 421 #[.val (.int p0), .val (.int p1), .val (.int p2), .val (.int p3), .val (.long q4), .second, .val (.long q5), .second, .val (.int ((p0 &&& (2147483647 : Int32)) % (5 : Int32))), .val (.ref b1), .val (.int (Int32.ofNat nB)), .val (.int (p1 &&& (3 : Int32))), .val (.int ((p3 &&& (255 : Int32)).toUInt32.toUInt16.toUInt32.toInt32)), .val (.int (p2 &&& (2147483647 : Int32))), .val .null, .val .null, .unset] [.null])) rfl (by rw [hml]; rfl) (argsL := [.null]) (rest := []) (lenOf pd__Ljava_lang_String__Lheslar_Boundary_Kind_ rfl) rfl (by show 2 * 0 + _ ≤ _; exact Nat.le_of_eq rfl) (hb hby at_421) (fun _ _ => ⟨rfl, rfl, (by decide : 4 + 6 ≤ _), (by decide : 48 + 108 ≤ _)⟩)
    dsimp only [Pt.U, Pt.locs, Pt.cells, Pt.slots] at X11 l11 y11 z11 st11 hQ11 hSi11 hgr11
    rw [l11, y11, z11] at X11
    have hS11 : s.Since T11.vm T11.heap.size := foldS hSA (Nat.le_trans (Nat.le_trans hkA KB.1) Kp9.1) hSi11 hgr11
    have hZ11 : Z.Warmed39 (s.setVm T11.vm).vm := State.Warmed39.trans (t := s.setVm vmA) hZA hSi11.1
    have hown11 : (s.setVm T11.vm).vm.findClass "heslar/KindByCodePinLaw" = some m.cls := by rw [show (s.setVm T11.vm).vm = T11.vm from rfl, hSi11.1.alike.findClass]; exact hownA
    have X11 : Stand p l e room_1 (s.setVm T11.vm) m #[(.int p0), (.int p1), (.int p2), (.int p3), (.long q4), (.long q5)] below meth c T11 _ _ _ := X11
    have hkc11 : T11.heap.size ≤ T11.heap.size := Nat.le_refl _
    dsimp only [Pt.U] at hC11
    have hCR12 : CHr Z consts_1 s.vm h0 T11.vm T11.heap := hCR10.trans hC11
    obtain ⟨q11, N11q⟩ := hQ11
    have N11 := Fr.app N9 N11q
    rw [hq] at q11; subst q11
    obtain ⟨fs, hr, hrun, hended, hEnd⟩ := X11.leaveW (s := s) hS11 (hkc11) (v := some (.int (1 : Int32))) (fun h => by rw [Bd.returns] at h; cases h)
    refine ⟨_, _, pre8 _ ?_, hrun, hended, _, _, rfl, ?_, (by show CHr Z consts_1 s.vm s.heap T11.vm T11.heap; rw [hh]; exact hCR12.trans (CHv.at X11 hZ11 hEL hCR12.1)), hEnd.1, hEnd.2.1, hEnd.2.2.1, hEnd.2.2.2.mono (by decide) (by decide)⟩
    · skip
      show Steps p.tables e below (TB.setTop (mkF m 414 #[.val (.int p0), .val (.int p1), .val (.int p2), .val (.int p3), .val (.long q4), .second, .val (.long q5), .second, .val (.int ((p0 &&& (2147483647 : Int32)) % (5 : Int32))), .val (.ref b1), .val (.int (Int32.ofNat nB)), .val (.int (p1 &&& (3 : Int32))), .val (.int ((p3 &&& (255 : Int32)).toUInt32.toUInt16.toUInt32.toInt32)), .val (.int (p2 &&& (2147483647 : Int32))), .val .null, .unset, .unset] [.null])) _
      refine st9 _ ?_
      show Steps p.tables e below (T9.setTop (mkF m 417 #[.val (.int p0), .val (.int p1), .val (.int p2), .val (.int p3), .val (.long q4), .second, .val (.long q5), .second, .val (.int ((p0 &&& (2147483647 : Int32)) % (5 : Int32))), .val (.ref b1), .val (.int (Int32.ofNat nB)), .val (.int (p1 &&& (3 : Int32))), .val (.int ((p3 &&& (255 : Int32)).toUInt32.toUInt16.toUInt32.toInt32)), .val (.int (p2 &&& (2147483647 : Int32))), .val .null, .unset, .unset] [.null])) _
      refine XS.astore X9.here hx rfl (hb hby at_417) rfl rfl (l' := #[.val (.int p0), .val (.int p1), .val (.int p2), .val (.int p3), .val (.long q4), .second, .val (.long q5), .second, .val (.int ((p0 &&& (2147483647 : Int32)) % (5 : Int32))), .val (.ref b1), .val (.int (Int32.ofNat nB)), .val (.int (p1 &&& (3 : Int32))), .val (.int ((p3 &&& (255 : Int32)).toUInt32.toUInt16.toUInt32.toInt32)), .val (.int (p2 &&& (2147483647 : Int32))), .val .null, .val .null, .unset]) rfl ?_
      show Steps p.tables e below (T9.setTop (mkF m 419 #[.val (.int p0), .val (.int p1), .val (.int p2), .val (.int p3), .val (.long q4), .second, .val (.long q5), .second, .val (.int ((p0 &&& (2147483647 : Int32)) % (5 : Int32))), .val (.ref b1), .val (.int (Int32.ofNat nB)), .val (.int (p1 &&& (3 : Int32))), .val (.int ((p3 &&& (255 : Int32)).toUInt32.toUInt16.toUInt32.toInt32)), .val (.int (p2 &&& (2147483647 : Int32))), .val .null, .val .null, .unset] [])) _
      refine XS.aload X9.here hx rfl (hb hby at_419) rfl rfl ?_
      show Steps p.tables e below (T9.setTop (mkF m 421 #[.val (.int p0), .val (.int p1), .val (.int p2), .val (.int p3), .val (.long q4), .second, .val (.long q5), .second, .val (.int ((p0 &&& (2147483647 : Int32)) % (5 : Int32))), .val (.ref b1), .val (.int (Int32.ofNat nB)), .val (.int (p1 &&& (3 : Int32))), .val (.int ((p3 &&& (255 : Int32)).toUInt32.toUInt16.toUInt32.toInt32)), .val (.int (p2 &&& (2147483647 : Int32))), .val .null, .val .null, .unset] [.null])) _
      refine st11.trans ?_
      show Steps p.tables e below (T11.setTop (mkF m 424 #[.val (.int p0), .val (.int p1), .val (.int p2), .val (.int p3), .val (.long q4), .second, .val (.long q5), .second, .val (.int ((p0 &&& (2147483647 : Int32)) % (5 : Int32))), .val (.ref b1), .val (.int (Int32.ofNat nB)), .val (.int (p1 &&& (3 : Int32))), .val (.int ((p3 &&& (255 : Int32)).toUInt32.toUInt16.toUInt32.toInt32)), .val (.int (p2 &&& (2147483647 : Int32))), .val .null, .val .null, .unset] [.null])) _
      refine XS.astore X11.here hx rfl (hb hby at_424) rfl rfl (l' := #[.val (.int p0), .val (.int p1), .val (.int p2), .val (.int p3), .val (.long q4), .second, .val (.long q5), .second, .val (.int ((p0 &&& (2147483647 : Int32)) % (5 : Int32))), .val (.ref b1), .val (.int (Int32.ofNat nB)), .val (.int (p1 &&& (3 : Int32))), .val (.int ((p3 &&& (255 : Int32)).toUInt32.toUInt16.toUInt32.toInt32)), .val (.int (p2 &&& (2147483647 : Int32))), .val .null, .val .null, .val .null]) rfl ?_
      show Steps p.tables e below (T11.setTop (mkF m 426 #[.val (.int p0), .val (.int p1), .val (.int p2), .val (.int p3), .val (.long q4), .second, .val (.long q5), .second, .val (.int ((p0 &&& (2147483647 : Int32)) % (5 : Int32))), .val (.ref b1), .val (.int (Int32.ofNat nB)), .val (.int (p1 &&& (3 : Int32))), .val (.int ((p3 &&& (255 : Int32)).toUInt32.toUInt16.toUInt32.toInt32)), .val (.int (p2 &&& (2147483647 : Int32))), .val .null, .val .null, .val .null] [])) _
      refine XS.aload X11.here hx rfl (hb hby at_426) rfl rfl ?_
      show Steps p.tables e below (T11.setTop (mkF m 428 #[.val (.int p0), .val (.int p1), .val (.int p2), .val (.int p3), .val (.long q4), .second, .val (.long q5), .second, .val (.int ((p0 &&& (2147483647 : Int32)) % (5 : Int32))), .val (.ref b1), .val (.int (Int32.ofNat nB)), .val (.int (p1 &&& (3 : Int32))), .val (.int ((p3 &&& (255 : Int32)).toUInt32.toUInt16.toUInt32.toInt32)), .val (.int (p2 &&& (2147483647 : Int32))), .val .null, .val .null, .val .null] [.null])) _
      refine XS.aload X11.here hx rfl (hb hby at_428) rfl rfl ?_
      show Steps p.tables e below (T11.setTop (mkF m 430 #[.val (.int p0), .val (.int p1), .val (.int p2), .val (.int p3), .val (.long q4), .second, .val (.long q5), .second, .val (.int ((p0 &&& (2147483647 : Int32)) % (5 : Int32))), .val (.ref b1), .val (.int (Int32.ofNat nB)), .val (.int (p1 &&& (3 : Int32))), .val (.int ((p3 &&& (255 : Int32)).toUInt32.toUInt16.toUInt32.toInt32)), .val (.int (p2 &&& (2147483647 : Int32))), .val .null, .val .null, .val .null] [.null, .null])) _
      refine Jvm.RoadKit.acmp (g := (mkF m 430 #[.val (.int p0), .val (.int p1), .val (.int p2), .val (.int p3), .val (.long q4), .second, .val (.long q5), .second, .val (.int ((p0 &&& (2147483647 : Int32)) % (5 : Int32))), .val (.ref b1), .val (.int (Int32.ofNat nB)), .val (.int (p1 &&& (3 : Int32))), .val (.int ((p3 &&& (255 : Int32)).toUInt32.toUInt16.toUInt32.toInt32)), .val (.int (p2 &&& (2147483647 : Int32))), .val .null, .val .null, .val .null] [.null, .null])) X11 hx rfl rfl rfl (pc0 := 430) (pc' := 433) (same := true) rfl (hb hby at_430) rfl (decide_eq_true rfl) (by decide) (by decide) ?_
      show Steps p.tables e below (T11.setTop (mkF m 433 #[.val (.int p0), .val (.int p1), .val (.int p2), .val (.int p3), .val (.long q4), .second, .val (.long q5), .second, .val (.int ((p0 &&& (2147483647 : Int32)) % (5 : Int32))), .val (.ref b1), .val (.int (Int32.ofNat nB)), .val (.int (p1 &&& (3 : Int32))), .val (.int ((p3 &&& (255 : Int32)).toUInt32.toUInt16.toUInt32.toInt32)), .val (.int (p2 &&& (2147483647 : Int32))), .val .null, .val .null, .val .null] [])) _
      refine XS.iconst X11.here hx rfl (hb hby at_433) ?_
      show Steps p.tables e below (T11.setTop (mkF m 434 #[.val (.int p0), .val (.int p1), .val (.int p2), .val (.int p3), .val (.long q4), .second, .val (.long q5), .second, .val (.int ((p0 &&& (2147483647 : Int32)) % (5 : Int32))), .val (.ref b1), .val (.int (Int32.ofNat nB)), .val (.int (p1 &&& (3 : Int32))), .val (.int ((p3 &&& (255 : Int32)).toUInt32.toUInt16.toUInt32.toInt32)), .val (.int (p2 &&& (2147483647 : Int32))), .val .null, .val .null, .val .null] [(.int (1 : Int32))])) _
      refine XS.goto X11.here hx rfl (pc0 := 434) (pc' := 438) rfl (hb hby at_434) (by decide) (by decide) ?_
      show Steps p.tables e below (T11.setTop (mkF m 438 #[.val (.int p0), .val (.int p1), .val (.int p2), .val (.int p3), .val (.long q4), .second, .val (.long q5), .second, .val (.int ((p0 &&& (2147483647 : Int32)) % (5 : Int32))), .val (.ref b1), .val (.int (Int32.ofNat nB)), .val (.int (p1 &&& (3 : Int32))), .val (.int ((p3 &&& (255 : Int32)).toUInt32.toUInt16.toUInt32.toInt32)), .val (.int (p2 &&& (2147483647 : Int32))), .val .null, .val .null, .val .null] [(.int (1 : Int32))])) _
      exact retN X11 hx (t := .boolean) Bd.returns (by simp) (hb hby at_438) hr
    · exact ⟨(by first | rfl | simp [hc7]), N11⟩
  · skip
    obtain ⟨T13, h13, X13, e13, E13, A13, D13, U13, st13⟩ := newO XB hx hZA hownA (hw _ (List.mem_of_getElem? (i := 49) rfl)) (hw _ (List.mem_of_getElem? (i := 4) rfl)) (hw _ (List.mem_of_getElem? (i := 3) rfl)) rfl (g := (mkF m 396 #[.val (.int p0), .val (.int p1), .val (.int p2), .val (.int p3), .val (.long q4), .second, .val (.long q5), .second, .val (.int ((p0 &&& (2147483647 : Int32)) % (5 : Int32))), .val (.ref b1), .val (.int (Int32.ofNat nB)), .val (.int (p1 &&& (3 : Int32))), .val (.int ((p3 &&& (255 : Int32)).toUInt32.toUInt16.toUInt32.toInt32)), .val (.int (p2 &&& (2147483647 : Int32))), .unset, .unset, .unset] [])) rfl (hb hby at_396) (by decide) (by decide)
    obtain ⟨b13, g13⟩ : ∃ z, z = TB.heap.size := ⟨_, rfl⟩
    rw [← g13] at A13 D13 U13 st13
    have g_b13 : n0 ≤ b13 := Nat.le_trans ZB (Nat.le_of_eq g13.symm)
    have sz_b13 : h0.size ≤ b13 := Nat.le_trans KkB.1 (Nat.le_of_eq g13.symm)
    have hCR14 : CHr Z consts_1 s.vm h0 vmA h13 := hCR5.trans (CHr.ext E13 hCR5.1)
    have Zs13 : n0 ≤ h13.size := Nat.le_trans ZB E13.1
    have K13 : Keep h0 h13 [] := KkB.ext E13
    have F13_value : Fld Z h13 b13 "java/lang/String" "value" "[B" .null := D13 (Or.inr (hw _ (List.mem_of_getElem? (i := 6) rfl))) (ty := (.array .byte)) (by decide)
    have F13_coder : Fld Z h13 b13 "java/lang/String" "coder" "B" (.int (0 : Int32)) := D13 (Or.inr (hw _ (List.mem_of_getElem? (i := 7) rfl))) (ty := .byte) (by decide)
    have GB_15 := (GB.ext E13)
    obtain ⟨_, _, ⟨T16, L16, k16, n16⟩, -, X16, ⟨Lc16, hQ16, l16, y16, z16⟩, st16⟩ := Jvm.LawKit.callS X13 hx (y := (⟨"heslar/KindByCodePinLaw", "take", "([CI)[C"⟩ : MethodName)) hownA (mvT hZA (hw _ (List.mem_of_getElem? (i := 50) rfl))) (mvT hZA (hw _ (List.mem_of_getElem? (i := 51) rfl))) (mvT hZA (hw _ (List.mem_of_getElem? (i := 25) rfl))) (mvT hZA (hw _ (List.mem_of_getElem? (i := 52) rfl))) (by decide) (backOf (W := 2) (rTa l Z a0 hw [] b1 k1 nB gB hnB hgB h13 n0 Zs13 GB_15) hZA (hw _ (List.mem_of_getElem? (i := 52) rfl)) (hw _ (List.mem_of_getElem? (i := 25) rfl)) (by decide) (by decide)) (g := (mkF m 404 #[.val (.int p0), .val (.int p1), .val (.int p2), .val (.int p3), .val (.long q4), .second, .val (.long q5), .second, .val (.int ((p0 &&& (2147483647 : Int32)) % (5 : Int32))), .val (.ref b1), .val (.int (Int32.ofNat nB)), .val (.int (p1 &&& (3 : Int32))), .val (.int ((p3 &&& (255 : Int32)).toUInt32.toUInt16.toUInt32.toInt32)), .val (.int (p2 &&& (2147483647 : Int32))), .unset, .unset, .unset] [(.int (Int32.ofNat nB)), (.ref b1), (.ref b13), (.ref b13)])) rfl (by rw [hml]; rfl) (argsL := [(.ref b1), (.int (Int32.ofNat nB))]) (rest := [(.ref b13), (.ref b13)]) (lenOf pd___CI__C rfl) rfl (by show 2 * 0 + _ ≤ _; exact Nat.le_of_eq rfl) (hb hby at_404) (fun _ _ => ⟨rfl, e13, (by decide : 4 + 1 ≤ _), (by decide : 49 + 9 ≤ _)⟩)
    dsimp only [Pt.U, Pt.locs, Pt.cells, Pt.slots] at X16 l16 y16 z16 st16 hQ16
    rw [l16, y16, z16] at X16
    obtain ⟨at16, kt16, gt16, rfl, N16q, Kp16, st16z, Gt16, hgt16⟩ := hQ16
    have N16 := Fr.app NB N16q
    have hCR17 : CHr Z consts_1 s.vm h0 vmA T16.heap := hCR14.trans (CHr.keep Kp16 all0 hCR14.1)
    have Zs16 : n0 ≤ T16.heap.size := Nat.le_trans Zs13 Kp16.1
    have Kk16 : Keep h0 T16.heap [] := K13.trans Kp16 all0
    have A13_18 := (A13.keep Kp16)
    have F13_value_19 := (F13_value.keep Kp16 nin0)
    have F13_coder_20 := (F13_coder.keep Kp16 nin0)
    obtain ⟨_, _, ⟨T21, L21, k21, n21⟩, -, X21, hSi21, hgr21, ⟨Lc21, hQ21, l21, y21, z21, hC21⟩, st21⟩ := X16.specialBackS hx (y := (⟨"java/lang/String", "<init>", "([C)V"⟩ : MethodName)) rfl hownA (mvT hZA (hw _ (List.mem_of_getElem? (i := 53) rfl))) (mvT hZA (hw _ (List.mem_of_getElem? (i := 54) rfl))) (mvT hZA (hw _ (List.mem_of_getElem? (i := 55) rfl))) (by decide) (backOfSH (W := 1) (rI1 l Z a0 hw [] b13 at16 hEL kt16 nB gt16 hnB (fun i _ => hgt16 i) T16.heap n0 Zs16 A13_18 g_b13 F13_value_19 F13_coder_20 Gt16 cs hcs (own_sta_keep S_C Kk16 all0)) hZA (hw _ (List.mem_of_getElem? (i := 55) rfl)) (hw _ (List.mem_of_getElem? (i := 3) rfl)) (by decide) (by decide) hEL hCR17.1) (g := (mkF m 407 #[.val (.int p0), .val (.int p1), .val (.int p2), .val (.int p3), .val (.long q4), .second, .val (.long q5), .second, .val (.int ((p0 &&& (2147483647 : Int32)) % (5 : Int32))), .val (.ref b1), .val (.int (Int32.ofNat nB)), .val (.int (p1 &&& (3 : Int32))), .val (.int ((p3 &&& (255 : Int32)).toUInt32.toUInt16.toUInt32.toInt32)), .val (.int (p2 &&& (2147483647 : Int32))), .unset, .unset, .unset] [(.ref at16), (.ref b13), (.ref b13)])) rfl (by rw [hml]; rfl) (Steps.refl _) (a := b13) (argsL := [(.ref at16)]) (rest := [(.ref b13)]) (lenOf pd___C_V rfl) rfl (by show 2 * 0 + _ ≤ _; exact Nat.le_of_eq rfl) (hb hby at_407) (fun _ _ => ⟨rfl, rfl, (by decide : 5 + 4 ≤ _), (by decide : 58 + 9 ≤ _)⟩)
    dsimp only [Pt.U, Pt.locs, Pt.cells, Pt.slots] at X21 l21 y21 z21 st21 hQ21 hSi21 hgr21
    rw [l21, y21, z21] at X21
    have hS21 : s.Since T21.vm T21.heap.size := foldS hSA (Nat.le_trans (Nat.le_trans (Nat.le_trans hkA KB.1) E13.1) Kp16.1) hSi21 hgr21
    have hZ21 : Z.Warmed39 (s.setVm T21.vm).vm := State.Warmed39.trans (t := s.setVm vmA) hZA hSi21.1
    have hown21 : (s.setVm T21.vm).vm.findClass "heslar/KindByCodePinLaw" = some m.cls := by rw [show (s.setVm T21.vm).vm = T21.vm from rfl, hSi21.1.alike.findClass]; exact hownA
    have X21 : Stand p l e room_1 (s.setVm T21.vm) m #[(.int p0), (.int p1), (.int p2), (.int p3), (.long q4), (.long q5)] below meth c T21 _ _ _ := X21
    have hkc21 : T21.heap.size ≤ T21.heap.size := Nat.le_refl _
    dsimp only [Pt.U] at hC21
    have hCR22 : CHr Z consts_1 s.vm h0 T21.vm T21.heap := hCR17.trans hC21
    obtain ⟨rfl, N21q, Kp21, vs21, ks21, fs21, Sb21⟩ := hQ21
    have N21 := Fr.app N16 N21q
    have Zs21 : n0 ≤ T21.heap.size := Nat.le_trans Zs16 Kp21.1
    have Kk21 : Keep h0 T21.heap [] := Kk16.trans Kp21 (allS (Or.inr sz_b13) all0)
    have pre23 : ∀ t, Steps p.tables e below (T21.setTop (mkF m 414 #[.val (.int p0), .val (.int p1), .val (.int p2), .val (.int p3), .val (.long q4), .second, .val (.long q5), .second, .val (.int ((p0 &&& (2147483647 : Int32)) % (5 : Int32))), .val (.ref b1), .val (.int (Int32.ofNat nB)), .val (.int (p1 &&& (3 : Int32))), .val (.int ((p3 &&& (255 : Int32)).toUInt32.toUInt16.toUInt32.toInt32)), .val (.int (p2 &&& (2147483647 : Int32))), .val (.ref b13), .unset, .unset] [(.ref b13)])) t → Steps p.tables e below (s₁.setTop (entryFrame m #[(.int p0), (.int p1), (.int p2), (.int p3), (.long q4), (.long q5)] maxLocals)) t := by
      intro t kt
      refine pre6 t ?_
      show Steps p.tables e below (TB.setTop (mkF m 389 #[.val (.int p0), .val (.int p1), .val (.int p2), .val (.int p3), .val (.long q4), .second, .val (.long q5), .second, .val (.int ((p0 &&& (2147483647 : Int32)) % (5 : Int32))), .val (.ref b1), .val (.int (Int32.ofNat nB)), .val (.int (p1 &&& (3 : Int32))), .val (.int ((p3 &&& (255 : Int32)).toUInt32.toUInt16.toUInt32.toInt32)), .val (.int (p2 &&& (2147483647 : Int32))), .unset, .unset, .unset] [(.int (4 : Int32)), (.int ((p0 &&& (2147483647 : Int32)) % (5 : Int32)))])) _
      refine XS.icmpYes XB.here hx rfl (pc0 := 389) (pc' := 396) rfl (hb hby at_389) rfl (feq hc7).2 (by decide) (by decide) ?_
      show Steps p.tables e below (TB.setTop (mkF m 396 #[.val (.int p0), .val (.int p1), .val (.int p2), .val (.int p3), .val (.long q4), .second, .val (.long q5), .second, .val (.int ((p0 &&& (2147483647 : Int32)) % (5 : Int32))), .val (.ref b1), .val (.int (Int32.ofNat nB)), .val (.int (p1 &&& (3 : Int32))), .val (.int ((p3 &&& (255 : Int32)).toUInt32.toUInt16.toUInt32.toInt32)), .val (.int (p2 &&& (2147483647 : Int32))), .unset, .unset, .unset] [])) _
      refine st13 _ ?_
      show Steps p.tables e below (T13.setTop (mkF m 399 #[.val (.int p0), .val (.int p1), .val (.int p2), .val (.int p3), .val (.long q4), .second, .val (.long q5), .second, .val (.int ((p0 &&& (2147483647 : Int32)) % (5 : Int32))), .val (.ref b1), .val (.int (Int32.ofNat nB)), .val (.int (p1 &&& (3 : Int32))), .val (.int ((p3 &&& (255 : Int32)).toUInt32.toUInt16.toUInt32.toInt32)), .val (.int (p2 &&& (2147483647 : Int32))), .unset, .unset, .unset] [(.ref b13)])) _
      refine XS.dup X13.here hx rfl (hb hby at_399) rfl rfl ?_
      show Steps p.tables e below (T13.setTop (mkF m 400 #[.val (.int p0), .val (.int p1), .val (.int p2), .val (.int p3), .val (.long q4), .second, .val (.long q5), .second, .val (.int ((p0 &&& (2147483647 : Int32)) % (5 : Int32))), .val (.ref b1), .val (.int (Int32.ofNat nB)), .val (.int (p1 &&& (3 : Int32))), .val (.int ((p3 &&& (255 : Int32)).toUInt32.toUInt16.toUInt32.toInt32)), .val (.int (p2 &&& (2147483647 : Int32))), .unset, .unset, .unset] [(.ref b13), (.ref b13)])) _
      refine XS.aload X13.here hx rfl (hb hby at_400) rfl rfl ?_
      show Steps p.tables e below (T13.setTop (mkF m 402 #[.val (.int p0), .val (.int p1), .val (.int p2), .val (.int p3), .val (.long q4), .second, .val (.long q5), .second, .val (.int ((p0 &&& (2147483647 : Int32)) % (5 : Int32))), .val (.ref b1), .val (.int (Int32.ofNat nB)), .val (.int (p1 &&& (3 : Int32))), .val (.int ((p3 &&& (255 : Int32)).toUInt32.toUInt16.toUInt32.toInt32)), .val (.int (p2 &&& (2147483647 : Int32))), .unset, .unset, .unset] [(.ref b1), (.ref b13), (.ref b13)])) _
      refine XS.iload X13.here hx rfl (hb hby at_402) rfl ?_
      show Steps p.tables e below (T13.setTop (mkF m 404 #[.val (.int p0), .val (.int p1), .val (.int p2), .val (.int p3), .val (.long q4), .second, .val (.long q5), .second, .val (.int ((p0 &&& (2147483647 : Int32)) % (5 : Int32))), .val (.ref b1), .val (.int (Int32.ofNat nB)), .val (.int (p1 &&& (3 : Int32))), .val (.int ((p3 &&& (255 : Int32)).toUInt32.toUInt16.toUInt32.toInt32)), .val (.int (p2 &&& (2147483647 : Int32))), .unset, .unset, .unset] [(.int (Int32.ofNat nB)), (.ref b1), (.ref b13), (.ref b13)])) _
      refine st16 _ ?_
      show Steps p.tables e below (T16.setTop (mkF m 407 #[.val (.int p0), .val (.int p1), .val (.int p2), .val (.int p3), .val (.long q4), .second, .val (.long q5), .second, .val (.int ((p0 &&& (2147483647 : Int32)) % (5 : Int32))), .val (.ref b1), .val (.int (Int32.ofNat nB)), .val (.int (p1 &&& (3 : Int32))), .val (.int ((p3 &&& (255 : Int32)).toUInt32.toUInt16.toUInt32.toInt32)), .val (.int (p2 &&& (2147483647 : Int32))), .unset, .unset, .unset] [(.ref at16), (.ref b13), (.ref b13)])) _
      refine st21.trans ?_
      show Steps p.tables e below (T21.setTop (mkF m 410 #[.val (.int p0), .val (.int p1), .val (.int p2), .val (.int p3), .val (.long q4), .second, .val (.long q5), .second, .val (.int ((p0 &&& (2147483647 : Int32)) % (5 : Int32))), .val (.ref b1), .val (.int (Int32.ofNat nB)), .val (.int (p1 &&& (3 : Int32))), .val (.int ((p3 &&& (255 : Int32)).toUInt32.toUInt16.toUInt32.toInt32)), .val (.int (p2 &&& (2147483647 : Int32))), .unset, .unset, .unset] [(.ref b13)])) _
      refine XS.astore X21.here hx rfl (hb hby at_410) rfl rfl (l' := #[.val (.int p0), .val (.int p1), .val (.int p2), .val (.int p3), .val (.long q4), .second, .val (.long q5), .second, .val (.int ((p0 &&& (2147483647 : Int32)) % (5 : Int32))), .val (.ref b1), .val (.int (Int32.ofNat nB)), .val (.int (p1 &&& (3 : Int32))), .val (.int ((p3 &&& (255 : Int32)).toUInt32.toUInt16.toUInt32.toInt32)), .val (.int (p2 &&& (2147483647 : Int32))), .val (.ref b13), .unset, .unset]) rfl ?_
      show Steps p.tables e below (T21.setTop (mkF m 412 #[.val (.int p0), .val (.int p1), .val (.int p2), .val (.int p3), .val (.long q4), .second, .val (.long q5), .second, .val (.int ((p0 &&& (2147483647 : Int32)) % (5 : Int32))), .val (.ref b1), .val (.int (Int32.ofNat nB)), .val (.int (p1 &&& (3 : Int32))), .val (.int ((p3 &&& (255 : Int32)).toUInt32.toUInt16.toUInt32.toInt32)), .val (.int (p2 &&& (2147483647 : Int32))), .val (.ref b13), .unset, .unset] [])) _
      refine XS.aload X21.here hx rfl (hb hby at_412) rfl rfl ?_
      exact kt
    obtain ⟨rr, hrr⟩ := own_rr cl cf nB fs21
    have hnB4 : nB ≤ 4000 := by omega
    rcases own_resC W rr with hq | ⟨aq, hq⟩
    · skip
      obtain ⟨_, _, ⟨T24, L24, k24, n24⟩, -, X24, ⟨Lc24, hQ24, l24, y24, z24⟩, st24⟩ := Jvm.LawKit.callS X21 hx (y := (⟨"heslar/Boundary$Kind", "byCode", "(Ljava/lang/String;)Lheslar/Boundary$Kind;"⟩ : MethodName)) hown21 (mvT hZ21 (hw _ (List.mem_of_getElem? (i := 73) rfl))) (mvT hZ21 (hw _ (List.mem_of_getElem? (i := 74) rfl))) (mvT hZ21 (hw _ (List.mem_of_getElem? (i := 75) rfl))) (mvT hZ21 (hw _ (List.mem_of_getElem? (i := 76) rfl))) (by decide) (backOf (W := 0) (rBy l Z a0 hw [] b13 W kV aV T21.heap n0 Zs21 (own_sta_keep S_V Kk21 all0) (E_V.keep Kk21) (V_V.keep Kk21 nin0) cw cv ck cl cf hcl (fun i hi => ((hF i hi).keep Kk21 nin0)) (fun i hi => ((hE i hi).keep Kk21)) (fun i hi => ((hSB i hi).keep Kk21 nin0 nin0)) cs hcs (own_sta_keep S_C Kk21 all0) vs21 ks21 nB fs21 rr hnB4 Sb21 (fun i _ => hrr i)) hZ21 (hw _ (List.mem_of_getElem? (i := 76) rfl)) (hw _ (List.mem_of_getElem? (i := 75) rfl)) (by decide) (by decide)) (g := (mkF m 414 #[.val (.int p0), .val (.int p1), .val (.int p2), .val (.int p3), .val (.long q4), .second, .val (.long q5), .second, .val (.int ((p0 &&& (2147483647 : Int32)) % (5 : Int32))), .val (.ref b1), .val (.int (Int32.ofNat nB)), .val (.int (p1 &&& (3 : Int32))), .val (.int ((p3 &&& (255 : Int32)).toUInt32.toUInt16.toUInt32.toInt32)), .val (.int (p2 &&& (2147483647 : Int32))), .val (.ref b13), .unset, .unset] [(.ref b13)])) rfl (by rw [hml]; rfl) (argsL := [(.ref b13)]) (rest := []) (lenOf pd__Ljava_lang_String__Lheslar_Boundary_Kind_ rfl) rfl (by show 2 * 0 + _ ≤ _; exact Nat.le_of_eq rfl) (hb hby at_414) (fun _ _ => ⟨rfl, rfl, (by decide : 9 + 1 ≤ _), (by decide : 67 + 3 ≤ _)⟩)
      dsimp only [Pt.U, Pt.locs, Pt.cells, Pt.slots] at X24 l24 y24 z24 st24 hQ24
      rw [l24, y24, z24] at X24
      obtain ⟨q24, N24q, Kp24⟩ := hQ24
      have N24 := Fr.app N21 N24q
      have hCR25 : CHr Z consts_1 s.vm h0 T21.vm T24.heap := hCR22.trans (CHr.keep Kp24 all0 hCR22.1)
      have Zs24 : n0 ≤ T24.heap.size := Nat.le_trans Zs21 Kp24.1
      have Kk24 : Keep h0 T24.heap [] := Kk21.trans Kp24 all0
      rw [hq] at q24; subst q24
      have Sb2 := Sb21.keep Kp24 nin0 nin0
      obtain ⟨_, _, ⟨T26, L26, k26, n26⟩, -, X26, hSi26, hgr26, ⟨Lc26, hQ26, l26, y26, z26, hC26⟩, st26⟩ := callSS X24 hx (y := (⟨"heslar/KindByCodePinLaw", "expected", "(Ljava/lang/String;)Lheslar/Boundary$Kind;"⟩ : MethodName)) hown21 (mvT hZ21 (hw _ (List.mem_of_getElem? (i := 106) rfl))) (mvT hZ21 (hw _ (List.mem_of_getElem? (i := 107) rfl))) (mvT hZ21 (hw _ (List.mem_of_getElem? (i := 25) rfl))) (mvT hZ21 (hw _ (List.mem_of_getElem? (i := 108) rfl))) (by decide) (backOfSH (W := 0) (rEx l Z a0 hw [] b13 hEL W T24.heap n0 Zs24 (own_sta_keep S_0 Kk24 all0) (own_sta_keep S_1 Kk24 all0) (own_sta_keep S_2 Kk24 all0) cs hcs (own_sta_keep S_C Kk24 all0) vs21 ks21 nB fs21 rr hnB4 Sb2 (own_flip (hrr 0) hl0 hf0) (own_flip (hrr 1) hl1 hf1) (own_flip (hrr 2) hl2 hf2)) hZ21 (hw _ (List.mem_of_getElem? (i := 108) rfl)) (hw _ (List.mem_of_getElem? (i := 25) rfl)) (by decide) (by decide) hEL hCR25.1) (g := (mkF m 421 #[.val (.int p0), .val (.int p1), .val (.int p2), .val (.int p3), .val (.long q4), .second, .val (.long q5), .second, .val (.int ((p0 &&& (2147483647 : Int32)) % (5 : Int32))), .val (.ref b1), .val (.int (Int32.ofNat nB)), .val (.int (p1 &&& (3 : Int32))), .val (.int ((p3 &&& (255 : Int32)).toUInt32.toUInt16.toUInt32.toInt32)), .val (.int (p2 &&& (2147483647 : Int32))), .val (.ref b13), .val .null, .unset] [(.ref b13)])) rfl (by rw [hml]; rfl) (argsL := [(.ref b13)]) (rest := []) (lenOf pd__Ljava_lang_String__Lheslar_Boundary_Kind_ rfl) rfl (by show 2 * 0 + _ ≤ _; exact Nat.le_of_eq rfl) (hb hby at_421) (fun _ _ => ⟨rfl, rfl, (by decide : 10 + 6 ≤ _), (by decide : 70 + 108 ≤ _)⟩)
      dsimp only [Pt.U, Pt.locs, Pt.cells, Pt.slots] at X26 l26 y26 z26 st26 hQ26 hSi26 hgr26
      rw [l26, y26, z26] at X26
      have hS26 : s.Since T26.vm T26.heap.size := foldS hS21 (Nat.le_trans (hkc21) Kp24.1) hSi26 hgr26
      have hZ26 : Z.Warmed39 (s.setVm T26.vm).vm := State.Warmed39.trans (t := s.setVm T21.vm) hZ21 hSi26.1
      have hown26 : (s.setVm T26.vm).vm.findClass "heslar/KindByCodePinLaw" = some m.cls := by rw [show (s.setVm T26.vm).vm = T26.vm from rfl, hSi26.1.alike.findClass]; exact hown21
      have X26 : Stand p l e room_1 (s.setVm T26.vm) m #[(.int p0), (.int p1), (.int p2), (.int p3), (.long q4), (.long q5)] below meth c T26 _ _ _ := X26
      have hkc26 : T26.heap.size ≤ T26.heap.size := Nat.le_refl _
      dsimp only [Pt.U] at hC26
      have hCR27 : CHr Z consts_1 s.vm h0 T26.vm T26.heap := hCR25.trans hC26
      obtain ⟨q26, N26q⟩ := hQ26
      have N26 := Fr.app N24 N26q
      rw [hq] at q26; subst q26
      obtain ⟨fs, hr, hrun, hended, hEnd⟩ := X26.leaveW (s := s) hS26 (hkc26) (v := some (.int (1 : Int32))) (fun h => by rw [Bd.returns] at h; cases h)
      refine ⟨_, _, pre23 _ ?_, hrun, hended, _, _, rfl, ?_, (by show CHr Z consts_1 s.vm s.heap T26.vm T26.heap; rw [hh]; exact hCR27.trans (CHv.at X26 hZ26 hEL hCR27.1)), hEnd.1, hEnd.2.1, hEnd.2.2.1, hEnd.2.2.2.mono (by decide) (by decide)⟩
      · skip
        show Steps p.tables e below (T21.setTop (mkF m 414 #[.val (.int p0), .val (.int p1), .val (.int p2), .val (.int p3), .val (.long q4), .second, .val (.long q5), .second, .val (.int ((p0 &&& (2147483647 : Int32)) % (5 : Int32))), .val (.ref b1), .val (.int (Int32.ofNat nB)), .val (.int (p1 &&& (3 : Int32))), .val (.int ((p3 &&& (255 : Int32)).toUInt32.toUInt16.toUInt32.toInt32)), .val (.int (p2 &&& (2147483647 : Int32))), .val (.ref b13), .unset, .unset] [(.ref b13)])) _
        refine st24 _ ?_
        show Steps p.tables e below (T24.setTop (mkF m 417 #[.val (.int p0), .val (.int p1), .val (.int p2), .val (.int p3), .val (.long q4), .second, .val (.long q5), .second, .val (.int ((p0 &&& (2147483647 : Int32)) % (5 : Int32))), .val (.ref b1), .val (.int (Int32.ofNat nB)), .val (.int (p1 &&& (3 : Int32))), .val (.int ((p3 &&& (255 : Int32)).toUInt32.toUInt16.toUInt32.toInt32)), .val (.int (p2 &&& (2147483647 : Int32))), .val (.ref b13), .unset, .unset] [.null])) _
        refine XS.astore X24.here hx rfl (hb hby at_417) rfl rfl (l' := #[.val (.int p0), .val (.int p1), .val (.int p2), .val (.int p3), .val (.long q4), .second, .val (.long q5), .second, .val (.int ((p0 &&& (2147483647 : Int32)) % (5 : Int32))), .val (.ref b1), .val (.int (Int32.ofNat nB)), .val (.int (p1 &&& (3 : Int32))), .val (.int ((p3 &&& (255 : Int32)).toUInt32.toUInt16.toUInt32.toInt32)), .val (.int (p2 &&& (2147483647 : Int32))), .val (.ref b13), .val .null, .unset]) rfl ?_
        show Steps p.tables e below (T24.setTop (mkF m 419 #[.val (.int p0), .val (.int p1), .val (.int p2), .val (.int p3), .val (.long q4), .second, .val (.long q5), .second, .val (.int ((p0 &&& (2147483647 : Int32)) % (5 : Int32))), .val (.ref b1), .val (.int (Int32.ofNat nB)), .val (.int (p1 &&& (3 : Int32))), .val (.int ((p3 &&& (255 : Int32)).toUInt32.toUInt16.toUInt32.toInt32)), .val (.int (p2 &&& (2147483647 : Int32))), .val (.ref b13), .val .null, .unset] [])) _
        refine XS.aload X24.here hx rfl (hb hby at_419) rfl rfl ?_
        show Steps p.tables e below (T24.setTop (mkF m 421 #[.val (.int p0), .val (.int p1), .val (.int p2), .val (.int p3), .val (.long q4), .second, .val (.long q5), .second, .val (.int ((p0 &&& (2147483647 : Int32)) % (5 : Int32))), .val (.ref b1), .val (.int (Int32.ofNat nB)), .val (.int (p1 &&& (3 : Int32))), .val (.int ((p3 &&& (255 : Int32)).toUInt32.toUInt16.toUInt32.toInt32)), .val (.int (p2 &&& (2147483647 : Int32))), .val (.ref b13), .val .null, .unset] [(.ref b13)])) _
        refine st26.trans ?_
        show Steps p.tables e below (T26.setTop (mkF m 424 #[.val (.int p0), .val (.int p1), .val (.int p2), .val (.int p3), .val (.long q4), .second, .val (.long q5), .second, .val (.int ((p0 &&& (2147483647 : Int32)) % (5 : Int32))), .val (.ref b1), .val (.int (Int32.ofNat nB)), .val (.int (p1 &&& (3 : Int32))), .val (.int ((p3 &&& (255 : Int32)).toUInt32.toUInt16.toUInt32.toInt32)), .val (.int (p2 &&& (2147483647 : Int32))), .val (.ref b13), .val .null, .unset] [.null])) _
        refine XS.astore X26.here hx rfl (hb hby at_424) rfl rfl (l' := #[.val (.int p0), .val (.int p1), .val (.int p2), .val (.int p3), .val (.long q4), .second, .val (.long q5), .second, .val (.int ((p0 &&& (2147483647 : Int32)) % (5 : Int32))), .val (.ref b1), .val (.int (Int32.ofNat nB)), .val (.int (p1 &&& (3 : Int32))), .val (.int ((p3 &&& (255 : Int32)).toUInt32.toUInt16.toUInt32.toInt32)), .val (.int (p2 &&& (2147483647 : Int32))), .val (.ref b13), .val .null, .val .null]) rfl ?_
        show Steps p.tables e below (T26.setTop (mkF m 426 #[.val (.int p0), .val (.int p1), .val (.int p2), .val (.int p3), .val (.long q4), .second, .val (.long q5), .second, .val (.int ((p0 &&& (2147483647 : Int32)) % (5 : Int32))), .val (.ref b1), .val (.int (Int32.ofNat nB)), .val (.int (p1 &&& (3 : Int32))), .val (.int ((p3 &&& (255 : Int32)).toUInt32.toUInt16.toUInt32.toInt32)), .val (.int (p2 &&& (2147483647 : Int32))), .val (.ref b13), .val .null, .val .null] [])) _
        refine XS.aload X26.here hx rfl (hb hby at_426) rfl rfl ?_
        show Steps p.tables e below (T26.setTop (mkF m 428 #[.val (.int p0), .val (.int p1), .val (.int p2), .val (.int p3), .val (.long q4), .second, .val (.long q5), .second, .val (.int ((p0 &&& (2147483647 : Int32)) % (5 : Int32))), .val (.ref b1), .val (.int (Int32.ofNat nB)), .val (.int (p1 &&& (3 : Int32))), .val (.int ((p3 &&& (255 : Int32)).toUInt32.toUInt16.toUInt32.toInt32)), .val (.int (p2 &&& (2147483647 : Int32))), .val (.ref b13), .val .null, .val .null] [.null])) _
        refine XS.aload X26.here hx rfl (hb hby at_428) rfl rfl ?_
        show Steps p.tables e below (T26.setTop (mkF m 430 #[.val (.int p0), .val (.int p1), .val (.int p2), .val (.int p3), .val (.long q4), .second, .val (.long q5), .second, .val (.int ((p0 &&& (2147483647 : Int32)) % (5 : Int32))), .val (.ref b1), .val (.int (Int32.ofNat nB)), .val (.int (p1 &&& (3 : Int32))), .val (.int ((p3 &&& (255 : Int32)).toUInt32.toUInt16.toUInt32.toInt32)), .val (.int (p2 &&& (2147483647 : Int32))), .val (.ref b13), .val .null, .val .null] [.null, .null])) _
        refine Jvm.RoadKit.acmp (g := (mkF m 430 #[.val (.int p0), .val (.int p1), .val (.int p2), .val (.int p3), .val (.long q4), .second, .val (.long q5), .second, .val (.int ((p0 &&& (2147483647 : Int32)) % (5 : Int32))), .val (.ref b1), .val (.int (Int32.ofNat nB)), .val (.int (p1 &&& (3 : Int32))), .val (.int ((p3 &&& (255 : Int32)).toUInt32.toUInt16.toUInt32.toInt32)), .val (.int (p2 &&& (2147483647 : Int32))), .val (.ref b13), .val .null, .val .null] [.null, .null])) X26 hx rfl rfl rfl (pc0 := 430) (pc' := 433) (same := true) rfl (hb hby at_430) rfl (decide_eq_true rfl) (by decide) (by decide) ?_
        show Steps p.tables e below (T26.setTop (mkF m 433 #[.val (.int p0), .val (.int p1), .val (.int p2), .val (.int p3), .val (.long q4), .second, .val (.long q5), .second, .val (.int ((p0 &&& (2147483647 : Int32)) % (5 : Int32))), .val (.ref b1), .val (.int (Int32.ofNat nB)), .val (.int (p1 &&& (3 : Int32))), .val (.int ((p3 &&& (255 : Int32)).toUInt32.toUInt16.toUInt32.toInt32)), .val (.int (p2 &&& (2147483647 : Int32))), .val (.ref b13), .val .null, .val .null] [])) _
        refine XS.iconst X26.here hx rfl (hb hby at_433) ?_
        show Steps p.tables e below (T26.setTop (mkF m 434 #[.val (.int p0), .val (.int p1), .val (.int p2), .val (.int p3), .val (.long q4), .second, .val (.long q5), .second, .val (.int ((p0 &&& (2147483647 : Int32)) % (5 : Int32))), .val (.ref b1), .val (.int (Int32.ofNat nB)), .val (.int (p1 &&& (3 : Int32))), .val (.int ((p3 &&& (255 : Int32)).toUInt32.toUInt16.toUInt32.toInt32)), .val (.int (p2 &&& (2147483647 : Int32))), .val (.ref b13), .val .null, .val .null] [(.int (1 : Int32))])) _
        refine XS.goto X26.here hx rfl (pc0 := 434) (pc' := 438) rfl (hb hby at_434) (by decide) (by decide) ?_
        show Steps p.tables e below (T26.setTop (mkF m 438 #[.val (.int p0), .val (.int p1), .val (.int p2), .val (.int p3), .val (.long q4), .second, .val (.long q5), .second, .val (.int ((p0 &&& (2147483647 : Int32)) % (5 : Int32))), .val (.ref b1), .val (.int (Int32.ofNat nB)), .val (.int (p1 &&& (3 : Int32))), .val (.int ((p3 &&& (255 : Int32)).toUInt32.toUInt16.toUInt32.toInt32)), .val (.int (p2 &&& (2147483647 : Int32))), .val (.ref b13), .val .null, .val .null] [(.int (1 : Int32))])) _
        exact retN X26 hx (t := .boolean) Bd.returns (by simp) (hb hby at_438) hr
      · exact ⟨(by first | rfl | simp [hc7]), N26⟩
    · skip
      obtain ⟨_, _, ⟨T28, L28, k28, n28⟩, -, X28, ⟨Lc28, hQ28, l28, y28, z28⟩, st28⟩ := Jvm.LawKit.callS X21 hx (y := (⟨"heslar/Boundary$Kind", "byCode", "(Ljava/lang/String;)Lheslar/Boundary$Kind;"⟩ : MethodName)) hown21 (mvT hZ21 (hw _ (List.mem_of_getElem? (i := 73) rfl))) (mvT hZ21 (hw _ (List.mem_of_getElem? (i := 74) rfl))) (mvT hZ21 (hw _ (List.mem_of_getElem? (i := 75) rfl))) (mvT hZ21 (hw _ (List.mem_of_getElem? (i := 76) rfl))) (by decide) (backOf (W := 0) (rBy l Z a0 hw [] b13 W kV aV T21.heap n0 Zs21 (own_sta_keep S_V Kk21 all0) (E_V.keep Kk21) (V_V.keep Kk21 nin0) cw cv ck cl cf hcl (fun i hi => ((hF i hi).keep Kk21 nin0)) (fun i hi => ((hE i hi).keep Kk21)) (fun i hi => ((hSB i hi).keep Kk21 nin0 nin0)) cs hcs (own_sta_keep S_C Kk21 all0) vs21 ks21 nB fs21 rr hnB4 Sb21 (fun i _ => hrr i)) hZ21 (hw _ (List.mem_of_getElem? (i := 76) rfl)) (hw _ (List.mem_of_getElem? (i := 75) rfl)) (by decide) (by decide)) (g := (mkF m 414 #[.val (.int p0), .val (.int p1), .val (.int p2), .val (.int p3), .val (.long q4), .second, .val (.long q5), .second, .val (.int ((p0 &&& (2147483647 : Int32)) % (5 : Int32))), .val (.ref b1), .val (.int (Int32.ofNat nB)), .val (.int (p1 &&& (3 : Int32))), .val (.int ((p3 &&& (255 : Int32)).toUInt32.toUInt16.toUInt32.toInt32)), .val (.int (p2 &&& (2147483647 : Int32))), .val (.ref b13), .unset, .unset] [(.ref b13)])) rfl (by rw [hml]; rfl) (argsL := [(.ref b13)]) (rest := []) (lenOf pd__Ljava_lang_String__Lheslar_Boundary_Kind_ rfl) rfl (by show 2 * 0 + _ ≤ _; exact Nat.le_of_eq rfl) (hb hby at_414) (fun _ _ => ⟨rfl, rfl, (by decide : 9 + 1 ≤ _), (by decide : 67 + 3 ≤ _)⟩)
      dsimp only [Pt.U, Pt.locs, Pt.cells, Pt.slots] at X28 l28 y28 z28 st28 hQ28
      rw [l28, y28, z28] at X28
      obtain ⟨q28, N28q, Kp28⟩ := hQ28
      have N28 := Fr.app N21 N28q
      have hCR29 : CHr Z consts_1 s.vm h0 T21.vm T28.heap := hCR22.trans (CHr.keep Kp28 all0 hCR22.1)
      have Zs28 : n0 ≤ T28.heap.size := Nat.le_trans Zs21 Kp28.1
      have Kk28 : Keep h0 T28.heap [] := Kk21.trans Kp28 all0
      rw [hq] at q28; subst q28
      have Sb2 := Sb21.keep Kp28 nin0 nin0
      obtain ⟨_, _, ⟨T30, L30, k30, n30⟩, -, X30, hSi30, hgr30, ⟨Lc30, hQ30, l30, y30, z30, hC30⟩, st30⟩ := callSS X28 hx (y := (⟨"heslar/KindByCodePinLaw", "expected", "(Ljava/lang/String;)Lheslar/Boundary$Kind;"⟩ : MethodName)) hown21 (mvT hZ21 (hw _ (List.mem_of_getElem? (i := 106) rfl))) (mvT hZ21 (hw _ (List.mem_of_getElem? (i := 107) rfl))) (mvT hZ21 (hw _ (List.mem_of_getElem? (i := 25) rfl))) (mvT hZ21 (hw _ (List.mem_of_getElem? (i := 108) rfl))) (by decide) (backOfSH (W := 0) (rEx l Z a0 hw [] b13 hEL W T28.heap n0 Zs28 (own_sta_keep S_0 Kk28 all0) (own_sta_keep S_1 Kk28 all0) (own_sta_keep S_2 Kk28 all0) cs hcs (own_sta_keep S_C Kk28 all0) vs21 ks21 nB fs21 rr hnB4 Sb2 (own_flip (hrr 0) hl0 hf0) (own_flip (hrr 1) hl1 hf1) (own_flip (hrr 2) hl2 hf2)) hZ21 (hw _ (List.mem_of_getElem? (i := 108) rfl)) (hw _ (List.mem_of_getElem? (i := 25) rfl)) (by decide) (by decide) hEL hCR29.1) (g := (mkF m 421 #[.val (.int p0), .val (.int p1), .val (.int p2), .val (.int p3), .val (.long q4), .second, .val (.long q5), .second, .val (.int ((p0 &&& (2147483647 : Int32)) % (5 : Int32))), .val (.ref b1), .val (.int (Int32.ofNat nB)), .val (.int (p1 &&& (3 : Int32))), .val (.int ((p3 &&& (255 : Int32)).toUInt32.toUInt16.toUInt32.toInt32)), .val (.int (p2 &&& (2147483647 : Int32))), .val (.ref b13), .val (.ref aq), .unset] [(.ref b13)])) rfl (by rw [hml]; rfl) (argsL := [(.ref b13)]) (rest := []) (lenOf pd__Ljava_lang_String__Lheslar_Boundary_Kind_ rfl) rfl (by show 2 * 0 + _ ≤ _; exact Nat.le_of_eq rfl) (hb hby at_421) (fun _ _ => ⟨rfl, rfl, (by decide : 10 + 6 ≤ _), (by decide : 70 + 108 ≤ _)⟩)
      dsimp only [Pt.U, Pt.locs, Pt.cells, Pt.slots] at X30 l30 y30 z30 st30 hQ30 hSi30 hgr30
      rw [l30, y30, z30] at X30
      have hS30 : s.Since T30.vm T30.heap.size := foldS hS21 (Nat.le_trans (hkc21) Kp28.1) hSi30 hgr30
      have hZ30 : Z.Warmed39 (s.setVm T30.vm).vm := State.Warmed39.trans (t := s.setVm T21.vm) hZ21 hSi30.1
      have hown30 : (s.setVm T30.vm).vm.findClass "heslar/KindByCodePinLaw" = some m.cls := by rw [show (s.setVm T30.vm).vm = T30.vm from rfl, hSi30.1.alike.findClass]; exact hown21
      have X30 : Stand p l e room_1 (s.setVm T30.vm) m #[(.int p0), (.int p1), (.int p2), (.int p3), (.long q4), (.long q5)] below meth c T30 _ _ _ := X30
      have hkc30 : T30.heap.size ≤ T30.heap.size := Nat.le_refl _
      dsimp only [Pt.U] at hC30
      have hCR31 : CHr Z consts_1 s.vm h0 T30.vm T30.heap := hCR29.trans hC30
      obtain ⟨q30, N30q⟩ := hQ30
      have N30 := Fr.app N28 N30q
      rw [hq] at q30; subst q30
      obtain ⟨fs, hr, hrun, hended, hEnd⟩ := X30.leaveW (s := s) hS30 (hkc30) (v := some (.int (1 : Int32))) (fun h => by rw [Bd.returns] at h; cases h)
      refine ⟨_, _, pre23 _ ?_, hrun, hended, _, _, rfl, ?_, (by show CHr Z consts_1 s.vm s.heap T30.vm T30.heap; rw [hh]; exact hCR31.trans (CHv.at X30 hZ30 hEL hCR31.1)), hEnd.1, hEnd.2.1, hEnd.2.2.1, hEnd.2.2.2.mono (by decide) (by decide)⟩
      · skip
        show Steps p.tables e below (T21.setTop (mkF m 414 #[.val (.int p0), .val (.int p1), .val (.int p2), .val (.int p3), .val (.long q4), .second, .val (.long q5), .second, .val (.int ((p0 &&& (2147483647 : Int32)) % (5 : Int32))), .val (.ref b1), .val (.int (Int32.ofNat nB)), .val (.int (p1 &&& (3 : Int32))), .val (.int ((p3 &&& (255 : Int32)).toUInt32.toUInt16.toUInt32.toInt32)), .val (.int (p2 &&& (2147483647 : Int32))), .val (.ref b13), .unset, .unset] [(.ref b13)])) _
        refine st28 _ ?_
        show Steps p.tables e below (T28.setTop (mkF m 417 #[.val (.int p0), .val (.int p1), .val (.int p2), .val (.int p3), .val (.long q4), .second, .val (.long q5), .second, .val (.int ((p0 &&& (2147483647 : Int32)) % (5 : Int32))), .val (.ref b1), .val (.int (Int32.ofNat nB)), .val (.int (p1 &&& (3 : Int32))), .val (.int ((p3 &&& (255 : Int32)).toUInt32.toUInt16.toUInt32.toInt32)), .val (.int (p2 &&& (2147483647 : Int32))), .val (.ref b13), .unset, .unset] [(.ref aq)])) _
        refine XS.astore X28.here hx rfl (hb hby at_417) rfl rfl (l' := #[.val (.int p0), .val (.int p1), .val (.int p2), .val (.int p3), .val (.long q4), .second, .val (.long q5), .second, .val (.int ((p0 &&& (2147483647 : Int32)) % (5 : Int32))), .val (.ref b1), .val (.int (Int32.ofNat nB)), .val (.int (p1 &&& (3 : Int32))), .val (.int ((p3 &&& (255 : Int32)).toUInt32.toUInt16.toUInt32.toInt32)), .val (.int (p2 &&& (2147483647 : Int32))), .val (.ref b13), .val (.ref aq), .unset]) rfl ?_
        show Steps p.tables e below (T28.setTop (mkF m 419 #[.val (.int p0), .val (.int p1), .val (.int p2), .val (.int p3), .val (.long q4), .second, .val (.long q5), .second, .val (.int ((p0 &&& (2147483647 : Int32)) % (5 : Int32))), .val (.ref b1), .val (.int (Int32.ofNat nB)), .val (.int (p1 &&& (3 : Int32))), .val (.int ((p3 &&& (255 : Int32)).toUInt32.toUInt16.toUInt32.toInt32)), .val (.int (p2 &&& (2147483647 : Int32))), .val (.ref b13), .val (.ref aq), .unset] [])) _
        refine XS.aload X28.here hx rfl (hb hby at_419) rfl rfl ?_
        show Steps p.tables e below (T28.setTop (mkF m 421 #[.val (.int p0), .val (.int p1), .val (.int p2), .val (.int p3), .val (.long q4), .second, .val (.long q5), .second, .val (.int ((p0 &&& (2147483647 : Int32)) % (5 : Int32))), .val (.ref b1), .val (.int (Int32.ofNat nB)), .val (.int (p1 &&& (3 : Int32))), .val (.int ((p3 &&& (255 : Int32)).toUInt32.toUInt16.toUInt32.toInt32)), .val (.int (p2 &&& (2147483647 : Int32))), .val (.ref b13), .val (.ref aq), .unset] [(.ref b13)])) _
        refine st30.trans ?_
        show Steps p.tables e below (T30.setTop (mkF m 424 #[.val (.int p0), .val (.int p1), .val (.int p2), .val (.int p3), .val (.long q4), .second, .val (.long q5), .second, .val (.int ((p0 &&& (2147483647 : Int32)) % (5 : Int32))), .val (.ref b1), .val (.int (Int32.ofNat nB)), .val (.int (p1 &&& (3 : Int32))), .val (.int ((p3 &&& (255 : Int32)).toUInt32.toUInt16.toUInt32.toInt32)), .val (.int (p2 &&& (2147483647 : Int32))), .val (.ref b13), .val (.ref aq), .unset] [(.ref aq)])) _
        refine XS.astore X30.here hx rfl (hb hby at_424) rfl rfl (l' := #[.val (.int p0), .val (.int p1), .val (.int p2), .val (.int p3), .val (.long q4), .second, .val (.long q5), .second, .val (.int ((p0 &&& (2147483647 : Int32)) % (5 : Int32))), .val (.ref b1), .val (.int (Int32.ofNat nB)), .val (.int (p1 &&& (3 : Int32))), .val (.int ((p3 &&& (255 : Int32)).toUInt32.toUInt16.toUInt32.toInt32)), .val (.int (p2 &&& (2147483647 : Int32))), .val (.ref b13), .val (.ref aq), .val (.ref aq)]) rfl ?_
        show Steps p.tables e below (T30.setTop (mkF m 426 #[.val (.int p0), .val (.int p1), .val (.int p2), .val (.int p3), .val (.long q4), .second, .val (.long q5), .second, .val (.int ((p0 &&& (2147483647 : Int32)) % (5 : Int32))), .val (.ref b1), .val (.int (Int32.ofNat nB)), .val (.int (p1 &&& (3 : Int32))), .val (.int ((p3 &&& (255 : Int32)).toUInt32.toUInt16.toUInt32.toInt32)), .val (.int (p2 &&& (2147483647 : Int32))), .val (.ref b13), .val (.ref aq), .val (.ref aq)] [])) _
        refine XS.aload X30.here hx rfl (hb hby at_426) rfl rfl ?_
        show Steps p.tables e below (T30.setTop (mkF m 428 #[.val (.int p0), .val (.int p1), .val (.int p2), .val (.int p3), .val (.long q4), .second, .val (.long q5), .second, .val (.int ((p0 &&& (2147483647 : Int32)) % (5 : Int32))), .val (.ref b1), .val (.int (Int32.ofNat nB)), .val (.int (p1 &&& (3 : Int32))), .val (.int ((p3 &&& (255 : Int32)).toUInt32.toUInt16.toUInt32.toInt32)), .val (.int (p2 &&& (2147483647 : Int32))), .val (.ref b13), .val (.ref aq), .val (.ref aq)] [(.ref aq)])) _
        refine XS.aload X30.here hx rfl (hb hby at_428) rfl rfl ?_
        show Steps p.tables e below (T30.setTop (mkF m 430 #[.val (.int p0), .val (.int p1), .val (.int p2), .val (.int p3), .val (.long q4), .second, .val (.long q5), .second, .val (.int ((p0 &&& (2147483647 : Int32)) % (5 : Int32))), .val (.ref b1), .val (.int (Int32.ofNat nB)), .val (.int (p1 &&& (3 : Int32))), .val (.int ((p3 &&& (255 : Int32)).toUInt32.toUInt16.toUInt32.toInt32)), .val (.int (p2 &&& (2147483647 : Int32))), .val (.ref b13), .val (.ref aq), .val (.ref aq)] [(.ref aq), (.ref aq)])) _
        refine Jvm.RoadKit.acmp (g := (mkF m 430 #[.val (.int p0), .val (.int p1), .val (.int p2), .val (.int p3), .val (.long q4), .second, .val (.long q5), .second, .val (.int ((p0 &&& (2147483647 : Int32)) % (5 : Int32))), .val (.ref b1), .val (.int (Int32.ofNat nB)), .val (.int (p1 &&& (3 : Int32))), .val (.int ((p3 &&& (255 : Int32)).toUInt32.toUInt16.toUInt32.toInt32)), .val (.int (p2 &&& (2147483647 : Int32))), .val (.ref b13), .val (.ref aq), .val (.ref aq)] [(.ref aq), (.ref aq)])) X30 hx rfl rfl rfl (pc0 := 430) (pc' := 433) (same := true) rfl (hb hby at_430) rfl (decide_eq_true rfl) (by decide) (by decide) ?_
        show Steps p.tables e below (T30.setTop (mkF m 433 #[.val (.int p0), .val (.int p1), .val (.int p2), .val (.int p3), .val (.long q4), .second, .val (.long q5), .second, .val (.int ((p0 &&& (2147483647 : Int32)) % (5 : Int32))), .val (.ref b1), .val (.int (Int32.ofNat nB)), .val (.int (p1 &&& (3 : Int32))), .val (.int ((p3 &&& (255 : Int32)).toUInt32.toUInt16.toUInt32.toInt32)), .val (.int (p2 &&& (2147483647 : Int32))), .val (.ref b13), .val (.ref aq), .val (.ref aq)] [])) _
        refine XS.iconst X30.here hx rfl (hb hby at_433) ?_
        show Steps p.tables e below (T30.setTop (mkF m 434 #[.val (.int p0), .val (.int p1), .val (.int p2), .val (.int p3), .val (.long q4), .second, .val (.long q5), .second, .val (.int ((p0 &&& (2147483647 : Int32)) % (5 : Int32))), .val (.ref b1), .val (.int (Int32.ofNat nB)), .val (.int (p1 &&& (3 : Int32))), .val (.int ((p3 &&& (255 : Int32)).toUInt32.toUInt16.toUInt32.toInt32)), .val (.int (p2 &&& (2147483647 : Int32))), .val (.ref b13), .val (.ref aq), .val (.ref aq)] [(.int (1 : Int32))])) _
        refine XS.goto X30.here hx rfl (pc0 := 434) (pc' := 438) rfl (hb hby at_434) (by decide) (by decide) ?_
        show Steps p.tables e below (T30.setTop (mkF m 438 #[.val (.int p0), .val (.int p1), .val (.int p2), .val (.int p3), .val (.long q4), .second, .val (.long q5), .second, .val (.int ((p0 &&& (2147483647 : Int32)) % (5 : Int32))), .val (.ref b1), .val (.int (Int32.ofNat nB)), .val (.int (p1 &&& (3 : Int32))), .val (.int ((p3 &&& (255 : Int32)).toUInt32.toUInt16.toUInt32.toInt32)), .val (.int (p2 &&& (2147483647 : Int32))), .val (.ref b13), .val (.ref aq), .val (.ref aq)] [(.int (1 : Int32))])) _
        exact retN X30 hx (t := .boolean) Bd.returns (by simp) (hb hby at_438) hr
      · exact ⟨(by first | rfl | simp [hc7]), N30⟩
theorem own_lenT {args : Array Value} {s : State} {t : Term} {a : Addr} {cl : Cell} {ty : FieldType} {z : Int32} {N : Nat} (ev : t.eval args s none [] s = some (.ref a)) (A : Arr s s.heap a cl ty) (h : (Jvm.Cond.eq (.length t) (.int z)).value args s none s [] = some true) (hz : z = Int32.ofNat N) (hN : N < 2147483648) : cl.slots.size = N := by
  obtain ⟨u, w, e1, e2, k1, k2⟩ := cmp_v (Or.inl h)
  obtain rfl : w = .int z := (Option.some.inj (e2.symm.trans (Term.int_eval z)))
  obtain ⟨y, rfl⟩ := k2
  have hy : y = z := by simpa [Cond.value, e1, e2] using h
  subst hy
  have ha := A.fin (Vm.Alike.refl _)
  by_cases hlt : cl.slots.size < 2 ^ 31
  · have e3 := len_f ev ha hlt
    have e4 : Int32.ofNat cl.slots.size = y := Value.int.inj (Option.some.inj (e3.symm.trans e1))
    exact (own_inj hlt hN).mp (e4.trans hz)
  · simp [Term.eval, ev, ha, hlt] at e1
theorem own_elem {args : Array Value} {s : State} {t u : Term} {a : Addr} {v : Value} {cl : Cell} {ty : FieldType} {z : Int32} {i : Nat} (ev : t.eval args s none [] s = some (.ref a)) (A : Arr s s.heap a cl ty) (hu : u.eval args s none [] s = some v) (hv : (∃ b, v = .ref b) ∨ ∃ k, v = .int k) (h : (Jvm.Cond.eq (.elem t (.int z)) u).value args s none s [] = some true) (hi : z.toNatClampNeg = i) : cl.slots[i]? = some v := by
  cases e1 : (Term.elem t (.int z)).eval args s none [] s with
  | none => simp [Cond.value, e1] at h
  | some x =>
    have hx : x = v := by
      rcases hv with ⟨b, rfl⟩ | ⟨k, rfl⟩
      · cases x <;> simp [Cond.value, e1, hu] at h
        exact congrArg Value.ref h
      · cases x <;> simp [Cond.value, e1, hu] at h
        exact congrArg Value.int h
    subst hx
    have := (elem_in e1 ev (Term.int_eval z) A.1).2
    rw [hi] at this; exact this
theorem own_fldE {args : Array Value} {s : State} {t : Term} {C n d : String} {a : Addr} {v : Value} (ht : t.eval args s none [] s = some (.ref a)) (h : (Term.field t C n d).eval args s none [] s = some v) : Fld s s.heap a C n d v := by
  rw [fld_at ht] at h; exact Fld.start h
set_option maxRecDepth 65536 in
set_option maxHeartbeats 40000000 in
theorem comes_1 {Post : Tables → Env → Array Value → State → Outcome → State → Prop} (hpost : ∀ tb e args s v u, (limb_1_1.after args s (.returned v) u = true ∧ limb_1_2.after args s (.returned v) u = true ∧ True) → ReturnedEndW s (.returned v) u (Jvm.fieldLocs frame_1_writes args s ++ Jvm.arrayLocs frame_1_arrays args s ++ Jvm.staticLocs frame_1_statics s) 32 4288 → Post tb e args s (.returned v) u) :
    ArmFor flags0 classFile x code maxLocals ret World_1 tables_1 room_1 Calls_1 rest_1 Pre_1 Post := by
  intro l hfl _ _ p e ha hcas hclk s m args below hf hA hF happ hP
  obtain ⟨hcalls, hrest, hpre⟩ := hP
  obtain ⟨-, -, -, hnamed, -, -, -, hat⟩ := (Spec.applies_iff hf).mp happ
  obtain ⟨hg, hn⟩ := and_e (Cond.before_iff.mp (show (Jvm.Cond.and given_1 narrow_1).before args s = true from hpre))
  obtain ⟨g0, hg⟩ := and_e hg
  obtain ⟨g1, hg⟩ := and_e hg
  obtain ⟨g2, hg⟩ := and_e hg
  obtain ⟨g3, hg⟩ := and_e hg
  obtain ⟨g4, hg⟩ := and_e hg
  obtain ⟨g5, hg⟩ := and_e hg
  have g6 := hg
  obtain ⟨w0, w1, w2, w3, w4, w5, rfl⟩ : ∃ w0 w1 w2 w3 w4 w5 : Value, args = #[w0, w1, w2, w3, w4, w5] := by
    have hs : args.size = 6 := by simpa [Cond.value, given_1] using g0
    obtain ⟨L⟩ := args
    match L, hs with
    | [w0, w1, w2, w3, w4, w5], _ => exact ⟨w0, w1, w2, w3, w4, w5, rfl⟩
  have hw := fun d (hd : d ∈ tables_1) => atoms_spec (ws := Jvm.Cond.code x code maxLocals ret :: tables_1) hat d (List.mem_cons_of_mem _ hd)
  have hfit : Fit s := fun {y c} hc i hi => by
    obtain ⟨ha, rfl⟩ := Array.getElem?_eq_some_iff.mp hc
    have q := List.all_eq_true.mp ((Array.all_eq_true_iff_forall_mem.mp hF) _ (Array.getElem_mem ha)) i (List.mem_range.mpr hi)
    simpa [Array.getElem?_eq_getElem hi] using q
  obtain ⟨i0, ei0⟩ := is_v g1
  obtain rfl : w0 = (.int i0) := Option.some.inj ei0
  obtain ⟨i1, ei1⟩ := is_v g2
  obtain rfl : w1 = (.int i1) := Option.some.inj ei1
  obtain ⟨i2, ei2⟩ := is_v g3
  obtain rfl : w2 = (.int i2) := Option.some.inj ei2
  obtain ⟨i3, ei3⟩ := is_v g4
  obtain rfl : w3 = (.int i3) := Option.some.inj ei3
  obtain ⟨i4, ei4⟩ := isL_v g5
  obtain rfl : w4 = (.long i4) := Option.some.inj ei4
  obtain ⟨i5, ei5⟩ := isL_v g6
  obtain rfl : w5 = (.long i5) := Option.some.inj ei5
  obtain ⟨hsets, hown0⟩ := atoms_of _ (rest_1_c_eq ▸ (show rest_1_c.before _ s = true from hrest))
  obtain ⟨m0, hn⟩ := and_e hn
  obtain ⟨m1, hn⟩ := and_e hn
  obtain ⟨m2, hn⟩ := and_e hn
  obtain ⟨m3, hn⟩ := and_e hn
  obtain ⟨m4, hn⟩ := and_e hn
  obtain ⟨m5, hn⟩ := and_e hn
  obtain ⟨m6, hn⟩ := and_e hn
  obtain ⟨m7, hn⟩ := and_e hn
  obtain ⟨m8, hn⟩ := and_e hn
  obtain ⟨m9, hn⟩ := and_e hn
  obtain ⟨m10, hn⟩ := and_e hn
  obtain ⟨m11, hn⟩ := and_e hn
  obtain ⟨m12, hn⟩ := and_e hn
  obtain ⟨m13, hn⟩ := and_e hn
  obtain ⟨m14, hn⟩ := and_e hn
  obtain ⟨m15, hn⟩ := and_e hn
  obtain ⟨m16, hn⟩ := and_e hn
  obtain ⟨m17, hn⟩ := and_e hn
  obtain ⟨m18, hn⟩ := and_e hn
  obtain ⟨m19, hn⟩ := and_e hn
  obtain ⟨m20, hn⟩ := and_e hn
  obtain ⟨m21, hn⟩ := and_e hn
  obtain ⟨m22, hn⟩ := and_e hn
  obtain ⟨m23, hn⟩ := and_e hn
  obtain ⟨m24, hn⟩ := and_e hn
  obtain ⟨m25, hn⟩ := and_e hn
  obtain ⟨m26, hn⟩ := and_e hn
  obtain ⟨m27, hn⟩ := and_e hn
  obtain ⟨m28, hn⟩ := and_e hn
  obtain ⟨m29, hn⟩ := and_e hn
  obtain ⟨m30, hn⟩ := and_e hn
  obtain ⟨m31, hn⟩ := and_e hn
  obtain ⟨m32, hn⟩ := and_e hn
  obtain ⟨m33, hn⟩ := and_e hn
  obtain ⟨m34, hn⟩ := and_e hn
  obtain ⟨m35, hn⟩ := and_e hn
  obtain ⟨m36, hn⟩ := and_e hn
  obtain ⟨m37, hn⟩ := and_e hn
  obtain ⟨m38, hn⟩ := and_e hn
  obtain ⟨m39, hn⟩ := and_e hn
  have m40 := hn
  obtain ⟨w_Kind__VALUES, ev_Kind__VALUES⟩ := exa_v m1
  have E_Kind__VALUES := Exa.start ev_Kind__VALUES m1
  have S_Kind__VALUES := Sta.start ev_Kind__VALUES (Or.inr ⟨(hw _ (List.mem_of_getElem? (i := 75) rfl)), (hw _ (List.mem_of_getElem? (i := 81) rfl))⟩)
  obtain ⟨w_Kind_EXACT, ev_Kind_EXACT⟩ := exa_v m3
  have E_Kind_EXACT := Exa.start ev_Kind_EXACT m3
  have S_Kind_EXACT := Sta.start ev_Kind_EXACT (Or.inr ⟨(hw _ (List.mem_of_getElem? (i := 75) rfl)), (hw _ (List.mem_of_getElem? (i := 89) rfl))⟩)
  obtain ⟨w_Kind_ACTIVITY, ev_Kind_ACTIVITY⟩ := exa_v m5
  have E_Kind_ACTIVITY := Exa.start ev_Kind_ACTIVITY m5
  have S_Kind_ACTIVITY := Sta.start ev_Kind_ACTIVITY (Or.inr ⟨(hw _ (List.mem_of_getElem? (i := 75) rfl)), (hw _ (List.mem_of_getElem? (i := 90) rfl))⟩)
  obtain ⟨w_Kind_MENTION, ev_Kind_MENTION⟩ := exa_v m7
  have E_Kind_MENTION := Exa.start ev_Kind_MENTION m7
  have S_Kind_MENTION := Sta.start ev_Kind_MENTION (Or.inr ⟨(hw _ (List.mem_of_getElem? (i := 75) rfl)), (hw _ (List.mem_of_getElem? (i := 91) rfl))⟩)
  -- m0: (Jvm.Cond.arrayOf (Jvm.Term.static "heslar/Boundary$Kind" "$VALUES" "[Lheslar/Boundary$Kind;") (Jvm.ClassFile.FieldType.object "heslar/Boundary$Kind"))
  -- m2: (Jvm.Cond.eq (Jvm.Term.length (Jvm.Term.static "heslar/Boundary$Kind" "$VALUES" "[Lheslar/Boundary$Kind;")) (Jvm.Term.int (3 : Int32)))
  -- m4: (Jvm.Cond.eq (Jvm.Term.elem (Jvm.Term.static "heslar/Boundary$Kind" "$VALUES" "[Lheslar/Boundary$Kind;") (Jvm.Term.int (0 : Int32))) (Jvm.Term.static "heslar/Boundary$Kind" "EXACT" "Lheslar/Boundary$Kind;"))
  -- m6: (Jvm.Cond.eq (Jvm.Term.elem (Jvm.Term.static "heslar/Boundary$Kind" "$VALUES" "[Lheslar/Boundary$Kind;") (Jvm.Term.int (1 : Int32))) (Jvm.Term.static "heslar/Boundary$Kind" "ACTIVITY" "Lheslar/Boundary$Kind;"))
  -- m8: (Jvm.Cond.eq (Jvm.Term.elem (Jvm.Term.static "heslar/Boundary$Kind" "$VALUES" "[Lheslar/Boundary$Kind;") (Jvm.Term.int (2 : Int32))) (Jvm.Term.static "heslar/Boundary$Kind" "MENTION" "Lheslar/Boundary$Kind;"))
  -- m10: (Jvm.Cond.eq (Jvm.Term.field (Jvm.Term.field (Jvm.Term.static "heslar/Boundary$Kind" "EXACT" "Lheslar/Boundary$Kind;") "heslar/Boundary$Kind" "code" "Ljava/lang/String;") "java/lang/String" "coder" "B") (Jvm.Term.int (0 : Int32)))
  -- m11: (Jvm.Cond.arrayOf (Jvm.Term.field (Jvm.Term.field (Jvm.Term.static "heslar/Boundary$Kind" "EXACT" "Lheslar/Boundary$Kind;") "heslar/Boundary$Kind" "code" "Ljava/lang/String;") "java/lang/String" "value" "[B") Jvm.ClassFile.FieldType.byte)
  -- m12: (Jvm.Cond.eq (Jvm.Term.length (Jvm.Term.field (Jvm.Term.field (Jvm.Term.static "heslar/Boundary$Kind" "EXACT" "Lheslar/Boundary$Kind;") "heslar/Boundary$Kind" "code" "Ljava/lang/String;") "java/lang/String" "value" "[B")) (Jvm.Term.int (5 : Int32)))
  -- m14: (Jvm.Cond.eq (Jvm.Term.field (Jvm.Term.field (Jvm.Term.static "heslar/Boundary$Kind" "ACTIVITY" "Lheslar/Boundary$Kind;") "heslar/Boundary$Kind" "code" "Ljava/lang/String;") "java/lang/String" "coder" "B") (Jvm.Term.int (0 : Int32)))
  -- m15: (Jvm.Cond.arrayOf (Jvm.Term.field (Jvm.Term.field (Jvm.Term.static "heslar/Boundary$Kind" "ACTIVITY" "Lheslar/Boundary$Kind;") "heslar/Boundary$Kind" "code" "Ljava/lang/String;") "java/lang/String" "value" "[B") Jvm.ClassFile.FieldType.byte)
  -- m16: (Jvm.Cond.eq (Jvm.Term.length (Jvm.Term.field (Jvm.Term.field (Jvm.Term.static "heslar/Boundary$Kind" "ACTIVITY" "Lheslar/Boundary$Kind;") "heslar/Boundary$Kind" "code" "Ljava/lang/String;") "java/lang/String" "value" "[B")) (Jvm.Term.int (8 : Int32)))
  -- m18: (Jvm.Cond.eq (Jvm.Term.field (Jvm.Term.field (Jvm.Term.static "heslar/Boundary$Kind" "MENTION" "Lheslar/Boundary$Kind;") "heslar/Boundary$Kind" "code" "Ljava/lang/String;") "java/lang/String" "coder" "B") (Jvm.Term.int (0 : Int32)))
  -- m19: (Jvm.Cond.arrayOf (Jvm.Term.field (Jvm.Term.field (Jvm.Term.static "heslar/Boundary$Kind" "MENTION" "Lheslar/Boundary$Kind;") "heslar/Boundary$Kind" "code" "Ljava/lang/String;") "java/lang/String" "value" "[B") Jvm.ClassFile.FieldType.byte)
  -- m20: (Jvm.Cond.eq (Jvm.Term.length (Jvm.Term.field (Jvm.Term.field (Jvm.Term.static "heslar/Boundary$Kind" "MENTION" "Lheslar/Boundary$Kind;") "heslar/Boundary$Kind" "code" "Ljava/lang/String;") "java/lang/String" "value" "[B")) (Jvm.Term.int (7 : Int32)))
  -- m21: (Jvm.Cond.eq (Jvm.Term.elem (Jvm.Term.field (Jvm.Term.field (Jvm.Term.static "heslar/Boundary$Kind" "EXACT" "Lheslar/Boundary$Kind;") "heslar/Boundary$Kind" "code" "Ljava/lang/String;") "java/lang/String" "value" "[B") (Jvm.Term.int (0 : Int32))) (Jvm.Term.int (101 : Int32)))
  -- m22: (Jvm.Cond.eq (Jvm.Term.elem (Jvm.Term.field (Jvm.Term.field (Jvm.Term.static "heslar/Boundary$Kind" "EXACT" "Lheslar/Boundary$Kind;") "heslar/Boundary$Kind" "code" "Ljava/lang/String;") "java/lang/String" "value" "[B") (Jvm.Term.int (1 : Int32))) (Jvm.Term.int (120 : Int32)))
  -- m23: (Jvm.Cond.eq (Jvm.Term.elem (Jvm.Term.field (Jvm.Term.field (Jvm.Term.static "heslar/Boundary$Kind" "EXACT" "Lheslar/Boundary$Kind;") "heslar/Boundary$Kind" "code" "Ljava/lang/String;") "java/lang/String" "value" "[B") (Jvm.Term.int (2 : Int32))) (Jvm.Term.int (97 : Int32)))
  -- m24: (Jvm.Cond.eq (Jvm.Term.elem (Jvm.Term.field (Jvm.Term.field (Jvm.Term.static "heslar/Boundary$Kind" "EXACT" "Lheslar/Boundary$Kind;") "heslar/Boundary$Kind" "code" "Ljava/lang/String;") "java/lang/String" "value" "[B") (Jvm.Term.int (3 : Int32))) (Jvm.Term.int (99 : Int32)))
  -- m25: (Jvm.Cond.eq (Jvm.Term.elem (Jvm.Term.field (Jvm.Term.field (Jvm.Term.static "heslar/Boundary$Kind" "EXACT" "Lheslar/Boundary$Kind;") "heslar/Boundary$Kind" "code" "Ljava/lang/String;") "java/lang/String" "value" "[B") (Jvm.Term.int (4 : Int32))) (Jvm.Term.int (116 : Int32)))
  -- m26: (Jvm.Cond.eq (Jvm.Term.elem (Jvm.Term.field (Jvm.Term.field (Jvm.Term.static "heslar/Boundary$Kind" "ACTIVITY" "Lheslar/Boundary$Kind;") "heslar/Boundary$Kind" "code" "Ljava/lang/String;") "java/lang/String" "value" "[B") (Jvm.Term.int (0 : Int32))) (Jvm.Term.int (97 : Int32)))
  -- m27: (Jvm.Cond.eq (Jvm.Term.elem (Jvm.Term.field (Jvm.Term.field (Jvm.Term.static "heslar/Boundary$Kind" "ACTIVITY" "Lheslar/Boundary$Kind;") "heslar/Boundary$Kind" "code" "Ljava/lang/String;") "java/lang/String" "value" "[B") (Jvm.Term.int (1 : Int32))) (Jvm.Term.int (99 : Int32)))
  -- m28: (Jvm.Cond.eq (Jvm.Term.elem (Jvm.Term.field (Jvm.Term.field (Jvm.Term.static "heslar/Boundary$Kind" "ACTIVITY" "Lheslar/Boundary$Kind;") "heslar/Boundary$Kind" "code" "Ljava/lang/String;") "java/lang/String" "value" "[B") (Jvm.Term.int (2 : Int32))) (Jvm.Term.int (116 : Int32)))
  -- m29: (Jvm.Cond.eq (Jvm.Term.elem (Jvm.Term.field (Jvm.Term.field (Jvm.Term.static "heslar/Boundary$Kind" "ACTIVITY" "Lheslar/Boundary$Kind;") "heslar/Boundary$Kind" "code" "Ljava/lang/String;") "java/lang/String" "value" "[B") (Jvm.Term.int (3 : Int32))) (Jvm.Term.int (105 : Int32)))
  -- m30: (Jvm.Cond.eq (Jvm.Term.elem (Jvm.Term.field (Jvm.Term.field (Jvm.Term.static "heslar/Boundary$Kind" "ACTIVITY" "Lheslar/Boundary$Kind;") "heslar/Boundary$Kind" "code" "Ljava/lang/String;") "java/lang/String" "value" "[B") (Jvm.Term.int (4 : Int32))) (Jvm.Term.int (118 : Int32)))
  -- m31: (Jvm.Cond.eq (Jvm.Term.elem (Jvm.Term.field (Jvm.Term.field (Jvm.Term.static "heslar/Boundary$Kind" "ACTIVITY" "Lheslar/Boundary$Kind;") "heslar/Boundary$Kind" "code" "Ljava/lang/String;") "java/lang/String" "value" "[B") (Jvm.Term.int (5 : Int32))) (Jvm.Term.int (105 : Int32)))
  -- m32: (Jvm.Cond.eq (Jvm.Term.elem (Jvm.Term.field (Jvm.Term.field (Jvm.Term.static "heslar/Boundary$Kind" "ACTIVITY" "Lheslar/Boundary$Kind;") "heslar/Boundary$Kind" "code" "Ljava/lang/String;") "java/lang/String" "value" "[B") (Jvm.Term.int (6 : Int32))) (Jvm.Term.int (116 : Int32)))
  -- m33: (Jvm.Cond.eq (Jvm.Term.elem (Jvm.Term.field (Jvm.Term.field (Jvm.Term.static "heslar/Boundary$Kind" "ACTIVITY" "Lheslar/Boundary$Kind;") "heslar/Boundary$Kind" "code" "Ljava/lang/String;") "java/lang/String" "value" "[B") (Jvm.Term.int (7 : Int32))) (Jvm.Term.int (121 : Int32)))
  -- m34: (Jvm.Cond.eq (Jvm.Term.elem (Jvm.Term.field (Jvm.Term.field (Jvm.Term.static "heslar/Boundary$Kind" "MENTION" "Lheslar/Boundary$Kind;") "heslar/Boundary$Kind" "code" "Ljava/lang/String;") "java/lang/String" "value" "[B") (Jvm.Term.int (0 : Int32))) (Jvm.Term.int (109 : Int32)))
  -- m35: (Jvm.Cond.eq (Jvm.Term.elem (Jvm.Term.field (Jvm.Term.field (Jvm.Term.static "heslar/Boundary$Kind" "MENTION" "Lheslar/Boundary$Kind;") "heslar/Boundary$Kind" "code" "Ljava/lang/String;") "java/lang/String" "value" "[B") (Jvm.Term.int (1 : Int32))) (Jvm.Term.int (101 : Int32)))
  -- m36: (Jvm.Cond.eq (Jvm.Term.elem (Jvm.Term.field (Jvm.Term.field (Jvm.Term.static "heslar/Boundary$Kind" "MENTION" "Lheslar/Boundary$Kind;") "heslar/Boundary$Kind" "code" "Ljava/lang/String;") "java/lang/String" "value" "[B") (Jvm.Term.int (2 : Int32))) (Jvm.Term.int (110 : Int32)))
  -- m37: (Jvm.Cond.eq (Jvm.Term.elem (Jvm.Term.field (Jvm.Term.field (Jvm.Term.static "heslar/Boundary$Kind" "MENTION" "Lheslar/Boundary$Kind;") "heslar/Boundary$Kind" "code" "Ljava/lang/String;") "java/lang/String" "value" "[B") (Jvm.Term.int (3 : Int32))) (Jvm.Term.int (116 : Int32)))
  -- m38: (Jvm.Cond.eq (Jvm.Term.elem (Jvm.Term.field (Jvm.Term.field (Jvm.Term.static "heslar/Boundary$Kind" "MENTION" "Lheslar/Boundary$Kind;") "heslar/Boundary$Kind" "code" "Ljava/lang/String;") "java/lang/String" "value" "[B") (Jvm.Term.int (4 : Int32))) (Jvm.Term.int (105 : Int32)))
  -- m39: (Jvm.Cond.eq (Jvm.Term.elem (Jvm.Term.field (Jvm.Term.field (Jvm.Term.static "heslar/Boundary$Kind" "MENTION" "Lheslar/Boundary$Kind;") "heslar/Boundary$Kind" "code" "Ljava/lang/String;") "java/lang/String" "value" "[B") (Jvm.Term.int (5 : Int32))) (Jvm.Term.int (111 : Int32)))
  -- m40: (Jvm.Cond.eq (Jvm.Term.elem (Jvm.Term.field (Jvm.Term.field (Jvm.Term.static "heslar/Boundary$Kind" "MENTION" "Lheslar/Boundary$Kind;") "heslar/Boundary$Kind" "code" "Ljava/lang/String;") "java/lang/String" "value" "[B") (Jvm.Term.int (6 : Int32))) (Jvm.Term.int (110 : Int32)))
  have k1 := Cond.before_iff.mp (hsets _ (List.mem_of_getElem? (i := 1) rfl))
  obtain ⟨cs, ev_C⟩ := is_v k1
  have S_C := Sta.start ev_C (Or.inl (hsets _ (List.mem_of_getElem? (i := 0) rfl)))
  have hcs : ¬ cs = (0 : Int32) := by
    have k2 := not_v (Cond.before_iff.mp (hsets _ (List.mem_of_getElem? (i := 2) rfl)))
    intro q; subst q; have k3 := eq_i ev_C (Term.int_eval (0 : Int32)) rfl; rw [k3] at k2; cases k2
  obtain ⟨fm, ev_F, hfm⟩ := isR_v (Cond.before_iff.mp (hsets _ (List.mem_of_getElem? (i := 8) rfl)))
  have S_F := Sta.start ev_F (Or.inl (hsets _ (List.mem_of_getElem? (i := 7) rfl)))
  obtain ⟨y0, ey0⟩ := exa_v m9
  have Ey0 := Exa.start ey0 m9
  have Fk0 := own_fldE ev_Kind_EXACT ey0
  have Fc0 := own_fldI ey0 m10
  obtain ⟨z0, ez0⟩ := arr_v m11
  obtain ⟨cz0, Az0⟩ := Arr.start ez0 m11
  have Fv0 := own_fldE ey0 ez0
  have Gz0 : GA s s.heap z0 cz0.cls .byte 5 (fun i => .int (([101, 120, 97, 99, 116] : List Int32).getD i 0)) := ⟨cz0, Az0, rfl, own_lenT ez0 Az0 m12 rfl (by decide), (fun i hi => match i, hi with | 0, _ => own_elem ez0 Az0 (Term.int_eval _) (Or.inr ⟨_, rfl⟩) m21 rfl | 1, _ => own_elem ez0 Az0 (Term.int_eval _) (Or.inr ⟨_, rfl⟩) m22 rfl | 2, _ => own_elem ez0 Az0 (Term.int_eval _) (Or.inr ⟨_, rfl⟩) m23 rfl | 3, _ => own_elem ez0 Az0 (Term.int_eval _) (Or.inr ⟨_, rfl⟩) m24 rfl | 4, _ => own_elem ez0 Az0 (Term.int_eval _) (Or.inr ⟨_, rfl⟩) m25 rfl | n + 5, h => absurd h (by omega))⟩
  obtain ⟨y1, ey1⟩ := exa_v m13
  have Ey1 := Exa.start ey1 m13
  have Fk1 := own_fldE ev_Kind_ACTIVITY ey1
  have Fc1 := own_fldI ey1 m14
  obtain ⟨z1, ez1⟩ := arr_v m15
  obtain ⟨cz1, Az1⟩ := Arr.start ez1 m15
  have Fv1 := own_fldE ey1 ez1
  have Gz1 : GA s s.heap z1 cz1.cls .byte 8 (fun i => .int (([97, 99, 116, 105, 118, 105, 116, 121] : List Int32).getD i 0)) := ⟨cz1, Az1, rfl, own_lenT ez1 Az1 m16 rfl (by decide), (fun i hi => match i, hi with | 0, _ => own_elem ez1 Az1 (Term.int_eval _) (Or.inr ⟨_, rfl⟩) m26 rfl | 1, _ => own_elem ez1 Az1 (Term.int_eval _) (Or.inr ⟨_, rfl⟩) m27 rfl | 2, _ => own_elem ez1 Az1 (Term.int_eval _) (Or.inr ⟨_, rfl⟩) m28 rfl | 3, _ => own_elem ez1 Az1 (Term.int_eval _) (Or.inr ⟨_, rfl⟩) m29 rfl | 4, _ => own_elem ez1 Az1 (Term.int_eval _) (Or.inr ⟨_, rfl⟩) m30 rfl | 5, _ => own_elem ez1 Az1 (Term.int_eval _) (Or.inr ⟨_, rfl⟩) m31 rfl | 6, _ => own_elem ez1 Az1 (Term.int_eval _) (Or.inr ⟨_, rfl⟩) m32 rfl | 7, _ => own_elem ez1 Az1 (Term.int_eval _) (Or.inr ⟨_, rfl⟩) m33 rfl | n + 8, h => absurd h (by omega))⟩
  obtain ⟨y2, ey2⟩ := exa_v m17
  have Ey2 := Exa.start ey2 m17
  have Fk2 := own_fldE ev_Kind_MENTION ey2
  have Fc2 := own_fldI ey2 m18
  obtain ⟨z2, ez2⟩ := arr_v m19
  obtain ⟨cz2, Az2⟩ := Arr.start ez2 m19
  have Fv2 := own_fldE ey2 ez2
  have Gz2 : GA s s.heap z2 cz2.cls .byte 7 (fun i => .int (([109, 101, 110, 116, 105, 111, 110] : List Int32).getD i 0)) := ⟨cz2, Az2, rfl, own_lenT ez2 Az2 m20 rfl (by decide), (fun i hi => match i, hi with | 0, _ => own_elem ez2 Az2 (Term.int_eval _) (Or.inr ⟨_, rfl⟩) m34 rfl | 1, _ => own_elem ez2 Az2 (Term.int_eval _) (Or.inr ⟨_, rfl⟩) m35 rfl | 2, _ => own_elem ez2 Az2 (Term.int_eval _) (Or.inr ⟨_, rfl⟩) m36 rfl | 3, _ => own_elem ez2 Az2 (Term.int_eval _) (Or.inr ⟨_, rfl⟩) m37 rfl | 4, _ => own_elem ez2 Az2 (Term.int_eval _) (Or.inr ⟨_, rfl⟩) m38 rfl | 5, _ => own_elem ez2 Az2 (Term.int_eval _) (Or.inr ⟨_, rfl⟩) m39 rfl | 6, _ => own_elem ez2 Az2 (Term.int_eval _) (Or.inr ⟨_, rfl⟩) m40 rfl | n + 7, h => absurd h (by omega))⟩
  obtain ⟨cV, AV⟩ := Arr.start ev_Kind__VALUES m0
  obtain ⟨W, hW⟩ : ∃ W : Nat → Addr, W = (fun n => [w_Kind_EXACT, w_Kind_ACTIVITY, w_Kind_MENTION].getD n 0) := ⟨_, rfl⟩
  have V_V : GA s s.heap w_Kind__VALUES cV.cls (.object "heslar/Boundary$Kind") 3 (fun i => .ref (W i)) := ⟨cV, AV, rfl, own_lenT ev_Kind__VALUES AV m2 rfl (by decide), by rw [hW]; exact (fun i hi => match i, hi with | 0, _ => own_elem ev_Kind__VALUES AV ev_Kind_EXACT (Or.inl ⟨_, rfl⟩) m4 rfl | 1, _ => own_elem ev_Kind__VALUES AV ev_Kind_ACTIVITY (Or.inl ⟨_, rfl⟩) m6 rfl | 2, _ => own_elem ev_Kind__VALUES AV ev_Kind_MENTION (Or.inl ⟨_, rfl⟩) m8 rfl | n + 3, h => absurd h (by omega))⟩
  have T_0 : Sta s s.heap "heslar/Boundary$Kind" "EXACT" "Lheslar/Boundary$Kind;" (.ref (W 0)) := by rw [hW]; exact S_Kind_EXACT
  have T_1 : Sta s s.heap "heslar/Boundary$Kind" "ACTIVITY" "Lheslar/Boundary$Kind;" (.ref (W 1)) := by rw [hW]; exact S_Kind_ACTIVITY
  have T_2 : Sta s s.heap "heslar/Boundary$Kind" "MENTION" "Lheslar/Boundary$Kind;" (.ref (W 2)) := by rw [hW]; exact S_Kind_MENTION
  obtain ⟨cw, hcw⟩ : ∃ W : Nat → Addr, W = (fun n => [y0, y1, y2].getD n 0) := ⟨_, rfl⟩
  obtain ⟨cv, hcv⟩ : ∃ W : Nat → Addr, W = (fun n => [z0, z1, z2].getD n 0) := ⟨_, rfl⟩
  obtain ⟨ck, hck⟩ : ∃ W : Nat → ClassId, W = (fun n => [cz0.cls, cz1.cls, cz2.cls].getD n 0) := ⟨_, rfl⟩
  obtain ⟨cl, hcl⟩ : ∃ W : Nat → Nat, W = (fun n => [5, 8, 7].getD n 0) := ⟨_, rfl⟩
  obtain ⟨cf, hcf⟩ : ∃ W : Nat → Nat → Int32, W = (fun n i => ([[101, 120, 97, 99, 116], [97, 99, 116, 105, 118, 105, 116, 121], [109, 101, 110, 116, 105, 111, 110]] : List (List Int32)).getD n [] |>.getD i 0) := ⟨_, rfl⟩
  have hF : ∀ i, i < 3 → Fld s s.heap (W i) "heslar/Boundary$Kind" "code" "Ljava/lang/String;" (.ref (cw i)) := by rw [hW, hcw]; exact (fun i hi => match i, hi with | 0, _ => Fk0 | 1, _ => Fk1 | 2, _ => Fk2 | n + 3, h => absurd h (by omega))
  have hE : ∀ i, i < 3 → Exa s s.heap (W i) "heslar/Boundary$Kind" := by rw [hW]; exact (fun i hi => match i, hi with | 0, _ => E_Kind_EXACT | 1, _ => E_Kind_ACTIVITY | 2, _ => E_Kind_MENTION | n + 3, h => absurd h (by omega))
  have hSB : ∀ i, i < 3 → SB s s.heap (cw i) (cv i) (ck i) (cl i) (cf i) := by rw [hcw, hcv, hck, hcl, hcf]; exact (fun i hi => match i, hi with | 0, _ => ⟨Ey0, Fc0, Fv0, Gz0⟩ | 1, _ => ⟨Ey1, Fc1, Fv1, Gz1⟩ | 2, _ => ⟨Ey2, Fc2, Fv2, Gz2⟩ | n + 3, h => absurd h (by omega))
  have hcl4 : ∀ i, i < 3 → cl i ≤ 4000 := by rw [hcl]; exact (fun i hi => match i, hi with | 0, _ => by decide | 1, _ => by decide | 2, _ => by decide | n + 3, h => absurd h (by omega))
  have hEL : EW s #[Value.int i0, Value.int i1, Value.int i2, Value.int i3, Value.long i4, Value.long i5] consts_1 := EW.cons (hw _ (List.mem_of_getElem? (i := 2) rfl)) (by decide) (EW.cons (hw _ (List.mem_of_getElem? (i := 110) rfl)) (by decide) (EW.cons (hw _ (List.mem_of_getElem? (i := 111) rfl)) (by decide) (EW.cons (hw _ (List.mem_of_getElem? (i := 117) rfl)) (by decide) (EW.nil))))
  have hCH : CHv s consts_1 s.vm s.heap := CHv.start hEL hcalls.1 (hsets _ (List.mem_of_getElem? (i := 2) rfl)) (hw _ (List.mem_of_getElem? (i := 5) rfl)) (hw _ (List.mem_of_getElem? (i := 4) rfl))
  obtain ⟨n, o, h1, h2, h3, _, L, rfl, ⟨rfl, N⟩, -, hq⟩ := rm0 l s _ hw tables_1 i0 i1 i2 i3 i4 i5 hEL W cV.cls w_Kind__VALUES s.heap s.heap.size (Nat.le_refl _) S_Kind__VALUES E_Kind__VALUES V_V cw cv ck cl cf hcl4 hF hE hSB T_0 T_1 T_2 (by rw [hcl]; rfl) (by rw [hcl]; rfl) (by rw [hcl]; rfl) (by rw [hcf]; exact fun _ _ => rfl) (by rw [hcf]; exact fun _ _ => rfl) (by rw [hcf]; exact fun _ _ => rfl) cs hcs S_C fm hfm S_F p e ha hcas hclk s m _ below hf ((Spec.applies_iff_loose hf).mp happ).1 ⟨rfl, State.Warmed39.refl s, rfl, hCH⟩ trivial
  refine ⟨n, _, h1, h2, h3, hpost _ _ _ _ _ _ ⟨Cond.after_iff.mpr rfl, Cond.after_iff.mpr (eq_i res_at (Term.int_eval (1)) rfl), trivial⟩ ⟨hq.1, hq.2.1, hq.2.2.1, (hq.2.2.2.sift fun y hy => Or.inr (N y hy)).mono (by decide) (by decide)⟩⟩
theorem main_1_1 : Claimed_1_1 := comes_1 fun _ _ _ _ _ _ h hF => ⟨h.1, hF⟩
theorem main_1_2 : Claimed_1_2 := comes_1 fun _ _ _ _ _ _ h hF => ⟨h.2.1, hF⟩
end Jvm.Pilot.@@N@@
namespace Jvm.Pilot.@@N@@
open Jvm Jvm.ClassFile Sem Op Lib Jvm.Free Jvm.Stand Jvm.Pilot.@@N@@.Jvm.D
/-! MADE BY PROGRAM (witnessworld.py) out of the Statement's table words and the real class files: 22 classes; the members and pool entries that the words name. The judged class is class 1, her method 1. -/
namespace start1
open Jvm.ClassFile
def u (s : String) : CpInfo := .utf8 (stringToUtf16 s)
/-- a pool by its gaps: so many unusable entries, then the entry; so many at the end -/
def gap : Nat → List CpInfo → List CpInfo
  | 0, r => r
  | n + 1, r => .unusable :: gap n r
def poolList (es : List (Nat × CpInfo)) (last : Nat) : List CpInfo := es.foldr (fun e r => gap e.1 (e.2 :: r)) (gap last [])
def pool (es : List (Nat × CpInfo)) (last : Nat) : Array CpInfo := ⟨poolList es last⟩
def fileOf (pool : Array CpInfo) (this : Nat) (attrs : Array Attribute := #[]) (ms : Array MethodInfo := #[]) (fl : Nat := 33) (sup : Nat := 0) (ifs : Array Nat := #[]) (fds : Array FieldInfo := #[]) : ClassFile where
  minorVersion := 0
  majorVersion := 65
  constantPool := pool
  accessFlags := fl
  thisClass := this
  superClass := sup
  interfaces := ifs
  fields := fds
  methods := ms
  attributes := attrs
def plain (name : String) (sup : Option ClassId) : Class where
  name := name
  kind := .ordinary
  loader := none
  accessFlags := 33
  super := sup
  interfaces := #[]
  cf := none
  fields := #[]
  methods := #[]
  instanceTypes := #[]
  staticTypes := #[]
  resolved := #[]
  callSites := []
  init := .initialized
  statics := none
  mirror := none

def pool0 : Array CpInfo := pool [(5, u "<init>"), (0, u "()V"), (1, .class_ 10), (1, u "java/lang/Object"), (85, u "clone"), (0, u "()Ljava/lang/Object;")] 26

def k0c0 : Code := { maxStack := 0, maxLocals := 1, code := object_method_1_code, exceptionTable := #[], attributes := #[] }
def k0m0 : Method := { name := "<init>", desc := "()V", sig := { parameters := [], returnType := none }, accessFlags := 1, code := some k0c0 }
def k0m1 : Method := { name := "clone", desc := "()Ljava/lang/Object;", sig := { parameters := [], returnType := some (.object "java/lang/Object") }, accessFlags := 260, code := none }
/-- java/lang/Object -/
def k0 : Class := { plain "java/lang/Object" none with
  accessFlags := 33
  interfaces := #[]
  cf := some (fileOf pool0 8 #[] #[{ accessFlags := 1, nameIndex := 5, descriptorIndex := 6, attributes := #[] }, { accessFlags := 260, nameIndex := 96, descriptorIndex := 97, attributes := #[] }] 33 0 #[] #[])
  fields := #[]
  methods := #[k0m0, k0m1]
  instanceTypes := #[]
  staticTypes := #[]
  resolved := Array.replicate 124 none
  statics := none }

def pool1 : Array CpInfo := pool [(2, .class_ 4), (1, u "java/lang/Object"), (0, u "<init>"), (0, u "()V"), (0, .integer 2147483647), (0, .string 9), (0, u "exact"), (0, .string 11), (0, u "activity"), (0, .string 13), (0, u "mention"), (0, .methodref 15 16), (0, .class_ 17), (0, .nameAndType 18 19), (0, u "java/lang/String"), (0, u "length"), (0, u "()I"), (0, .methodref 21 22), (0, .class_ 23), (0, .nameAndType 24 25), (0, u "heslar/KindByCodePinLaw"), (0, u "at"), (0, u "(Ljava/lang/String;I)C"), (0, .long 255), (1, .long 2147483647), (1, .long 10), (1, .methodref 21 33), (0, .nameAndType 34 35), (0, u "take"), (0, u "([CI)[C"), (0, .methodref 15 37), (0, .nameAndType 5 38), (0, u "([C)V"), (0, .methodref 40 41), (0, .class_ 42), (0, .nameAndType 43 44), (0, u "heslar/Boundary$Kind"), (0, u "byCode"), (0, u "(Ljava/lang/String;)Lheslar/Boundary$Kind;"), (0, .methodref 21 46), (0, .nameAndType 47 44), (0, u "expected"), (0, .methodref 15 49), (0, .nameAndType 50 51), (0, u "charAt"), (0, u "(I)C"), (0, .methodref 15 53), (0, .nameAndType 54 55), (0, u "equals"), (0, u "(Ljava/lang/Object;)Z"), (0, .fieldref 40 57), (0, .nameAndType 58 59), (0, u "EXACT"), (0, u "Lheslar/Boundary$Kind;"), (0, .fieldref 40 61), (0, .nameAndType 62 59), (0, u "ACTIVITY"), (0, .fieldref 40 64), (0, .nameAndType 65 59), (0, u "MENTION"), (2, u "law"), (0, u "(IIIIJJ)Z")] 9

def k1m0 : Method := { name := "<init>", desc := "()V", sig := { parameters := [], returnType := none }, accessFlags := 2, code := none }
def k1c1 : Code := { maxStack := 6, maxLocals := 17, code := code, exceptionTable := #[], attributes := #[] }
def k1m1 : Method := { name := "law", desc := "(IIIIJJ)Z", sig := { parameters := [.int, .int, .int, .int, .long, .long], returnType := some .boolean }, accessFlags := 9, code := some k1c1 }
def k1c2 : Code := { maxStack := 2, maxLocals := 2, code := method_3_code, exceptionTable := #[], attributes := #[] }
def k1m2 : Method := { name := "at", desc := "(Ljava/lang/String;I)C", sig := { parameters := [(.object "java/lang/String"), .int], returnType := some .char }, accessFlags := 10, code := some k1c2 }
def k1c3 : Code := { maxStack := 2, maxLocals := 1, code := method_4_code, exceptionTable := #[], attributes := #[] }
def k1m3 : Method := { name := "expected", desc := "(Ljava/lang/String;)Lheslar/Boundary$Kind;", sig := { parameters := [(.object "java/lang/String")], returnType := some (.object "heslar/Boundary$Kind") }, accessFlags := 10, code := some k1c3 }
def k1c4 : Code := { maxStack := 5, maxLocals := 2, code := method_5_code, exceptionTable := #[], attributes := #[] }
def k1m4 : Method := { name := "take", desc := "([CI)[C", sig := { parameters := [(.array .char), .int], returnType := some (.array .char) }, accessFlags := 10, code := some k1c4 }
/-- heslar/KindByCodePinLaw -/
def k1 : Class := { plain "heslar/KindByCodePinLaw" (some 0) with
  accessFlags := 49
  interfaces := #[]
  cf := some (fileOf pool1 21 #[] #[{ accessFlags := 2, nameIndex := 5, descriptorIndex := 6, attributes := #[] }, { accessFlags := 9, nameIndex := 68, descriptorIndex := 69, attributes := #[] }, { accessFlags := 10, nameIndex := 24, descriptorIndex := 25, attributes := #[] }, { accessFlags := 10, nameIndex := 47, descriptorIndex := 44, attributes := #[] }, { accessFlags := 10, nameIndex := 34, descriptorIndex := 35, attributes := #[] }] 49 2 #[] #[])
  fields := #[]
  methods := #[k1m0, k1m1, k1m2, k1m3, k1m4]
  instanceTypes := #[]
  staticTypes := #[]
  resolved := Array.replicate 79 none
  statics := none }

def pool2 : Array CpInfo := pool [(1, .class_ 2), (0, u "java/io/Serializable"), (0, .class_ 4), (0, u "java/lang/Object")] 2

/-- java/io/Serializable -/
def k2 : Class := { plain "java/io/Serializable" (some 0) with
  accessFlags := 1537
  interfaces := #[]
  cf := some (fileOf pool2 1 #[] #[] 1537 3 #[] #[])
  fields := #[]
  methods := #[]
  instanceTypes := #[]
  staticTypes := #[]
  resolved := Array.replicate 7 none
  statics := none }

def pool3 : Array CpInfo := pool [(1, .class_ 2), (0, u "java/lang/Comparable"), (0, .class_ 4), (0, u "java/lang/Object")] 7

/-- java/lang/Comparable -/
def k3 : Class := { plain "java/lang/Comparable" (some 0) with
  accessFlags := 1537
  interfaces := #[]
  cf := some (fileOf pool3 1 #[] #[] 1537 3 #[] #[])
  fields := #[]
  methods := #[]
  instanceTypes := #[]
  staticTypes := #[]
  resolved := Array.replicate 12 none
  statics := none }

def pool4 : Array CpInfo := pool [(2, .class_ 4), (1, u "java/lang/CharSequence"), (42, .class_ 48), (0, u "java/lang/CharSequence$1CodePointIterator"), (10, .class_ 60), (0, u "java/lang/CharSequence$1CharIterator"), (5, .class_ 67), (0, u "java/lang/Object")] 63

/-- java/lang/CharSequence -/
def k4 : Class := { plain "java/lang/CharSequence" (some 0) with
  accessFlags := 1537
  interfaces := #[]
  cf := some (fileOf pool4 2 #[.nestMembers #[47, 59]] #[] 1537 66 #[] #[])
  fields := #[]
  methods := #[]
  instanceTypes := #[]
  staticTypes := #[]
  resolved := Array.replicate 131 none
  statics := none }

def pool5 : Array CpInfo := pool [(1, .class_ 2), (0, u "java/lang/constant/Constable"), (0, .class_ 4), (0, u "java/lang/Object")] 6

/-- java/lang/constant/Constable -/
def k5 : Class := { plain "java/lang/constant/Constable" (some 0) with
  accessFlags := 1537
  interfaces := #[]
  cf := some (fileOf pool5 1 #[] #[] 1537 3 #[] #[])
  fields := #[]
  methods := #[]
  instanceTypes := #[]
  staticTypes := #[]
  resolved := Array.replicate 11 none
  statics := none }

def pool6 : Array CpInfo := pool [(1, .class_ 2), (0, u "java/lang/constant/ConstantDesc"), (0, .class_ 4), (0, u "java/lang/Object")] 32

/-- java/lang/constant/ConstantDesc -/
def k6 : Class := { plain "java/lang/constant/ConstantDesc" (some 0) with
  accessFlags := 1537
  interfaces := #[]
  cf := some (fileOf pool6 1 #[] #[] 1537 3 #[] #[])
  fields := #[]
  methods := #[]
  instanceTypes := #[]
  staticTypes := #[]
  resolved := Array.replicate 37 none
  statics := none }

def pool7 : Array CpInfo := pool [(1, .methodref 2 3), (0, .class_ 4), (0, .nameAndType 5 6), (0, u "java/lang/Object"), (0, u "<init>"), (0, u "()V"), (0, .string 8), (0, u ""), (0, .fieldref 10 11), (0, .class_ 12), (0, .nameAndType 13 14), (0, u "java/lang/String"), (0, u "value"), (0, u "[B"), (0, .fieldref 10 16), (0, .nameAndType 17 18), (0, u "coder"), (0, u "B"), (2, u "hash"), (0, u "I"), (2, u "hashIsZero"), (0, u "Z"), (0, .methodref 10 28), (0, .nameAndType 5 29), (0, u "([CIILjava/lang/Void;)V"), (8, .fieldref 10 39), (0, .nameAndType 40 26), (0, u "COMPACT_STRINGS"), (1, .class_ 44), (1, u "java/lang/StringUTF16"), (0, u "compress"), (1, .methodref 42 48), (0, .nameAndType 49 50), (0, u "coderFromArrayLen"), (0, u "([BI)B"), (56, .class_ 109), (1, u "java/lang/StringLatin1"), (32, u "()Z"), (34, .methodref 42 178), (0, .nameAndType 45 179), (0, u "([CII)[B"), (154, u "()I"), (0, .methodref 10 336), (0, .nameAndType 17 337), (0, u "()B"), (25, u "([BI)C"), (27, u "(II)V"), (35, u "(I)C"), (64, .methodref 10 493), (0, .nameAndType 494 142), (0, u "isLatin1"), (0, .methodref 107 496), (0, .nameAndType 497 363), (0, u "charAt"), (3, u "checkIndex"), (5, u "length"), (33, .methodref 107 542), (0, .nameAndType 543 544), (0, u "equals"), (0, u "([B[B)Z"), (28, u "(Ljava/lang/Object;)Z"), (1, .class_ 576), (0, u "java/lang/CharSequence"), (22, u "CASE_INSENSITIVE_ORDER"), (0, u "Ljava/util/Comparator;"), (409, u "([C)V"), (42, .fieldref 1054 1055), (0, .class_ 1056), (0, .nameAndType 1057 1058), (0, u "jdk/internal/util/Preconditions"), (0, u "SIOOBE_FORMATTER"), (0, u "Ljava/util/function/BiFunction;"), (0, .methodref 1054 1060), (0, .nameAndType 501 1061), (0, u "(IILjava/util/function/BiFunction;)I"), (39, u "serialPersistentFields"), (0, u "[Ljava/io/ObjectStreamField;"), (0, .class_ 1104), (0, u "java/lang/String$CaseInsensitiveComparator"), (1, .class_ 1107), (0, u "java/io/Serializable"), (0, .class_ 1109), (0, u "java/lang/Comparable"), (0, .class_ 1111), (0, u "java/lang/constant/Constable"), (0, .class_ 1113), (0, u "java/lang/constant/ConstantDesc"), (2, u "serialVersionUID"), (0, u "J"), (3, u "REPL"), (0, u "C"), (2, u "LATIN1"), (1, u "UTF16")] 323

def k7m0 : Method := { name := "<init>", desc := "()V", sig := { parameters := [], returnType := none }, accessFlags := 1, code := none }
def k7c1 : Code := { maxStack := 5, maxLocals := 2, code := jdk_42_method_3_code, exceptionTable := #[], attributes := #[] }
def k7m1 : Method := { name := "<init>", desc := "([C)V", sig := { parameters := [(.array .char)], returnType := none }, accessFlags := 1, code := some k7c1 }
def k7c2 : Code := { maxStack := 2, maxLocals := 1, code := jdk_42_method_54_code, exceptionTable := #[], attributes := #[] }
def k7m2 : Method := { name := "length", desc := "()I", sig := { parameters := [], returnType := some .int }, accessFlags := 1, code := some k7c2 }
def k7c3 : Code := { maxStack := 2, maxLocals := 2, code := jdk_42_method_56_code, exceptionTable := #[], attributes := #[] }
def k7m3 : Method := { name := "charAt", desc := "(I)C", sig := { parameters := [.int], returnType := some .char }, accessFlags := 1, code := some k7c3 }
def k7c4 : Code := { maxStack := 2, maxLocals := 3, code := jdk_42_method_66_code, exceptionTable := #[], attributes := #[] }
def k7m4 : Method := { name := "equals", desc := "(Ljava/lang/Object;)Z", sig := { parameters := [(.object "java/lang/Object")], returnType := some .boolean }, accessFlags := 1, code := some k7c4 }
def k7c5 : Code := { maxStack := 4, maxLocals := 6, code := jdk_42_method_149_code, exceptionTable := #[], attributes := #[] }
def k7m5 : Method := { name := "<init>", desc := "([CIILjava/lang/Void;)V", sig := { parameters := [(.array .char), .int, .int, (.object "java/lang/Void")], returnType := none }, accessFlags := 2, code := some k7c5 }
def k7c6 : Code := { maxStack := 1, maxLocals := 1, code := jdk_42_method_152_code, exceptionTable := #[], attributes := #[] }
def k7m6 : Method := { name := "coder", desc := "()B", sig := { parameters := [], returnType := some .byte }, accessFlags := 0, code := some k7c6 }
def k7c7 : Code := { maxStack := 1, maxLocals := 1, code := jdk_42_method_154_code, exceptionTable := #[], attributes := #[] }
def k7m7 : Method := { name := "isLatin1", desc := "()Z", sig := { parameters := [], returnType := some .boolean }, accessFlags := 0, code := some k7c7 }
def k7c8 : Code := { maxStack := 3, maxLocals := 2, code := jdk_42_method_155_code, exceptionTable := #[], attributes := #[] }
def k7m8 : Method := { name := "checkIndex", desc := "(II)V", sig := { parameters := [.int, .int], returnType := none }, accessFlags := 8, code := some k7c8 }
/-- java/lang/String -/
def k7 : Class := { plain "java/lang/String" (some 0) with
  accessFlags := 49
  interfaces := #[2, 3, 4, 5, 6]
  cf := some (fileOf pool7 10 #[.nestMembers #[1103]] #[{ accessFlags := 1, nameIndex := 5, descriptorIndex := 6, attributes := #[] }, { accessFlags := 1, nameIndex := 5, descriptorIndex := 1010, attributes := #[] }, { accessFlags := 1, nameIndex := 507, descriptorIndex := 334, attributes := #[] }, { accessFlags := 1, nameIndex := 497, descriptorIndex := 427, attributes := #[] }, { accessFlags := 1, nameIndex := 543, descriptorIndex := 573, attributes := #[] }, { accessFlags := 2, nameIndex := 5, descriptorIndex := 29, attributes := #[] }, { accessFlags := 0, nameIndex := 17, descriptorIndex := 337, attributes := #[] }, { accessFlags := 0, nameIndex := 494, descriptorIndex := 142, attributes := #[] }, { accessFlags := 8, nameIndex := 501, descriptorIndex := 391, attributes := #[] }] 49 2 #[1106, 1108, 575, 1110, 1112] #[{ accessFlags := 18, nameIndex := 13, descriptorIndex := 14, attributes := #[] }, { accessFlags := 18, nameIndex := 17, descriptorIndex := 18, attributes := #[] }, { accessFlags := 2, nameIndex := 21, descriptorIndex := 22, attributes := #[] }, { accessFlags := 2, nameIndex := 25, descriptorIndex := 26, attributes := #[] }, { accessFlags := 26, nameIndex := 1116, descriptorIndex := 1117, attributes := #[] }, { accessFlags := 24, nameIndex := 40, descriptorIndex := 26, attributes := #[] }, { accessFlags := 26, nameIndex := 1101, descriptorIndex := 1102, attributes := #[] }, { accessFlags := 26, nameIndex := 1121, descriptorIndex := 1122, attributes := #[] }, { accessFlags := 25, nameIndex := 599, descriptorIndex := 600, attributes := #[] }, { accessFlags := 24, nameIndex := 1125, descriptorIndex := 18, attributes := #[] }, { accessFlags := 24, nameIndex := 1127, descriptorIndex := 18, attributes := #[] }])
  fields := #[{ name := "value", type := (.array .byte), accessFlags := 18, slot := 0, constantValue := 0 }, { name := "coder", type := .byte, accessFlags := 18, slot := 1, constantValue := 0 }, { name := "hash", type := .int, accessFlags := 2, slot := 2, constantValue := 0 }, { name := "hashIsZero", type := .boolean, accessFlags := 2, slot := 3, constantValue := 0 }, { name := "serialVersionUID", type := .long, accessFlags := 26, slot := 0, constantValue := 0 }, { name := "COMPACT_STRINGS", type := .boolean, accessFlags := 24, slot := 1, constantValue := 0 }, { name := "serialPersistentFields", type := (.array (.object "java/io/ObjectStreamField")), accessFlags := 26, slot := 2, constantValue := 0 }, { name := "REPL", type := .char, accessFlags := 26, slot := 3, constantValue := 0 }, { name := "CASE_INSENSITIVE_ORDER", type := (.object "java/util/Comparator"), accessFlags := 25, slot := 4, constantValue := 0 }, { name := "LATIN1", type := .byte, accessFlags := 24, slot := 5, constantValue := 0 }, { name := "UTF16", type := .byte, accessFlags := 24, slot := 6, constantValue := 0 }]
  methods := #[k7m0, k7m1, k7m2, k7m3, k7m4, k7m5, k7m6, k7m7, k7m8]
  instanceTypes := #[(.array .byte), .byte, .int, .boolean]
  staticTypes := #[.long, .boolean, (.array (.object "java/io/ObjectStreamField")), .char, (.object "java/util/Comparator"), .byte, .byte]
  resolved := Array.replicate 1451 none
  statics := some 0 }

def pool8 : Array CpInfo := pool [(1, .class_ 2), (0, u "java/lang/String"), (1, .class_ 6), (1, u "java/lang/Object"), (0, u "<init>"), (0, u "()V"), (0, .methodref 1 10), (0, .nameAndType 11 12), (0, u "checkIndex"), (0, u "(II)V"), (1, .class_ 16), (1, u "java/lang/StringLatin1"), (36, u "([BI)C"), (67, u "$assertionsDisabled"), (0, u "Z"), (98, .class_ 223), (1, u "java/lang/StringLatin1$LinesSpliterator"), (28, u "charAt"), (28, u "equals"), (0, u "([B[B)Z"), (107, .class_ 391), (0, u "java/lang/StringLatin1$CharsSpliterator")] 3

def k8m0 : Method := { name := "<init>", desc := "()V", sig := { parameters := [], returnType := none }, accessFlags := 0, code := none }
def k8c1 : Code := { maxStack := 2, maxLocals := 2, code := jdk_43_method_2_code, exceptionTable := #[], attributes := #[] }
def k8m1 : Method := { name := "charAt", desc := "([BI)C", sig := { parameters := [(.array .byte), .int], returnType := some .char }, accessFlags := 9, code := some k8c1 }
def k8c2 : Code := { maxStack := 3, maxLocals := 3, code := jdk_43_method_13_code, exceptionTable := #[], attributes := #[] }
def k8m2 : Method := { name := "equals", desc := "([B[B)Z", sig := { parameters := [(.array .byte), (.array .byte)], returnType := some .boolean }, accessFlags := 9, code := some k8c2 }
/-- java/lang/StringLatin1 -/
def k8 : Class := { plain "java/lang/StringLatin1" (some 0) with
  accessFlags := 48
  interfaces := #[]
  cf := some (fileOf pool8 14 #[.nestMembers #[390, 221]] #[{ accessFlags := 0, nameIndex := 7, descriptorIndex := 8, attributes := #[] }, { accessFlags := 9, nameIndex := 252, descriptorIndex := 53, attributes := #[] }, { accessFlags := 9, nameIndex := 281, descriptorIndex := 282, attributes := #[] }] 48 4 #[] #[{ accessFlags := 4120, nameIndex := 121, descriptorIndex := 122, attributes := #[] }])
  fields := #[{ name := "$assertionsDisabled", type := .boolean, accessFlags := 4120, slot := 0, constantValue := 0 }]
  methods := #[k8m0, k8m1, k8m2]
  instanceTypes := #[]
  staticTypes := #[.boolean]
  resolved := Array.replicate 395 none
  statics := none }

def pool9 : Array CpInfo := pool [(2, .class_ 4), (1, u "java/lang/Object"), (0, u "<init>"), (0, u "()V"), (17, .class_ 26), (1, u "jdk/internal/util/Preconditions"), (6, u "checkIndex"), (21, .class_ 56), (0, u "jdk/internal/util/Preconditions$4"), (57, .class_ 115), (0, u "jdk/internal/util/Preconditions$1"), (7, u "SIOOBE_FORMATTER"), (0, u "Ljava/util/function/BiFunction;"), (0, .class_ 126), (0, u "jdk/internal/util/Preconditions$2"), (3, u "AIOOBE_FORMATTER"), (0, .class_ 132), (0, u "jdk/internal/util/Preconditions$3"), (3, u "IOOBE_FORMATTER"), (41, u "(IILjava/util/function/BiFunction;)I")] 15

def k9m0 : Method := { name := "<init>", desc := "()V", sig := { parameters := [], returnType := none }, accessFlags := 1, code := none }
def k9c1 : Code := { maxStack := 3, maxLocals := 3, code := jdk_41_method_11_code, exceptionTable := #[], attributes := #[] }
def k9m1 : Method := { name := "checkIndex", desc := "(IILjava/util/function/BiFunction;)I", sig := { parameters := [.int, .int, (.object "java/util/function/BiFunction")], returnType := some .int }, accessFlags := 9, code := some k9c1 }
/-- jdk/internal/util/Preconditions -/
def k9 : Class := { plain "jdk/internal/util/Preconditions" (some 0) with
  accessFlags := 33
  interfaces := #[]
  cf := some (fileOf pool9 24 #[.nestMembers #[55, 131, 125, 114]] #[{ accessFlags := 1, nameIndex := 5, descriptorIndex := 6, attributes := #[] }, { accessFlags := 9, nameIndex := 33, descriptorIndex := 178, attributes := #[] }] 33 2 #[] #[{ accessFlags := 25, nameIndex := 123, descriptorIndex := 124, attributes := #[] }, { accessFlags := 25, nameIndex := 130, descriptorIndex := 124, attributes := #[] }, { accessFlags := 25, nameIndex := 136, descriptorIndex := 124, attributes := #[] }])
  fields := #[{ name := "SIOOBE_FORMATTER", type := (.object "java/util/function/BiFunction"), accessFlags := 25, slot := 0, constantValue := 0 }, { name := "AIOOBE_FORMATTER", type := (.object "java/util/function/BiFunction"), accessFlags := 25, slot := 1, constantValue := 0 }, { name := "IOOBE_FORMATTER", type := (.object "java/util/function/BiFunction"), accessFlags := 25, slot := 2, constantValue := 0 }]
  methods := #[k9m0, k9m1]
  instanceTypes := #[]
  staticTypes := #[(.object "java/util/function/BiFunction"), (.object "java/util/function/BiFunction"), (.object "java/util/function/BiFunction")]
  resolved := Array.replicate 194 none
  statics := some 1 }

def pool10 : Array CpInfo := pool [(6, .class_ 8), (1, u "java/lang/Object"), (0, u "<init>"), (0, u "()V"), (1, .class_ 14), (1, u "java/lang/StringUTF16"), (31, u "$assertionsDisabled"), (0, u "Z"), (13, u "HI_BYTE_SHIFT"), (0, u "I"), (2, u "LO_BYTE_SHIFT"), (49, .methodref 12 116), (0, .nameAndType 117 118), (0, u "compress"), (0, u "([CI[BII)I"), (3, u "([CII)[B"), (138, u "coderFromArrayLen"), (0, u "([BI)B"), (106, .class_ 371), (1, u "java/lang/StringUTF16$LinesSpliterator"), (58, u "MAX_LENGTH"), (196, .class_ 628), (0, u "java/lang/StringUTF16$CodePointsSpliterator"), (0, .class_ 630), (0, u "java/lang/StringUTF16$CharsSpliterator")] 4

def k10m0 : Method := { name := "<init>", desc := "()V", sig := { parameters := [], returnType := none }, accessFlags := 0, code := none }
def k10c1 : Code := { maxStack := 2, maxLocals := 2, code := jdk_52_method_15_code, exceptionTable := #[], attributes := #[] }
def k10m1 : Method := { name := "coderFromArrayLen", desc := "([BI)B", sig := { parameters := [(.array .byte), .int], returnType := some .byte }, accessFlags := 8, code := some k10c1 }
def k10c2 : Code := { maxStack := 5, maxLocals := 6, code := jdk_52_method_16_code, exceptionTable := #[], attributes := #[] }
def k10m2 : Method := { name := "compress", desc := "([CII)[B", sig := { parameters := [(.array .char), .int, .int], returnType := some (.array .byte) }, accessFlags := 9, code := some k10c2 }
def k10c3 : Code := { maxStack := 3, maxLocals := 7, code := jdk_52_method_21_code, exceptionTable := #[], attributes := #[] }
def k10m3 : Method := { name := "compress", desc := "([CI[BII)I", sig := { parameters := [(.array .char), .int, (.array .byte), .int, .int], returnType := some .int }, accessFlags := 9, code := some k10c3 }
/-- java/lang/StringUTF16 -/
def k10 : Class := { plain "java/lang/StringUTF16" (some 0) with
  accessFlags := 48
  interfaces := #[]
  cf := some (fileOf pool10 12 #[.nestMembers #[627, 629, 369]] #[{ accessFlags := 0, nameIndex := 9, descriptorIndex := 10, attributes := #[] }, { accessFlags := 8, nameIndex := 261, descriptorIndex := 262, attributes := #[] }, { accessFlags := 9, nameIndex := 117, descriptorIndex := 122, attributes := #[] }, { accessFlags := 9, nameIndex := 117, descriptorIndex := 118, attributes := #[] }] 48 6 #[] #[{ accessFlags := 26, nameIndex := 61, descriptorIndex := 62, attributes := #[] }, { accessFlags := 26, nameIndex := 65, descriptorIndex := 62, attributes := #[] }, { accessFlags := 24, nameIndex := 430, descriptorIndex := 62, attributes := #[] }, { accessFlags := 4120, nameIndex := 46, descriptorIndex := 47, attributes := #[] }])
  fields := #[{ name := "HI_BYTE_SHIFT", type := .int, accessFlags := 26, slot := 0, constantValue := 0 }, { name := "LO_BYTE_SHIFT", type := .int, accessFlags := 26, slot := 1, constantValue := 0 }, { name := "MAX_LENGTH", type := .int, accessFlags := 24, slot := 2, constantValue := 0 }, { name := "$assertionsDisabled", type := .boolean, accessFlags := 4120, slot := 3, constantValue := 0 }]
  methods := #[k10m0, k10m1, k10m2, k10m3]
  instanceTypes := #[]
  staticTypes := #[.int, .int, .int, .boolean]
  resolved := Array.replicate 635 none
  statics := none }

def pool11 : Array CpInfo := pool [(2, .class_ 4), (1, u "java/lang/Enum"), (0, u "name"), (0, u "Ljava/lang/String;"), (2, u "ordinal"), (0, u "I"), (1, .class_ 14), (1, u "java/lang/Object"), (4, u "hash"), (86, .class_ 108), (1, u "java/lang/Enum$EnumDesc"), (2, .class_ 112), (0, u "java/lang/constant/Constable"), (0, .class_ 114), (0, u "java/lang/Comparable"), (0, .class_ 116), (0, u "java/io/Serializable")] 87

/-- java/lang/Enum -/
def k11 : Class := { plain "java/lang/Enum" (some 0) with
  accessFlags := 1057
  interfaces := #[5, 3, 2]
  cf := some (fileOf pool11 2 #[.nestMembers #[106]] #[] 1057 12 #[111, 113, 115] #[{ accessFlags := 18, nameIndex := 5, descriptorIndex := 6, attributes := #[] }, { accessFlags := 18, nameIndex := 9, descriptorIndex := 10, attributes := #[] }, { accessFlags := 2, nameIndex := 19, descriptorIndex := 10, attributes := #[] }])
  fields := #[{ name := "name", type := (.object "java/lang/String"), accessFlags := 18, slot := 0, constantValue := 0 }, { name := "ordinal", type := .int, accessFlags := 18, slot := 1, constantValue := 0 }, { name := "hash", type := .int, accessFlags := 2, slot := 2, constantValue := 0 }]
  methods := #[]
  instanceTypes := #[(.object "java/lang/String"), .int, .int]
  staticTypes := #[]
  resolved := Array.replicate 204 none
  statics := none }

def pool12 : Array CpInfo := pool [(1, .class_ 2), (0, u "heslar/Boundary$Kind"), (2, u "EXACT"), (0, u "Lheslar/Boundary$Kind;"), (2, u "ACTIVITY"), (2, u "MENTION"), (0, .fieldref 1 14), (0, .nameAndType 15 16), (0, u "$VALUES"), (0, u "[Lheslar/Boundary$Kind;"), (0, .methodref 18 19), (0, .class_ 16), (0, .nameAndType 20 21), (0, u "clone"), (0, u "()Ljava/lang/Object;"), (1, .class_ 25), (1, u "java/lang/Enum"), (6, .fieldref 1 33), (0, .nameAndType 34 35), (0, u "code"), (0, u "Ljava/lang/String;"), (0, .methodref 1 37), (0, .nameAndType 38 39), (0, u "values"), (0, u "()[Lheslar/Boundary$Kind;"), (0, .methodref 41 42), (0, .class_ 43), (0, .nameAndType 44 45), (0, u "java/lang/String"), (0, u "equals"), (0, u "(Ljava/lang/Object;)Z"), (17, u "(Ljava/lang/String;)Lheslar/Boundary$Kind;"), (4, u "byCode"), (7, .class_ 77), (0, u "heslar/Boundary")] 2

def k12c0 : Code := { maxStack := 1, maxLocals := 0, code := prog_2_method_1_code, exceptionTable := #[], attributes := #[] }
def k12m0 : Method := { name := "values", desc := "()[Lheslar/Boundary$Kind;", sig := { parameters := [], returnType := some (.array (.object "heslar/Boundary$Kind")) }, accessFlags := 9, code := some k12c0 }
def k12c1 : Code := { maxStack := 2, maxLocals := 5, code := prog_2_method_5_code, exceptionTable := #[], attributes := #[] }
def k12m1 : Method := { name := "byCode", desc := "(Ljava/lang/String;)Lheslar/Boundary$Kind;", sig := { parameters := [(.object "java/lang/String")], returnType := some (.object "heslar/Boundary$Kind") }, accessFlags := 8, code := some k12c1 }
/-- heslar/Boundary$Kind -/
def k12 : Class := { plain "heslar/Boundary$Kind" (some 11) with
  accessFlags := 16433
  interfaces := #[]
  cf := some (fileOf pool12 1 #[.nestHost 76] #[{ accessFlags := 9, nameIndex := 38, descriptorIndex := 39, attributes := #[] }, { accessFlags := 8, nameIndex := 68, descriptorIndex := 63, attributes := #[] }] 16433 23 #[] #[{ accessFlags := 16409, nameIndex := 5, descriptorIndex := 6, attributes := #[] }, { accessFlags := 16409, nameIndex := 9, descriptorIndex := 6, attributes := #[] }, { accessFlags := 16409, nameIndex := 12, descriptorIndex := 6, attributes := #[] }, { accessFlags := 18, nameIndex := 34, descriptorIndex := 35, attributes := #[] }, { accessFlags := 4122, nameIndex := 15, descriptorIndex := 16, attributes := #[] }])
  fields := #[{ name := "EXACT", type := (.object "heslar/Boundary$Kind"), accessFlags := 16409, slot := 0, constantValue := 0 }, { name := "ACTIVITY", type := (.object "heslar/Boundary$Kind"), accessFlags := 16409, slot := 1, constantValue := 0 }, { name := "MENTION", type := (.object "heslar/Boundary$Kind"), accessFlags := 16409, slot := 2, constantValue := 0 }, { name := "code", type := (.object "java/lang/String"), accessFlags := 18, slot := 3, constantValue := 0 }, { name := "$VALUES", type := (.array (.object "heslar/Boundary$Kind")), accessFlags := 4122, slot := 3, constantValue := 0 }]
  methods := #[k12m0, k12m1]
  instanceTypes := #[(.object "java/lang/String"), .int, .int, (.object "java/lang/String")]
  staticTypes := #[(.object "heslar/Boundary$Kind"), (.object "heslar/Boundary$Kind"), (.object "heslar/Boundary$Kind"), (.array (.object "heslar/Boundary$Kind"))]
  resolved := Array.replicate 80 none
  statics := some 2 }

def pool13 : Array CpInfo := pool [(1, .class_ 2), (0, u "java/lang/Cloneable"), (0, .class_ 4), (0, u "java/lang/Object")] 2

/-- java/lang/Cloneable -/
def k13 : Class := { plain "java/lang/Cloneable" (some 0) with
  accessFlags := 1537
  interfaces := #[]
  cf := some (fileOf pool13 1 #[] #[] 1537 3 #[] #[])
  fields := #[]
  methods := #[]
  instanceTypes := #[]
  staticTypes := #[]
  resolved := Array.replicate 7 none
  statics := none }

def pool14 : Array CpInfo := pool [(9, u "<init>"), (6, .class_ 18), (1, u "java/lang/Object"), (0, u "()V"), (1, .class_ 23), (1, u "jdk/internal/util/ArraysSupport"), (0, u "LOG2_ARRAY_LONG_INDEX_SCALE"), (0, u "I"), (2, u "U"), (0, u "Ljdk/internal/misc/Unsafe;"), (8, u "BIG_ENDIAN"), (0, u "Z"), (8, u "LOG2_BYTE_BIT_SIZE"), (4, u "LOG2_ARRAY_INT_INDEX_SCALE"), (54, u "JLA"), (0, u "Ljdk/internal/access/JavaLangAccess;"), (11, u "LOG2_ARRAY_BOOLEAN_INDEX_SCALE"), (9, u "LOG2_ARRAY_BYTE_INDEX_SCALE"), (5, u "LOG2_ARRAY_CHAR_INDEX_SCALE"), (5, u "LOG2_ARRAY_SHORT_INDEX_SCALE"), (18, u "LOG2_ARRAY_FLOAT_INDEX_SCALE"), (24, u "LOG2_ARRAY_DOUBLE_INDEX_SCALE"), (89, u "T_BOOLEAN"), (2, u "T_CHAR"), (1, u "T_FLOAT"), (1, u "T_DOUBLE"), (1, u "T_BYTE"), (1, u "T_SHORT"), (1, u "T_INT"), (1, u "T_LONG"), (1, u "SOFT_MAX_ARRAY_LENGTH")] 83

def k14m0 : Method := { name := "<init>", desc := "()V", sig := { parameters := [], returnType := none }, accessFlags := 2, code := none }
/-- jdk/internal/util/ArraysSupport -/
def k14 : Class := { plain "jdk/internal/util/ArraysSupport" (some 0) with
  accessFlags := 33
  interfaces := #[]
  cf := some (fileOf pool14 21 #[] #[{ accessFlags := 2, nameIndex := 9, descriptorIndex := 19, attributes := #[] }] 33 16 #[] #[{ accessFlags := 24, nameIndex := 28, descriptorIndex := 29, attributes := #[] }, { accessFlags := 26, nameIndex := 38, descriptorIndex := 39, attributes := #[] }, { accessFlags := 25, nameIndex := 121, descriptorIndex := 25, attributes := #[] }, { accessFlags := 25, nameIndex := 131, descriptorIndex := 25, attributes := #[] }, { accessFlags := 25, nameIndex := 137, descriptorIndex := 25, attributes := #[] }, { accessFlags := 25, nameIndex := 143, descriptorIndex := 25, attributes := #[] }, { accessFlags := 25, nameIndex := 53, descriptorIndex := 25, attributes := #[] }, { accessFlags := 25, nameIndex := 24, descriptorIndex := 25, attributes := #[] }, { accessFlags := 25, nameIndex := 162, descriptorIndex := 25, attributes := #[] }, { accessFlags := 25, nameIndex := 187, descriptorIndex := 25, attributes := #[] }, { accessFlags := 26, nameIndex := 48, descriptorIndex := 25, attributes := #[] }, { accessFlags := 25, nameIndex := 277, descriptorIndex := 25, attributes := #[] }, { accessFlags := 25, nameIndex := 280, descriptorIndex := 25, attributes := #[] }, { accessFlags := 25, nameIndex := 282, descriptorIndex := 25, attributes := #[] }, { accessFlags := 25, nameIndex := 284, descriptorIndex := 25, attributes := #[] }, { accessFlags := 25, nameIndex := 286, descriptorIndex := 25, attributes := #[] }, { accessFlags := 25, nameIndex := 288, descriptorIndex := 25, attributes := #[] }, { accessFlags := 25, nameIndex := 290, descriptorIndex := 25, attributes := #[] }, { accessFlags := 25, nameIndex := 292, descriptorIndex := 25, attributes := #[] }, { accessFlags := 26, nameIndex := 108, descriptorIndex := 109, attributes := #[] }, { accessFlags := 25, nameIndex := 294, descriptorIndex := 25, attributes := #[] }])
  fields := #[{ name := "U", type := (.object "jdk/internal/misc/Unsafe"), accessFlags := 24, slot := 0, constantValue := 0 }, { name := "BIG_ENDIAN", type := .boolean, accessFlags := 26, slot := 1, constantValue := 0 }, { name := "LOG2_ARRAY_BOOLEAN_INDEX_SCALE", type := .int, accessFlags := 25, slot := 2, constantValue := 0 }, { name := "LOG2_ARRAY_BYTE_INDEX_SCALE", type := .int, accessFlags := 25, slot := 3, constantValue := 0 }, { name := "LOG2_ARRAY_CHAR_INDEX_SCALE", type := .int, accessFlags := 25, slot := 4, constantValue := 0 }, { name := "LOG2_ARRAY_SHORT_INDEX_SCALE", type := .int, accessFlags := 25, slot := 5, constantValue := 0 }, { name := "LOG2_ARRAY_INT_INDEX_SCALE", type := .int, accessFlags := 25, slot := 6, constantValue := 0 }, { name := "LOG2_ARRAY_LONG_INDEX_SCALE", type := .int, accessFlags := 25, slot := 7, constantValue := 0 }, { name := "LOG2_ARRAY_FLOAT_INDEX_SCALE", type := .int, accessFlags := 25, slot := 8, constantValue := 0 }, { name := "LOG2_ARRAY_DOUBLE_INDEX_SCALE", type := .int, accessFlags := 25, slot := 9, constantValue := 0 }, { name := "LOG2_BYTE_BIT_SIZE", type := .int, accessFlags := 26, slot := 10, constantValue := 0 }, { name := "T_BOOLEAN", type := .int, accessFlags := 25, slot := 11, constantValue := 0 }, { name := "T_CHAR", type := .int, accessFlags := 25, slot := 12, constantValue := 0 }, { name := "T_FLOAT", type := .int, accessFlags := 25, slot := 13, constantValue := 0 }, { name := "T_DOUBLE", type := .int, accessFlags := 25, slot := 14, constantValue := 0 }, { name := "T_BYTE", type := .int, accessFlags := 25, slot := 15, constantValue := 0 }, { name := "T_SHORT", type := .int, accessFlags := 25, slot := 16, constantValue := 0 }, { name := "T_INT", type := .int, accessFlags := 25, slot := 17, constantValue := 0 }, { name := "T_LONG", type := .int, accessFlags := 25, slot := 18, constantValue := 0 }, { name := "JLA", type := (.object "jdk/internal/access/JavaLangAccess"), accessFlags := 26, slot := 19, constantValue := 0 }, { name := "SOFT_MAX_ARRAY_LENGTH", type := .int, accessFlags := 25, slot := 20, constantValue := 0 }]
  methods := #[k14m0]
  instanceTypes := #[]
  staticTypes := #[(.object "jdk/internal/misc/Unsafe"), .boolean, .int, .int, .int, .int, .int, .int, .int, .int, .int, .int, .int, .int, .int, .int, .int, .int, .int, (.object "jdk/internal/access/JavaLangAccess"), .int]
  resolved := Array.replicate 378 none
  statics := none }

/-- the primitive byte -/
def k15 : Class := { plain "byte" none with kind := .primitive 'B', accessFlags := 0x411 }
/-- [B -/
def k16 : Class := { plain "[B" (some 0) with kind := .array 15 .byte, interfaces := #[13, 2], accessFlags := 1041 }

/-- the primitive char -/
def k17 : Class := { plain "char" none with kind := .primitive 'C', accessFlags := 0x411 }
/-- [C -/
def k18 : Class := { plain "[C" (some 0) with kind := .array 17 .char, interfaces := #[13, 2], accessFlags := 1041 }

/-- the primitive int -/
def k19 : Class := { plain "int" none with kind := .primitive 'I', accessFlags := 0x411 }
/-- [I -/
def k20 : Class := { plain "[I" (some 0) with kind := .array 19 .int, interfaces := #[13, 2], accessFlags := 1041 }

/-- [Lheslar/Boundary$Kind; -/
def k21 : Class := { plain "[Lheslar/Boundary$Kind;" (some 0) with kind := .array 12 (.object "heslar/Boundary$Kind"), interfaces := #[13, 2], accessFlags := 1041 }

def heap : Heap := #[{ cls := 7, slots := #[.long 0, .int 1, .null, .int 0, .null, .int 0, .int 0], vm := .statics 7 },
  { cls := 9, slots := #[.null, .null, .null], vm := .statics 9 },
  { cls := 12, slots := #[.ref 4, .ref 5, .ref 6, .ref 3], vm := .statics 12 },
  { cls := 21, slots := #[.ref 4, .ref 5, .ref 6], vm := .none },
  { cls := 12, slots := #[.null, .int 0, .int 0, .ref 7], vm := .none },
  { cls := 12, slots := #[.null, .int 0, .int 0, .ref 8], vm := .none },
  { cls := 12, slots := #[.null, .int 0, .int 0, .ref 9], vm := .none },
  { cls := 7, slots := #[.ref 10, .int 0, .int 0, .int 0], vm := .none },
  { cls := 7, slots := #[.ref 11, .int 0, .int 0, .int 0], vm := .none },
  { cls := 7, slots := #[.ref 12, .int 0, .int 0, .int 0], vm := .none },
  { cls := 16, slots := #[.int 101, .int 120, .int 97, .int 99, .int 116], vm := .none },
  { cls := 16, slots := #[.int 97, .int 99, .int 116, .int 105, .int 118, .int 105, .int 116, .int 121], vm := .none },
  { cls := 16, slots := #[.int 109, .int 101, .int 110, .int 116, .int 105, .int 111, .int 110], vm := .none }]
def classes : Array Class := #[k0, k1, k2, k3, k4, k5, k6, k7, k8, k9, k10, k11, k12, k13, k14, k15, k16, k17, k18, k19, k20, k21]
def interned : List (Array UInt16 × Addr) := []
def slotsUsed : Nat := 61
def theMethod : MethodId := ⟨1, 1⟩
def args0 : Array Value := #[.int 1, .int 2, .int 3, .int 4, .long 5, .long 6]
def aboutOver (below : List Frame) : State where
  vm := { classes := classes, interned := interned.toArray }
  heap := heap
  slotsUsed := slotsUsed
  threads := #[{ frames := .invoking theMethod args0 :: below }]
def below0 : List Frame := [.native { method := ⟨0, 0⟩, args := #[] }]
def about1 : State := aboutOver below0
def p0 : Program := .bare "" "" ""
def e0 : Env := launch0.env 0 0 0
theorem w_frames : about1.frames = Frame.invoking theMethod args0 :: below0 := rfl
set_option maxRecDepth 65536 in
theorem w_args : argsFit about1.vm theMethod args0 = true := by decide +kernel
set_option maxRecDepth 65536 in
theorem w_heap : heapFits about1 = true := by decide +kernel
set_option maxRecDepth 65536 in
theorem w_runnable : about1.curStatus? = some .runnable := by decide +kernel
set_option maxRecDepth 65536 in
theorem w_alone : about1.alone = true := by decide +kernel
set_option maxRecDepth 65536 in
theorem w_named : about1.methodNamed? x = some theMethod := by decide +kernel
set_option maxRecDepth 65536 in
theorem w_hears : about1.hears theMethod below0 = true := by decide +kernel
set_option maxRecDepth 65536 in
theorem w_ripe : about1.ripe theMethod args0 below0 = true := by decide +kernel
theorem w_running : about1.status = .running := rfl
set_option maxRecDepth 65536 in
theorem w_room : about1.hasRoom e0.platform room_1 = true :=
  launch0.hasRoom_least _ room_1 (by decide +kernel) (by decide +kernel) (by decide +kernel) (by decide +kernel) (by decide +kernel) (by decide +kernel)
theorem allAtoms_all (ts : List Jvm.Cond) (a : Array Jvm.Value) (st : Jvm.State) : (allAtoms ts).before a st = ts.all (fun c => c.before a st) := by
  induction ts with
  | nil => rfl
  | cons c t ih =>
    show (Jvm.Cond.and c (allAtoms t)).before a st = _
    rw [Jvm.Cond.before_and, ih, List.all_cons]
def words1 : List Jvm.Cond := Jvm.Cond.code x code maxLocals ret :: tables_1
/-- a 'code' word, met by the world's own term for the bytes: nothing is compared byte by byte -/
theorem code_word {y : MethodName} {bytes : ByteArray} {mx : Nat} {rt : Option FieldType} {a : Array Value} {s : State} {m : MethodId} {meth : Method} {c : Code} (h1 : s.methodNamed? y = some m) (h2 : s.vm.method? m = some meth) (h3 : meth.code = some c) (h4 : c.code = bytes)
    (h5 : (c.maxLocals == mx && c.exceptionTable.isEmpty && decide (c.maxStack ≤ mostOperands) && decide (meth.sig.returnType = rt) && !meth.locks && decide (parseMethodDescriptor y.desc = some meth.sig)) = true) : (Jvm.Cond.code y bytes mx rt).before a s = true := by
  simp only [Bool.and_eq_true, beq_iff_eq, Bool.not_eq_true', decide_eq_true_eq] at h5
  obtain ⟨⟨⟨⟨⟨g1, g2⟩, g3⟩, g4⟩, g5⟩, g6⟩ := h5
  simp [Cond.before, Cond.holds, Cond.value, h1, h2, h3, h4, g1, g2, g3, g4, g5, g6]
def isCode : Jvm.Cond → Bool
  | .code _ _ _ _ => true
  | _ => false
theorem all_split {L : List Jvm.Cond} {P : Jvm.Cond → Bool} (h1 : L.all (fun c => isCode c || P c) = true) (h2 : ∀ c ∈ L.filter isCode, P c = true) : L.all P = true := by
  refine List.all_eq_true.mpr fun c hc => ?_
  have h := List.all_eq_true.mp h1 c hc
  rcases Bool.eq_false_or_eq_true (isCode c) with hi | hi
  · exact h2 c (List.mem_filter.mpr ⟨hc, hi⟩)
  · simpa [hi] using h
set_option maxRecDepth 65536 in
theorem w_c0 : (Jvm.Cond.code x code maxLocals ret).before args0 about1 = true := code_word (m := ⟨1, 1⟩) (meth := k1m1) (c := k1c1) (by decide +kernel) rfl rfl rfl (by decide +kernel)
set_option maxRecDepth 65536 in
theorem w_c1 : (Jvm.Cond.code ({ cls := "java/lang/String", name := "length", desc := "()I" } : Jvm.MethodName) jdk_42_method_54_code (1 : Nat) (Option.some Jvm.ClassFile.FieldType.int)).before args0 about1 = true := code_word (m := ⟨7, 2⟩) (meth := k7m2) (c := k7c2) (by decide +kernel) rfl rfl rfl (by decide +kernel)
set_option maxRecDepth 65536 in
theorem w_c2 : (Jvm.Cond.code ({ cls := "java/lang/String", name := "coder", desc := "()B" } : Jvm.MethodName) jdk_42_method_152_code (1 : Nat) (Option.some Jvm.ClassFile.FieldType.byte)).before args0 about1 = true := code_word (m := ⟨7, 6⟩) (meth := k7m6) (c := k7c6) (by decide +kernel) rfl rfl rfl (by decide +kernel)
set_option maxRecDepth 65536 in
theorem w_c3 : (Jvm.Cond.code ({ cls := "heslar/KindByCodePinLaw", name := "at", desc := "(Ljava/lang/String;I)C" } : Jvm.MethodName) method_3_code (2 : Nat) (Option.some Jvm.ClassFile.FieldType.char)).before args0 about1 = true := code_word (m := ⟨1, 2⟩) (meth := k1m2) (c := k1c2) (by decide +kernel) rfl rfl rfl (by decide +kernel)
set_option maxRecDepth 65536 in
theorem w_c4 : (Jvm.Cond.code ({ cls := "java/lang/String", name := "charAt", desc := "(I)C" } : Jvm.MethodName) jdk_42_method_56_code (2 : Nat) (Option.some Jvm.ClassFile.FieldType.char)).before args0 about1 = true := code_word (m := ⟨7, 3⟩) (meth := k7m3) (c := k7c3) (by decide +kernel) rfl rfl rfl (by decide +kernel)
set_option maxRecDepth 65536 in
theorem w_c5 : (Jvm.Cond.code ({ cls := "java/lang/String", name := "isLatin1", desc := "()Z" } : Jvm.MethodName) jdk_42_method_154_code (1 : Nat) (Option.some Jvm.ClassFile.FieldType.boolean)).before args0 about1 = true := code_word (m := ⟨7, 7⟩) (meth := k7m7) (c := k7c7) (by decide +kernel) rfl rfl rfl (by decide +kernel)
set_option maxRecDepth 65536 in
theorem w_c6 : (Jvm.Cond.code ({ cls := "java/lang/StringLatin1", name := "charAt", desc := "([BI)C" } : Jvm.MethodName) jdk_43_method_2_code (2 : Nat) (Option.some Jvm.ClassFile.FieldType.char)).before args0 about1 = true := code_word (m := ⟨8, 1⟩) (meth := k8m1) (c := k8c1) (by decide +kernel) rfl rfl rfl (by decide +kernel)
set_option maxRecDepth 65536 in
theorem w_c7 : (Jvm.Cond.code ({ cls := "java/lang/String", name := "checkIndex", desc := "(II)V" } : Jvm.MethodName) jdk_42_method_155_code (2 : Nat) (Option.none : Option Jvm.ClassFile.FieldType)).before args0 about1 = true := code_word (m := ⟨7, 8⟩) (meth := k7m8) (c := k7c8) (by decide +kernel) rfl rfl rfl (by decide +kernel)
set_option maxRecDepth 65536 in
theorem w_c8 : (Jvm.Cond.code ({ cls := "jdk/internal/util/Preconditions", name := "checkIndex", desc := "(IILjava/util/function/BiFunction;)I" } : Jvm.MethodName) jdk_41_method_11_code (3 : Nat) (Option.some Jvm.ClassFile.FieldType.int)).before args0 about1 = true := code_word (m := ⟨9, 1⟩) (meth := k9m1) (c := k9c1) (by decide +kernel) rfl rfl rfl (by decide +kernel)
set_option maxRecDepth 65536 in
theorem w_c9 : (Jvm.Cond.code ({ cls := "heslar/KindByCodePinLaw", name := "take", desc := "([CI)[C" } : Jvm.MethodName) method_5_code (2 : Nat) (Option.some (Jvm.ClassFile.FieldType.array Jvm.ClassFile.FieldType.char))).before args0 about1 = true := code_word (m := ⟨1, 4⟩) (meth := k1m4) (c := k1c4) (by decide +kernel) rfl rfl rfl (by decide +kernel)
set_option maxRecDepth 65536 in
theorem w_c10 : (Jvm.Cond.code ({ cls := "java/lang/String", name := "<init>", desc := "([C)V" } : Jvm.MethodName) jdk_42_method_3_code (2 : Nat) (Option.none : Option Jvm.ClassFile.FieldType)).before args0 about1 = true := code_word (m := ⟨7, 1⟩) (meth := k7m1) (c := k7c1) (by decide +kernel) rfl rfl rfl (by decide +kernel)
set_option maxRecDepth 65536 in
theorem w_c11 : (Jvm.Cond.code ({ cls := "java/lang/String", name := "<init>", desc := "([CIILjava/lang/Void;)V" } : Jvm.MethodName) jdk_42_method_149_code (6 : Nat) (Option.none : Option Jvm.ClassFile.FieldType)).before args0 about1 = true := code_word (m := ⟨7, 5⟩) (meth := k7m5) (c := k7c5) (by decide +kernel) rfl rfl rfl (by decide +kernel)
set_option maxRecDepth 65536 in
theorem w_c12 : (Jvm.Cond.code ({ cls := "java/lang/Object", name := "<init>", desc := "()V" } : Jvm.MethodName) object_method_1_code (1 : Nat) (Option.none : Option Jvm.ClassFile.FieldType)).before args0 about1 = true := code_word (m := ⟨0, 0⟩) (meth := k0m0) (c := k0c0) (by decide +kernel) rfl rfl rfl (by decide +kernel)
set_option maxRecDepth 65536 in
theorem w_c13 : (Jvm.Cond.code ({ cls := "java/lang/StringUTF16", name := "compress", desc := "([CII)[B" } : Jvm.MethodName) jdk_52_method_16_code (6 : Nat) (Option.some (Jvm.ClassFile.FieldType.array Jvm.ClassFile.FieldType.byte))).before args0 about1 = true := code_word (m := ⟨10, 2⟩) (meth := k10m2) (c := k10c2) (by decide +kernel) rfl rfl rfl (by decide +kernel)
set_option maxRecDepth 65536 in
theorem w_c14 : (Jvm.Cond.code ({ cls := "java/lang/StringUTF16", name := "compress", desc := "([CI[BII)I" } : Jvm.MethodName) jdk_52_method_21_code (7 : Nat) (Option.some Jvm.ClassFile.FieldType.int)).before args0 about1 = true := code_word (m := ⟨10, 3⟩) (meth := k10m3) (c := k10c3) (by decide +kernel) rfl rfl rfl (by decide +kernel)
set_option maxRecDepth 65536 in
theorem w_c15 : (Jvm.Cond.code ({ cls := "java/lang/StringUTF16", name := "coderFromArrayLen", desc := "([BI)B" } : Jvm.MethodName) jdk_52_method_15_code (2 : Nat) (Option.some Jvm.ClassFile.FieldType.byte)).before args0 about1 = true := code_word (m := ⟨10, 1⟩) (meth := k10m1) (c := k10c1) (by decide +kernel) rfl rfl rfl (by decide +kernel)
set_option maxRecDepth 65536 in
theorem w_c16 : (Jvm.Cond.code ({ cls := "heslar/Boundary$Kind", name := "byCode", desc := "(Ljava/lang/String;)Lheslar/Boundary$Kind;" } : Jvm.MethodName) prog_2_method_5_code (5 : Nat) (Option.some (Jvm.ClassFile.FieldType.object "heslar/Boundary$Kind"))).before args0 about1 = true := code_word (m := ⟨12, 1⟩) (meth := k12m1) (c := k12c1) (by decide +kernel) rfl rfl rfl (by decide +kernel)
set_option maxRecDepth 65536 in
theorem w_c17 : (Jvm.Cond.code ({ cls := "heslar/Boundary$Kind", name := "values", desc := "()[Lheslar/Boundary$Kind;" } : Jvm.MethodName) prog_2_method_1_code (0 : Nat) (Option.some (Jvm.ClassFile.FieldType.array (Jvm.ClassFile.FieldType.object "heslar/Boundary$Kind")))).before args0 about1 = true := code_word (m := ⟨12, 0⟩) (meth := k12m0) (c := k12c0) (by decide +kernel) rfl rfl rfl (by decide +kernel)
set_option maxRecDepth 65536 in
theorem w_c18 : (Jvm.Cond.code ({ cls := "java/lang/String", name := "equals", desc := "(Ljava/lang/Object;)Z" } : Jvm.MethodName) jdk_42_method_66_code (3 : Nat) (Option.some Jvm.ClassFile.FieldType.boolean)).before args0 about1 = true := code_word (m := ⟨7, 4⟩) (meth := k7m4) (c := k7c4) (by decide +kernel) rfl rfl rfl (by decide +kernel)
set_option maxRecDepth 65536 in
theorem w_c19 : (Jvm.Cond.code ({ cls := "java/lang/StringLatin1", name := "equals", desc := "([B[B)Z" } : Jvm.MethodName) jdk_43_method_13_code (3 : Nat) (Option.some Jvm.ClassFile.FieldType.boolean)).before args0 about1 = true := code_word (m := ⟨8, 2⟩) (meth := k8m2) (c := k8c2) (by decide +kernel) rfl rfl rfl (by decide +kernel)
set_option maxRecDepth 65536 in
theorem w_c20 : (Jvm.Cond.code ({ cls := "heslar/KindByCodePinLaw", name := "expected", desc := "(Ljava/lang/String;)Lheslar/Boundary$Kind;" } : Jvm.MethodName) method_4_code (1 : Nat) (Option.some (Jvm.ClassFile.FieldType.object "heslar/Boundary$Kind"))).before args0 about1 = true := code_word (m := ⟨1, 3⟩) (meth := k1m3) (c := k1c3) (by decide +kernel) rfl rfl rfl (by decide +kernel)
def codes1 : List Jvm.Cond := [Jvm.Cond.code x code maxLocals ret, Jvm.Cond.code ({ cls := "java/lang/String", name := "length", desc := "()I" } : Jvm.MethodName) jdk_42_method_54_code (1 : Nat) (Option.some Jvm.ClassFile.FieldType.int), Jvm.Cond.code ({ cls := "java/lang/String", name := "coder", desc := "()B" } : Jvm.MethodName) jdk_42_method_152_code (1 : Nat) (Option.some Jvm.ClassFile.FieldType.byte), Jvm.Cond.code ({ cls := "heslar/KindByCodePinLaw", name := "at", desc := "(Ljava/lang/String;I)C" } : Jvm.MethodName) method_3_code (2 : Nat) (Option.some Jvm.ClassFile.FieldType.char), Jvm.Cond.code ({ cls := "java/lang/String", name := "charAt", desc := "(I)C" } : Jvm.MethodName) jdk_42_method_56_code (2 : Nat) (Option.some Jvm.ClassFile.FieldType.char), Jvm.Cond.code ({ cls := "java/lang/String", name := "isLatin1", desc := "()Z" } : Jvm.MethodName) jdk_42_method_154_code (1 : Nat) (Option.some Jvm.ClassFile.FieldType.boolean), Jvm.Cond.code ({ cls := "java/lang/StringLatin1", name := "charAt", desc := "([BI)C" } : Jvm.MethodName) jdk_43_method_2_code (2 : Nat) (Option.some Jvm.ClassFile.FieldType.char), Jvm.Cond.code ({ cls := "java/lang/String", name := "checkIndex", desc := "(II)V" } : Jvm.MethodName) jdk_42_method_155_code (2 : Nat) (Option.none : Option Jvm.ClassFile.FieldType), Jvm.Cond.code ({ cls := "jdk/internal/util/Preconditions", name := "checkIndex", desc := "(IILjava/util/function/BiFunction;)I" } : Jvm.MethodName) jdk_41_method_11_code (3 : Nat) (Option.some Jvm.ClassFile.FieldType.int), Jvm.Cond.code ({ cls := "heslar/KindByCodePinLaw", name := "take", desc := "([CI)[C" } : Jvm.MethodName) method_5_code (2 : Nat) (Option.some (Jvm.ClassFile.FieldType.array Jvm.ClassFile.FieldType.char)), Jvm.Cond.code ({ cls := "java/lang/String", name := "<init>", desc := "([C)V" } : Jvm.MethodName) jdk_42_method_3_code (2 : Nat) (Option.none : Option Jvm.ClassFile.FieldType), Jvm.Cond.code ({ cls := "java/lang/String", name := "<init>", desc := "([CIILjava/lang/Void;)V" } : Jvm.MethodName) jdk_42_method_149_code (6 : Nat) (Option.none : Option Jvm.ClassFile.FieldType), Jvm.Cond.code ({ cls := "java/lang/Object", name := "<init>", desc := "()V" } : Jvm.MethodName) object_method_1_code (1 : Nat) (Option.none : Option Jvm.ClassFile.FieldType), Jvm.Cond.code ({ cls := "java/lang/StringUTF16", name := "compress", desc := "([CII)[B" } : Jvm.MethodName) jdk_52_method_16_code (6 : Nat) (Option.some (Jvm.ClassFile.FieldType.array Jvm.ClassFile.FieldType.byte)), Jvm.Cond.code ({ cls := "java/lang/StringUTF16", name := "compress", desc := "([CI[BII)I" } : Jvm.MethodName) jdk_52_method_21_code (7 : Nat) (Option.some Jvm.ClassFile.FieldType.int), Jvm.Cond.code ({ cls := "java/lang/StringUTF16", name := "coderFromArrayLen", desc := "([BI)B" } : Jvm.MethodName) jdk_52_method_15_code (2 : Nat) (Option.some Jvm.ClassFile.FieldType.byte), Jvm.Cond.code ({ cls := "heslar/Boundary$Kind", name := "byCode", desc := "(Ljava/lang/String;)Lheslar/Boundary$Kind;" } : Jvm.MethodName) prog_2_method_5_code (5 : Nat) (Option.some (Jvm.ClassFile.FieldType.object "heslar/Boundary$Kind")), Jvm.Cond.code ({ cls := "heslar/Boundary$Kind", name := "values", desc := "()[Lheslar/Boundary$Kind;" } : Jvm.MethodName) prog_2_method_1_code (0 : Nat) (Option.some (Jvm.ClassFile.FieldType.array (Jvm.ClassFile.FieldType.object "heslar/Boundary$Kind"))), Jvm.Cond.code ({ cls := "java/lang/String", name := "equals", desc := "(Ljava/lang/Object;)Z" } : Jvm.MethodName) jdk_42_method_66_code (3 : Nat) (Option.some Jvm.ClassFile.FieldType.boolean), Jvm.Cond.code ({ cls := "java/lang/StringLatin1", name := "equals", desc := "([B[B)Z" } : Jvm.MethodName) jdk_43_method_13_code (3 : Nat) (Option.some Jvm.ClassFile.FieldType.boolean), Jvm.Cond.code ({ cls := "heslar/KindByCodePinLaw", name := "expected", desc := "(Ljava/lang/String;)Lheslar/Boundary$Kind;" } : Jvm.MethodName) method_4_code (1 : Nat) (Option.some (Jvm.ClassFile.FieldType.object "heslar/Boundary$Kind"))]
set_option maxRecDepth 65536 in
theorem codes_eq : words1.filter isCode = codes1 := rfl
theorem w_codes : ∀ c ∈ words1.filter isCode, c.before args0 about1 = true := by
  rw [codes_eq]
  intro c hc
  simp only [codes1, List.mem_cons, List.not_mem_nil, or_false] at hc
  rcases hc with rfl | rfl | rfl | rfl | rfl | rfl | rfl | rfl | rfl | rfl | rfl | rfl | rfl | rfl | rfl | rfl | rfl | rfl | rfl | rfl | rfl
  · exact w_c0
  · exact w_c1
  · exact w_c2
  · exact w_c3
  · exact w_c4
  · exact w_c5
  · exact w_c6
  · exact w_c7
  · exact w_c8
  · exact w_c9
  · exact w_c10
  · exact w_c11
  · exact w_c12
  · exact w_c13
  · exact w_c14
  · exact w_c15
  · exact w_c16
  · exact w_c17
  · exact w_c18
  · exact w_c19
  · exact w_c20
set_option maxRecDepth 65536 in
theorem w_t1 : (words1.take 24).all (fun c => isCode c || c.before args0 about1) = true := by decide +kernel
set_option maxRecDepth 65536 in
theorem w_t2 : ((words1.drop 24).take 24).all (fun c => isCode c || c.before args0 about1) = true := by decide +kernel
set_option maxRecDepth 65536 in
theorem w_t3 : (((words1.drop 24).drop 24).take 24).all (fun c => isCode c || c.before args0 about1) = true := by decide +kernel
set_option maxRecDepth 65536 in
theorem w_t4 : ((((words1.drop 24).drop 24).drop 24).take 24).all (fun c => isCode c || c.before args0 about1) = true := by decide +kernel
set_option maxRecDepth 65536 in
theorem w_t5 : ((((words1.drop 24).drop 24).drop 24).drop 24).all (fun c => isCode c || c.before args0 about1) = true := by decide +kernel
theorem w_tables : (allAtoms (Jvm.Cond.code x code maxLocals ret :: tables_1)).before args0 about1 = true := by
  rw [allAtoms_all]
  show words1.all (fun c => c.before args0 about1) = true
  refine all_split ?_ w_codes
  rw [← List.take_append_drop 24 words1, List.all_append, w_t1, ← List.take_append_drop 24 (words1.drop 24), List.all_append, w_t2, ← List.take_append_drop 24 ((words1.drop 24).drop 24), List.all_append, w_t3, ← List.take_append_drop 24 (((words1.drop 24).drop 24).drop 24), List.all_append, w_t4, w_t5]
  rfl
set_option maxRecDepth 65536 in
theorem w_rest : rest_1_c.before args0 about1 = true := by decide +kernel
set_option maxRecDepth 65536 in
theorem w_case : (Jvm.Cond.and given_1 narrow_1).before args0 about1 = true := by decide +kernel
set_option maxRecDepth 65536 in
theorem w_consts : constsHeld consts_1 about1 := Jvm.Lit.constsHeldB_iff.mp (by decide +kernel)
theorem w_applies : (headSpec (Jvm.Cond.code x code maxLocals ret :: tables_1) room_1).applies x e0.platform about1 = true :=
  (Spec.applies_iff w_frames).mpr ⟨w_running, w_runnable, w_alone, w_named, w_hears, w_ripe, w_room, w_tables⟩
theorem atStart : AtStart classFile x code maxLocals ret World_1 tables_1 room_1 Calls_1 rest_1 Pre_1 launch0 p0 e0 about1 theMethod args0 below0 :=
  ⟨lists_1, trivial, launch0.admits_env _ _ _, launch0.least_env, fairChoices_fair.cas, fairChoices_fair.clock, w_frames, w_args, w_heap, w_applies, ⟨w_consts, trivial⟩, w_rest, w_case⟩
end start1
theorem witness_1 : WitnessClaimed_1 := ⟨start1.p0, start1.e0, start1.about1, start1.theMethod, start1.args0, start1.below0, start1.atStart⟩
end Jvm.Pilot.@@N@@
