import JvmDerived
import JvmDerived.Pilot.@@N@@Statement
import JvmDerived.Pilot.@@N@@Code
set_option linter.unusedVariables false
set_option linter.unusedSimpArgs false
namespace Jvm.RoadKit
open Sem ClassFile Op Lib Jvm.Stand Jvm.Free Jvm.LawKit
section New
variable {p : Program} {l : Launch} {e : Env} {R : Room} {s : State} {m : MethodId} {args : Array Value} {below : List Frame} {meth : Method} {c : Code} {T : State} {locs : List Loc} {cells slots : Nat}
theorem retI (X : Stand p l e R s m args below meth c T locs cells slots) (hx : p.tables.exec = Jvm.exec) {pc : Nat} {Ls : Array Slot} {z : Int32} {rest : List Value} (hret : meth.sig.returnType = some .int) (hd : decode c.code pc = .ok (.ireturn, 1)) {fs : List Frame}
    (hl : ∀ (f : JFrame) (acts : List Action), f.method = m → f.locked = none → f.entered = [] → (doReturn e (T.setTop f) acts (some (.int z))).1 = T.setFrames fs) : Steps p.tables e below (T.setTop (mkF m pc Ls (.int z :: rest))) (T.setFrames fs) := by
  have hm' : T.vm.method? m = some meth := X.method'
  have hn : narrow .int (.int z) = .int z := rfl
  show Steps p.tables e below (T.setTop { method := m, pc := pc, locals := Ls, stack := _ :: rest, locked := none }) _
  jvm_step X.here [X.here.top, hx, hd, hm', hret, hn]
  first | (intro acts; rw [hl _ acts rfl rfl rfl]) | rw [hl _ _ rfl rfl rfl]
  exact Steps.refl _
end New
end Jvm.RoadKit
namespace Jvm.Pilot.@@N@@
open Jvm Jvm.ClassFile Sem Op Lib Jvm.Free Jvm.Stand Jvm.LawKit Jvm.RoadKit Bundle Jvm.Pilot.@@N@@.Jvm.D
theorem own_mod (x d : Int32) (D : Int) (hd : d.toInt = D) (h : 0 < D) : 0 ≤ ((x &&& (2147483647 : Int32)) % d).toInt ∧ ((x &&& (2147483647 : Int32)) % d).toInt < D := by
  have h1 := (c_and x 2147483647 (by decide)).1
  have h2 := (c_irem (x &&& 2147483647) d D hd).1 h1
  rw [h2]; exact ⟨Int.emod_nonneg _ (by omega), Int.emod_lt_of_pos _ h⟩
theorem own_nat {k : Int32} (h : 0 ≤ k.toInt) : k = Int32.ofNat k.toNatClampNeg := by
  apply Int32.toInt_inj.mp
  have e : (k.toNatClampNeg : Int) = k.toInt := by simp only [Int32.toNatClampNeg]; omega
  have b : k.toInt < 2147483648 := by have := k.toInt_lt; omega
  rw [Int32.toInt_ofNat_of_lt (by omega)]; omega
theorem own_clamp {k : Int32} (h : 0 ≤ k.toInt) {n : Nat} (hn : k.toInt < n) : k.toNatClampNeg < n := by
  simp only [Int32.toNatClampNeg]; omega
theorem own_clamp_of {j : Nat} (h : j < 2147483648) : (Int32.ofNat j).toNatClampNeg = j := by
  have e : (Int32.ofNat j).toInt = j := Int32.toInt_ofNat_of_lt h
  simp only [Int32.toNatClampNeg, e]; omega
theorem own_nei {x k : Int32} {z : Int} (h : ¬ x = k) (hk : k.toInt = z) : x.toInt ≠ z := fun e => h (Int32.toInt_inj.mp (e.trans hk.symm))
theorem own_eqi {x k : Int32} {z : Int} (h : x.toInt = z) (hk : k.toInt = z) : x = k := Int32.toInt_inj.mp (h.trans hk.symm)
theorem own_sta_keep {Z : State} {h h' : Heap} {C n d : String} {v : Value} {ws : List Addr} (F : Sta Z h C n d v) (K : Keep h h' ws) (q : ∀ a ∈ ws, ∃ c : Cell, h[a]? = some c ∧ c.vm.isStatics = false) : Sta Z h' C n d v := by
  obtain ⟨cf, i, k, f, st, cell, h1, h2, h3, h4, h5, h6, h7⟩ := F
  refine ⟨cf, i, k, f, st, cell, h1, h2, h3, h4, K.2.1 st cell h5 (fun hm => ?_), h6, h7⟩
  obtain ⟨c, e1, e2⟩ := q st hm
  cases h5.symm.trans e1
  rw [e2] at h6; cases h6
theorem own_ns {Z : State} {h : Heap} {C : String} {a : Addr} (E : Exa Z h a C) : ∃ c : Cell, h[a]? = some c ∧ c.vm.isStatics = false := by
  obtain ⟨c, k, h1, -, -, h4, -⟩ := E
  exact ⟨c, h1, h4⟩
def QL (n0 : Nat) (v : Option Value) (h : Heap) (L : List Loc) : Prop := v = some (.int (1 : Int32)) ∧ Fr n0 L
def QR (r : Value) (h0 : Heap) (n0 : Nat) (v : Option Value) (h : Heap) (L : List Loc) : Prop := v = some r ∧ Fr n0 L ∧ h = h0
theorem own_fldI {args : Array Value} {s : State} {t : Term} {C n d : String} {a : Addr} {k : Int32} (ht : t.eval args s none [] s = some (.ref a)) (h : (Jvm.Cond.eq (.field t C n d) (.int k)).value args s none s [] = some true) : Fld s s.heap a C n d (.int k) := by
  obtain ⟨u, w, e1, e2, k1, k2⟩ := cmp_v (Or.inl h)
  obtain rfl : w = .int k := (Option.some.inj (e2.symm.trans (Term.int_eval k)))
  obtain ⟨z, rfl⟩ := k2
  have hz : z = k := by simpa [Cond.value, e1, e2] using h
  subst hz
  rw [fld_at ht] at e1
  exact Fld.start e1
theorem own_fldR {args : Array Value} {s : State} {t u : Term} {C n d : String} {a b : Addr} (ht : t.eval args s none [] s = some (.ref a)) (hu : u.eval args s none [] s = some (.ref b)) (h : (Jvm.Cond.eq (.field t C n d) u).value args s none s [] = some true) : Fld s s.heap a C n d (.ref b) := by
  cases e1 : (Term.field t C n d).eval args s none [] s with
  | none => simp [Cond.value, e1] at h
  | some x =>
    have hx : x = .ref b := by
      cases x <;> simp [Cond.value, e1, hu] at h
      exact congrArg Value.ref h
    subst hx
    rw [fld_at ht] at e1
    exact Fld.start e1
theorem own_nlt {k : Int32} (h : 0 ≤ k.toInt) : ¬ k < 0 := by rw [Int32.lt_iff_toInt_lt]; show ¬ k.toInt < 0; omega
theorem own_lt {k : Int32} (h : k.toInt < 21) : k < 21 := by rw [Int32.lt_iff_toInt_lt]; exact h
theorem own_get (W : Nat → Addr) : ∀ j, j < 21 → ([(.ref (W 0)), (.ref (W 1)), (.ref (W 2)), (.ref (W 3)), (.ref (W 4)), (.ref (W 5)), (.ref (W 6)), (.ref (W 7)), (.ref (W 8)), (.ref (W 9)), (.ref (W 10)), (.ref (W 11)), (.ref (W 12)), (.ref (W 13)), (.ref (W 14)), (.ref (W 15)), (.ref (W 16)), (.ref (W 17)), (.ref (W 18)), (.ref (W 19)), (.ref (W 20))] : List Value).getD j .null = .ref (W j) := (fun i hi => match i, hi with | 0, _ => rfl | 1, _ => rfl | 2, _ => rfl | 3, _ => rfl | 4, _ => rfl | 5, _ => rfl | 6, _ => rfl | 7, _ => rfl | 8, _ => rfl | 9, _ => rfl | 10, _ => rfl | 11, _ => rfl | 12, _ => rfl | 13, _ => rfl | 14, _ => rfl | 15, _ => rfl | 16, _ => rfl | 17, _ => rfl | 18, _ => rfl | 19, _ => rfl | 20, _ => rfl | n + 21, h => absurd h (by omega))
theorem d1_0 : decode prog_18_method_12_code 0 = .ok (.aload_n 0, 1) := by decide +kernel
theorem d1_1 : decode prog_18_method_12_code 1 = .ok (.getfield 90, 3) := by decide +kernel
theorem d1_4 : decode prog_18_method_12_code 4 = .ok (.getstatic 149, 3) := by decide +kernel
theorem d1_7 : decode prog_18_method_12_code 7 = .ok (.if_acmp .eq 23, 3) := by decide +kernel
theorem d1_30 : decode prog_18_method_12_code 30 = .ok (.iconst 1, 1) := by decide +kernel
theorem d1_31 : decode prog_18_method_12_code 31 = .ok (.goto 4, 3) := by decide +kernel
theorem d1_35 : decode prog_18_method_12_code 35 = .ok (.ireturn, 1) := by decide +kernel
theorem d1_10 : decode prog_18_method_12_code 10 = .ok (.aload_n 0, 1) := by decide +kernel
theorem d1_11 : decode prog_18_method_12_code 11 = .ok (.getfield 90, 3) := by decide +kernel
theorem d1_14 : decode prog_18_method_12_code 14 = .ok (.getstatic 152, 3) := by decide +kernel
theorem d1_17 : decode prog_18_method_12_code 17 = .ok (.if_acmp .eq 13, 3) := by decide +kernel
theorem d1_20 : decode prog_18_method_12_code 20 = .ok (.aload_n 0, 1) := by decide +kernel
theorem d1_21 : decode prog_18_method_12_code 21 = .ok (.getfield 90, 3) := by decide +kernel
theorem d1_24 : decode prog_18_method_12_code 24 = .ok (.getstatic 123, 3) := by decide +kernel
theorem d1_27 : decode prog_18_method_12_code 27 = .ok (.if_acmp .ne 7, 3) := by decide +kernel
theorem d1_34 : decode prog_18_method_12_code 34 = .ok (.iconst 0, 1) := by decide +kernel
theorem pn_1 : plainName "com/example/forbid_or_permit/forbidorpermit/Kind" = true := by first | (simp [plainName, overriddenIn]; done) | decide +kernel
theorem ef_rm1 (m : MethodId) (x0 : Addr) : entryFrame m #[(.ref x0)] 1 = mkF m 0 #[.val (.ref x0)] [] := by first | (simp [entryFrame, mkF, argsToLocals, Value.category]; done) | rfl
set_option maxRecDepth 65536 in
set_option maxHeartbeats 40000000 in
theorem rm1 (l : Launch) (Z : State) (a0 : Array Value) (hw : ∀ d ∈ tables_1, d.before a0 Z = true) (ws : List Jvm.Cond) (o0 : Addr) (r : Int32) (c0 cR cF cO : Addr) (h0 : Heap) (n0 : Nat) (Z0 : n0 ≤ h0.size) (SC_RULE : Sta Z h0 "com/example/forbid_or_permit/forbidorpermit/Kind$Category" "RULE" "Lcom/example/forbid_or_permit/forbidorpermit/Kind$Category;" (.ref cR)) (SC_FACT : Sta Z h0 "com/example/forbid_or_permit/forbidorpermit/Kind$Category" "FACT" "Lcom/example/forbid_or_permit/forbidorpermit/Kind$Category;" (.ref cF)) (SC_ORDER : Sta Z h0 "com/example/forbid_or_permit/forbidorpermit/Kind$Category" "ORDER" "Lcom/example/forbid_or_permit/forbidorpermit/Kind$Category;" (.ref cO)) (F_a : Fld Z h0 o0 "com/example/forbid_or_permit/forbidorpermit/Kind" "category" "Lcom/example/forbid_or_permit/forbidorpermit/Kind$Category;" (.ref c0)) (hr0 : r = if c0 = cR ∨ c0 = cF ∨ c0 = cO then 1 else 0) :
    MetFree l (⟨"com/example/forbid_or_permit/forbidorpermit/Kind", "takesLevel", "()Z"⟩ : MethodName) (head1 (Jvm.Cond.code (⟨"com/example/forbid_or_permit/forbidorpermit/Kind", "takesLevel", "()Z"⟩ : MethodName) prog_18_method_12_code 1 (some .boolean) :: ws) ({ frames := 0, cells := 0, slots := 0, locals := 0 } : Room)) (fun a U => a = #[(.ref o0)] ∧ Z.Warmed39 U.vm ∧ U.heap = h0) (fun _ _ _ _ _ => True) (fun _ U o U' => ∃ v L, o = .returned v ∧ QR (.int r) h0 n0 v U'.heap L ∧ FrameEnd U o U' L ({ frames := 0, cells := 0, slots := 0, locals := 0 } : Room).cells ({ frames := 0, cells := 0, slots := 0, locals := 0 } : Room).slots) := by
  refine MetFree.of_bodySF (plainFor_of_name pn_1) hisR ?_
  intro p e s m args below meth c s₁ Bd hml0 hP hK
  obtain ⟨rfl, hZ, hh⟩ := hP
  have hx := Bd.exec
  have hby := Bd.bytes
  have hml : c.maxLocals = 1 := hml0
  have hown : s.vm.findClass "com/example/forbid_or_permit/forbidorpermit/Kind" = some m.cls := findClass_of_methodNamed Bd.named
  have hnm := (name_of_methodNamed Bd.named Bd.method).1
  have X0 : Stand p l e ({ frames := 0, cells := 0, slots := 0, locals := 0 } : Room) s m #[(.ref o0)] below meth c s₁ [] 0 0 := Stand.of_body Bd
  have e0 : s₁.heap = h0 := by rw [← hh, Bd.state]; rfl
  have N0 := Fr.nil n0
  have pre0 : ∀ t, Steps p.tables e below (s₁.setTop (mkF m 0 #[.val (.ref o0)] [])) t → Steps p.tables e below (s₁.setTop (entryFrame m #[(.ref o0)] 1)) t := fun t k => castTop (ef_rm1 m o0) k
  obtain ⟨T1, X1, e1, st1⟩ := getF X0 hx hZ hown (host := "") (Or.inl (hw _ (List.mem_of_getElem? (i := 52) rfl))) Via.refl e0 F_a (g := (mkF m 1 #[.val (.ref o0)] [(.ref o0)])) rfl rfl (hb hby d1_1)
  obtain ⟨T2, X2, e2, st2⟩ := getS2 X1 hx hZ hown (host := "") (Or.inl (hw _ (List.mem_of_getElem? (i := 56) rfl))) Via.refl e1 SC_RULE (g := (mkF m 4 #[.val (.ref o0)] [(.ref c0)])) rfl (hb hby d1_4)
  have pre3 : ∀ t, Steps p.tables e below (T2.setTop (mkF m 7 #[.val (.ref o0)] [(.ref cR), (.ref c0)])) t → Steps p.tables e below (s₁.setTop (entryFrame m #[(.ref o0)] 1)) t := by
    intro t kt
    refine pre0 t ?_
    show Steps p.tables e below (s₁.setTop (mkF m 0 #[.val (.ref o0)] [])) _
    refine XS.aloadN X0.here hx rfl (hb hby d1_0) rfl rfl ?_
    show Steps p.tables e below (s₁.setTop (mkF m 1 #[.val (.ref o0)] [(.ref o0)])) _
    refine st1 _ ?_
    show Steps p.tables e below (T1.setTop (mkF m 4 #[.val (.ref o0)] [(.ref c0)])) _
    refine st2 _ ?_
    exact kt
  by_cases hc4 : c0 = cR
  · skip
    obtain ⟨fs, hr, hrun, hended, hW, hsame⟩ := X2.leave (v := some (.int (1 : Int32))) (fun h => by rw [Bd.returns] at h; cases h)
    refine ⟨_, _, pre3 _ ?_, hrun, hended, _, _, rfl, ?_, ⟨_, rfl⟩, hW, hsame.mono (by decide) (by decide)⟩
    · skip
      show Steps p.tables e below (T2.setTop (mkF m 7 #[.val (.ref o0)] [(.ref cR), (.ref c0)])) _
      refine Jvm.RoadKit.acmp (g := (mkF m 7 #[.val (.ref o0)] [(.ref cR), (.ref c0)])) X2 hx rfl rfl rfl (pc0 := 7) (pc' := 30) (same := true) rfl (hb hby d1_7) rfl (decide_eq_true (congrArg Value.ref hc4)) (by decide) (by decide) ?_
      show Steps p.tables e below (T2.setTop (mkF m 30 #[.val (.ref o0)] [])) _
      refine XS.iconst X2.here hx rfl (hb hby d1_30) ?_
      show Steps p.tables e below (T2.setTop (mkF m 31 #[.val (.ref o0)] [(.int (1 : Int32))])) _
      refine XS.goto X2.here hx rfl (pc0 := 31) (pc' := 35) rfl (hb hby d1_31) (by decide) (by decide) ?_
      show Steps p.tables e below (T2.setTop (mkF m 35 #[.val (.ref o0)] [(.int (1 : Int32))])) _
      exact retN X2 hx (t := .boolean) Bd.returns (by simp) (hb hby d1_35) hr
    · show QR (.int r) h0 n0 _ T2.heap _
      rw [e2]
      exact ⟨(by first | rfl | simp [hc4, hr0]), N0, rfl⟩
  · skip
    obtain ⟨T5, X5, e5, st5⟩ := getF X2 hx hZ hown (host := "") (Or.inl (hw _ (List.mem_of_getElem? (i := 52) rfl))) Via.refl e2 F_a (g := (mkF m 11 #[.val (.ref o0)] [(.ref o0)])) rfl rfl (hb hby d1_11)
    obtain ⟨T6, X6, e6, st6⟩ := getS2 X5 hx hZ hown (host := "") (Or.inl (hw _ (List.mem_of_getElem? (i := 58) rfl))) Via.refl e5 SC_FACT (g := (mkF m 14 #[.val (.ref o0)] [(.ref c0)])) rfl (hb hby d1_14)
    have pre7 : ∀ t, Steps p.tables e below (T6.setTop (mkF m 17 #[.val (.ref o0)] [(.ref cF), (.ref c0)])) t → Steps p.tables e below (s₁.setTop (entryFrame m #[(.ref o0)] 1)) t := by
      intro t kt
      refine pre3 t ?_
      show Steps p.tables e below (T2.setTop (mkF m 7 #[.val (.ref o0)] [(.ref cR), (.ref c0)])) _
      refine Jvm.RoadKit.acmp (g := (mkF m 7 #[.val (.ref o0)] [(.ref cR), (.ref c0)])) X2 hx rfl rfl rfl (pc0 := 7) (pc' := 10) (same := false) rfl (hb hby d1_7) rfl (decide_eq_false fun q => hc4 (Value.ref.inj q)) (by decide) (by decide) ?_
      show Steps p.tables e below (T2.setTop (mkF m 10 #[.val (.ref o0)] [])) _
      refine XS.aloadN X2.here hx rfl (hb hby d1_10) rfl rfl ?_
      show Steps p.tables e below (T2.setTop (mkF m 11 #[.val (.ref o0)] [(.ref o0)])) _
      refine st5 _ ?_
      show Steps p.tables e below (T5.setTop (mkF m 14 #[.val (.ref o0)] [(.ref c0)])) _
      refine st6 _ ?_
      exact kt
    by_cases hc8 : c0 = cF
    · skip
      obtain ⟨fs, hr, hrun, hended, hW, hsame⟩ := X6.leave (v := some (.int (1 : Int32))) (fun h => by rw [Bd.returns] at h; cases h)
      refine ⟨_, _, pre7 _ ?_, hrun, hended, _, _, rfl, ?_, ⟨_, rfl⟩, hW, hsame.mono (by decide) (by decide)⟩
      · skip
        show Steps p.tables e below (T6.setTop (mkF m 17 #[.val (.ref o0)] [(.ref cF), (.ref c0)])) _
        refine Jvm.RoadKit.acmp (g := (mkF m 17 #[.val (.ref o0)] [(.ref cF), (.ref c0)])) X6 hx rfl rfl rfl (pc0 := 17) (pc' := 30) (same := true) rfl (hb hby d1_17) rfl (decide_eq_true (congrArg Value.ref hc8)) (by decide) (by decide) ?_
        show Steps p.tables e below (T6.setTop (mkF m 30 #[.val (.ref o0)] [])) _
        refine XS.iconst X6.here hx rfl (hb hby d1_30) ?_
        show Steps p.tables e below (T6.setTop (mkF m 31 #[.val (.ref o0)] [(.int (1 : Int32))])) _
        refine XS.goto X6.here hx rfl (pc0 := 31) (pc' := 35) rfl (hb hby d1_31) (by decide) (by decide) ?_
        show Steps p.tables e below (T6.setTop (mkF m 35 #[.val (.ref o0)] [(.int (1 : Int32))])) _
        exact retN X6 hx (t := .boolean) Bd.returns (by simp) (hb hby d1_35) hr
      · show QR (.int r) h0 n0 _ T6.heap _
        rw [e6]
        exact ⟨(by first | rfl | simp [hc4, hc8, hr0]), N0, rfl⟩
    · skip
      obtain ⟨T9, X9, e9, st9⟩ := getF X6 hx hZ hown (host := "") (Or.inl (hw _ (List.mem_of_getElem? (i := 52) rfl))) Via.refl e6 F_a (g := (mkF m 21 #[.val (.ref o0)] [(.ref o0)])) rfl rfl (hb hby d1_21)
      obtain ⟨T10, X10, e10, st10⟩ := getS2 X9 hx hZ hown (host := "") (Or.inl (hw _ (List.mem_of_getElem? (i := 60) rfl))) Via.refl e9 SC_ORDER (g := (mkF m 24 #[.val (.ref o0)] [(.ref c0)])) rfl (hb hby d1_24)
      have pre11 : ∀ t, Steps p.tables e below (T10.setTop (mkF m 27 #[.val (.ref o0)] [(.ref cO), (.ref c0)])) t → Steps p.tables e below (s₁.setTop (entryFrame m #[(.ref o0)] 1)) t := by
        intro t kt
        refine pre7 t ?_
        show Steps p.tables e below (T6.setTop (mkF m 17 #[.val (.ref o0)] [(.ref cF), (.ref c0)])) _
        refine Jvm.RoadKit.acmp (g := (mkF m 17 #[.val (.ref o0)] [(.ref cF), (.ref c0)])) X6 hx rfl rfl rfl (pc0 := 17) (pc' := 20) (same := false) rfl (hb hby d1_17) rfl (decide_eq_false fun q => hc8 (Value.ref.inj q)) (by decide) (by decide) ?_
        show Steps p.tables e below (T6.setTop (mkF m 20 #[.val (.ref o0)] [])) _
        refine XS.aloadN X6.here hx rfl (hb hby d1_20) rfl rfl ?_
        show Steps p.tables e below (T6.setTop (mkF m 21 #[.val (.ref o0)] [(.ref o0)])) _
        refine st9 _ ?_
        show Steps p.tables e below (T9.setTop (mkF m 24 #[.val (.ref o0)] [(.ref c0)])) _
        refine st10 _ ?_
        exact kt
      by_cases hc12 : c0 = cO
      · skip
        obtain ⟨fs, hr, hrun, hended, hW, hsame⟩ := X10.leave (v := some (.int (1 : Int32))) (fun h => by rw [Bd.returns] at h; cases h)
        refine ⟨_, _, pre11 _ ?_, hrun, hended, _, _, rfl, ?_, ⟨_, rfl⟩, hW, hsame.mono (by decide) (by decide)⟩
        · skip
          show Steps p.tables e below (T10.setTop (mkF m 27 #[.val (.ref o0)] [(.ref cO), (.ref c0)])) _
          refine Jvm.RoadKit.acmp (g := (mkF m 27 #[.val (.ref o0)] [(.ref cO), (.ref c0)])) X10 hx rfl rfl rfl (pc0 := 27) (pc' := 30) (same := true) rfl (hb hby d1_27) rfl (decide_eq_true (congrArg Value.ref hc12)) (by decide) (by decide) ?_
          show Steps p.tables e below (T10.setTop (mkF m 30 #[.val (.ref o0)] [])) _
          refine XS.iconst X10.here hx rfl (hb hby d1_30) ?_
          show Steps p.tables e below (T10.setTop (mkF m 31 #[.val (.ref o0)] [(.int (1 : Int32))])) _
          refine XS.goto X10.here hx rfl (pc0 := 31) (pc' := 35) rfl (hb hby d1_31) (by decide) (by decide) ?_
          show Steps p.tables e below (T10.setTop (mkF m 35 #[.val (.ref o0)] [(.int (1 : Int32))])) _
          exact retN X10 hx (t := .boolean) Bd.returns (by simp) (hb hby d1_35) hr
        · show QR (.int r) h0 n0 _ T10.heap _
          rw [e10]
          exact ⟨(by first | rfl | simp [hc4, hc8, hc12, hr0]), N0, rfl⟩
      · skip
        obtain ⟨fs, hr, hrun, hended, hW, hsame⟩ := X10.leave (v := some (.int (0 : Int32))) (fun h => by rw [Bd.returns] at h; cases h)
        refine ⟨_, _, pre11 _ ?_, hrun, hended, _, _, rfl, ?_, ⟨_, rfl⟩, hW, hsame.mono (by decide) (by decide)⟩
        · skip
          show Steps p.tables e below (T10.setTop (mkF m 27 #[.val (.ref o0)] [(.ref cO), (.ref c0)])) _
          refine Jvm.RoadKit.acmp (g := (mkF m 27 #[.val (.ref o0)] [(.ref cO), (.ref c0)])) X10 hx rfl rfl rfl (pc0 := 27) (pc' := 34) (same := false) rfl (hb hby d1_27) rfl (decide_eq_false fun q => hc12 (Value.ref.inj q)) (by decide) (by decide) ?_
          show Steps p.tables e below (T10.setTop (mkF m 34 #[.val (.ref o0)] [])) _
          refine XS.iconst X10.here hx rfl (hb hby d1_34) ?_
          show Steps p.tables e below (T10.setTop (mkF m 35 #[.val (.ref o0)] [(.int (0 : Int32))])) _
          exact retN X10 hx (t := .boolean) Bd.returns (by simp) (hb hby d1_35) hr
        · show QR (.int r) h0 n0 _ T10.heap _
          rw [e10]
          exact ⟨(by first | rfl | simp [hc4, hc8, hc12, hr0]), N0, rfl⟩
theorem pd___Z : parseMethodDescriptor "()Z" = some ⟨[], some .boolean⟩ := by decide +kernel
theorem pn_0 : plainName "com/example/forbid_or_permit/forbidorpermit/KindTakesLevelPinLaw" = true := by first | (simp [plainName, overriddenIn]; done) | decide +kernel
theorem ef_rm0 (m : MethodId) (x0 : Int32) : entryFrame m #[(.int x0)] maxLocals = mkF m 0 #[.val (.int x0), .unset, .unset, .unset] [] := by first | (simp [entryFrame, mkF, argsToLocals, Value.category, maxLocals]; done) | rfl
set_option maxRecDepth 65536 in
set_option maxHeartbeats 40000000 in
theorem rm0 (l : Launch) (Z : State) (a0 : Array Value) (hw : ∀ d ∈ tables_1, d.before a0 Z = true) (ws : List Jvm.Cond) (p0 : Int32) (k r : Int32) (W : Nat → Addr) (c0 cR cF cO : Addr) (h0 : Heap) (n0 : Nat) (Z0 : n0 ≤ h0.size) (S_PERMISSION : Sta Z h0 "com/example/forbid_or_permit/forbidorpermit/Kind" "PERMISSION" "Lcom/example/forbid_or_permit/forbidorpermit/Kind;" (.ref (W 0))) (S_PROHIBITION : Sta Z h0 "com/example/forbid_or_permit/forbidorpermit/Kind" "PROHIBITION" "Lcom/example/forbid_or_permit/forbidorpermit/Kind;" (.ref (W 1))) (S_EMPLOY : Sta Z h0 "com/example/forbid_or_permit/forbidorpermit/Kind" "EMPLOY" "Lcom/example/forbid_or_permit/forbidorpermit/Kind;" (.ref (W 2))) (S_USE : Sta Z h0 "com/example/forbid_or_permit/forbidorpermit/Kind" "USE" "Lcom/example/forbid_or_permit/forbidorpermit/Kind;" (.ref (W 3))) (S_CONSIDER : Sta Z h0 "com/example/forbid_or_permit/forbidorpermit/Kind" "CONSIDER" "Lcom/example/forbid_or_permit/forbidorpermit/Kind;" (.ref (W 4))) (S_DEFINE : Sta Z h0 "com/example/forbid_or_permit/forbidorpermit/Kind" "DEFINE" "Lcom/example/forbid_or_permit/forbidorpermit/Kind;" (.ref (W 5))) (S_HOLDS : Sta Z h0 "com/example/forbid_or_permit/forbidorpermit/Kind" "HOLDS" "Lcom/example/forbid_or_permit/forbidorpermit/Kind;" (.ref (W 6))) (S_ORDER : Sta Z h0 "com/example/forbid_or_permit/forbidorpermit/Kind" "ORDER" "Lcom/example/forbid_or_permit/forbidorpermit/Kind;" (.ref (W 7))) (S_SUB_ORGANISATION : Sta Z h0 "com/example/forbid_or_permit/forbidorpermit/Kind" "SUB_ORGANISATION" "Lcom/example/forbid_or_permit/forbidorpermit/Kind;" (.ref (W 8))) (S_SUB_ROLE : Sta Z h0 "com/example/forbid_or_permit/forbidorpermit/Kind" "SUB_ROLE" "Lcom/example/forbid_or_permit/forbidorpermit/Kind;" (.ref (W 9))) (S_SUB_VIEW : Sta Z h0 "com/example/forbid_or_permit/forbidorpermit/Kind" "SUB_VIEW" "Lcom/example/forbid_or_permit/forbidorpermit/Kind;" (.ref (W 10))) (S_SUB_ACTIVITY : Sta Z h0 "com/example/forbid_or_permit/forbidorpermit/Kind" "SUB_ACTIVITY" "Lcom/example/forbid_or_permit/forbidorpermit/Kind;" (.ref (W 11))) (S_SUB_CONTEXT : Sta Z h0 "com/example/forbid_or_permit/forbidorpermit/Kind" "SUB_CONTEXT" "Lcom/example/forbid_or_permit/forbidorpermit/Kind;" (.ref (W 12))) (S_PREFER_ROLE : Sta Z h0 "com/example/forbid_or_permit/forbidorpermit/Kind" "PREFER_ROLE" "Lcom/example/forbid_or_permit/forbidorpermit/Kind;" (.ref (W 13))) (S_PREFER_CONTEXT : Sta Z h0 "com/example/forbid_or_permit/forbidorpermit/Kind" "PREFER_CONTEXT" "Lcom/example/forbid_or_permit/forbidorpermit/Kind;" (.ref (W 14))) (S_PREFER_VIEW : Sta Z h0 "com/example/forbid_or_permit/forbidorpermit/Kind" "PREFER_VIEW" "Lcom/example/forbid_or_permit/forbidorpermit/Kind;" (.ref (W 15))) (S_PREFER_ACTIVITY : Sta Z h0 "com/example/forbid_or_permit/forbidorpermit/Kind" "PREFER_ACTIVITY" "Lcom/example/forbid_or_permit/forbidorpermit/Kind;" (.ref (W 16))) (S_SEPARATED_ROLE : Sta Z h0 "com/example/forbid_or_permit/forbidorpermit/Kind" "SEPARATED_ROLE" "Lcom/example/forbid_or_permit/forbidorpermit/Kind;" (.ref (W 17))) (S_SEPARATED_VIEW : Sta Z h0 "com/example/forbid_or_permit/forbidorpermit/Kind" "SEPARATED_VIEW" "Lcom/example/forbid_or_permit/forbidorpermit/Kind;" (.ref (W 18))) (S_SEPARATED_ACTIVITY : Sta Z h0 "com/example/forbid_or_permit/forbidorpermit/Kind" "SEPARATED_ACTIVITY" "Lcom/example/forbid_or_permit/forbidorpermit/Kind;" (.ref (W 19))) (S_SEPARATED_CONTEXT : Sta Z h0 "com/example/forbid_or_permit/forbidorpermit/Kind" "SEPARATED_CONTEXT" "Lcom/example/forbid_or_permit/forbidorpermit/Kind;" (.ref (W 20))) (E_PERMISSION : Exa Z h0 (W 0) "com/example/forbid_or_permit/forbidorpermit/Kind") (E_PROHIBITION : Exa Z h0 (W 1) "com/example/forbid_or_permit/forbidorpermit/Kind") (E_EMPLOY : Exa Z h0 (W 2) "com/example/forbid_or_permit/forbidorpermit/Kind") (E_USE : Exa Z h0 (W 3) "com/example/forbid_or_permit/forbidorpermit/Kind") (E_CONSIDER : Exa Z h0 (W 4) "com/example/forbid_or_permit/forbidorpermit/Kind") (E_DEFINE : Exa Z h0 (W 5) "com/example/forbid_or_permit/forbidorpermit/Kind") (E_HOLDS : Exa Z h0 (W 6) "com/example/forbid_or_permit/forbidorpermit/Kind") (E_ORDER : Exa Z h0 (W 7) "com/example/forbid_or_permit/forbidorpermit/Kind") (E_SUB_ORGANISATION : Exa Z h0 (W 8) "com/example/forbid_or_permit/forbidorpermit/Kind") (E_SUB_ROLE : Exa Z h0 (W 9) "com/example/forbid_or_permit/forbidorpermit/Kind") (E_SUB_VIEW : Exa Z h0 (W 10) "com/example/forbid_or_permit/forbidorpermit/Kind") (E_SUB_ACTIVITY : Exa Z h0 (W 11) "com/example/forbid_or_permit/forbidorpermit/Kind") (E_SUB_CONTEXT : Exa Z h0 (W 12) "com/example/forbid_or_permit/forbidorpermit/Kind") (E_PREFER_ROLE : Exa Z h0 (W 13) "com/example/forbid_or_permit/forbidorpermit/Kind") (E_PREFER_CONTEXT : Exa Z h0 (W 14) "com/example/forbid_or_permit/forbidorpermit/Kind") (E_PREFER_VIEW : Exa Z h0 (W 15) "com/example/forbid_or_permit/forbidorpermit/Kind") (E_PREFER_ACTIVITY : Exa Z h0 (W 16) "com/example/forbid_or_permit/forbidorpermit/Kind") (E_SEPARATED_ROLE : Exa Z h0 (W 17) "com/example/forbid_or_permit/forbidorpermit/Kind") (E_SEPARATED_VIEW : Exa Z h0 (W 18) "com/example/forbid_or_permit/forbidorpermit/Kind") (E_SEPARATED_ACTIVITY : Exa Z h0 (W 19) "com/example/forbid_or_permit/forbidorpermit/Kind") (E_SEPARATED_CONTEXT : Exa Z h0 (W 20) "com/example/forbid_or_permit/forbidorpermit/Kind") (hk : (p0 &&& (2147483647 : Int32)) % (21 : Int32) = k) (hk0 : ¬ k < 0) (hk1 : k < 21) (hlt : k.toNatClampNeg < 21) (E_k : Exa Z h0 (W k.toNatClampNeg) "com/example/forbid_or_permit/forbidorpermit/Kind") (F_a : Fld Z h0 (W k.toNatClampNeg) "com/example/forbid_or_permit/forbidorpermit/Kind" "category" "Lcom/example/forbid_or_permit/forbidorpermit/Kind$Category;" (.ref c0)) (SC_RULE : Sta Z h0 "com/example/forbid_or_permit/forbidorpermit/Kind$Category" "RULE" "Lcom/example/forbid_or_permit/forbidorpermit/Kind$Category;" (.ref cR)) (SC_FACT : Sta Z h0 "com/example/forbid_or_permit/forbidorpermit/Kind$Category" "FACT" "Lcom/example/forbid_or_permit/forbidorpermit/Kind$Category;" (.ref cF)) (SC_ORDER : Sta Z h0 "com/example/forbid_or_permit/forbidorpermit/Kind$Category" "ORDER" "Lcom/example/forbid_or_permit/forbidorpermit/Kind$Category;" (.ref cO)) (hr0 : r = if c0 = cR ∨ c0 = cF ∨ c0 = cO then 1 else 0) (hr1 : r = if k < (8 : Int32) then 1 else 0) :
    MetFree l x (head1 (Jvm.Cond.code x code maxLocals ret :: ws) room_1) (fun a U => a = #[(.int p0)] ∧ Z.Warmed39 U.vm ∧ U.heap = h0) (fun _ _ _ _ _ => True) (fun _ U o U' => ∃ v L, o = .returned v ∧ QL n0 v U'.heap L ∧ FrameEnd U o U' L room_1.cells room_1.slots) := by
  refine MetFree.of_bodySF (plainFor_of_name pn_0) hisR ?_
  intro p e s m args below meth c s₁ Bd hml0 hP hK
  obtain ⟨rfl, hZ, hh⟩ := hP
  have hx := Bd.exec
  have hby := Bd.bytes
  have hml : c.maxLocals = 4 := hml0
  have hown : s.vm.findClass "com/example/forbid_or_permit/forbidorpermit/KindTakesLevelPinLaw" = some m.cls := findClass_of_methodNamed Bd.named
  have hnm := (name_of_methodNamed Bd.named Bd.method).1
  have X0 : Stand p l e room_1 s m #[(.int p0)] below meth c s₁ [] 0 0 := Stand.of_body Bd
  have e0 : s₁.heap = h0 := by rw [← hh, Bd.state]; rfl
  have N0 := Fr.nil n0
  have pre0 : ∀ t, Steps p.tables e below (s₁.setTop (mkF m 0 #[.val (.int p0), .unset, .unset, .unset] [])) t → Steps p.tables e below (s₁.setTop (entryFrame m #[(.int p0)] maxLocals)) t := fun t k => castTop (ef_rm0 m p0) k
  obtain ⟨T1, h1, k1, X1, e1, E1, A1, O1, st1⟩ := newR X0 hx hZ hown (hw _ (List.mem_of_getElem? (i := 0) rfl)) (hw _ (List.mem_of_getElem? (i := 1) rfl)) e0 (g := (mkF m 2 #[.val (.int p0), .unset, .unset, .unset] [(.int (21 : Int32))])) rfl (hb hby at_2) rfl (by decide) (cap := 21) (by decide) (by decide) (by decide) (by decide)
  obtain ⟨b1, g1⟩ : ∃ z, z = h0.size := ⟨_, rfl⟩
  rw [← g1] at A1 st1
  have g_b1 : n0 ≤ b1 := Nat.le_trans Z0 (Nat.le_of_eq g1.symm)
  have ne1__W_k_toNatClampNeg_ : (W k.toNatClampNeg) ≠ b1 := Nat.ne_of_lt (Nat.lt_of_lt_of_le (E_k).lt (Nat.le_of_eq g1.symm))
  have Zs1 : n0 ≤ h1.size := Nat.le_trans Z0 E1.1
  have V1 : Arv Z h1 b1 k1 (.object "com/example/forbid_or_permit/forbidorpermit/Kind") (21 : Int32) [.null, .null, .null, .null, .null, .null, .null, .null, .null, .null, .null, .null, .null, .null, .null, .null, .null, .null, .null, .null, .null] .null := (Arv.new A1 (by decide)).pad (pad_rep [] .null 21)
  have S_PERMISSION_2 := (S_PERMISSION.ext E1)
  obtain ⟨T3, X3, e3, st3⟩ := getS2 X1 hx hZ hown (host := "") (Or.inl (hw _ (List.mem_of_getElem? (i := 2) rfl))) Via.refl e1 S_PERMISSION_2 (g := (mkF m 7 #[.val (.int p0), .unset, .unset, .unset] [(.int (0 : Int32)), (.ref b1), (.ref b1)])) rfl (hb hby at_7)
  obtain ⟨cl4, Ar4, qa4, Sa4, Na4, Ha4, Ga4⟩ := V1
  have hin4 : ¬ ((0 : Int32) < 0 ∨ cl4.slots.size ≤ ((0 : Int32)).toNatClampNeg) := inb_of Sa4 ⟨by decide, by decide⟩
  have E_PERMISSION_5 := (E_PERMISSION.ext E1)
  obtain ⟨T6, h6, X6, e6, W6, st6⟩ := stR X3 hx hZ e3 Ar4 (j := (0 : Int32)) hin4 rfl (Sto.ofV Ar4 qa4 O1 (Ins.self E_PERMISSION_5)) (g := (mkF m 10 #[.val (.int p0), .unset, .unset, .unset] [(.ref (W 0)), (.int (0 : Int32)), (.ref b1), (.ref b1)])) rfl rfl (hb hby at_10)
  have V6 : Arv Z h6 b1 k1 (.object "com/example/forbid_or_permit/forbidorpermit/Kind") (21 : Int32) [(.ref (W 0)), .null, .null, .null, .null, .null, .null, .null, .null, .null, .null, .null, .null, .null, .null, .null, .null, .null, .null, .null, .null] .null := Arv.set Ar4 qa4 Sa4 Na4 Ha4 Ga4 rfl W6 0 rfl (Nat.le_of_ble_eq_true rfl)
  have Zs6 : n0 ≤ h6.size := Nat.le_trans Zs1 (Nat.le_of_eq W6.size.symm)
  have N6 := Fr.snoc X6 N0 g_b1
  have S_PROHIBITION_7 := ((S_PROHIBITION.ext E1).wr W6)
  obtain ⟨T8, X8, e8, st8⟩ := getS2 X6 hx hZ hown (host := "") (Or.inl (hw _ (List.mem_of_getElem? (i := 6) rfl))) Via.refl e6 S_PROHIBITION_7 (g := (mkF m 13 #[.val (.int p0), .unset, .unset, .unset] [(.int (1 : Int32)), (.ref b1), (.ref b1)])) rfl (hb hby at_13)
  obtain ⟨cl9, Ar9, qa9, Sa9, Na9, Ha9, Ga9⟩ := V6
  have hin9 : ¬ ((1 : Int32) < 0 ∨ cl9.slots.size ≤ ((1 : Int32)).toNatClampNeg) := inb_of Sa9 ⟨by decide, by decide⟩
  have E_PROHIBITION_10 := ((E_PROHIBITION.ext E1).wr W6)
  obtain ⟨T11, h11, X11, e11, W11, st11⟩ := stR X8 hx hZ e8 Ar9 (j := (1 : Int32)) hin9 rfl (Sto.ofV Ar9 qa9 O1 (Ins.self E_PROHIBITION_10)) (g := (mkF m 16 #[.val (.int p0), .unset, .unset, .unset] [(.ref (W 1)), (.int (1 : Int32)), (.ref b1), (.ref b1)])) rfl rfl (hb hby at_16)
  have V11 : Arv Z h11 b1 k1 (.object "com/example/forbid_or_permit/forbidorpermit/Kind") (21 : Int32) [(.ref (W 0)), (.ref (W 1)), .null, .null, .null, .null, .null, .null, .null, .null, .null, .null, .null, .null, .null, .null, .null, .null, .null, .null, .null] .null := Arv.set Ar9 qa9 Sa9 Na9 Ha9 Ga9 rfl W11 1 rfl (Nat.le_of_ble_eq_true rfl)
  have Zs11 : n0 ≤ h11.size := Nat.le_trans Zs6 (Nat.le_of_eq W11.size.symm)
  have N11 := Fr.snoc X11 N6 g_b1
  have S_EMPLOY_12 := (((S_EMPLOY.ext E1).wr W6).wr W11)
  obtain ⟨T13, X13, e13, st13⟩ := getS2 X11 hx hZ hown (host := "") (Or.inl (hw _ (List.mem_of_getElem? (i := 8) rfl))) Via.refl e11 S_EMPLOY_12 (g := (mkF m 19 #[.val (.int p0), .unset, .unset, .unset] [(.int (2 : Int32)), (.ref b1), (.ref b1)])) rfl (hb hby at_19)
  obtain ⟨cl14, Ar14, qa14, Sa14, Na14, Ha14, Ga14⟩ := V11
  have hin14 : ¬ ((2 : Int32) < 0 ∨ cl14.slots.size ≤ ((2 : Int32)).toNatClampNeg) := inb_of Sa14 ⟨by decide, by decide⟩
  have E_EMPLOY_15 := (((E_EMPLOY.ext E1).wr W6).wr W11)
  obtain ⟨T16, h16, X16, e16, W16, st16⟩ := stR X13 hx hZ e13 Ar14 (j := (2 : Int32)) hin14 rfl (Sto.ofV Ar14 qa14 O1 (Ins.self E_EMPLOY_15)) (g := (mkF m 22 #[.val (.int p0), .unset, .unset, .unset] [(.ref (W 2)), (.int (2 : Int32)), (.ref b1), (.ref b1)])) rfl rfl (hb hby at_22)
  have V16 : Arv Z h16 b1 k1 (.object "com/example/forbid_or_permit/forbidorpermit/Kind") (21 : Int32) [(.ref (W 0)), (.ref (W 1)), (.ref (W 2)), .null, .null, .null, .null, .null, .null, .null, .null, .null, .null, .null, .null, .null, .null, .null, .null, .null, .null] .null := Arv.set Ar14 qa14 Sa14 Na14 Ha14 Ga14 rfl W16 2 rfl (Nat.le_of_ble_eq_true rfl)
  have Zs16 : n0 ≤ h16.size := Nat.le_trans Zs11 (Nat.le_of_eq W16.size.symm)
  have N16 := Fr.snoc X16 N11 g_b1
  have S_USE_17 := ((((S_USE.ext E1).wr W6).wr W11).wr W16)
  obtain ⟨T18, X18, e18, st18⟩ := getS2 X16 hx hZ hown (host := "") (Or.inl (hw _ (List.mem_of_getElem? (i := 10) rfl))) Via.refl e16 S_USE_17 (g := (mkF m 25 #[.val (.int p0), .unset, .unset, .unset] [(.int (3 : Int32)), (.ref b1), (.ref b1)])) rfl (hb hby at_25)
  obtain ⟨cl19, Ar19, qa19, Sa19, Na19, Ha19, Ga19⟩ := V16
  have hin19 : ¬ ((3 : Int32) < 0 ∨ cl19.slots.size ≤ ((3 : Int32)).toNatClampNeg) := inb_of Sa19 ⟨by decide, by decide⟩
  have E_USE_20 := ((((E_USE.ext E1).wr W6).wr W11).wr W16)
  obtain ⟨T21, h21, X21, e21, W21, st21⟩ := stR X18 hx hZ e18 Ar19 (j := (3 : Int32)) hin19 rfl (Sto.ofV Ar19 qa19 O1 (Ins.self E_USE_20)) (g := (mkF m 28 #[.val (.int p0), .unset, .unset, .unset] [(.ref (W 3)), (.int (3 : Int32)), (.ref b1), (.ref b1)])) rfl rfl (hb hby at_28)
  have V21 : Arv Z h21 b1 k1 (.object "com/example/forbid_or_permit/forbidorpermit/Kind") (21 : Int32) [(.ref (W 0)), (.ref (W 1)), (.ref (W 2)), (.ref (W 3)), .null, .null, .null, .null, .null, .null, .null, .null, .null, .null, .null, .null, .null, .null, .null, .null, .null] .null := Arv.set Ar19 qa19 Sa19 Na19 Ha19 Ga19 rfl W21 3 rfl (Nat.le_of_ble_eq_true rfl)
  have Zs21 : n0 ≤ h21.size := Nat.le_trans Zs16 (Nat.le_of_eq W21.size.symm)
  have N21 := Fr.snoc X21 N16 g_b1
  have S_CONSIDER_22 := (((((S_CONSIDER.ext E1).wr W6).wr W11).wr W16).wr W21)
  obtain ⟨T23, X23, e23, st23⟩ := getS2 X21 hx hZ hown (host := "") (Or.inl (hw _ (List.mem_of_getElem? (i := 12) rfl))) Via.refl e21 S_CONSIDER_22 (g := (mkF m 31 #[.val (.int p0), .unset, .unset, .unset] [(.int (4 : Int32)), (.ref b1), (.ref b1)])) rfl (hb hby at_31)
  obtain ⟨cl24, Ar24, qa24, Sa24, Na24, Ha24, Ga24⟩ := V21
  have hin24 : ¬ ((4 : Int32) < 0 ∨ cl24.slots.size ≤ ((4 : Int32)).toNatClampNeg) := inb_of Sa24 ⟨by decide, by decide⟩
  have E_CONSIDER_25 := (((((E_CONSIDER.ext E1).wr W6).wr W11).wr W16).wr W21)
  obtain ⟨T26, h26, X26, e26, W26, st26⟩ := stR X23 hx hZ e23 Ar24 (j := (4 : Int32)) hin24 rfl (Sto.ofV Ar24 qa24 O1 (Ins.self E_CONSIDER_25)) (g := (mkF m 34 #[.val (.int p0), .unset, .unset, .unset] [(.ref (W 4)), (.int (4 : Int32)), (.ref b1), (.ref b1)])) rfl rfl (hb hby at_34)
  have V26 : Arv Z h26 b1 k1 (.object "com/example/forbid_or_permit/forbidorpermit/Kind") (21 : Int32) [(.ref (W 0)), (.ref (W 1)), (.ref (W 2)), (.ref (W 3)), (.ref (W 4)), .null, .null, .null, .null, .null, .null, .null, .null, .null, .null, .null, .null, .null, .null, .null, .null] .null := Arv.set Ar24 qa24 Sa24 Na24 Ha24 Ga24 rfl W26 4 rfl (Nat.le_of_ble_eq_true rfl)
  have Zs26 : n0 ≤ h26.size := Nat.le_trans Zs21 (Nat.le_of_eq W26.size.symm)
  have N26 := Fr.snoc X26 N21 g_b1
  have S_DEFINE_27 := ((((((S_DEFINE.ext E1).wr W6).wr W11).wr W16).wr W21).wr W26)
  obtain ⟨T28, X28, e28, st28⟩ := getS2 X26 hx hZ hown (host := "") (Or.inl (hw _ (List.mem_of_getElem? (i := 14) rfl))) Via.refl e26 S_DEFINE_27 (g := (mkF m 37 #[.val (.int p0), .unset, .unset, .unset] [(.int (5 : Int32)), (.ref b1), (.ref b1)])) rfl (hb hby at_37)
  obtain ⟨cl29, Ar29, qa29, Sa29, Na29, Ha29, Ga29⟩ := V26
  have hin29 : ¬ ((5 : Int32) < 0 ∨ cl29.slots.size ≤ ((5 : Int32)).toNatClampNeg) := inb_of Sa29 ⟨by decide, by decide⟩
  have E_DEFINE_30 := ((((((E_DEFINE.ext E1).wr W6).wr W11).wr W16).wr W21).wr W26)
  obtain ⟨T31, h31, X31, e31, W31, st31⟩ := stR X28 hx hZ e28 Ar29 (j := (5 : Int32)) hin29 rfl (Sto.ofV Ar29 qa29 O1 (Ins.self E_DEFINE_30)) (g := (mkF m 40 #[.val (.int p0), .unset, .unset, .unset] [(.ref (W 5)), (.int (5 : Int32)), (.ref b1), (.ref b1)])) rfl rfl (hb hby at_40)
  have V31 : Arv Z h31 b1 k1 (.object "com/example/forbid_or_permit/forbidorpermit/Kind") (21 : Int32) [(.ref (W 0)), (.ref (W 1)), (.ref (W 2)), (.ref (W 3)), (.ref (W 4)), (.ref (W 5)), .null, .null, .null, .null, .null, .null, .null, .null, .null, .null, .null, .null, .null, .null, .null] .null := Arv.set Ar29 qa29 Sa29 Na29 Ha29 Ga29 rfl W31 5 rfl (Nat.le_of_ble_eq_true rfl)
  have Zs31 : n0 ≤ h31.size := Nat.le_trans Zs26 (Nat.le_of_eq W31.size.symm)
  have N31 := Fr.snoc X31 N26 g_b1
  have S_HOLDS_32 := (((((((S_HOLDS.ext E1).wr W6).wr W11).wr W16).wr W21).wr W26).wr W31)
  obtain ⟨T33, X33, e33, st33⟩ := getS2 X31 hx hZ hown (host := "") (Or.inl (hw _ (List.mem_of_getElem? (i := 16) rfl))) Via.refl e31 S_HOLDS_32 (g := (mkF m 44 #[.val (.int p0), .unset, .unset, .unset] [(.int (6 : Int32)), (.ref b1), (.ref b1)])) rfl (hb hby at_44)
  obtain ⟨cl34, Ar34, qa34, Sa34, Na34, Ha34, Ga34⟩ := V31
  have hin34 : ¬ ((6 : Int32) < 0 ∨ cl34.slots.size ≤ ((6 : Int32)).toNatClampNeg) := inb_of Sa34 ⟨by decide, by decide⟩
  have E_HOLDS_35 := (((((((E_HOLDS.ext E1).wr W6).wr W11).wr W16).wr W21).wr W26).wr W31)
  obtain ⟨T36, h36, X36, e36, W36, st36⟩ := stR X33 hx hZ e33 Ar34 (j := (6 : Int32)) hin34 rfl (Sto.ofV Ar34 qa34 O1 (Ins.self E_HOLDS_35)) (g := (mkF m 47 #[.val (.int p0), .unset, .unset, .unset] [(.ref (W 6)), (.int (6 : Int32)), (.ref b1), (.ref b1)])) rfl rfl (hb hby at_47)
  have V36 : Arv Z h36 b1 k1 (.object "com/example/forbid_or_permit/forbidorpermit/Kind") (21 : Int32) [(.ref (W 0)), (.ref (W 1)), (.ref (W 2)), (.ref (W 3)), (.ref (W 4)), (.ref (W 5)), (.ref (W 6)), .null, .null, .null, .null, .null, .null, .null, .null, .null, .null, .null, .null, .null, .null] .null := Arv.set Ar34 qa34 Sa34 Na34 Ha34 Ga34 rfl W36 6 rfl (Nat.le_of_ble_eq_true rfl)
  have Zs36 : n0 ≤ h36.size := Nat.le_trans Zs31 (Nat.le_of_eq W36.size.symm)
  have N36 := Fr.snoc X36 N31 g_b1
  have S_ORDER_37 := ((((((((S_ORDER.ext E1).wr W6).wr W11).wr W16).wr W21).wr W26).wr W31).wr W36)
  obtain ⟨T38, X38, e38, st38⟩ := getS2 X36 hx hZ hown (host := "") (Or.inl (hw _ (List.mem_of_getElem? (i := 18) rfl))) Via.refl e36 S_ORDER_37 (g := (mkF m 51 #[.val (.int p0), .unset, .unset, .unset] [(.int (7 : Int32)), (.ref b1), (.ref b1)])) rfl (hb hby at_51)
  obtain ⟨cl39, Ar39, qa39, Sa39, Na39, Ha39, Ga39⟩ := V36
  have hin39 : ¬ ((7 : Int32) < 0 ∨ cl39.slots.size ≤ ((7 : Int32)).toNatClampNeg) := inb_of Sa39 ⟨by decide, by decide⟩
  have E_ORDER_40 := ((((((((E_ORDER.ext E1).wr W6).wr W11).wr W16).wr W21).wr W26).wr W31).wr W36)
  obtain ⟨T41, h41, X41, e41, W41, st41⟩ := stR X38 hx hZ e38 Ar39 (j := (7 : Int32)) hin39 rfl (Sto.ofV Ar39 qa39 O1 (Ins.self E_ORDER_40)) (g := (mkF m 54 #[.val (.int p0), .unset, .unset, .unset] [(.ref (W 7)), (.int (7 : Int32)), (.ref b1), (.ref b1)])) rfl rfl (hb hby at_54)
  have V41 : Arv Z h41 b1 k1 (.object "com/example/forbid_or_permit/forbidorpermit/Kind") (21 : Int32) [(.ref (W 0)), (.ref (W 1)), (.ref (W 2)), (.ref (W 3)), (.ref (W 4)), (.ref (W 5)), (.ref (W 6)), (.ref (W 7)), .null, .null, .null, .null, .null, .null, .null, .null, .null, .null, .null, .null, .null] .null := Arv.set Ar39 qa39 Sa39 Na39 Ha39 Ga39 rfl W41 7 rfl (Nat.le_of_ble_eq_true rfl)
  have Zs41 : n0 ≤ h41.size := Nat.le_trans Zs36 (Nat.le_of_eq W41.size.symm)
  have N41 := Fr.snoc X41 N36 g_b1
  have S_SUB_ORGANISATION_42 := (((((((((S_SUB_ORGANISATION.ext E1).wr W6).wr W11).wr W16).wr W21).wr W26).wr W31).wr W36).wr W41)
  obtain ⟨T43, X43, e43, st43⟩ := getS2 X41 hx hZ hown (host := "") (Or.inl (hw _ (List.mem_of_getElem? (i := 20) rfl))) Via.refl e41 S_SUB_ORGANISATION_42 (g := (mkF m 58 #[.val (.int p0), .unset, .unset, .unset] [(.int (8 : Int32)), (.ref b1), (.ref b1)])) rfl (hb hby at_58)
  obtain ⟨cl44, Ar44, qa44, Sa44, Na44, Ha44, Ga44⟩ := V41
  have hin44 : ¬ ((8 : Int32) < 0 ∨ cl44.slots.size ≤ ((8 : Int32)).toNatClampNeg) := inb_of Sa44 ⟨by decide, by decide⟩
  have E_SUB_ORGANISATION_45 := (((((((((E_SUB_ORGANISATION.ext E1).wr W6).wr W11).wr W16).wr W21).wr W26).wr W31).wr W36).wr W41)
  obtain ⟨T46, h46, X46, e46, W46, st46⟩ := stR X43 hx hZ e43 Ar44 (j := (8 : Int32)) hin44 rfl (Sto.ofV Ar44 qa44 O1 (Ins.self E_SUB_ORGANISATION_45)) (g := (mkF m 61 #[.val (.int p0), .unset, .unset, .unset] [(.ref (W 8)), (.int (8 : Int32)), (.ref b1), (.ref b1)])) rfl rfl (hb hby at_61)
  have V46 : Arv Z h46 b1 k1 (.object "com/example/forbid_or_permit/forbidorpermit/Kind") (21 : Int32) [(.ref (W 0)), (.ref (W 1)), (.ref (W 2)), (.ref (W 3)), (.ref (W 4)), (.ref (W 5)), (.ref (W 6)), (.ref (W 7)), (.ref (W 8)), .null, .null, .null, .null, .null, .null, .null, .null, .null, .null, .null, .null] .null := Arv.set Ar44 qa44 Sa44 Na44 Ha44 Ga44 rfl W46 8 rfl (Nat.le_of_ble_eq_true rfl)
  have Zs46 : n0 ≤ h46.size := Nat.le_trans Zs41 (Nat.le_of_eq W46.size.symm)
  have N46 := Fr.snoc X46 N41 g_b1
  have S_SUB_ROLE_47 := ((((((((((S_SUB_ROLE.ext E1).wr W6).wr W11).wr W16).wr W21).wr W26).wr W31).wr W36).wr W41).wr W46)
  obtain ⟨T48, X48, e48, st48⟩ := getS2 X46 hx hZ hown (host := "") (Or.inl (hw _ (List.mem_of_getElem? (i := 22) rfl))) Via.refl e46 S_SUB_ROLE_47 (g := (mkF m 65 #[.val (.int p0), .unset, .unset, .unset] [(.int (9 : Int32)), (.ref b1), (.ref b1)])) rfl (hb hby at_65)
  obtain ⟨cl49, Ar49, qa49, Sa49, Na49, Ha49, Ga49⟩ := V46
  have hin49 : ¬ ((9 : Int32) < 0 ∨ cl49.slots.size ≤ ((9 : Int32)).toNatClampNeg) := inb_of Sa49 ⟨by decide, by decide⟩
  have E_SUB_ROLE_50 := ((((((((((E_SUB_ROLE.ext E1).wr W6).wr W11).wr W16).wr W21).wr W26).wr W31).wr W36).wr W41).wr W46)
  obtain ⟨T51, h51, X51, e51, W51, st51⟩ := stR X48 hx hZ e48 Ar49 (j := (9 : Int32)) hin49 rfl (Sto.ofV Ar49 qa49 O1 (Ins.self E_SUB_ROLE_50)) (g := (mkF m 68 #[.val (.int p0), .unset, .unset, .unset] [(.ref (W 9)), (.int (9 : Int32)), (.ref b1), (.ref b1)])) rfl rfl (hb hby at_68)
  have V51 : Arv Z h51 b1 k1 (.object "com/example/forbid_or_permit/forbidorpermit/Kind") (21 : Int32) [(.ref (W 0)), (.ref (W 1)), (.ref (W 2)), (.ref (W 3)), (.ref (W 4)), (.ref (W 5)), (.ref (W 6)), (.ref (W 7)), (.ref (W 8)), (.ref (W 9)), .null, .null, .null, .null, .null, .null, .null, .null, .null, .null, .null] .null := Arv.set Ar49 qa49 Sa49 Na49 Ha49 Ga49 rfl W51 9 rfl (Nat.le_of_ble_eq_true rfl)
  have Zs51 : n0 ≤ h51.size := Nat.le_trans Zs46 (Nat.le_of_eq W51.size.symm)
  have N51 := Fr.snoc X51 N46 g_b1
  have S_SUB_VIEW_52 := (((((((((((S_SUB_VIEW.ext E1).wr W6).wr W11).wr W16).wr W21).wr W26).wr W31).wr W36).wr W41).wr W46).wr W51)
  obtain ⟨T53, X53, e53, st53⟩ := getS2 X51 hx hZ hown (host := "") (Or.inl (hw _ (List.mem_of_getElem? (i := 24) rfl))) Via.refl e51 S_SUB_VIEW_52 (g := (mkF m 72 #[.val (.int p0), .unset, .unset, .unset] [(.int (10 : Int32)), (.ref b1), (.ref b1)])) rfl (hb hby at_72)
  obtain ⟨cl54, Ar54, qa54, Sa54, Na54, Ha54, Ga54⟩ := V51
  have hin54 : ¬ ((10 : Int32) < 0 ∨ cl54.slots.size ≤ ((10 : Int32)).toNatClampNeg) := inb_of Sa54 ⟨by decide, by decide⟩
  have E_SUB_VIEW_55 := (((((((((((E_SUB_VIEW.ext E1).wr W6).wr W11).wr W16).wr W21).wr W26).wr W31).wr W36).wr W41).wr W46).wr W51)
  obtain ⟨T56, h56, X56, e56, W56, st56⟩ := stR X53 hx hZ e53 Ar54 (j := (10 : Int32)) hin54 rfl (Sto.ofV Ar54 qa54 O1 (Ins.self E_SUB_VIEW_55)) (g := (mkF m 75 #[.val (.int p0), .unset, .unset, .unset] [(.ref (W 10)), (.int (10 : Int32)), (.ref b1), (.ref b1)])) rfl rfl (hb hby at_75)
  have V56 : Arv Z h56 b1 k1 (.object "com/example/forbid_or_permit/forbidorpermit/Kind") (21 : Int32) [(.ref (W 0)), (.ref (W 1)), (.ref (W 2)), (.ref (W 3)), (.ref (W 4)), (.ref (W 5)), (.ref (W 6)), (.ref (W 7)), (.ref (W 8)), (.ref (W 9)), (.ref (W 10)), .null, .null, .null, .null, .null, .null, .null, .null, .null, .null] .null := Arv.set Ar54 qa54 Sa54 Na54 Ha54 Ga54 rfl W56 10 rfl (Nat.le_of_ble_eq_true rfl)
  have Zs56 : n0 ≤ h56.size := Nat.le_trans Zs51 (Nat.le_of_eq W56.size.symm)
  have N56 := Fr.snoc X56 N51 g_b1
  have S_SUB_ACTIVITY_57 := ((((((((((((S_SUB_ACTIVITY.ext E1).wr W6).wr W11).wr W16).wr W21).wr W26).wr W31).wr W36).wr W41).wr W46).wr W51).wr W56)
  obtain ⟨T58, X58, e58, st58⟩ := getS2 X56 hx hZ hown (host := "") (Or.inl (hw _ (List.mem_of_getElem? (i := 26) rfl))) Via.refl e56 S_SUB_ACTIVITY_57 (g := (mkF m 79 #[.val (.int p0), .unset, .unset, .unset] [(.int (11 : Int32)), (.ref b1), (.ref b1)])) rfl (hb hby at_79)
  obtain ⟨cl59, Ar59, qa59, Sa59, Na59, Ha59, Ga59⟩ := V56
  have hin59 : ¬ ((11 : Int32) < 0 ∨ cl59.slots.size ≤ ((11 : Int32)).toNatClampNeg) := inb_of Sa59 ⟨by decide, by decide⟩
  have E_SUB_ACTIVITY_60 := ((((((((((((E_SUB_ACTIVITY.ext E1).wr W6).wr W11).wr W16).wr W21).wr W26).wr W31).wr W36).wr W41).wr W46).wr W51).wr W56)
  obtain ⟨T61, h61, X61, e61, W61, st61⟩ := stR X58 hx hZ e58 Ar59 (j := (11 : Int32)) hin59 rfl (Sto.ofV Ar59 qa59 O1 (Ins.self E_SUB_ACTIVITY_60)) (g := (mkF m 82 #[.val (.int p0), .unset, .unset, .unset] [(.ref (W 11)), (.int (11 : Int32)), (.ref b1), (.ref b1)])) rfl rfl (hb hby at_82)
  have V61 : Arv Z h61 b1 k1 (.object "com/example/forbid_or_permit/forbidorpermit/Kind") (21 : Int32) [(.ref (W 0)), (.ref (W 1)), (.ref (W 2)), (.ref (W 3)), (.ref (W 4)), (.ref (W 5)), (.ref (W 6)), (.ref (W 7)), (.ref (W 8)), (.ref (W 9)), (.ref (W 10)), (.ref (W 11)), .null, .null, .null, .null, .null, .null, .null, .null, .null] .null := Arv.set Ar59 qa59 Sa59 Na59 Ha59 Ga59 rfl W61 11 rfl (Nat.le_of_ble_eq_true rfl)
  have Zs61 : n0 ≤ h61.size := Nat.le_trans Zs56 (Nat.le_of_eq W61.size.symm)
  have N61 := Fr.snoc X61 N56 g_b1
  have S_SUB_CONTEXT_62 := (((((((((((((S_SUB_CONTEXT.ext E1).wr W6).wr W11).wr W16).wr W21).wr W26).wr W31).wr W36).wr W41).wr W46).wr W51).wr W56).wr W61)
  obtain ⟨T63, X63, e63, st63⟩ := getS2 X61 hx hZ hown (host := "") (Or.inl (hw _ (List.mem_of_getElem? (i := 28) rfl))) Via.refl e61 S_SUB_CONTEXT_62 (g := (mkF m 86 #[.val (.int p0), .unset, .unset, .unset] [(.int (12 : Int32)), (.ref b1), (.ref b1)])) rfl (hb hby at_86)
  obtain ⟨cl64, Ar64, qa64, Sa64, Na64, Ha64, Ga64⟩ := V61
  have hin64 : ¬ ((12 : Int32) < 0 ∨ cl64.slots.size ≤ ((12 : Int32)).toNatClampNeg) := inb_of Sa64 ⟨by decide, by decide⟩
  have E_SUB_CONTEXT_65 := (((((((((((((E_SUB_CONTEXT.ext E1).wr W6).wr W11).wr W16).wr W21).wr W26).wr W31).wr W36).wr W41).wr W46).wr W51).wr W56).wr W61)
  obtain ⟨T66, h66, X66, e66, W66, st66⟩ := stR X63 hx hZ e63 Ar64 (j := (12 : Int32)) hin64 rfl (Sto.ofV Ar64 qa64 O1 (Ins.self E_SUB_CONTEXT_65)) (g := (mkF m 89 #[.val (.int p0), .unset, .unset, .unset] [(.ref (W 12)), (.int (12 : Int32)), (.ref b1), (.ref b1)])) rfl rfl (hb hby at_89)
  have V66 : Arv Z h66 b1 k1 (.object "com/example/forbid_or_permit/forbidorpermit/Kind") (21 : Int32) [(.ref (W 0)), (.ref (W 1)), (.ref (W 2)), (.ref (W 3)), (.ref (W 4)), (.ref (W 5)), (.ref (W 6)), (.ref (W 7)), (.ref (W 8)), (.ref (W 9)), (.ref (W 10)), (.ref (W 11)), (.ref (W 12)), .null, .null, .null, .null, .null, .null, .null, .null] .null := Arv.set Ar64 qa64 Sa64 Na64 Ha64 Ga64 rfl W66 12 rfl (Nat.le_of_ble_eq_true rfl)
  have Zs66 : n0 ≤ h66.size := Nat.le_trans Zs61 (Nat.le_of_eq W66.size.symm)
  have N66 := Fr.snoc X66 N61 g_b1
  have S_PREFER_ROLE_67 := ((((((((((((((S_PREFER_ROLE.ext E1).wr W6).wr W11).wr W16).wr W21).wr W26).wr W31).wr W36).wr W41).wr W46).wr W51).wr W56).wr W61).wr W66)
  obtain ⟨T68, X68, e68, st68⟩ := getS2 X66 hx hZ hown (host := "") (Or.inl (hw _ (List.mem_of_getElem? (i := 30) rfl))) Via.refl e66 S_PREFER_ROLE_67 (g := (mkF m 93 #[.val (.int p0), .unset, .unset, .unset] [(.int (13 : Int32)), (.ref b1), (.ref b1)])) rfl (hb hby at_93)
  obtain ⟨cl69, Ar69, qa69, Sa69, Na69, Ha69, Ga69⟩ := V66
  have hin69 : ¬ ((13 : Int32) < 0 ∨ cl69.slots.size ≤ ((13 : Int32)).toNatClampNeg) := inb_of Sa69 ⟨by decide, by decide⟩
  have E_PREFER_ROLE_70 := ((((((((((((((E_PREFER_ROLE.ext E1).wr W6).wr W11).wr W16).wr W21).wr W26).wr W31).wr W36).wr W41).wr W46).wr W51).wr W56).wr W61).wr W66)
  obtain ⟨T71, h71, X71, e71, W71, st71⟩ := stR X68 hx hZ e68 Ar69 (j := (13 : Int32)) hin69 rfl (Sto.ofV Ar69 qa69 O1 (Ins.self E_PREFER_ROLE_70)) (g := (mkF m 96 #[.val (.int p0), .unset, .unset, .unset] [(.ref (W 13)), (.int (13 : Int32)), (.ref b1), (.ref b1)])) rfl rfl (hb hby at_96)
  have V71 : Arv Z h71 b1 k1 (.object "com/example/forbid_or_permit/forbidorpermit/Kind") (21 : Int32) [(.ref (W 0)), (.ref (W 1)), (.ref (W 2)), (.ref (W 3)), (.ref (W 4)), (.ref (W 5)), (.ref (W 6)), (.ref (W 7)), (.ref (W 8)), (.ref (W 9)), (.ref (W 10)), (.ref (W 11)), (.ref (W 12)), (.ref (W 13)), .null, .null, .null, .null, .null, .null, .null] .null := Arv.set Ar69 qa69 Sa69 Na69 Ha69 Ga69 rfl W71 13 rfl (Nat.le_of_ble_eq_true rfl)
  have Zs71 : n0 ≤ h71.size := Nat.le_trans Zs66 (Nat.le_of_eq W71.size.symm)
  have N71 := Fr.snoc X71 N66 g_b1
  have S_PREFER_CONTEXT_72 := (((((((((((((((S_PREFER_CONTEXT.ext E1).wr W6).wr W11).wr W16).wr W21).wr W26).wr W31).wr W36).wr W41).wr W46).wr W51).wr W56).wr W61).wr W66).wr W71)
  obtain ⟨T73, X73, e73, st73⟩ := getS2 X71 hx hZ hown (host := "") (Or.inl (hw _ (List.mem_of_getElem? (i := 32) rfl))) Via.refl e71 S_PREFER_CONTEXT_72 (g := (mkF m 100 #[.val (.int p0), .unset, .unset, .unset] [(.int (14 : Int32)), (.ref b1), (.ref b1)])) rfl (hb hby at_100)
  obtain ⟨cl74, Ar74, qa74, Sa74, Na74, Ha74, Ga74⟩ := V71
  have hin74 : ¬ ((14 : Int32) < 0 ∨ cl74.slots.size ≤ ((14 : Int32)).toNatClampNeg) := inb_of Sa74 ⟨by decide, by decide⟩
  have E_PREFER_CONTEXT_75 := (((((((((((((((E_PREFER_CONTEXT.ext E1).wr W6).wr W11).wr W16).wr W21).wr W26).wr W31).wr W36).wr W41).wr W46).wr W51).wr W56).wr W61).wr W66).wr W71)
  obtain ⟨T76, h76, X76, e76, W76, st76⟩ := stR X73 hx hZ e73 Ar74 (j := (14 : Int32)) hin74 rfl (Sto.ofV Ar74 qa74 O1 (Ins.self E_PREFER_CONTEXT_75)) (g := (mkF m 103 #[.val (.int p0), .unset, .unset, .unset] [(.ref (W 14)), (.int (14 : Int32)), (.ref b1), (.ref b1)])) rfl rfl (hb hby at_103)
  have V76 : Arv Z h76 b1 k1 (.object "com/example/forbid_or_permit/forbidorpermit/Kind") (21 : Int32) [(.ref (W 0)), (.ref (W 1)), (.ref (W 2)), (.ref (W 3)), (.ref (W 4)), (.ref (W 5)), (.ref (W 6)), (.ref (W 7)), (.ref (W 8)), (.ref (W 9)), (.ref (W 10)), (.ref (W 11)), (.ref (W 12)), (.ref (W 13)), (.ref (W 14)), .null, .null, .null, .null, .null, .null] .null := Arv.set Ar74 qa74 Sa74 Na74 Ha74 Ga74 rfl W76 14 rfl (Nat.le_of_ble_eq_true rfl)
  have Zs76 : n0 ≤ h76.size := Nat.le_trans Zs71 (Nat.le_of_eq W76.size.symm)
  have N76 := Fr.snoc X76 N71 g_b1
  have S_PREFER_VIEW_77 := ((((((((((((((((S_PREFER_VIEW.ext E1).wr W6).wr W11).wr W16).wr W21).wr W26).wr W31).wr W36).wr W41).wr W46).wr W51).wr W56).wr W61).wr W66).wr W71).wr W76)
  obtain ⟨T78, X78, e78, st78⟩ := getS2 X76 hx hZ hown (host := "") (Or.inl (hw _ (List.mem_of_getElem? (i := 34) rfl))) Via.refl e76 S_PREFER_VIEW_77 (g := (mkF m 107 #[.val (.int p0), .unset, .unset, .unset] [(.int (15 : Int32)), (.ref b1), (.ref b1)])) rfl (hb hby at_107)
  obtain ⟨cl79, Ar79, qa79, Sa79, Na79, Ha79, Ga79⟩ := V76
  have hin79 : ¬ ((15 : Int32) < 0 ∨ cl79.slots.size ≤ ((15 : Int32)).toNatClampNeg) := inb_of Sa79 ⟨by decide, by decide⟩
  have E_PREFER_VIEW_80 := ((((((((((((((((E_PREFER_VIEW.ext E1).wr W6).wr W11).wr W16).wr W21).wr W26).wr W31).wr W36).wr W41).wr W46).wr W51).wr W56).wr W61).wr W66).wr W71).wr W76)
  obtain ⟨T81, h81, X81, e81, W81, st81⟩ := stR X78 hx hZ e78 Ar79 (j := (15 : Int32)) hin79 rfl (Sto.ofV Ar79 qa79 O1 (Ins.self E_PREFER_VIEW_80)) (g := (mkF m 110 #[.val (.int p0), .unset, .unset, .unset] [(.ref (W 15)), (.int (15 : Int32)), (.ref b1), (.ref b1)])) rfl rfl (hb hby at_110)
  have V81 : Arv Z h81 b1 k1 (.object "com/example/forbid_or_permit/forbidorpermit/Kind") (21 : Int32) [(.ref (W 0)), (.ref (W 1)), (.ref (W 2)), (.ref (W 3)), (.ref (W 4)), (.ref (W 5)), (.ref (W 6)), (.ref (W 7)), (.ref (W 8)), (.ref (W 9)), (.ref (W 10)), (.ref (W 11)), (.ref (W 12)), (.ref (W 13)), (.ref (W 14)), (.ref (W 15)), .null, .null, .null, .null, .null] .null := Arv.set Ar79 qa79 Sa79 Na79 Ha79 Ga79 rfl W81 15 rfl (Nat.le_of_ble_eq_true rfl)
  have Zs81 : n0 ≤ h81.size := Nat.le_trans Zs76 (Nat.le_of_eq W81.size.symm)
  have N81 := Fr.snoc X81 N76 g_b1
  have S_PREFER_ACTIVITY_82 := (((((((((((((((((S_PREFER_ACTIVITY.ext E1).wr W6).wr W11).wr W16).wr W21).wr W26).wr W31).wr W36).wr W41).wr W46).wr W51).wr W56).wr W61).wr W66).wr W71).wr W76).wr W81)
  obtain ⟨T83, X83, e83, st83⟩ := getS2 X81 hx hZ hown (host := "") (Or.inl (hw _ (List.mem_of_getElem? (i := 36) rfl))) Via.refl e81 S_PREFER_ACTIVITY_82 (g := (mkF m 114 #[.val (.int p0), .unset, .unset, .unset] [(.int (16 : Int32)), (.ref b1), (.ref b1)])) rfl (hb hby at_114)
  obtain ⟨cl84, Ar84, qa84, Sa84, Na84, Ha84, Ga84⟩ := V81
  have hin84 : ¬ ((16 : Int32) < 0 ∨ cl84.slots.size ≤ ((16 : Int32)).toNatClampNeg) := inb_of Sa84 ⟨by decide, by decide⟩
  have E_PREFER_ACTIVITY_85 := (((((((((((((((((E_PREFER_ACTIVITY.ext E1).wr W6).wr W11).wr W16).wr W21).wr W26).wr W31).wr W36).wr W41).wr W46).wr W51).wr W56).wr W61).wr W66).wr W71).wr W76).wr W81)
  obtain ⟨T86, h86, X86, e86, W86, st86⟩ := stR X83 hx hZ e83 Ar84 (j := (16 : Int32)) hin84 rfl (Sto.ofV Ar84 qa84 O1 (Ins.self E_PREFER_ACTIVITY_85)) (g := (mkF m 117 #[.val (.int p0), .unset, .unset, .unset] [(.ref (W 16)), (.int (16 : Int32)), (.ref b1), (.ref b1)])) rfl rfl (hb hby at_117)
  have V86 : Arv Z h86 b1 k1 (.object "com/example/forbid_or_permit/forbidorpermit/Kind") (21 : Int32) [(.ref (W 0)), (.ref (W 1)), (.ref (W 2)), (.ref (W 3)), (.ref (W 4)), (.ref (W 5)), (.ref (W 6)), (.ref (W 7)), (.ref (W 8)), (.ref (W 9)), (.ref (W 10)), (.ref (W 11)), (.ref (W 12)), (.ref (W 13)), (.ref (W 14)), (.ref (W 15)), (.ref (W 16)), .null, .null, .null, .null] .null := Arv.set Ar84 qa84 Sa84 Na84 Ha84 Ga84 rfl W86 16 rfl (Nat.le_of_ble_eq_true rfl)
  have Zs86 : n0 ≤ h86.size := Nat.le_trans Zs81 (Nat.le_of_eq W86.size.symm)
  have N86 := Fr.snoc X86 N81 g_b1
  have S_SEPARATED_ROLE_87 := ((((((((((((((((((S_SEPARATED_ROLE.ext E1).wr W6).wr W11).wr W16).wr W21).wr W26).wr W31).wr W36).wr W41).wr W46).wr W51).wr W56).wr W61).wr W66).wr W71).wr W76).wr W81).wr W86)
  obtain ⟨T88, X88, e88, st88⟩ := getS2 X86 hx hZ hown (host := "") (Or.inl (hw _ (List.mem_of_getElem? (i := 38) rfl))) Via.refl e86 S_SEPARATED_ROLE_87 (g := (mkF m 121 #[.val (.int p0), .unset, .unset, .unset] [(.int (17 : Int32)), (.ref b1), (.ref b1)])) rfl (hb hby at_121)
  obtain ⟨cl89, Ar89, qa89, Sa89, Na89, Ha89, Ga89⟩ := V86
  have hin89 : ¬ ((17 : Int32) < 0 ∨ cl89.slots.size ≤ ((17 : Int32)).toNatClampNeg) := inb_of Sa89 ⟨by decide, by decide⟩
  have E_SEPARATED_ROLE_90 := ((((((((((((((((((E_SEPARATED_ROLE.ext E1).wr W6).wr W11).wr W16).wr W21).wr W26).wr W31).wr W36).wr W41).wr W46).wr W51).wr W56).wr W61).wr W66).wr W71).wr W76).wr W81).wr W86)
  obtain ⟨T91, h91, X91, e91, W91, st91⟩ := stR X88 hx hZ e88 Ar89 (j := (17 : Int32)) hin89 rfl (Sto.ofV Ar89 qa89 O1 (Ins.self E_SEPARATED_ROLE_90)) (g := (mkF m 124 #[.val (.int p0), .unset, .unset, .unset] [(.ref (W 17)), (.int (17 : Int32)), (.ref b1), (.ref b1)])) rfl rfl (hb hby at_124)
  have V91 : Arv Z h91 b1 k1 (.object "com/example/forbid_or_permit/forbidorpermit/Kind") (21 : Int32) [(.ref (W 0)), (.ref (W 1)), (.ref (W 2)), (.ref (W 3)), (.ref (W 4)), (.ref (W 5)), (.ref (W 6)), (.ref (W 7)), (.ref (W 8)), (.ref (W 9)), (.ref (W 10)), (.ref (W 11)), (.ref (W 12)), (.ref (W 13)), (.ref (W 14)), (.ref (W 15)), (.ref (W 16)), (.ref (W 17)), .null, .null, .null] .null := Arv.set Ar89 qa89 Sa89 Na89 Ha89 Ga89 rfl W91 17 rfl (Nat.le_of_ble_eq_true rfl)
  have Zs91 : n0 ≤ h91.size := Nat.le_trans Zs86 (Nat.le_of_eq W91.size.symm)
  have N91 := Fr.snoc X91 N86 g_b1
  have S_SEPARATED_VIEW_92 := (((((((((((((((((((S_SEPARATED_VIEW.ext E1).wr W6).wr W11).wr W16).wr W21).wr W26).wr W31).wr W36).wr W41).wr W46).wr W51).wr W56).wr W61).wr W66).wr W71).wr W76).wr W81).wr W86).wr W91)
  obtain ⟨T93, X93, e93, st93⟩ := getS2 X91 hx hZ hown (host := "") (Or.inl (hw _ (List.mem_of_getElem? (i := 40) rfl))) Via.refl e91 S_SEPARATED_VIEW_92 (g := (mkF m 128 #[.val (.int p0), .unset, .unset, .unset] [(.int (18 : Int32)), (.ref b1), (.ref b1)])) rfl (hb hby at_128)
  obtain ⟨cl94, Ar94, qa94, Sa94, Na94, Ha94, Ga94⟩ := V91
  have hin94 : ¬ ((18 : Int32) < 0 ∨ cl94.slots.size ≤ ((18 : Int32)).toNatClampNeg) := inb_of Sa94 ⟨by decide, by decide⟩
  have E_SEPARATED_VIEW_95 := (((((((((((((((((((E_SEPARATED_VIEW.ext E1).wr W6).wr W11).wr W16).wr W21).wr W26).wr W31).wr W36).wr W41).wr W46).wr W51).wr W56).wr W61).wr W66).wr W71).wr W76).wr W81).wr W86).wr W91)
  obtain ⟨T96, h96, X96, e96, W96, st96⟩ := stR X93 hx hZ e93 Ar94 (j := (18 : Int32)) hin94 rfl (Sto.ofV Ar94 qa94 O1 (Ins.self E_SEPARATED_VIEW_95)) (g := (mkF m 131 #[.val (.int p0), .unset, .unset, .unset] [(.ref (W 18)), (.int (18 : Int32)), (.ref b1), (.ref b1)])) rfl rfl (hb hby at_131)
  have V96 : Arv Z h96 b1 k1 (.object "com/example/forbid_or_permit/forbidorpermit/Kind") (21 : Int32) [(.ref (W 0)), (.ref (W 1)), (.ref (W 2)), (.ref (W 3)), (.ref (W 4)), (.ref (W 5)), (.ref (W 6)), (.ref (W 7)), (.ref (W 8)), (.ref (W 9)), (.ref (W 10)), (.ref (W 11)), (.ref (W 12)), (.ref (W 13)), (.ref (W 14)), (.ref (W 15)), (.ref (W 16)), (.ref (W 17)), (.ref (W 18)), .null, .null] .null := Arv.set Ar94 qa94 Sa94 Na94 Ha94 Ga94 rfl W96 18 rfl (Nat.le_of_ble_eq_true rfl)
  have Zs96 : n0 ≤ h96.size := Nat.le_trans Zs91 (Nat.le_of_eq W96.size.symm)
  have N96 := Fr.snoc X96 N91 g_b1
  have S_SEPARATED_ACTIVITY_97 := ((((((((((((((((((((S_SEPARATED_ACTIVITY.ext E1).wr W6).wr W11).wr W16).wr W21).wr W26).wr W31).wr W36).wr W41).wr W46).wr W51).wr W56).wr W61).wr W66).wr W71).wr W76).wr W81).wr W86).wr W91).wr W96)
  obtain ⟨T98, X98, e98, st98⟩ := getS2 X96 hx hZ hown (host := "") (Or.inl (hw _ (List.mem_of_getElem? (i := 42) rfl))) Via.refl e96 S_SEPARATED_ACTIVITY_97 (g := (mkF m 135 #[.val (.int p0), .unset, .unset, .unset] [(.int (19 : Int32)), (.ref b1), (.ref b1)])) rfl (hb hby at_135)
  obtain ⟨cl99, Ar99, qa99, Sa99, Na99, Ha99, Ga99⟩ := V96
  have hin99 : ¬ ((19 : Int32) < 0 ∨ cl99.slots.size ≤ ((19 : Int32)).toNatClampNeg) := inb_of Sa99 ⟨by decide, by decide⟩
  have E_SEPARATED_ACTIVITY_100 := ((((((((((((((((((((E_SEPARATED_ACTIVITY.ext E1).wr W6).wr W11).wr W16).wr W21).wr W26).wr W31).wr W36).wr W41).wr W46).wr W51).wr W56).wr W61).wr W66).wr W71).wr W76).wr W81).wr W86).wr W91).wr W96)
  obtain ⟨T101, h101, X101, e101, W101, st101⟩ := stR X98 hx hZ e98 Ar99 (j := (19 : Int32)) hin99 rfl (Sto.ofV Ar99 qa99 O1 (Ins.self E_SEPARATED_ACTIVITY_100)) (g := (mkF m 138 #[.val (.int p0), .unset, .unset, .unset] [(.ref (W 19)), (.int (19 : Int32)), (.ref b1), (.ref b1)])) rfl rfl (hb hby at_138)
  have V101 : Arv Z h101 b1 k1 (.object "com/example/forbid_or_permit/forbidorpermit/Kind") (21 : Int32) [(.ref (W 0)), (.ref (W 1)), (.ref (W 2)), (.ref (W 3)), (.ref (W 4)), (.ref (W 5)), (.ref (W 6)), (.ref (W 7)), (.ref (W 8)), (.ref (W 9)), (.ref (W 10)), (.ref (W 11)), (.ref (W 12)), (.ref (W 13)), (.ref (W 14)), (.ref (W 15)), (.ref (W 16)), (.ref (W 17)), (.ref (W 18)), (.ref (W 19)), .null] .null := Arv.set Ar99 qa99 Sa99 Na99 Ha99 Ga99 rfl W101 19 rfl (Nat.le_of_ble_eq_true rfl)
  have Zs101 : n0 ≤ h101.size := Nat.le_trans Zs96 (Nat.le_of_eq W101.size.symm)
  have N101 := Fr.snoc X101 N96 g_b1
  have S_SEPARATED_CONTEXT_102 := (((((((((((((((((((((S_SEPARATED_CONTEXT.ext E1).wr W6).wr W11).wr W16).wr W21).wr W26).wr W31).wr W36).wr W41).wr W46).wr W51).wr W56).wr W61).wr W66).wr W71).wr W76).wr W81).wr W86).wr W91).wr W96).wr W101)
  obtain ⟨T103, X103, e103, st103⟩ := getS2 X101 hx hZ hown (host := "") (Or.inl (hw _ (List.mem_of_getElem? (i := 44) rfl))) Via.refl e101 S_SEPARATED_CONTEXT_102 (g := (mkF m 142 #[.val (.int p0), .unset, .unset, .unset] [(.int (20 : Int32)), (.ref b1), (.ref b1)])) rfl (hb hby at_142)
  obtain ⟨cl104, Ar104, qa104, Sa104, Na104, Ha104, Ga104⟩ := V101
  have hin104 : ¬ ((20 : Int32) < 0 ∨ cl104.slots.size ≤ ((20 : Int32)).toNatClampNeg) := inb_of Sa104 ⟨by decide, by decide⟩
  have E_SEPARATED_CONTEXT_105 := (((((((((((((((((((((E_SEPARATED_CONTEXT.ext E1).wr W6).wr W11).wr W16).wr W21).wr W26).wr W31).wr W36).wr W41).wr W46).wr W51).wr W56).wr W61).wr W66).wr W71).wr W76).wr W81).wr W86).wr W91).wr W96).wr W101)
  obtain ⟨T106, h106, X106, e106, W106, st106⟩ := stR X103 hx hZ e103 Ar104 (j := (20 : Int32)) hin104 rfl (Sto.ofV Ar104 qa104 O1 (Ins.self E_SEPARATED_CONTEXT_105)) (g := (mkF m 145 #[.val (.int p0), .unset, .unset, .unset] [(.ref (W 20)), (.int (20 : Int32)), (.ref b1), (.ref b1)])) rfl rfl (hb hby at_145)
  have V106 : Arv Z h106 b1 k1 (.object "com/example/forbid_or_permit/forbidorpermit/Kind") (21 : Int32) [(.ref (W 0)), (.ref (W 1)), (.ref (W 2)), (.ref (W 3)), (.ref (W 4)), (.ref (W 5)), (.ref (W 6)), (.ref (W 7)), (.ref (W 8)), (.ref (W 9)), (.ref (W 10)), (.ref (W 11)), (.ref (W 12)), (.ref (W 13)), (.ref (W 14)), (.ref (W 15)), (.ref (W 16)), (.ref (W 17)), (.ref (W 18)), (.ref (W 19)), (.ref (W 20))] .null := Arv.set Ar104 qa104 Sa104 Na104 Ha104 Ga104 rfl W106 20 rfl (Nat.le_of_ble_eq_true rfl)
  have Zs106 : n0 ≤ h106.size := Nat.le_trans Zs101 (Nat.le_of_eq W106.size.symm)
  have N106 := Fr.snoc X106 N101 g_b1
  have pre107 : ∀ t, Steps p.tables e below (T106.setTop (mkF m 158 #[.val (.int p0), .val (.ref b1), .val (.int k), .unset] [(.int (8 : Int32)), (.int k)])) t → Steps p.tables e below (s₁.setTop (entryFrame m #[(.int p0)] maxLocals)) t := by
    intro t kt
    refine pre0 t ?_
    show Steps p.tables e below (s₁.setTop (mkF m 0 #[.val (.int p0), .unset, .unset, .unset] [])) _
    refine XS.bipush X0.here hx rfl (hb hby at_0) ?_
    show Steps p.tables e below (s₁.setTop (mkF m 2 #[.val (.int p0), .unset, .unset, .unset] [(.int (21 : Int32))])) _
    refine st1 _ ?_
    show Steps p.tables e below (T1.setTop (mkF m 5 #[.val (.int p0), .unset, .unset, .unset] [(.ref b1)])) _
    refine XS.dup X1.here hx rfl (hb hby at_5) rfl rfl ?_
    show Steps p.tables e below (T1.setTop (mkF m 6 #[.val (.int p0), .unset, .unset, .unset] [(.ref b1), (.ref b1)])) _
    refine XS.iconst X1.here hx rfl (hb hby at_6) ?_
    show Steps p.tables e below (T1.setTop (mkF m 7 #[.val (.int p0), .unset, .unset, .unset] [(.int (0 : Int32)), (.ref b1), (.ref b1)])) _
    refine st3 _ ?_
    show Steps p.tables e below (T3.setTop (mkF m 10 #[.val (.int p0), .unset, .unset, .unset] [(.ref (W 0)), (.int (0 : Int32)), (.ref b1), (.ref b1)])) _
    refine st6 _ ?_
    show Steps p.tables e below (T6.setTop (mkF m 11 #[.val (.int p0), .unset, .unset, .unset] [(.ref b1)])) _
    refine XS.dup X6.here hx rfl (hb hby at_11) rfl rfl ?_
    show Steps p.tables e below (T6.setTop (mkF m 12 #[.val (.int p0), .unset, .unset, .unset] [(.ref b1), (.ref b1)])) _
    refine XS.iconst X6.here hx rfl (hb hby at_12) ?_
    show Steps p.tables e below (T6.setTop (mkF m 13 #[.val (.int p0), .unset, .unset, .unset] [(.int (1 : Int32)), (.ref b1), (.ref b1)])) _
    refine st8 _ ?_
    show Steps p.tables e below (T8.setTop (mkF m 16 #[.val (.int p0), .unset, .unset, .unset] [(.ref (W 1)), (.int (1 : Int32)), (.ref b1), (.ref b1)])) _
    refine st11 _ ?_
    show Steps p.tables e below (T11.setTop (mkF m 17 #[.val (.int p0), .unset, .unset, .unset] [(.ref b1)])) _
    refine XS.dup X11.here hx rfl (hb hby at_17) rfl rfl ?_
    show Steps p.tables e below (T11.setTop (mkF m 18 #[.val (.int p0), .unset, .unset, .unset] [(.ref b1), (.ref b1)])) _
    refine XS.iconst X11.here hx rfl (hb hby at_18) ?_
    show Steps p.tables e below (T11.setTop (mkF m 19 #[.val (.int p0), .unset, .unset, .unset] [(.int (2 : Int32)), (.ref b1), (.ref b1)])) _
    refine st13 _ ?_
    show Steps p.tables e below (T13.setTop (mkF m 22 #[.val (.int p0), .unset, .unset, .unset] [(.ref (W 2)), (.int (2 : Int32)), (.ref b1), (.ref b1)])) _
    refine st16 _ ?_
    show Steps p.tables e below (T16.setTop (mkF m 23 #[.val (.int p0), .unset, .unset, .unset] [(.ref b1)])) _
    refine XS.dup X16.here hx rfl (hb hby at_23) rfl rfl ?_
    show Steps p.tables e below (T16.setTop (mkF m 24 #[.val (.int p0), .unset, .unset, .unset] [(.ref b1), (.ref b1)])) _
    refine XS.iconst X16.here hx rfl (hb hby at_24) ?_
    show Steps p.tables e below (T16.setTop (mkF m 25 #[.val (.int p0), .unset, .unset, .unset] [(.int (3 : Int32)), (.ref b1), (.ref b1)])) _
    refine st18 _ ?_
    show Steps p.tables e below (T18.setTop (mkF m 28 #[.val (.int p0), .unset, .unset, .unset] [(.ref (W 3)), (.int (3 : Int32)), (.ref b1), (.ref b1)])) _
    refine st21 _ ?_
    show Steps p.tables e below (T21.setTop (mkF m 29 #[.val (.int p0), .unset, .unset, .unset] [(.ref b1)])) _
    refine XS.dup X21.here hx rfl (hb hby at_29) rfl rfl ?_
    show Steps p.tables e below (T21.setTop (mkF m 30 #[.val (.int p0), .unset, .unset, .unset] [(.ref b1), (.ref b1)])) _
    refine XS.iconst X21.here hx rfl (hb hby at_30) ?_
    show Steps p.tables e below (T21.setTop (mkF m 31 #[.val (.int p0), .unset, .unset, .unset] [(.int (4 : Int32)), (.ref b1), (.ref b1)])) _
    refine st23 _ ?_
    show Steps p.tables e below (T23.setTop (mkF m 34 #[.val (.int p0), .unset, .unset, .unset] [(.ref (W 4)), (.int (4 : Int32)), (.ref b1), (.ref b1)])) _
    refine st26 _ ?_
    show Steps p.tables e below (T26.setTop (mkF m 35 #[.val (.int p0), .unset, .unset, .unset] [(.ref b1)])) _
    refine XS.dup X26.here hx rfl (hb hby at_35) rfl rfl ?_
    show Steps p.tables e below (T26.setTop (mkF m 36 #[.val (.int p0), .unset, .unset, .unset] [(.ref b1), (.ref b1)])) _
    refine XS.iconst X26.here hx rfl (hb hby at_36) ?_
    show Steps p.tables e below (T26.setTop (mkF m 37 #[.val (.int p0), .unset, .unset, .unset] [(.int (5 : Int32)), (.ref b1), (.ref b1)])) _
    refine st28 _ ?_
    show Steps p.tables e below (T28.setTop (mkF m 40 #[.val (.int p0), .unset, .unset, .unset] [(.ref (W 5)), (.int (5 : Int32)), (.ref b1), (.ref b1)])) _
    refine st31 _ ?_
    show Steps p.tables e below (T31.setTop (mkF m 41 #[.val (.int p0), .unset, .unset, .unset] [(.ref b1)])) _
    refine XS.dup X31.here hx rfl (hb hby at_41) rfl rfl ?_
    show Steps p.tables e below (T31.setTop (mkF m 42 #[.val (.int p0), .unset, .unset, .unset] [(.ref b1), (.ref b1)])) _
    refine XS.bipush X31.here hx rfl (hb hby at_42) ?_
    show Steps p.tables e below (T31.setTop (mkF m 44 #[.val (.int p0), .unset, .unset, .unset] [(.int (6 : Int32)), (.ref b1), (.ref b1)])) _
    refine st33 _ ?_
    show Steps p.tables e below (T33.setTop (mkF m 47 #[.val (.int p0), .unset, .unset, .unset] [(.ref (W 6)), (.int (6 : Int32)), (.ref b1), (.ref b1)])) _
    refine st36 _ ?_
    show Steps p.tables e below (T36.setTop (mkF m 48 #[.val (.int p0), .unset, .unset, .unset] [(.ref b1)])) _
    refine XS.dup X36.here hx rfl (hb hby at_48) rfl rfl ?_
    show Steps p.tables e below (T36.setTop (mkF m 49 #[.val (.int p0), .unset, .unset, .unset] [(.ref b1), (.ref b1)])) _
    refine XS.bipush X36.here hx rfl (hb hby at_49) ?_
    show Steps p.tables e below (T36.setTop (mkF m 51 #[.val (.int p0), .unset, .unset, .unset] [(.int (7 : Int32)), (.ref b1), (.ref b1)])) _
    refine st38 _ ?_
    show Steps p.tables e below (T38.setTop (mkF m 54 #[.val (.int p0), .unset, .unset, .unset] [(.ref (W 7)), (.int (7 : Int32)), (.ref b1), (.ref b1)])) _
    refine st41 _ ?_
    show Steps p.tables e below (T41.setTop (mkF m 55 #[.val (.int p0), .unset, .unset, .unset] [(.ref b1)])) _
    refine XS.dup X41.here hx rfl (hb hby at_55) rfl rfl ?_
    show Steps p.tables e below (T41.setTop (mkF m 56 #[.val (.int p0), .unset, .unset, .unset] [(.ref b1), (.ref b1)])) _
    refine XS.bipush X41.here hx rfl (hb hby at_56) ?_
    show Steps p.tables e below (T41.setTop (mkF m 58 #[.val (.int p0), .unset, .unset, .unset] [(.int (8 : Int32)), (.ref b1), (.ref b1)])) _
    refine st43 _ ?_
    show Steps p.tables e below (T43.setTop (mkF m 61 #[.val (.int p0), .unset, .unset, .unset] [(.ref (W 8)), (.int (8 : Int32)), (.ref b1), (.ref b1)])) _
    refine st46 _ ?_
    show Steps p.tables e below (T46.setTop (mkF m 62 #[.val (.int p0), .unset, .unset, .unset] [(.ref b1)])) _
    refine XS.dup X46.here hx rfl (hb hby at_62) rfl rfl ?_
    show Steps p.tables e below (T46.setTop (mkF m 63 #[.val (.int p0), .unset, .unset, .unset] [(.ref b1), (.ref b1)])) _
    refine XS.bipush X46.here hx rfl (hb hby at_63) ?_
    show Steps p.tables e below (T46.setTop (mkF m 65 #[.val (.int p0), .unset, .unset, .unset] [(.int (9 : Int32)), (.ref b1), (.ref b1)])) _
    refine st48 _ ?_
    show Steps p.tables e below (T48.setTop (mkF m 68 #[.val (.int p0), .unset, .unset, .unset] [(.ref (W 9)), (.int (9 : Int32)), (.ref b1), (.ref b1)])) _
    refine st51 _ ?_
    show Steps p.tables e below (T51.setTop (mkF m 69 #[.val (.int p0), .unset, .unset, .unset] [(.ref b1)])) _
    refine XS.dup X51.here hx rfl (hb hby at_69) rfl rfl ?_
    show Steps p.tables e below (T51.setTop (mkF m 70 #[.val (.int p0), .unset, .unset, .unset] [(.ref b1), (.ref b1)])) _
    refine XS.bipush X51.here hx rfl (hb hby at_70) ?_
    show Steps p.tables e below (T51.setTop (mkF m 72 #[.val (.int p0), .unset, .unset, .unset] [(.int (10 : Int32)), (.ref b1), (.ref b1)])) _
    refine st53 _ ?_
    show Steps p.tables e below (T53.setTop (mkF m 75 #[.val (.int p0), .unset, .unset, .unset] [(.ref (W 10)), (.int (10 : Int32)), (.ref b1), (.ref b1)])) _
    refine st56 _ ?_
    show Steps p.tables e below (T56.setTop (mkF m 76 #[.val (.int p0), .unset, .unset, .unset] [(.ref b1)])) _
    refine XS.dup X56.here hx rfl (hb hby at_76) rfl rfl ?_
    show Steps p.tables e below (T56.setTop (mkF m 77 #[.val (.int p0), .unset, .unset, .unset] [(.ref b1), (.ref b1)])) _
    refine XS.bipush X56.here hx rfl (hb hby at_77) ?_
    show Steps p.tables e below (T56.setTop (mkF m 79 #[.val (.int p0), .unset, .unset, .unset] [(.int (11 : Int32)), (.ref b1), (.ref b1)])) _
    refine st58 _ ?_
    show Steps p.tables e below (T58.setTop (mkF m 82 #[.val (.int p0), .unset, .unset, .unset] [(.ref (W 11)), (.int (11 : Int32)), (.ref b1), (.ref b1)])) _
    refine st61 _ ?_
    show Steps p.tables e below (T61.setTop (mkF m 83 #[.val (.int p0), .unset, .unset, .unset] [(.ref b1)])) _
    refine XS.dup X61.here hx rfl (hb hby at_83) rfl rfl ?_
    show Steps p.tables e below (T61.setTop (mkF m 84 #[.val (.int p0), .unset, .unset, .unset] [(.ref b1), (.ref b1)])) _
    refine XS.bipush X61.here hx rfl (hb hby at_84) ?_
    show Steps p.tables e below (T61.setTop (mkF m 86 #[.val (.int p0), .unset, .unset, .unset] [(.int (12 : Int32)), (.ref b1), (.ref b1)])) _
    refine st63 _ ?_
    show Steps p.tables e below (T63.setTop (mkF m 89 #[.val (.int p0), .unset, .unset, .unset] [(.ref (W 12)), (.int (12 : Int32)), (.ref b1), (.ref b1)])) _
    refine st66 _ ?_
    show Steps p.tables e below (T66.setTop (mkF m 90 #[.val (.int p0), .unset, .unset, .unset] [(.ref b1)])) _
    refine XS.dup X66.here hx rfl (hb hby at_90) rfl rfl ?_
    show Steps p.tables e below (T66.setTop (mkF m 91 #[.val (.int p0), .unset, .unset, .unset] [(.ref b1), (.ref b1)])) _
    refine XS.bipush X66.here hx rfl (hb hby at_91) ?_
    show Steps p.tables e below (T66.setTop (mkF m 93 #[.val (.int p0), .unset, .unset, .unset] [(.int (13 : Int32)), (.ref b1), (.ref b1)])) _
    refine st68 _ ?_
    show Steps p.tables e below (T68.setTop (mkF m 96 #[.val (.int p0), .unset, .unset, .unset] [(.ref (W 13)), (.int (13 : Int32)), (.ref b1), (.ref b1)])) _
    refine st71 _ ?_
    show Steps p.tables e below (T71.setTop (mkF m 97 #[.val (.int p0), .unset, .unset, .unset] [(.ref b1)])) _
    refine XS.dup X71.here hx rfl (hb hby at_97) rfl rfl ?_
    show Steps p.tables e below (T71.setTop (mkF m 98 #[.val (.int p0), .unset, .unset, .unset] [(.ref b1), (.ref b1)])) _
    refine XS.bipush X71.here hx rfl (hb hby at_98) ?_
    show Steps p.tables e below (T71.setTop (mkF m 100 #[.val (.int p0), .unset, .unset, .unset] [(.int (14 : Int32)), (.ref b1), (.ref b1)])) _
    refine st73 _ ?_
    show Steps p.tables e below (T73.setTop (mkF m 103 #[.val (.int p0), .unset, .unset, .unset] [(.ref (W 14)), (.int (14 : Int32)), (.ref b1), (.ref b1)])) _
    refine st76 _ ?_
    show Steps p.tables e below (T76.setTop (mkF m 104 #[.val (.int p0), .unset, .unset, .unset] [(.ref b1)])) _
    refine XS.dup X76.here hx rfl (hb hby at_104) rfl rfl ?_
    show Steps p.tables e below (T76.setTop (mkF m 105 #[.val (.int p0), .unset, .unset, .unset] [(.ref b1), (.ref b1)])) _
    refine XS.bipush X76.here hx rfl (hb hby at_105) ?_
    show Steps p.tables e below (T76.setTop (mkF m 107 #[.val (.int p0), .unset, .unset, .unset] [(.int (15 : Int32)), (.ref b1), (.ref b1)])) _
    refine st78 _ ?_
    show Steps p.tables e below (T78.setTop (mkF m 110 #[.val (.int p0), .unset, .unset, .unset] [(.ref (W 15)), (.int (15 : Int32)), (.ref b1), (.ref b1)])) _
    refine st81 _ ?_
    show Steps p.tables e below (T81.setTop (mkF m 111 #[.val (.int p0), .unset, .unset, .unset] [(.ref b1)])) _
    refine XS.dup X81.here hx rfl (hb hby at_111) rfl rfl ?_
    show Steps p.tables e below (T81.setTop (mkF m 112 #[.val (.int p0), .unset, .unset, .unset] [(.ref b1), (.ref b1)])) _
    refine XS.bipush X81.here hx rfl (hb hby at_112) ?_
    show Steps p.tables e below (T81.setTop (mkF m 114 #[.val (.int p0), .unset, .unset, .unset] [(.int (16 : Int32)), (.ref b1), (.ref b1)])) _
    refine st83 _ ?_
    show Steps p.tables e below (T83.setTop (mkF m 117 #[.val (.int p0), .unset, .unset, .unset] [(.ref (W 16)), (.int (16 : Int32)), (.ref b1), (.ref b1)])) _
    refine st86 _ ?_
    show Steps p.tables e below (T86.setTop (mkF m 118 #[.val (.int p0), .unset, .unset, .unset] [(.ref b1)])) _
    refine XS.dup X86.here hx rfl (hb hby at_118) rfl rfl ?_
    show Steps p.tables e below (T86.setTop (mkF m 119 #[.val (.int p0), .unset, .unset, .unset] [(.ref b1), (.ref b1)])) _
    refine XS.bipush X86.here hx rfl (hb hby at_119) ?_
    show Steps p.tables e below (T86.setTop (mkF m 121 #[.val (.int p0), .unset, .unset, .unset] [(.int (17 : Int32)), (.ref b1), (.ref b1)])) _
    refine st88 _ ?_
    show Steps p.tables e below (T88.setTop (mkF m 124 #[.val (.int p0), .unset, .unset, .unset] [(.ref (W 17)), (.int (17 : Int32)), (.ref b1), (.ref b1)])) _
    refine st91 _ ?_
    show Steps p.tables e below (T91.setTop (mkF m 125 #[.val (.int p0), .unset, .unset, .unset] [(.ref b1)])) _
    refine XS.dup X91.here hx rfl (hb hby at_125) rfl rfl ?_
    show Steps p.tables e below (T91.setTop (mkF m 126 #[.val (.int p0), .unset, .unset, .unset] [(.ref b1), (.ref b1)])) _
    refine XS.bipush X91.here hx rfl (hb hby at_126) ?_
    show Steps p.tables e below (T91.setTop (mkF m 128 #[.val (.int p0), .unset, .unset, .unset] [(.int (18 : Int32)), (.ref b1), (.ref b1)])) _
    refine st93 _ ?_
    show Steps p.tables e below (T93.setTop (mkF m 131 #[.val (.int p0), .unset, .unset, .unset] [(.ref (W 18)), (.int (18 : Int32)), (.ref b1), (.ref b1)])) _
    refine st96 _ ?_
    show Steps p.tables e below (T96.setTop (mkF m 132 #[.val (.int p0), .unset, .unset, .unset] [(.ref b1)])) _
    refine XS.dup X96.here hx rfl (hb hby at_132) rfl rfl ?_
    show Steps p.tables e below (T96.setTop (mkF m 133 #[.val (.int p0), .unset, .unset, .unset] [(.ref b1), (.ref b1)])) _
    refine XS.bipush X96.here hx rfl (hb hby at_133) ?_
    show Steps p.tables e below (T96.setTop (mkF m 135 #[.val (.int p0), .unset, .unset, .unset] [(.int (19 : Int32)), (.ref b1), (.ref b1)])) _
    refine st98 _ ?_
    show Steps p.tables e below (T98.setTop (mkF m 138 #[.val (.int p0), .unset, .unset, .unset] [(.ref (W 19)), (.int (19 : Int32)), (.ref b1), (.ref b1)])) _
    refine st101 _ ?_
    show Steps p.tables e below (T101.setTop (mkF m 139 #[.val (.int p0), .unset, .unset, .unset] [(.ref b1)])) _
    refine XS.dup X101.here hx rfl (hb hby at_139) rfl rfl ?_
    show Steps p.tables e below (T101.setTop (mkF m 140 #[.val (.int p0), .unset, .unset, .unset] [(.ref b1), (.ref b1)])) _
    refine XS.bipush X101.here hx rfl (hb hby at_140) ?_
    show Steps p.tables e below (T101.setTop (mkF m 142 #[.val (.int p0), .unset, .unset, .unset] [(.int (20 : Int32)), (.ref b1), (.ref b1)])) _
    refine st103 _ ?_
    show Steps p.tables e below (T103.setTop (mkF m 145 #[.val (.int p0), .unset, .unset, .unset] [(.ref (W 20)), (.int (20 : Int32)), (.ref b1), (.ref b1)])) _
    refine st106 _ ?_
    show Steps p.tables e below (T106.setTop (mkF m 146 #[.val (.int p0), .unset, .unset, .unset] [(.ref b1)])) _
    refine XS.astoreN X106.here hx rfl (hb hby at_146) rfl rfl (l' := #[.val (.int p0), .val (.ref b1), .unset, .unset]) rfl ?_
    show Steps p.tables e below (T106.setTop (mkF m 147 #[.val (.int p0), .val (.ref b1), .unset, .unset] [])) _
    refine XS.iloadN X106.here hx rfl (hb hby at_147) rfl ?_
    show Steps p.tables e below (T106.setTop (mkF m 148 #[.val (.int p0), .val (.ref b1), .unset, .unset] [(.int p0)])) _
    refine X106.ldcInt hx hown (mvT hZ (hw _ (List.mem_of_getElem? (i := 46) rfl))) (g := (mkF m 148 #[.val (.int p0), .val (.ref b1), .unset, .unset] [(.int p0)])) rfl (hb hby at_148) _ ?_
    show Steps p.tables e below (T106.setTop (mkF m 150 #[.val (.int p0), .val (.ref b1), .unset, .unset] [(.int (2147483647 : Int32)), (.int p0)])) _
    refine XS.iand X106.here hx rfl (hb hby at_150) rfl ?_
    show Steps p.tables e below (T106.setTop (mkF m 151 #[.val (.int p0), .val (.ref b1), .unset, .unset] [(.int (p0 &&& (2147483647 : Int32)))])) _
    refine XS.bipush X106.here hx rfl (hb hby at_151) ?_
    show Steps p.tables e below (T106.setTop (mkF m 153 #[.val (.int p0), .val (.ref b1), .unset, .unset] [(.int (21 : Int32)), (.int (p0 &&& (2147483647 : Int32)))])) _
    refine iremM (g := (mkF m 153 #[.val (.int p0), .val (.ref b1), .unset, .unset] [(.int (21 : Int32)), (.int (p0 &&& (2147483647 : Int32)))])) X106 hx rfl (hb hby at_153) rfl (by decide) ?_
    show Steps p.tables e below (T106.setTop (mkF m 154 #[.val (.int p0), .val (.ref b1), .unset, .unset] [(.int ((p0 &&& (2147483647 : Int32)) % (21 : Int32)))])) _
    refine XS.istoreN X106.here hx rfl (hb hby at_154) rfl (l' := #[.val (.int p0), .val (.ref b1), .val (.int ((p0 &&& (2147483647 : Int32)) % (21 : Int32))), .unset]) rfl ?_
    show Steps p.tables e below (T106.setTop (mkF m 155 #[.val (.int p0), .val (.ref b1), .val (.int ((p0 &&& (2147483647 : Int32)) % (21 : Int32))), .unset] [])) _
    rw [hk]
    show Steps p.tables e below (T106.setTop (mkF m 155 #[.val (.int p0), .val (.ref b1), .val (.int k), .unset] [])) _
    refine XS.iloadN X106.here hx rfl (hb hby at_155) rfl ?_
    show Steps p.tables e below (T106.setTop (mkF m 156 #[.val (.int p0), .val (.ref b1), .val (.int k), .unset] [(.int k)])) _
    refine XS.bipush X106.here hx rfl (hb hby at_156) ?_
    exact kt
  by_cases hc108 : k < (8 : Int32)
  · skip
    obtain ⟨cl109, Ar109, qa109, Sa109, Na109, Ha109, Ga109⟩ := V106
    have hin109 : ¬ (k < 0 ∨ cl109.slots.size ≤ (k).toNatClampNeg) := inb_of Sa109 ⟨hk0, hk1⟩
    have hat109 := Ha109.at hin109 (v := (.ref (W k.toNatClampNeg))) (own_get W _ hlt)
    have SC_RULE_110 := ((((((((((((((((((((((SC_RULE.ext E1).wr W6).wr W11).wr W16).wr W21).wr W26).wr W31).wr W36).wr W41).wr W46).wr W51).wr W56).wr W61).wr W66).wr W71).wr W76).wr W81).wr W86).wr W91).wr W96).wr W101).wr W106)
    have SC_FACT_111 := ((((((((((((((((((((((SC_FACT.ext E1).wr W6).wr W11).wr W16).wr W21).wr W26).wr W31).wr W36).wr W41).wr W46).wr W51).wr W56).wr W61).wr W66).wr W71).wr W76).wr W81).wr W86).wr W91).wr W96).wr W101).wr W106)
    have SC_ORDER_112 := ((((((((((((((((((((((SC_ORDER.ext E1).wr W6).wr W11).wr W16).wr W21).wr W26).wr W31).wr W36).wr W41).wr W46).wr W51).wr W56).wr W61).wr W66).wr W71).wr W76).wr W81).wr W86).wr W91).wr W96).wr W101).wr W106)
    have F_a_113 := ((((((((((((((((((((((F_a.ext E1).other W6 (Or.inl ne1__W_k_toNatClampNeg_)).other W11 (Or.inl ne1__W_k_toNatClampNeg_)).other W16 (Or.inl ne1__W_k_toNatClampNeg_)).other W21 (Or.inl ne1__W_k_toNatClampNeg_)).other W26 (Or.inl ne1__W_k_toNatClampNeg_)).other W31 (Or.inl ne1__W_k_toNatClampNeg_)).other W36 (Or.inl ne1__W_k_toNatClampNeg_)).other W41 (Or.inl ne1__W_k_toNatClampNeg_)).other W46 (Or.inl ne1__W_k_toNatClampNeg_)).other W51 (Or.inl ne1__W_k_toNatClampNeg_)).other W56 (Or.inl ne1__W_k_toNatClampNeg_)).other W61 (Or.inl ne1__W_k_toNatClampNeg_)).other W66 (Or.inl ne1__W_k_toNatClampNeg_)).other W71 (Or.inl ne1__W_k_toNatClampNeg_)).other W76 (Or.inl ne1__W_k_toNatClampNeg_)).other W81 (Or.inl ne1__W_k_toNatClampNeg_)).other W86 (Or.inl ne1__W_k_toNatClampNeg_)).other W91 (Or.inl ne1__W_k_toNatClampNeg_)).other W96 (Or.inl ne1__W_k_toNatClampNeg_)).other W101 (Or.inl ne1__W_k_toNatClampNeg_)).other W106 (Or.inl ne1__W_k_toNatClampNeg_))
    have E_k_115 := ((((((((((((((((((((((E_k.ext E1).wr W6).wr W11).wr W16).wr W21).wr W26).wr W31).wr W36).wr W41).wr W46).wr W51).wr W56).wr W61).wr W66).wr W71).wr W76).wr W81).wr W86).wr W91).wr W96).wr W101).wr W106)
    obtain ⟨cq114, kq114, q114a, q114b, q114c⟩ := isOf hZ e106 E_k_115
    obtain ⟨_, _, ⟨T114, L114, k114, n114⟩, -, X114, ⟨Lc114, hQ114, l114, y114, z114⟩, st114⟩ := X106.virtualBack hx (y := (⟨"com/example/forbid_or_permit/forbidorpermit/Kind", "takesLevel", "()Z"⟩ : MethodName)) (z := (⟨"com/example/forbid_or_permit/forbidorpermit/Kind", "takesLevel", "()Z"⟩ : MethodName)) hown (mvT hZ (hw _ (List.mem_of_getElem? (i := 47) rfl))) (mvT hZ (hw _ (List.mem_of_getElem? (i := 48) rfl))) (notFace_of_selects (args := #[]) (mvT hZ (hw _ (List.mem_of_getElem? (i := 50) rfl)))) (mvT hZ (hw _ (List.mem_of_getElem? (i := 50) rfl))) (mvT hZ (hw _ (List.mem_of_getElem? (i := 49) rfl))) (by decide) (backOf (W := 0) (rm1 l Z a0 hw [] (W k.toNatClampNeg) r c0 cR cF cO h106 n0 Zs106 SC_RULE_110 SC_FACT_111 SC_ORDER_112 F_a_113 hr0) hZ (hw _ (List.mem_of_getElem? (i := 51) rfl)) (hw _ (List.mem_of_getElem? (i := 3) rfl)) (by decide) (by decide)) q114a q114c (g := (mkF m 170 #[.val (.int p0), .val (.ref b1), .val (.int k), .val (.int (1 : Int32))] [(.ref (W k.toNatClampNeg))])) rfl (by rw [hml]; rfl) (Steps.refl _) (argsL := []) (rest := []) (lenOf pd___Z rfl) rfl (by show 2 * 0 + _ ≤ _; exact Nat.le_of_eq rfl) (hb hby at_170) (fun _ _ => ⟨rfl, e106, (by decide : 1 + 0 ≤ _), (by decide : 21 + 0 ≤ _)⟩)
    dsimp only [Pt.U, Pt.locs, Pt.cells, Pt.slots] at X114 l114 y114 z114 st114 hQ114
    rw [l114, y114, z114] at X114
    obtain ⟨rfl, N114q, e114⟩ := hQ114
    have N114 := Fr.app N106 N114q
    obtain ⟨fs, hr, hrun, hended, hW, hsame⟩ := X114.leave (v := some (.int (1 : Int32))) (fun h => by rw [Bd.returns] at h; cases h)
    refine ⟨_, _, pre107 _ ?_, hrun, hended, _, _, rfl, ?_, ⟨_, rfl⟩, hW, hsame.mono (by decide) (by decide)⟩
    · skip
      show Steps p.tables e below (T106.setTop (mkF m 158 #[.val (.int p0), .val (.ref b1), .val (.int k), .unset] [(.int (8 : Int32)), (.int k)])) _
      refine XS.icmpNo X106.here hx rfl (hb hby at_158) rfl (tlt hc108).2.1 ?_
      show Steps p.tables e below (T106.setTop (mkF m 161 #[.val (.int p0), .val (.ref b1), .val (.int k), .unset] [])) _
      refine XS.iconst X106.here hx rfl (hb hby at_161) ?_
      show Steps p.tables e below (T106.setTop (mkF m 162 #[.val (.int p0), .val (.ref b1), .val (.int k), .unset] [(.int (1 : Int32))])) _
      refine XS.goto X106.here hx rfl (pc0 := 162) (pc' := 166) rfl (hb hby at_162) (by decide) (by decide) ?_
      show Steps p.tables e below (T106.setTop (mkF m 166 #[.val (.int p0), .val (.ref b1), .val (.int k), .unset] [(.int (1 : Int32))])) _
      refine XS.istoreN X106.here hx rfl (hb hby at_166) rfl (l' := #[.val (.int p0), .val (.ref b1), .val (.int k), .val (.int (1 : Int32))]) rfl ?_
      show Steps p.tables e below (T106.setTop (mkF m 167 #[.val (.int p0), .val (.ref b1), .val (.int k), .val (.int (1 : Int32))] [])) _
      refine XS.aloadN X106.here hx rfl (hb hby at_167) rfl rfl ?_
      show Steps p.tables e below (T106.setTop (mkF m 168 #[.val (.int p0), .val (.ref b1), .val (.int k), .val (.int (1 : Int32))] [(.ref b1)])) _
      refine XS.iloadN X106.here hx rfl (hb hby at_168) rfl ?_
      show Steps p.tables e below (T106.setTop (mkF m 169 #[.val (.int p0), .val (.ref b1), .val (.int k), .val (.int (1 : Int32))] [(.int k), (.ref b1)])) _
      refine X106.aaload hx (j := k) (v := (.ref (W k.toNatClampNeg))) (by rw [e106]; exact Ar109.1) (State.isArrayOf_alike hZ.alike Ar109.2.1) rfl Ar109.2.2 hin109 hat109 (g := (mkF m 169 #[.val (.int p0), .val (.ref b1), .val (.int k), .val (.int (1 : Int32))] [(.int k), (.ref b1)])) rfl rfl (hb hby at_169) _ ?_
      show Steps p.tables e below (T106.setTop (mkF m 170 #[.val (.int p0), .val (.ref b1), .val (.int k), .val (.int (1 : Int32))] [(.ref (W k.toNatClampNeg))])) _
      refine st114.trans ?_
      show Steps p.tables e below (T114.setTop (mkF m 173 #[.val (.int p0), .val (.ref b1), .val (.int k), .val (.int (1 : Int32))] [(.int r)])) _
      refine XS.iloadN X114.here hx rfl (hb hby at_173) rfl ?_
      show Steps p.tables e below (T114.setTop (mkF m 174 #[.val (.int p0), .val (.ref b1), .val (.int k), .val (.int (1 : Int32))] [(.int (1 : Int32)), (.int r)])) _
      refine XS.icmpNo X114.here hx rfl (hb hby at_174) rfl (teq (by simp [hr1, hc108])).2 ?_
      show Steps p.tables e below (T114.setTop (mkF m 177 #[.val (.int p0), .val (.ref b1), .val (.int k), .val (.int (1 : Int32))] [])) _
      refine XS.iconst X114.here hx rfl (hb hby at_177) ?_
      show Steps p.tables e below (T114.setTop (mkF m 178 #[.val (.int p0), .val (.ref b1), .val (.int k), .val (.int (1 : Int32))] [(.int (1 : Int32))])) _
      refine XS.goto X114.here hx rfl (pc0 := 178) (pc' := 182) rfl (hb hby at_178) (by decide) (by decide) ?_
      show Steps p.tables e below (T114.setTop (mkF m 182 #[.val (.int p0), .val (.ref b1), .val (.int k), .val (.int (1 : Int32))] [(.int (1 : Int32))])) _
      exact retN X114 hx (t := .boolean) Bd.returns (by simp) (hb hby at_182) hr
    · exact ⟨(by first | rfl | simp [hc108]), N114⟩
  · skip
    obtain ⟨cl116, Ar116, qa116, Sa116, Na116, Ha116, Ga116⟩ := V106
    have hin116 : ¬ (k < 0 ∨ cl116.slots.size ≤ (k).toNatClampNeg) := inb_of Sa116 ⟨hk0, hk1⟩
    have hat116 := Ha116.at hin116 (v := (.ref (W k.toNatClampNeg))) (own_get W _ hlt)
    have SC_RULE_117 := ((((((((((((((((((((((SC_RULE.ext E1).wr W6).wr W11).wr W16).wr W21).wr W26).wr W31).wr W36).wr W41).wr W46).wr W51).wr W56).wr W61).wr W66).wr W71).wr W76).wr W81).wr W86).wr W91).wr W96).wr W101).wr W106)
    have SC_FACT_118 := ((((((((((((((((((((((SC_FACT.ext E1).wr W6).wr W11).wr W16).wr W21).wr W26).wr W31).wr W36).wr W41).wr W46).wr W51).wr W56).wr W61).wr W66).wr W71).wr W76).wr W81).wr W86).wr W91).wr W96).wr W101).wr W106)
    have SC_ORDER_119 := ((((((((((((((((((((((SC_ORDER.ext E1).wr W6).wr W11).wr W16).wr W21).wr W26).wr W31).wr W36).wr W41).wr W46).wr W51).wr W56).wr W61).wr W66).wr W71).wr W76).wr W81).wr W86).wr W91).wr W96).wr W101).wr W106)
    have F_a_120 := ((((((((((((((((((((((F_a.ext E1).other W6 (Or.inl ne1__W_k_toNatClampNeg_)).other W11 (Or.inl ne1__W_k_toNatClampNeg_)).other W16 (Or.inl ne1__W_k_toNatClampNeg_)).other W21 (Or.inl ne1__W_k_toNatClampNeg_)).other W26 (Or.inl ne1__W_k_toNatClampNeg_)).other W31 (Or.inl ne1__W_k_toNatClampNeg_)).other W36 (Or.inl ne1__W_k_toNatClampNeg_)).other W41 (Or.inl ne1__W_k_toNatClampNeg_)).other W46 (Or.inl ne1__W_k_toNatClampNeg_)).other W51 (Or.inl ne1__W_k_toNatClampNeg_)).other W56 (Or.inl ne1__W_k_toNatClampNeg_)).other W61 (Or.inl ne1__W_k_toNatClampNeg_)).other W66 (Or.inl ne1__W_k_toNatClampNeg_)).other W71 (Or.inl ne1__W_k_toNatClampNeg_)).other W76 (Or.inl ne1__W_k_toNatClampNeg_)).other W81 (Or.inl ne1__W_k_toNatClampNeg_)).other W86 (Or.inl ne1__W_k_toNatClampNeg_)).other W91 (Or.inl ne1__W_k_toNatClampNeg_)).other W96 (Or.inl ne1__W_k_toNatClampNeg_)).other W101 (Or.inl ne1__W_k_toNatClampNeg_)).other W106 (Or.inl ne1__W_k_toNatClampNeg_))
    have E_k_122 := ((((((((((((((((((((((E_k.ext E1).wr W6).wr W11).wr W16).wr W21).wr W26).wr W31).wr W36).wr W41).wr W46).wr W51).wr W56).wr W61).wr W66).wr W71).wr W76).wr W81).wr W86).wr W91).wr W96).wr W101).wr W106)
    obtain ⟨cq121, kq121, q121a, q121b, q121c⟩ := isOf hZ e106 E_k_122
    obtain ⟨_, _, ⟨T121, L121, k121, n121⟩, -, X121, ⟨Lc121, hQ121, l121, y121, z121⟩, st121⟩ := X106.virtualBack hx (y := (⟨"com/example/forbid_or_permit/forbidorpermit/Kind", "takesLevel", "()Z"⟩ : MethodName)) (z := (⟨"com/example/forbid_or_permit/forbidorpermit/Kind", "takesLevel", "()Z"⟩ : MethodName)) hown (mvT hZ (hw _ (List.mem_of_getElem? (i := 47) rfl))) (mvT hZ (hw _ (List.mem_of_getElem? (i := 48) rfl))) (notFace_of_selects (args := #[]) (mvT hZ (hw _ (List.mem_of_getElem? (i := 50) rfl)))) (mvT hZ (hw _ (List.mem_of_getElem? (i := 50) rfl))) (mvT hZ (hw _ (List.mem_of_getElem? (i := 49) rfl))) (by decide) (backOf (W := 0) (rm1 l Z a0 hw [] (W k.toNatClampNeg) r c0 cR cF cO h106 n0 Zs106 SC_RULE_117 SC_FACT_118 SC_ORDER_119 F_a_120 hr0) hZ (hw _ (List.mem_of_getElem? (i := 51) rfl)) (hw _ (List.mem_of_getElem? (i := 3) rfl)) (by decide) (by decide)) q121a q121c (g := (mkF m 170 #[.val (.int p0), .val (.ref b1), .val (.int k), .val (.int (0 : Int32))] [(.ref (W k.toNatClampNeg))])) rfl (by rw [hml]; rfl) (Steps.refl _) (argsL := []) (rest := []) (lenOf pd___Z rfl) rfl (by show 2 * 0 + _ ≤ _; exact Nat.le_of_eq rfl) (hb hby at_170) (fun _ _ => ⟨rfl, e106, (by decide : 1 + 0 ≤ _), (by decide : 21 + 0 ≤ _)⟩)
    dsimp only [Pt.U, Pt.locs, Pt.cells, Pt.slots] at X121 l121 y121 z121 st121 hQ121
    rw [l121, y121, z121] at X121
    obtain ⟨rfl, N121q, e121⟩ := hQ121
    have N121 := Fr.app N106 N121q
    obtain ⟨fs, hr, hrun, hended, hW, hsame⟩ := X121.leave (v := some (.int (1 : Int32))) (fun h => by rw [Bd.returns] at h; cases h)
    refine ⟨_, _, pre107 _ ?_, hrun, hended, _, _, rfl, ?_, ⟨_, rfl⟩, hW, hsame.mono (by decide) (by decide)⟩
    · skip
      show Steps p.tables e below (T106.setTop (mkF m 158 #[.val (.int p0), .val (.ref b1), .val (.int k), .unset] [(.int (8 : Int32)), (.int k)])) _
      refine XS.icmpYes X106.here hx rfl (pc0 := 158) (pc' := 165) rfl (hb hby at_158) rfl (flt hc108).2.1 (by decide) (by decide) ?_
      show Steps p.tables e below (T106.setTop (mkF m 165 #[.val (.int p0), .val (.ref b1), .val (.int k), .unset] [])) _
      refine XS.iconst X106.here hx rfl (hb hby at_165) ?_
      show Steps p.tables e below (T106.setTop (mkF m 166 #[.val (.int p0), .val (.ref b1), .val (.int k), .unset] [(.int (0 : Int32))])) _
      refine XS.istoreN X106.here hx rfl (hb hby at_166) rfl (l' := #[.val (.int p0), .val (.ref b1), .val (.int k), .val (.int (0 : Int32))]) rfl ?_
      show Steps p.tables e below (T106.setTop (mkF m 167 #[.val (.int p0), .val (.ref b1), .val (.int k), .val (.int (0 : Int32))] [])) _
      refine XS.aloadN X106.here hx rfl (hb hby at_167) rfl rfl ?_
      show Steps p.tables e below (T106.setTop (mkF m 168 #[.val (.int p0), .val (.ref b1), .val (.int k), .val (.int (0 : Int32))] [(.ref b1)])) _
      refine XS.iloadN X106.here hx rfl (hb hby at_168) rfl ?_
      show Steps p.tables e below (T106.setTop (mkF m 169 #[.val (.int p0), .val (.ref b1), .val (.int k), .val (.int (0 : Int32))] [(.int k), (.ref b1)])) _
      refine X106.aaload hx (j := k) (v := (.ref (W k.toNatClampNeg))) (by rw [e106]; exact Ar116.1) (State.isArrayOf_alike hZ.alike Ar116.2.1) rfl Ar116.2.2 hin116 hat116 (g := (mkF m 169 #[.val (.int p0), .val (.ref b1), .val (.int k), .val (.int (0 : Int32))] [(.int k), (.ref b1)])) rfl rfl (hb hby at_169) _ ?_
      show Steps p.tables e below (T106.setTop (mkF m 170 #[.val (.int p0), .val (.ref b1), .val (.int k), .val (.int (0 : Int32))] [(.ref (W k.toNatClampNeg))])) _
      refine st121.trans ?_
      show Steps p.tables e below (T121.setTop (mkF m 173 #[.val (.int p0), .val (.ref b1), .val (.int k), .val (.int (0 : Int32))] [(.int r)])) _
      refine XS.iloadN X121.here hx rfl (hb hby at_173) rfl ?_
      show Steps p.tables e below (T121.setTop (mkF m 174 #[.val (.int p0), .val (.ref b1), .val (.int k), .val (.int (0 : Int32))] [(.int (0 : Int32)), (.int r)])) _
      refine XS.icmpNo X121.here hx rfl (hb hby at_174) rfl (teq (by simp [hr1, hc108])).2 ?_
      show Steps p.tables e below (T121.setTop (mkF m 177 #[.val (.int p0), .val (.ref b1), .val (.int k), .val (.int (0 : Int32))] [])) _
      refine XS.iconst X121.here hx rfl (hb hby at_177) ?_
      show Steps p.tables e below (T121.setTop (mkF m 178 #[.val (.int p0), .val (.ref b1), .val (.int k), .val (.int (0 : Int32))] [(.int (1 : Int32))])) _
      refine XS.goto X121.here hx rfl (pc0 := 178) (pc' := 182) rfl (hb hby at_178) (by decide) (by decide) ?_
      show Steps p.tables e below (T121.setTop (mkF m 182 #[.val (.int p0), .val (.ref b1), .val (.int k), .val (.int (0 : Int32))] [(.int (1 : Int32))])) _
      exact retN X121 hx (t := .boolean) Bd.returns (by simp) (hb hby at_182) hr
    · exact ⟨(by first | rfl | simp [hc108]), N121⟩
set_option maxRecDepth 65536 in
set_option maxHeartbeats 40000000 in
theorem comes_1 {Post : Tables → Env → Array Value → State → Outcome → State → Prop} (hpost : ∀ tb e args s v u, (limb_1_1.after args s (.returned v) u = true ∧ limb_1_2.after args s (.returned v) u = true ∧ True) → FrameEnd s (.returned v) u (Jvm.fieldLocs frame_1_writes args s ++ Jvm.arrayLocs frame_1_arrays args s ++ Jvm.staticLocs frame_1_statics s) 16 128 → Post tb e args s (.returned v) u) :
    ArmFor flags0 classFile x code maxLocals ret World_1 tables_1 room_1 Calls_1 rest_1 Pre_1 Post := by
  intro l hfl _ _ p e ha hcas hclk s m args below hf hA hF happ hP
  obtain ⟨hcalls, hrest, hpre⟩ := hP
  obtain ⟨-, -, -, hnamed, -, -, -, hat⟩ := (Spec.applies_iff hf).mp happ
  obtain ⟨hg, hn⟩ := and_e (Cond.before_iff.mp (show (Jvm.Cond.and given_1 narrow_1).before args s = true from hpre))
  obtain ⟨g0, hg⟩ := and_e hg
  have g1 := hg
  obtain ⟨w0, rfl⟩ : ∃ w0 : Value, args = #[w0] := by
    have hs : args.size = 1 := by simpa [Cond.value, given_1] using g0
    obtain ⟨L⟩ := args
    match L, hs with
    | [w0], _ => exact ⟨w0, rfl⟩
  have hw := fun d (hd : d ∈ tables_1) => atoms_spec (ws := Jvm.Cond.code x code maxLocals ret :: tables_1) hat d (List.mem_cons_of_mem _ hd)
  have hfit : Fit s := fun {y c} hc i hi => by
    obtain ⟨ha, rfl⟩ := Array.getElem?_eq_some_iff.mp hc
    have q := List.all_eq_true.mp ((Array.all_eq_true_iff_forall_mem.mp hF) _ (Array.getElem_mem ha)) i (List.mem_range.mpr hi)
    simpa [Array.getElem?_eq_getElem hi] using q
  obtain ⟨i0, ei0⟩ := is_v g1
  obtain rfl : w0 = (.int i0) := Option.some.inj ei0
  obtain ⟨m0, hn⟩ := and_e hn
  obtain ⟨m1, hn⟩ := and_e hn
  obtain ⟨m2, hn⟩ := and_e hn
  obtain ⟨m3, hn⟩ := and_e hn
  obtain ⟨m4, hn⟩ := and_e hn
  obtain ⟨m5, hn⟩ := and_e hn
  obtain ⟨m6, hn⟩ := and_e hn
  obtain ⟨m7, hn⟩ := and_e hn
  obtain ⟨m8, hn⟩ := and_e hn
  obtain ⟨m9, hn⟩ := and_e hn
  obtain ⟨m10, hn⟩ := and_e hn
  obtain ⟨m11, hn⟩ := and_e hn
  obtain ⟨m12, hn⟩ := and_e hn
  obtain ⟨m13, hn⟩ := and_e hn
  obtain ⟨m14, hn⟩ := and_e hn
  obtain ⟨m15, hn⟩ := and_e hn
  obtain ⟨m16, hn⟩ := and_e hn
  obtain ⟨m17, hn⟩ := and_e hn
  obtain ⟨m18, hn⟩ := and_e hn
  obtain ⟨m19, hn⟩ := and_e hn
  obtain ⟨m20, hn⟩ := and_e hn
  obtain ⟨m21, hn⟩ := and_e hn
  obtain ⟨m22, hn⟩ := and_e hn
  obtain ⟨m23, hn⟩ := and_e hn
  obtain ⟨m24, hn⟩ := and_e hn
  obtain ⟨m25, hn⟩ := and_e hn
  obtain ⟨m26, hn⟩ := and_e hn
  obtain ⟨m27, hn⟩ := and_e hn
  obtain ⟨m28, hn⟩ := and_e hn
  obtain ⟨m29, hn⟩ := and_e hn
  obtain ⟨m30, hn⟩ := and_e hn
  obtain ⟨m31, hn⟩ := and_e hn
  obtain ⟨m32, hn⟩ := and_e hn
  obtain ⟨m33, hn⟩ := and_e hn
  obtain ⟨m34, hn⟩ := and_e hn
  obtain ⟨m35, hn⟩ := and_e hn
  obtain ⟨m36, hn⟩ := and_e hn
  obtain ⟨m37, hn⟩ := and_e hn
  obtain ⟨m38, hn⟩ := and_e hn
  obtain ⟨m39, hn⟩ := and_e hn
  obtain ⟨m40, hn⟩ := and_e hn
  obtain ⟨m41, hn⟩ := and_e hn
  obtain ⟨m42, hn⟩ := and_e hn
  obtain ⟨m43, hn⟩ := and_e hn
  obtain ⟨m44, hn⟩ := and_e hn
  obtain ⟨m45, hn⟩ := and_e hn
  obtain ⟨m46, hn⟩ := and_e hn
  obtain ⟨m47, hn⟩ := and_e hn
  obtain ⟨m48, hn⟩ := and_e hn
  obtain ⟨m49, hn⟩ := and_e hn
  obtain ⟨m50, hn⟩ := and_e hn
  obtain ⟨m51, hn⟩ := and_e hn
  obtain ⟨m52, hn⟩ := and_e hn
  have m53 := hn
  obtain ⟨w_Kind_PERMISSION, ev_Kind_PERMISSION⟩ := exa_v m0
  have E_Kind_PERMISSION := Exa.start ev_Kind_PERMISSION m0
  have S_Kind_PERMISSION := Sta.start ev_Kind_PERMISSION (Or.inr ⟨(hw _ (List.mem_of_getElem? (i := 3) rfl)), (hw _ (List.mem_of_getElem? (i := 4) rfl))⟩)
  obtain ⟨w_Kind_PROHIBITION, ev_Kind_PROHIBITION⟩ := exa_v m1
  have E_Kind_PROHIBITION := Exa.start ev_Kind_PROHIBITION m1
  have S_Kind_PROHIBITION := Sta.start ev_Kind_PROHIBITION (Or.inr ⟨(hw _ (List.mem_of_getElem? (i := 3) rfl)), (hw _ (List.mem_of_getElem? (i := 7) rfl))⟩)
  obtain ⟨w_Kind_EMPLOY, ev_Kind_EMPLOY⟩ := exa_v m2
  have E_Kind_EMPLOY := Exa.start ev_Kind_EMPLOY m2
  have S_Kind_EMPLOY := Sta.start ev_Kind_EMPLOY (Or.inr ⟨(hw _ (List.mem_of_getElem? (i := 3) rfl)), (hw _ (List.mem_of_getElem? (i := 9) rfl))⟩)
  obtain ⟨w_Kind_USE, ev_Kind_USE⟩ := exa_v m3
  have E_Kind_USE := Exa.start ev_Kind_USE m3
  have S_Kind_USE := Sta.start ev_Kind_USE (Or.inr ⟨(hw _ (List.mem_of_getElem? (i := 3) rfl)), (hw _ (List.mem_of_getElem? (i := 11) rfl))⟩)
  obtain ⟨w_Kind_CONSIDER, ev_Kind_CONSIDER⟩ := exa_v m4
  have E_Kind_CONSIDER := Exa.start ev_Kind_CONSIDER m4
  have S_Kind_CONSIDER := Sta.start ev_Kind_CONSIDER (Or.inr ⟨(hw _ (List.mem_of_getElem? (i := 3) rfl)), (hw _ (List.mem_of_getElem? (i := 13) rfl))⟩)
  obtain ⟨w_Kind_DEFINE, ev_Kind_DEFINE⟩ := exa_v m5
  have E_Kind_DEFINE := Exa.start ev_Kind_DEFINE m5
  have S_Kind_DEFINE := Sta.start ev_Kind_DEFINE (Or.inr ⟨(hw _ (List.mem_of_getElem? (i := 3) rfl)), (hw _ (List.mem_of_getElem? (i := 15) rfl))⟩)
  obtain ⟨w_Kind_HOLDS, ev_Kind_HOLDS⟩ := exa_v m6
  have E_Kind_HOLDS := Exa.start ev_Kind_HOLDS m6
  have S_Kind_HOLDS := Sta.start ev_Kind_HOLDS (Or.inr ⟨(hw _ (List.mem_of_getElem? (i := 3) rfl)), (hw _ (List.mem_of_getElem? (i := 17) rfl))⟩)
  obtain ⟨w_Kind_ORDER, ev_Kind_ORDER⟩ := exa_v m7
  have E_Kind_ORDER := Exa.start ev_Kind_ORDER m7
  have S_Kind_ORDER := Sta.start ev_Kind_ORDER (Or.inr ⟨(hw _ (List.mem_of_getElem? (i := 3) rfl)), (hw _ (List.mem_of_getElem? (i := 19) rfl))⟩)
  obtain ⟨w_Kind_SUB_ORGANISATION, ev_Kind_SUB_ORGANISATION⟩ := exa_v m8
  have E_Kind_SUB_ORGANISATION := Exa.start ev_Kind_SUB_ORGANISATION m8
  have S_Kind_SUB_ORGANISATION := Sta.start ev_Kind_SUB_ORGANISATION (Or.inr ⟨(hw _ (List.mem_of_getElem? (i := 3) rfl)), (hw _ (List.mem_of_getElem? (i := 21) rfl))⟩)
  obtain ⟨w_Kind_SUB_ROLE, ev_Kind_SUB_ROLE⟩ := exa_v m9
  have E_Kind_SUB_ROLE := Exa.start ev_Kind_SUB_ROLE m9
  have S_Kind_SUB_ROLE := Sta.start ev_Kind_SUB_ROLE (Or.inr ⟨(hw _ (List.mem_of_getElem? (i := 3) rfl)), (hw _ (List.mem_of_getElem? (i := 23) rfl))⟩)
  obtain ⟨w_Kind_SUB_VIEW, ev_Kind_SUB_VIEW⟩ := exa_v m10
  have E_Kind_SUB_VIEW := Exa.start ev_Kind_SUB_VIEW m10
  have S_Kind_SUB_VIEW := Sta.start ev_Kind_SUB_VIEW (Or.inr ⟨(hw _ (List.mem_of_getElem? (i := 3) rfl)), (hw _ (List.mem_of_getElem? (i := 25) rfl))⟩)
  obtain ⟨w_Kind_SUB_ACTIVITY, ev_Kind_SUB_ACTIVITY⟩ := exa_v m11
  have E_Kind_SUB_ACTIVITY := Exa.start ev_Kind_SUB_ACTIVITY m11
  have S_Kind_SUB_ACTIVITY := Sta.start ev_Kind_SUB_ACTIVITY (Or.inr ⟨(hw _ (List.mem_of_getElem? (i := 3) rfl)), (hw _ (List.mem_of_getElem? (i := 27) rfl))⟩)
  obtain ⟨w_Kind_SUB_CONTEXT, ev_Kind_SUB_CONTEXT⟩ := exa_v m12
  have E_Kind_SUB_CONTEXT := Exa.start ev_Kind_SUB_CONTEXT m12
  have S_Kind_SUB_CONTEXT := Sta.start ev_Kind_SUB_CONTEXT (Or.inr ⟨(hw _ (List.mem_of_getElem? (i := 3) rfl)), (hw _ (List.mem_of_getElem? (i := 29) rfl))⟩)
  obtain ⟨w_Kind_PREFER_ROLE, ev_Kind_PREFER_ROLE⟩ := exa_v m13
  have E_Kind_PREFER_ROLE := Exa.start ev_Kind_PREFER_ROLE m13
  have S_Kind_PREFER_ROLE := Sta.start ev_Kind_PREFER_ROLE (Or.inr ⟨(hw _ (List.mem_of_getElem? (i := 3) rfl)), (hw _ (List.mem_of_getElem? (i := 31) rfl))⟩)
  obtain ⟨w_Kind_PREFER_CONTEXT, ev_Kind_PREFER_CONTEXT⟩ := exa_v m14
  have E_Kind_PREFER_CONTEXT := Exa.start ev_Kind_PREFER_CONTEXT m14
  have S_Kind_PREFER_CONTEXT := Sta.start ev_Kind_PREFER_CONTEXT (Or.inr ⟨(hw _ (List.mem_of_getElem? (i := 3) rfl)), (hw _ (List.mem_of_getElem? (i := 33) rfl))⟩)
  obtain ⟨w_Kind_PREFER_VIEW, ev_Kind_PREFER_VIEW⟩ := exa_v m15
  have E_Kind_PREFER_VIEW := Exa.start ev_Kind_PREFER_VIEW m15
  have S_Kind_PREFER_VIEW := Sta.start ev_Kind_PREFER_VIEW (Or.inr ⟨(hw _ (List.mem_of_getElem? (i := 3) rfl)), (hw _ (List.mem_of_getElem? (i := 35) rfl))⟩)
  obtain ⟨w_Kind_PREFER_ACTIVITY, ev_Kind_PREFER_ACTIVITY⟩ := exa_v m16
  have E_Kind_PREFER_ACTIVITY := Exa.start ev_Kind_PREFER_ACTIVITY m16
  have S_Kind_PREFER_ACTIVITY := Sta.start ev_Kind_PREFER_ACTIVITY (Or.inr ⟨(hw _ (List.mem_of_getElem? (i := 3) rfl)), (hw _ (List.mem_of_getElem? (i := 37) rfl))⟩)
  obtain ⟨w_Kind_SEPARATED_ROLE, ev_Kind_SEPARATED_ROLE⟩ := exa_v m17
  have E_Kind_SEPARATED_ROLE := Exa.start ev_Kind_SEPARATED_ROLE m17
  have S_Kind_SEPARATED_ROLE := Sta.start ev_Kind_SEPARATED_ROLE (Or.inr ⟨(hw _ (List.mem_of_getElem? (i := 3) rfl)), (hw _ (List.mem_of_getElem? (i := 39) rfl))⟩)
  obtain ⟨w_Kind_SEPARATED_VIEW, ev_Kind_SEPARATED_VIEW⟩ := exa_v m18
  have E_Kind_SEPARATED_VIEW := Exa.start ev_Kind_SEPARATED_VIEW m18
  have S_Kind_SEPARATED_VIEW := Sta.start ev_Kind_SEPARATED_VIEW (Or.inr ⟨(hw _ (List.mem_of_getElem? (i := 3) rfl)), (hw _ (List.mem_of_getElem? (i := 41) rfl))⟩)
  obtain ⟨w_Kind_SEPARATED_ACTIVITY, ev_Kind_SEPARATED_ACTIVITY⟩ := exa_v m19
  have E_Kind_SEPARATED_ACTIVITY := Exa.start ev_Kind_SEPARATED_ACTIVITY m19
  have S_Kind_SEPARATED_ACTIVITY := Sta.start ev_Kind_SEPARATED_ACTIVITY (Or.inr ⟨(hw _ (List.mem_of_getElem? (i := 3) rfl)), (hw _ (List.mem_of_getElem? (i := 43) rfl))⟩)
  obtain ⟨w_Kind_SEPARATED_CONTEXT, ev_Kind_SEPARATED_CONTEXT⟩ := exa_v m20
  have E_Kind_SEPARATED_CONTEXT := Exa.start ev_Kind_SEPARATED_CONTEXT m20
  have S_Kind_SEPARATED_CONTEXT := Sta.start ev_Kind_SEPARATED_CONTEXT (Or.inr ⟨(hw _ (List.mem_of_getElem? (i := 3) rfl)), (hw _ (List.mem_of_getElem? (i := 45) rfl))⟩)
  obtain ⟨w_Category_RULE, ev_Category_RULE⟩ := exa_v m21
  have E_Category_RULE := Exa.start ev_Category_RULE m21
  have S_Category_RULE := Sta.start ev_Category_RULE (Or.inr ⟨(hw _ (List.mem_of_getElem? (i := 54) rfl)), (hw _ (List.mem_of_getElem? (i := 55) rfl))⟩)
  obtain ⟨w_Category_FACT, ev_Category_FACT⟩ := exa_v m23
  have E_Category_FACT := Exa.start ev_Category_FACT m23
  have S_Category_FACT := Sta.start ev_Category_FACT (Or.inr ⟨(hw _ (List.mem_of_getElem? (i := 54) rfl)), (hw _ (List.mem_of_getElem? (i := 57) rfl))⟩)
  obtain ⟨w_Category_PREFERENCE, ev_Category_PREFERENCE⟩ := exa_v m28
  have E_Category_PREFERENCE := Exa.start ev_Category_PREFERENCE m28
  have S_Category_PREFERENCE := Sta.start ev_Category_PREFERENCE (Or.inr ⟨(hw _ (List.mem_of_getElem? (i := 54) rfl)), (hw _ (List.mem_of_getElem? (i := 59) rfl))⟩)
  obtain ⟨w_Category_ORDER, ev_Category_ORDER⟩ := exa_v m31
  have E_Category_ORDER := Exa.start ev_Category_ORDER m31
  have S_Category_ORDER := Sta.start ev_Category_ORDER (Or.inr ⟨(hw _ (List.mem_of_getElem? (i := 54) rfl)), (hw _ (List.mem_of_getElem? (i := 61) rfl))⟩)
  obtain ⟨w_Category_HIERARCHY, ev_Category_HIERARCHY⟩ := exa_v m34
  have E_Category_HIERARCHY := Exa.start ev_Category_HIERARCHY m34
  have S_Category_HIERARCHY := Sta.start ev_Category_HIERARCHY (Or.inr ⟨(hw _ (List.mem_of_getElem? (i := 54) rfl)), (hw _ (List.mem_of_getElem? (i := 62) rfl))⟩)
  obtain ⟨w_Category_SEPARATION, ev_Category_SEPARATION⟩ := exa_v m45
  have E_Category_SEPARATION := Exa.start ev_Category_SEPARATION m45
  have S_Category_SEPARATION := Sta.start ev_Category_SEPARATION (Or.inr ⟨(hw _ (List.mem_of_getElem? (i := 54) rfl)), (hw _ (List.mem_of_getElem? (i := 63) rfl))⟩)
  have F_Kind_PERMISSION_category := own_fldR ev_Kind_PERMISSION ev_Category_RULE m22
  have F_Kind_USE_category := own_fldR ev_Kind_USE ev_Category_FACT m24
  have F_Category_FACT_ordinal := own_fldI ev_Category_FACT m25
  have F_Category_RULE_ordinal := own_fldI ev_Category_RULE m26
  have F_Kind_DEFINE_category := own_fldR ev_Kind_DEFINE ev_Category_FACT m27
  have F_Kind_PREFER_ROLE_category := own_fldR ev_Kind_PREFER_ROLE ev_Category_PREFERENCE m29
  have F_Category_PREFERENCE_ordinal := own_fldI ev_Category_PREFERENCE m30
  have F_Category_ORDER_ordinal := own_fldI ev_Category_ORDER m32
  have F_Kind_HOLDS_category := own_fldR ev_Kind_HOLDS ev_Category_FACT m33
  have F_Kind_SUB_ACTIVITY_category := own_fldR ev_Kind_SUB_ACTIVITY ev_Category_HIERARCHY m35
  have F_Category_HIERARCHY_ordinal := own_fldI ev_Category_HIERARCHY m36
  have F_Kind_ORDER_category := own_fldR ev_Kind_ORDER ev_Category_ORDER m37
  have F_Kind_EMPLOY_category := own_fldR ev_Kind_EMPLOY ev_Category_FACT m38
  have F_Kind_SUB_VIEW_category := own_fldR ev_Kind_SUB_VIEW ev_Category_HIERARCHY m39
  have F_Kind_SUB_ORGANISATION_category := own_fldR ev_Kind_SUB_ORGANISATION ev_Category_HIERARCHY m40
  have F_Kind_PROHIBITION_category := own_fldR ev_Kind_PROHIBITION ev_Category_RULE m41
  have F_Kind_PREFER_CONTEXT_category := own_fldR ev_Kind_PREFER_CONTEXT ev_Category_PREFERENCE m42
  have F_Kind_PREFER_VIEW_category := own_fldR ev_Kind_PREFER_VIEW ev_Category_PREFERENCE m43
  have F_Kind_SUB_ROLE_category := own_fldR ev_Kind_SUB_ROLE ev_Category_HIERARCHY m44
  have F_Kind_SEPARATED_ACTIVITY_category := own_fldR ev_Kind_SEPARATED_ACTIVITY ev_Category_SEPARATION m46
  have F_Category_SEPARATION_ordinal := own_fldI ev_Category_SEPARATION m47
  have F_Kind_PREFER_ACTIVITY_category := own_fldR ev_Kind_PREFER_ACTIVITY ev_Category_PREFERENCE m48
  have F_Kind_SEPARATED_ROLE_category := own_fldR ev_Kind_SEPARATED_ROLE ev_Category_SEPARATION m49
  have F_Kind_SEPARATED_CONTEXT_category := own_fldR ev_Kind_SEPARATED_CONTEXT ev_Category_SEPARATION m50
  have F_Kind_CONSIDER_category := own_fldR ev_Kind_CONSIDER ev_Category_FACT m51
  have F_Kind_SUB_CONTEXT_category := own_fldR ev_Kind_SUB_CONTEXT ev_Category_HIERARCHY m52
  have F_Kind_SEPARATED_VIEW_category := own_fldR ev_Kind_SEPARATED_VIEW ev_Category_SEPARATION m53
  obtain ⟨hk0, hk1⟩ := own_mod i0 (21 : Int32) 21 rfl (by decide)
  obtain ⟨k, hk⟩ : ∃ k, (i0 &&& (2147483647 : Int32)) % (21 : Int32) = k := ⟨_, rfl⟩
  rw [hk] at hk0 hk1
  obtain ⟨W, hW⟩ : ∃ W : Nat → Addr, W = (fun n => [w_Kind_PERMISSION, w_Kind_PROHIBITION, w_Kind_EMPLOY, w_Kind_USE, w_Kind_CONSIDER, w_Kind_DEFINE, w_Kind_HOLDS, w_Kind_ORDER, w_Kind_SUB_ORGANISATION, w_Kind_SUB_ROLE, w_Kind_SUB_VIEW, w_Kind_SUB_ACTIVITY, w_Kind_SUB_CONTEXT, w_Kind_PREFER_ROLE, w_Kind_PREFER_CONTEXT, w_Kind_PREFER_VIEW, w_Kind_PREFER_ACTIVITY, w_Kind_SEPARATED_ROLE, w_Kind_SEPARATED_VIEW, w_Kind_SEPARATED_ACTIVITY, w_Kind_SEPARATED_CONTEXT].getD n 0) := ⟨_, rfl⟩
  obtain ⟨G, hG⟩ : ∃ G : Nat → Addr, G = (fun n => [w_Category_RULE, w_Category_RULE, w_Category_FACT, w_Category_FACT, w_Category_FACT, w_Category_FACT, w_Category_FACT, w_Category_ORDER, w_Category_HIERARCHY, w_Category_HIERARCHY, w_Category_HIERARCHY, w_Category_HIERARCHY, w_Category_HIERARCHY, w_Category_PREFERENCE, w_Category_PREFERENCE, w_Category_PREFERENCE, w_Category_PREFERENCE, w_Category_SEPARATION, w_Category_SEPARATION, w_Category_SEPARATION, w_Category_SEPARATION].getD n 0) := ⟨_, rfl⟩
  have hE : ∀ i, i < 21 → Exa s s.heap (W i) "com/example/forbid_or_permit/forbidorpermit/Kind" := by rw [hW]; exact (fun i hi => match i, hi with | 0, _ => E_Kind_PERMISSION | 1, _ => E_Kind_PROHIBITION | 2, _ => E_Kind_EMPLOY | 3, _ => E_Kind_USE | 4, _ => E_Kind_CONSIDER | 5, _ => E_Kind_DEFINE | 6, _ => E_Kind_HOLDS | 7, _ => E_Kind_ORDER | 8, _ => E_Kind_SUB_ORGANISATION | 9, _ => E_Kind_SUB_ROLE | 10, _ => E_Kind_SUB_VIEW | 11, _ => E_Kind_SUB_ACTIVITY | 12, _ => E_Kind_SUB_CONTEXT | 13, _ => E_Kind_PREFER_ROLE | 14, _ => E_Kind_PREFER_CONTEXT | 15, _ => E_Kind_PREFER_VIEW | 16, _ => E_Kind_PREFER_ACTIVITY | 17, _ => E_Kind_SEPARATED_ROLE | 18, _ => E_Kind_SEPARATED_VIEW | 19, _ => E_Kind_SEPARATED_ACTIVITY | 20, _ => E_Kind_SEPARATED_CONTEXT | n + 21, h => absurd h (by omega))
  have hF : ∀ i, i < 21 → Fld s s.heap (W i) "com/example/forbid_or_permit/forbidorpermit/Kind" "category" "Lcom/example/forbid_or_permit/forbidorpermit/Kind$Category;" (.ref (G i)) := by rw [hW, hG]; exact (fun i hi => match i, hi with | 0, _ => F_Kind_PERMISSION_category | 1, _ => F_Kind_PROHIBITION_category | 2, _ => F_Kind_EMPLOY_category | 3, _ => F_Kind_USE_category | 4, _ => F_Kind_CONSIDER_category | 5, _ => F_Kind_DEFINE_category | 6, _ => F_Kind_HOLDS_category | 7, _ => F_Kind_ORDER_category | 8, _ => F_Kind_SUB_ORGANISATION_category | 9, _ => F_Kind_SUB_ROLE_category | 10, _ => F_Kind_SUB_VIEW_category | 11, _ => F_Kind_SUB_ACTIVITY_category | 12, _ => F_Kind_SUB_CONTEXT_category | 13, _ => F_Kind_PREFER_ROLE_category | 14, _ => F_Kind_PREFER_CONTEXT_category | 15, _ => F_Kind_PREFER_VIEW_category | 16, _ => F_Kind_PREFER_ACTIVITY_category | 17, _ => F_Kind_SEPARATED_ROLE_category | 18, _ => F_Kind_SEPARATED_VIEW_category | 19, _ => F_Kind_SEPARATED_ACTIVITY_category | 20, _ => F_Kind_SEPARATED_CONTEXT_category | n + 21, h => absurd h (by omega))
  have hC : ∀ i, i < 21 → ((G i = w_Category_RULE ∨ G i = w_Category_FACT ∨ G i = w_Category_ORDER) ↔ i < 8) := by rw [hG]; exact (fun i hi => match i, hi with | 0, _ => iff_of_true (Or.inl rfl) (by decide) | 1, _ => iff_of_true (Or.inl rfl) (by decide) | 2, _ => iff_of_true (Or.inr (Or.inl rfl)) (by decide) | 3, _ => iff_of_true (Or.inr (Or.inl rfl)) (by decide) | 4, _ => iff_of_true (Or.inr (Or.inl rfl)) (by decide) | 5, _ => iff_of_true (Or.inr (Or.inl rfl)) (by decide) | 6, _ => iff_of_true (Or.inr (Or.inl rfl)) (by decide) | 7, _ => iff_of_true (Or.inr (Or.inr rfl)) (by decide) | 8, _ => iff_of_false (fun q => q.elim (F_Category_HIERARCHY_ordinal.ne F_Category_RULE_ordinal (by decide)) (fun q => q.elim (F_Category_HIERARCHY_ordinal.ne F_Category_FACT_ordinal (by decide)) (F_Category_HIERARCHY_ordinal.ne F_Category_ORDER_ordinal (by decide)))) (by decide) | 9, _ => iff_of_false (fun q => q.elim (F_Category_HIERARCHY_ordinal.ne F_Category_RULE_ordinal (by decide)) (fun q => q.elim (F_Category_HIERARCHY_ordinal.ne F_Category_FACT_ordinal (by decide)) (F_Category_HIERARCHY_ordinal.ne F_Category_ORDER_ordinal (by decide)))) (by decide) | 10, _ => iff_of_false (fun q => q.elim (F_Category_HIERARCHY_ordinal.ne F_Category_RULE_ordinal (by decide)) (fun q => q.elim (F_Category_HIERARCHY_ordinal.ne F_Category_FACT_ordinal (by decide)) (F_Category_HIERARCHY_ordinal.ne F_Category_ORDER_ordinal (by decide)))) (by decide) | 11, _ => iff_of_false (fun q => q.elim (F_Category_HIERARCHY_ordinal.ne F_Category_RULE_ordinal (by decide)) (fun q => q.elim (F_Category_HIERARCHY_ordinal.ne F_Category_FACT_ordinal (by decide)) (F_Category_HIERARCHY_ordinal.ne F_Category_ORDER_ordinal (by decide)))) (by decide) | 12, _ => iff_of_false (fun q => q.elim (F_Category_HIERARCHY_ordinal.ne F_Category_RULE_ordinal (by decide)) (fun q => q.elim (F_Category_HIERARCHY_ordinal.ne F_Category_FACT_ordinal (by decide)) (F_Category_HIERARCHY_ordinal.ne F_Category_ORDER_ordinal (by decide)))) (by decide) | 13, _ => iff_of_false (fun q => q.elim (F_Category_PREFERENCE_ordinal.ne F_Category_RULE_ordinal (by decide)) (fun q => q.elim (F_Category_PREFERENCE_ordinal.ne F_Category_FACT_ordinal (by decide)) (F_Category_PREFERENCE_ordinal.ne F_Category_ORDER_ordinal (by decide)))) (by decide) | 14, _ => iff_of_false (fun q => q.elim (F_Category_PREFERENCE_ordinal.ne F_Category_RULE_ordinal (by decide)) (fun q => q.elim (F_Category_PREFERENCE_ordinal.ne F_Category_FACT_ordinal (by decide)) (F_Category_PREFERENCE_ordinal.ne F_Category_ORDER_ordinal (by decide)))) (by decide) | 15, _ => iff_of_false (fun q => q.elim (F_Category_PREFERENCE_ordinal.ne F_Category_RULE_ordinal (by decide)) (fun q => q.elim (F_Category_PREFERENCE_ordinal.ne F_Category_FACT_ordinal (by decide)) (F_Category_PREFERENCE_ordinal.ne F_Category_ORDER_ordinal (by decide)))) (by decide) | 16, _ => iff_of_false (fun q => q.elim (F_Category_PREFERENCE_ordinal.ne F_Category_RULE_ordinal (by decide)) (fun q => q.elim (F_Category_PREFERENCE_ordinal.ne F_Category_FACT_ordinal (by decide)) (F_Category_PREFERENCE_ordinal.ne F_Category_ORDER_ordinal (by decide)))) (by decide) | 17, _ => iff_of_false (fun q => q.elim (F_Category_SEPARATION_ordinal.ne F_Category_RULE_ordinal (by decide)) (fun q => q.elim (F_Category_SEPARATION_ordinal.ne F_Category_FACT_ordinal (by decide)) (F_Category_SEPARATION_ordinal.ne F_Category_ORDER_ordinal (by decide)))) (by decide) | 18, _ => iff_of_false (fun q => q.elim (F_Category_SEPARATION_ordinal.ne F_Category_RULE_ordinal (by decide)) (fun q => q.elim (F_Category_SEPARATION_ordinal.ne F_Category_FACT_ordinal (by decide)) (F_Category_SEPARATION_ordinal.ne F_Category_ORDER_ordinal (by decide)))) (by decide) | 19, _ => iff_of_false (fun q => q.elim (F_Category_SEPARATION_ordinal.ne F_Category_RULE_ordinal (by decide)) (fun q => q.elim (F_Category_SEPARATION_ordinal.ne F_Category_FACT_ordinal (by decide)) (F_Category_SEPARATION_ordinal.ne F_Category_ORDER_ordinal (by decide)))) (by decide) | 20, _ => iff_of_false (fun q => q.elim (F_Category_SEPARATION_ordinal.ne F_Category_RULE_ordinal (by decide)) (fun q => q.elim (F_Category_SEPARATION_ordinal.ne F_Category_FACT_ordinal (by decide)) (F_Category_SEPARATION_ordinal.ne F_Category_ORDER_ordinal (by decide)))) (by decide) | n + 21, h => absurd h (by omega))
  have hlt := own_clamp hk0 (n := 21) hk1
  have hr1 : (if G k.toNatClampNeg = w_Category_RULE ∨ G k.toNatClampNeg = w_Category_FACT ∨ G k.toNatClampNeg = w_Category_ORDER then (1 : Int32) else 0) = if k < (8 : Int32) then 1 else 0 := by
    simp only [hC _ hlt]
    have key : ∀ j, j < 21 → (if j < 8 then (1 : Int32) else 0) = if Int32.ofNat j < (8 : Int32) then 1 else 0 := by decide
    have := key _ hlt
    rw [← own_nat hk0] at this; exact this
  have T_PERMISSION : Sta s s.heap "com/example/forbid_or_permit/forbidorpermit/Kind" "PERMISSION" "Lcom/example/forbid_or_permit/forbidorpermit/Kind;" (.ref (W 0)) := by rw [hW]; exact S_Kind_PERMISSION
  have T_PROHIBITION : Sta s s.heap "com/example/forbid_or_permit/forbidorpermit/Kind" "PROHIBITION" "Lcom/example/forbid_or_permit/forbidorpermit/Kind;" (.ref (W 1)) := by rw [hW]; exact S_Kind_PROHIBITION
  have T_EMPLOY : Sta s s.heap "com/example/forbid_or_permit/forbidorpermit/Kind" "EMPLOY" "Lcom/example/forbid_or_permit/forbidorpermit/Kind;" (.ref (W 2)) := by rw [hW]; exact S_Kind_EMPLOY
  have T_USE : Sta s s.heap "com/example/forbid_or_permit/forbidorpermit/Kind" "USE" "Lcom/example/forbid_or_permit/forbidorpermit/Kind;" (.ref (W 3)) := by rw [hW]; exact S_Kind_USE
  have T_CONSIDER : Sta s s.heap "com/example/forbid_or_permit/forbidorpermit/Kind" "CONSIDER" "Lcom/example/forbid_or_permit/forbidorpermit/Kind;" (.ref (W 4)) := by rw [hW]; exact S_Kind_CONSIDER
  have T_DEFINE : Sta s s.heap "com/example/forbid_or_permit/forbidorpermit/Kind" "DEFINE" "Lcom/example/forbid_or_permit/forbidorpermit/Kind;" (.ref (W 5)) := by rw [hW]; exact S_Kind_DEFINE
  have T_HOLDS : Sta s s.heap "com/example/forbid_or_permit/forbidorpermit/Kind" "HOLDS" "Lcom/example/forbid_or_permit/forbidorpermit/Kind;" (.ref (W 6)) := by rw [hW]; exact S_Kind_HOLDS
  have T_ORDER : Sta s s.heap "com/example/forbid_or_permit/forbidorpermit/Kind" "ORDER" "Lcom/example/forbid_or_permit/forbidorpermit/Kind;" (.ref (W 7)) := by rw [hW]; exact S_Kind_ORDER
  have T_SUB_ORGANISATION : Sta s s.heap "com/example/forbid_or_permit/forbidorpermit/Kind" "SUB_ORGANISATION" "Lcom/example/forbid_or_permit/forbidorpermit/Kind;" (.ref (W 8)) := by rw [hW]; exact S_Kind_SUB_ORGANISATION
  have T_SUB_ROLE : Sta s s.heap "com/example/forbid_or_permit/forbidorpermit/Kind" "SUB_ROLE" "Lcom/example/forbid_or_permit/forbidorpermit/Kind;" (.ref (W 9)) := by rw [hW]; exact S_Kind_SUB_ROLE
  have T_SUB_VIEW : Sta s s.heap "com/example/forbid_or_permit/forbidorpermit/Kind" "SUB_VIEW" "Lcom/example/forbid_or_permit/forbidorpermit/Kind;" (.ref (W 10)) := by rw [hW]; exact S_Kind_SUB_VIEW
  have T_SUB_ACTIVITY : Sta s s.heap "com/example/forbid_or_permit/forbidorpermit/Kind" "SUB_ACTIVITY" "Lcom/example/forbid_or_permit/forbidorpermit/Kind;" (.ref (W 11)) := by rw [hW]; exact S_Kind_SUB_ACTIVITY
  have T_SUB_CONTEXT : Sta s s.heap "com/example/forbid_or_permit/forbidorpermit/Kind" "SUB_CONTEXT" "Lcom/example/forbid_or_permit/forbidorpermit/Kind;" (.ref (W 12)) := by rw [hW]; exact S_Kind_SUB_CONTEXT
  have T_PREFER_ROLE : Sta s s.heap "com/example/forbid_or_permit/forbidorpermit/Kind" "PREFER_ROLE" "Lcom/example/forbid_or_permit/forbidorpermit/Kind;" (.ref (W 13)) := by rw [hW]; exact S_Kind_PREFER_ROLE
  have T_PREFER_CONTEXT : Sta s s.heap "com/example/forbid_or_permit/forbidorpermit/Kind" "PREFER_CONTEXT" "Lcom/example/forbid_or_permit/forbidorpermit/Kind;" (.ref (W 14)) := by rw [hW]; exact S_Kind_PREFER_CONTEXT
  have T_PREFER_VIEW : Sta s s.heap "com/example/forbid_or_permit/forbidorpermit/Kind" "PREFER_VIEW" "Lcom/example/forbid_or_permit/forbidorpermit/Kind;" (.ref (W 15)) := by rw [hW]; exact S_Kind_PREFER_VIEW
  have T_PREFER_ACTIVITY : Sta s s.heap "com/example/forbid_or_permit/forbidorpermit/Kind" "PREFER_ACTIVITY" "Lcom/example/forbid_or_permit/forbidorpermit/Kind;" (.ref (W 16)) := by rw [hW]; exact S_Kind_PREFER_ACTIVITY
  have T_SEPARATED_ROLE : Sta s s.heap "com/example/forbid_or_permit/forbidorpermit/Kind" "SEPARATED_ROLE" "Lcom/example/forbid_or_permit/forbidorpermit/Kind;" (.ref (W 17)) := by rw [hW]; exact S_Kind_SEPARATED_ROLE
  have T_SEPARATED_VIEW : Sta s s.heap "com/example/forbid_or_permit/forbidorpermit/Kind" "SEPARATED_VIEW" "Lcom/example/forbid_or_permit/forbidorpermit/Kind;" (.ref (W 18)) := by rw [hW]; exact S_Kind_SEPARATED_VIEW
  have T_SEPARATED_ACTIVITY : Sta s s.heap "com/example/forbid_or_permit/forbidorpermit/Kind" "SEPARATED_ACTIVITY" "Lcom/example/forbid_or_permit/forbidorpermit/Kind;" (.ref (W 19)) := by rw [hW]; exact S_Kind_SEPARATED_ACTIVITY
  have T_SEPARATED_CONTEXT : Sta s s.heap "com/example/forbid_or_permit/forbidorpermit/Kind" "SEPARATED_CONTEXT" "Lcom/example/forbid_or_permit/forbidorpermit/Kind;" (.ref (W 20)) := by rw [hW]; exact S_Kind_SEPARATED_CONTEXT
  obtain ⟨n, o, h1, h2, h3, _, L, rfl, ⟨rfl, N⟩, hq⟩ := rm0 l s _ hw tables_1 i0 k _ W _ _ _ _ s.heap s.heap.size (Nat.le_refl _) T_PERMISSION T_PROHIBITION T_EMPLOY T_USE T_CONSIDER T_DEFINE T_HOLDS T_ORDER T_SUB_ORGANISATION T_SUB_ROLE T_SUB_VIEW T_SUB_ACTIVITY T_SUB_CONTEXT T_PREFER_ROLE T_PREFER_CONTEXT T_PREFER_VIEW T_PREFER_ACTIVITY T_SEPARATED_ROLE T_SEPARATED_VIEW T_SEPARATED_ACTIVITY T_SEPARATED_CONTEXT (hE 0 (by decide)) (hE 1 (by decide)) (hE 2 (by decide)) (hE 3 (by decide)) (hE 4 (by decide)) (hE 5 (by decide)) (hE 6 (by decide)) (hE 7 (by decide)) (hE 8 (by decide)) (hE 9 (by decide)) (hE 10 (by decide)) (hE 11 (by decide)) (hE 12 (by decide)) (hE 13 (by decide)) (hE 14 (by decide)) (hE 15 (by decide)) (hE 16 (by decide)) (hE 17 (by decide)) (hE 18 (by decide)) (hE 19 (by decide)) (hE 20 (by decide)) hk (own_nlt hk0) (own_lt hk1) hlt (hE _ hlt) (hF _ hlt) S_Category_RULE S_Category_FACT S_Category_ORDER rfl hr1 p e ha hcas hclk s m _ below hf ((Spec.applies_iff_loose hf).mp happ).1 ⟨rfl, State.Warmed39.refl s, rfl⟩ trivial
  refine ⟨n, _, h1, h2, h3, hpost _ _ _ _ _ _ ⟨Cond.after_iff.mpr rfl, Cond.after_iff.mpr (eq_i res_at (Term.int_eval (1)) rfl), trivial⟩ ⟨hq.1, hq.2.1, (hq.2.2.sift fun y hy => Or.inr (N y hy)).mono (by decide) (by decide)⟩⟩
theorem main_1_1 : Claimed_1_1 := comes_1 fun _ _ _ _ _ _ h hF => ⟨h.1, hF⟩
theorem main_1_2 : Claimed_1_2 := comes_1 fun _ _ _ _ _ _ h hF => ⟨h.2.1, hF⟩
end Jvm.Pilot.@@N@@
namespace Jvm.Pilot.@@N@@
open Jvm Jvm.ClassFile Sem Op Lib Jvm.Free Jvm.Stand Jvm.Pilot.@@N@@.Jvm.D
/-! MADE BY PROGRAM (witnessworld.py) out of the Statement's table words and the real class files: 14 classes; the members and pool entries that the words name. The judged class is class 1, her method 1. -/
namespace start1
open Jvm.ClassFile
def u (s : String) : CpInfo := .utf8 (stringToUtf16 s)
/-- a pool by its gaps: so many unusable entries, then the entry; so many at the end -/
def gap : Nat → List CpInfo → List CpInfo
  | 0, r => r
  | n + 1, r => .unusable :: gap n r
def poolList (es : List (Nat × CpInfo)) (last : Nat) : List CpInfo := es.foldr (fun e r => gap e.1 (e.2 :: r)) (gap last [])
def pool (es : List (Nat × CpInfo)) (last : Nat) : Array CpInfo := ⟨poolList es last⟩
def fileOf (pool : Array CpInfo) (this : Nat) (attrs : Array Attribute := #[]) (ms : Array MethodInfo := #[]) (fl : Nat := 33) (sup : Nat := 0) (ifs : Array Nat := #[]) (fds : Array FieldInfo := #[]) : ClassFile where
  minorVersion := 0
  majorVersion := 65
  constantPool := pool
  accessFlags := fl
  thisClass := this
  superClass := sup
  interfaces := ifs
  fields := fds
  methods := ms
  attributes := attrs
def plain (name : String) (sup : Option ClassId) : Class where
  name := name
  kind := .ordinary
  loader := none
  accessFlags := 33
  super := sup
  interfaces := #[]
  cf := none
  fields := #[]
  methods := #[]
  instanceTypes := #[]
  staticTypes := #[]
  resolved := #[]
  callSites := []
  init := .initialized
  statics := none
  mirror := none

def pool0 : Array CpInfo := pool [(5, u "<init>"), (0, u "()V"), (1, .class_ 10), (1, u "java/lang/Object")] 113

def k0m0 : Method := { name := "<init>", desc := "()V", sig := { parameters := [], returnType := none }, accessFlags := 1, code := none }
/-- java/lang/Object -/
def k0 : Class := { plain "java/lang/Object" none with
  accessFlags := 33
  interfaces := #[]
  cf := some (fileOf pool0 8 #[] #[{ accessFlags := 1, nameIndex := 5, descriptorIndex := 6, attributes := #[] }] 33 0 #[] #[])
  fields := #[]
  methods := #[k0m0]
  instanceTypes := #[]
  staticTypes := #[]
  resolved := Array.replicate 124 none
  statics := none }

def pool1 : Array CpInfo := pool [(2, .class_ 4), (1, u "java/lang/Object"), (0, u "<init>"), (0, u "()V"), (0, .class_ 8), (0, u "com/example/forbid_or_permit/forbidorpermit/Kind"), (0, .fieldref 7 10), (0, .nameAndType 11 12), (0, u "PERMISSION"), (0, u "Lcom/example/forbid_or_permit/forbidorpermit/Kind;"), (0, .fieldref 7 14), (0, .nameAndType 15 12), (0, u "PROHIBITION"), (0, .fieldref 7 17), (0, .nameAndType 18 12), (0, u "EMPLOY"), (0, .fieldref 7 20), (0, .nameAndType 21 12), (0, u "USE"), (0, .fieldref 7 23), (0, .nameAndType 24 12), (0, u "CONSIDER"), (0, .fieldref 7 26), (0, .nameAndType 27 12), (0, u "DEFINE"), (0, .fieldref 7 29), (0, .nameAndType 30 12), (0, u "HOLDS"), (0, .fieldref 7 32), (0, .nameAndType 33 12), (0, u "ORDER"), (0, .fieldref 7 35), (0, .nameAndType 36 12), (0, u "SUB_ORGANISATION"), (0, .fieldref 7 38), (0, .nameAndType 39 12), (0, u "SUB_ROLE"), (0, .fieldref 7 41), (0, .nameAndType 42 12), (0, u "SUB_VIEW"), (0, .fieldref 7 44), (0, .nameAndType 45 12), (0, u "SUB_ACTIVITY"), (0, .fieldref 7 47), (0, .nameAndType 48 12), (0, u "SUB_CONTEXT"), (0, .fieldref 7 50), (0, .nameAndType 51 12), (0, u "PREFER_ROLE"), (0, .fieldref 7 53), (0, .nameAndType 54 12), (0, u "PREFER_CONTEXT"), (0, .fieldref 7 56), (0, .nameAndType 57 12), (0, u "PREFER_VIEW"), (0, .fieldref 7 59), (0, .nameAndType 60 12), (0, u "PREFER_ACTIVITY"), (0, .fieldref 7 62), (0, .nameAndType 63 12), (0, u "SEPARATED_ROLE"), (0, .fieldref 7 65), (0, .nameAndType 66 12), (0, u "SEPARATED_VIEW"), (0, .fieldref 7 68), (0, .nameAndType 69 12), (0, u "SEPARATED_ACTIVITY"), (0, .fieldref 7 71), (0, .nameAndType 72 12), (0, u "SEPARATED_CONTEXT"), (0, .integer 2147483647), (0, .methodref 7 75), (0, .nameAndType 76 77), (0, u "takesLevel"), (0, u "()Z"), (0, .class_ 79), (0, u "com/example/forbid_or_permit/forbidorpermit/KindTakesLevelPinLaw"), (2, u "law"), (0, u "(I)Z")] 5

def k1m0 : Method := { name := "<init>", desc := "()V", sig := { parameters := [], returnType := none }, accessFlags := 1, code := none }
def k1c1 : Code := { maxStack := 4, maxLocals := 4, code := code, exceptionTable := #[], attributes := #[] }
def k1m1 : Method := { name := "law", desc := "(I)Z", sig := { parameters := [.int], returnType := some .boolean }, accessFlags := 9, code := some k1c1 }
/-- com/example/forbid_or_permit/forbidorpermit/KindTakesLevelPinLaw -/
def k1 : Class := { plain "com/example/forbid_or_permit/forbidorpermit/KindTakesLevelPinLaw" (some 0) with
  accessFlags := 49
  interfaces := #[]
  cf := some (fileOf pool1 78 #[] #[{ accessFlags := 1, nameIndex := 5, descriptorIndex := 6, attributes := #[] }, { accessFlags := 9, nameIndex := 82, descriptorIndex := 83, attributes := #[] }] 49 2 #[] #[])
  fields := #[]
  methods := #[k1m0, k1m1]
  instanceTypes := #[]
  staticTypes := #[]
  resolved := Array.replicate 89 none
  statics := none }

def pool2 : Array CpInfo := pool [(1, .class_ 2), (0, u "java/lang/constant/Constable"), (0, .class_ 4), (0, u "java/lang/Object")] 6

/-- java/lang/constant/Constable -/
def k2 : Class := { plain "java/lang/constant/Constable" (some 0) with
  accessFlags := 1537
  interfaces := #[]
  cf := some (fileOf pool2 1 #[] #[] 1537 3 #[] #[])
  fields := #[]
  methods := #[]
  instanceTypes := #[]
  staticTypes := #[]
  resolved := Array.replicate 11 none
  statics := none }

def pool3 : Array CpInfo := pool [(1, .class_ 2), (0, u "java/lang/Comparable"), (0, .class_ 4), (0, u "java/lang/Object")] 7

/-- java/lang/Comparable -/
def k3 : Class := { plain "java/lang/Comparable" (some 0) with
  accessFlags := 1537
  interfaces := #[]
  cf := some (fileOf pool3 1 #[] #[] 1537 3 #[] #[])
  fields := #[]
  methods := #[]
  instanceTypes := #[]
  staticTypes := #[]
  resolved := Array.replicate 12 none
  statics := none }

def pool4 : Array CpInfo := pool [(1, .class_ 2), (0, u "java/io/Serializable"), (0, .class_ 4), (0, u "java/lang/Object")] 2

/-- java/io/Serializable -/
def k4 : Class := { plain "java/io/Serializable" (some 0) with
  accessFlags := 1537
  interfaces := #[]
  cf := some (fileOf pool4 1 #[] #[] 1537 3 #[] #[])
  fields := #[]
  methods := #[]
  instanceTypes := #[]
  staticTypes := #[]
  resolved := Array.replicate 7 none
  statics := none }

def pool5 : Array CpInfo := pool [(2, .class_ 4), (1, u "java/lang/Enum"), (0, u "name"), (0, u "Ljava/lang/String;"), (2, u "ordinal"), (0, u "I"), (1, .class_ 14), (1, u "java/lang/Object"), (4, u "hash"), (86, .class_ 108), (1, u "java/lang/Enum$EnumDesc"), (2, .class_ 112), (0, u "java/lang/constant/Constable"), (0, .class_ 114), (0, u "java/lang/Comparable"), (0, .class_ 116), (0, u "java/io/Serializable")] 87

/-- java/lang/Enum -/
def k5 : Class := { plain "java/lang/Enum" (some 0) with
  accessFlags := 1057
  interfaces := #[2, 3, 4]
  cf := some (fileOf pool5 2 #[.nestMembers #[106]] #[] 1057 12 #[111, 113, 115] #[{ accessFlags := 18, nameIndex := 5, descriptorIndex := 6, attributes := #[] }, { accessFlags := 18, nameIndex := 9, descriptorIndex := 10, attributes := #[] }, { accessFlags := 2, nameIndex := 19, descriptorIndex := 10, attributes := #[] }])
  fields := #[{ name := "name", type := (.object "java/lang/String"), accessFlags := 18, slot := 0, constantValue := 0 }, { name := "ordinal", type := .int, accessFlags := 18, slot := 1, constantValue := 0 }, { name := "hash", type := .int, accessFlags := 2, slot := 2, constantValue := 0 }]
  methods := #[]
  instanceTypes := #[(.object "java/lang/String"), .int, .int]
  staticTypes := #[]
  resolved := Array.replicate 204 none
  statics := none }

def pool6 : Array CpInfo := pool [(1, .class_ 2), (0, u "com/example/forbid_or_permit/forbidorpermit/Kind"), (2, u "PERMISSION"), (0, u "Lcom/example/forbid_or_permit/forbidorpermit/Kind;"), (2, u "PROHIBITION"), (2, u "EMPLOY"), (2, u "USE"), (2, u "CONSIDER"), (2, u "DEFINE"), (2, u "HOLDS"), (2, u "ORDER"), (2, u "SUB_ORGANISATION"), (2, u "SUB_ROLE"), (2, u "SUB_VIEW"), (2, u "SUB_ACTIVITY"), (2, u "SUB_CONTEXT"), (2, u "PREFER_ROLE"), (2, u "PREFER_CONTEXT"), (2, u "PREFER_VIEW"), (2, u "PREFER_ACTIVITY"), (2, u "SEPARATED_ROLE"), (2, u "SEPARATED_VIEW"), (2, u "SEPARATED_ACTIVITY"), (2, u "SEPARATED_CONTEXT"), (2, u "$VALUES"), (0, u "[Lcom/example/forbid_or_permit/forbidorpermit/Kind;"), (6, .class_ 79), (1, u "java/lang/Enum"), (8, u "keyword"), (0, u "Ljava/lang/String;"), (0, .fieldref 1 91), (0, .nameAndType 92 93), (0, u "category"), (0, u "Lcom/example/forbid_or_permit/forbidorpermit/Kind$Category;"), (8, u "parameters"), (0, u "Ljava/util/List;"), (2, u "repeatsLast"), (0, u "Z"), (1, .class_ 111), (1, u "com/example/forbid_or_permit/forbidorpermit/Kind$Sentence"), (4, u "sentence"), (0, u "Lcom/example/forbid_or_permit/forbidorpermit/Kind$Sentence;"), (5, .fieldref 124 125), (0, .class_ 126), (0, .nameAndType 27 93), (0, u "com/example/forbid_or_permit/forbidorpermit/Kind$Category"), (22, .fieldref 124 150), (0, .nameAndType 151 93), (0, u "RULE"), (0, .fieldref 124 153), (0, .nameAndType 154 93), (0, u "FACT"), (189, u "()Z"), (4, u "takesLevel")] 33

def k6c0 : Code := { maxStack := 2, maxLocals := 1, code := prog_18_method_12_code, exceptionTable := #[], attributes := #[] }
def k6m0 : Method := { name := "takesLevel", desc := "()Z", sig := { parameters := [], returnType := some .boolean }, accessFlags := 1, code := some k6c0 }
/-- com/example/forbid_or_permit/forbidorpermit/Kind -/
def k6 : Class := { plain "com/example/forbid_or_permit/forbidorpermit/Kind" (some 5) with
  accessFlags := 16433
  interfaces := #[]
  cf := some (fileOf pool6 1 #[.nestMembers #[109, 124]] #[{ accessFlags := 1, nameIndex := 349, descriptorIndex := 344, attributes := #[] }] 16433 77 #[] #[{ accessFlags := 16409, nameIndex := 5, descriptorIndex := 6, attributes := #[] }, { accessFlags := 16409, nameIndex := 9, descriptorIndex := 6, attributes := #[] }, { accessFlags := 16409, nameIndex := 12, descriptorIndex := 6, attributes := #[] }, { accessFlags := 16409, nameIndex := 15, descriptorIndex := 6, attributes := #[] }, { accessFlags := 16409, nameIndex := 18, descriptorIndex := 6, attributes := #[] }, { accessFlags := 16409, nameIndex := 21, descriptorIndex := 6, attributes := #[] }, { accessFlags := 16409, nameIndex := 24, descriptorIndex := 6, attributes := #[] }, { accessFlags := 16409, nameIndex := 27, descriptorIndex := 6, attributes := #[] }, { accessFlags := 16409, nameIndex := 30, descriptorIndex := 6, attributes := #[] }, { accessFlags := 16409, nameIndex := 33, descriptorIndex := 6, attributes := #[] }, { accessFlags := 16409, nameIndex := 36, descriptorIndex := 6, attributes := #[] }, { accessFlags := 16409, nameIndex := 39, descriptorIndex := 6, attributes := #[] }, { accessFlags := 16409, nameIndex := 42, descriptorIndex := 6, attributes := #[] }, { accessFlags := 16409, nameIndex := 45, descriptorIndex := 6, attributes := #[] }, { accessFlags := 16409, nameIndex := 48, descriptorIndex := 6, attributes := #[] }, { accessFlags := 16409, nameIndex := 51, descriptorIndex := 6, attributes := #[] }, { accessFlags := 16409, nameIndex := 54, descriptorIndex := 6, attributes := #[] }, { accessFlags := 16409, nameIndex := 57, descriptorIndex := 6, attributes := #[] }, { accessFlags := 16409, nameIndex := 60, descriptorIndex := 6, attributes := #[] }, { accessFlags := 16409, nameIndex := 63, descriptorIndex := 6, attributes := #[] }, { accessFlags := 16409, nameIndex := 66, descriptorIndex := 6, attributes := #[] }, { accessFlags := 18, nameIndex := 88, descriptorIndex := 89, attributes := #[] }, { accessFlags := 18, nameIndex := 92, descriptorIndex := 93, attributes := #[] }, { accessFlags := 18, nameIndex := 102, descriptorIndex := 103, attributes := #[] }, { accessFlags := 18, nameIndex := 106, descriptorIndex := 107, attributes := #[] }, { accessFlags := 18, nameIndex := 116, descriptorIndex := 117, attributes := #[] }, { accessFlags := 4122, nameIndex := 69, descriptorIndex := 70, attributes := #[] }])
  fields := #[{ name := "PERMISSION", type := (.object "com/example/forbid_or_permit/forbidorpermit/Kind"), accessFlags := 16409, slot := 0, constantValue := 0 }, { name := "PROHIBITION", type := (.object "com/example/forbid_or_permit/forbidorpermit/Kind"), accessFlags := 16409, slot := 1, constantValue := 0 }, { name := "EMPLOY", type := (.object "com/example/forbid_or_permit/forbidorpermit/Kind"), accessFlags := 16409, slot := 2, constantValue := 0 }, { name := "USE", type := (.object "com/example/forbid_or_permit/forbidorpermit/Kind"), accessFlags := 16409, slot := 3, constantValue := 0 }, { name := "CONSIDER", type := (.object "com/example/forbid_or_permit/forbidorpermit/Kind"), accessFlags := 16409, slot := 4, constantValue := 0 }, { name := "DEFINE", type := (.object "com/example/forbid_or_permit/forbidorpermit/Kind"), accessFlags := 16409, slot := 5, constantValue := 0 }, { name := "HOLDS", type := (.object "com/example/forbid_or_permit/forbidorpermit/Kind"), accessFlags := 16409, slot := 6, constantValue := 0 }, { name := "ORDER", type := (.object "com/example/forbid_or_permit/forbidorpermit/Kind"), accessFlags := 16409, slot := 7, constantValue := 0 }, { name := "SUB_ORGANISATION", type := (.object "com/example/forbid_or_permit/forbidorpermit/Kind"), accessFlags := 16409, slot := 8, constantValue := 0 }, { name := "SUB_ROLE", type := (.object "com/example/forbid_or_permit/forbidorpermit/Kind"), accessFlags := 16409, slot := 9, constantValue := 0 }, { name := "SUB_VIEW", type := (.object "com/example/forbid_or_permit/forbidorpermit/Kind"), accessFlags := 16409, slot := 10, constantValue := 0 }, { name := "SUB_ACTIVITY", type := (.object "com/example/forbid_or_permit/forbidorpermit/Kind"), accessFlags := 16409, slot := 11, constantValue := 0 }, { name := "SUB_CONTEXT", type := (.object "com/example/forbid_or_permit/forbidorpermit/Kind"), accessFlags := 16409, slot := 12, constantValue := 0 }, { name := "PREFER_ROLE", type := (.object "com/example/forbid_or_permit/forbidorpermit/Kind"), accessFlags := 16409, slot := 13, constantValue := 0 }, { name := "PREFER_CONTEXT", type := (.object "com/example/forbid_or_permit/forbidorpermit/Kind"), accessFlags := 16409, slot := 14, constantValue := 0 }, { name := "PREFER_VIEW", type := (.object "com/example/forbid_or_permit/forbidorpermit/Kind"), accessFlags := 16409, slot := 15, constantValue := 0 }, { name := "PREFER_ACTIVITY", type := (.object "com/example/forbid_or_permit/forbidorpermit/Kind"), accessFlags := 16409, slot := 16, constantValue := 0 }, { name := "SEPARATED_ROLE", type := (.object "com/example/forbid_or_permit/forbidorpermit/Kind"), accessFlags := 16409, slot := 17, constantValue := 0 }, { name := "SEPARATED_VIEW", type := (.object "com/example/forbid_or_permit/forbidorpermit/Kind"), accessFlags := 16409, slot := 18, constantValue := 0 }, { name := "SEPARATED_ACTIVITY", type := (.object "com/example/forbid_or_permit/forbidorpermit/Kind"), accessFlags := 16409, slot := 19, constantValue := 0 }, { name := "SEPARATED_CONTEXT", type := (.object "com/example/forbid_or_permit/forbidorpermit/Kind"), accessFlags := 16409, slot := 20, constantValue := 0 }, { name := "keyword", type := (.object "java/lang/String"), accessFlags := 18, slot := 3, constantValue := 0 }, { name := "category", type := (.object "com/example/forbid_or_permit/forbidorpermit/Kind$Category"), accessFlags := 18, slot := 4, constantValue := 0 }, { name := "parameters", type := (.object "java/util/List"), accessFlags := 18, slot := 5, constantValue := 0 }, { name := "repeatsLast", type := .boolean, accessFlags := 18, slot := 6, constantValue := 0 }, { name := "sentence", type := (.object "com/example/forbid_or_permit/forbidorpermit/Kind$Sentence"), accessFlags := 18, slot := 7, constantValue := 0 }, { name := "$VALUES", type := (.array (.object "com/example/forbid_or_permit/forbidorpermit/Kind")), accessFlags := 4122, slot := 21, constantValue := 0 }]
  methods := #[k6m0]
  instanceTypes := #[(.object "java/lang/String"), .int, .int, (.object "java/lang/String"), (.object "com/example/forbid_or_permit/forbidorpermit/Kind$Category"), (.object "java/util/List"), .boolean, (.object "com/example/forbid_or_permit/forbidorpermit/Kind$Sentence")]
  staticTypes := #[(.object "com/example/forbid_or_permit/forbidorpermit/Kind"), (.object "com/example/forbid_or_permit/forbidorpermit/Kind"), (.object "com/example/forbid_or_permit/forbidorpermit/Kind"), (.object "com/example/forbid_or_permit/forbidorpermit/Kind"), (.object "com/example/forbid_or_permit/forbidorpermit/Kind"), (.object "com/example/forbid_or_permit/forbidorpermit/Kind"), (.object "com/example/forbid_or_permit/forbidorpermit/Kind"), (.object "com/example/forbid_or_permit/forbidorpermit/Kind"), (.object "com/example/forbid_or_permit/forbidorpermit/Kind"), (.object "com/example/forbid_or_permit/forbidorpermit/Kind"), (.object "com/example/forbid_or_permit/forbidorpermit/Kind"), (.object "com/example/forbid_or_permit/forbidorpermit/Kind"), (.object "com/example/forbid_or_permit/forbidorpermit/Kind"), (.object "com/example/forbid_or_permit/forbidorpermit/Kind"), (.object "com/example/forbid_or_permit/forbidorpermit/Kind"), (.object "com/example/forbid_or_permit/forbidorpermit/Kind"), (.object "com/example/forbid_or_permit/forbidorpermit/Kind"), (.object "com/example/forbid_or_permit/forbidorpermit/Kind"), (.object "com/example/forbid_or_permit/forbidorpermit/Kind"), (.object "com/example/forbid_or_permit/forbidorpermit/Kind"), (.object "com/example/forbid_or_permit/forbidorpermit/Kind"), (.array (.object "com/example/forbid_or_permit/forbidorpermit/Kind"))]
  resolved := Array.replicate 383 none
  statics := some 0 }

def pool7 : Array CpInfo := pool [(1, .class_ 2), (0, u "com/example/forbid_or_permit/forbidorpermit/Kind$Category"), (2, u "RULE"), (0, u "Lcom/example/forbid_or_permit/forbidorpermit/Kind$Category;"), (2, u "FACT"), (2, u "ORDER"), (2, u "HIERARCHY"), (2, u "PREFERENCE"), (2, u "SEPARATION"), (2, u "$VALUES"), (0, u "[Lcom/example/forbid_or_permit/forbidorpermit/Kind$Category;"), (6, .class_ 34), (1, u "java/lang/Enum"), (29, .class_ 65), (0, u "com/example/forbid_or_permit/forbidorpermit/Kind")] 2

/-- com/example/forbid_or_permit/forbidorpermit/Kind$Category -/
def k7 : Class := { plain "com/example/forbid_or_permit/forbidorpermit/Kind$Category" (some 5) with
  accessFlags := 16433
  interfaces := #[]
  cf := some (fileOf pool7 1 #[.nestHost 64] #[] 16433 32 #[] #[{ accessFlags := 16409, nameIndex := 5, descriptorIndex := 6, attributes := #[] }, { accessFlags := 16409, nameIndex := 9, descriptorIndex := 6, attributes := #[] }, { accessFlags := 16409, nameIndex := 12, descriptorIndex := 6, attributes := #[] }, { accessFlags := 16409, nameIndex := 15, descriptorIndex := 6, attributes := #[] }, { accessFlags := 16409, nameIndex := 18, descriptorIndex := 6, attributes := #[] }, { accessFlags := 16409, nameIndex := 21, descriptorIndex := 6, attributes := #[] }, { accessFlags := 4122, nameIndex := 24, descriptorIndex := 25, attributes := #[] }])
  fields := #[{ name := "RULE", type := (.object "com/example/forbid_or_permit/forbidorpermit/Kind$Category"), accessFlags := 16409, slot := 0, constantValue := 0 }, { name := "FACT", type := (.object "com/example/forbid_or_permit/forbidorpermit/Kind$Category"), accessFlags := 16409, slot := 1, constantValue := 0 }, { name := "ORDER", type := (.object "com/example/forbid_or_permit/forbidorpermit/Kind$Category"), accessFlags := 16409, slot := 2, constantValue := 0 }, { name := "HIERARCHY", type := (.object "com/example/forbid_or_permit/forbidorpermit/Kind$Category"), accessFlags := 16409, slot := 3, constantValue := 0 }, { name := "PREFERENCE", type := (.object "com/example/forbid_or_permit/forbidorpermit/Kind$Category"), accessFlags := 16409, slot := 4, constantValue := 0 }, { name := "SEPARATION", type := (.object "com/example/forbid_or_permit/forbidorpermit/Kind$Category"), accessFlags := 16409, slot := 5, constantValue := 0 }, { name := "$VALUES", type := (.array (.object "com/example/forbid_or_permit/forbidorpermit/Kind$Category")), accessFlags := 4122, slot := 6, constantValue := 0 }]
  methods := #[]
  instanceTypes := #[(.object "java/lang/String"), .int, .int]
  staticTypes := #[(.object "com/example/forbid_or_permit/forbidorpermit/Kind$Category"), (.object "com/example/forbid_or_permit/forbidorpermit/Kind$Category"), (.object "com/example/forbid_or_permit/forbidorpermit/Kind$Category"), (.object "com/example/forbid_or_permit/forbidorpermit/Kind$Category"), (.object "com/example/forbid_or_permit/forbidorpermit/Kind$Category"), (.object "com/example/forbid_or_permit/forbidorpermit/Kind$Category"), (.array (.object "com/example/forbid_or_permit/forbidorpermit/Kind$Category"))]
  resolved := Array.replicate 68 none
  statics := some 1 }

def pool8 : Array CpInfo := pool [(1, u "java/lang/Cloneable"), (0, .class_ 1), (0, u "java/lang/Object"), (0, .class_ 3)] 3

/-- java/lang/Cloneable -/
def k8 : Class := { plain "java/lang/Cloneable" (some 0) with
  accessFlags := 1537
  interfaces := #[]
  cf := some (fileOf pool8 2 #[] #[] 1537 4 #[] #[])
  fields := #[]
  methods := #[]
  instanceTypes := #[]
  staticTypes := #[]
  resolved := Array.replicate 8 none
  statics := none }

/-- the primitive byte -/
def k9 : Class := { plain "byte" none with kind := .primitive 'B', accessFlags := 0x411 }
/-- [B -/
def k10 : Class := { plain "[B" (some 0) with kind := .array 9 .byte, interfaces := #[8, 4], accessFlags := 1041 }

/-- the primitive int -/
def k11 : Class := { plain "int" none with kind := .primitive 'I', accessFlags := 0x411 }
/-- [I -/
def k12 : Class := { plain "[I" (some 0) with kind := .array 11 .int, interfaces := #[8, 4], accessFlags := 1041 }

/-- [Lcom/example/forbid_or_permit/forbidorpermit/Kind; -/
def k13 : Class := { plain "[Lcom/example/forbid_or_permit/forbidorpermit/Kind;" (some 0) with kind := .array 6 (.object "com/example/forbid_or_permit/forbidorpermit/Kind"), interfaces := #[8, 4], accessFlags := 1041 }

def heap : Heap := #[{ cls := 6, slots := #[.ref 2, .ref 3, .ref 4, .ref 5, .ref 6, .ref 7, .ref 8, .ref 9, .ref 10, .ref 11, .ref 12, .ref 13, .ref 14, .ref 15, .ref 16, .ref 17, .ref 18, .ref 19, .ref 20, .ref 21, .ref 22, .null], vm := .statics 6 },
  { cls := 7, slots := #[.ref 23, .ref 24, .ref 26, .ref 27, .ref 25, .ref 28, .null], vm := .statics 7 },
  { cls := 6, slots := #[.null, .int 0, .int 0, .null, .ref 23, .null, .int 0, .null], vm := .none },
  { cls := 6, slots := #[.null, .int 0, .int 0, .null, .ref 23, .null, .int 0, .null], vm := .none },
  { cls := 6, slots := #[.null, .int 0, .int 0, .null, .ref 24, .null, .int 0, .null], vm := .none },
  { cls := 6, slots := #[.null, .int 0, .int 0, .null, .ref 24, .null, .int 0, .null], vm := .none },
  { cls := 6, slots := #[.null, .int 0, .int 0, .null, .ref 24, .null, .int 0, .null], vm := .none },
  { cls := 6, slots := #[.null, .int 0, .int 0, .null, .ref 24, .null, .int 0, .null], vm := .none },
  { cls := 6, slots := #[.null, .int 0, .int 0, .null, .ref 24, .null, .int 0, .null], vm := .none },
  { cls := 6, slots := #[.null, .int 0, .int 0, .null, .ref 26, .null, .int 0, .null], vm := .none },
  { cls := 6, slots := #[.null, .int 0, .int 0, .null, .ref 27, .null, .int 0, .null], vm := .none },
  { cls := 6, slots := #[.null, .int 0, .int 0, .null, .ref 27, .null, .int 0, .null], vm := .none },
  { cls := 6, slots := #[.null, .int 0, .int 0, .null, .ref 27, .null, .int 0, .null], vm := .none },
  { cls := 6, slots := #[.null, .int 0, .int 0, .null, .ref 27, .null, .int 0, .null], vm := .none },
  { cls := 6, slots := #[.null, .int 0, .int 0, .null, .ref 27, .null, .int 0, .null], vm := .none },
  { cls := 6, slots := #[.null, .int 0, .int 0, .null, .ref 25, .null, .int 0, .null], vm := .none },
  { cls := 6, slots := #[.null, .int 0, .int 0, .null, .ref 25, .null, .int 0, .null], vm := .none },
  { cls := 6, slots := #[.null, .int 0, .int 0, .null, .ref 25, .null, .int 0, .null], vm := .none },
  { cls := 6, slots := #[.null, .int 0, .int 0, .null, .ref 25, .null, .int 0, .null], vm := .none },
  { cls := 6, slots := #[.null, .int 0, .int 0, .null, .ref 28, .null, .int 0, .null], vm := .none },
  { cls := 6, slots := #[.null, .int 0, .int 0, .null, .ref 28, .null, .int 0, .null], vm := .none },
  { cls := 6, slots := #[.null, .int 0, .int 0, .null, .ref 28, .null, .int 0, .null], vm := .none },
  { cls := 6, slots := #[.null, .int 0, .int 0, .null, .ref 28, .null, .int 0, .null], vm := .none },
  { cls := 7, slots := #[.null, .int 0, .int 0], vm := .none },
  { cls := 7, slots := #[.null, .int 1, .int 0], vm := .none },
  { cls := 7, slots := #[.null, .int 4, .int 0], vm := .none },
  { cls := 7, slots := #[.null, .int 2, .int 0], vm := .none },
  { cls := 7, slots := #[.null, .int 3, .int 0], vm := .none },
  { cls := 7, slots := #[.null, .int 5, .int 0], vm := .none }]
def classes : Array Class := #[k0, k1, k2, k3, k4, k5, k6, k7, k8, k9, k10, k11, k12, k13]
def interned : List (Array UInt16 × Addr) := []
def slotsUsed : Nat := 215
def theMethod : MethodId := ⟨1, 1⟩
def args0 : Array Value := #[.int 5]
def aboutOver (below : List Frame) : State where
  vm := { classes := classes, interned := interned.toArray }
  heap := heap
  slotsUsed := slotsUsed
  threads := #[{ frames := .invoking theMethod args0 :: below }]
def below0 : List Frame := [.native { method := ⟨0, 0⟩, args := #[] }]
def about1 : State := aboutOver below0
def p0 : Program := .bare "" "" ""
def e0 : Env := launch0.env 0 0 0
theorem w_frames : about1.frames = Frame.invoking theMethod args0 :: below0 := rfl
set_option maxRecDepth 65536 in
theorem w_args : argsFit about1.vm theMethod args0 = true := by decide +kernel
set_option maxRecDepth 65536 in
theorem w_heap : heapFits about1 = true := by decide +kernel
set_option maxRecDepth 65536 in
theorem w_runnable : about1.curStatus? = some .runnable := by decide +kernel
set_option maxRecDepth 65536 in
theorem w_alone : about1.alone = true := by decide +kernel
set_option maxRecDepth 65536 in
theorem w_named : about1.methodNamed? x = some theMethod := by decide +kernel
set_option maxRecDepth 65536 in
theorem w_hears : about1.hears theMethod below0 = true := by decide +kernel
set_option maxRecDepth 65536 in
theorem w_ripe : about1.ripe theMethod args0 below0 = true := by decide +kernel
theorem w_running : about1.status = .running := rfl
set_option maxRecDepth 65536 in
theorem w_room : about1.hasRoom e0.platform room_1 = true :=
  launch0.hasRoom_least _ room_1 (by decide +kernel) (by decide +kernel) (by decide +kernel) (by decide +kernel) (by decide +kernel) (by decide +kernel)
theorem allAtoms_all (ts : List Jvm.Cond) (a : Array Jvm.Value) (st : Jvm.State) : (allAtoms ts).before a st = ts.all (fun c => c.before a st) := by
  induction ts with
  | nil => rfl
  | cons c t ih =>
    show (Jvm.Cond.and c (allAtoms t)).before a st = _
    rw [Jvm.Cond.before_and, ih, List.all_cons]
def words1 : List Jvm.Cond := Jvm.Cond.code x code maxLocals ret :: tables_1
/-- a 'code' word, met by the world's own term for the bytes: nothing is compared byte by byte -/
theorem code_word {y : MethodName} {bytes : ByteArray} {mx : Nat} {rt : Option FieldType} {a : Array Value} {s : State} {m : MethodId} {meth : Method} {c : Code} (h1 : s.methodNamed? y = some m) (h2 : s.vm.method? m = some meth) (h3 : meth.code = some c) (h4 : c.code = bytes)
    (h5 : (c.maxLocals == mx && c.exceptionTable.isEmpty && decide (c.maxStack ≤ mostOperands) && decide (meth.sig.returnType = rt) && !meth.locks && decide (parseMethodDescriptor y.desc = some meth.sig)) = true) : (Jvm.Cond.code y bytes mx rt).before a s = true := by
  simp only [Bool.and_eq_true, beq_iff_eq, Bool.not_eq_true', decide_eq_true_eq] at h5
  obtain ⟨⟨⟨⟨⟨g1, g2⟩, g3⟩, g4⟩, g5⟩, g6⟩ := h5
  simp [Cond.before, Cond.holds, Cond.value, h1, h2, h3, h4, g1, g2, g3, g4, g5, g6]
def isCode : Jvm.Cond → Bool
  | .code _ _ _ _ => true
  | _ => false
theorem all_split {L : List Jvm.Cond} {P : Jvm.Cond → Bool} (h1 : L.all (fun c => isCode c || P c) = true) (h2 : ∀ c ∈ L.filter isCode, P c = true) : L.all P = true := by
  refine List.all_eq_true.mpr fun c hc => ?_
  have h := List.all_eq_true.mp h1 c hc
  rcases Bool.eq_false_or_eq_true (isCode c) with hi | hi
  · exact h2 c (List.mem_filter.mpr ⟨hc, hi⟩)
  · simpa [hi] using h
set_option maxRecDepth 65536 in
theorem w_c0 : (Jvm.Cond.code x code maxLocals ret).before args0 about1 = true := code_word (m := ⟨1, 1⟩) (meth := k1m1) (c := k1c1) (by decide +kernel) rfl rfl rfl (by decide +kernel)
set_option maxRecDepth 65536 in
theorem w_c1 : (Jvm.Cond.code ({ cls := "com/example/forbid_or_permit/forbidorpermit/Kind", name := "takesLevel", desc := "()Z" } : Jvm.MethodName) prog_18_method_12_code (1 : Nat) (Option.some Jvm.ClassFile.FieldType.boolean)).before args0 about1 = true := code_word (m := ⟨6, 0⟩) (meth := k6m0) (c := k6c0) (by decide +kernel) rfl rfl rfl (by decide +kernel)
def codes1 : List Jvm.Cond := [Jvm.Cond.code x code maxLocals ret, Jvm.Cond.code ({ cls := "com/example/forbid_or_permit/forbidorpermit/Kind", name := "takesLevel", desc := "()Z" } : Jvm.MethodName) prog_18_method_12_code (1 : Nat) (Option.some Jvm.ClassFile.FieldType.boolean)]
set_option maxRecDepth 65536 in
theorem codes_eq : words1.filter isCode = codes1 := rfl
theorem w_codes : ∀ c ∈ words1.filter isCode, c.before args0 about1 = true := by
  rw [codes_eq]
  intro c hc
  simp only [codes1, List.mem_cons, List.not_mem_nil, or_false] at hc
  rcases hc with rfl | rfl
  · exact w_c0
  · exact w_c1
set_option maxRecDepth 65536 in
theorem w_t1 : (words1.take 24).all (fun c => isCode c || c.before args0 about1) = true := by decide +kernel
set_option maxRecDepth 65536 in
theorem w_t2 : ((words1.drop 24).take 24).all (fun c => isCode c || c.before args0 about1) = true := by decide +kernel
set_option maxRecDepth 65536 in
theorem w_t3 : ((words1.drop 24).drop 24).all (fun c => isCode c || c.before args0 about1) = true := by decide +kernel
theorem w_tables : (allAtoms (Jvm.Cond.code x code maxLocals ret :: tables_1)).before args0 about1 = true := by
  rw [allAtoms_all]
  show words1.all (fun c => c.before args0 about1) = true
  refine all_split ?_ w_codes
  rw [← List.take_append_drop 24 words1, List.all_append, w_t1, ← List.take_append_drop 24 (words1.drop 24), List.all_append, w_t2, w_t3]
  rfl
set_option maxRecDepth 65536 in
theorem w_case : (Jvm.Cond.and given_1 narrow_1).before args0 about1 = true := by decide +kernel
theorem w_applies : (headSpec (Jvm.Cond.code x code maxLocals ret :: tables_1) room_1).applies x e0.platform about1 = true :=
  (Spec.applies_iff w_frames).mpr ⟨w_running, w_runnable, w_alone, w_named, w_hears, w_ripe, w_room, w_tables⟩
theorem atStart : AtStart classFile x code maxLocals ret World_1 tables_1 room_1 Calls_1 rest_1 Pre_1 launch0 p0 e0 about1 theMethod args0 below0 :=
  ⟨lists_1, trivial, launch0.admits_env _ _ _, launch0.least_env, fairChoices_fair.cas, fairChoices_fair.clock, w_frames, w_args, w_heap, w_applies, trivial, trivial, w_case⟩
end start1
theorem witness_1 : WitnessClaimed_1 := ⟨start1.p0, start1.e0, start1.about1, start1.theMethod, start1.args0, start1.below0, start1.atStart⟩
end Jvm.Pilot.@@N@@
