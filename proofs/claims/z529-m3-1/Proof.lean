import JvmDerived
import JvmDerived.Pilot.@@N@@Statement
import JvmDerived.Pilot.@@N@@Code
set_option linter.unusedVariables false
set_option linter.unusedSimpArgs false
namespace Jvm.RoadKit
open Sem ClassFile Op Lib Jvm.Stand Jvm.Free Jvm.LawKit
section New
variable {p : Program} {l : Launch} {e : Env} {R : Room} {s : State} {m : MethodId} {args : Array Value} {below : List Frame} {meth : Method} {c : Code} {T : State} {locs : List Loc} {cells slots : Nat}
theorem retI (X : Stand p l e R s m args below meth c T locs cells slots) (hx : p.tables.exec = Jvm.exec) {pc : Nat} {Ls : Array Slot} {z : Int32} {rest : List Value} (hret : meth.sig.returnType = some .int) (hd : decode c.code pc = .ok (.ireturn, 1)) {fs : List Frame}
    (hl : ∀ (f : JFrame) (acts : List Action), f.method = m → f.locked = none → f.entered = [] → (doReturn e (T.setTop f) acts (some (.int z))).1 = T.setFrames fs) : Steps p.tables e below (T.setTop (mkF m pc Ls (.int z :: rest))) (T.setFrames fs) := by
  have hm' : T.vm.method? m = some meth := X.method'
  have hn : narrow .int (.int z) = .int z := rfl
  show Steps p.tables e below (T.setTop { method := m, pc := pc, locals := Ls, stack := _ :: rest, locked := none }) _
  jvm_step X.here [X.here.top, hx, hd, hm', hret, hn]
  first | (intro acts; rw [hl _ acts rfl rfl rfl]) | rw [hl _ _ rfl rfl rfl]
  exact Steps.refl _
end New
end Jvm.RoadKit
namespace Jvm.Pilot.@@N@@
open Jvm Jvm.ClassFile Sem Op Lib Jvm.Free Jvm.Stand Jvm.LawKit Jvm.RoadKit Bundle Jvm.Pilot.@@N@@.Jvm.D
theorem own_mod (x d : Int32) (D : Int) (hd : d.toInt = D) (h : 0 < D) : 0 ≤ ((x &&& (2147483647 : Int32)) % d).toInt ∧ ((x &&& (2147483647 : Int32)) % d).toInt < D := by
  have h1 := (c_and x 2147483647 (by decide)).1
  have h2 := (c_irem (x &&& 2147483647) d D hd).1 h1
  rw [h2]; exact ⟨Int.emod_nonneg _ (by omega), Int.emod_lt_of_pos _ h⟩
theorem own_nat {k : Int32} (h : 0 ≤ k.toInt) : k = Int32.ofNat k.toNatClampNeg := by
  apply Int32.toInt_inj.mp
  have e : (k.toNatClampNeg : Int) = k.toInt := by simp only [Int32.toNatClampNeg]; omega
  have b : k.toInt < 2147483648 := by have := k.toInt_lt; omega
  rw [Int32.toInt_ofNat_of_lt (by omega)]; omega
theorem own_clamp {k : Int32} (h : 0 ≤ k.toInt) {n : Nat} (hn : k.toInt < n) : k.toNatClampNeg < n := by
  simp only [Int32.toNatClampNeg]; omega
theorem own_clamp_of {j : Nat} (h : j < 2147483648) : (Int32.ofNat j).toNatClampNeg = j := by
  have e : (Int32.ofNat j).toInt = j := Int32.toInt_ofNat_of_lt h
  simp only [Int32.toNatClampNeg, e]; omega
theorem own_nei {x k : Int32} {z : Int} (h : ¬ x = k) (hk : k.toInt = z) : x.toInt ≠ z := fun e => h (Int32.toInt_inj.mp (e.trans hk.symm))
theorem own_eqi {x k : Int32} {z : Int} (h : x.toInt = z) (hk : k.toInt = z) : x = k := Int32.toInt_inj.mp (h.trans hk.symm)
theorem own_sta_keep {Z : State} {h h' : Heap} {C n d : String} {v : Value} {ws : List Addr} (F : Sta Z h C n d v) (K : Keep h h' ws) (q : ∀ a ∈ ws, ∃ c : Cell, h[a]? = some c ∧ c.vm.isStatics = false) : Sta Z h' C n d v := by
  obtain ⟨cf, i, k, f, st, cell, h1, h2, h3, h4, h5, h6, h7⟩ := F
  refine ⟨cf, i, k, f, st, cell, h1, h2, h3, h4, K.2.1 st cell h5 (fun hm => ?_), h6, h7⟩
  obtain ⟨c, e1, e2⟩ := q st hm
  cases h5.symm.trans e1
  rw [e2] at h6; cases h6
theorem own_ns {Z : State} {h : Heap} {C : String} {a : Addr} (E : Exa Z h a C) : ∃ c : Cell, h[a]? = some c ∧ c.vm.isStatics = false := by
  obtain ⟨c, k, h1, -, -, h4, -⟩ := E
  exact ⟨c, h1, h4⟩
def QL (n0 : Nat) (v : Option Value) (h : Heap) (L : List Loc) : Prop := v = some (.int (1 : Int32)) ∧ Fr n0 L
def QR (r : Value) (h0 : Heap) (n0 : Nat) (v : Option Value) (h : Heap) (L : List Loc) : Prop := v = some r ∧ Fr n0 L ∧ h = h0
theorem own_fldI {args : Array Value} {s : State} {t : Term} {C n d : String} {a : Addr} {k : Int32} (ht : t.eval args s none [] s = some (.ref a)) (h : (Jvm.Cond.eq (.field t C n d) (.int k)).value args s none s [] = some true) : Fld s s.heap a C n d (.int k) := by
  obtain ⟨u, w, e1, e2, k1, k2⟩ := cmp_v (Or.inl h)
  obtain rfl : w = .int k := (Option.some.inj (e2.symm.trans (Term.int_eval k)))
  obtain ⟨z, rfl⟩ := k2
  have hz : z = k := by simpa [Cond.value, e1, e2] using h
  subst hz
  rw [fld_at ht] at e1
  exact Fld.start e1
theorem own_fldR {args : Array Value} {s : State} {t u : Term} {C n d : String} {a b : Addr} (ht : t.eval args s none [] s = some (.ref a)) (hu : u.eval args s none [] s = some (.ref b)) (h : (Jvm.Cond.eq (.field t C n d) u).value args s none s [] = some true) : Fld s s.heap a C n d (.ref b) := by
  cases e1 : (Term.field t C n d).eval args s none [] s with
  | none => simp [Cond.value, e1] at h
  | some x =>
    have hx : x = .ref b := by
      cases x <;> simp [Cond.value, e1, hu] at h
      exact congrArg Value.ref h
    subst hx
    rw [fld_at ht] at e1
    exact Fld.start e1
theorem d1_0 : decode method_2_code 0 = .ok (.iload_n 0, 1) := by decide +kernel
theorem d1_1 : decode method_2_code 1 = .ok (.ifCond .ne 7, 3) := by decide +kernel
theorem d1_4 : decode method_2_code 4 = .ok (.getstatic 7, 3) := by decide +kernel
theorem d1_7 : decode method_2_code 7 = .ok (.areturn, 1) := by decide +kernel
theorem d1_8 : decode method_2_code 8 = .ok (.iload_n 0, 1) := by decide +kernel
theorem d1_9 : decode method_2_code 9 = .ok (.iconst 1, 1) := by decide +kernel
theorem d1_10 : decode method_2_code 10 = .ok (.if_icmp .ne 7, 3) := by decide +kernel
theorem d1_13 : decode method_2_code 13 = .ok (.getstatic 13, 3) := by decide +kernel
theorem d1_16 : decode method_2_code 16 = .ok (.areturn, 1) := by decide +kernel
theorem d1_17 : decode method_2_code 17 = .ok (.iload_n 0, 1) := by decide +kernel
theorem d1_18 : decode method_2_code 18 = .ok (.iconst 2, 1) := by decide +kernel
theorem d1_19 : decode method_2_code 19 = .ok (.if_icmp .ne 7, 3) := by decide +kernel
theorem d1_22 : decode method_2_code 22 = .ok (.getstatic 16, 3) := by decide +kernel
theorem d1_25 : decode method_2_code 25 = .ok (.areturn, 1) := by decide +kernel
theorem d1_26 : decode method_2_code 26 = .ok (.iload_n 0, 1) := by decide +kernel
theorem d1_27 : decode method_2_code 27 = .ok (.iconst 3, 1) := by decide +kernel
theorem d1_28 : decode method_2_code 28 = .ok (.if_icmp .ne 7, 3) := by decide +kernel
theorem d1_31 : decode method_2_code 31 = .ok (.getstatic 19, 3) := by decide +kernel
theorem d1_34 : decode method_2_code 34 = .ok (.areturn, 1) := by decide +kernel
theorem d1_35 : decode method_2_code 35 = .ok (.iload_n 0, 1) := by decide +kernel
theorem d1_36 : decode method_2_code 36 = .ok (.iconst 4, 1) := by decide +kernel
theorem d1_37 : decode method_2_code 37 = .ok (.if_icmp .ne 7, 3) := by decide +kernel
theorem d1_40 : decode method_2_code 40 = .ok (.getstatic 22, 3) := by decide +kernel
theorem d1_43 : decode method_2_code 43 = .ok (.areturn, 1) := by decide +kernel
theorem d1_44 : decode method_2_code 44 = .ok (.iload_n 0, 1) := by decide +kernel
theorem d1_45 : decode method_2_code 45 = .ok (.iconst 5, 1) := by decide +kernel
theorem d1_46 : decode method_2_code 46 = .ok (.if_icmp .ne 7, 3) := by decide +kernel
theorem d1_49 : decode method_2_code 49 = .ok (.getstatic 25, 3) := by decide +kernel
theorem d1_52 : decode method_2_code 52 = .ok (.areturn, 1) := by decide +kernel
theorem d1_53 : decode method_2_code 53 = .ok (.iload_n 0, 1) := by decide +kernel
theorem d1_54 : decode method_2_code 54 = .ok (.bipush 6, 2) := by decide +kernel
theorem d1_56 : decode method_2_code 56 = .ok (.if_icmp .ne 7, 3) := by decide +kernel
theorem d1_59 : decode method_2_code 59 = .ok (.getstatic 28, 3) := by decide +kernel
theorem d1_62 : decode method_2_code 62 = .ok (.areturn, 1) := by decide +kernel
theorem d1_63 : decode method_2_code 63 = .ok (.iload_n 0, 1) := by decide +kernel
theorem d1_64 : decode method_2_code 64 = .ok (.bipush 7, 2) := by decide +kernel
theorem d1_66 : decode method_2_code 66 = .ok (.if_icmp .ne 7, 3) := by decide +kernel
theorem d1_69 : decode method_2_code 69 = .ok (.getstatic 31, 3) := by decide +kernel
theorem d1_72 : decode method_2_code 72 = .ok (.areturn, 1) := by decide +kernel
theorem d1_73 : decode method_2_code 73 = .ok (.getstatic 34, 3) := by decide +kernel
theorem d1_76 : decode method_2_code 76 = .ok (.areturn, 1) := by decide +kernel
theorem pn_1 : plainName "com/example/halfword/halfword/format/MethodHandleKindIsFieldAccessorPinLaw" = true := by first | (simp [plainName, overriddenIn]; done) | decide +kernel
theorem ef_rm1 (m : MethodId) (x0 : Int32) : entryFrame m #[(.int x0)] 1 = mkF m 0 #[.val (.int x0)] [] := by first | (simp [entryFrame, mkF, argsToLocals, Value.category]; done) | rfl
set_option maxRecDepth 65536 in
set_option maxHeartbeats 40000000 in
theorem rm1 (l : Launch) (Z : State) (a0 : Array Value) (hw : ∀ d ∈ tables_1, d.before a0 Z = true) (ws : List Jvm.Cond) (p0 : Int32) (W : Nat → Addr) (h0 : Heap) (n0 : Nat) (Z0 : n0 ≤ h0.size) (S_STATIC_PUT : Sta Z h0 "com/example/halfword/halfword/format/MethodHandleKind" "STATIC_PUT" "Lcom/example/halfword/halfword/format/MethodHandleKind;" (.ref (W 0))) (S_STATIC_GET : Sta Z h0 "com/example/halfword/halfword/format/MethodHandleKind" "STATIC_GET" "Lcom/example/halfword/halfword/format/MethodHandleKind;" (.ref (W 1))) (S_INSTANCE_PUT : Sta Z h0 "com/example/halfword/halfword/format/MethodHandleKind" "INSTANCE_PUT" "Lcom/example/halfword/halfword/format/MethodHandleKind;" (.ref (W 2))) (S_INSTANCE_GET : Sta Z h0 "com/example/halfword/halfword/format/MethodHandleKind" "INSTANCE_GET" "Lcom/example/halfword/halfword/format/MethodHandleKind;" (.ref (W 3))) (S_INVOKE_STATIC : Sta Z h0 "com/example/halfword/halfword/format/MethodHandleKind" "INVOKE_STATIC" "Lcom/example/halfword/halfword/format/MethodHandleKind;" (.ref (W 4))) (S_INVOKE_INSTANCE : Sta Z h0 "com/example/halfword/halfword/format/MethodHandleKind" "INVOKE_INSTANCE" "Lcom/example/halfword/halfword/format/MethodHandleKind;" (.ref (W 5))) (S_INVOKE_CONSTRUCTOR : Sta Z h0 "com/example/halfword/halfword/format/MethodHandleKind" "INVOKE_CONSTRUCTOR" "Lcom/example/halfword/halfword/format/MethodHandleKind;" (.ref (W 6))) (S_INVOKE_DIRECT : Sta Z h0 "com/example/halfword/halfword/format/MethodHandleKind" "INVOKE_DIRECT" "Lcom/example/halfword/halfword/format/MethodHandleKind;" (.ref (W 7))) (S_INVOKE_INTERFACE : Sta Z h0 "com/example/halfword/halfword/format/MethodHandleKind" "INVOKE_INTERFACE" "Lcom/example/halfword/halfword/format/MethodHandleKind;" (.ref (W 8))) (hk0 : 0 ≤ p0.toInt) (hk1 : p0.toInt < 9) :
    MetFree l (⟨"com/example/halfword/halfword/format/MethodHandleKindIsFieldAccessorPinLaw", "pick", "(I)Lcom/example/halfword/halfword/format/MethodHandleKind;"⟩ : MethodName) (head1 (Jvm.Cond.code (⟨"com/example/halfword/halfword/format/MethodHandleKindIsFieldAccessorPinLaw", "pick", "(I)Lcom/example/halfword/halfword/format/MethodHandleKind;"⟩ : MethodName) method_2_code 1 (some (.object "com/example/halfword/halfword/format/MethodHandleKind")) :: ws) ({ frames := 0, cells := 0, slots := 0, locals := 0 } : Room)) (fun a U => a = #[(.int p0)] ∧ Z.Warmed39 U.vm ∧ U.heap = h0) (fun _ _ _ _ _ => True) (fun _ U o U' => ∃ v L, o = .returned v ∧ QR (.ref (W p0.toNatClampNeg)) h0 n0 v U'.heap L ∧ FrameEnd U o U' L ({ frames := 0, cells := 0, slots := 0, locals := 0 } : Room).cells ({ frames := 0, cells := 0, slots := 0, locals := 0 } : Room).slots) := by
  refine MetFree.of_bodySF (plainFor_of_name pn_1) hisR ?_
  intro p e s m args below meth c s₁ Bd hml0 hP hK
  obtain ⟨rfl, hZ, hh⟩ := hP
  have hx := Bd.exec
  have hby := Bd.bytes
  have hml : c.maxLocals = 1 := hml0
  have hown : s.vm.findClass "com/example/halfword/halfword/format/MethodHandleKindIsFieldAccessorPinLaw" = some m.cls := findClass_of_methodNamed Bd.named
  have hnm := (name_of_methodNamed Bd.named Bd.method).1
  have X0 : Stand p l e ({ frames := 0, cells := 0, slots := 0, locals := 0 } : Room) s m #[(.int p0)] below meth c s₁ [] 0 0 := Stand.of_body Bd
  have e0 : s₁.heap = h0 := by rw [← hh, Bd.state]; rfl
  have N0 := Fr.nil n0
  have pre0 : ∀ t, Steps p.tables e below (s₁.setTop (mkF m 0 #[.val (.int p0)] [])) t → Steps p.tables e below (s₁.setTop (entryFrame m #[(.int p0)] 1)) t := fun t k => castTop (ef_rm1 m p0) k
  have pre1 : ∀ t, Steps p.tables e below (s₁.setTop (mkF m 1 #[.val (.int p0)] [(.int p0)])) t → Steps p.tables e below (s₁.setTop (entryFrame m #[(.int p0)] 1)) t := by
    intro t kt
    refine pre0 t ?_
    show Steps p.tables e below (s₁.setTop (mkF m 0 #[.val (.int p0)] [])) _
    refine XS.iloadN X0.here hx rfl (hb hby d1_0) rfl ?_
    exact kt
  by_cases hc2 : p0 = (0 : Int32)
  · skip
    obtain ⟨T3, X3, e3, st3⟩ := getS2 X0 hx hZ hown (host := "") (Or.inl (hw _ (List.mem_of_getElem? (i := 5) rfl))) Via.refl e0 S_STATIC_PUT (g := (mkF m 4 #[.val (.int p0)] [])) rfl (hb hby d1_4)
    obtain ⟨fs, hr, hrun, hended, hW, hsame⟩ := X3.leave (v := some (.ref (W 0))) (fun h => by rw [Bd.returns] at h; cases h)
    refine ⟨_, _, pre1 _ ?_, hrun, hended, _, _, rfl, ?_, ⟨_, rfl⟩, hW, hsame.mono (by decide) (by decide)⟩
    · skip
      show Steps p.tables e below (s₁.setTop (mkF m 1 #[.val (.int p0)] [(.int p0)])) _
      refine XS.ifNo X0.here hx rfl (hb hby d1_1) rfl ((if0 _ _).trans (teq hc2).2) ?_
      show Steps p.tables e below (s₁.setTop (mkF m 4 #[.val (.int p0)] [])) _
      refine st3 _ ?_
      show Steps p.tables e below (T3.setTop (mkF m 7 #[.val (.int p0)] [(.ref (W 0))])) _
      jvm_step X3.here [X3.here.top, hx, (hb hby d1_7), X3.method', Bd.returns, Value.isRef, FieldType.isReference]
      first | (intro acts; rw [hr _ acts rfl rfl rfl]) | rw [hr _ _ rfl rfl rfl]
      exact Steps.refl _
    · show QR (.ref (W p0.toNatClampNeg)) h0 n0 _ T3.heap _
      rw [e3]
      exact ⟨(by rw [hc2]; rfl), N0, rfl⟩
  · skip
    have pre4 : ∀ t, Steps p.tables e below (s₁.setTop (mkF m 10 #[.val (.int p0)] [(.int (1 : Int32)), (.int p0)])) t → Steps p.tables e below (s₁.setTop (entryFrame m #[(.int p0)] 1)) t := by
      intro t kt
      refine pre1 t ?_
      show Steps p.tables e below (s₁.setTop (mkF m 1 #[.val (.int p0)] [(.int p0)])) _
      refine XS.ifYes X0.here hx rfl (pc0 := 1) (pc' := 8) rfl (hb hby d1_1) rfl ((if0 _ _).trans (feq hc2).2) (by decide) (by decide) ?_
      show Steps p.tables e below (s₁.setTop (mkF m 8 #[.val (.int p0)] [])) _
      refine XS.iloadN X0.here hx rfl (hb hby d1_8) rfl ?_
      show Steps p.tables e below (s₁.setTop (mkF m 9 #[.val (.int p0)] [(.int p0)])) _
      refine XS.iconst X0.here hx rfl (hb hby d1_9) ?_
      exact kt
    by_cases hc5 : p0 = (1 : Int32)
    · skip
      obtain ⟨T6, X6, e6, st6⟩ := getS2 X0 hx hZ hown (host := "") (Or.inl (hw _ (List.mem_of_getElem? (i := 23) rfl))) Via.refl e0 S_STATIC_GET (g := (mkF m 13 #[.val (.int p0)] [])) rfl (hb hby d1_13)
      obtain ⟨fs, hr, hrun, hended, hW, hsame⟩ := X6.leave (v := some (.ref (W 1))) (fun h => by rw [Bd.returns] at h; cases h)
      refine ⟨_, _, pre4 _ ?_, hrun, hended, _, _, rfl, ?_, ⟨_, rfl⟩, hW, hsame.mono (by decide) (by decide)⟩
      · skip
        show Steps p.tables e below (s₁.setTop (mkF m 10 #[.val (.int p0)] [(.int (1 : Int32)), (.int p0)])) _
        refine XS.icmpNo X0.here hx rfl (hb hby d1_10) rfl (teq hc5).2 ?_
        show Steps p.tables e below (s₁.setTop (mkF m 13 #[.val (.int p0)] [])) _
        refine st6 _ ?_
        show Steps p.tables e below (T6.setTop (mkF m 16 #[.val (.int p0)] [(.ref (W 1))])) _
        jvm_step X6.here [X6.here.top, hx, (hb hby d1_16), X6.method', Bd.returns, Value.isRef, FieldType.isReference]
        first | (intro acts; rw [hr _ acts rfl rfl rfl]) | rw [hr _ _ rfl rfl rfl]
        exact Steps.refl _
      · show QR (.ref (W p0.toNatClampNeg)) h0 n0 _ T6.heap _
        rw [e6]
        exact ⟨(by rw [hc5]; rfl), N0, rfl⟩
    · skip
      have pre7 : ∀ t, Steps p.tables e below (s₁.setTop (mkF m 19 #[.val (.int p0)] [(.int (2 : Int32)), (.int p0)])) t → Steps p.tables e below (s₁.setTop (entryFrame m #[(.int p0)] 1)) t := by
        intro t kt
        refine pre4 t ?_
        show Steps p.tables e below (s₁.setTop (mkF m 10 #[.val (.int p0)] [(.int (1 : Int32)), (.int p0)])) _
        refine XS.icmpYes X0.here hx rfl (pc0 := 10) (pc' := 17) rfl (hb hby d1_10) rfl (feq hc5).2 (by decide) (by decide) ?_
        show Steps p.tables e below (s₁.setTop (mkF m 17 #[.val (.int p0)] [])) _
        refine XS.iloadN X0.here hx rfl (hb hby d1_17) rfl ?_
        show Steps p.tables e below (s₁.setTop (mkF m 18 #[.val (.int p0)] [(.int p0)])) _
        refine XS.iconst X0.here hx rfl (hb hby d1_18) ?_
        exact kt
      by_cases hc8 : p0 = (2 : Int32)
      · skip
        obtain ⟨T9, X9, e9, st9⟩ := getS2 X0 hx hZ hown (host := "") (Or.inl (hw _ (List.mem_of_getElem? (i := 21) rfl))) Via.refl e0 S_INSTANCE_PUT (g := (mkF m 22 #[.val (.int p0)] [])) rfl (hb hby d1_22)
        obtain ⟨fs, hr, hrun, hended, hW, hsame⟩ := X9.leave (v := some (.ref (W 2))) (fun h => by rw [Bd.returns] at h; cases h)
        refine ⟨_, _, pre7 _ ?_, hrun, hended, _, _, rfl, ?_, ⟨_, rfl⟩, hW, hsame.mono (by decide) (by decide)⟩
        · skip
          show Steps p.tables e below (s₁.setTop (mkF m 19 #[.val (.int p0)] [(.int (2 : Int32)), (.int p0)])) _
          refine XS.icmpNo X0.here hx rfl (hb hby d1_19) rfl (teq hc8).2 ?_
          show Steps p.tables e below (s₁.setTop (mkF m 22 #[.val (.int p0)] [])) _
          refine st9 _ ?_
          show Steps p.tables e below (T9.setTop (mkF m 25 #[.val (.int p0)] [(.ref (W 2))])) _
          jvm_step X9.here [X9.here.top, hx, (hb hby d1_25), X9.method', Bd.returns, Value.isRef, FieldType.isReference]
          first | (intro acts; rw [hr _ acts rfl rfl rfl]) | rw [hr _ _ rfl rfl rfl]
          exact Steps.refl _
        · show QR (.ref (W p0.toNatClampNeg)) h0 n0 _ T9.heap _
          rw [e9]
          exact ⟨(by rw [hc8]; rfl), N0, rfl⟩
      · skip
        have pre10 : ∀ t, Steps p.tables e below (s₁.setTop (mkF m 28 #[.val (.int p0)] [(.int (3 : Int32)), (.int p0)])) t → Steps p.tables e below (s₁.setTop (entryFrame m #[(.int p0)] 1)) t := by
          intro t kt
          refine pre7 t ?_
          show Steps p.tables e below (s₁.setTop (mkF m 19 #[.val (.int p0)] [(.int (2 : Int32)), (.int p0)])) _
          refine XS.icmpYes X0.here hx rfl (pc0 := 19) (pc' := 26) rfl (hb hby d1_19) rfl (feq hc8).2 (by decide) (by decide) ?_
          show Steps p.tables e below (s₁.setTop (mkF m 26 #[.val (.int p0)] [])) _
          refine XS.iloadN X0.here hx rfl (hb hby d1_26) rfl ?_
          show Steps p.tables e below (s₁.setTop (mkF m 27 #[.val (.int p0)] [(.int p0)])) _
          refine XS.iconst X0.here hx rfl (hb hby d1_27) ?_
          exact kt
        by_cases hc11 : p0 = (3 : Int32)
        · skip
          obtain ⟨T12, X12, e12, st12⟩ := getS2 X0 hx hZ hown (host := "") (Or.inl (hw _ (List.mem_of_getElem? (i := 20) rfl))) Via.refl e0 S_INSTANCE_GET (g := (mkF m 31 #[.val (.int p0)] [])) rfl (hb hby d1_31)
          obtain ⟨fs, hr, hrun, hended, hW, hsame⟩ := X12.leave (v := some (.ref (W 3))) (fun h => by rw [Bd.returns] at h; cases h)
          refine ⟨_, _, pre10 _ ?_, hrun, hended, _, _, rfl, ?_, ⟨_, rfl⟩, hW, hsame.mono (by decide) (by decide)⟩
          · skip
            show Steps p.tables e below (s₁.setTop (mkF m 28 #[.val (.int p0)] [(.int (3 : Int32)), (.int p0)])) _
            refine XS.icmpNo X0.here hx rfl (hb hby d1_28) rfl (teq hc11).2 ?_
            show Steps p.tables e below (s₁.setTop (mkF m 31 #[.val (.int p0)] [])) _
            refine st12 _ ?_
            show Steps p.tables e below (T12.setTop (mkF m 34 #[.val (.int p0)] [(.ref (W 3))])) _
            jvm_step X12.here [X12.here.top, hx, (hb hby d1_34), X12.method', Bd.returns, Value.isRef, FieldType.isReference]
            first | (intro acts; rw [hr _ acts rfl rfl rfl]) | rw [hr _ _ rfl rfl rfl]
            exact Steps.refl _
          · show QR (.ref (W p0.toNatClampNeg)) h0 n0 _ T12.heap _
            rw [e12]
            exact ⟨(by rw [hc11]; rfl), N0, rfl⟩
        · skip
          have pre13 : ∀ t, Steps p.tables e below (s₁.setTop (mkF m 37 #[.val (.int p0)] [(.int (4 : Int32)), (.int p0)])) t → Steps p.tables e below (s₁.setTop (entryFrame m #[(.int p0)] 1)) t := by
            intro t kt
            refine pre10 t ?_
            show Steps p.tables e below (s₁.setTop (mkF m 28 #[.val (.int p0)] [(.int (3 : Int32)), (.int p0)])) _
            refine XS.icmpYes X0.here hx rfl (pc0 := 28) (pc' := 35) rfl (hb hby d1_28) rfl (feq hc11).2 (by decide) (by decide) ?_
            show Steps p.tables e below (s₁.setTop (mkF m 35 #[.val (.int p0)] [])) _
            refine XS.iloadN X0.here hx rfl (hb hby d1_35) rfl ?_
            show Steps p.tables e below (s₁.setTop (mkF m 36 #[.val (.int p0)] [(.int p0)])) _
            refine XS.iconst X0.here hx rfl (hb hby d1_36) ?_
            exact kt
          by_cases hc14 : p0 = (4 : Int32)
          · skip
            obtain ⟨T15, X15, e15, st15⟩ := getS2 X0 hx hZ hown (host := "") (Or.inl (hw _ (List.mem_of_getElem? (i := 27) rfl))) Via.refl e0 S_INVOKE_STATIC (g := (mkF m 40 #[.val (.int p0)] [])) rfl (hb hby d1_40)
            obtain ⟨fs, hr, hrun, hended, hW, hsame⟩ := X15.leave (v := some (.ref (W 4))) (fun h => by rw [Bd.returns] at h; cases h)
            refine ⟨_, _, pre13 _ ?_, hrun, hended, _, _, rfl, ?_, ⟨_, rfl⟩, hW, hsame.mono (by decide) (by decide)⟩
            · skip
              show Steps p.tables e below (s₁.setTop (mkF m 37 #[.val (.int p0)] [(.int (4 : Int32)), (.int p0)])) _
              refine XS.icmpNo X0.here hx rfl (hb hby d1_37) rfl (teq hc14).2 ?_
              show Steps p.tables e below (s₁.setTop (mkF m 40 #[.val (.int p0)] [])) _
              refine st15 _ ?_
              show Steps p.tables e below (T15.setTop (mkF m 43 #[.val (.int p0)] [(.ref (W 4))])) _
              jvm_step X15.here [X15.here.top, hx, (hb hby d1_43), X15.method', Bd.returns, Value.isRef, FieldType.isReference]
              first | (intro acts; rw [hr _ acts rfl rfl rfl]) | rw [hr _ _ rfl rfl rfl]
              exact Steps.refl _
            · show QR (.ref (W p0.toNatClampNeg)) h0 n0 _ T15.heap _
              rw [e15]
              exact ⟨(by rw [hc14]; rfl), N0, rfl⟩
          · skip
            have pre16 : ∀ t, Steps p.tables e below (s₁.setTop (mkF m 46 #[.val (.int p0)] [(.int (5 : Int32)), (.int p0)])) t → Steps p.tables e below (s₁.setTop (entryFrame m #[(.int p0)] 1)) t := by
              intro t kt
              refine pre13 t ?_
              show Steps p.tables e below (s₁.setTop (mkF m 37 #[.val (.int p0)] [(.int (4 : Int32)), (.int p0)])) _
              refine XS.icmpYes X0.here hx rfl (pc0 := 37) (pc' := 44) rfl (hb hby d1_37) rfl (feq hc14).2 (by decide) (by decide) ?_
              show Steps p.tables e below (s₁.setTop (mkF m 44 #[.val (.int p0)] [])) _
              refine XS.iloadN X0.here hx rfl (hb hby d1_44) rfl ?_
              show Steps p.tables e below (s₁.setTop (mkF m 45 #[.val (.int p0)] [(.int p0)])) _
              refine XS.iconst X0.here hx rfl (hb hby d1_45) ?_
              exact kt
            by_cases hc17 : p0 = (5 : Int32)
            · skip
              obtain ⟨T18, X18, e18, st18⟩ := getS2 X0 hx hZ hown (host := "") (Or.inl (hw _ (List.mem_of_getElem? (i := 33) rfl))) Via.refl e0 S_INVOKE_INSTANCE (g := (mkF m 49 #[.val (.int p0)] [])) rfl (hb hby d1_49)
              obtain ⟨fs, hr, hrun, hended, hW, hsame⟩ := X18.leave (v := some (.ref (W 5))) (fun h => by rw [Bd.returns] at h; cases h)
              refine ⟨_, _, pre16 _ ?_, hrun, hended, _, _, rfl, ?_, ⟨_, rfl⟩, hW, hsame.mono (by decide) (by decide)⟩
              · skip
                show Steps p.tables e below (s₁.setTop (mkF m 46 #[.val (.int p0)] [(.int (5 : Int32)), (.int p0)])) _
                refine XS.icmpNo X0.here hx rfl (hb hby d1_46) rfl (teq hc17).2 ?_
                show Steps p.tables e below (s₁.setTop (mkF m 49 #[.val (.int p0)] [])) _
                refine st18 _ ?_
                show Steps p.tables e below (T18.setTop (mkF m 52 #[.val (.int p0)] [(.ref (W 5))])) _
                jvm_step X18.here [X18.here.top, hx, (hb hby d1_52), X18.method', Bd.returns, Value.isRef, FieldType.isReference]
                first | (intro acts; rw [hr _ acts rfl rfl rfl]) | rw [hr _ _ rfl rfl rfl]
                exact Steps.refl _
              · show QR (.ref (W p0.toNatClampNeg)) h0 n0 _ T18.heap _
                rw [e18]
                exact ⟨(by rw [hc17]; rfl), N0, rfl⟩
            · skip
              have pre19 : ∀ t, Steps p.tables e below (s₁.setTop (mkF m 56 #[.val (.int p0)] [(.int (6 : Int32)), (.int p0)])) t → Steps p.tables e below (s₁.setTop (entryFrame m #[(.int p0)] 1)) t := by
                intro t kt
                refine pre16 t ?_
                show Steps p.tables e below (s₁.setTop (mkF m 46 #[.val (.int p0)] [(.int (5 : Int32)), (.int p0)])) _
                refine XS.icmpYes X0.here hx rfl (pc0 := 46) (pc' := 53) rfl (hb hby d1_46) rfl (feq hc17).2 (by decide) (by decide) ?_
                show Steps p.tables e below (s₁.setTop (mkF m 53 #[.val (.int p0)] [])) _
                refine XS.iloadN X0.here hx rfl (hb hby d1_53) rfl ?_
                show Steps p.tables e below (s₁.setTop (mkF m 54 #[.val (.int p0)] [(.int p0)])) _
                refine XS.bipush X0.here hx rfl (hb hby d1_54) ?_
                exact kt
              by_cases hc20 : p0 = (6 : Int32)
              · skip
                obtain ⟨T21, X21, e21, st21⟩ := getS2 X0 hx hZ hown (host := "") (Or.inl (hw _ (List.mem_of_getElem? (i := 31) rfl))) Via.refl e0 S_INVOKE_CONSTRUCTOR (g := (mkF m 59 #[.val (.int p0)] [])) rfl (hb hby d1_59)
                obtain ⟨fs, hr, hrun, hended, hW, hsame⟩ := X21.leave (v := some (.ref (W 6))) (fun h => by rw [Bd.returns] at h; cases h)
                refine ⟨_, _, pre19 _ ?_, hrun, hended, _, _, rfl, ?_, ⟨_, rfl⟩, hW, hsame.mono (by decide) (by decide)⟩
                · skip
                  show Steps p.tables e below (s₁.setTop (mkF m 56 #[.val (.int p0)] [(.int (6 : Int32)), (.int p0)])) _
                  refine XS.icmpNo X0.here hx rfl (hb hby d1_56) rfl (teq hc20).2 ?_
                  show Steps p.tables e below (s₁.setTop (mkF m 59 #[.val (.int p0)] [])) _
                  refine st21 _ ?_
                  show Steps p.tables e below (T21.setTop (mkF m 62 #[.val (.int p0)] [(.ref (W 6))])) _
                  jvm_step X21.here [X21.here.top, hx, (hb hby d1_62), X21.method', Bd.returns, Value.isRef, FieldType.isReference]
                  first | (intro acts; rw [hr _ acts rfl rfl rfl]) | rw [hr _ _ rfl rfl rfl]
                  exact Steps.refl _
                · show QR (.ref (W p0.toNatClampNeg)) h0 n0 _ T21.heap _
                  rw [e21]
                  exact ⟨(by rw [hc20]; rfl), N0, rfl⟩
              · skip
                have pre22 : ∀ t, Steps p.tables e below (s₁.setTop (mkF m 66 #[.val (.int p0)] [(.int (7 : Int32)), (.int p0)])) t → Steps p.tables e below (s₁.setTop (entryFrame m #[(.int p0)] 1)) t := by
                  intro t kt
                  refine pre19 t ?_
                  show Steps p.tables e below (s₁.setTop (mkF m 56 #[.val (.int p0)] [(.int (6 : Int32)), (.int p0)])) _
                  refine XS.icmpYes X0.here hx rfl (pc0 := 56) (pc' := 63) rfl (hb hby d1_56) rfl (feq hc20).2 (by decide) (by decide) ?_
                  show Steps p.tables e below (s₁.setTop (mkF m 63 #[.val (.int p0)] [])) _
                  refine XS.iloadN X0.here hx rfl (hb hby d1_63) rfl ?_
                  show Steps p.tables e below (s₁.setTop (mkF m 64 #[.val (.int p0)] [(.int p0)])) _
                  refine XS.bipush X0.here hx rfl (hb hby d1_64) ?_
                  exact kt
                by_cases hc23 : p0 = (7 : Int32)
                · skip
                  obtain ⟨T24, X24, e24, st24⟩ := getS2 X0 hx hZ hown (host := "") (Or.inl (hw _ (List.mem_of_getElem? (i := 25) rfl))) Via.refl e0 S_INVOKE_DIRECT (g := (mkF m 69 #[.val (.int p0)] [])) rfl (hb hby d1_69)
                  obtain ⟨fs, hr, hrun, hended, hW, hsame⟩ := X24.leave (v := some (.ref (W 7))) (fun h => by rw [Bd.returns] at h; cases h)
                  refine ⟨_, _, pre22 _ ?_, hrun, hended, _, _, rfl, ?_, ⟨_, rfl⟩, hW, hsame.mono (by decide) (by decide)⟩
                  · skip
                    show Steps p.tables e below (s₁.setTop (mkF m 66 #[.val (.int p0)] [(.int (7 : Int32)), (.int p0)])) _
                    refine XS.icmpNo X0.here hx rfl (hb hby d1_66) rfl (teq hc23).2 ?_
                    show Steps p.tables e below (s₁.setTop (mkF m 69 #[.val (.int p0)] [])) _
                    refine st24 _ ?_
                    show Steps p.tables e below (T24.setTop (mkF m 72 #[.val (.int p0)] [(.ref (W 7))])) _
                    jvm_step X24.here [X24.here.top, hx, (hb hby d1_72), X24.method', Bd.returns, Value.isRef, FieldType.isReference]
                    first | (intro acts; rw [hr _ acts rfl rfl rfl]) | rw [hr _ _ rfl rfl rfl]
                    exact Steps.refl _
                  · show QR (.ref (W p0.toNatClampNeg)) h0 n0 _ T24.heap _
                    rw [e24]
                    exact ⟨(by rw [hc23]; rfl), N0, rfl⟩
                · skip
                  obtain ⟨T25, X25, e25, st25⟩ := getS2 X0 hx hZ hown (host := "") (Or.inl (hw _ (List.mem_of_getElem? (i := 29) rfl))) Via.refl e0 S_INVOKE_INTERFACE (g := (mkF m 73 #[.val (.int p0)] [])) rfl (hb hby d1_73)
                  obtain ⟨fs, hr, hrun, hended, hW, hsame⟩ := X25.leave (v := some (.ref (W 8))) (fun h => by rw [Bd.returns] at h; cases h)
                  refine ⟨_, _, pre22 _ ?_, hrun, hended, _, _, rfl, ?_, ⟨_, rfl⟩, hW, hsame.mono (by decide) (by decide)⟩
                  · skip
                    show Steps p.tables e below (s₁.setTop (mkF m 66 #[.val (.int p0)] [(.int (7 : Int32)), (.int p0)])) _
                    refine XS.icmpYes X0.here hx rfl (pc0 := 66) (pc' := 73) rfl (hb hby d1_66) rfl (feq hc23).2 (by decide) (by decide) ?_
                    show Steps p.tables e below (s₁.setTop (mkF m 73 #[.val (.int p0)] [])) _
                    refine st25 _ ?_
                    show Steps p.tables e below (T25.setTop (mkF m 76 #[.val (.int p0)] [(.ref (W 8))])) _
                    jvm_step X25.here [X25.here.top, hx, (hb hby d1_76), X25.method', Bd.returns, Value.isRef, FieldType.isReference]
                    first | (intro acts; rw [hr _ acts rfl rfl rfl]) | rw [hr _ _ rfl rfl rfl]
                    exact Steps.refl _
                  · show QR (.ref (W p0.toNatClampNeg)) h0 n0 _ T25.heap _
                    rw [e25]
                    have t0 := own_nei hc2 (z := 0) rfl
                    have t1 := own_nei hc5 (z := 1) rfl
                    have t2 := own_nei hc8 (z := 2) rfl
                    have t3 := own_nei hc11 (z := 3) rfl
                    have t4 := own_nei hc14 (z := 4) rfl
                    have t5 := own_nei hc17 (z := 5) rfl
                    have t6 := own_nei hc20 (z := 6) rfl
                    have t7 := own_nei hc23 (z := 7) rfl
                    have hl : p0 = (8 : Int32) := own_eqi (z := 8) (by omega) rfl
                    exact ⟨(by rw [hl]; rfl), N0, rfl⟩
theorem d2_0 : decode prog_58_method_7_code 0 = .ok (.aload_n 0, 1) := by decide +kernel
theorem d2_1 : decode prog_58_method_7_code 1 = .ok (.getfield 50, 3) := by decide +kernel
theorem d2_4 : decode prog_58_method_7_code 4 = .ok (.getstatic 13, 3) := by decide +kernel
theorem d2_7 : decode prog_58_method_7_code 7 = .ok (.getfield 50, 3) := by decide +kernel
theorem d2_10 : decode prog_58_method_7_code 10 = .ok (.if_icmp .gt 7, 3) := by decide +kernel
theorem d2_17 : decode prog_58_method_7_code 17 = .ok (.iconst 0, 1) := by decide +kernel
theorem d2_18 : decode prog_58_method_7_code 18 = .ok (.ireturn, 1) := by decide +kernel
theorem d2_13 : decode prog_58_method_7_code 13 = .ok (.iconst 1, 1) := by decide +kernel
theorem d2_14 : decode prog_58_method_7_code 14 = .ok (.goto 4, 3) := by decide +kernel
theorem pn_2 : plainName "com/example/halfword/halfword/format/MethodHandleKind" = true := by first | (simp [plainName, overriddenIn]; done) | decide +kernel
theorem ef_rm2 (m : MethodId) (x0 : Addr) : entryFrame m #[(.ref x0)] 1 = mkF m 0 #[.val (.ref x0)] [] := by first | (simp [entryFrame, mkF, argsToLocals, Value.category]; done) | rfl
set_option maxRecDepth 65536 in
set_option maxHeartbeats 40000000 in
theorem rm2 (l : Launch) (Z : State) (a0 : Array Value) (hw : ∀ d ∈ tables_1, d.before a0 Z = true) (ws : List Jvm.Cond) (o0 : Addr) (r c0 : Int32) (W : Nat → Addr) (h0 : Heap) (n0 : Nat) (Z0 : n0 ≤ h0.size) (S_STATIC_PUT : Sta Z h0 "com/example/halfword/halfword/format/MethodHandleKind" "STATIC_PUT" "Lcom/example/halfword/halfword/format/MethodHandleKind;" (.ref (W 0))) (S_STATIC_GET : Sta Z h0 "com/example/halfword/halfword/format/MethodHandleKind" "STATIC_GET" "Lcom/example/halfword/halfword/format/MethodHandleKind;" (.ref (W 1))) (S_INSTANCE_PUT : Sta Z h0 "com/example/halfword/halfword/format/MethodHandleKind" "INSTANCE_PUT" "Lcom/example/halfword/halfword/format/MethodHandleKind;" (.ref (W 2))) (S_INSTANCE_GET : Sta Z h0 "com/example/halfword/halfword/format/MethodHandleKind" "INSTANCE_GET" "Lcom/example/halfword/halfword/format/MethodHandleKind;" (.ref (W 3))) (S_INVOKE_STATIC : Sta Z h0 "com/example/halfword/halfword/format/MethodHandleKind" "INVOKE_STATIC" "Lcom/example/halfword/halfword/format/MethodHandleKind;" (.ref (W 4))) (S_INVOKE_INSTANCE : Sta Z h0 "com/example/halfword/halfword/format/MethodHandleKind" "INVOKE_INSTANCE" "Lcom/example/halfword/halfword/format/MethodHandleKind;" (.ref (W 5))) (S_INVOKE_CONSTRUCTOR : Sta Z h0 "com/example/halfword/halfword/format/MethodHandleKind" "INVOKE_CONSTRUCTOR" "Lcom/example/halfword/halfword/format/MethodHandleKind;" (.ref (W 6))) (S_INVOKE_DIRECT : Sta Z h0 "com/example/halfword/halfword/format/MethodHandleKind" "INVOKE_DIRECT" "Lcom/example/halfword/halfword/format/MethodHandleKind;" (.ref (W 7))) (S_INVOKE_INTERFACE : Sta Z h0 "com/example/halfword/halfword/format/MethodHandleKind" "INVOKE_INTERFACE" "Lcom/example/halfword/halfword/format/MethodHandleKind;" (.ref (W 8))) (F_a : Fld Z h0 o0 "com/example/halfword/halfword/format/MethodHandleKind" "code" "I" (.int c0)) (F_3 : Fld Z h0 (W 3) "com/example/halfword/halfword/format/MethodHandleKind" "code" "I" (.int (3 : Int32))) (hr0 : r = if (3 : Int32) < c0 then 0 else 1) :
    MetFree l (⟨"com/example/halfword/halfword/format/MethodHandleKind", "isFieldAccessor", "()Z"⟩ : MethodName) (head1 (Jvm.Cond.code (⟨"com/example/halfword/halfword/format/MethodHandleKind", "isFieldAccessor", "()Z"⟩ : MethodName) prog_58_method_7_code 1 (some .boolean) :: ws) ({ frames := 0, cells := 0, slots := 0, locals := 0 } : Room)) (fun a U => a = #[(.ref o0)] ∧ Z.Warmed39 U.vm ∧ U.heap = h0) (fun _ _ _ _ _ => True) (fun _ U o U' => ∃ v L, o = .returned v ∧ QR (.int r) h0 n0 v U'.heap L ∧ FrameEnd U o U' L ({ frames := 0, cells := 0, slots := 0, locals := 0 } : Room).cells ({ frames := 0, cells := 0, slots := 0, locals := 0 } : Room).slots) := by
  refine MetFree.of_bodySF (plainFor_of_name pn_2) hisR ?_
  intro p e s m args below meth c s₁ Bd hml0 hP hK
  obtain ⟨rfl, hZ, hh⟩ := hP
  have hx := Bd.exec
  have hby := Bd.bytes
  have hml : c.maxLocals = 1 := hml0
  have hown : s.vm.findClass "com/example/halfword/halfword/format/MethodHandleKind" = some m.cls := findClass_of_methodNamed Bd.named
  have hnm := (name_of_methodNamed Bd.named Bd.method).1
  have X0 : Stand p l e ({ frames := 0, cells := 0, slots := 0, locals := 0 } : Room) s m #[(.ref o0)] below meth c s₁ [] 0 0 := Stand.of_body Bd
  have e0 : s₁.heap = h0 := by rw [← hh, Bd.state]; rfl
  have N0 := Fr.nil n0
  have pre0 : ∀ t, Steps p.tables e below (s₁.setTop (mkF m 0 #[.val (.ref o0)] [])) t → Steps p.tables e below (s₁.setTop (entryFrame m #[(.ref o0)] 1)) t := fun t k => castTop (ef_rm2 m o0) k
  obtain ⟨T1, X1, e1, st1⟩ := getF X0 hx hZ hown (host := "") (Or.inl (hw _ (List.mem_of_getElem? (i := 13) rfl))) Via.refl e0 F_a (g := (mkF m 1 #[.val (.ref o0)] [(.ref o0)])) rfl rfl (hb hby d2_1)
  obtain ⟨T2, X2, e2, st2⟩ := getS2 X1 hx hZ hown (host := "") (Or.inl (hw _ (List.mem_of_getElem? (i := 15) rfl))) Via.refl e1 S_INSTANCE_GET (g := (mkF m 4 #[.val (.ref o0)] [(.int c0)])) rfl (hb hby d2_4)
  obtain ⟨T3, X3, e3, st3⟩ := getF X2 hx hZ hown (host := "") (Or.inl (hw _ (List.mem_of_getElem? (i := 13) rfl))) Via.refl e2 F_3 (g := (mkF m 7 #[.val (.ref o0)] [(.ref (W 3)), (.int c0)])) rfl rfl (hb hby d2_7)
  have pre4 : ∀ t, Steps p.tables e below (T3.setTop (mkF m 10 #[.val (.ref o0)] [(.int (3 : Int32)), (.int c0)])) t → Steps p.tables e below (s₁.setTop (entryFrame m #[(.ref o0)] 1)) t := by
    intro t kt
    refine pre0 t ?_
    show Steps p.tables e below (s₁.setTop (mkF m 0 #[.val (.ref o0)] [])) _
    refine XS.aloadN X0.here hx rfl (hb hby d2_0) rfl rfl ?_
    show Steps p.tables e below (s₁.setTop (mkF m 1 #[.val (.ref o0)] [(.ref o0)])) _
    refine st1 _ ?_
    show Steps p.tables e below (T1.setTop (mkF m 4 #[.val (.ref o0)] [(.int c0)])) _
    refine st2 _ ?_
    show Steps p.tables e below (T2.setTop (mkF m 7 #[.val (.ref o0)] [(.ref (W 3)), (.int c0)])) _
    refine st3 _ ?_
    exact kt
  by_cases hc5 : (3 : Int32) < c0
  · skip
    obtain ⟨fs, hr, hrun, hended, hW, hsame⟩ := X3.leave (v := some (.int (0 : Int32))) (fun h => by rw [Bd.returns] at h; cases h)
    refine ⟨_, _, pre4 _ ?_, hrun, hended, _, _, rfl, ?_, ⟨_, rfl⟩, hW, hsame.mono (by decide) (by decide)⟩
    · skip
      show Steps p.tables e below (T3.setTop (mkF m 10 #[.val (.ref o0)] [(.int (3 : Int32)), (.int c0)])) _
      refine XS.icmpYes X3.here hx rfl (pc0 := 10) (pc' := 17) rfl (hb hby d2_10) rfl (tlt hc5).2.2.1 (by decide) (by decide) ?_
      show Steps p.tables e below (T3.setTop (mkF m 17 #[.val (.ref o0)] [])) _
      refine XS.iconst X3.here hx rfl (hb hby d2_17) ?_
      show Steps p.tables e below (T3.setTop (mkF m 18 #[.val (.ref o0)] [(.int (0 : Int32))])) _
      exact retN X3 hx (t := .boolean) Bd.returns (by simp) (hb hby d2_18) hr
    · show QR (.int r) h0 n0 _ T3.heap _
      rw [e3]
      exact ⟨(by first | rfl | simp [hc5, hr0]), N0, rfl⟩
  · skip
    obtain ⟨fs, hr, hrun, hended, hW, hsame⟩ := X3.leave (v := some (.int (1 : Int32))) (fun h => by rw [Bd.returns] at h; cases h)
    refine ⟨_, _, pre4 _ ?_, hrun, hended, _, _, rfl, ?_, ⟨_, rfl⟩, hW, hsame.mono (by decide) (by decide)⟩
    · skip
      show Steps p.tables e below (T3.setTop (mkF m 10 #[.val (.ref o0)] [(.int (3 : Int32)), (.int c0)])) _
      refine XS.icmpNo X3.here hx rfl (hb hby d2_10) rfl (flt hc5).2.2.1 ?_
      show Steps p.tables e below (T3.setTop (mkF m 13 #[.val (.ref o0)] [])) _
      refine XS.iconst X3.here hx rfl (hb hby d2_13) ?_
      show Steps p.tables e below (T3.setTop (mkF m 14 #[.val (.ref o0)] [(.int (1 : Int32))])) _
      refine XS.goto X3.here hx rfl (pc0 := 14) (pc' := 18) rfl (hb hby d2_14) (by decide) (by decide) ?_
      show Steps p.tables e below (T3.setTop (mkF m 18 #[.val (.ref o0)] [(.int (1 : Int32))])) _
      exact retN X3 hx (t := .boolean) Bd.returns (by simp) (hb hby d2_18) hr
    · show QR (.int r) h0 n0 _ T3.heap _
      rw [e3]
      exact ⟨(by first | rfl | simp [hc5, hr0]), N0, rfl⟩
theorem d3_0 : decode method_3_code 0 = .ok (.iload_n 0, 1) := by decide +kernel
theorem d3_1 : decode method_3_code 1 = .ok (.ifCond .ne 5, 3) := by decide +kernel
theorem d3_4 : decode method_3_code 4 = .ok (.iconst 1, 1) := by decide +kernel
theorem d3_5 : decode method_3_code 5 = .ok (.ireturn, 1) := by decide +kernel
theorem d3_6 : decode method_3_code 6 = .ok (.iload_n 0, 1) := by decide +kernel
theorem d3_7 : decode method_3_code 7 = .ok (.iconst 1, 1) := by decide +kernel
theorem d3_8 : decode method_3_code 8 = .ok (.if_icmp .ne 5, 3) := by decide +kernel
theorem d3_11 : decode method_3_code 11 = .ok (.iconst 1, 1) := by decide +kernel
theorem d3_12 : decode method_3_code 12 = .ok (.ireturn, 1) := by decide +kernel
theorem d3_13 : decode method_3_code 13 = .ok (.iload_n 0, 1) := by decide +kernel
theorem d3_14 : decode method_3_code 14 = .ok (.iconst 2, 1) := by decide +kernel
theorem d3_15 : decode method_3_code 15 = .ok (.if_icmp .ne 5, 3) := by decide +kernel
theorem d3_18 : decode method_3_code 18 = .ok (.iconst 1, 1) := by decide +kernel
theorem d3_19 : decode method_3_code 19 = .ok (.ireturn, 1) := by decide +kernel
theorem d3_20 : decode method_3_code 20 = .ok (.iload_n 0, 1) := by decide +kernel
theorem d3_21 : decode method_3_code 21 = .ok (.iconst 3, 1) := by decide +kernel
theorem d3_22 : decode method_3_code 22 = .ok (.if_icmp .ne 5, 3) := by decide +kernel
theorem d3_25 : decode method_3_code 25 = .ok (.iconst 1, 1) := by decide +kernel
theorem d3_26 : decode method_3_code 26 = .ok (.ireturn, 1) := by decide +kernel
theorem d3_27 : decode method_3_code 27 = .ok (.iconst 0, 1) := by decide +kernel
theorem d3_28 : decode method_3_code 28 = .ok (.ireturn, 1) := by decide +kernel
theorem pn_3 : plainName "com/example/halfword/halfword/format/MethodHandleKindIsFieldAccessorPinLaw" = true := by first | (simp [plainName, overriddenIn]; done) | decide +kernel
theorem ef_rm3 (m : MethodId) (x0 : Int32) : entryFrame m #[(.int x0)] 1 = mkF m 0 #[.val (.int x0)] [] := by first | (simp [entryFrame, mkF, argsToLocals, Value.category]; done) | rfl
set_option maxRecDepth 65536 in
set_option maxHeartbeats 40000000 in
theorem rm3 (l : Launch) (Z : State) (a0 : Array Value) (hw : ∀ d ∈ tables_1, d.before a0 Z = true) (ws : List Jvm.Cond) (p0 : Int32) (r : Int32) (h0 : Heap) (n0 : Nat) (Z0 : n0 ≤ h0.size) (hr0 : r = if p0 = 0 ∨ p0 = 1 ∨ p0 = 2 ∨ p0 = 3 then 1 else 0) :
    MetFree l (⟨"com/example/halfword/halfword/format/MethodHandleKindIsFieldAccessorPinLaw", "expectedField", "(I)Z"⟩ : MethodName) (head1 (Jvm.Cond.code (⟨"com/example/halfword/halfword/format/MethodHandleKindIsFieldAccessorPinLaw", "expectedField", "(I)Z"⟩ : MethodName) method_3_code 1 (some .boolean) :: ws) ({ frames := 0, cells := 0, slots := 0, locals := 0 } : Room)) (fun a U => a = #[(.int p0)] ∧ Z.Warmed39 U.vm ∧ U.heap = h0) (fun _ _ _ _ _ => True) (fun _ U o U' => ∃ v L, o = .returned v ∧ QR (.int r) h0 n0 v U'.heap L ∧ FrameEnd U o U' L ({ frames := 0, cells := 0, slots := 0, locals := 0 } : Room).cells ({ frames := 0, cells := 0, slots := 0, locals := 0 } : Room).slots) := by
  refine MetFree.of_bodySF (plainFor_of_name pn_3) hisR ?_
  intro p e s m args below meth c s₁ Bd hml0 hP hK
  obtain ⟨rfl, hZ, hh⟩ := hP
  have hx := Bd.exec
  have hby := Bd.bytes
  have hml : c.maxLocals = 1 := hml0
  have hown : s.vm.findClass "com/example/halfword/halfword/format/MethodHandleKindIsFieldAccessorPinLaw" = some m.cls := findClass_of_methodNamed Bd.named
  have hnm := (name_of_methodNamed Bd.named Bd.method).1
  have X0 : Stand p l e ({ frames := 0, cells := 0, slots := 0, locals := 0 } : Room) s m #[(.int p0)] below meth c s₁ [] 0 0 := Stand.of_body Bd
  have e0 : s₁.heap = h0 := by rw [← hh, Bd.state]; rfl
  have N0 := Fr.nil n0
  have pre0 : ∀ t, Steps p.tables e below (s₁.setTop (mkF m 0 #[.val (.int p0)] [])) t → Steps p.tables e below (s₁.setTop (entryFrame m #[(.int p0)] 1)) t := fun t k => castTop (ef_rm3 m p0) k
  have pre1 : ∀ t, Steps p.tables e below (s₁.setTop (mkF m 1 #[.val (.int p0)] [(.int p0)])) t → Steps p.tables e below (s₁.setTop (entryFrame m #[(.int p0)] 1)) t := by
    intro t kt
    refine pre0 t ?_
    show Steps p.tables e below (s₁.setTop (mkF m 0 #[.val (.int p0)] [])) _
    refine XS.iloadN X0.here hx rfl (hb hby d3_0) rfl ?_
    exact kt
  by_cases hc2 : p0 = (0 : Int32)
  · skip
    obtain ⟨fs, hr, hrun, hended, hW, hsame⟩ := X0.leave (v := some (.int (1 : Int32))) (fun h => by rw [Bd.returns] at h; cases h)
    refine ⟨_, _, pre1 _ ?_, hrun, hended, _, _, rfl, ?_, ⟨_, rfl⟩, hW, hsame.mono (by decide) (by decide)⟩
    · skip
      show Steps p.tables e below (s₁.setTop (mkF m 1 #[.val (.int p0)] [(.int p0)])) _
      refine XS.ifNo X0.here hx rfl (hb hby d3_1) rfl ((if0 _ _).trans (teq hc2).2) ?_
      show Steps p.tables e below (s₁.setTop (mkF m 4 #[.val (.int p0)] [])) _
      refine XS.iconst X0.here hx rfl (hb hby d3_4) ?_
      show Steps p.tables e below (s₁.setTop (mkF m 5 #[.val (.int p0)] [(.int (1 : Int32))])) _
      exact retN X0 hx (t := .boolean) Bd.returns (by simp) (hb hby d3_5) hr
    · show QR (.int r) h0 n0 _ s₁.heap _
      rw [e0]
      exact ⟨(by first | rfl | simp [hc2, hr0]), N0, rfl⟩
  · skip
    have pre3 : ∀ t, Steps p.tables e below (s₁.setTop (mkF m 8 #[.val (.int p0)] [(.int (1 : Int32)), (.int p0)])) t → Steps p.tables e below (s₁.setTop (entryFrame m #[(.int p0)] 1)) t := by
      intro t kt
      refine pre1 t ?_
      show Steps p.tables e below (s₁.setTop (mkF m 1 #[.val (.int p0)] [(.int p0)])) _
      refine XS.ifYes X0.here hx rfl (pc0 := 1) (pc' := 6) rfl (hb hby d3_1) rfl ((if0 _ _).trans (feq hc2).2) (by decide) (by decide) ?_
      show Steps p.tables e below (s₁.setTop (mkF m 6 #[.val (.int p0)] [])) _
      refine XS.iloadN X0.here hx rfl (hb hby d3_6) rfl ?_
      show Steps p.tables e below (s₁.setTop (mkF m 7 #[.val (.int p0)] [(.int p0)])) _
      refine XS.iconst X0.here hx rfl (hb hby d3_7) ?_
      exact kt
    by_cases hc4 : p0 = (1 : Int32)
    · skip
      obtain ⟨fs, hr, hrun, hended, hW, hsame⟩ := X0.leave (v := some (.int (1 : Int32))) (fun h => by rw [Bd.returns] at h; cases h)
      refine ⟨_, _, pre3 _ ?_, hrun, hended, _, _, rfl, ?_, ⟨_, rfl⟩, hW, hsame.mono (by decide) (by decide)⟩
      · skip
        show Steps p.tables e below (s₁.setTop (mkF m 8 #[.val (.int p0)] [(.int (1 : Int32)), (.int p0)])) _
        refine XS.icmpNo X0.here hx rfl (hb hby d3_8) rfl (teq hc4).2 ?_
        show Steps p.tables e below (s₁.setTop (mkF m 11 #[.val (.int p0)] [])) _
        refine XS.iconst X0.here hx rfl (hb hby d3_11) ?_
        show Steps p.tables e below (s₁.setTop (mkF m 12 #[.val (.int p0)] [(.int (1 : Int32))])) _
        exact retN X0 hx (t := .boolean) Bd.returns (by simp) (hb hby d3_12) hr
      · show QR (.int r) h0 n0 _ s₁.heap _
        rw [e0]
        exact ⟨(by first | rfl | simp [hc2, hc4, hr0]), N0, rfl⟩
    · skip
      have pre5 : ∀ t, Steps p.tables e below (s₁.setTop (mkF m 15 #[.val (.int p0)] [(.int (2 : Int32)), (.int p0)])) t → Steps p.tables e below (s₁.setTop (entryFrame m #[(.int p0)] 1)) t := by
        intro t kt
        refine pre3 t ?_
        show Steps p.tables e below (s₁.setTop (mkF m 8 #[.val (.int p0)] [(.int (1 : Int32)), (.int p0)])) _
        refine XS.icmpYes X0.here hx rfl (pc0 := 8) (pc' := 13) rfl (hb hby d3_8) rfl (feq hc4).2 (by decide) (by decide) ?_
        show Steps p.tables e below (s₁.setTop (mkF m 13 #[.val (.int p0)] [])) _
        refine XS.iloadN X0.here hx rfl (hb hby d3_13) rfl ?_
        show Steps p.tables e below (s₁.setTop (mkF m 14 #[.val (.int p0)] [(.int p0)])) _
        refine XS.iconst X0.here hx rfl (hb hby d3_14) ?_
        exact kt
      by_cases hc6 : p0 = (2 : Int32)
      · skip
        obtain ⟨fs, hr, hrun, hended, hW, hsame⟩ := X0.leave (v := some (.int (1 : Int32))) (fun h => by rw [Bd.returns] at h; cases h)
        refine ⟨_, _, pre5 _ ?_, hrun, hended, _, _, rfl, ?_, ⟨_, rfl⟩, hW, hsame.mono (by decide) (by decide)⟩
        · skip
          show Steps p.tables e below (s₁.setTop (mkF m 15 #[.val (.int p0)] [(.int (2 : Int32)), (.int p0)])) _
          refine XS.icmpNo X0.here hx rfl (hb hby d3_15) rfl (teq hc6).2 ?_
          show Steps p.tables e below (s₁.setTop (mkF m 18 #[.val (.int p0)] [])) _
          refine XS.iconst X0.here hx rfl (hb hby d3_18) ?_
          show Steps p.tables e below (s₁.setTop (mkF m 19 #[.val (.int p0)] [(.int (1 : Int32))])) _
          exact retN X0 hx (t := .boolean) Bd.returns (by simp) (hb hby d3_19) hr
        · show QR (.int r) h0 n0 _ s₁.heap _
          rw [e0]
          exact ⟨(by first | rfl | simp [hc2, hc4, hc6, hr0]), N0, rfl⟩
      · skip
        have pre7 : ∀ t, Steps p.tables e below (s₁.setTop (mkF m 22 #[.val (.int p0)] [(.int (3 : Int32)), (.int p0)])) t → Steps p.tables e below (s₁.setTop (entryFrame m #[(.int p0)] 1)) t := by
          intro t kt
          refine pre5 t ?_
          show Steps p.tables e below (s₁.setTop (mkF m 15 #[.val (.int p0)] [(.int (2 : Int32)), (.int p0)])) _
          refine XS.icmpYes X0.here hx rfl (pc0 := 15) (pc' := 20) rfl (hb hby d3_15) rfl (feq hc6).2 (by decide) (by decide) ?_
          show Steps p.tables e below (s₁.setTop (mkF m 20 #[.val (.int p0)] [])) _
          refine XS.iloadN X0.here hx rfl (hb hby d3_20) rfl ?_
          show Steps p.tables e below (s₁.setTop (mkF m 21 #[.val (.int p0)] [(.int p0)])) _
          refine XS.iconst X0.here hx rfl (hb hby d3_21) ?_
          exact kt
        by_cases hc8 : p0 = (3 : Int32)
        · skip
          obtain ⟨fs, hr, hrun, hended, hW, hsame⟩ := X0.leave (v := some (.int (1 : Int32))) (fun h => by rw [Bd.returns] at h; cases h)
          refine ⟨_, _, pre7 _ ?_, hrun, hended, _, _, rfl, ?_, ⟨_, rfl⟩, hW, hsame.mono (by decide) (by decide)⟩
          · skip
            show Steps p.tables e below (s₁.setTop (mkF m 22 #[.val (.int p0)] [(.int (3 : Int32)), (.int p0)])) _
            refine XS.icmpNo X0.here hx rfl (hb hby d3_22) rfl (teq hc8).2 ?_
            show Steps p.tables e below (s₁.setTop (mkF m 25 #[.val (.int p0)] [])) _
            refine XS.iconst X0.here hx rfl (hb hby d3_25) ?_
            show Steps p.tables e below (s₁.setTop (mkF m 26 #[.val (.int p0)] [(.int (1 : Int32))])) _
            exact retN X0 hx (t := .boolean) Bd.returns (by simp) (hb hby d3_26) hr
          · show QR (.int r) h0 n0 _ s₁.heap _
            rw [e0]
            exact ⟨(by first | rfl | simp [hc2, hc4, hc6, hc8, hr0]), N0, rfl⟩
        · skip
          obtain ⟨fs, hr, hrun, hended, hW, hsame⟩ := X0.leave (v := some (.int (0 : Int32))) (fun h => by rw [Bd.returns] at h; cases h)
          refine ⟨_, _, pre7 _ ?_, hrun, hended, _, _, rfl, ?_, ⟨_, rfl⟩, hW, hsame.mono (by decide) (by decide)⟩
          · skip
            show Steps p.tables e below (s₁.setTop (mkF m 22 #[.val (.int p0)] [(.int (3 : Int32)), (.int p0)])) _
            refine XS.icmpYes X0.here hx rfl (pc0 := 22) (pc' := 27) rfl (hb hby d3_22) rfl (feq hc8).2 (by decide) (by decide) ?_
            show Steps p.tables e below (s₁.setTop (mkF m 27 #[.val (.int p0)] [])) _
            refine XS.iconst X0.here hx rfl (hb hby d3_27) ?_
            show Steps p.tables e below (s₁.setTop (mkF m 28 #[.val (.int p0)] [(.int (0 : Int32))])) _
            exact retN X0 hx (t := .boolean) Bd.returns (by simp) (hb hby d3_28) hr
          · show QR (.int r) h0 n0 _ s₁.heap _
            rw [e0]
            exact ⟨(by first | rfl | simp [hc2, hc4, hc6, hc8, hr0]), N0, rfl⟩
theorem pd__I_Lcom_example_halfword_halfword_format_MethodHandleKind_ : parseMethodDescriptor "(I)Lcom/example/halfword/halfword/format/MethodHandleKind;" = some ⟨[.int], some (.object "com/example/halfword/halfword/format/MethodHandleKind")⟩ := by decide +kernel
theorem pd___Z : parseMethodDescriptor "()Z" = some ⟨[], some .boolean⟩ := by decide +kernel
theorem pd__I_Z : parseMethodDescriptor "(I)Z" = some ⟨[.int], some .boolean⟩ := by decide +kernel
theorem pn_0 : plainName "com/example/halfword/halfword/format/MethodHandleKindIsFieldAccessorPinLaw" = true := by first | (simp [plainName, overriddenIn]; done) | decide +kernel
theorem ef_rm0 (m : MethodId) (x0 : Int32) : entryFrame m #[(.int x0)] maxLocals = mkF m 0 #[.val (.int x0), .unset, .unset] [] := by first | (simp [entryFrame, mkF, argsToLocals, Value.category, maxLocals]; done) | rfl
set_option maxRecDepth 65536 in
set_option maxHeartbeats 40000000 in
theorem rm0 (l : Launch) (Z : State) (a0 : Array Value) (hw : ∀ d ∈ tables_1, d.before a0 Z = true) (ws : List Jvm.Cond) (p0 : Int32) (k r : Int32) (W : Nat → Addr) (h0 : Heap) (n0 : Nat) (Z0 : n0 ≤ h0.size) (S_STATIC_PUT : Sta Z h0 "com/example/halfword/halfword/format/MethodHandleKind" "STATIC_PUT" "Lcom/example/halfword/halfword/format/MethodHandleKind;" (.ref (W 0))) (S_STATIC_GET : Sta Z h0 "com/example/halfword/halfword/format/MethodHandleKind" "STATIC_GET" "Lcom/example/halfword/halfword/format/MethodHandleKind;" (.ref (W 1))) (S_INSTANCE_PUT : Sta Z h0 "com/example/halfword/halfword/format/MethodHandleKind" "INSTANCE_PUT" "Lcom/example/halfword/halfword/format/MethodHandleKind;" (.ref (W 2))) (S_INSTANCE_GET : Sta Z h0 "com/example/halfword/halfword/format/MethodHandleKind" "INSTANCE_GET" "Lcom/example/halfword/halfword/format/MethodHandleKind;" (.ref (W 3))) (S_INVOKE_STATIC : Sta Z h0 "com/example/halfword/halfword/format/MethodHandleKind" "INVOKE_STATIC" "Lcom/example/halfword/halfword/format/MethodHandleKind;" (.ref (W 4))) (S_INVOKE_INSTANCE : Sta Z h0 "com/example/halfword/halfword/format/MethodHandleKind" "INVOKE_INSTANCE" "Lcom/example/halfword/halfword/format/MethodHandleKind;" (.ref (W 5))) (S_INVOKE_CONSTRUCTOR : Sta Z h0 "com/example/halfword/halfword/format/MethodHandleKind" "INVOKE_CONSTRUCTOR" "Lcom/example/halfword/halfword/format/MethodHandleKind;" (.ref (W 6))) (S_INVOKE_DIRECT : Sta Z h0 "com/example/halfword/halfword/format/MethodHandleKind" "INVOKE_DIRECT" "Lcom/example/halfword/halfword/format/MethodHandleKind;" (.ref (W 7))) (S_INVOKE_INTERFACE : Sta Z h0 "com/example/halfword/halfword/format/MethodHandleKind" "INVOKE_INTERFACE" "Lcom/example/halfword/halfword/format/MethodHandleKind;" (.ref (W 8))) (hk : (p0 &&& (2147483647 : Int32)) % (9 : Int32) = k) (hk0 : 0 ≤ k.toInt) (hk1 : k.toInt < 9) (E_k : Exa Z h0 (W k.toNatClampNeg) "com/example/halfword/halfword/format/MethodHandleKind") (F_a : Fld Z h0 (W k.toNatClampNeg) "com/example/halfword/halfword/format/MethodHandleKind" "code" "I" (.int k)) (F_3 : Fld Z h0 (W 3) "com/example/halfword/halfword/format/MethodHandleKind" "code" "I" (.int (3 : Int32))) (hr0 : r = if (3 : Int32) < k then 0 else 1) (hr1 : r = if k = 0 ∨ k = 1 ∨ k = 2 ∨ k = 3 then 1 else 0) :
    MetFree l x (head1 (Jvm.Cond.code x code maxLocals ret :: ws) room_1) (fun a U => a = #[(.int p0)] ∧ Z.Warmed39 U.vm ∧ U.heap = h0) (fun _ _ _ _ _ => True) (fun _ U o U' => ∃ v L, o = .returned v ∧ QR (.int (1 : Int32)) h0 n0 v U'.heap L ∧ FrameEnd U o U' L room_1.cells room_1.slots) := by
  refine MetFree.of_bodySF (plainFor_of_name pn_0) hisR ?_
  intro p e s m args below meth c s₁ Bd hml0 hP hK
  obtain ⟨rfl, hZ, hh⟩ := hP
  have hx := Bd.exec
  have hby := Bd.bytes
  have hml : c.maxLocals = 3 := hml0
  have hown : s.vm.findClass "com/example/halfword/halfword/format/MethodHandleKindIsFieldAccessorPinLaw" = some m.cls := findClass_of_methodNamed Bd.named
  have hnm := (name_of_methodNamed Bd.named Bd.method).1
  have X0 : Stand p l e room_1 s m #[(.int p0)] below meth c s₁ [] 0 0 := Stand.of_body Bd
  have e0 : s₁.heap = h0 := by rw [← hh, Bd.state]; rfl
  have N0 := Fr.nil n0
  have pre0 : ∀ t, Steps p.tables e below (s₁.setTop (mkF m 0 #[.val (.int p0), .unset, .unset] [])) t → Steps p.tables e below (s₁.setTop (entryFrame m #[(.int p0)] maxLocals)) t := fun t k => castTop (ef_rm0 m p0) k
  obtain ⟨_, _, ⟨T1, L1, k1, n1⟩, -, X1, ⟨Lc1, hQ1, l1, y1, z1⟩, st1⟩ := Jvm.LawKit.callS X0 hx (y := (⟨"com/example/halfword/halfword/format/MethodHandleKindIsFieldAccessorPinLaw", "pick", "(I)Lcom/example/halfword/halfword/format/MethodHandleKind;"⟩ : MethodName)) hown (mvT hZ (hw _ (List.mem_of_getElem? (i := 1) rfl))) (mvT hZ (hw _ (List.mem_of_getElem? (i := 2) rfl))) (mvT hZ (hw _ (List.mem_of_getElem? (i := 3) rfl))) (mvT hZ (hw _ (List.mem_of_getElem? (i := 4) rfl))) (by decide) (backOf (W := 0) (rm1 l Z a0 hw [] k W h0 n0 Z0 S_STATIC_PUT S_STATIC_GET S_INSTANCE_PUT S_INSTANCE_GET S_INVOKE_STATIC S_INVOKE_INSTANCE S_INVOKE_CONSTRUCTOR S_INVOKE_DIRECT S_INVOKE_INTERFACE hk0 hk1) hZ (hw _ (List.mem_of_getElem? (i := 4) rfl)) (hw _ (List.mem_of_getElem? (i := 3) rfl)) (by decide) (by decide)) (g := (mkF m 9 #[.val (.int p0), .val (.int k), .unset] [(.int k)])) rfl (by rw [hml]; rfl) (argsL := [(.int k)]) (rest := []) (lenOf pd__I_Lcom_example_halfword_halfword_format_MethodHandleKind_ rfl) rfl (by show 2 * 0 + _ ≤ _; exact Nat.le_of_eq rfl) (hb hby at_9) (fun _ _ => ⟨rfl, e0, (by decide : 0 + 0 ≤ _), (by decide : 0 + 0 ≤ _)⟩)
  dsimp only [Pt.U, Pt.locs, Pt.cells, Pt.slots] at X1 l1 y1 z1 st1 hQ1
  subst l1 y1 z1
  obtain ⟨rfl, N1q, e1⟩ := hQ1
  have N1 := Fr.app N0 N1q
  obtain ⟨cq2, kq2, q2a, q2b, q2c⟩ := isOf hZ e1 E_k
  obtain ⟨_, _, ⟨T2, L2, k2, n2⟩, -, X2, ⟨Lc2, hQ2, l2, y2, z2⟩, st2⟩ := X1.virtualBack hx (y := (⟨"com/example/halfword/halfword/format/MethodHandleKind", "isFieldAccessor", "()Z"⟩ : MethodName)) (z := (⟨"com/example/halfword/halfword/format/MethodHandleKind", "isFieldAccessor", "()Z"⟩ : MethodName)) hown (mvT hZ (hw _ (List.mem_of_getElem? (i := 8) rfl))) (mvT hZ (hw _ (List.mem_of_getElem? (i := 9) rfl))) (notFace_of_selects (args := #[]) (mvT hZ (hw _ (List.mem_of_getElem? (i := 11) rfl)))) (mvT hZ (hw _ (List.mem_of_getElem? (i := 11) rfl))) (mvT hZ (hw _ (List.mem_of_getElem? (i := 10) rfl))) (by decide) (backOf (W := 0) (rm2 l Z a0 hw [] (W k.toNatClampNeg) r k W h0 n0 Z0 S_STATIC_PUT S_STATIC_GET S_INSTANCE_PUT S_INSTANCE_GET S_INVOKE_STATIC S_INVOKE_INSTANCE S_INVOKE_CONSTRUCTOR S_INVOKE_DIRECT S_INVOKE_INTERFACE F_a F_3 hr0) hZ (hw _ (List.mem_of_getElem? (i := 12) rfl)) (hw _ (List.mem_of_getElem? (i := 6) rfl)) (by decide) (by decide)) q2a q2c (g := (mkF m 14 #[.val (.int p0), .val (.int k), .val (.ref (W k.toNatClampNeg))] [(.ref (W k.toNatClampNeg))])) rfl (by rw [hml]; rfl) (Steps.refl _) (argsL := []) (rest := []) (lenOf pd___Z rfl) rfl (by show 2 * 0 + _ ≤ _; exact Nat.le_of_eq rfl) (hb hby at_14) (fun _ _ => ⟨rfl, e1, (by decide : 0 + 0 ≤ _), (by decide : 0 + 0 ≤ _)⟩)
  dsimp only [Pt.U, Pt.locs, Pt.cells, Pt.slots] at X2 l2 y2 z2 st2 hQ2
  subst l2 y2 z2
  obtain ⟨rfl, N2q, e2⟩ := hQ2
  have N2 := Fr.app N1 N2q
  obtain ⟨_, _, ⟨T3, L3, k3, n3⟩, -, X3, ⟨Lc3, hQ3, l3, y3, z3⟩, st3⟩ := Jvm.LawKit.callS X2 hx (y := (⟨"com/example/halfword/halfword/format/MethodHandleKindIsFieldAccessorPinLaw", "expectedField", "(I)Z"⟩ : MethodName)) hown (mvT hZ (hw _ (List.mem_of_getElem? (i := 17) rfl))) (mvT hZ (hw _ (List.mem_of_getElem? (i := 18) rfl))) (mvT hZ (hw _ (List.mem_of_getElem? (i := 3) rfl))) (mvT hZ (hw _ (List.mem_of_getElem? (i := 19) rfl))) (by decide) (backOf (W := 1) (rm3 l Z a0 hw [] k r h0 n0 Z0 hr1) hZ (hw _ (List.mem_of_getElem? (i := 19) rfl)) (hw _ (List.mem_of_getElem? (i := 3) rfl)) (by decide) (by decide)) (g := (mkF m 18 #[.val (.int p0), .val (.int k), .val (.ref (W k.toNatClampNeg))] [(.int k), (.int r)])) rfl (by rw [hml]; rfl) (argsL := [(.int k)]) (rest := [(.int r)]) (lenOf pd__I_Z rfl) rfl (by show 2 * 0 + _ ≤ _; exact Nat.le_of_eq rfl) (hb hby at_18) (fun _ _ => ⟨rfl, e2, (by decide : 0 + 0 ≤ _), (by decide : 0 + 0 ≤ _)⟩)
  dsimp only [Pt.U, Pt.locs, Pt.cells, Pt.slots] at X3 l3 y3 z3 st3 hQ3
  subst l3 y3 z3
  obtain ⟨rfl, N3q, e3⟩ := hQ3
  have N3 := Fr.app N2 N3q
  obtain ⟨fs, hr, hrun, hended, hW, hsame⟩ := X3.leave (v := some (.int (1 : Int32))) (fun h => by rw [Bd.returns] at h; cases h)
  refine ⟨_, _, pre0 _ ?_, hrun, hended, _, _, rfl, ?_, ⟨_, rfl⟩, hW, hsame.mono (by decide) (by decide)⟩
  · skip
    show Steps p.tables e below (s₁.setTop (mkF m 0 #[.val (.int p0), .unset, .unset] [])) _
    refine XS.iloadN X0.here hx rfl (hb hby at_0) rfl ?_
    show Steps p.tables e below (s₁.setTop (mkF m 1 #[.val (.int p0), .unset, .unset] [(.int p0)])) _
    refine X0.ldcInt hx hown (mvT hZ (hw _ (List.mem_of_getElem? (i := 0) rfl))) (g := (mkF m 1 #[.val (.int p0), .unset, .unset] [(.int p0)])) rfl (hb hby at_1) _ ?_
    show Steps p.tables e below (s₁.setTop (mkF m 3 #[.val (.int p0), .unset, .unset] [(.int (2147483647 : Int32)), (.int p0)])) _
    refine XS.iand X0.here hx rfl (hb hby at_3) rfl ?_
    show Steps p.tables e below (s₁.setTop (mkF m 4 #[.val (.int p0), .unset, .unset] [(.int (p0 &&& (2147483647 : Int32)))])) _
    refine XS.bipush X0.here hx rfl (hb hby at_4) ?_
    show Steps p.tables e below (s₁.setTop (mkF m 6 #[.val (.int p0), .unset, .unset] [(.int (9 : Int32)), (.int (p0 &&& (2147483647 : Int32)))])) _
    refine iremM (g := (mkF m 6 #[.val (.int p0), .unset, .unset] [(.int (9 : Int32)), (.int (p0 &&& (2147483647 : Int32)))])) X0 hx rfl (hb hby at_6) rfl (by decide) ?_
    show Steps p.tables e below (s₁.setTop (mkF m 7 #[.val (.int p0), .unset, .unset] [(.int ((p0 &&& (2147483647 : Int32)) % (9 : Int32)))])) _
    refine XS.istoreN X0.here hx rfl (hb hby at_7) rfl (l' := #[.val (.int p0), .val (.int ((p0 &&& (2147483647 : Int32)) % (9 : Int32))), .unset]) rfl ?_
    show Steps p.tables e below (s₁.setTop (mkF m 8 #[.val (.int p0), .val (.int ((p0 &&& (2147483647 : Int32)) % (9 : Int32))), .unset] [])) _
    rw [hk]
    show Steps p.tables e below (s₁.setTop (mkF m 8 #[.val (.int p0), .val (.int k), .unset] [])) _
    refine XS.iloadN X0.here hx rfl (hb hby at_8) rfl ?_
    show Steps p.tables e below (s₁.setTop (mkF m 9 #[.val (.int p0), .val (.int k), .unset] [(.int k)])) _
    refine st1 _ ?_
    show Steps p.tables e below (T1.setTop (mkF m 12 #[.val (.int p0), .val (.int k), .unset] [(.ref (W k.toNatClampNeg))])) _
    refine XS.astoreN X1.here hx rfl (hb hby at_12) rfl rfl (l' := #[.val (.int p0), .val (.int k), .val (.ref (W k.toNatClampNeg))]) rfl ?_
    show Steps p.tables e below (T1.setTop (mkF m 13 #[.val (.int p0), .val (.int k), .val (.ref (W k.toNatClampNeg))] [])) _
    refine XS.aloadN X1.here hx rfl (hb hby at_13) rfl rfl ?_
    show Steps p.tables e below (T1.setTop (mkF m 14 #[.val (.int p0), .val (.int k), .val (.ref (W k.toNatClampNeg))] [(.ref (W k.toNatClampNeg))])) _
    refine st2.trans ?_
    show Steps p.tables e below (T2.setTop (mkF m 17 #[.val (.int p0), .val (.int k), .val (.ref (W k.toNatClampNeg))] [(.int r)])) _
    refine XS.iloadN X2.here hx rfl (hb hby at_17) rfl ?_
    show Steps p.tables e below (T2.setTop (mkF m 18 #[.val (.int p0), .val (.int k), .val (.ref (W k.toNatClampNeg))] [(.int k), (.int r)])) _
    refine st3 _ ?_
    show Steps p.tables e below (T3.setTop (mkF m 21 #[.val (.int p0), .val (.int k), .val (.ref (W k.toNatClampNeg))] [(.int r), (.int r)])) _
    refine XS.icmpNo X3.here hx rfl (hb hby at_21) rfl (teq rfl).2 ?_
    show Steps p.tables e below (T3.setTop (mkF m 24 #[.val (.int p0), .val (.int k), .val (.ref (W k.toNatClampNeg))] [])) _
    refine XS.iconst X3.here hx rfl (hb hby at_24) ?_
    show Steps p.tables e below (T3.setTop (mkF m 25 #[.val (.int p0), .val (.int k), .val (.ref (W k.toNatClampNeg))] [(.int (1 : Int32))])) _
    refine XS.goto X3.here hx rfl (pc0 := 25) (pc' := 29) rfl (hb hby at_25) (by decide) (by decide) ?_
    show Steps p.tables e below (T3.setTop (mkF m 29 #[.val (.int p0), .val (.int k), .val (.ref (W k.toNatClampNeg))] [(.int (1 : Int32))])) _
    exact retN X3 hx (t := .boolean) Bd.returns (by simp) (hb hby at_29) hr
  · show QR (.int (1 : Int32)) h0 n0 _ T3.heap _
    rw [e3]
    exact ⟨(by first | rfl | simp []), N3, rfl⟩
set_option maxRecDepth 65536 in
set_option maxHeartbeats 40000000 in
theorem comes_1 {Post : Tables → Env → Array Value → State → Outcome → State → Prop} (hpost : ∀ tb e args s v u, (limb_1_1.after args s (.returned v) u = true ∧ limb_1_2.after args s (.returned v) u = true ∧ True) → FrameEnd s (.returned v) u (Jvm.fieldLocs frame_1_writes args s ++ Jvm.arrayLocs frame_1_arrays args s ++ Jvm.staticLocs frame_1_statics s) 0 0 → Post tb e args s (.returned v) u) :
    ArmFor flags0 classFile x code maxLocals ret World_1 tables_1 room_1 Calls_1 rest_1 Pre_1 Post := by
  intro l hfl _ _ p e ha hcas hclk s m args below hf hA hF happ hP
  obtain ⟨hcalls, hrest, hpre⟩ := hP
  obtain ⟨-, -, -, hnamed, -, -, -, hat⟩ := (Spec.applies_iff hf).mp happ
  obtain ⟨hg, hn⟩ := and_e (Cond.before_iff.mp (show (Jvm.Cond.and given_1 narrow_1).before args s = true from hpre))
  obtain ⟨g0, hg⟩ := and_e hg
  have g1 := hg
  obtain ⟨w0, rfl⟩ : ∃ w0 : Value, args = #[w0] := by
    have hs : args.size = 1 := by simpa [Cond.value, given_1] using g0
    obtain ⟨L⟩ := args
    match L, hs with
    | [w0], _ => exact ⟨w0, rfl⟩
  have hw := fun d (hd : d ∈ tables_1) => atoms_spec (ws := Jvm.Cond.code x code maxLocals ret :: tables_1) hat d (List.mem_cons_of_mem _ hd)
  have hfit : Fit s := fun {y c} hc i hi => by
    obtain ⟨ha, rfl⟩ := Array.getElem?_eq_some_iff.mp hc
    have q := List.all_eq_true.mp ((Array.all_eq_true_iff_forall_mem.mp hF) _ (Array.getElem_mem ha)) i (List.mem_range.mpr hi)
    simpa [Array.getElem?_eq_getElem hi] using q
  obtain ⟨i0, ei0⟩ := is_v g1
  obtain rfl : w0 = (.int i0) := Option.some.inj ei0
  obtain ⟨m0, hn⟩ := and_e hn
  obtain ⟨m1, hn⟩ := and_e hn
  obtain ⟨m2, hn⟩ := and_e hn
  obtain ⟨m3, hn⟩ := and_e hn
  obtain ⟨m4, hn⟩ := and_e hn
  obtain ⟨m5, hn⟩ := and_e hn
  obtain ⟨m6, hn⟩ := and_e hn
  obtain ⟨m7, hn⟩ := and_e hn
  obtain ⟨m8, hn⟩ := and_e hn
  obtain ⟨m9, hn⟩ := and_e hn
  obtain ⟨m10, hn⟩ := and_e hn
  obtain ⟨m11, hn⟩ := and_e hn
  obtain ⟨m12, hn⟩ := and_e hn
  obtain ⟨m13, hn⟩ := and_e hn
  obtain ⟨m14, hn⟩ := and_e hn
  obtain ⟨m15, hn⟩ := and_e hn
  obtain ⟨m16, hn⟩ := and_e hn
  have m17 := hn
  obtain ⟨w_MethodHandleKind_STATIC_PUT, ev_MethodHandleKind_STATIC_PUT⟩ := exa_v m0
  have E_MethodHandleKind_STATIC_PUT := Exa.start ev_MethodHandleKind_STATIC_PUT m0
  have S_MethodHandleKind_STATIC_PUT := Sta.start ev_MethodHandleKind_STATIC_PUT (Or.inr ⟨(hw _ (List.mem_of_getElem? (i := 6) rfl)), (hw _ (List.mem_of_getElem? (i := 7) rfl))⟩)
  obtain ⟨w_MethodHandleKind_INSTANCE_GET, ev_MethodHandleKind_INSTANCE_GET⟩ := exa_v m2
  have E_MethodHandleKind_INSTANCE_GET := Exa.start ev_MethodHandleKind_INSTANCE_GET m2
  have S_MethodHandleKind_INSTANCE_GET := Sta.start ev_MethodHandleKind_INSTANCE_GET (Or.inr ⟨(hw _ (List.mem_of_getElem? (i := 6) rfl)), (hw _ (List.mem_of_getElem? (i := 16) rfl))⟩)
  obtain ⟨w_MethodHandleKind_INSTANCE_PUT, ev_MethodHandleKind_INSTANCE_PUT⟩ := exa_v m4
  have E_MethodHandleKind_INSTANCE_PUT := Exa.start ev_MethodHandleKind_INSTANCE_PUT m4
  have S_MethodHandleKind_INSTANCE_PUT := Sta.start ev_MethodHandleKind_INSTANCE_PUT (Or.inr ⟨(hw _ (List.mem_of_getElem? (i := 6) rfl)), (hw _ (List.mem_of_getElem? (i := 22) rfl))⟩)
  obtain ⟨w_MethodHandleKind_STATIC_GET, ev_MethodHandleKind_STATIC_GET⟩ := exa_v m6
  have E_MethodHandleKind_STATIC_GET := Exa.start ev_MethodHandleKind_STATIC_GET m6
  have S_MethodHandleKind_STATIC_GET := Sta.start ev_MethodHandleKind_STATIC_GET (Or.inr ⟨(hw _ (List.mem_of_getElem? (i := 6) rfl)), (hw _ (List.mem_of_getElem? (i := 24) rfl))⟩)
  obtain ⟨w_MethodHandleKind_INVOKE_DIRECT, ev_MethodHandleKind_INVOKE_DIRECT⟩ := exa_v m8
  have E_MethodHandleKind_INVOKE_DIRECT := Exa.start ev_MethodHandleKind_INVOKE_DIRECT m8
  have S_MethodHandleKind_INVOKE_DIRECT := Sta.start ev_MethodHandleKind_INVOKE_DIRECT (Or.inr ⟨(hw _ (List.mem_of_getElem? (i := 6) rfl)), (hw _ (List.mem_of_getElem? (i := 26) rfl))⟩)
  obtain ⟨w_MethodHandleKind_INVOKE_STATIC, ev_MethodHandleKind_INVOKE_STATIC⟩ := exa_v m10
  have E_MethodHandleKind_INVOKE_STATIC := Exa.start ev_MethodHandleKind_INVOKE_STATIC m10
  have S_MethodHandleKind_INVOKE_STATIC := Sta.start ev_MethodHandleKind_INVOKE_STATIC (Or.inr ⟨(hw _ (List.mem_of_getElem? (i := 6) rfl)), (hw _ (List.mem_of_getElem? (i := 28) rfl))⟩)
  obtain ⟨w_MethodHandleKind_INVOKE_INTERFACE, ev_MethodHandleKind_INVOKE_INTERFACE⟩ := exa_v m12
  have E_MethodHandleKind_INVOKE_INTERFACE := Exa.start ev_MethodHandleKind_INVOKE_INTERFACE m12
  have S_MethodHandleKind_INVOKE_INTERFACE := Sta.start ev_MethodHandleKind_INVOKE_INTERFACE (Or.inr ⟨(hw _ (List.mem_of_getElem? (i := 6) rfl)), (hw _ (List.mem_of_getElem? (i := 30) rfl))⟩)
  obtain ⟨w_MethodHandleKind_INVOKE_CONSTRUCTOR, ev_MethodHandleKind_INVOKE_CONSTRUCTOR⟩ := exa_v m14
  have E_MethodHandleKind_INVOKE_CONSTRUCTOR := Exa.start ev_MethodHandleKind_INVOKE_CONSTRUCTOR m14
  have S_MethodHandleKind_INVOKE_CONSTRUCTOR := Sta.start ev_MethodHandleKind_INVOKE_CONSTRUCTOR (Or.inr ⟨(hw _ (List.mem_of_getElem? (i := 6) rfl)), (hw _ (List.mem_of_getElem? (i := 32) rfl))⟩)
  obtain ⟨w_MethodHandleKind_INVOKE_INSTANCE, ev_MethodHandleKind_INVOKE_INSTANCE⟩ := exa_v m16
  have E_MethodHandleKind_INVOKE_INSTANCE := Exa.start ev_MethodHandleKind_INVOKE_INSTANCE m16
  have S_MethodHandleKind_INVOKE_INSTANCE := Sta.start ev_MethodHandleKind_INVOKE_INSTANCE (Or.inr ⟨(hw _ (List.mem_of_getElem? (i := 6) rfl)), (hw _ (List.mem_of_getElem? (i := 34) rfl))⟩)
  have F_MethodHandleKind_STATIC_PUT_code := own_fldI ev_MethodHandleKind_STATIC_PUT m1
  have F_MethodHandleKind_INSTANCE_GET_code := own_fldI ev_MethodHandleKind_INSTANCE_GET m3
  have F_MethodHandleKind_INSTANCE_PUT_code := own_fldI ev_MethodHandleKind_INSTANCE_PUT m5
  have F_MethodHandleKind_STATIC_GET_code := own_fldI ev_MethodHandleKind_STATIC_GET m7
  have F_MethodHandleKind_INVOKE_DIRECT_code := own_fldI ev_MethodHandleKind_INVOKE_DIRECT m9
  have F_MethodHandleKind_INVOKE_STATIC_code := own_fldI ev_MethodHandleKind_INVOKE_STATIC m11
  have F_MethodHandleKind_INVOKE_INTERFACE_code := own_fldI ev_MethodHandleKind_INVOKE_INTERFACE m13
  have F_MethodHandleKind_INVOKE_CONSTRUCTOR_code := own_fldI ev_MethodHandleKind_INVOKE_CONSTRUCTOR m15
  have F_MethodHandleKind_INVOKE_INSTANCE_code := own_fldI ev_MethodHandleKind_INVOKE_INSTANCE m17
  obtain ⟨hk0, hk1⟩ := own_mod i0 (9 : Int32) 9 rfl (by decide)
  obtain ⟨k, hk⟩ : ∃ k, (i0 &&& (2147483647 : Int32)) % (9 : Int32) = k := ⟨_, rfl⟩
  rw [hk] at hk0 hk1
  obtain ⟨W, hW⟩ : ∃ W : Nat → Addr, W = (fun n => [w_MethodHandleKind_STATIC_PUT, w_MethodHandleKind_STATIC_GET, w_MethodHandleKind_INSTANCE_PUT, w_MethodHandleKind_INSTANCE_GET, w_MethodHandleKind_INVOKE_STATIC, w_MethodHandleKind_INVOKE_INSTANCE, w_MethodHandleKind_INVOKE_CONSTRUCTOR, w_MethodHandleKind_INVOKE_DIRECT, w_MethodHandleKind_INVOKE_INTERFACE].getD n 0) := ⟨_, rfl⟩
  have hE : ∀ i, i < 9 → Exa s s.heap (W i) "com/example/halfword/halfword/format/MethodHandleKind" := by rw [hW]; exact (fun i hi => match i, hi with | 0, _ => E_MethodHandleKind_STATIC_PUT | 1, _ => E_MethodHandleKind_STATIC_GET | 2, _ => E_MethodHandleKind_INSTANCE_PUT | 3, _ => E_MethodHandleKind_INSTANCE_GET | 4, _ => E_MethodHandleKind_INVOKE_STATIC | 5, _ => E_MethodHandleKind_INVOKE_INSTANCE | 6, _ => E_MethodHandleKind_INVOKE_CONSTRUCTOR | 7, _ => E_MethodHandleKind_INVOKE_DIRECT | 8, _ => E_MethodHandleKind_INVOKE_INTERFACE | n + 9, h => absurd h (by omega))
  have hF : ∀ i, i < 9 → Fld s s.heap (W i) "com/example/halfword/halfword/format/MethodHandleKind" "code" "I" (.int (Int32.ofNat i)) := by rw [hW]; exact (fun i hi => match i, hi with | 0, _ => F_MethodHandleKind_STATIC_PUT_code | 1, _ => F_MethodHandleKind_STATIC_GET_code | 2, _ => F_MethodHandleKind_INSTANCE_PUT_code | 3, _ => F_MethodHandleKind_INSTANCE_GET_code | 4, _ => F_MethodHandleKind_INVOKE_STATIC_code | 5, _ => F_MethodHandleKind_INVOKE_INSTANCE_code | 6, _ => F_MethodHandleKind_INVOKE_CONSTRUCTOR_code | 7, _ => F_MethodHandleKind_INVOKE_DIRECT_code | 8, _ => F_MethodHandleKind_INVOKE_INTERFACE_code | n + 9, h => absurd h (by omega))
  have hlt := own_clamp hk0 (n := 9) hk1
  have f1 := hF _ hlt
  rw [← own_nat hk0] at f1
  have hr1 : (if (3 : Int32) < k then (0 : Int32) else 1) = if k = 0 ∨ k = 1 ∨ k = 2 ∨ k = 3 then 1 else 0 := by
    have key : ∀ j, j < 9 → (if (3 : Int32) < Int32.ofNat j then (0 : Int32) else 1) = if Int32.ofNat j = 0 ∨ Int32.ofNat j = 1 ∨ Int32.ofNat j = 2 ∨ Int32.ofNat j = 3 then 1 else 0 := by decide
    have := key _ hlt
    rw [← own_nat hk0] at this; exact this
  have T_STATIC_PUT : Sta s s.heap "com/example/halfword/halfword/format/MethodHandleKind" "STATIC_PUT" "Lcom/example/halfword/halfword/format/MethodHandleKind;" (.ref (W 0)) := by rw [hW]; exact S_MethodHandleKind_STATIC_PUT
  have T_STATIC_GET : Sta s s.heap "com/example/halfword/halfword/format/MethodHandleKind" "STATIC_GET" "Lcom/example/halfword/halfword/format/MethodHandleKind;" (.ref (W 1)) := by rw [hW]; exact S_MethodHandleKind_STATIC_GET
  have T_INSTANCE_PUT : Sta s s.heap "com/example/halfword/halfword/format/MethodHandleKind" "INSTANCE_PUT" "Lcom/example/halfword/halfword/format/MethodHandleKind;" (.ref (W 2)) := by rw [hW]; exact S_MethodHandleKind_INSTANCE_PUT
  have T_INSTANCE_GET : Sta s s.heap "com/example/halfword/halfword/format/MethodHandleKind" "INSTANCE_GET" "Lcom/example/halfword/halfword/format/MethodHandleKind;" (.ref (W 3)) := by rw [hW]; exact S_MethodHandleKind_INSTANCE_GET
  have T_INVOKE_STATIC : Sta s s.heap "com/example/halfword/halfword/format/MethodHandleKind" "INVOKE_STATIC" "Lcom/example/halfword/halfword/format/MethodHandleKind;" (.ref (W 4)) := by rw [hW]; exact S_MethodHandleKind_INVOKE_STATIC
  have T_INVOKE_INSTANCE : Sta s s.heap "com/example/halfword/halfword/format/MethodHandleKind" "INVOKE_INSTANCE" "Lcom/example/halfword/halfword/format/MethodHandleKind;" (.ref (W 5)) := by rw [hW]; exact S_MethodHandleKind_INVOKE_INSTANCE
  have T_INVOKE_CONSTRUCTOR : Sta s s.heap "com/example/halfword/halfword/format/MethodHandleKind" "INVOKE_CONSTRUCTOR" "Lcom/example/halfword/halfword/format/MethodHandleKind;" (.ref (W 6)) := by rw [hW]; exact S_MethodHandleKind_INVOKE_CONSTRUCTOR
  have T_INVOKE_DIRECT : Sta s s.heap "com/example/halfword/halfword/format/MethodHandleKind" "INVOKE_DIRECT" "Lcom/example/halfword/halfword/format/MethodHandleKind;" (.ref (W 7)) := by rw [hW]; exact S_MethodHandleKind_INVOKE_DIRECT
  have T_INVOKE_INTERFACE : Sta s s.heap "com/example/halfword/halfword/format/MethodHandleKind" "INVOKE_INTERFACE" "Lcom/example/halfword/halfword/format/MethodHandleKind;" (.ref (W 8)) := by rw [hW]; exact S_MethodHandleKind_INVOKE_INTERFACE
  obtain ⟨n, o, h1, h2, h3, _, L, rfl, ⟨rfl, N, -⟩, hq⟩ := rm0 l s _ hw tables_1 i0 k _ W s.heap s.heap.size (Nat.le_refl _) T_STATIC_PUT T_STATIC_GET T_INSTANCE_PUT T_INSTANCE_GET T_INVOKE_STATIC T_INVOKE_INSTANCE T_INVOKE_CONSTRUCTOR T_INVOKE_DIRECT T_INVOKE_INTERFACE hk hk0 hk1 (hE _ hlt) f1 (hF 3 (by decide)) rfl hr1 p e ha hcas hclk s m _ below hf ((Spec.applies_iff_loose hf).mp happ).1 ⟨rfl, State.Warmed39.refl s, rfl⟩ trivial
  refine ⟨n, _, h1, h2, h3, hpost _ _ _ _ _ _ ⟨Cond.after_iff.mpr rfl, Cond.after_iff.mpr (eq_i res_at (Term.int_eval (1)) rfl), trivial⟩ ⟨hq.1, hq.2.1, (hq.2.2.sift fun y hy => Or.inr (N y hy)).mono (by decide) (by decide)⟩⟩
theorem main_1_1 : Claimed_1_1 := comes_1 fun _ _ _ _ _ _ h hF => ⟨h.1, hF⟩
theorem main_1_2 : Claimed_1_2 := comes_1 fun _ _ _ _ _ _ h hF => ⟨h.2.1, hF⟩
end Jvm.Pilot.@@N@@
namespace Jvm.Pilot.@@N@@
open Jvm Jvm.ClassFile Sem Op Lib Jvm.Free Jvm.Stand Jvm.Pilot.@@N@@.Jvm.D
/-! MADE BY PROGRAM (witnessworld.py) out of the Statement's table words and the real class files: 12 classes; the members and pool entries that the words name. The judged class is class 1, her method 3. -/
namespace start1
open Jvm.ClassFile
def u (s : String) : CpInfo := .utf8 (stringToUtf16 s)
/-- a pool by its gaps: so many unusable entries, then the entry; so many at the end -/
def gap : Nat → List CpInfo → List CpInfo
  | 0, r => r
  | n + 1, r => .unusable :: gap n r
def poolList (es : List (Nat × CpInfo)) (last : Nat) : List CpInfo := es.foldr (fun e r => gap e.1 (e.2 :: r)) (gap last [])
def pool (es : List (Nat × CpInfo)) (last : Nat) : Array CpInfo := ⟨poolList es last⟩
def fileOf (pool : Array CpInfo) (this : Nat) (attrs : Array Attribute := #[]) (ms : Array MethodInfo := #[]) (fl : Nat := 33) (sup : Nat := 0) (ifs : Array Nat := #[]) (fds : Array FieldInfo := #[]) : ClassFile where
  minorVersion := 0
  majorVersion := 65
  constantPool := pool
  accessFlags := fl
  thisClass := this
  superClass := sup
  interfaces := ifs
  fields := fds
  methods := ms
  attributes := attrs
def plain (name : String) (sup : Option ClassId) : Class where
  name := name
  kind := .ordinary
  loader := none
  accessFlags := 33
  super := sup
  interfaces := #[]
  cf := none
  fields := #[]
  methods := #[]
  instanceTypes := #[]
  staticTypes := #[]
  resolved := #[]
  callSites := []
  init := .initialized
  statics := none
  mirror := none

def pool0 : Array CpInfo := pool [(5, u "<init>"), (0, u "()V"), (1, .class_ 10), (1, u "java/lang/Object")] 113

def k0m0 : Method := { name := "<init>", desc := "()V", sig := { parameters := [], returnType := none }, accessFlags := 1, code := none }
/-- java/lang/Object -/
def k0 : Class := { plain "java/lang/Object" none with
  accessFlags := 33
  interfaces := #[]
  cf := some (fileOf pool0 8 #[] #[{ accessFlags := 1, nameIndex := 5, descriptorIndex := 6, attributes := #[] }] 33 0 #[] #[])
  fields := #[]
  methods := #[k0m0]
  instanceTypes := #[]
  staticTypes := #[]
  resolved := Array.replicate 124 none
  statics := none }

def pool1 : Array CpInfo := pool [(2, .class_ 4), (1, u "java/lang/Object"), (0, u "<init>"), (0, u "()V"), (0, .fieldref 8 9), (0, .class_ 10), (0, .nameAndType 11 12), (0, u "com/example/halfword/halfword/format/MethodHandleKind"), (0, u "STATIC_PUT"), (0, u "Lcom/example/halfword/halfword/format/MethodHandleKind;"), (0, .fieldref 8 14), (0, .nameAndType 15 12), (0, u "STATIC_GET"), (0, .fieldref 8 17), (0, .nameAndType 18 12), (0, u "INSTANCE_PUT"), (0, .fieldref 8 20), (0, .nameAndType 21 12), (0, u "INSTANCE_GET"), (0, .fieldref 8 23), (0, .nameAndType 24 12), (0, u "INVOKE_STATIC"), (0, .fieldref 8 26), (0, .nameAndType 27 12), (0, u "INVOKE_INSTANCE"), (0, .fieldref 8 29), (0, .nameAndType 30 12), (0, u "INVOKE_CONSTRUCTOR"), (0, .fieldref 8 32), (0, .nameAndType 33 12), (0, u "INVOKE_DIRECT"), (0, .fieldref 8 35), (0, .nameAndType 36 12), (0, u "INVOKE_INTERFACE"), (0, .integer 2147483647), (0, .methodref 39 40), (0, .class_ 41), (0, .nameAndType 42 43), (0, u "com/example/halfword/halfword/format/MethodHandleKindIsFieldAccessorPinLaw"), (0, u "pick"), (0, u "(I)Lcom/example/halfword/halfword/format/MethodHandleKind;"), (0, .methodref 8 45), (0, .nameAndType 46 47), (0, u "isFieldAccessor"), (0, u "()Z"), (0, .methodref 39 49), (0, .nameAndType 50 51), (0, u "expectedField"), (0, u "(I)Z"), (3, u "law")] 2

def k1m0 : Method := { name := "<init>", desc := "()V", sig := { parameters := [], returnType := none }, accessFlags := 2, code := none }
def k1c1 : Code := { maxStack := 2, maxLocals := 1, code := method_2_code, exceptionTable := #[], attributes := #[] }
def k1m1 : Method := { name := "pick", desc := "(I)Lcom/example/halfword/halfword/format/MethodHandleKind;", sig := { parameters := [.int], returnType := some (.object "com/example/halfword/halfword/format/MethodHandleKind") }, accessFlags := 10, code := some k1c1 }
def k1c2 : Code := { maxStack := 2, maxLocals := 1, code := method_3_code, exceptionTable := #[], attributes := #[] }
def k1m2 : Method := { name := "expectedField", desc := "(I)Z", sig := { parameters := [.int], returnType := some .boolean }, accessFlags := 10, code := some k1c2 }
def k1c3 : Code := { maxStack := 2, maxLocals := 3, code := code, exceptionTable := #[], attributes := #[] }
def k1m3 : Method := { name := "law", desc := "(I)Z", sig := { parameters := [.int], returnType := some .boolean }, accessFlags := 9, code := some k1c3 }
/-- com/example/halfword/halfword/format/MethodHandleKindIsFieldAccessorPinLaw -/
def k1 : Class := { plain "com/example/halfword/halfword/format/MethodHandleKindIsFieldAccessorPinLaw" (some 0) with
  accessFlags := 49
  interfaces := #[]
  cf := some (fileOf pool1 39 #[] #[{ accessFlags := 2, nameIndex := 5, descriptorIndex := 6, attributes := #[] }, { accessFlags := 10, nameIndex := 42, descriptorIndex := 43, attributes := #[] }, { accessFlags := 10, nameIndex := 50, descriptorIndex := 51, attributes := #[] }, { accessFlags := 9, nameIndex := 55, descriptorIndex := 51, attributes := #[] }] 49 2 #[] #[])
  fields := #[]
  methods := #[k1m0, k1m1, k1m2, k1m3]
  instanceTypes := #[]
  staticTypes := #[]
  resolved := Array.replicate 58 none
  statics := none }

def pool2 : Array CpInfo := pool [(1, .class_ 2), (0, u "java/lang/constant/Constable"), (0, .class_ 4), (0, u "java/lang/Object")] 6

/-- java/lang/constant/Constable -/
def k2 : Class := { plain "java/lang/constant/Constable" (some 0) with
  accessFlags := 1537
  interfaces := #[]
  cf := some (fileOf pool2 1 #[] #[] 1537 3 #[] #[])
  fields := #[]
  methods := #[]
  instanceTypes := #[]
  staticTypes := #[]
  resolved := Array.replicate 11 none
  statics := none }

def pool3 : Array CpInfo := pool [(1, .class_ 2), (0, u "java/lang/Comparable"), (0, .class_ 4), (0, u "java/lang/Object")] 7

/-- java/lang/Comparable -/
def k3 : Class := { plain "java/lang/Comparable" (some 0) with
  accessFlags := 1537
  interfaces := #[]
  cf := some (fileOf pool3 1 #[] #[] 1537 3 #[] #[])
  fields := #[]
  methods := #[]
  instanceTypes := #[]
  staticTypes := #[]
  resolved := Array.replicate 12 none
  statics := none }

def pool4 : Array CpInfo := pool [(1, .class_ 2), (0, u "java/io/Serializable"), (0, .class_ 4), (0, u "java/lang/Object")] 2

/-- java/io/Serializable -/
def k4 : Class := { plain "java/io/Serializable" (some 0) with
  accessFlags := 1537
  interfaces := #[]
  cf := some (fileOf pool4 1 #[] #[] 1537 3 #[] #[])
  fields := #[]
  methods := #[]
  instanceTypes := #[]
  staticTypes := #[]
  resolved := Array.replicate 7 none
  statics := none }

def pool5 : Array CpInfo := pool [(2, .class_ 4), (1, u "java/lang/Enum"), (0, u "name"), (0, u "Ljava/lang/String;"), (2, u "ordinal"), (0, u "I"), (1, .class_ 14), (1, u "java/lang/Object"), (4, u "hash"), (86, .class_ 108), (1, u "java/lang/Enum$EnumDesc"), (2, .class_ 112), (0, u "java/lang/constant/Constable"), (0, .class_ 114), (0, u "java/lang/Comparable"), (0, .class_ 116), (0, u "java/io/Serializable")] 87

/-- java/lang/Enum -/
def k5 : Class := { plain "java/lang/Enum" (some 0) with
  accessFlags := 1057
  interfaces := #[2, 3, 4]
  cf := some (fileOf pool5 2 #[.nestMembers #[106]] #[] 1057 12 #[111, 113, 115] #[{ accessFlags := 18, nameIndex := 5, descriptorIndex := 6, attributes := #[] }, { accessFlags := 18, nameIndex := 9, descriptorIndex := 10, attributes := #[] }, { accessFlags := 2, nameIndex := 19, descriptorIndex := 10, attributes := #[] }])
  fields := #[{ name := "name", type := (.object "java/lang/String"), accessFlags := 18, slot := 0, constantValue := 0 }, { name := "ordinal", type := .int, accessFlags := 18, slot := 1, constantValue := 0 }, { name := "hash", type := .int, accessFlags := 2, slot := 2, constantValue := 0 }]
  methods := #[]
  instanceTypes := #[(.object "java/lang/String"), .int, .int]
  staticTypes := #[]
  resolved := Array.replicate 204 none
  statics := none }

def pool6 : Array CpInfo := pool [(1, .class_ 2), (0, u "com/example/halfword/halfword/format/MethodHandleKind"), (2, u "STATIC_PUT"), (0, u "Lcom/example/halfword/halfword/format/MethodHandleKind;"), (2, u "STATIC_GET"), (2, u "INSTANCE_PUT"), (0, .fieldref 1 14), (0, .nameAndType 15 6), (0, u "INSTANCE_GET"), (2, u "INVOKE_STATIC"), (2, u "INVOKE_INSTANCE"), (2, u "INVOKE_CONSTRUCTOR"), (2, u "INVOKE_DIRECT"), (2, u "INVOKE_INTERFACE"), (2, u "$VALUES"), (0, u "[Lcom/example/halfword/halfword/format/MethodHandleKind;"), (6, .class_ 43), (1, u "java/lang/Enum"), (6, .fieldref 1 51), (0, .nameAndType 52 53), (0, u "code"), (0, u "I"), (2, u "keyword"), (0, u "Ljava/lang/String;"), (2, u "BY_CODE"), (0, u "Ljava/util/List;"), (85, u "isFieldAccessor"), (0, u "()Z")] 28

def k6c0 : Code := { maxStack := 2, maxLocals := 1, code := prog_58_method_7_code, exceptionTable := #[], attributes := #[] }
def k6m0 : Method := { name := "isFieldAccessor", desc := "()Z", sig := { parameters := [], returnType := some .boolean }, accessFlags := 1, code := some k6c0 }
/-- com/example/halfword/halfword/format/MethodHandleKind -/
def k6 : Class := { plain "com/example/halfword/halfword/format/MethodHandleKind" (some 5) with
  accessFlags := 16433
  interfaces := #[]
  cf := some (fileOf pool6 1 #[] #[{ accessFlags := 1, nameIndex := 147, descriptorIndex := 148, attributes := #[] }] 16433 41 #[] #[{ accessFlags := 16409, nameIndex := 5, descriptorIndex := 6, attributes := #[] }, { accessFlags := 16409, nameIndex := 9, descriptorIndex := 6, attributes := #[] }, { accessFlags := 16409, nameIndex := 12, descriptorIndex := 6, attributes := #[] }, { accessFlags := 16409, nameIndex := 15, descriptorIndex := 6, attributes := #[] }, { accessFlags := 16409, nameIndex := 18, descriptorIndex := 6, attributes := #[] }, { accessFlags := 16409, nameIndex := 21, descriptorIndex := 6, attributes := #[] }, { accessFlags := 16409, nameIndex := 24, descriptorIndex := 6, attributes := #[] }, { accessFlags := 16409, nameIndex := 27, descriptorIndex := 6, attributes := #[] }, { accessFlags := 16409, nameIndex := 30, descriptorIndex := 6, attributes := #[] }, { accessFlags := 26, nameIndex := 60, descriptorIndex := 61, attributes := #[] }, { accessFlags := 18, nameIndex := 52, descriptorIndex := 53, attributes := #[] }, { accessFlags := 18, nameIndex := 56, descriptorIndex := 57, attributes := #[] }, { accessFlags := 4122, nameIndex := 33, descriptorIndex := 34, attributes := #[] }])
  fields := #[{ name := "STATIC_PUT", type := (.object "com/example/halfword/halfword/format/MethodHandleKind"), accessFlags := 16409, slot := 0, constantValue := 0 }, { name := "STATIC_GET", type := (.object "com/example/halfword/halfword/format/MethodHandleKind"), accessFlags := 16409, slot := 1, constantValue := 0 }, { name := "INSTANCE_PUT", type := (.object "com/example/halfword/halfword/format/MethodHandleKind"), accessFlags := 16409, slot := 2, constantValue := 0 }, { name := "INSTANCE_GET", type := (.object "com/example/halfword/halfword/format/MethodHandleKind"), accessFlags := 16409, slot := 3, constantValue := 0 }, { name := "INVOKE_STATIC", type := (.object "com/example/halfword/halfword/format/MethodHandleKind"), accessFlags := 16409, slot := 4, constantValue := 0 }, { name := "INVOKE_INSTANCE", type := (.object "com/example/halfword/halfword/format/MethodHandleKind"), accessFlags := 16409, slot := 5, constantValue := 0 }, { name := "INVOKE_CONSTRUCTOR", type := (.object "com/example/halfword/halfword/format/MethodHandleKind"), accessFlags := 16409, slot := 6, constantValue := 0 }, { name := "INVOKE_DIRECT", type := (.object "com/example/halfword/halfword/format/MethodHandleKind"), accessFlags := 16409, slot := 7, constantValue := 0 }, { name := "INVOKE_INTERFACE", type := (.object "com/example/halfword/halfword/format/MethodHandleKind"), accessFlags := 16409, slot := 8, constantValue := 0 }, { name := "BY_CODE", type := (.object "java/util/List"), accessFlags := 26, slot := 9, constantValue := 0 }, { name := "code", type := .int, accessFlags := 18, slot := 3, constantValue := 0 }, { name := "keyword", type := (.object "java/lang/String"), accessFlags := 18, slot := 4, constantValue := 0 }, { name := "$VALUES", type := (.array (.object "com/example/halfword/halfword/format/MethodHandleKind")), accessFlags := 4122, slot := 10, constantValue := 0 }]
  methods := #[k6m0]
  instanceTypes := #[(.object "java/lang/String"), .int, .int, .int, (.object "java/lang/String")]
  staticTypes := #[(.object "com/example/halfword/halfword/format/MethodHandleKind"), (.object "com/example/halfword/halfword/format/MethodHandleKind"), (.object "com/example/halfword/halfword/format/MethodHandleKind"), (.object "com/example/halfword/halfword/format/MethodHandleKind"), (.object "com/example/halfword/halfword/format/MethodHandleKind"), (.object "com/example/halfword/halfword/format/MethodHandleKind"), (.object "com/example/halfword/halfword/format/MethodHandleKind"), (.object "com/example/halfword/halfword/format/MethodHandleKind"), (.object "com/example/halfword/halfword/format/MethodHandleKind"), (.object "java/util/List"), (.array (.object "com/example/halfword/halfword/format/MethodHandleKind"))]
  resolved := Array.replicate 177 none
  statics := some 0 }

def pool7 : Array CpInfo := pool [(1, u "java/lang/Cloneable"), (0, .class_ 1), (0, u "java/lang/Object"), (0, .class_ 3)] 3

/-- java/lang/Cloneable -/
def k7 : Class := { plain "java/lang/Cloneable" (some 0) with
  accessFlags := 1537
  interfaces := #[]
  cf := some (fileOf pool7 2 #[] #[] 1537 4 #[] #[])
  fields := #[]
  methods := #[]
  instanceTypes := #[]
  staticTypes := #[]
  resolved := Array.replicate 8 none
  statics := none }

/-- the primitive byte -/
def k8 : Class := { plain "byte" none with kind := .primitive 'B', accessFlags := 0x411 }
/-- [B -/
def k9 : Class := { plain "[B" (some 0) with kind := .array 8 .byte, interfaces := #[7, 4], accessFlags := 1041 }

/-- the primitive int -/
def k10 : Class := { plain "int" none with kind := .primitive 'I', accessFlags := 0x411 }
/-- [I -/
def k11 : Class := { plain "[I" (some 0) with kind := .array 10 .int, interfaces := #[7, 4], accessFlags := 1041 }

def heap : Heap := #[{ cls := 6, slots := #[.ref 1, .ref 4, .ref 3, .ref 2, .ref 6, .ref 9, .ref 8, .ref 5, .ref 7, .null, .null], vm := .statics 6 },
  { cls := 6, slots := #[.null, .int 0, .int 0, .int 0, .null], vm := .none },
  { cls := 6, slots := #[.null, .int 0, .int 0, .int 3, .null], vm := .none },
  { cls := 6, slots := #[.null, .int 0, .int 0, .int 2, .null], vm := .none },
  { cls := 6, slots := #[.null, .int 0, .int 0, .int 1, .null], vm := .none },
  { cls := 6, slots := #[.null, .int 0, .int 0, .int 7, .null], vm := .none },
  { cls := 6, slots := #[.null, .int 0, .int 0, .int 4, .null], vm := .none },
  { cls := 6, slots := #[.null, .int 0, .int 0, .int 8, .null], vm := .none },
  { cls := 6, slots := #[.null, .int 0, .int 0, .int 6, .null], vm := .none },
  { cls := 6, slots := #[.null, .int 0, .int 0, .int 5, .null], vm := .none }]
def classes : Array Class := #[k0, k1, k2, k3, k4, k5, k6, k7, k8, k9, k10, k11]
def interned : List (Array UInt16 × Addr) := []
def slotsUsed : Nat := 56
def theMethod : MethodId := ⟨1, 3⟩
def args0 : Array Value := #[.int 5]
def aboutOver (below : List Frame) : State where
  vm := { classes := classes, interned := interned.toArray }
  heap := heap
  slotsUsed := slotsUsed
  threads := #[{ frames := .invoking theMethod args0 :: below }]
def below0 : List Frame := [.native { method := ⟨0, 0⟩, args := #[] }]
def about1 : State := aboutOver below0
def p0 : Program := .bare "" "" ""
def e0 : Env := launch0.env 0 0 0
theorem w_frames : about1.frames = Frame.invoking theMethod args0 :: below0 := rfl
set_option maxRecDepth 65536 in
theorem w_args : argsFit about1.vm theMethod args0 = true := by decide +kernel
set_option maxRecDepth 65536 in
theorem w_heap : heapFits about1 = true := by decide +kernel
set_option maxRecDepth 65536 in
theorem w_runnable : about1.curStatus? = some .runnable := by decide +kernel
set_option maxRecDepth 65536 in
theorem w_alone : about1.alone = true := by decide +kernel
set_option maxRecDepth 65536 in
theorem w_named : about1.methodNamed? x = some theMethod := by decide +kernel
set_option maxRecDepth 65536 in
theorem w_hears : about1.hears theMethod below0 = true := by decide +kernel
set_option maxRecDepth 65536 in
theorem w_ripe : about1.ripe theMethod args0 below0 = true := by decide +kernel
theorem w_running : about1.status = .running := rfl
set_option maxRecDepth 65536 in
theorem w_room : about1.hasRoom e0.platform room_1 = true :=
  launch0.hasRoom_least _ room_1 (by decide +kernel) (by decide +kernel) (by decide +kernel) (by decide +kernel) (by decide +kernel) (by decide +kernel)
theorem allAtoms_all (ts : List Jvm.Cond) (a : Array Jvm.Value) (st : Jvm.State) : (allAtoms ts).before a st = ts.all (fun c => c.before a st) := by
  induction ts with
  | nil => rfl
  | cons c t ih =>
    show (Jvm.Cond.and c (allAtoms t)).before a st = _
    rw [Jvm.Cond.before_and, ih, List.all_cons]
def words1 : List Jvm.Cond := Jvm.Cond.code x code maxLocals ret :: tables_1
/-- a 'code' word, met by the world's own term for the bytes: nothing is compared byte by byte -/
theorem code_word {y : MethodName} {bytes : ByteArray} {mx : Nat} {rt : Option FieldType} {a : Array Value} {s : State} {m : MethodId} {meth : Method} {c : Code} (h1 : s.methodNamed? y = some m) (h2 : s.vm.method? m = some meth) (h3 : meth.code = some c) (h4 : c.code = bytes)
    (h5 : (c.maxLocals == mx && c.exceptionTable.isEmpty && decide (c.maxStack ≤ mostOperands) && decide (meth.sig.returnType = rt) && !meth.locks && decide (parseMethodDescriptor y.desc = some meth.sig)) = true) : (Jvm.Cond.code y bytes mx rt).before a s = true := by
  simp only [Bool.and_eq_true, beq_iff_eq, Bool.not_eq_true', decide_eq_true_eq] at h5
  obtain ⟨⟨⟨⟨⟨g1, g2⟩, g3⟩, g4⟩, g5⟩, g6⟩ := h5
  simp [Cond.before, Cond.holds, Cond.value, h1, h2, h3, h4, g1, g2, g3, g4, g5, g6]
def isCode : Jvm.Cond → Bool
  | .code _ _ _ _ => true
  | _ => false
theorem all_split {L : List Jvm.Cond} {P : Jvm.Cond → Bool} (h1 : L.all (fun c => isCode c || P c) = true) (h2 : ∀ c ∈ L.filter isCode, P c = true) : L.all P = true := by
  refine List.all_eq_true.mpr fun c hc => ?_
  have h := List.all_eq_true.mp h1 c hc
  rcases Bool.eq_false_or_eq_true (isCode c) with hi | hi
  · exact h2 c (List.mem_filter.mpr ⟨hc, hi⟩)
  · simpa [hi] using h
set_option maxRecDepth 65536 in
theorem w_c0 : (Jvm.Cond.code x code maxLocals ret).before args0 about1 = true := code_word (m := ⟨1, 3⟩) (meth := k1m3) (c := k1c3) (by decide +kernel) rfl rfl rfl (by decide +kernel)
set_option maxRecDepth 65536 in
theorem w_c1 : (Jvm.Cond.code ({ cls := "com/example/halfword/halfword/format/MethodHandleKindIsFieldAccessorPinLaw", name := "pick", desc := "(I)Lcom/example/halfword/halfword/format/MethodHandleKind;" } : Jvm.MethodName) method_2_code (1 : Nat) (Option.some (Jvm.ClassFile.FieldType.object "com/example/halfword/halfword/format/MethodHandleKind"))).before args0 about1 = true := code_word (m := ⟨1, 1⟩) (meth := k1m1) (c := k1c1) (by decide +kernel) rfl rfl rfl (by decide +kernel)
set_option maxRecDepth 65536 in
theorem w_c2 : (Jvm.Cond.code ({ cls := "com/example/halfword/halfword/format/MethodHandleKind", name := "isFieldAccessor", desc := "()Z" } : Jvm.MethodName) prog_58_method_7_code (1 : Nat) (Option.some Jvm.ClassFile.FieldType.boolean)).before args0 about1 = true := code_word (m := ⟨6, 0⟩) (meth := k6m0) (c := k6c0) (by decide +kernel) rfl rfl rfl (by decide +kernel)
set_option maxRecDepth 65536 in
theorem w_c3 : (Jvm.Cond.code ({ cls := "com/example/halfword/halfword/format/MethodHandleKindIsFieldAccessorPinLaw", name := "expectedField", desc := "(I)Z" } : Jvm.MethodName) method_3_code (1 : Nat) (Option.some Jvm.ClassFile.FieldType.boolean)).before args0 about1 = true := code_word (m := ⟨1, 2⟩) (meth := k1m2) (c := k1c2) (by decide +kernel) rfl rfl rfl (by decide +kernel)
def codes1 : List Jvm.Cond := [Jvm.Cond.code x code maxLocals ret, Jvm.Cond.code ({ cls := "com/example/halfword/halfword/format/MethodHandleKindIsFieldAccessorPinLaw", name := "pick", desc := "(I)Lcom/example/halfword/halfword/format/MethodHandleKind;" } : Jvm.MethodName) method_2_code (1 : Nat) (Option.some (Jvm.ClassFile.FieldType.object "com/example/halfword/halfword/format/MethodHandleKind")), Jvm.Cond.code ({ cls := "com/example/halfword/halfword/format/MethodHandleKind", name := "isFieldAccessor", desc := "()Z" } : Jvm.MethodName) prog_58_method_7_code (1 : Nat) (Option.some Jvm.ClassFile.FieldType.boolean), Jvm.Cond.code ({ cls := "com/example/halfword/halfword/format/MethodHandleKindIsFieldAccessorPinLaw", name := "expectedField", desc := "(I)Z" } : Jvm.MethodName) method_3_code (1 : Nat) (Option.some Jvm.ClassFile.FieldType.boolean)]
set_option maxRecDepth 65536 in
theorem codes_eq : words1.filter isCode = codes1 := rfl
theorem w_codes : ∀ c ∈ words1.filter isCode, c.before args0 about1 = true := by
  rw [codes_eq]
  intro c hc
  simp only [codes1, List.mem_cons, List.not_mem_nil, or_false] at hc
  rcases hc with rfl | rfl | rfl | rfl
  · exact w_c0
  · exact w_c1
  · exact w_c2
  · exact w_c3
set_option maxRecDepth 65536 in
theorem w_t1 : (words1.take 24).all (fun c => isCode c || c.before args0 about1) = true := by decide +kernel
set_option maxRecDepth 65536 in
theorem w_t2 : (words1.drop 24).all (fun c => isCode c || c.before args0 about1) = true := by decide +kernel
theorem w_tables : (allAtoms (Jvm.Cond.code x code maxLocals ret :: tables_1)).before args0 about1 = true := by
  rw [allAtoms_all]
  show words1.all (fun c => c.before args0 about1) = true
  refine all_split ?_ w_codes
  rw [← List.take_append_drop 24 words1, List.all_append, w_t1, w_t2]
  rfl
set_option maxRecDepth 65536 in
theorem w_case : (Jvm.Cond.and given_1 narrow_1).before args0 about1 = true := by decide +kernel
theorem w_applies : (headSpec (Jvm.Cond.code x code maxLocals ret :: tables_1) room_1).applies x e0.platform about1 = true :=
  (Spec.applies_iff w_frames).mpr ⟨w_running, w_runnable, w_alone, w_named, w_hears, w_ripe, w_room, w_tables⟩
theorem atStart : AtStart classFile x code maxLocals ret World_1 tables_1 room_1 Calls_1 rest_1 Pre_1 launch0 p0 e0 about1 theMethod args0 below0 :=
  ⟨lists_1, trivial, launch0.admits_env _ _ _, launch0.least_env, fairChoices_fair.cas, fairChoices_fair.clock, w_frames, w_args, w_heap, w_applies, trivial, trivial, w_case⟩
end start1
theorem witness_1 : WitnessClaimed_1 := ⟨start1.p0, start1.e0, start1.about1, start1.theMethod, start1.args0, start1.below0, start1.atStart⟩
end Jvm.Pilot.@@N@@
