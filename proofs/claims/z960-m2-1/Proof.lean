import JvmDerived
import JvmDerived.Pilot.@@N@@Statement
import JvmDerived.Pilot.@@N@@Code
set_option linter.unusedVariables false
set_option linter.unusedSimpArgs false
namespace Jvm.RoadKit
open Sem ClassFile Op Lib Jvm.Stand Jvm.Free Jvm.LawKit
section New
variable {p : Program} {l : Launch} {e : Env} {R : Room} {s : State} {m : MethodId} {args : Array Value} {below : List Frame} {meth : Method} {c : Code} {T : State} {locs : List Loc} {cells slots : Nat}
theorem retI (X : Stand p l e R s m args below meth c T locs cells slots) (hx : p.tables.exec = Jvm.exec) {pc : Nat} {Ls : Array Slot} {z : Int32} {rest : List Value} (hret : meth.sig.returnType = some .int) (hd : decode c.code pc = .ok (.ireturn, 1)) {fs : List Frame}
    (hl : ∀ (f : JFrame) (acts : List Action), f.method = m → f.locked = none → f.entered = [] → (doReturn e (T.setTop f) acts (some (.int z))).1 = T.setFrames fs) : Steps p.tables e below (T.setTop (mkF m pc Ls (.int z :: rest))) (T.setFrames fs) := by
  have hm' : T.vm.method? m = some meth := X.method'
  have hn : narrow .int (.int z) = .int z := rfl
  show Steps p.tables e below (T.setTop { method := m, pc := pc, locals := Ls, stack := _ :: rest, locked := none }) _
  jvm_step X.here [X.here.top, hx, hd, hm', hret, hn]
  first | (intro acts; rw [hl _ acts rfl rfl rfl]) | rw [hl _ _ rfl rfl rfl]
  exact Steps.refl _
end New
end Jvm.RoadKit
namespace Jvm.Pilot.@@N@@
open Jvm Jvm.ClassFile Sem Op Lib Jvm.Free Jvm.Stand Jvm.LawKit Jvm.RoadKit Bundle Jvm.Pilot.@@N@@.Jvm.D
theorem own_mod (x d : Int32) (D : Int) (hd : d.toInt = D) (h : 0 < D) : 0 ≤ ((x &&& (2147483647 : Int32)) % d).toInt ∧ ((x &&& (2147483647 : Int32)) % d).toInt < D := by
  have h1 := (c_and x 2147483647 (by decide)).1
  have h2 := (c_irem (x &&& 2147483647) d D hd).1 h1
  rw [h2]; exact ⟨Int.emod_nonneg _ (by omega), Int.emod_lt_of_pos _ h⟩
theorem own_nat {k : Int32} (h : 0 ≤ k.toInt) : k = Int32.ofNat k.toNatClampNeg := by
  apply Int32.toInt_inj.mp
  have e : (k.toNatClampNeg : Int) = k.toInt := by simp only [Int32.toNatClampNeg]; omega
  have b : k.toInt < 2147483648 := by have := k.toInt_lt; omega
  rw [Int32.toInt_ofNat_of_lt (by omega)]; omega
theorem own_clamp {k : Int32} (h : 0 ≤ k.toInt) {n : Nat} (hn : k.toInt < n) : k.toNatClampNeg < n := by
  simp only [Int32.toNatClampNeg]; omega
theorem own_clamp_of {j : Nat} (h : j < 2147483648) : (Int32.ofNat j).toNatClampNeg = j := by
  have e : (Int32.ofNat j).toInt = j := Int32.toInt_ofNat_of_lt h
  simp only [Int32.toNatClampNeg, e]; omega
theorem own_nei {x k : Int32} {z : Int} (h : ¬ x = k) (hk : k.toInt = z) : x.toInt ≠ z := fun e => h (Int32.toInt_inj.mp (e.trans hk.symm))
theorem own_eqi {x k : Int32} {z : Int} (h : x.toInt = z) (hk : k.toInt = z) : x = k := Int32.toInt_inj.mp (h.trans hk.symm)
theorem own_sta_keep {Z : State} {h h' : Heap} {C n d : String} {v : Value} {ws : List Addr} (F : Sta Z h C n d v) (K : Keep h h' ws) (q : ∀ a ∈ ws, ∃ c : Cell, h[a]? = some c ∧ c.vm.isStatics = false) : Sta Z h' C n d v := by
  obtain ⟨cf, i, k, f, st, cell, h1, h2, h3, h4, h5, h6, h7⟩ := F
  refine ⟨cf, i, k, f, st, cell, h1, h2, h3, h4, K.2.1 st cell h5 (fun hm => ?_), h6, h7⟩
  obtain ⟨c, e1, e2⟩ := q st hm
  cases h5.symm.trans e1
  rw [e2] at h6; cases h6
theorem own_ns {Z : State} {h : Heap} {C : String} {a : Addr} (E : Exa Z h a C) : ∃ c : Cell, h[a]? = some c ∧ c.vm.isStatics = false := by
  obtain ⟨c, k, h1, -, -, h4, -⟩ := E
  exact ⟨c, h1, h4⟩
def QL (n0 : Nat) (v : Option Value) (h : Heap) (L : List Loc) : Prop := v = some (.int (1 : Int32)) ∧ Fr n0 L
def QR (r : Value) (h0 : Heap) (n0 : Nat) (v : Option Value) (h : Heap) (L : List Loc) : Prop := v = some r ∧ Fr n0 L ∧ h = h0
theorem own_fldI {args : Array Value} {s : State} {t : Term} {C n d : String} {a : Addr} {k : Int32} (ht : t.eval args s none [] s = some (.ref a)) (h : (Jvm.Cond.eq (.field t C n d) (.int k)).value args s none s [] = some true) : Fld s s.heap a C n d (.int k) := by
  obtain ⟨u, w, e1, e2, k1, k2⟩ := cmp_v (Or.inl h)
  obtain rfl : w = .int k := (Option.some.inj (e2.symm.trans (Term.int_eval k)))
  obtain ⟨z, rfl⟩ := k2
  have hz : z = k := by simpa [Cond.value, e1, e2] using h
  subst hz
  rw [fld_at ht] at e1
  exact Fld.start e1
theorem own_fldR {args : Array Value} {s : State} {t u : Term} {C n d : String} {a b : Addr} (ht : t.eval args s none [] s = some (.ref a)) (hu : u.eval args s none [] s = some (.ref b)) (h : (Jvm.Cond.eq (.field t C n d) u).value args s none s [] = some true) : Fld s s.heap a C n d (.ref b) := by
  cases e1 : (Term.field t C n d).eval args s none [] s with
  | none => simp [Cond.value, e1] at h
  | some x =>
    have hx : x = .ref b := by
      cases x <;> simp [Cond.value, e1, hu] at h
      exact congrArg Value.ref h
    subst hx
    rw [fld_at ht] at e1
    exact Fld.start e1
theorem own_nlt {k : Int32} (h : 0 ≤ k.toInt) : ¬ k < 0 := by rw [Int32.lt_iff_toInt_lt]; show ¬ k.toInt < 0; omega
theorem own_lt {k : Int32} (h : k.toInt < 14) : k < 14 := by rw [Int32.lt_iff_toInt_lt]; exact h
theorem own_get (W : Nat → Addr) : ∀ j, j < 14 → ([(.ref (W 0)), (.ref (W 1)), (.ref (W 2)), (.ref (W 3)), (.ref (W 4)), (.ref (W 5)), (.ref (W 6)), (.ref (W 7)), (.ref (W 8)), (.ref (W 9)), (.ref (W 10)), (.ref (W 11)), (.ref (W 12)), (.ref (W 13))] : List Value).getD j .null = .ref (W j) := (fun i hi => match i, hi with | 0, _ => rfl | 1, _ => rfl | 2, _ => rfl | 3, _ => rfl | 4, _ => rfl | 5, _ => rfl | 6, _ => rfl | 7, _ => rfl | 8, _ => rfl | 9, _ => rfl | 10, _ => rfl | 11, _ => rfl | 12, _ => rfl | 13, _ => rfl | n + 14, h => absurd h (by omega))
theorem d2_0 : decode jdk_37_method_2_code 0 = .ok (.aload_n 0, 1) := by decide +kernel
theorem d2_1 : decode jdk_37_method_2_code 1 = .ok (.getfield 7, 3) := by decide +kernel
theorem d2_4 : decode jdk_37_method_2_code 4 = .ok (.ireturn, 1) := by decide +kernel
theorem pn_2 : plainName "java/lang/Enum" = true := by first | (simp [plainName, overriddenIn]; done) | decide +kernel
theorem ef_rm2 (m : MethodId) (x0 : Addr) : entryFrame m #[(.ref x0)] 1 = mkF m 0 #[.val (.ref x0)] [] := by first | (simp [entryFrame, mkF, argsToLocals, Value.category]; done) | rfl
set_option maxRecDepth 65536 in
set_option maxHeartbeats 40000000 in
theorem rm2 (l : Launch) (Z : State) (a0 : Array Value) (hw : ∀ d ∈ tables_1, d.before a0 Z = true) (ws : List Jvm.Cond) (o0 : Addr) (c0 : Int32) (h0 : Heap) (n0 : Nat) (Z0 : n0 ≤ h0.size) (F_a : Fld Z h0 o0 "java/lang/Enum" "ordinal" "I" (.int c0)) :
    MetFree l (⟨"java/lang/Enum", "ordinal", "()I"⟩ : MethodName) (head1 (Jvm.Cond.code (⟨"java/lang/Enum", "ordinal", "()I"⟩ : MethodName) jdk_37_method_2_code 1 (some .int) :: ws) ({ frames := 0, cells := 0, slots := 0, locals := 0 } : Room)) (fun a U => a = #[(.ref o0)] ∧ Z.Warmed39 U.vm ∧ U.heap = h0) (fun _ _ _ _ _ => True) (fun _ U o U' => ∃ v L, o = .returned v ∧ QR (.int c0) h0 n0 v U'.heap L ∧ FrameEnd U o U' L ({ frames := 0, cells := 0, slots := 0, locals := 0 } : Room).cells ({ frames := 0, cells := 0, slots := 0, locals := 0 } : Room).slots) := by
  refine MetFree.of_bodySF (plainFor_of_name pn_2) hisR ?_
  intro p e s m args below meth c s₁ Bd hml0 hP hK
  obtain ⟨rfl, hZ, hh⟩ := hP
  have hx := Bd.exec
  have hby := Bd.bytes
  have hml : c.maxLocals = 1 := hml0
  have hown : s.vm.findClass "java/lang/Enum" = some m.cls := findClass_of_methodNamed Bd.named
  have hnm := (name_of_methodNamed Bd.named Bd.method).1
  have X0 : Stand p l e ({ frames := 0, cells := 0, slots := 0, locals := 0 } : Room) s m #[(.ref o0)] below meth c s₁ [] 0 0 := Stand.of_body Bd
  have e0 : s₁.heap = h0 := by rw [← hh, Bd.state]; rfl
  have N0 := Fr.nil n0
  have pre0 : ∀ t, Steps p.tables e below (s₁.setTop (mkF m 0 #[.val (.ref o0)] [])) t → Steps p.tables e below (s₁.setTop (entryFrame m #[(.ref o0)] 1)) t := fun t k => castTop (ef_rm2 m o0) k
  obtain ⟨T1, X1, e1, st1⟩ := getF X0 hx hZ hown (host := "") (Or.inl (hw _ (List.mem_of_getElem? (i := 45) rfl))) Via.refl e0 F_a (g := (mkF m 1 #[.val (.ref o0)] [(.ref o0)])) rfl rfl (hb hby d2_1)
  obtain ⟨fs, hr, hrun, hended, hW, hsame⟩ := X1.leave (v := some (.int c0)) (fun h => by rw [Bd.returns] at h; cases h)
  refine ⟨_, _, pre0 _ ?_, hrun, hended, _, _, rfl, ?_, ⟨_, rfl⟩, hW, hsame.mono (by decide) (by decide)⟩
  · skip
    show Steps p.tables e below (s₁.setTop (mkF m 0 #[.val (.ref o0)] [])) _
    refine XS.aloadN X0.here hx rfl (hb hby d2_0) rfl rfl ?_
    show Steps p.tables e below (s₁.setTop (mkF m 1 #[.val (.ref o0)] [(.ref o0)])) _
    refine st1 _ ?_
    show Steps p.tables e below (T1.setTop (mkF m 4 #[.val (.ref o0)] [(.int c0)])) _
    exact retI X1 hx Bd.returns (hb hby d2_4) hr
  · show QR (.int c0) h0 n0 _ T1.heap _
    rw [e1]
    exact ⟨(by first | rfl | simp []), N0, rfl⟩
theorem d1_0 : decode prog_12_method_5_code 0 = .ok (.aload_n 0, 1) := by decide +kernel
theorem d1_1 : decode prog_12_method_5_code 1 = .ok (.invokevirtual 65, 3) := by decide +kernel
theorem pd___I : parseMethodDescriptor "()I" = some ⟨[], some .int⟩ := by decide +kernel
theorem d1_4 : decode prog_12_method_5_code 4 = .ok (.tableswitch 44 2 7 #[40, 40, 40, 44, 40, 40], 40) := by decide +kernel
theorem d1_44 : decode prog_12_method_5_code 44 = .ok (.iconst 1, 1) := by decide +kernel
theorem d1_45 : decode prog_12_method_5_code 45 = .ok (.goto 4, 3) := by decide +kernel
theorem d1_49 : decode prog_12_method_5_code 49 = .ok (.ireturn, 1) := by decide +kernel
theorem d1_48 : decode prog_12_method_5_code 48 = .ok (.iconst 0, 1) := by decide +kernel
theorem pn_1 : plainName "heslar/Element" = true := by first | (simp [plainName, overriddenIn]; done) | decide +kernel
theorem ef_rm1 (m : MethodId) (x0 : Addr) : entryFrame m #[(.ref x0)] 1 = mkF m 0 #[.val (.ref x0)] [] := by first | (simp [entryFrame, mkF, argsToLocals, Value.category]; done) | rfl
set_option maxRecDepth 65536 in
set_option maxHeartbeats 40000000 in
theorem rm1 (l : Launch) (Z : State) (a0 : Array Value) (hw : ∀ d ∈ tables_1, d.before a0 Z = true) (ws : List Jvm.Cond) (o0 : Addr) (r c0 : Int32) (h0 : Heap) (n0 : Nat) (Z0 : n0 ≤ h0.size) (E_a : Exa Z h0 o0 "heslar/Element") (F_a : Fld Z h0 o0 "java/lang/Enum" "ordinal" "I" (.int c0)) (hr0 : r = if c0 = 2 ∨ c0 = 3 ∨ c0 = 4 ∨ c0 = 6 ∨ c0 = 7 then 1 else 0) :
    MetFree l (⟨"heslar/Element", "isSupplement", "()Z"⟩ : MethodName) (head1 (Jvm.Cond.code (⟨"heslar/Element", "isSupplement", "()Z"⟩ : MethodName) prog_12_method_5_code 1 (some .boolean) :: ws) ({ frames := 1, cells := 0, slots := 0, locals := 12 } : Room)) (fun a U => a = #[(.ref o0)] ∧ Z.Warmed39 U.vm ∧ U.heap = h0) (fun _ _ _ _ _ => True) (fun _ U o U' => ∃ v L, o = .returned v ∧ QR (.int r) h0 n0 v U'.heap L ∧ FrameEnd U o U' L ({ frames := 1, cells := 0, slots := 0, locals := 12 } : Room).cells ({ frames := 1, cells := 0, slots := 0, locals := 12 } : Room).slots) := by
  refine MetFree.of_bodySF (plainFor_of_name pn_1) hisR ?_
  intro p e s m args below meth c s₁ Bd hml0 hP hK
  obtain ⟨rfl, hZ, hh⟩ := hP
  have hx := Bd.exec
  have hby := Bd.bytes
  have hml : c.maxLocals = 1 := hml0
  have hown : s.vm.findClass "heslar/Element" = some m.cls := findClass_of_methodNamed Bd.named
  have hnm := (name_of_methodNamed Bd.named Bd.method).1
  have X0 : Stand p l e ({ frames := 1, cells := 0, slots := 0, locals := 12 } : Room) s m #[(.ref o0)] below meth c s₁ [] 0 0 := Stand.of_body Bd
  have e0 : s₁.heap = h0 := by rw [← hh, Bd.state]; rfl
  have N0 := Fr.nil n0
  have pre0 : ∀ t, Steps p.tables e below (s₁.setTop (mkF m 0 #[.val (.ref o0)] [])) t → Steps p.tables e below (s₁.setTop (entryFrame m #[(.ref o0)] 1)) t := fun t k => castTop (ef_rm1 m o0) k
  obtain ⟨cq1, kq1, q1a, q1b, q1c⟩ := isOf hZ e0 E_a
  obtain ⟨_, _, ⟨T1, L1, k1, n1⟩, -, X1, ⟨Lc1, hQ1, l1, y1, z1⟩, st1⟩ := X0.virtualBackUp hx (x := (⟨"heslar/Element", "ordinal", "()I"⟩ : MethodName)) (y := (⟨"java/lang/Enum", "ordinal", "()I"⟩ : MethodName)) (owner := "java/lang/Enum") hown (mvT hZ (hw _ (List.mem_of_getElem? (i := 38) rfl))) (mvT hZ (hw _ (List.mem_of_getElem? (i := 39) rfl))) (mvT hZ (hw _ (List.mem_of_getElem? (i := 40) rfl))) (by decide) (mvT hZ (hw _ (List.mem_of_getElem? (i := 42) rfl))) (mvT hZ (hw _ (List.mem_of_getElem? (i := 41) rfl))) (backOf (W := 0) (rm2 l Z a0 hw [] o0 c0 h0 n0 Z0 F_a) hZ (hw _ (List.mem_of_getElem? (i := 44) rfl)) (hw _ (List.mem_of_getElem? (i := 43) rfl)) (by decide) (by decide)) q1a q1c (g := (mkF m 1 #[.val (.ref o0)] [(.ref o0)])) rfl (by rw [hml]; rfl) (Steps.refl _) (argsL := []) (rest := []) (lenOf pd___I rfl) rfl (by show 2 * 0 + _ ≤ _; exact Nat.le_of_eq rfl) (hb hby d1_1) (fun _ _ => ⟨rfl, e0, (by decide : 0 + 0 ≤ _), (by decide : 0 + 0 ≤ _)⟩)
  dsimp only [Pt.U, Pt.locs, Pt.cells, Pt.slots] at X1 l1 y1 z1 st1 hQ1
  subst l1 y1 z1
  obtain ⟨rfl, N1q, e1⟩ := hQ1
  have N1 := Fr.app N0 N1q
  have pre2 : ∀ t, Steps p.tables e below (T1.setTop (mkF m 4 #[.val (.ref o0)] [(.int c0)])) t → Steps p.tables e below (s₁.setTop (entryFrame m #[(.ref o0)] 1)) t := by
    intro t kt
    refine pre0 t ?_
    show Steps p.tables e below (s₁.setTop (mkF m 0 #[.val (.ref o0)] [])) _
    refine XS.aloadN X0.here hx rfl (hb hby d1_0) rfl rfl ?_
    show Steps p.tables e below (s₁.setTop (mkF m 1 #[.val (.ref o0)] [(.ref o0)])) _
    refine st1.trans ?_
    exact kt
  by_cases hc3 : c0 = (2 : Int32)
  · skip
    obtain ⟨fs, hr, hrun, hended, hW, hsame⟩ := X1.leave (v := some (.int (1 : Int32))) (fun h => by rw [Bd.returns] at h; cases h)
    refine ⟨_, _, pre2 _ ?_, hrun, hended, _, _, rfl, ?_, ⟨_, rfl⟩, hW, hsame.mono (by decide) (by decide)⟩
    · skip
      show Steps p.tables e below (T1.setTop (mkF m 4 #[.val (.ref o0)] [(.int c0)])) _
      refine X1.tableswitchIn hx (g := (mkF m 4 #[.val (.ref o0)] [(.int c0)])) rfl rfl (hb hby d1_4) (by rw [hc3]; decide) (off := 40) (by rw [hc3]; rfl) (by show (0 : Int) ≤ (4 : Int) + 40; decide) _ ?_
      show Steps p.tables e below (T1.setTop (mkF m 44 #[.val (.ref o0)] [])) _
      refine XS.iconst X1.here hx rfl (hb hby d1_44) ?_
      show Steps p.tables e below (T1.setTop (mkF m 45 #[.val (.ref o0)] [(.int (1 : Int32))])) _
      refine XS.goto X1.here hx rfl (pc0 := 45) (pc' := 49) rfl (hb hby d1_45) (by decide) (by decide) ?_
      show Steps p.tables e below (T1.setTop (mkF m 49 #[.val (.ref o0)] [(.int (1 : Int32))])) _
      exact retN X1 hx (t := .boolean) Bd.returns (by simp) (hb hby d1_49) hr
    · show QR (.int r) h0 n0 _ T1.heap _
      rw [e1]
      exact ⟨(by first | rfl | simp [hc3, hr0]), N1, rfl⟩
  by_cases hc4 : c0 = (3 : Int32)
  · skip
    obtain ⟨fs, hr, hrun, hended, hW, hsame⟩ := X1.leave (v := some (.int (1 : Int32))) (fun h => by rw [Bd.returns] at h; cases h)
    refine ⟨_, _, pre2 _ ?_, hrun, hended, _, _, rfl, ?_, ⟨_, rfl⟩, hW, hsame.mono (by decide) (by decide)⟩
    · skip
      show Steps p.tables e below (T1.setTop (mkF m 4 #[.val (.ref o0)] [(.int c0)])) _
      refine X1.tableswitchIn hx (g := (mkF m 4 #[.val (.ref o0)] [(.int c0)])) rfl rfl (hb hby d1_4) (by rw [hc4]; decide) (off := 40) (by rw [hc4]; rfl) (by show (0 : Int) ≤ (4 : Int) + 40; decide) _ ?_
      show Steps p.tables e below (T1.setTop (mkF m 44 #[.val (.ref o0)] [])) _
      refine XS.iconst X1.here hx rfl (hb hby d1_44) ?_
      show Steps p.tables e below (T1.setTop (mkF m 45 #[.val (.ref o0)] [(.int (1 : Int32))])) _
      refine XS.goto X1.here hx rfl (pc0 := 45) (pc' := 49) rfl (hb hby d1_45) (by decide) (by decide) ?_
      show Steps p.tables e below (T1.setTop (mkF m 49 #[.val (.ref o0)] [(.int (1 : Int32))])) _
      exact retN X1 hx (t := .boolean) Bd.returns (by simp) (hb hby d1_49) hr
    · show QR (.int r) h0 n0 _ T1.heap _
      rw [e1]
      exact ⟨(by first | rfl | simp [hc3, hc4, hr0]), N1, rfl⟩
  by_cases hc5 : c0 = (4 : Int32)
  · skip
    obtain ⟨fs, hr, hrun, hended, hW, hsame⟩ := X1.leave (v := some (.int (1 : Int32))) (fun h => by rw [Bd.returns] at h; cases h)
    refine ⟨_, _, pre2 _ ?_, hrun, hended, _, _, rfl, ?_, ⟨_, rfl⟩, hW, hsame.mono (by decide) (by decide)⟩
    · skip
      show Steps p.tables e below (T1.setTop (mkF m 4 #[.val (.ref o0)] [(.int c0)])) _
      refine X1.tableswitchIn hx (g := (mkF m 4 #[.val (.ref o0)] [(.int c0)])) rfl rfl (hb hby d1_4) (by rw [hc5]; decide) (off := 40) (by rw [hc5]; rfl) (by show (0 : Int) ≤ (4 : Int) + 40; decide) _ ?_
      show Steps p.tables e below (T1.setTop (mkF m 44 #[.val (.ref o0)] [])) _
      refine XS.iconst X1.here hx rfl (hb hby d1_44) ?_
      show Steps p.tables e below (T1.setTop (mkF m 45 #[.val (.ref o0)] [(.int (1 : Int32))])) _
      refine XS.goto X1.here hx rfl (pc0 := 45) (pc' := 49) rfl (hb hby d1_45) (by decide) (by decide) ?_
      show Steps p.tables e below (T1.setTop (mkF m 49 #[.val (.ref o0)] [(.int (1 : Int32))])) _
      exact retN X1 hx (t := .boolean) Bd.returns (by simp) (hb hby d1_49) hr
    · show QR (.int r) h0 n0 _ T1.heap _
      rw [e1]
      exact ⟨(by first | rfl | simp [hc3, hc4, hc5, hr0]), N1, rfl⟩
  by_cases hc6 : c0 = (5 : Int32)
  · skip
    obtain ⟨fs, hr, hrun, hended, hW, hsame⟩ := X1.leave (v := some (.int (0 : Int32))) (fun h => by rw [Bd.returns] at h; cases h)
    refine ⟨_, _, pre2 _ ?_, hrun, hended, _, _, rfl, ?_, ⟨_, rfl⟩, hW, hsame.mono (by decide) (by decide)⟩
    · skip
      show Steps p.tables e below (T1.setTop (mkF m 4 #[.val (.ref o0)] [(.int c0)])) _
      refine X1.tableswitchIn hx (g := (mkF m 4 #[.val (.ref o0)] [(.int c0)])) rfl rfl (hb hby d1_4) (by rw [hc6]; decide) (off := 44) (by rw [hc6]; rfl) (by show (0 : Int) ≤ (4 : Int) + 44; decide) _ ?_
      show Steps p.tables e below (T1.setTop (mkF m 48 #[.val (.ref o0)] [])) _
      refine XS.iconst X1.here hx rfl (hb hby d1_48) ?_
      show Steps p.tables e below (T1.setTop (mkF m 49 #[.val (.ref o0)] [(.int (0 : Int32))])) _
      exact retN X1 hx (t := .boolean) Bd.returns (by simp) (hb hby d1_49) hr
    · show QR (.int r) h0 n0 _ T1.heap _
      rw [e1]
      exact ⟨(by first | rfl | simp [hc3, hc4, hc5, hc6, hr0]), N1, rfl⟩
  by_cases hc7 : c0 = (6 : Int32)
  · skip
    obtain ⟨fs, hr, hrun, hended, hW, hsame⟩ := X1.leave (v := some (.int (1 : Int32))) (fun h => by rw [Bd.returns] at h; cases h)
    refine ⟨_, _, pre2 _ ?_, hrun, hended, _, _, rfl, ?_, ⟨_, rfl⟩, hW, hsame.mono (by decide) (by decide)⟩
    · skip
      show Steps p.tables e below (T1.setTop (mkF m 4 #[.val (.ref o0)] [(.int c0)])) _
      refine X1.tableswitchIn hx (g := (mkF m 4 #[.val (.ref o0)] [(.int c0)])) rfl rfl (hb hby d1_4) (by rw [hc7]; decide) (off := 40) (by rw [hc7]; rfl) (by show (0 : Int) ≤ (4 : Int) + 40; decide) _ ?_
      show Steps p.tables e below (T1.setTop (mkF m 44 #[.val (.ref o0)] [])) _
      refine XS.iconst X1.here hx rfl (hb hby d1_44) ?_
      show Steps p.tables e below (T1.setTop (mkF m 45 #[.val (.ref o0)] [(.int (1 : Int32))])) _
      refine XS.goto X1.here hx rfl (pc0 := 45) (pc' := 49) rfl (hb hby d1_45) (by decide) (by decide) ?_
      show Steps p.tables e below (T1.setTop (mkF m 49 #[.val (.ref o0)] [(.int (1 : Int32))])) _
      exact retN X1 hx (t := .boolean) Bd.returns (by simp) (hb hby d1_49) hr
    · show QR (.int r) h0 n0 _ T1.heap _
      rw [e1]
      exact ⟨(by first | rfl | simp [hc3, hc4, hc5, hc6, hc7, hr0]), N1, rfl⟩
  by_cases hc8 : c0 = (7 : Int32)
  · skip
    obtain ⟨fs, hr, hrun, hended, hW, hsame⟩ := X1.leave (v := some (.int (1 : Int32))) (fun h => by rw [Bd.returns] at h; cases h)
    refine ⟨_, _, pre2 _ ?_, hrun, hended, _, _, rfl, ?_, ⟨_, rfl⟩, hW, hsame.mono (by decide) (by decide)⟩
    · skip
      show Steps p.tables e below (T1.setTop (mkF m 4 #[.val (.ref o0)] [(.int c0)])) _
      refine X1.tableswitchIn hx (g := (mkF m 4 #[.val (.ref o0)] [(.int c0)])) rfl rfl (hb hby d1_4) (by rw [hc8]; decide) (off := 40) (by rw [hc8]; rfl) (by show (0 : Int) ≤ (4 : Int) + 40; decide) _ ?_
      show Steps p.tables e below (T1.setTop (mkF m 44 #[.val (.ref o0)] [])) _
      refine XS.iconst X1.here hx rfl (hb hby d1_44) ?_
      show Steps p.tables e below (T1.setTop (mkF m 45 #[.val (.ref o0)] [(.int (1 : Int32))])) _
      refine XS.goto X1.here hx rfl (pc0 := 45) (pc' := 49) rfl (hb hby d1_45) (by decide) (by decide) ?_
      show Steps p.tables e below (T1.setTop (mkF m 49 #[.val (.ref o0)] [(.int (1 : Int32))])) _
      exact retN X1 hx (t := .boolean) Bd.returns (by simp) (hb hby d1_49) hr
    · show QR (.int r) h0 n0 _ T1.heap _
      rw [e1]
      exact ⟨(by first | rfl | simp [hc3, hc4, hc5, hc6, hc7, hc8, hr0]), N1, rfl⟩
  have u_hc3 := own_nei hc3 (z := 2) rfl
  have u_hc4 := own_nei hc4 (z := 3) rfl
  have u_hc5 := own_nei hc5 (z := 4) rfl
  have u_hc6 := own_nei hc6 (z := 5) rfl
  have u_hc7 := own_nei hc7 (z := 6) rfl
  have u_hc8 := own_nei hc8 (z := 7) rfl
  obtain ⟨fs, hr, hrun, hended, hW, hsame⟩ := X1.leave (v := some (.int (0 : Int32))) (fun h => by rw [Bd.returns] at h; cases h)
  refine ⟨_, _, pre2 _ ?_, hrun, hended, _, _, rfl, ?_, ⟨_, rfl⟩, hW, hsame.mono (by decide) (by decide)⟩
  · skip
    show Steps p.tables e below (T1.setTop (mkF m 4 #[.val (.ref o0)] [(.int c0)])) _
    refine X1.tableswitchOut hx (g := (mkF m 4 #[.val (.ref o0)] [(.int c0)])) rfl rfl (hb hby d1_4) (by omega) (by show (0 : Int) ≤ (4 : Int) + 44; decide) _ ?_
    show Steps p.tables e below (T1.setTop (mkF m 48 #[.val (.ref o0)] [])) _
    refine XS.iconst X1.here hx rfl (hb hby d1_48) ?_
    show Steps p.tables e below (T1.setTop (mkF m 49 #[.val (.ref o0)] [(.int (0 : Int32))])) _
    exact retN X1 hx (t := .boolean) Bd.returns (by simp) (hb hby d1_49) hr
  · show QR (.int r) h0 n0 _ T1.heap _
    rw [e1]
    exact ⟨(by first | rfl | simp [hc3, hc4, hc5, hc6, hc7, hc8, hr0]), N1, rfl⟩
theorem pd___Z : parseMethodDescriptor "()Z" = some ⟨[], some .boolean⟩ := by decide +kernel
theorem pn_0 : plainName "heslar/ElementIsSupplementPinLaw" = true := by first | (simp [plainName, overriddenIn]; done) | decide +kernel
theorem ef_rm0 (m : MethodId) (x0 : Int32) : entryFrame m #[(.int x0)] maxLocals = mkF m 0 #[.val (.int x0), .unset, .unset, .unset, .unset] [] := by first | (simp [entryFrame, mkF, argsToLocals, Value.category, maxLocals]; done) | rfl
set_option maxRecDepth 65536 in
set_option maxHeartbeats 40000000 in
theorem rm0 (l : Launch) (Z : State) (a0 : Array Value) (hw : ∀ d ∈ tables_1, d.before a0 Z = true) (ws : List Jvm.Cond) (p0 : Int32) (k r : Int32) (W : Nat → Addr) (h0 : Heap) (n0 : Nat) (Z0 : n0 ≤ h0.size) (S_NM_MAIN : Sta Z h0 "heslar/Element" "NM_MAIN" "Lheslar/Element;" (.ref (W 0))) (S_NM_MINOR : Sta Z h0 "heslar/Element" "NM_MINOR" "Lheslar/Element;" (.ref (W 1))) (S_NM_SUP_GEN : Sta Z h0 "heslar/Element" "NM_SUP_GEN" "Lheslar/Element;" (.ref (W 2))) (S_NM_SUP_GEO : Sta Z h0 "heslar/Element" "NM_SUP_GEO" "Lheslar/Element;" (.ref (W 3))) (S_NM_SUP_CHRO : Sta Z h0 "heslar/Element" "NM_SUP_CHRO" "Lheslar/Element;" (.ref (W 4))) (S_NM_ORDER : Sta Z h0 "heslar/Element" "NM_ORDER" "Lheslar/Element;" (.ref (W 5))) (S_NM_SUP_DIFF : Sta Z h0 "heslar/Element" "NM_SUP_DIFF" "Lheslar/Element;" (.ref (W 6))) (S_NM_AUTH : Sta Z h0 "heslar/Element" "NM_AUTH" "Lheslar/Element;" (.ref (W 7))) (S_NM_TYPE : Sta Z h0 "heslar/Element" "NM_TYPE" "Lheslar/Element;" (.ref (W 8))) (S_NM_USED_FROM : Sta Z h0 "heslar/Element" "NM_USED_FROM" "Lheslar/Element;" (.ref (W 9))) (S_NM_USED_TO : Sta Z h0 "heslar/Element" "NM_USED_TO" "Lheslar/Element;" (.ref (W 10))) (S_NM_DEGREE_PRE : Sta Z h0 "heslar/Element" "NM_DEGREE_PRE" "Lheslar/Element;" (.ref (W 11))) (S_NM_DEGREE_POST : Sta Z h0 "heslar/Element" "NM_DEGREE_POST" "Lheslar/Element;" (.ref (W 12))) (S_NM_LANG : Sta Z h0 "heslar/Element" "NM_LANG" "Lheslar/Element;" (.ref (W 13))) (E_NM_MAIN : Exa Z h0 (W 0) "heslar/Element") (E_NM_MINOR : Exa Z h0 (W 1) "heslar/Element") (E_NM_SUP_GEN : Exa Z h0 (W 2) "heslar/Element") (E_NM_SUP_GEO : Exa Z h0 (W 3) "heslar/Element") (E_NM_SUP_CHRO : Exa Z h0 (W 4) "heslar/Element") (E_NM_ORDER : Exa Z h0 (W 5) "heslar/Element") (E_NM_SUP_DIFF : Exa Z h0 (W 6) "heslar/Element") (E_NM_AUTH : Exa Z h0 (W 7) "heslar/Element") (E_NM_TYPE : Exa Z h0 (W 8) "heslar/Element") (E_NM_USED_FROM : Exa Z h0 (W 9) "heslar/Element") (E_NM_USED_TO : Exa Z h0 (W 10) "heslar/Element") (E_NM_DEGREE_PRE : Exa Z h0 (W 11) "heslar/Element") (E_NM_DEGREE_POST : Exa Z h0 (W 12) "heslar/Element") (E_NM_LANG : Exa Z h0 (W 13) "heslar/Element") (hk : (p0 &&& (2147483647 : Int32)) % (14 : Int32) = k) (hk0 : ¬ k < 0) (hk1 : k < 14) (hlt : k.toNatClampNeg < 14) (E_k : Exa Z h0 (W k.toNatClampNeg) "heslar/Element") (F_a : Fld Z h0 (W k.toNatClampNeg) "java/lang/Enum" "ordinal" "I" (.int k)) (hr0 : r = if k = 2 ∨ k = 3 ∨ k = 4 ∨ k = 6 ∨ k = 7 then 1 else 0) :
    MetFree l x (head1 (Jvm.Cond.code x code maxLocals ret :: ws) room_1) (fun a U => a = #[(.int p0)] ∧ Z.Warmed39 U.vm ∧ U.heap = h0) (fun _ _ _ _ _ => True) (fun _ U o U' => ∃ v L, o = .returned v ∧ QL n0 v U'.heap L ∧ FrameEnd U o U' L room_1.cells room_1.slots) := by
  refine MetFree.of_bodySF (plainFor_of_name pn_0) hisR ?_
  intro p e s m args below meth c s₁ Bd hml0 hP hK
  obtain ⟨rfl, hZ, hh⟩ := hP
  have hx := Bd.exec
  have hby := Bd.bytes
  have hml : c.maxLocals = 5 := hml0
  have hown : s.vm.findClass "heslar/ElementIsSupplementPinLaw" = some m.cls := findClass_of_methodNamed Bd.named
  have hnm := (name_of_methodNamed Bd.named Bd.method).1
  have X0 : Stand p l e room_1 s m #[(.int p0)] below meth c s₁ [] 0 0 := Stand.of_body Bd
  have e0 : s₁.heap = h0 := by rw [← hh, Bd.state]; rfl
  have N0 := Fr.nil n0
  have pre0 : ∀ t, Steps p.tables e below (s₁.setTop (mkF m 0 #[.val (.int p0), .unset, .unset, .unset, .unset] [])) t → Steps p.tables e below (s₁.setTop (entryFrame m #[(.int p0)] maxLocals)) t := fun t k => castTop (ef_rm0 m p0) k
  obtain ⟨T1, h1, k1, X1, e1, E1, A1, O1, st1⟩ := newR X0 hx hZ hown (hw _ (List.mem_of_getElem? (i := 0) rfl)) (hw _ (List.mem_of_getElem? (i := 1) rfl)) e0 (g := (mkF m 2 #[.val (.int p0), .unset, .unset, .unset, .unset] [(.int (14 : Int32))])) rfl (hb hby at_2) rfl (by decide) (cap := 14) (by decide) (by decide) (by decide) (by decide)
  obtain ⟨b1, g1⟩ : ∃ z, z = h0.size := ⟨_, rfl⟩
  rw [← g1] at A1 st1
  have g_b1 : n0 ≤ b1 := Nat.le_trans Z0 (Nat.le_of_eq g1.symm)
  have ne1__W_k_toNatClampNeg_ : (W k.toNatClampNeg) ≠ b1 := Nat.ne_of_lt (Nat.lt_of_lt_of_le (E_k).lt (Nat.le_of_eq g1.symm))
  have Zs1 : n0 ≤ h1.size := Nat.le_trans Z0 E1.1
  have V1 : Arv Z h1 b1 k1 (.object "heslar/Element") (14 : Int32) [.null, .null, .null, .null, .null, .null, .null, .null, .null, .null, .null, .null, .null, .null] .null := (Arv.new A1 (by decide)).pad (pad_rep [] .null 14)
  have S_NM_MAIN_2 := (S_NM_MAIN.ext E1)
  obtain ⟨T3, X3, e3, st3⟩ := getS2 X1 hx hZ hown (host := "") (Or.inl (hw _ (List.mem_of_getElem? (i := 2) rfl))) Via.refl e1 S_NM_MAIN_2 (g := (mkF m 7 #[.val (.int p0), .unset, .unset, .unset, .unset] [(.int (0 : Int32)), (.ref b1), (.ref b1)])) rfl (hb hby at_7)
  obtain ⟨cl4, Ar4, qa4, Sa4, Na4, Ha4, Ga4⟩ := V1
  have hin4 : ¬ ((0 : Int32) < 0 ∨ cl4.slots.size ≤ ((0 : Int32)).toNatClampNeg) := inb_of Sa4 ⟨by decide, by decide⟩
  have E_NM_MAIN_5 := (E_NM_MAIN.ext E1)
  obtain ⟨T6, h6, X6, e6, W6, st6⟩ := stR X3 hx hZ e3 Ar4 (j := (0 : Int32)) hin4 rfl (Sto.ofV Ar4 qa4 O1 (Ins.self E_NM_MAIN_5)) (g := (mkF m 10 #[.val (.int p0), .unset, .unset, .unset, .unset] [(.ref (W 0)), (.int (0 : Int32)), (.ref b1), (.ref b1)])) rfl rfl (hb hby at_10)
  have V6 : Arv Z h6 b1 k1 (.object "heslar/Element") (14 : Int32) [(.ref (W 0)), .null, .null, .null, .null, .null, .null, .null, .null, .null, .null, .null, .null, .null] .null := Arv.set Ar4 qa4 Sa4 Na4 Ha4 Ga4 rfl W6 0 rfl (Nat.le_of_ble_eq_true rfl)
  have Zs6 : n0 ≤ h6.size := Nat.le_trans Zs1 (Nat.le_of_eq W6.size.symm)
  have N6 := Fr.snoc X6 N0 g_b1
  have S_NM_MINOR_7 := ((S_NM_MINOR.ext E1).wr W6)
  obtain ⟨T8, X8, e8, st8⟩ := getS2 X6 hx hZ hown (host := "") (Or.inl (hw _ (List.mem_of_getElem? (i := 6) rfl))) Via.refl e6 S_NM_MINOR_7 (g := (mkF m 13 #[.val (.int p0), .unset, .unset, .unset, .unset] [(.int (1 : Int32)), (.ref b1), (.ref b1)])) rfl (hb hby at_13)
  obtain ⟨cl9, Ar9, qa9, Sa9, Na9, Ha9, Ga9⟩ := V6
  have hin9 : ¬ ((1 : Int32) < 0 ∨ cl9.slots.size ≤ ((1 : Int32)).toNatClampNeg) := inb_of Sa9 ⟨by decide, by decide⟩
  have E_NM_MINOR_10 := ((E_NM_MINOR.ext E1).wr W6)
  obtain ⟨T11, h11, X11, e11, W11, st11⟩ := stR X8 hx hZ e8 Ar9 (j := (1 : Int32)) hin9 rfl (Sto.ofV Ar9 qa9 O1 (Ins.self E_NM_MINOR_10)) (g := (mkF m 16 #[.val (.int p0), .unset, .unset, .unset, .unset] [(.ref (W 1)), (.int (1 : Int32)), (.ref b1), (.ref b1)])) rfl rfl (hb hby at_16)
  have V11 : Arv Z h11 b1 k1 (.object "heslar/Element") (14 : Int32) [(.ref (W 0)), (.ref (W 1)), .null, .null, .null, .null, .null, .null, .null, .null, .null, .null, .null, .null] .null := Arv.set Ar9 qa9 Sa9 Na9 Ha9 Ga9 rfl W11 1 rfl (Nat.le_of_ble_eq_true rfl)
  have Zs11 : n0 ≤ h11.size := Nat.le_trans Zs6 (Nat.le_of_eq W11.size.symm)
  have N11 := Fr.snoc X11 N6 g_b1
  have S_NM_SUP_GEN_12 := (((S_NM_SUP_GEN.ext E1).wr W6).wr W11)
  obtain ⟨T13, X13, e13, st13⟩ := getS2 X11 hx hZ hown (host := "") (Or.inl (hw _ (List.mem_of_getElem? (i := 8) rfl))) Via.refl e11 S_NM_SUP_GEN_12 (g := (mkF m 19 #[.val (.int p0), .unset, .unset, .unset, .unset] [(.int (2 : Int32)), (.ref b1), (.ref b1)])) rfl (hb hby at_19)
  obtain ⟨cl14, Ar14, qa14, Sa14, Na14, Ha14, Ga14⟩ := V11
  have hin14 : ¬ ((2 : Int32) < 0 ∨ cl14.slots.size ≤ ((2 : Int32)).toNatClampNeg) := inb_of Sa14 ⟨by decide, by decide⟩
  have E_NM_SUP_GEN_15 := (((E_NM_SUP_GEN.ext E1).wr W6).wr W11)
  obtain ⟨T16, h16, X16, e16, W16, st16⟩ := stR X13 hx hZ e13 Ar14 (j := (2 : Int32)) hin14 rfl (Sto.ofV Ar14 qa14 O1 (Ins.self E_NM_SUP_GEN_15)) (g := (mkF m 22 #[.val (.int p0), .unset, .unset, .unset, .unset] [(.ref (W 2)), (.int (2 : Int32)), (.ref b1), (.ref b1)])) rfl rfl (hb hby at_22)
  have V16 : Arv Z h16 b1 k1 (.object "heslar/Element") (14 : Int32) [(.ref (W 0)), (.ref (W 1)), (.ref (W 2)), .null, .null, .null, .null, .null, .null, .null, .null, .null, .null, .null] .null := Arv.set Ar14 qa14 Sa14 Na14 Ha14 Ga14 rfl W16 2 rfl (Nat.le_of_ble_eq_true rfl)
  have Zs16 : n0 ≤ h16.size := Nat.le_trans Zs11 (Nat.le_of_eq W16.size.symm)
  have N16 := Fr.snoc X16 N11 g_b1
  have S_NM_SUP_GEO_17 := ((((S_NM_SUP_GEO.ext E1).wr W6).wr W11).wr W16)
  obtain ⟨T18, X18, e18, st18⟩ := getS2 X16 hx hZ hown (host := "") (Or.inl (hw _ (List.mem_of_getElem? (i := 10) rfl))) Via.refl e16 S_NM_SUP_GEO_17 (g := (mkF m 25 #[.val (.int p0), .unset, .unset, .unset, .unset] [(.int (3 : Int32)), (.ref b1), (.ref b1)])) rfl (hb hby at_25)
  obtain ⟨cl19, Ar19, qa19, Sa19, Na19, Ha19, Ga19⟩ := V16
  have hin19 : ¬ ((3 : Int32) < 0 ∨ cl19.slots.size ≤ ((3 : Int32)).toNatClampNeg) := inb_of Sa19 ⟨by decide, by decide⟩
  have E_NM_SUP_GEO_20 := ((((E_NM_SUP_GEO.ext E1).wr W6).wr W11).wr W16)
  obtain ⟨T21, h21, X21, e21, W21, st21⟩ := stR X18 hx hZ e18 Ar19 (j := (3 : Int32)) hin19 rfl (Sto.ofV Ar19 qa19 O1 (Ins.self E_NM_SUP_GEO_20)) (g := (mkF m 28 #[.val (.int p0), .unset, .unset, .unset, .unset] [(.ref (W 3)), (.int (3 : Int32)), (.ref b1), (.ref b1)])) rfl rfl (hb hby at_28)
  have V21 : Arv Z h21 b1 k1 (.object "heslar/Element") (14 : Int32) [(.ref (W 0)), (.ref (W 1)), (.ref (W 2)), (.ref (W 3)), .null, .null, .null, .null, .null, .null, .null, .null, .null, .null] .null := Arv.set Ar19 qa19 Sa19 Na19 Ha19 Ga19 rfl W21 3 rfl (Nat.le_of_ble_eq_true rfl)
  have Zs21 : n0 ≤ h21.size := Nat.le_trans Zs16 (Nat.le_of_eq W21.size.symm)
  have N21 := Fr.snoc X21 N16 g_b1
  have S_NM_SUP_CHRO_22 := (((((S_NM_SUP_CHRO.ext E1).wr W6).wr W11).wr W16).wr W21)
  obtain ⟨T23, X23, e23, st23⟩ := getS2 X21 hx hZ hown (host := "") (Or.inl (hw _ (List.mem_of_getElem? (i := 12) rfl))) Via.refl e21 S_NM_SUP_CHRO_22 (g := (mkF m 31 #[.val (.int p0), .unset, .unset, .unset, .unset] [(.int (4 : Int32)), (.ref b1), (.ref b1)])) rfl (hb hby at_31)
  obtain ⟨cl24, Ar24, qa24, Sa24, Na24, Ha24, Ga24⟩ := V21
  have hin24 : ¬ ((4 : Int32) < 0 ∨ cl24.slots.size ≤ ((4 : Int32)).toNatClampNeg) := inb_of Sa24 ⟨by decide, by decide⟩
  have E_NM_SUP_CHRO_25 := (((((E_NM_SUP_CHRO.ext E1).wr W6).wr W11).wr W16).wr W21)
  obtain ⟨T26, h26, X26, e26, W26, st26⟩ := stR X23 hx hZ e23 Ar24 (j := (4 : Int32)) hin24 rfl (Sto.ofV Ar24 qa24 O1 (Ins.self E_NM_SUP_CHRO_25)) (g := (mkF m 34 #[.val (.int p0), .unset, .unset, .unset, .unset] [(.ref (W 4)), (.int (4 : Int32)), (.ref b1), (.ref b1)])) rfl rfl (hb hby at_34)
  have V26 : Arv Z h26 b1 k1 (.object "heslar/Element") (14 : Int32) [(.ref (W 0)), (.ref (W 1)), (.ref (W 2)), (.ref (W 3)), (.ref (W 4)), .null, .null, .null, .null, .null, .null, .null, .null, .null] .null := Arv.set Ar24 qa24 Sa24 Na24 Ha24 Ga24 rfl W26 4 rfl (Nat.le_of_ble_eq_true rfl)
  have Zs26 : n0 ≤ h26.size := Nat.le_trans Zs21 (Nat.le_of_eq W26.size.symm)
  have N26 := Fr.snoc X26 N21 g_b1
  have S_NM_ORDER_27 := ((((((S_NM_ORDER.ext E1).wr W6).wr W11).wr W16).wr W21).wr W26)
  obtain ⟨T28, X28, e28, st28⟩ := getS2 X26 hx hZ hown (host := "") (Or.inl (hw _ (List.mem_of_getElem? (i := 14) rfl))) Via.refl e26 S_NM_ORDER_27 (g := (mkF m 37 #[.val (.int p0), .unset, .unset, .unset, .unset] [(.int (5 : Int32)), (.ref b1), (.ref b1)])) rfl (hb hby at_37)
  obtain ⟨cl29, Ar29, qa29, Sa29, Na29, Ha29, Ga29⟩ := V26
  have hin29 : ¬ ((5 : Int32) < 0 ∨ cl29.slots.size ≤ ((5 : Int32)).toNatClampNeg) := inb_of Sa29 ⟨by decide, by decide⟩
  have E_NM_ORDER_30 := ((((((E_NM_ORDER.ext E1).wr W6).wr W11).wr W16).wr W21).wr W26)
  obtain ⟨T31, h31, X31, e31, W31, st31⟩ := stR X28 hx hZ e28 Ar29 (j := (5 : Int32)) hin29 rfl (Sto.ofV Ar29 qa29 O1 (Ins.self E_NM_ORDER_30)) (g := (mkF m 40 #[.val (.int p0), .unset, .unset, .unset, .unset] [(.ref (W 5)), (.int (5 : Int32)), (.ref b1), (.ref b1)])) rfl rfl (hb hby at_40)
  have V31 : Arv Z h31 b1 k1 (.object "heslar/Element") (14 : Int32) [(.ref (W 0)), (.ref (W 1)), (.ref (W 2)), (.ref (W 3)), (.ref (W 4)), (.ref (W 5)), .null, .null, .null, .null, .null, .null, .null, .null] .null := Arv.set Ar29 qa29 Sa29 Na29 Ha29 Ga29 rfl W31 5 rfl (Nat.le_of_ble_eq_true rfl)
  have Zs31 : n0 ≤ h31.size := Nat.le_trans Zs26 (Nat.le_of_eq W31.size.symm)
  have N31 := Fr.snoc X31 N26 g_b1
  have S_NM_SUP_DIFF_32 := (((((((S_NM_SUP_DIFF.ext E1).wr W6).wr W11).wr W16).wr W21).wr W26).wr W31)
  obtain ⟨T33, X33, e33, st33⟩ := getS2 X31 hx hZ hown (host := "") (Or.inl (hw _ (List.mem_of_getElem? (i := 16) rfl))) Via.refl e31 S_NM_SUP_DIFF_32 (g := (mkF m 44 #[.val (.int p0), .unset, .unset, .unset, .unset] [(.int (6 : Int32)), (.ref b1), (.ref b1)])) rfl (hb hby at_44)
  obtain ⟨cl34, Ar34, qa34, Sa34, Na34, Ha34, Ga34⟩ := V31
  have hin34 : ¬ ((6 : Int32) < 0 ∨ cl34.slots.size ≤ ((6 : Int32)).toNatClampNeg) := inb_of Sa34 ⟨by decide, by decide⟩
  have E_NM_SUP_DIFF_35 := (((((((E_NM_SUP_DIFF.ext E1).wr W6).wr W11).wr W16).wr W21).wr W26).wr W31)
  obtain ⟨T36, h36, X36, e36, W36, st36⟩ := stR X33 hx hZ e33 Ar34 (j := (6 : Int32)) hin34 rfl (Sto.ofV Ar34 qa34 O1 (Ins.self E_NM_SUP_DIFF_35)) (g := (mkF m 47 #[.val (.int p0), .unset, .unset, .unset, .unset] [(.ref (W 6)), (.int (6 : Int32)), (.ref b1), (.ref b1)])) rfl rfl (hb hby at_47)
  have V36 : Arv Z h36 b1 k1 (.object "heslar/Element") (14 : Int32) [(.ref (W 0)), (.ref (W 1)), (.ref (W 2)), (.ref (W 3)), (.ref (W 4)), (.ref (W 5)), (.ref (W 6)), .null, .null, .null, .null, .null, .null, .null] .null := Arv.set Ar34 qa34 Sa34 Na34 Ha34 Ga34 rfl W36 6 rfl (Nat.le_of_ble_eq_true rfl)
  have Zs36 : n0 ≤ h36.size := Nat.le_trans Zs31 (Nat.le_of_eq W36.size.symm)
  have N36 := Fr.snoc X36 N31 g_b1
  have S_NM_AUTH_37 := ((((((((S_NM_AUTH.ext E1).wr W6).wr W11).wr W16).wr W21).wr W26).wr W31).wr W36)
  obtain ⟨T38, X38, e38, st38⟩ := getS2 X36 hx hZ hown (host := "") (Or.inl (hw _ (List.mem_of_getElem? (i := 18) rfl))) Via.refl e36 S_NM_AUTH_37 (g := (mkF m 51 #[.val (.int p0), .unset, .unset, .unset, .unset] [(.int (7 : Int32)), (.ref b1), (.ref b1)])) rfl (hb hby at_51)
  obtain ⟨cl39, Ar39, qa39, Sa39, Na39, Ha39, Ga39⟩ := V36
  have hin39 : ¬ ((7 : Int32) < 0 ∨ cl39.slots.size ≤ ((7 : Int32)).toNatClampNeg) := inb_of Sa39 ⟨by decide, by decide⟩
  have E_NM_AUTH_40 := ((((((((E_NM_AUTH.ext E1).wr W6).wr W11).wr W16).wr W21).wr W26).wr W31).wr W36)
  obtain ⟨T41, h41, X41, e41, W41, st41⟩ := stR X38 hx hZ e38 Ar39 (j := (7 : Int32)) hin39 rfl (Sto.ofV Ar39 qa39 O1 (Ins.self E_NM_AUTH_40)) (g := (mkF m 54 #[.val (.int p0), .unset, .unset, .unset, .unset] [(.ref (W 7)), (.int (7 : Int32)), (.ref b1), (.ref b1)])) rfl rfl (hb hby at_54)
  have V41 : Arv Z h41 b1 k1 (.object "heslar/Element") (14 : Int32) [(.ref (W 0)), (.ref (W 1)), (.ref (W 2)), (.ref (W 3)), (.ref (W 4)), (.ref (W 5)), (.ref (W 6)), (.ref (W 7)), .null, .null, .null, .null, .null, .null] .null := Arv.set Ar39 qa39 Sa39 Na39 Ha39 Ga39 rfl W41 7 rfl (Nat.le_of_ble_eq_true rfl)
  have Zs41 : n0 ≤ h41.size := Nat.le_trans Zs36 (Nat.le_of_eq W41.size.symm)
  have N41 := Fr.snoc X41 N36 g_b1
  have S_NM_TYPE_42 := (((((((((S_NM_TYPE.ext E1).wr W6).wr W11).wr W16).wr W21).wr W26).wr W31).wr W36).wr W41)
  obtain ⟨T43, X43, e43, st43⟩ := getS2 X41 hx hZ hown (host := "") (Or.inl (hw _ (List.mem_of_getElem? (i := 20) rfl))) Via.refl e41 S_NM_TYPE_42 (g := (mkF m 58 #[.val (.int p0), .unset, .unset, .unset, .unset] [(.int (8 : Int32)), (.ref b1), (.ref b1)])) rfl (hb hby at_58)
  obtain ⟨cl44, Ar44, qa44, Sa44, Na44, Ha44, Ga44⟩ := V41
  have hin44 : ¬ ((8 : Int32) < 0 ∨ cl44.slots.size ≤ ((8 : Int32)).toNatClampNeg) := inb_of Sa44 ⟨by decide, by decide⟩
  have E_NM_TYPE_45 := (((((((((E_NM_TYPE.ext E1).wr W6).wr W11).wr W16).wr W21).wr W26).wr W31).wr W36).wr W41)
  obtain ⟨T46, h46, X46, e46, W46, st46⟩ := stR X43 hx hZ e43 Ar44 (j := (8 : Int32)) hin44 rfl (Sto.ofV Ar44 qa44 O1 (Ins.self E_NM_TYPE_45)) (g := (mkF m 61 #[.val (.int p0), .unset, .unset, .unset, .unset] [(.ref (W 8)), (.int (8 : Int32)), (.ref b1), (.ref b1)])) rfl rfl (hb hby at_61)
  have V46 : Arv Z h46 b1 k1 (.object "heslar/Element") (14 : Int32) [(.ref (W 0)), (.ref (W 1)), (.ref (W 2)), (.ref (W 3)), (.ref (W 4)), (.ref (W 5)), (.ref (W 6)), (.ref (W 7)), (.ref (W 8)), .null, .null, .null, .null, .null] .null := Arv.set Ar44 qa44 Sa44 Na44 Ha44 Ga44 rfl W46 8 rfl (Nat.le_of_ble_eq_true rfl)
  have Zs46 : n0 ≤ h46.size := Nat.le_trans Zs41 (Nat.le_of_eq W46.size.symm)
  have N46 := Fr.snoc X46 N41 g_b1
  have S_NM_USED_FROM_47 := ((((((((((S_NM_USED_FROM.ext E1).wr W6).wr W11).wr W16).wr W21).wr W26).wr W31).wr W36).wr W41).wr W46)
  obtain ⟨T48, X48, e48, st48⟩ := getS2 X46 hx hZ hown (host := "") (Or.inl (hw _ (List.mem_of_getElem? (i := 22) rfl))) Via.refl e46 S_NM_USED_FROM_47 (g := (mkF m 65 #[.val (.int p0), .unset, .unset, .unset, .unset] [(.int (9 : Int32)), (.ref b1), (.ref b1)])) rfl (hb hby at_65)
  obtain ⟨cl49, Ar49, qa49, Sa49, Na49, Ha49, Ga49⟩ := V46
  have hin49 : ¬ ((9 : Int32) < 0 ∨ cl49.slots.size ≤ ((9 : Int32)).toNatClampNeg) := inb_of Sa49 ⟨by decide, by decide⟩
  have E_NM_USED_FROM_50 := ((((((((((E_NM_USED_FROM.ext E1).wr W6).wr W11).wr W16).wr W21).wr W26).wr W31).wr W36).wr W41).wr W46)
  obtain ⟨T51, h51, X51, e51, W51, st51⟩ := stR X48 hx hZ e48 Ar49 (j := (9 : Int32)) hin49 rfl (Sto.ofV Ar49 qa49 O1 (Ins.self E_NM_USED_FROM_50)) (g := (mkF m 68 #[.val (.int p0), .unset, .unset, .unset, .unset] [(.ref (W 9)), (.int (9 : Int32)), (.ref b1), (.ref b1)])) rfl rfl (hb hby at_68)
  have V51 : Arv Z h51 b1 k1 (.object "heslar/Element") (14 : Int32) [(.ref (W 0)), (.ref (W 1)), (.ref (W 2)), (.ref (W 3)), (.ref (W 4)), (.ref (W 5)), (.ref (W 6)), (.ref (W 7)), (.ref (W 8)), (.ref (W 9)), .null, .null, .null, .null] .null := Arv.set Ar49 qa49 Sa49 Na49 Ha49 Ga49 rfl W51 9 rfl (Nat.le_of_ble_eq_true rfl)
  have Zs51 : n0 ≤ h51.size := Nat.le_trans Zs46 (Nat.le_of_eq W51.size.symm)
  have N51 := Fr.snoc X51 N46 g_b1
  have S_NM_USED_TO_52 := (((((((((((S_NM_USED_TO.ext E1).wr W6).wr W11).wr W16).wr W21).wr W26).wr W31).wr W36).wr W41).wr W46).wr W51)
  obtain ⟨T53, X53, e53, st53⟩ := getS2 X51 hx hZ hown (host := "") (Or.inl (hw _ (List.mem_of_getElem? (i := 24) rfl))) Via.refl e51 S_NM_USED_TO_52 (g := (mkF m 72 #[.val (.int p0), .unset, .unset, .unset, .unset] [(.int (10 : Int32)), (.ref b1), (.ref b1)])) rfl (hb hby at_72)
  obtain ⟨cl54, Ar54, qa54, Sa54, Na54, Ha54, Ga54⟩ := V51
  have hin54 : ¬ ((10 : Int32) < 0 ∨ cl54.slots.size ≤ ((10 : Int32)).toNatClampNeg) := inb_of Sa54 ⟨by decide, by decide⟩
  have E_NM_USED_TO_55 := (((((((((((E_NM_USED_TO.ext E1).wr W6).wr W11).wr W16).wr W21).wr W26).wr W31).wr W36).wr W41).wr W46).wr W51)
  obtain ⟨T56, h56, X56, e56, W56, st56⟩ := stR X53 hx hZ e53 Ar54 (j := (10 : Int32)) hin54 rfl (Sto.ofV Ar54 qa54 O1 (Ins.self E_NM_USED_TO_55)) (g := (mkF m 75 #[.val (.int p0), .unset, .unset, .unset, .unset] [(.ref (W 10)), (.int (10 : Int32)), (.ref b1), (.ref b1)])) rfl rfl (hb hby at_75)
  have V56 : Arv Z h56 b1 k1 (.object "heslar/Element") (14 : Int32) [(.ref (W 0)), (.ref (W 1)), (.ref (W 2)), (.ref (W 3)), (.ref (W 4)), (.ref (W 5)), (.ref (W 6)), (.ref (W 7)), (.ref (W 8)), (.ref (W 9)), (.ref (W 10)), .null, .null, .null] .null := Arv.set Ar54 qa54 Sa54 Na54 Ha54 Ga54 rfl W56 10 rfl (Nat.le_of_ble_eq_true rfl)
  have Zs56 : n0 ≤ h56.size := Nat.le_trans Zs51 (Nat.le_of_eq W56.size.symm)
  have N56 := Fr.snoc X56 N51 g_b1
  have S_NM_DEGREE_PRE_57 := ((((((((((((S_NM_DEGREE_PRE.ext E1).wr W6).wr W11).wr W16).wr W21).wr W26).wr W31).wr W36).wr W41).wr W46).wr W51).wr W56)
  obtain ⟨T58, X58, e58, st58⟩ := getS2 X56 hx hZ hown (host := "") (Or.inl (hw _ (List.mem_of_getElem? (i := 26) rfl))) Via.refl e56 S_NM_DEGREE_PRE_57 (g := (mkF m 79 #[.val (.int p0), .unset, .unset, .unset, .unset] [(.int (11 : Int32)), (.ref b1), (.ref b1)])) rfl (hb hby at_79)
  obtain ⟨cl59, Ar59, qa59, Sa59, Na59, Ha59, Ga59⟩ := V56
  have hin59 : ¬ ((11 : Int32) < 0 ∨ cl59.slots.size ≤ ((11 : Int32)).toNatClampNeg) := inb_of Sa59 ⟨by decide, by decide⟩
  have E_NM_DEGREE_PRE_60 := ((((((((((((E_NM_DEGREE_PRE.ext E1).wr W6).wr W11).wr W16).wr W21).wr W26).wr W31).wr W36).wr W41).wr W46).wr W51).wr W56)
  obtain ⟨T61, h61, X61, e61, W61, st61⟩ := stR X58 hx hZ e58 Ar59 (j := (11 : Int32)) hin59 rfl (Sto.ofV Ar59 qa59 O1 (Ins.self E_NM_DEGREE_PRE_60)) (g := (mkF m 82 #[.val (.int p0), .unset, .unset, .unset, .unset] [(.ref (W 11)), (.int (11 : Int32)), (.ref b1), (.ref b1)])) rfl rfl (hb hby at_82)
  have V61 : Arv Z h61 b1 k1 (.object "heslar/Element") (14 : Int32) [(.ref (W 0)), (.ref (W 1)), (.ref (W 2)), (.ref (W 3)), (.ref (W 4)), (.ref (W 5)), (.ref (W 6)), (.ref (W 7)), (.ref (W 8)), (.ref (W 9)), (.ref (W 10)), (.ref (W 11)), .null, .null] .null := Arv.set Ar59 qa59 Sa59 Na59 Ha59 Ga59 rfl W61 11 rfl (Nat.le_of_ble_eq_true rfl)
  have Zs61 : n0 ≤ h61.size := Nat.le_trans Zs56 (Nat.le_of_eq W61.size.symm)
  have N61 := Fr.snoc X61 N56 g_b1
  have S_NM_DEGREE_POST_62 := (((((((((((((S_NM_DEGREE_POST.ext E1).wr W6).wr W11).wr W16).wr W21).wr W26).wr W31).wr W36).wr W41).wr W46).wr W51).wr W56).wr W61)
  obtain ⟨T63, X63, e63, st63⟩ := getS2 X61 hx hZ hown (host := "") (Or.inl (hw _ (List.mem_of_getElem? (i := 28) rfl))) Via.refl e61 S_NM_DEGREE_POST_62 (g := (mkF m 86 #[.val (.int p0), .unset, .unset, .unset, .unset] [(.int (12 : Int32)), (.ref b1), (.ref b1)])) rfl (hb hby at_86)
  obtain ⟨cl64, Ar64, qa64, Sa64, Na64, Ha64, Ga64⟩ := V61
  have hin64 : ¬ ((12 : Int32) < 0 ∨ cl64.slots.size ≤ ((12 : Int32)).toNatClampNeg) := inb_of Sa64 ⟨by decide, by decide⟩
  have E_NM_DEGREE_POST_65 := (((((((((((((E_NM_DEGREE_POST.ext E1).wr W6).wr W11).wr W16).wr W21).wr W26).wr W31).wr W36).wr W41).wr W46).wr W51).wr W56).wr W61)
  obtain ⟨T66, h66, X66, e66, W66, st66⟩ := stR X63 hx hZ e63 Ar64 (j := (12 : Int32)) hin64 rfl (Sto.ofV Ar64 qa64 O1 (Ins.self E_NM_DEGREE_POST_65)) (g := (mkF m 89 #[.val (.int p0), .unset, .unset, .unset, .unset] [(.ref (W 12)), (.int (12 : Int32)), (.ref b1), (.ref b1)])) rfl rfl (hb hby at_89)
  have V66 : Arv Z h66 b1 k1 (.object "heslar/Element") (14 : Int32) [(.ref (W 0)), (.ref (W 1)), (.ref (W 2)), (.ref (W 3)), (.ref (W 4)), (.ref (W 5)), (.ref (W 6)), (.ref (W 7)), (.ref (W 8)), (.ref (W 9)), (.ref (W 10)), (.ref (W 11)), (.ref (W 12)), .null] .null := Arv.set Ar64 qa64 Sa64 Na64 Ha64 Ga64 rfl W66 12 rfl (Nat.le_of_ble_eq_true rfl)
  have Zs66 : n0 ≤ h66.size := Nat.le_trans Zs61 (Nat.le_of_eq W66.size.symm)
  have N66 := Fr.snoc X66 N61 g_b1
  have S_NM_LANG_67 := ((((((((((((((S_NM_LANG.ext E1).wr W6).wr W11).wr W16).wr W21).wr W26).wr W31).wr W36).wr W41).wr W46).wr W51).wr W56).wr W61).wr W66)
  obtain ⟨T68, X68, e68, st68⟩ := getS2 X66 hx hZ hown (host := "") (Or.inl (hw _ (List.mem_of_getElem? (i := 30) rfl))) Via.refl e66 S_NM_LANG_67 (g := (mkF m 93 #[.val (.int p0), .unset, .unset, .unset, .unset] [(.int (13 : Int32)), (.ref b1), (.ref b1)])) rfl (hb hby at_93)
  obtain ⟨cl69, Ar69, qa69, Sa69, Na69, Ha69, Ga69⟩ := V66
  have hin69 : ¬ ((13 : Int32) < 0 ∨ cl69.slots.size ≤ ((13 : Int32)).toNatClampNeg) := inb_of Sa69 ⟨by decide, by decide⟩
  have E_NM_LANG_70 := ((((((((((((((E_NM_LANG.ext E1).wr W6).wr W11).wr W16).wr W21).wr W26).wr W31).wr W36).wr W41).wr W46).wr W51).wr W56).wr W61).wr W66)
  obtain ⟨T71, h71, X71, e71, W71, st71⟩ := stR X68 hx hZ e68 Ar69 (j := (13 : Int32)) hin69 rfl (Sto.ofV Ar69 qa69 O1 (Ins.self E_NM_LANG_70)) (g := (mkF m 96 #[.val (.int p0), .unset, .unset, .unset, .unset] [(.ref (W 13)), (.int (13 : Int32)), (.ref b1), (.ref b1)])) rfl rfl (hb hby at_96)
  have V71 : Arv Z h71 b1 k1 (.object "heslar/Element") (14 : Int32) [(.ref (W 0)), (.ref (W 1)), (.ref (W 2)), (.ref (W 3)), (.ref (W 4)), (.ref (W 5)), (.ref (W 6)), (.ref (W 7)), (.ref (W 8)), (.ref (W 9)), (.ref (W 10)), (.ref (W 11)), (.ref (W 12)), (.ref (W 13))] .null := Arv.set Ar69 qa69 Sa69 Na69 Ha69 Ga69 rfl W71 13 rfl (Nat.le_of_ble_eq_true rfl)
  have Zs71 : n0 ≤ h71.size := Nat.le_trans Zs66 (Nat.le_of_eq W71.size.symm)
  have N71 := Fr.snoc X71 N66 g_b1
  obtain ⟨cl72, Ar72, qa72, Sa72, Na72, Ha72, Ga72⟩ := V71
  have hin72 : ¬ (k < 0 ∨ cl72.slots.size ≤ (k).toNatClampNeg) := inb_of Sa72 ⟨hk0, hk1⟩
  have hat72 := Ha72.at hin72 (v := (.ref (W k.toNatClampNeg))) (own_get W _ hlt)
  have pre73 : ∀ t, Steps p.tables e below (T71.setTop (mkF m 112 #[.val (.int p0), .val (.ref b1), .val (.int k), .val (.ref (W k.toNatClampNeg)), .unset] [(.int (2 : Int32)), (.int k)])) t → Steps p.tables e below (s₁.setTop (entryFrame m #[(.int p0)] maxLocals)) t := by
    intro t kt
    refine pre0 t ?_
    show Steps p.tables e below (s₁.setTop (mkF m 0 #[.val (.int p0), .unset, .unset, .unset, .unset] [])) _
    refine XS.bipush X0.here hx rfl (hb hby at_0) ?_
    show Steps p.tables e below (s₁.setTop (mkF m 2 #[.val (.int p0), .unset, .unset, .unset, .unset] [(.int (14 : Int32))])) _
    refine st1 _ ?_
    show Steps p.tables e below (T1.setTop (mkF m 5 #[.val (.int p0), .unset, .unset, .unset, .unset] [(.ref b1)])) _
    refine XS.dup X1.here hx rfl (hb hby at_5) rfl rfl ?_
    show Steps p.tables e below (T1.setTop (mkF m 6 #[.val (.int p0), .unset, .unset, .unset, .unset] [(.ref b1), (.ref b1)])) _
    refine XS.iconst X1.here hx rfl (hb hby at_6) ?_
    show Steps p.tables e below (T1.setTop (mkF m 7 #[.val (.int p0), .unset, .unset, .unset, .unset] [(.int (0 : Int32)), (.ref b1), (.ref b1)])) _
    refine st3 _ ?_
    show Steps p.tables e below (T3.setTop (mkF m 10 #[.val (.int p0), .unset, .unset, .unset, .unset] [(.ref (W 0)), (.int (0 : Int32)), (.ref b1), (.ref b1)])) _
    refine st6 _ ?_
    show Steps p.tables e below (T6.setTop (mkF m 11 #[.val (.int p0), .unset, .unset, .unset, .unset] [(.ref b1)])) _
    refine XS.dup X6.here hx rfl (hb hby at_11) rfl rfl ?_
    show Steps p.tables e below (T6.setTop (mkF m 12 #[.val (.int p0), .unset, .unset, .unset, .unset] [(.ref b1), (.ref b1)])) _
    refine XS.iconst X6.here hx rfl (hb hby at_12) ?_
    show Steps p.tables e below (T6.setTop (mkF m 13 #[.val (.int p0), .unset, .unset, .unset, .unset] [(.int (1 : Int32)), (.ref b1), (.ref b1)])) _
    refine st8 _ ?_
    show Steps p.tables e below (T8.setTop (mkF m 16 #[.val (.int p0), .unset, .unset, .unset, .unset] [(.ref (W 1)), (.int (1 : Int32)), (.ref b1), (.ref b1)])) _
    refine st11 _ ?_
    show Steps p.tables e below (T11.setTop (mkF m 17 #[.val (.int p0), .unset, .unset, .unset, .unset] [(.ref b1)])) _
    refine XS.dup X11.here hx rfl (hb hby at_17) rfl rfl ?_
    show Steps p.tables e below (T11.setTop (mkF m 18 #[.val (.int p0), .unset, .unset, .unset, .unset] [(.ref b1), (.ref b1)])) _
    refine XS.iconst X11.here hx rfl (hb hby at_18) ?_
    show Steps p.tables e below (T11.setTop (mkF m 19 #[.val (.int p0), .unset, .unset, .unset, .unset] [(.int (2 : Int32)), (.ref b1), (.ref b1)])) _
    refine st13 _ ?_
    show Steps p.tables e below (T13.setTop (mkF m 22 #[.val (.int p0), .unset, .unset, .unset, .unset] [(.ref (W 2)), (.int (2 : Int32)), (.ref b1), (.ref b1)])) _
    refine st16 _ ?_
    show Steps p.tables e below (T16.setTop (mkF m 23 #[.val (.int p0), .unset, .unset, .unset, .unset] [(.ref b1)])) _
    refine XS.dup X16.here hx rfl (hb hby at_23) rfl rfl ?_
    show Steps p.tables e below (T16.setTop (mkF m 24 #[.val (.int p0), .unset, .unset, .unset, .unset] [(.ref b1), (.ref b1)])) _
    refine XS.iconst X16.here hx rfl (hb hby at_24) ?_
    show Steps p.tables e below (T16.setTop (mkF m 25 #[.val (.int p0), .unset, .unset, .unset, .unset] [(.int (3 : Int32)), (.ref b1), (.ref b1)])) _
    refine st18 _ ?_
    show Steps p.tables e below (T18.setTop (mkF m 28 #[.val (.int p0), .unset, .unset, .unset, .unset] [(.ref (W 3)), (.int (3 : Int32)), (.ref b1), (.ref b1)])) _
    refine st21 _ ?_
    show Steps p.tables e below (T21.setTop (mkF m 29 #[.val (.int p0), .unset, .unset, .unset, .unset] [(.ref b1)])) _
    refine XS.dup X21.here hx rfl (hb hby at_29) rfl rfl ?_
    show Steps p.tables e below (T21.setTop (mkF m 30 #[.val (.int p0), .unset, .unset, .unset, .unset] [(.ref b1), (.ref b1)])) _
    refine XS.iconst X21.here hx rfl (hb hby at_30) ?_
    show Steps p.tables e below (T21.setTop (mkF m 31 #[.val (.int p0), .unset, .unset, .unset, .unset] [(.int (4 : Int32)), (.ref b1), (.ref b1)])) _
    refine st23 _ ?_
    show Steps p.tables e below (T23.setTop (mkF m 34 #[.val (.int p0), .unset, .unset, .unset, .unset] [(.ref (W 4)), (.int (4 : Int32)), (.ref b1), (.ref b1)])) _
    refine st26 _ ?_
    show Steps p.tables e below (T26.setTop (mkF m 35 #[.val (.int p0), .unset, .unset, .unset, .unset] [(.ref b1)])) _
    refine XS.dup X26.here hx rfl (hb hby at_35) rfl rfl ?_
    show Steps p.tables e below (T26.setTop (mkF m 36 #[.val (.int p0), .unset, .unset, .unset, .unset] [(.ref b1), (.ref b1)])) _
    refine XS.iconst X26.here hx rfl (hb hby at_36) ?_
    show Steps p.tables e below (T26.setTop (mkF m 37 #[.val (.int p0), .unset, .unset, .unset, .unset] [(.int (5 : Int32)), (.ref b1), (.ref b1)])) _
    refine st28 _ ?_
    show Steps p.tables e below (T28.setTop (mkF m 40 #[.val (.int p0), .unset, .unset, .unset, .unset] [(.ref (W 5)), (.int (5 : Int32)), (.ref b1), (.ref b1)])) _
    refine st31 _ ?_
    show Steps p.tables e below (T31.setTop (mkF m 41 #[.val (.int p0), .unset, .unset, .unset, .unset] [(.ref b1)])) _
    refine XS.dup X31.here hx rfl (hb hby at_41) rfl rfl ?_
    show Steps p.tables e below (T31.setTop (mkF m 42 #[.val (.int p0), .unset, .unset, .unset, .unset] [(.ref b1), (.ref b1)])) _
    refine XS.bipush X31.here hx rfl (hb hby at_42) ?_
    show Steps p.tables e below (T31.setTop (mkF m 44 #[.val (.int p0), .unset, .unset, .unset, .unset] [(.int (6 : Int32)), (.ref b1), (.ref b1)])) _
    refine st33 _ ?_
    show Steps p.tables e below (T33.setTop (mkF m 47 #[.val (.int p0), .unset, .unset, .unset, .unset] [(.ref (W 6)), (.int (6 : Int32)), (.ref b1), (.ref b1)])) _
    refine st36 _ ?_
    show Steps p.tables e below (T36.setTop (mkF m 48 #[.val (.int p0), .unset, .unset, .unset, .unset] [(.ref b1)])) _
    refine XS.dup X36.here hx rfl (hb hby at_48) rfl rfl ?_
    show Steps p.tables e below (T36.setTop (mkF m 49 #[.val (.int p0), .unset, .unset, .unset, .unset] [(.ref b1), (.ref b1)])) _
    refine XS.bipush X36.here hx rfl (hb hby at_49) ?_
    show Steps p.tables e below (T36.setTop (mkF m 51 #[.val (.int p0), .unset, .unset, .unset, .unset] [(.int (7 : Int32)), (.ref b1), (.ref b1)])) _
    refine st38 _ ?_
    show Steps p.tables e below (T38.setTop (mkF m 54 #[.val (.int p0), .unset, .unset, .unset, .unset] [(.ref (W 7)), (.int (7 : Int32)), (.ref b1), (.ref b1)])) _
    refine st41 _ ?_
    show Steps p.tables e below (T41.setTop (mkF m 55 #[.val (.int p0), .unset, .unset, .unset, .unset] [(.ref b1)])) _
    refine XS.dup X41.here hx rfl (hb hby at_55) rfl rfl ?_
    show Steps p.tables e below (T41.setTop (mkF m 56 #[.val (.int p0), .unset, .unset, .unset, .unset] [(.ref b1), (.ref b1)])) _
    refine XS.bipush X41.here hx rfl (hb hby at_56) ?_
    show Steps p.tables e below (T41.setTop (mkF m 58 #[.val (.int p0), .unset, .unset, .unset, .unset] [(.int (8 : Int32)), (.ref b1), (.ref b1)])) _
    refine st43 _ ?_
    show Steps p.tables e below (T43.setTop (mkF m 61 #[.val (.int p0), .unset, .unset, .unset, .unset] [(.ref (W 8)), (.int (8 : Int32)), (.ref b1), (.ref b1)])) _
    refine st46 _ ?_
    show Steps p.tables e below (T46.setTop (mkF m 62 #[.val (.int p0), .unset, .unset, .unset, .unset] [(.ref b1)])) _
    refine XS.dup X46.here hx rfl (hb hby at_62) rfl rfl ?_
    show Steps p.tables e below (T46.setTop (mkF m 63 #[.val (.int p0), .unset, .unset, .unset, .unset] [(.ref b1), (.ref b1)])) _
    refine XS.bipush X46.here hx rfl (hb hby at_63) ?_
    show Steps p.tables e below (T46.setTop (mkF m 65 #[.val (.int p0), .unset, .unset, .unset, .unset] [(.int (9 : Int32)), (.ref b1), (.ref b1)])) _
    refine st48 _ ?_
    show Steps p.tables e below (T48.setTop (mkF m 68 #[.val (.int p0), .unset, .unset, .unset, .unset] [(.ref (W 9)), (.int (9 : Int32)), (.ref b1), (.ref b1)])) _
    refine st51 _ ?_
    show Steps p.tables e below (T51.setTop (mkF m 69 #[.val (.int p0), .unset, .unset, .unset, .unset] [(.ref b1)])) _
    refine XS.dup X51.here hx rfl (hb hby at_69) rfl rfl ?_
    show Steps p.tables e below (T51.setTop (mkF m 70 #[.val (.int p0), .unset, .unset, .unset, .unset] [(.ref b1), (.ref b1)])) _
    refine XS.bipush X51.here hx rfl (hb hby at_70) ?_
    show Steps p.tables e below (T51.setTop (mkF m 72 #[.val (.int p0), .unset, .unset, .unset, .unset] [(.int (10 : Int32)), (.ref b1), (.ref b1)])) _
    refine st53 _ ?_
    show Steps p.tables e below (T53.setTop (mkF m 75 #[.val (.int p0), .unset, .unset, .unset, .unset] [(.ref (W 10)), (.int (10 : Int32)), (.ref b1), (.ref b1)])) _
    refine st56 _ ?_
    show Steps p.tables e below (T56.setTop (mkF m 76 #[.val (.int p0), .unset, .unset, .unset, .unset] [(.ref b1)])) _
    refine XS.dup X56.here hx rfl (hb hby at_76) rfl rfl ?_
    show Steps p.tables e below (T56.setTop (mkF m 77 #[.val (.int p0), .unset, .unset, .unset, .unset] [(.ref b1), (.ref b1)])) _
    refine XS.bipush X56.here hx rfl (hb hby at_77) ?_
    show Steps p.tables e below (T56.setTop (mkF m 79 #[.val (.int p0), .unset, .unset, .unset, .unset] [(.int (11 : Int32)), (.ref b1), (.ref b1)])) _
    refine st58 _ ?_
    show Steps p.tables e below (T58.setTop (mkF m 82 #[.val (.int p0), .unset, .unset, .unset, .unset] [(.ref (W 11)), (.int (11 : Int32)), (.ref b1), (.ref b1)])) _
    refine st61 _ ?_
    show Steps p.tables e below (T61.setTop (mkF m 83 #[.val (.int p0), .unset, .unset, .unset, .unset] [(.ref b1)])) _
    refine XS.dup X61.here hx rfl (hb hby at_83) rfl rfl ?_
    show Steps p.tables e below (T61.setTop (mkF m 84 #[.val (.int p0), .unset, .unset, .unset, .unset] [(.ref b1), (.ref b1)])) _
    refine XS.bipush X61.here hx rfl (hb hby at_84) ?_
    show Steps p.tables e below (T61.setTop (mkF m 86 #[.val (.int p0), .unset, .unset, .unset, .unset] [(.int (12 : Int32)), (.ref b1), (.ref b1)])) _
    refine st63 _ ?_
    show Steps p.tables e below (T63.setTop (mkF m 89 #[.val (.int p0), .unset, .unset, .unset, .unset] [(.ref (W 12)), (.int (12 : Int32)), (.ref b1), (.ref b1)])) _
    refine st66 _ ?_
    show Steps p.tables e below (T66.setTop (mkF m 90 #[.val (.int p0), .unset, .unset, .unset, .unset] [(.ref b1)])) _
    refine XS.dup X66.here hx rfl (hb hby at_90) rfl rfl ?_
    show Steps p.tables e below (T66.setTop (mkF m 91 #[.val (.int p0), .unset, .unset, .unset, .unset] [(.ref b1), (.ref b1)])) _
    refine XS.bipush X66.here hx rfl (hb hby at_91) ?_
    show Steps p.tables e below (T66.setTop (mkF m 93 #[.val (.int p0), .unset, .unset, .unset, .unset] [(.int (13 : Int32)), (.ref b1), (.ref b1)])) _
    refine st68 _ ?_
    show Steps p.tables e below (T68.setTop (mkF m 96 #[.val (.int p0), .unset, .unset, .unset, .unset] [(.ref (W 13)), (.int (13 : Int32)), (.ref b1), (.ref b1)])) _
    refine st71 _ ?_
    show Steps p.tables e below (T71.setTop (mkF m 97 #[.val (.int p0), .unset, .unset, .unset, .unset] [(.ref b1)])) _
    refine XS.astoreN X71.here hx rfl (hb hby at_97) rfl rfl (l' := #[.val (.int p0), .val (.ref b1), .unset, .unset, .unset]) rfl ?_
    show Steps p.tables e below (T71.setTop (mkF m 98 #[.val (.int p0), .val (.ref b1), .unset, .unset, .unset] [])) _
    refine XS.iloadN X71.here hx rfl (hb hby at_98) rfl ?_
    show Steps p.tables e below (T71.setTop (mkF m 99 #[.val (.int p0), .val (.ref b1), .unset, .unset, .unset] [(.int p0)])) _
    refine X71.ldcInt hx hown (mvT hZ (hw _ (List.mem_of_getElem? (i := 32) rfl))) (g := (mkF m 99 #[.val (.int p0), .val (.ref b1), .unset, .unset, .unset] [(.int p0)])) rfl (hb hby at_99) _ ?_
    show Steps p.tables e below (T71.setTop (mkF m 101 #[.val (.int p0), .val (.ref b1), .unset, .unset, .unset] [(.int (2147483647 : Int32)), (.int p0)])) _
    refine XS.iand X71.here hx rfl (hb hby at_101) rfl ?_
    show Steps p.tables e below (T71.setTop (mkF m 102 #[.val (.int p0), .val (.ref b1), .unset, .unset, .unset] [(.int (p0 &&& (2147483647 : Int32)))])) _
    refine XS.bipush X71.here hx rfl (hb hby at_102) ?_
    show Steps p.tables e below (T71.setTop (mkF m 104 #[.val (.int p0), .val (.ref b1), .unset, .unset, .unset] [(.int (14 : Int32)), (.int (p0 &&& (2147483647 : Int32)))])) _
    refine iremM (g := (mkF m 104 #[.val (.int p0), .val (.ref b1), .unset, .unset, .unset] [(.int (14 : Int32)), (.int (p0 &&& (2147483647 : Int32)))])) X71 hx rfl (hb hby at_104) rfl (by decide) ?_
    show Steps p.tables e below (T71.setTop (mkF m 105 #[.val (.int p0), .val (.ref b1), .unset, .unset, .unset] [(.int ((p0 &&& (2147483647 : Int32)) % (14 : Int32)))])) _
    refine XS.istoreN X71.here hx rfl (hb hby at_105) rfl (l' := #[.val (.int p0), .val (.ref b1), .val (.int ((p0 &&& (2147483647 : Int32)) % (14 : Int32))), .unset, .unset]) rfl ?_
    show Steps p.tables e below (T71.setTop (mkF m 106 #[.val (.int p0), .val (.ref b1), .val (.int ((p0 &&& (2147483647 : Int32)) % (14 : Int32))), .unset, .unset] [])) _
    rw [hk]
    show Steps p.tables e below (T71.setTop (mkF m 106 #[.val (.int p0), .val (.ref b1), .val (.int k), .unset, .unset] [])) _
    refine XS.aloadN X71.here hx rfl (hb hby at_106) rfl rfl ?_
    show Steps p.tables e below (T71.setTop (mkF m 107 #[.val (.int p0), .val (.ref b1), .val (.int k), .unset, .unset] [(.ref b1)])) _
    refine XS.iloadN X71.here hx rfl (hb hby at_107) rfl ?_
    show Steps p.tables e below (T71.setTop (mkF m 108 #[.val (.int p0), .val (.ref b1), .val (.int k), .unset, .unset] [(.int k), (.ref b1)])) _
    refine X71.aaload hx (j := k) (v := (.ref (W k.toNatClampNeg))) (by rw [e71]; exact Ar72.1) (State.isArrayOf_alike hZ.alike Ar72.2.1) rfl Ar72.2.2 hin72 hat72 (g := (mkF m 108 #[.val (.int p0), .val (.ref b1), .val (.int k), .unset, .unset] [(.int k), (.ref b1)])) rfl rfl (hb hby at_108) _ ?_
    show Steps p.tables e below (T71.setTop (mkF m 109 #[.val (.int p0), .val (.ref b1), .val (.int k), .unset, .unset] [(.ref (W k.toNatClampNeg))])) _
    refine XS.astoreN X71.here hx rfl (hb hby at_109) rfl rfl (l' := #[.val (.int p0), .val (.ref b1), .val (.int k), .val (.ref (W k.toNatClampNeg)), .unset]) rfl ?_
    show Steps p.tables e below (T71.setTop (mkF m 110 #[.val (.int p0), .val (.ref b1), .val (.int k), .val (.ref (W k.toNatClampNeg)), .unset] [])) _
    refine XS.iloadN X71.here hx rfl (hb hby at_110) rfl ?_
    show Steps p.tables e below (T71.setTop (mkF m 111 #[.val (.int p0), .val (.ref b1), .val (.int k), .val (.ref (W k.toNatClampNeg)), .unset] [(.int k)])) _
    refine XS.iconst X71.here hx rfl (hb hby at_111) ?_
    exact kt
  by_cases hc74 : k = (2 : Int32)
  · skip
    have E_k_75 := (((((((((((((((E_k.ext E1).wr W6).wr W11).wr W16).wr W21).wr W26).wr W31).wr W36).wr W41).wr W46).wr W51).wr W56).wr W61).wr W66).wr W71)
    have F_a_76 := (((((((((((((((F_a.ext E1).other W6 (Or.inl ne1__W_k_toNatClampNeg_)).other W11 (Or.inl ne1__W_k_toNatClampNeg_)).other W16 (Or.inl ne1__W_k_toNatClampNeg_)).other W21 (Or.inl ne1__W_k_toNatClampNeg_)).other W26 (Or.inl ne1__W_k_toNatClampNeg_)).other W31 (Or.inl ne1__W_k_toNatClampNeg_)).other W36 (Or.inl ne1__W_k_toNatClampNeg_)).other W41 (Or.inl ne1__W_k_toNatClampNeg_)).other W46 (Or.inl ne1__W_k_toNatClampNeg_)).other W51 (Or.inl ne1__W_k_toNatClampNeg_)).other W56 (Or.inl ne1__W_k_toNatClampNeg_)).other W61 (Or.inl ne1__W_k_toNatClampNeg_)).other W66 (Or.inl ne1__W_k_toNatClampNeg_)).other W71 (Or.inl ne1__W_k_toNatClampNeg_))
    obtain ⟨cq77, kq77, q77a, q77b, q77c⟩ := isOf hZ e71 E_k_75
    obtain ⟨_, _, ⟨T77, L77, k77, n77⟩, -, X77, ⟨Lc77, hQ77, l77, y77, z77⟩, st77⟩ := X71.virtualBack hx (y := (⟨"heslar/Element", "isSupplement", "()Z"⟩ : MethodName)) (z := (⟨"heslar/Element", "isSupplement", "()Z"⟩ : MethodName)) hown (mvT hZ (hw _ (List.mem_of_getElem? (i := 33) rfl))) (mvT hZ (hw _ (List.mem_of_getElem? (i := 34) rfl))) (notFace_of_selects (args := #[]) (mvT hZ (hw _ (List.mem_of_getElem? (i := 36) rfl)))) (mvT hZ (hw _ (List.mem_of_getElem? (i := 36) rfl))) (mvT hZ (hw _ (List.mem_of_getElem? (i := 35) rfl))) (by decide) (backOf (W := 0) (rm1 l Z a0 hw [] (W k.toNatClampNeg) r k h71 n0 Zs71 E_k_75 F_a_76 hr0) hZ (hw _ (List.mem_of_getElem? (i := 37) rfl)) (hw _ (List.mem_of_getElem? (i := 3) rfl)) (by decide) (by decide)) q77a q77c (g := (mkF m 171 #[.val (.int p0), .val (.ref b1), .val (.int k), .val (.ref (W k.toNatClampNeg)), .val (.int (1 : Int32))] [(.ref (W k.toNatClampNeg))])) rfl (by rw [hml]; rfl) (Steps.refl _) (argsL := []) (rest := []) (lenOf pd___Z rfl) rfl (by show 2 * 0 + _ ≤ _; exact Nat.le_of_eq rfl) (hb hby at_171) (fun _ _ => ⟨rfl, e71, (by decide : 1 + 0 ≤ _), (by decide : 14 + 0 ≤ _)⟩)
    dsimp only [Pt.U, Pt.locs, Pt.cells, Pt.slots] at X77 l77 y77 z77 st77 hQ77
    subst l77 y77 z77
    obtain ⟨rfl, N77q, e77⟩ := hQ77
    have N77 := Fr.app N71 N77q
    obtain ⟨fs, hr, hrun, hended, hW, hsame⟩ := X77.leave (v := some (.int (1 : Int32))) (fun h => by rw [Bd.returns] at h; cases h)
    refine ⟨_, _, pre73 _ ?_, hrun, hended, _, _, rfl, ?_, ⟨_, rfl⟩, hW, hsame.mono (by decide) (by decide)⟩
    · skip
      show Steps p.tables e below (T71.setTop (mkF m 112 #[.val (.int p0), .val (.ref b1), .val (.int k), .val (.ref (W k.toNatClampNeg)), .unset] [(.int (2 : Int32)), (.int k)])) _
      refine XS.icmpNo X71.here hx rfl (hb hby at_112) rfl (teq hc74).2 ?_
      show Steps p.tables e below (T71.setTop (mkF m 115 #[.val (.int p0), .val (.ref b1), .val (.int k), .val (.ref (W k.toNatClampNeg)), .unset] [])) _
      refine XS.iconst X71.here hx rfl (hb hby at_115) ?_
      show Steps p.tables e below (T71.setTop (mkF m 116 #[.val (.int p0), .val (.ref b1), .val (.int k), .val (.ref (W k.toNatClampNeg)), .unset] [(.int (1 : Int32))])) _
      refine XS.istore X71.here hx rfl (hb hby at_116) rfl (l' := #[.val (.int p0), .val (.ref b1), .val (.int k), .val (.ref (W k.toNatClampNeg)), .val (.int (1 : Int32))]) rfl ?_
      show Steps p.tables e below (T71.setTop (mkF m 118 #[.val (.int p0), .val (.ref b1), .val (.int k), .val (.ref (W k.toNatClampNeg)), .val (.int (1 : Int32))] [])) _
      refine XS.goto X71.here hx rfl (pc0 := 118) (pc' := 170) rfl (hb hby at_118) (by decide) (by decide) ?_
      show Steps p.tables e below (T71.setTop (mkF m 170 #[.val (.int p0), .val (.ref b1), .val (.int k), .val (.ref (W k.toNatClampNeg)), .val (.int (1 : Int32))] [])) _
      refine XS.aloadN X71.here hx rfl (hb hby at_170) rfl rfl ?_
      show Steps p.tables e below (T71.setTop (mkF m 171 #[.val (.int p0), .val (.ref b1), .val (.int k), .val (.ref (W k.toNatClampNeg)), .val (.int (1 : Int32))] [(.ref (W k.toNatClampNeg))])) _
      refine st77.trans ?_
      show Steps p.tables e below (T77.setTop (mkF m 174 #[.val (.int p0), .val (.ref b1), .val (.int k), .val (.ref (W k.toNatClampNeg)), .val (.int (1 : Int32))] [(.int r)])) _
      refine XS.iload X77.here hx rfl (hb hby at_174) rfl ?_
      show Steps p.tables e below (T77.setTop (mkF m 176 #[.val (.int p0), .val (.ref b1), .val (.int k), .val (.ref (W k.toNatClampNeg)), .val (.int (1 : Int32))] [(.int (1 : Int32)), (.int r)])) _
      refine XS.icmpNo X77.here hx rfl (hb hby at_176) rfl (teq (by simp [hr0, hc74])).2 ?_
      show Steps p.tables e below (T77.setTop (mkF m 179 #[.val (.int p0), .val (.ref b1), .val (.int k), .val (.ref (W k.toNatClampNeg)), .val (.int (1 : Int32))] [])) _
      refine XS.iconst X77.here hx rfl (hb hby at_179) ?_
      show Steps p.tables e below (T77.setTop (mkF m 180 #[.val (.int p0), .val (.ref b1), .val (.int k), .val (.ref (W k.toNatClampNeg)), .val (.int (1 : Int32))] [(.int (1 : Int32))])) _
      refine XS.goto X77.here hx rfl (pc0 := 180) (pc' := 184) rfl (hb hby at_180) (by decide) (by decide) ?_
      show Steps p.tables e below (T77.setTop (mkF m 184 #[.val (.int p0), .val (.ref b1), .val (.int k), .val (.ref (W k.toNatClampNeg)), .val (.int (1 : Int32))] [(.int (1 : Int32))])) _
      exact retN X77 hx (t := .boolean) Bd.returns (by simp) (hb hby at_184) hr
    · exact ⟨(by first | rfl | simp [hc74]), N77⟩
  · skip
    have pre78 : ∀ t, Steps p.tables e below (T71.setTop (mkF m 123 #[.val (.int p0), .val (.ref b1), .val (.int k), .val (.ref (W k.toNatClampNeg)), .unset] [(.int (3 : Int32)), (.int k)])) t → Steps p.tables e below (s₁.setTop (entryFrame m #[(.int p0)] maxLocals)) t := by
      intro t kt
      refine pre73 t ?_
      show Steps p.tables e below (T71.setTop (mkF m 112 #[.val (.int p0), .val (.ref b1), .val (.int k), .val (.ref (W k.toNatClampNeg)), .unset] [(.int (2 : Int32)), (.int k)])) _
      refine XS.icmpYes X71.here hx rfl (pc0 := 112) (pc' := 121) rfl (hb hby at_112) rfl (feq hc74).2 (by decide) (by decide) ?_
      show Steps p.tables e below (T71.setTop (mkF m 121 #[.val (.int p0), .val (.ref b1), .val (.int k), .val (.ref (W k.toNatClampNeg)), .unset] [])) _
      refine XS.iloadN X71.here hx rfl (hb hby at_121) rfl ?_
      show Steps p.tables e below (T71.setTop (mkF m 122 #[.val (.int p0), .val (.ref b1), .val (.int k), .val (.ref (W k.toNatClampNeg)), .unset] [(.int k)])) _
      refine XS.iconst X71.here hx rfl (hb hby at_122) ?_
      exact kt
    by_cases hc79 : k = (3 : Int32)
    · skip
      have E_k_80 := (((((((((((((((E_k.ext E1).wr W6).wr W11).wr W16).wr W21).wr W26).wr W31).wr W36).wr W41).wr W46).wr W51).wr W56).wr W61).wr W66).wr W71)
      have F_a_81 := (((((((((((((((F_a.ext E1).other W6 (Or.inl ne1__W_k_toNatClampNeg_)).other W11 (Or.inl ne1__W_k_toNatClampNeg_)).other W16 (Or.inl ne1__W_k_toNatClampNeg_)).other W21 (Or.inl ne1__W_k_toNatClampNeg_)).other W26 (Or.inl ne1__W_k_toNatClampNeg_)).other W31 (Or.inl ne1__W_k_toNatClampNeg_)).other W36 (Or.inl ne1__W_k_toNatClampNeg_)).other W41 (Or.inl ne1__W_k_toNatClampNeg_)).other W46 (Or.inl ne1__W_k_toNatClampNeg_)).other W51 (Or.inl ne1__W_k_toNatClampNeg_)).other W56 (Or.inl ne1__W_k_toNatClampNeg_)).other W61 (Or.inl ne1__W_k_toNatClampNeg_)).other W66 (Or.inl ne1__W_k_toNatClampNeg_)).other W71 (Or.inl ne1__W_k_toNatClampNeg_))
      obtain ⟨cq82, kq82, q82a, q82b, q82c⟩ := isOf hZ e71 E_k_80
      obtain ⟨_, _, ⟨T82, L82, k82, n82⟩, -, X82, ⟨Lc82, hQ82, l82, y82, z82⟩, st82⟩ := X71.virtualBack hx (y := (⟨"heslar/Element", "isSupplement", "()Z"⟩ : MethodName)) (z := (⟨"heslar/Element", "isSupplement", "()Z"⟩ : MethodName)) hown (mvT hZ (hw _ (List.mem_of_getElem? (i := 33) rfl))) (mvT hZ (hw _ (List.mem_of_getElem? (i := 34) rfl))) (notFace_of_selects (args := #[]) (mvT hZ (hw _ (List.mem_of_getElem? (i := 36) rfl)))) (mvT hZ (hw _ (List.mem_of_getElem? (i := 36) rfl))) (mvT hZ (hw _ (List.mem_of_getElem? (i := 35) rfl))) (by decide) (backOf (W := 0) (rm1 l Z a0 hw [] (W k.toNatClampNeg) r k h71 n0 Zs71 E_k_80 F_a_81 hr0) hZ (hw _ (List.mem_of_getElem? (i := 37) rfl)) (hw _ (List.mem_of_getElem? (i := 3) rfl)) (by decide) (by decide)) q82a q82c (g := (mkF m 171 #[.val (.int p0), .val (.ref b1), .val (.int k), .val (.ref (W k.toNatClampNeg)), .val (.int (1 : Int32))] [(.ref (W k.toNatClampNeg))])) rfl (by rw [hml]; rfl) (Steps.refl _) (argsL := []) (rest := []) (lenOf pd___Z rfl) rfl (by show 2 * 0 + _ ≤ _; exact Nat.le_of_eq rfl) (hb hby at_171) (fun _ _ => ⟨rfl, e71, (by decide : 1 + 0 ≤ _), (by decide : 14 + 0 ≤ _)⟩)
      dsimp only [Pt.U, Pt.locs, Pt.cells, Pt.slots] at X82 l82 y82 z82 st82 hQ82
      subst l82 y82 z82
      obtain ⟨rfl, N82q, e82⟩ := hQ82
      have N82 := Fr.app N71 N82q
      obtain ⟨fs, hr, hrun, hended, hW, hsame⟩ := X82.leave (v := some (.int (1 : Int32))) (fun h => by rw [Bd.returns] at h; cases h)
      refine ⟨_, _, pre78 _ ?_, hrun, hended, _, _, rfl, ?_, ⟨_, rfl⟩, hW, hsame.mono (by decide) (by decide)⟩
      · skip
        show Steps p.tables e below (T71.setTop (mkF m 123 #[.val (.int p0), .val (.ref b1), .val (.int k), .val (.ref (W k.toNatClampNeg)), .unset] [(.int (3 : Int32)), (.int k)])) _
        refine XS.icmpNo X71.here hx rfl (hb hby at_123) rfl (teq hc79).2 ?_
        show Steps p.tables e below (T71.setTop (mkF m 126 #[.val (.int p0), .val (.ref b1), .val (.int k), .val (.ref (W k.toNatClampNeg)), .unset] [])) _
        refine XS.iconst X71.here hx rfl (hb hby at_126) ?_
        show Steps p.tables e below (T71.setTop (mkF m 127 #[.val (.int p0), .val (.ref b1), .val (.int k), .val (.ref (W k.toNatClampNeg)), .unset] [(.int (1 : Int32))])) _
        refine XS.istore X71.here hx rfl (hb hby at_127) rfl (l' := #[.val (.int p0), .val (.ref b1), .val (.int k), .val (.ref (W k.toNatClampNeg)), .val (.int (1 : Int32))]) rfl ?_
        show Steps p.tables e below (T71.setTop (mkF m 129 #[.val (.int p0), .val (.ref b1), .val (.int k), .val (.ref (W k.toNatClampNeg)), .val (.int (1 : Int32))] [])) _
        refine XS.goto X71.here hx rfl (pc0 := 129) (pc' := 170) rfl (hb hby at_129) (by decide) (by decide) ?_
        show Steps p.tables e below (T71.setTop (mkF m 170 #[.val (.int p0), .val (.ref b1), .val (.int k), .val (.ref (W k.toNatClampNeg)), .val (.int (1 : Int32))] [])) _
        refine XS.aloadN X71.here hx rfl (hb hby at_170) rfl rfl ?_
        show Steps p.tables e below (T71.setTop (mkF m 171 #[.val (.int p0), .val (.ref b1), .val (.int k), .val (.ref (W k.toNatClampNeg)), .val (.int (1 : Int32))] [(.ref (W k.toNatClampNeg))])) _
        refine st82.trans ?_
        show Steps p.tables e below (T82.setTop (mkF m 174 #[.val (.int p0), .val (.ref b1), .val (.int k), .val (.ref (W k.toNatClampNeg)), .val (.int (1 : Int32))] [(.int r)])) _
        refine XS.iload X82.here hx rfl (hb hby at_174) rfl ?_
        show Steps p.tables e below (T82.setTop (mkF m 176 #[.val (.int p0), .val (.ref b1), .val (.int k), .val (.ref (W k.toNatClampNeg)), .val (.int (1 : Int32))] [(.int (1 : Int32)), (.int r)])) _
        refine XS.icmpNo X82.here hx rfl (hb hby at_176) rfl (teq (by simp [hr0, hc74, hc79])).2 ?_
        show Steps p.tables e below (T82.setTop (mkF m 179 #[.val (.int p0), .val (.ref b1), .val (.int k), .val (.ref (W k.toNatClampNeg)), .val (.int (1 : Int32))] [])) _
        refine XS.iconst X82.here hx rfl (hb hby at_179) ?_
        show Steps p.tables e below (T82.setTop (mkF m 180 #[.val (.int p0), .val (.ref b1), .val (.int k), .val (.ref (W k.toNatClampNeg)), .val (.int (1 : Int32))] [(.int (1 : Int32))])) _
        refine XS.goto X82.here hx rfl (pc0 := 180) (pc' := 184) rfl (hb hby at_180) (by decide) (by decide) ?_
        show Steps p.tables e below (T82.setTop (mkF m 184 #[.val (.int p0), .val (.ref b1), .val (.int k), .val (.ref (W k.toNatClampNeg)), .val (.int (1 : Int32))] [(.int (1 : Int32))])) _
        exact retN X82 hx (t := .boolean) Bd.returns (by simp) (hb hby at_184) hr
      · exact ⟨(by first | rfl | simp [hc74, hc79]), N82⟩
    · skip
      have pre83 : ∀ t, Steps p.tables e below (T71.setTop (mkF m 134 #[.val (.int p0), .val (.ref b1), .val (.int k), .val (.ref (W k.toNatClampNeg)), .unset] [(.int (4 : Int32)), (.int k)])) t → Steps p.tables e below (s₁.setTop (entryFrame m #[(.int p0)] maxLocals)) t := by
        intro t kt
        refine pre78 t ?_
        show Steps p.tables e below (T71.setTop (mkF m 123 #[.val (.int p0), .val (.ref b1), .val (.int k), .val (.ref (W k.toNatClampNeg)), .unset] [(.int (3 : Int32)), (.int k)])) _
        refine XS.icmpYes X71.here hx rfl (pc0 := 123) (pc' := 132) rfl (hb hby at_123) rfl (feq hc79).2 (by decide) (by decide) ?_
        show Steps p.tables e below (T71.setTop (mkF m 132 #[.val (.int p0), .val (.ref b1), .val (.int k), .val (.ref (W k.toNatClampNeg)), .unset] [])) _
        refine XS.iloadN X71.here hx rfl (hb hby at_132) rfl ?_
        show Steps p.tables e below (T71.setTop (mkF m 133 #[.val (.int p0), .val (.ref b1), .val (.int k), .val (.ref (W k.toNatClampNeg)), .unset] [(.int k)])) _
        refine XS.iconst X71.here hx rfl (hb hby at_133) ?_
        exact kt
      by_cases hc84 : k = (4 : Int32)
      · skip
        have E_k_85 := (((((((((((((((E_k.ext E1).wr W6).wr W11).wr W16).wr W21).wr W26).wr W31).wr W36).wr W41).wr W46).wr W51).wr W56).wr W61).wr W66).wr W71)
        have F_a_86 := (((((((((((((((F_a.ext E1).other W6 (Or.inl ne1__W_k_toNatClampNeg_)).other W11 (Or.inl ne1__W_k_toNatClampNeg_)).other W16 (Or.inl ne1__W_k_toNatClampNeg_)).other W21 (Or.inl ne1__W_k_toNatClampNeg_)).other W26 (Or.inl ne1__W_k_toNatClampNeg_)).other W31 (Or.inl ne1__W_k_toNatClampNeg_)).other W36 (Or.inl ne1__W_k_toNatClampNeg_)).other W41 (Or.inl ne1__W_k_toNatClampNeg_)).other W46 (Or.inl ne1__W_k_toNatClampNeg_)).other W51 (Or.inl ne1__W_k_toNatClampNeg_)).other W56 (Or.inl ne1__W_k_toNatClampNeg_)).other W61 (Or.inl ne1__W_k_toNatClampNeg_)).other W66 (Or.inl ne1__W_k_toNatClampNeg_)).other W71 (Or.inl ne1__W_k_toNatClampNeg_))
        obtain ⟨cq87, kq87, q87a, q87b, q87c⟩ := isOf hZ e71 E_k_85
        obtain ⟨_, _, ⟨T87, L87, k87, n87⟩, -, X87, ⟨Lc87, hQ87, l87, y87, z87⟩, st87⟩ := X71.virtualBack hx (y := (⟨"heslar/Element", "isSupplement", "()Z"⟩ : MethodName)) (z := (⟨"heslar/Element", "isSupplement", "()Z"⟩ : MethodName)) hown (mvT hZ (hw _ (List.mem_of_getElem? (i := 33) rfl))) (mvT hZ (hw _ (List.mem_of_getElem? (i := 34) rfl))) (notFace_of_selects (args := #[]) (mvT hZ (hw _ (List.mem_of_getElem? (i := 36) rfl)))) (mvT hZ (hw _ (List.mem_of_getElem? (i := 36) rfl))) (mvT hZ (hw _ (List.mem_of_getElem? (i := 35) rfl))) (by decide) (backOf (W := 0) (rm1 l Z a0 hw [] (W k.toNatClampNeg) r k h71 n0 Zs71 E_k_85 F_a_86 hr0) hZ (hw _ (List.mem_of_getElem? (i := 37) rfl)) (hw _ (List.mem_of_getElem? (i := 3) rfl)) (by decide) (by decide)) q87a q87c (g := (mkF m 171 #[.val (.int p0), .val (.ref b1), .val (.int k), .val (.ref (W k.toNatClampNeg)), .val (.int (1 : Int32))] [(.ref (W k.toNatClampNeg))])) rfl (by rw [hml]; rfl) (Steps.refl _) (argsL := []) (rest := []) (lenOf pd___Z rfl) rfl (by show 2 * 0 + _ ≤ _; exact Nat.le_of_eq rfl) (hb hby at_171) (fun _ _ => ⟨rfl, e71, (by decide : 1 + 0 ≤ _), (by decide : 14 + 0 ≤ _)⟩)
        dsimp only [Pt.U, Pt.locs, Pt.cells, Pt.slots] at X87 l87 y87 z87 st87 hQ87
        subst l87 y87 z87
        obtain ⟨rfl, N87q, e87⟩ := hQ87
        have N87 := Fr.app N71 N87q
        obtain ⟨fs, hr, hrun, hended, hW, hsame⟩ := X87.leave (v := some (.int (1 : Int32))) (fun h => by rw [Bd.returns] at h; cases h)
        refine ⟨_, _, pre83 _ ?_, hrun, hended, _, _, rfl, ?_, ⟨_, rfl⟩, hW, hsame.mono (by decide) (by decide)⟩
        · skip
          show Steps p.tables e below (T71.setTop (mkF m 134 #[.val (.int p0), .val (.ref b1), .val (.int k), .val (.ref (W k.toNatClampNeg)), .unset] [(.int (4 : Int32)), (.int k)])) _
          refine XS.icmpNo X71.here hx rfl (hb hby at_134) rfl (teq hc84).2 ?_
          show Steps p.tables e below (T71.setTop (mkF m 137 #[.val (.int p0), .val (.ref b1), .val (.int k), .val (.ref (W k.toNatClampNeg)), .unset] [])) _
          refine XS.iconst X71.here hx rfl (hb hby at_137) ?_
          show Steps p.tables e below (T71.setTop (mkF m 138 #[.val (.int p0), .val (.ref b1), .val (.int k), .val (.ref (W k.toNatClampNeg)), .unset] [(.int (1 : Int32))])) _
          refine XS.istore X71.here hx rfl (hb hby at_138) rfl (l' := #[.val (.int p0), .val (.ref b1), .val (.int k), .val (.ref (W k.toNatClampNeg)), .val (.int (1 : Int32))]) rfl ?_
          show Steps p.tables e below (T71.setTop (mkF m 140 #[.val (.int p0), .val (.ref b1), .val (.int k), .val (.ref (W k.toNatClampNeg)), .val (.int (1 : Int32))] [])) _
          refine XS.goto X71.here hx rfl (pc0 := 140) (pc' := 170) rfl (hb hby at_140) (by decide) (by decide) ?_
          show Steps p.tables e below (T71.setTop (mkF m 170 #[.val (.int p0), .val (.ref b1), .val (.int k), .val (.ref (W k.toNatClampNeg)), .val (.int (1 : Int32))] [])) _
          refine XS.aloadN X71.here hx rfl (hb hby at_170) rfl rfl ?_
          show Steps p.tables e below (T71.setTop (mkF m 171 #[.val (.int p0), .val (.ref b1), .val (.int k), .val (.ref (W k.toNatClampNeg)), .val (.int (1 : Int32))] [(.ref (W k.toNatClampNeg))])) _
          refine st87.trans ?_
          show Steps p.tables e below (T87.setTop (mkF m 174 #[.val (.int p0), .val (.ref b1), .val (.int k), .val (.ref (W k.toNatClampNeg)), .val (.int (1 : Int32))] [(.int r)])) _
          refine XS.iload X87.here hx rfl (hb hby at_174) rfl ?_
          show Steps p.tables e below (T87.setTop (mkF m 176 #[.val (.int p0), .val (.ref b1), .val (.int k), .val (.ref (W k.toNatClampNeg)), .val (.int (1 : Int32))] [(.int (1 : Int32)), (.int r)])) _
          refine XS.icmpNo X87.here hx rfl (hb hby at_176) rfl (teq (by simp [hr0, hc74, hc79, hc84])).2 ?_
          show Steps p.tables e below (T87.setTop (mkF m 179 #[.val (.int p0), .val (.ref b1), .val (.int k), .val (.ref (W k.toNatClampNeg)), .val (.int (1 : Int32))] [])) _
          refine XS.iconst X87.here hx rfl (hb hby at_179) ?_
          show Steps p.tables e below (T87.setTop (mkF m 180 #[.val (.int p0), .val (.ref b1), .val (.int k), .val (.ref (W k.toNatClampNeg)), .val (.int (1 : Int32))] [(.int (1 : Int32))])) _
          refine XS.goto X87.here hx rfl (pc0 := 180) (pc' := 184) rfl (hb hby at_180) (by decide) (by decide) ?_
          show Steps p.tables e below (T87.setTop (mkF m 184 #[.val (.int p0), .val (.ref b1), .val (.int k), .val (.ref (W k.toNatClampNeg)), .val (.int (1 : Int32))] [(.int (1 : Int32))])) _
          exact retN X87 hx (t := .boolean) Bd.returns (by simp) (hb hby at_184) hr
        · exact ⟨(by first | rfl | simp [hc74, hc79, hc84]), N87⟩
      · skip
        have pre88 : ∀ t, Steps p.tables e below (T71.setTop (mkF m 146 #[.val (.int p0), .val (.ref b1), .val (.int k), .val (.ref (W k.toNatClampNeg)), .unset] [(.int (6 : Int32)), (.int k)])) t → Steps p.tables e below (s₁.setTop (entryFrame m #[(.int p0)] maxLocals)) t := by
          intro t kt
          refine pre83 t ?_
          show Steps p.tables e below (T71.setTop (mkF m 134 #[.val (.int p0), .val (.ref b1), .val (.int k), .val (.ref (W k.toNatClampNeg)), .unset] [(.int (4 : Int32)), (.int k)])) _
          refine XS.icmpYes X71.here hx rfl (pc0 := 134) (pc' := 143) rfl (hb hby at_134) rfl (feq hc84).2 (by decide) (by decide) ?_
          show Steps p.tables e below (T71.setTop (mkF m 143 #[.val (.int p0), .val (.ref b1), .val (.int k), .val (.ref (W k.toNatClampNeg)), .unset] [])) _
          refine XS.iloadN X71.here hx rfl (hb hby at_143) rfl ?_
          show Steps p.tables e below (T71.setTop (mkF m 144 #[.val (.int p0), .val (.ref b1), .val (.int k), .val (.ref (W k.toNatClampNeg)), .unset] [(.int k)])) _
          refine XS.bipush X71.here hx rfl (hb hby at_144) ?_
          exact kt
        by_cases hc89 : k = (6 : Int32)
        · skip
          have E_k_90 := (((((((((((((((E_k.ext E1).wr W6).wr W11).wr W16).wr W21).wr W26).wr W31).wr W36).wr W41).wr W46).wr W51).wr W56).wr W61).wr W66).wr W71)
          have F_a_91 := (((((((((((((((F_a.ext E1).other W6 (Or.inl ne1__W_k_toNatClampNeg_)).other W11 (Or.inl ne1__W_k_toNatClampNeg_)).other W16 (Or.inl ne1__W_k_toNatClampNeg_)).other W21 (Or.inl ne1__W_k_toNatClampNeg_)).other W26 (Or.inl ne1__W_k_toNatClampNeg_)).other W31 (Or.inl ne1__W_k_toNatClampNeg_)).other W36 (Or.inl ne1__W_k_toNatClampNeg_)).other W41 (Or.inl ne1__W_k_toNatClampNeg_)).other W46 (Or.inl ne1__W_k_toNatClampNeg_)).other W51 (Or.inl ne1__W_k_toNatClampNeg_)).other W56 (Or.inl ne1__W_k_toNatClampNeg_)).other W61 (Or.inl ne1__W_k_toNatClampNeg_)).other W66 (Or.inl ne1__W_k_toNatClampNeg_)).other W71 (Or.inl ne1__W_k_toNatClampNeg_))
          obtain ⟨cq92, kq92, q92a, q92b, q92c⟩ := isOf hZ e71 E_k_90
          obtain ⟨_, _, ⟨T92, L92, k92, n92⟩, -, X92, ⟨Lc92, hQ92, l92, y92, z92⟩, st92⟩ := X71.virtualBack hx (y := (⟨"heslar/Element", "isSupplement", "()Z"⟩ : MethodName)) (z := (⟨"heslar/Element", "isSupplement", "()Z"⟩ : MethodName)) hown (mvT hZ (hw _ (List.mem_of_getElem? (i := 33) rfl))) (mvT hZ (hw _ (List.mem_of_getElem? (i := 34) rfl))) (notFace_of_selects (args := #[]) (mvT hZ (hw _ (List.mem_of_getElem? (i := 36) rfl)))) (mvT hZ (hw _ (List.mem_of_getElem? (i := 36) rfl))) (mvT hZ (hw _ (List.mem_of_getElem? (i := 35) rfl))) (by decide) (backOf (W := 0) (rm1 l Z a0 hw [] (W k.toNatClampNeg) r k h71 n0 Zs71 E_k_90 F_a_91 hr0) hZ (hw _ (List.mem_of_getElem? (i := 37) rfl)) (hw _ (List.mem_of_getElem? (i := 3) rfl)) (by decide) (by decide)) q92a q92c (g := (mkF m 171 #[.val (.int p0), .val (.ref b1), .val (.int k), .val (.ref (W k.toNatClampNeg)), .val (.int (1 : Int32))] [(.ref (W k.toNatClampNeg))])) rfl (by rw [hml]; rfl) (Steps.refl _) (argsL := []) (rest := []) (lenOf pd___Z rfl) rfl (by show 2 * 0 + _ ≤ _; exact Nat.le_of_eq rfl) (hb hby at_171) (fun _ _ => ⟨rfl, e71, (by decide : 1 + 0 ≤ _), (by decide : 14 + 0 ≤ _)⟩)
          dsimp only [Pt.U, Pt.locs, Pt.cells, Pt.slots] at X92 l92 y92 z92 st92 hQ92
          subst l92 y92 z92
          obtain ⟨rfl, N92q, e92⟩ := hQ92
          have N92 := Fr.app N71 N92q
          obtain ⟨fs, hr, hrun, hended, hW, hsame⟩ := X92.leave (v := some (.int (1 : Int32))) (fun h => by rw [Bd.returns] at h; cases h)
          refine ⟨_, _, pre88 _ ?_, hrun, hended, _, _, rfl, ?_, ⟨_, rfl⟩, hW, hsame.mono (by decide) (by decide)⟩
          · skip
            show Steps p.tables e below (T71.setTop (mkF m 146 #[.val (.int p0), .val (.ref b1), .val (.int k), .val (.ref (W k.toNatClampNeg)), .unset] [(.int (6 : Int32)), (.int k)])) _
            refine XS.icmpNo X71.here hx rfl (hb hby at_146) rfl (teq hc89).2 ?_
            show Steps p.tables e below (T71.setTop (mkF m 149 #[.val (.int p0), .val (.ref b1), .val (.int k), .val (.ref (W k.toNatClampNeg)), .unset] [])) _
            refine XS.iconst X71.here hx rfl (hb hby at_149) ?_
            show Steps p.tables e below (T71.setTop (mkF m 150 #[.val (.int p0), .val (.ref b1), .val (.int k), .val (.ref (W k.toNatClampNeg)), .unset] [(.int (1 : Int32))])) _
            refine XS.istore X71.here hx rfl (hb hby at_150) rfl (l' := #[.val (.int p0), .val (.ref b1), .val (.int k), .val (.ref (W k.toNatClampNeg)), .val (.int (1 : Int32))]) rfl ?_
            show Steps p.tables e below (T71.setTop (mkF m 152 #[.val (.int p0), .val (.ref b1), .val (.int k), .val (.ref (W k.toNatClampNeg)), .val (.int (1 : Int32))] [])) _
            refine XS.goto X71.here hx rfl (pc0 := 152) (pc' := 170) rfl (hb hby at_152) (by decide) (by decide) ?_
            show Steps p.tables e below (T71.setTop (mkF m 170 #[.val (.int p0), .val (.ref b1), .val (.int k), .val (.ref (W k.toNatClampNeg)), .val (.int (1 : Int32))] [])) _
            refine XS.aloadN X71.here hx rfl (hb hby at_170) rfl rfl ?_
            show Steps p.tables e below (T71.setTop (mkF m 171 #[.val (.int p0), .val (.ref b1), .val (.int k), .val (.ref (W k.toNatClampNeg)), .val (.int (1 : Int32))] [(.ref (W k.toNatClampNeg))])) _
            refine st92.trans ?_
            show Steps p.tables e below (T92.setTop (mkF m 174 #[.val (.int p0), .val (.ref b1), .val (.int k), .val (.ref (W k.toNatClampNeg)), .val (.int (1 : Int32))] [(.int r)])) _
            refine XS.iload X92.here hx rfl (hb hby at_174) rfl ?_
            show Steps p.tables e below (T92.setTop (mkF m 176 #[.val (.int p0), .val (.ref b1), .val (.int k), .val (.ref (W k.toNatClampNeg)), .val (.int (1 : Int32))] [(.int (1 : Int32)), (.int r)])) _
            refine XS.icmpNo X92.here hx rfl (hb hby at_176) rfl (teq (by simp [hr0, hc74, hc79, hc84, hc89])).2 ?_
            show Steps p.tables e below (T92.setTop (mkF m 179 #[.val (.int p0), .val (.ref b1), .val (.int k), .val (.ref (W k.toNatClampNeg)), .val (.int (1 : Int32))] [])) _
            refine XS.iconst X92.here hx rfl (hb hby at_179) ?_
            show Steps p.tables e below (T92.setTop (mkF m 180 #[.val (.int p0), .val (.ref b1), .val (.int k), .val (.ref (W k.toNatClampNeg)), .val (.int (1 : Int32))] [(.int (1 : Int32))])) _
            refine XS.goto X92.here hx rfl (pc0 := 180) (pc' := 184) rfl (hb hby at_180) (by decide) (by decide) ?_
            show Steps p.tables e below (T92.setTop (mkF m 184 #[.val (.int p0), .val (.ref b1), .val (.int k), .val (.ref (W k.toNatClampNeg)), .val (.int (1 : Int32))] [(.int (1 : Int32))])) _
            exact retN X92 hx (t := .boolean) Bd.returns (by simp) (hb hby at_184) hr
          · exact ⟨(by first | rfl | simp [hc74, hc79, hc84, hc89]), N92⟩
        · skip
          have pre93 : ∀ t, Steps p.tables e below (T71.setTop (mkF m 158 #[.val (.int p0), .val (.ref b1), .val (.int k), .val (.ref (W k.toNatClampNeg)), .unset] [(.int (7 : Int32)), (.int k)])) t → Steps p.tables e below (s₁.setTop (entryFrame m #[(.int p0)] maxLocals)) t := by
            intro t kt
            refine pre88 t ?_
            show Steps p.tables e below (T71.setTop (mkF m 146 #[.val (.int p0), .val (.ref b1), .val (.int k), .val (.ref (W k.toNatClampNeg)), .unset] [(.int (6 : Int32)), (.int k)])) _
            refine XS.icmpYes X71.here hx rfl (pc0 := 146) (pc' := 155) rfl (hb hby at_146) rfl (feq hc89).2 (by decide) (by decide) ?_
            show Steps p.tables e below (T71.setTop (mkF m 155 #[.val (.int p0), .val (.ref b1), .val (.int k), .val (.ref (W k.toNatClampNeg)), .unset] [])) _
            refine XS.iloadN X71.here hx rfl (hb hby at_155) rfl ?_
            show Steps p.tables e below (T71.setTop (mkF m 156 #[.val (.int p0), .val (.ref b1), .val (.int k), .val (.ref (W k.toNatClampNeg)), .unset] [(.int k)])) _
            refine XS.bipush X71.here hx rfl (hb hby at_156) ?_
            exact kt
          by_cases hc94 : k = (7 : Int32)
          · skip
            have E_k_95 := (((((((((((((((E_k.ext E1).wr W6).wr W11).wr W16).wr W21).wr W26).wr W31).wr W36).wr W41).wr W46).wr W51).wr W56).wr W61).wr W66).wr W71)
            have F_a_96 := (((((((((((((((F_a.ext E1).other W6 (Or.inl ne1__W_k_toNatClampNeg_)).other W11 (Or.inl ne1__W_k_toNatClampNeg_)).other W16 (Or.inl ne1__W_k_toNatClampNeg_)).other W21 (Or.inl ne1__W_k_toNatClampNeg_)).other W26 (Or.inl ne1__W_k_toNatClampNeg_)).other W31 (Or.inl ne1__W_k_toNatClampNeg_)).other W36 (Or.inl ne1__W_k_toNatClampNeg_)).other W41 (Or.inl ne1__W_k_toNatClampNeg_)).other W46 (Or.inl ne1__W_k_toNatClampNeg_)).other W51 (Or.inl ne1__W_k_toNatClampNeg_)).other W56 (Or.inl ne1__W_k_toNatClampNeg_)).other W61 (Or.inl ne1__W_k_toNatClampNeg_)).other W66 (Or.inl ne1__W_k_toNatClampNeg_)).other W71 (Or.inl ne1__W_k_toNatClampNeg_))
            obtain ⟨cq97, kq97, q97a, q97b, q97c⟩ := isOf hZ e71 E_k_95
            obtain ⟨_, _, ⟨T97, L97, k97, n97⟩, -, X97, ⟨Lc97, hQ97, l97, y97, z97⟩, st97⟩ := X71.virtualBack hx (y := (⟨"heslar/Element", "isSupplement", "()Z"⟩ : MethodName)) (z := (⟨"heslar/Element", "isSupplement", "()Z"⟩ : MethodName)) hown (mvT hZ (hw _ (List.mem_of_getElem? (i := 33) rfl))) (mvT hZ (hw _ (List.mem_of_getElem? (i := 34) rfl))) (notFace_of_selects (args := #[]) (mvT hZ (hw _ (List.mem_of_getElem? (i := 36) rfl)))) (mvT hZ (hw _ (List.mem_of_getElem? (i := 36) rfl))) (mvT hZ (hw _ (List.mem_of_getElem? (i := 35) rfl))) (by decide) (backOf (W := 0) (rm1 l Z a0 hw [] (W k.toNatClampNeg) r k h71 n0 Zs71 E_k_95 F_a_96 hr0) hZ (hw _ (List.mem_of_getElem? (i := 37) rfl)) (hw _ (List.mem_of_getElem? (i := 3) rfl)) (by decide) (by decide)) q97a q97c (g := (mkF m 171 #[.val (.int p0), .val (.ref b1), .val (.int k), .val (.ref (W k.toNatClampNeg)), .val (.int (1 : Int32))] [(.ref (W k.toNatClampNeg))])) rfl (by rw [hml]; rfl) (Steps.refl _) (argsL := []) (rest := []) (lenOf pd___Z rfl) rfl (by show 2 * 0 + _ ≤ _; exact Nat.le_of_eq rfl) (hb hby at_171) (fun _ _ => ⟨rfl, e71, (by decide : 1 + 0 ≤ _), (by decide : 14 + 0 ≤ _)⟩)
            dsimp only [Pt.U, Pt.locs, Pt.cells, Pt.slots] at X97 l97 y97 z97 st97 hQ97
            subst l97 y97 z97
            obtain ⟨rfl, N97q, e97⟩ := hQ97
            have N97 := Fr.app N71 N97q
            obtain ⟨fs, hr, hrun, hended, hW, hsame⟩ := X97.leave (v := some (.int (1 : Int32))) (fun h => by rw [Bd.returns] at h; cases h)
            refine ⟨_, _, pre93 _ ?_, hrun, hended, _, _, rfl, ?_, ⟨_, rfl⟩, hW, hsame.mono (by decide) (by decide)⟩
            · skip
              show Steps p.tables e below (T71.setTop (mkF m 158 #[.val (.int p0), .val (.ref b1), .val (.int k), .val (.ref (W k.toNatClampNeg)), .unset] [(.int (7 : Int32)), (.int k)])) _
              refine XS.icmpNo X71.here hx rfl (hb hby at_158) rfl (teq hc94).2 ?_
              show Steps p.tables e below (T71.setTop (mkF m 161 #[.val (.int p0), .val (.ref b1), .val (.int k), .val (.ref (W k.toNatClampNeg)), .unset] [])) _
              refine XS.iconst X71.here hx rfl (hb hby at_161) ?_
              show Steps p.tables e below (T71.setTop (mkF m 162 #[.val (.int p0), .val (.ref b1), .val (.int k), .val (.ref (W k.toNatClampNeg)), .unset] [(.int (1 : Int32))])) _
              refine XS.istore X71.here hx rfl (hb hby at_162) rfl (l' := #[.val (.int p0), .val (.ref b1), .val (.int k), .val (.ref (W k.toNatClampNeg)), .val (.int (1 : Int32))]) rfl ?_
              show Steps p.tables e below (T71.setTop (mkF m 164 #[.val (.int p0), .val (.ref b1), .val (.int k), .val (.ref (W k.toNatClampNeg)), .val (.int (1 : Int32))] [])) _
              refine XS.goto X71.here hx rfl (pc0 := 164) (pc' := 170) rfl (hb hby at_164) (by decide) (by decide) ?_
              show Steps p.tables e below (T71.setTop (mkF m 170 #[.val (.int p0), .val (.ref b1), .val (.int k), .val (.ref (W k.toNatClampNeg)), .val (.int (1 : Int32))] [])) _
              refine XS.aloadN X71.here hx rfl (hb hby at_170) rfl rfl ?_
              show Steps p.tables e below (T71.setTop (mkF m 171 #[.val (.int p0), .val (.ref b1), .val (.int k), .val (.ref (W k.toNatClampNeg)), .val (.int (1 : Int32))] [(.ref (W k.toNatClampNeg))])) _
              refine st97.trans ?_
              show Steps p.tables e below (T97.setTop (mkF m 174 #[.val (.int p0), .val (.ref b1), .val (.int k), .val (.ref (W k.toNatClampNeg)), .val (.int (1 : Int32))] [(.int r)])) _
              refine XS.iload X97.here hx rfl (hb hby at_174) rfl ?_
              show Steps p.tables e below (T97.setTop (mkF m 176 #[.val (.int p0), .val (.ref b1), .val (.int k), .val (.ref (W k.toNatClampNeg)), .val (.int (1 : Int32))] [(.int (1 : Int32)), (.int r)])) _
              refine XS.icmpNo X97.here hx rfl (hb hby at_176) rfl (teq (by simp [hr0, hc74, hc79, hc84, hc89, hc94])).2 ?_
              show Steps p.tables e below (T97.setTop (mkF m 179 #[.val (.int p0), .val (.ref b1), .val (.int k), .val (.ref (W k.toNatClampNeg)), .val (.int (1 : Int32))] [])) _
              refine XS.iconst X97.here hx rfl (hb hby at_179) ?_
              show Steps p.tables e below (T97.setTop (mkF m 180 #[.val (.int p0), .val (.ref b1), .val (.int k), .val (.ref (W k.toNatClampNeg)), .val (.int (1 : Int32))] [(.int (1 : Int32))])) _
              refine XS.goto X97.here hx rfl (pc0 := 180) (pc' := 184) rfl (hb hby at_180) (by decide) (by decide) ?_
              show Steps p.tables e below (T97.setTop (mkF m 184 #[.val (.int p0), .val (.ref b1), .val (.int k), .val (.ref (W k.toNatClampNeg)), .val (.int (1 : Int32))] [(.int (1 : Int32))])) _
              exact retN X97 hx (t := .boolean) Bd.returns (by simp) (hb hby at_184) hr
            · exact ⟨(by first | rfl | simp [hc74, hc79, hc84, hc89, hc94]), N97⟩
          · skip
            have E_k_98 := (((((((((((((((E_k.ext E1).wr W6).wr W11).wr W16).wr W21).wr W26).wr W31).wr W36).wr W41).wr W46).wr W51).wr W56).wr W61).wr W66).wr W71)
            have F_a_99 := (((((((((((((((F_a.ext E1).other W6 (Or.inl ne1__W_k_toNatClampNeg_)).other W11 (Or.inl ne1__W_k_toNatClampNeg_)).other W16 (Or.inl ne1__W_k_toNatClampNeg_)).other W21 (Or.inl ne1__W_k_toNatClampNeg_)).other W26 (Or.inl ne1__W_k_toNatClampNeg_)).other W31 (Or.inl ne1__W_k_toNatClampNeg_)).other W36 (Or.inl ne1__W_k_toNatClampNeg_)).other W41 (Or.inl ne1__W_k_toNatClampNeg_)).other W46 (Or.inl ne1__W_k_toNatClampNeg_)).other W51 (Or.inl ne1__W_k_toNatClampNeg_)).other W56 (Or.inl ne1__W_k_toNatClampNeg_)).other W61 (Or.inl ne1__W_k_toNatClampNeg_)).other W66 (Or.inl ne1__W_k_toNatClampNeg_)).other W71 (Or.inl ne1__W_k_toNatClampNeg_))
            obtain ⟨cq100, kq100, q100a, q100b, q100c⟩ := isOf hZ e71 E_k_98
            obtain ⟨_, _, ⟨T100, L100, k100, n100⟩, -, X100, ⟨Lc100, hQ100, l100, y100, z100⟩, st100⟩ := X71.virtualBack hx (y := (⟨"heslar/Element", "isSupplement", "()Z"⟩ : MethodName)) (z := (⟨"heslar/Element", "isSupplement", "()Z"⟩ : MethodName)) hown (mvT hZ (hw _ (List.mem_of_getElem? (i := 33) rfl))) (mvT hZ (hw _ (List.mem_of_getElem? (i := 34) rfl))) (notFace_of_selects (args := #[]) (mvT hZ (hw _ (List.mem_of_getElem? (i := 36) rfl)))) (mvT hZ (hw _ (List.mem_of_getElem? (i := 36) rfl))) (mvT hZ (hw _ (List.mem_of_getElem? (i := 35) rfl))) (by decide) (backOf (W := 0) (rm1 l Z a0 hw [] (W k.toNatClampNeg) r k h71 n0 Zs71 E_k_98 F_a_99 hr0) hZ (hw _ (List.mem_of_getElem? (i := 37) rfl)) (hw _ (List.mem_of_getElem? (i := 3) rfl)) (by decide) (by decide)) q100a q100c (g := (mkF m 171 #[.val (.int p0), .val (.ref b1), .val (.int k), .val (.ref (W k.toNatClampNeg)), .val (.int (0 : Int32))] [(.ref (W k.toNatClampNeg))])) rfl (by rw [hml]; rfl) (Steps.refl _) (argsL := []) (rest := []) (lenOf pd___Z rfl) rfl (by show 2 * 0 + _ ≤ _; exact Nat.le_of_eq rfl) (hb hby at_171) (fun _ _ => ⟨rfl, e71, (by decide : 1 + 0 ≤ _), (by decide : 14 + 0 ≤ _)⟩)
            dsimp only [Pt.U, Pt.locs, Pt.cells, Pt.slots] at X100 l100 y100 z100 st100 hQ100
            subst l100 y100 z100
            obtain ⟨rfl, N100q, e100⟩ := hQ100
            have N100 := Fr.app N71 N100q
            obtain ⟨fs, hr, hrun, hended, hW, hsame⟩ := X100.leave (v := some (.int (1 : Int32))) (fun h => by rw [Bd.returns] at h; cases h)
            refine ⟨_, _, pre93 _ ?_, hrun, hended, _, _, rfl, ?_, ⟨_, rfl⟩, hW, hsame.mono (by decide) (by decide)⟩
            · skip
              show Steps p.tables e below (T71.setTop (mkF m 158 #[.val (.int p0), .val (.ref b1), .val (.int k), .val (.ref (W k.toNatClampNeg)), .unset] [(.int (7 : Int32)), (.int k)])) _
              refine XS.icmpYes X71.here hx rfl (pc0 := 158) (pc' := 167) rfl (hb hby at_158) rfl (feq hc94).2 (by decide) (by decide) ?_
              show Steps p.tables e below (T71.setTop (mkF m 167 #[.val (.int p0), .val (.ref b1), .val (.int k), .val (.ref (W k.toNatClampNeg)), .unset] [])) _
              refine XS.iconst X71.here hx rfl (hb hby at_167) ?_
              show Steps p.tables e below (T71.setTop (mkF m 168 #[.val (.int p0), .val (.ref b1), .val (.int k), .val (.ref (W k.toNatClampNeg)), .unset] [(.int (0 : Int32))])) _
              refine XS.istore X71.here hx rfl (hb hby at_168) rfl (l' := #[.val (.int p0), .val (.ref b1), .val (.int k), .val (.ref (W k.toNatClampNeg)), .val (.int (0 : Int32))]) rfl ?_
              show Steps p.tables e below (T71.setTop (mkF m 170 #[.val (.int p0), .val (.ref b1), .val (.int k), .val (.ref (W k.toNatClampNeg)), .val (.int (0 : Int32))] [])) _
              refine XS.aloadN X71.here hx rfl (hb hby at_170) rfl rfl ?_
              show Steps p.tables e below (T71.setTop (mkF m 171 #[.val (.int p0), .val (.ref b1), .val (.int k), .val (.ref (W k.toNatClampNeg)), .val (.int (0 : Int32))] [(.ref (W k.toNatClampNeg))])) _
              refine st100.trans ?_
              show Steps p.tables e below (T100.setTop (mkF m 174 #[.val (.int p0), .val (.ref b1), .val (.int k), .val (.ref (W k.toNatClampNeg)), .val (.int (0 : Int32))] [(.int r)])) _
              refine XS.iload X100.here hx rfl (hb hby at_174) rfl ?_
              show Steps p.tables e below (T100.setTop (mkF m 176 #[.val (.int p0), .val (.ref b1), .val (.int k), .val (.ref (W k.toNatClampNeg)), .val (.int (0 : Int32))] [(.int (0 : Int32)), (.int r)])) _
              refine XS.icmpNo X100.here hx rfl (hb hby at_176) rfl (teq (by simp [hr0, hc74, hc79, hc84, hc89, hc94])).2 ?_
              show Steps p.tables e below (T100.setTop (mkF m 179 #[.val (.int p0), .val (.ref b1), .val (.int k), .val (.ref (W k.toNatClampNeg)), .val (.int (0 : Int32))] [])) _
              refine XS.iconst X100.here hx rfl (hb hby at_179) ?_
              show Steps p.tables e below (T100.setTop (mkF m 180 #[.val (.int p0), .val (.ref b1), .val (.int k), .val (.ref (W k.toNatClampNeg)), .val (.int (0 : Int32))] [(.int (1 : Int32))])) _
              refine XS.goto X100.here hx rfl (pc0 := 180) (pc' := 184) rfl (hb hby at_180) (by decide) (by decide) ?_
              show Steps p.tables e below (T100.setTop (mkF m 184 #[.val (.int p0), .val (.ref b1), .val (.int k), .val (.ref (W k.toNatClampNeg)), .val (.int (0 : Int32))] [(.int (1 : Int32))])) _
              exact retN X100 hx (t := .boolean) Bd.returns (by simp) (hb hby at_184) hr
            · exact ⟨(by first | rfl | simp [hc74, hc79, hc84, hc89, hc94]), N100⟩
set_option maxRecDepth 65536 in
set_option maxHeartbeats 40000000 in
theorem comes_1 {Post : Tables → Env → Array Value → State → Outcome → State → Prop} (hpost : ∀ tb e args s v u, (limb_1_1.after args s (.returned v) u = true ∧ limb_1_2.after args s (.returned v) u = true ∧ True) → FrameEnd s (.returned v) u (Jvm.fieldLocs frame_1_writes args s ++ Jvm.arrayLocs frame_1_arrays args s ++ Jvm.staticLocs frame_1_statics s) 16 128 → Post tb e args s (.returned v) u) :
    ArmFor flags0 classFile x code maxLocals ret World_1 tables_1 room_1 Calls_1 rest_1 Pre_1 Post := by
  intro l hfl _ _ p e ha hcas hclk s m args below hf hA hF happ hP
  obtain ⟨hcalls, hrest, hpre⟩ := hP
  obtain ⟨-, -, -, hnamed, -, -, -, hat⟩ := (Spec.applies_iff hf).mp happ
  obtain ⟨hg, hn⟩ := and_e (Cond.before_iff.mp (show (Jvm.Cond.and given_1 narrow_1).before args s = true from hpre))
  obtain ⟨g0, hg⟩ := and_e hg
  have g1 := hg
  obtain ⟨w0, rfl⟩ : ∃ w0 : Value, args = #[w0] := by
    have hs : args.size = 1 := by simpa [Cond.value, given_1] using g0
    obtain ⟨L⟩ := args
    match L, hs with
    | [w0], _ => exact ⟨w0, rfl⟩
  have hw := fun d (hd : d ∈ tables_1) => atoms_spec (ws := Jvm.Cond.code x code maxLocals ret :: tables_1) hat d (List.mem_cons_of_mem _ hd)
  have hfit : Fit s := fun {y c} hc i hi => by
    obtain ⟨ha, rfl⟩ := Array.getElem?_eq_some_iff.mp hc
    have q := List.all_eq_true.mp ((Array.all_eq_true_iff_forall_mem.mp hF) _ (Array.getElem_mem ha)) i (List.mem_range.mpr hi)
    simpa [Array.getElem?_eq_getElem hi] using q
  obtain ⟨i0, ei0⟩ := is_v g1
  obtain rfl : w0 = (.int i0) := Option.some.inj ei0
  obtain ⟨m0, hn⟩ := and_e hn
  obtain ⟨m1, hn⟩ := and_e hn
  obtain ⟨m2, hn⟩ := and_e hn
  obtain ⟨m3, hn⟩ := and_e hn
  obtain ⟨m4, hn⟩ := and_e hn
  obtain ⟨m5, hn⟩ := and_e hn
  obtain ⟨m6, hn⟩ := and_e hn
  obtain ⟨m7, hn⟩ := and_e hn
  obtain ⟨m8, hn⟩ := and_e hn
  obtain ⟨m9, hn⟩ := and_e hn
  obtain ⟨m10, hn⟩ := and_e hn
  obtain ⟨m11, hn⟩ := and_e hn
  obtain ⟨m12, hn⟩ := and_e hn
  obtain ⟨m13, hn⟩ := and_e hn
  obtain ⟨m14, hn⟩ := and_e hn
  obtain ⟨m15, hn⟩ := and_e hn
  obtain ⟨m16, hn⟩ := and_e hn
  obtain ⟨m17, hn⟩ := and_e hn
  obtain ⟨m18, hn⟩ := and_e hn
  obtain ⟨m19, hn⟩ := and_e hn
  obtain ⟨m20, hn⟩ := and_e hn
  obtain ⟨m21, hn⟩ := and_e hn
  obtain ⟨m22, hn⟩ := and_e hn
  obtain ⟨m23, hn⟩ := and_e hn
  obtain ⟨m24, hn⟩ := and_e hn
  obtain ⟨m25, hn⟩ := and_e hn
  obtain ⟨m26, hn⟩ := and_e hn
  have m27 := hn
  obtain ⟨w_Element_NM_MAIN, ev_Element_NM_MAIN⟩ := exa_v m0
  have E_Element_NM_MAIN := Exa.start ev_Element_NM_MAIN m0
  have S_Element_NM_MAIN := Sta.start ev_Element_NM_MAIN (Or.inr ⟨(hw _ (List.mem_of_getElem? (i := 3) rfl)), (hw _ (List.mem_of_getElem? (i := 4) rfl))⟩)
  obtain ⟨w_Element_NM_MINOR, ev_Element_NM_MINOR⟩ := exa_v m1
  have E_Element_NM_MINOR := Exa.start ev_Element_NM_MINOR m1
  have S_Element_NM_MINOR := Sta.start ev_Element_NM_MINOR (Or.inr ⟨(hw _ (List.mem_of_getElem? (i := 3) rfl)), (hw _ (List.mem_of_getElem? (i := 7) rfl))⟩)
  obtain ⟨w_Element_NM_SUP_GEN, ev_Element_NM_SUP_GEN⟩ := exa_v m2
  have E_Element_NM_SUP_GEN := Exa.start ev_Element_NM_SUP_GEN m2
  have S_Element_NM_SUP_GEN := Sta.start ev_Element_NM_SUP_GEN (Or.inr ⟨(hw _ (List.mem_of_getElem? (i := 3) rfl)), (hw _ (List.mem_of_getElem? (i := 9) rfl))⟩)
  obtain ⟨w_Element_NM_SUP_GEO, ev_Element_NM_SUP_GEO⟩ := exa_v m3
  have E_Element_NM_SUP_GEO := Exa.start ev_Element_NM_SUP_GEO m3
  have S_Element_NM_SUP_GEO := Sta.start ev_Element_NM_SUP_GEO (Or.inr ⟨(hw _ (List.mem_of_getElem? (i := 3) rfl)), (hw _ (List.mem_of_getElem? (i := 11) rfl))⟩)
  obtain ⟨w_Element_NM_SUP_CHRO, ev_Element_NM_SUP_CHRO⟩ := exa_v m4
  have E_Element_NM_SUP_CHRO := Exa.start ev_Element_NM_SUP_CHRO m4
  have S_Element_NM_SUP_CHRO := Sta.start ev_Element_NM_SUP_CHRO (Or.inr ⟨(hw _ (List.mem_of_getElem? (i := 3) rfl)), (hw _ (List.mem_of_getElem? (i := 13) rfl))⟩)
  obtain ⟨w_Element_NM_ORDER, ev_Element_NM_ORDER⟩ := exa_v m5
  have E_Element_NM_ORDER := Exa.start ev_Element_NM_ORDER m5
  have S_Element_NM_ORDER := Sta.start ev_Element_NM_ORDER (Or.inr ⟨(hw _ (List.mem_of_getElem? (i := 3) rfl)), (hw _ (List.mem_of_getElem? (i := 15) rfl))⟩)
  obtain ⟨w_Element_NM_SUP_DIFF, ev_Element_NM_SUP_DIFF⟩ := exa_v m6
  have E_Element_NM_SUP_DIFF := Exa.start ev_Element_NM_SUP_DIFF m6
  have S_Element_NM_SUP_DIFF := Sta.start ev_Element_NM_SUP_DIFF (Or.inr ⟨(hw _ (List.mem_of_getElem? (i := 3) rfl)), (hw _ (List.mem_of_getElem? (i := 17) rfl))⟩)
  obtain ⟨w_Element_NM_AUTH, ev_Element_NM_AUTH⟩ := exa_v m7
  have E_Element_NM_AUTH := Exa.start ev_Element_NM_AUTH m7
  have S_Element_NM_AUTH := Sta.start ev_Element_NM_AUTH (Or.inr ⟨(hw _ (List.mem_of_getElem? (i := 3) rfl)), (hw _ (List.mem_of_getElem? (i := 19) rfl))⟩)
  obtain ⟨w_Element_NM_TYPE, ev_Element_NM_TYPE⟩ := exa_v m8
  have E_Element_NM_TYPE := Exa.start ev_Element_NM_TYPE m8
  have S_Element_NM_TYPE := Sta.start ev_Element_NM_TYPE (Or.inr ⟨(hw _ (List.mem_of_getElem? (i := 3) rfl)), (hw _ (List.mem_of_getElem? (i := 21) rfl))⟩)
  obtain ⟨w_Element_NM_USED_FROM, ev_Element_NM_USED_FROM⟩ := exa_v m9
  have E_Element_NM_USED_FROM := Exa.start ev_Element_NM_USED_FROM m9
  have S_Element_NM_USED_FROM := Sta.start ev_Element_NM_USED_FROM (Or.inr ⟨(hw _ (List.mem_of_getElem? (i := 3) rfl)), (hw _ (List.mem_of_getElem? (i := 23) rfl))⟩)
  obtain ⟨w_Element_NM_USED_TO, ev_Element_NM_USED_TO⟩ := exa_v m10
  have E_Element_NM_USED_TO := Exa.start ev_Element_NM_USED_TO m10
  have S_Element_NM_USED_TO := Sta.start ev_Element_NM_USED_TO (Or.inr ⟨(hw _ (List.mem_of_getElem? (i := 3) rfl)), (hw _ (List.mem_of_getElem? (i := 25) rfl))⟩)
  obtain ⟨w_Element_NM_DEGREE_PRE, ev_Element_NM_DEGREE_PRE⟩ := exa_v m11
  have E_Element_NM_DEGREE_PRE := Exa.start ev_Element_NM_DEGREE_PRE m11
  have S_Element_NM_DEGREE_PRE := Sta.start ev_Element_NM_DEGREE_PRE (Or.inr ⟨(hw _ (List.mem_of_getElem? (i := 3) rfl)), (hw _ (List.mem_of_getElem? (i := 27) rfl))⟩)
  obtain ⟨w_Element_NM_DEGREE_POST, ev_Element_NM_DEGREE_POST⟩ := exa_v m12
  have E_Element_NM_DEGREE_POST := Exa.start ev_Element_NM_DEGREE_POST m12
  have S_Element_NM_DEGREE_POST := Sta.start ev_Element_NM_DEGREE_POST (Or.inr ⟨(hw _ (List.mem_of_getElem? (i := 3) rfl)), (hw _ (List.mem_of_getElem? (i := 29) rfl))⟩)
  obtain ⟨w_Element_NM_LANG, ev_Element_NM_LANG⟩ := exa_v m13
  have E_Element_NM_LANG := Exa.start ev_Element_NM_LANG m13
  have S_Element_NM_LANG := Sta.start ev_Element_NM_LANG (Or.inr ⟨(hw _ (List.mem_of_getElem? (i := 3) rfl)), (hw _ (List.mem_of_getElem? (i := 31) rfl))⟩)
  have F_Element_NM_MAIN_ordinal := own_fldI ev_Element_NM_MAIN m14
  have F_Element_NM_SUP_GEO_ordinal := own_fldI ev_Element_NM_SUP_GEO m15
  have F_Element_NM_DEGREE_POST_ordinal := own_fldI ev_Element_NM_DEGREE_POST m16
  have F_Element_NM_LANG_ordinal := own_fldI ev_Element_NM_LANG m17
  have F_Element_NM_SUP_CHRO_ordinal := own_fldI ev_Element_NM_SUP_CHRO m18
  have F_Element_NM_AUTH_ordinal := own_fldI ev_Element_NM_AUTH m19
  have F_Element_NM_SUP_GEN_ordinal := own_fldI ev_Element_NM_SUP_GEN m20
  have F_Element_NM_DEGREE_PRE_ordinal := own_fldI ev_Element_NM_DEGREE_PRE m21
  have F_Element_NM_USED_TO_ordinal := own_fldI ev_Element_NM_USED_TO m22
  have F_Element_NM_TYPE_ordinal := own_fldI ev_Element_NM_TYPE m23
  have F_Element_NM_MINOR_ordinal := own_fldI ev_Element_NM_MINOR m24
  have F_Element_NM_USED_FROM_ordinal := own_fldI ev_Element_NM_USED_FROM m25
  have F_Element_NM_ORDER_ordinal := own_fldI ev_Element_NM_ORDER m26
  have F_Element_NM_SUP_DIFF_ordinal := own_fldI ev_Element_NM_SUP_DIFF m27
  obtain ⟨hk0, hk1⟩ := own_mod i0 (14 : Int32) 14 rfl (by decide)
  obtain ⟨k, hk⟩ : ∃ k, (i0 &&& (2147483647 : Int32)) % (14 : Int32) = k := ⟨_, rfl⟩
  rw [hk] at hk0 hk1
  obtain ⟨W, hW⟩ : ∃ W : Nat → Addr, W = (fun n => [w_Element_NM_MAIN, w_Element_NM_MINOR, w_Element_NM_SUP_GEN, w_Element_NM_SUP_GEO, w_Element_NM_SUP_CHRO, w_Element_NM_ORDER, w_Element_NM_SUP_DIFF, w_Element_NM_AUTH, w_Element_NM_TYPE, w_Element_NM_USED_FROM, w_Element_NM_USED_TO, w_Element_NM_DEGREE_PRE, w_Element_NM_DEGREE_POST, w_Element_NM_LANG].getD n 0) := ⟨_, rfl⟩
  have hE : ∀ i, i < 14 → Exa s s.heap (W i) "heslar/Element" := by rw [hW]; exact (fun i hi => match i, hi with | 0, _ => E_Element_NM_MAIN | 1, _ => E_Element_NM_MINOR | 2, _ => E_Element_NM_SUP_GEN | 3, _ => E_Element_NM_SUP_GEO | 4, _ => E_Element_NM_SUP_CHRO | 5, _ => E_Element_NM_ORDER | 6, _ => E_Element_NM_SUP_DIFF | 7, _ => E_Element_NM_AUTH | 8, _ => E_Element_NM_TYPE | 9, _ => E_Element_NM_USED_FROM | 10, _ => E_Element_NM_USED_TO | 11, _ => E_Element_NM_DEGREE_PRE | 12, _ => E_Element_NM_DEGREE_POST | 13, _ => E_Element_NM_LANG | n + 14, h => absurd h (by omega))
  have hF : ∀ i, i < 14 → Fld s s.heap (W i) "java/lang/Enum" "ordinal" "I" (.int (Int32.ofNat i)) := by rw [hW]; exact (fun i hi => match i, hi with | 0, _ => F_Element_NM_MAIN_ordinal | 1, _ => F_Element_NM_MINOR_ordinal | 2, _ => F_Element_NM_SUP_GEN_ordinal | 3, _ => F_Element_NM_SUP_GEO_ordinal | 4, _ => F_Element_NM_SUP_CHRO_ordinal | 5, _ => F_Element_NM_ORDER_ordinal | 6, _ => F_Element_NM_SUP_DIFF_ordinal | 7, _ => F_Element_NM_AUTH_ordinal | 8, _ => F_Element_NM_TYPE_ordinal | 9, _ => F_Element_NM_USED_FROM_ordinal | 10, _ => F_Element_NM_USED_TO_ordinal | 11, _ => F_Element_NM_DEGREE_PRE_ordinal | 12, _ => F_Element_NM_DEGREE_POST_ordinal | 13, _ => F_Element_NM_LANG_ordinal | n + 14, h => absurd h (by omega))
  have hlt := own_clamp hk0 (n := 14) hk1
  have f1 := hF _ hlt
  rw [← own_nat hk0] at f1
  have T_NM_MAIN : Sta s s.heap "heslar/Element" "NM_MAIN" "Lheslar/Element;" (.ref (W 0)) := by rw [hW]; exact S_Element_NM_MAIN
  have T_NM_MINOR : Sta s s.heap "heslar/Element" "NM_MINOR" "Lheslar/Element;" (.ref (W 1)) := by rw [hW]; exact S_Element_NM_MINOR
  have T_NM_SUP_GEN : Sta s s.heap "heslar/Element" "NM_SUP_GEN" "Lheslar/Element;" (.ref (W 2)) := by rw [hW]; exact S_Element_NM_SUP_GEN
  have T_NM_SUP_GEO : Sta s s.heap "heslar/Element" "NM_SUP_GEO" "Lheslar/Element;" (.ref (W 3)) := by rw [hW]; exact S_Element_NM_SUP_GEO
  have T_NM_SUP_CHRO : Sta s s.heap "heslar/Element" "NM_SUP_CHRO" "Lheslar/Element;" (.ref (W 4)) := by rw [hW]; exact S_Element_NM_SUP_CHRO
  have T_NM_ORDER : Sta s s.heap "heslar/Element" "NM_ORDER" "Lheslar/Element;" (.ref (W 5)) := by rw [hW]; exact S_Element_NM_ORDER
  have T_NM_SUP_DIFF : Sta s s.heap "heslar/Element" "NM_SUP_DIFF" "Lheslar/Element;" (.ref (W 6)) := by rw [hW]; exact S_Element_NM_SUP_DIFF
  have T_NM_AUTH : Sta s s.heap "heslar/Element" "NM_AUTH" "Lheslar/Element;" (.ref (W 7)) := by rw [hW]; exact S_Element_NM_AUTH
  have T_NM_TYPE : Sta s s.heap "heslar/Element" "NM_TYPE" "Lheslar/Element;" (.ref (W 8)) := by rw [hW]; exact S_Element_NM_TYPE
  have T_NM_USED_FROM : Sta s s.heap "heslar/Element" "NM_USED_FROM" "Lheslar/Element;" (.ref (W 9)) := by rw [hW]; exact S_Element_NM_USED_FROM
  have T_NM_USED_TO : Sta s s.heap "heslar/Element" "NM_USED_TO" "Lheslar/Element;" (.ref (W 10)) := by rw [hW]; exact S_Element_NM_USED_TO
  have T_NM_DEGREE_PRE : Sta s s.heap "heslar/Element" "NM_DEGREE_PRE" "Lheslar/Element;" (.ref (W 11)) := by rw [hW]; exact S_Element_NM_DEGREE_PRE
  have T_NM_DEGREE_POST : Sta s s.heap "heslar/Element" "NM_DEGREE_POST" "Lheslar/Element;" (.ref (W 12)) := by rw [hW]; exact S_Element_NM_DEGREE_POST
  have T_NM_LANG : Sta s s.heap "heslar/Element" "NM_LANG" "Lheslar/Element;" (.ref (W 13)) := by rw [hW]; exact S_Element_NM_LANG
  obtain ⟨n, o, h1, h2, h3, _, L, rfl, ⟨rfl, N⟩, hq⟩ := rm0 l s _ hw tables_1 i0 k _ W s.heap s.heap.size (Nat.le_refl _) T_NM_MAIN T_NM_MINOR T_NM_SUP_GEN T_NM_SUP_GEO T_NM_SUP_CHRO T_NM_ORDER T_NM_SUP_DIFF T_NM_AUTH T_NM_TYPE T_NM_USED_FROM T_NM_USED_TO T_NM_DEGREE_PRE T_NM_DEGREE_POST T_NM_LANG (hE 0 (by decide)) (hE 1 (by decide)) (hE 2 (by decide)) (hE 3 (by decide)) (hE 4 (by decide)) (hE 5 (by decide)) (hE 6 (by decide)) (hE 7 (by decide)) (hE 8 (by decide)) (hE 9 (by decide)) (hE 10 (by decide)) (hE 11 (by decide)) (hE 12 (by decide)) (hE 13 (by decide)) hk (own_nlt hk0) (own_lt hk1) hlt (hE _ hlt) f1 rfl p e ha hcas hclk s m _ below hf ((Spec.applies_iff_loose hf).mp happ).1 ⟨rfl, State.Warmed39.refl s, rfl⟩ trivial
  refine ⟨n, _, h1, h2, h3, hpost _ _ _ _ _ _ ⟨Cond.after_iff.mpr rfl, Cond.after_iff.mpr (eq_i res_at (Term.int_eval (1)) rfl), trivial⟩ ⟨hq.1, hq.2.1, (hq.2.2.sift fun y hy => Or.inr (N y hy)).mono (by decide) (by decide)⟩⟩
theorem main_1_1 : Claimed_1_1 := comes_1 fun _ _ _ _ _ _ h hF => ⟨h.1, hF⟩
theorem main_1_2 : Claimed_1_2 := comes_1 fun _ _ _ _ _ _ h hF => ⟨h.2.1, hF⟩
end Jvm.Pilot.@@N@@
namespace Jvm.Pilot.@@N@@
open Jvm Jvm.ClassFile Sem Op Lib Jvm.Free Jvm.Stand Jvm.Pilot.@@N@@.Jvm.D
/-! MADE BY PROGRAM (witnessworld.py) out of the Statement's table words and the real class files: 13 classes; the members and pool entries that the words name. The judged class is class 1, her method 1. -/
namespace start1
open Jvm.ClassFile
def u (s : String) : CpInfo := .utf8 (stringToUtf16 s)
/-- a pool by its gaps: so many unusable entries, then the entry; so many at the end -/
def gap : Nat → List CpInfo → List CpInfo
  | 0, r => r
  | n + 1, r => .unusable :: gap n r
def poolList (es : List (Nat × CpInfo)) (last : Nat) : List CpInfo := es.foldr (fun e r => gap e.1 (e.2 :: r)) (gap last [])
def pool (es : List (Nat × CpInfo)) (last : Nat) : Array CpInfo := ⟨poolList es last⟩
def fileOf (pool : Array CpInfo) (this : Nat) (attrs : Array Attribute := #[]) (ms : Array MethodInfo := #[]) (fl : Nat := 33) (sup : Nat := 0) (ifs : Array Nat := #[]) (fds : Array FieldInfo := #[]) : ClassFile where
  minorVersion := 0
  majorVersion := 65
  constantPool := pool
  accessFlags := fl
  thisClass := this
  superClass := sup
  interfaces := ifs
  fields := fds
  methods := ms
  attributes := attrs
def plain (name : String) (sup : Option ClassId) : Class where
  name := name
  kind := .ordinary
  loader := none
  accessFlags := 33
  super := sup
  interfaces := #[]
  cf := none
  fields := #[]
  methods := #[]
  instanceTypes := #[]
  staticTypes := #[]
  resolved := #[]
  callSites := []
  init := .initialized
  statics := none
  mirror := none

def pool0 : Array CpInfo := pool [(5, u "<init>"), (0, u "()V"), (1, .class_ 10), (1, u "java/lang/Object")] 113

def k0m0 : Method := { name := "<init>", desc := "()V", sig := { parameters := [], returnType := none }, accessFlags := 1, code := none }
/-- java/lang/Object -/
def k0 : Class := { plain "java/lang/Object" none with
  accessFlags := 33
  interfaces := #[]
  cf := some (fileOf pool0 8 #[] #[{ accessFlags := 1, nameIndex := 5, descriptorIndex := 6, attributes := #[] }] 33 0 #[] #[])
  fields := #[]
  methods := #[k0m0]
  instanceTypes := #[]
  staticTypes := #[]
  resolved := Array.replicate 124 none
  statics := none }

def pool1 : Array CpInfo := pool [(2, .class_ 4), (1, u "java/lang/Object"), (0, u "<init>"), (0, u "()V"), (0, .class_ 8), (0, u "heslar/Element"), (0, .fieldref 7 10), (0, .nameAndType 11 12), (0, u "NM_MAIN"), (0, u "Lheslar/Element;"), (0, .fieldref 7 14), (0, .nameAndType 15 12), (0, u "NM_MINOR"), (0, .fieldref 7 17), (0, .nameAndType 18 12), (0, u "NM_SUP_GEN"), (0, .fieldref 7 20), (0, .nameAndType 21 12), (0, u "NM_SUP_GEO"), (0, .fieldref 7 23), (0, .nameAndType 24 12), (0, u "NM_SUP_CHRO"), (0, .fieldref 7 26), (0, .nameAndType 27 12), (0, u "NM_ORDER"), (0, .fieldref 7 29), (0, .nameAndType 30 12), (0, u "NM_SUP_DIFF"), (0, .fieldref 7 32), (0, .nameAndType 33 12), (0, u "NM_AUTH"), (0, .fieldref 7 35), (0, .nameAndType 36 12), (0, u "NM_TYPE"), (0, .fieldref 7 38), (0, .nameAndType 39 12), (0, u "NM_USED_FROM"), (0, .fieldref 7 41), (0, .nameAndType 42 12), (0, u "NM_USED_TO"), (0, .fieldref 7 44), (0, .nameAndType 45 12), (0, u "NM_DEGREE_PRE"), (0, .fieldref 7 47), (0, .nameAndType 48 12), (0, u "NM_DEGREE_POST"), (0, .fieldref 7 50), (0, .nameAndType 51 12), (0, u "NM_LANG"), (0, .integer 2147483647), (0, .methodref 7 54), (0, .nameAndType 55 56), (0, u "isSupplement"), (0, u "()Z"), (0, .class_ 58), (0, u "heslar/ElementIsSupplementPinLaw"), (2, u "law"), (0, u "(I)Z")] 5

def k1m0 : Method := { name := "<init>", desc := "()V", sig := { parameters := [], returnType := none }, accessFlags := 1, code := none }
def k1c1 : Code := { maxStack := 4, maxLocals := 5, code := code, exceptionTable := #[], attributes := #[] }
def k1m1 : Method := { name := "law", desc := "(I)Z", sig := { parameters := [.int], returnType := some .boolean }, accessFlags := 9, code := some k1c1 }
/-- heslar/ElementIsSupplementPinLaw -/
def k1 : Class := { plain "heslar/ElementIsSupplementPinLaw" (some 0) with
  accessFlags := 49
  interfaces := #[]
  cf := some (fileOf pool1 57 #[] #[{ accessFlags := 1, nameIndex := 5, descriptorIndex := 6, attributes := #[] }, { accessFlags := 9, nameIndex := 61, descriptorIndex := 62, attributes := #[] }] 49 2 #[] #[])
  fields := #[]
  methods := #[k1m0, k1m1]
  instanceTypes := #[]
  staticTypes := #[]
  resolved := Array.replicate 68 none
  statics := none }

def pool2 : Array CpInfo := pool [(1, .class_ 2), (0, u "java/lang/constant/Constable"), (0, .class_ 4), (0, u "java/lang/Object")] 6

/-- java/lang/constant/Constable -/
def k2 : Class := { plain "java/lang/constant/Constable" (some 0) with
  accessFlags := 1537
  interfaces := #[]
  cf := some (fileOf pool2 1 #[] #[] 1537 3 #[] #[])
  fields := #[]
  methods := #[]
  instanceTypes := #[]
  staticTypes := #[]
  resolved := Array.replicate 11 none
  statics := none }

def pool3 : Array CpInfo := pool [(1, .class_ 2), (0, u "java/lang/Comparable"), (0, .class_ 4), (0, u "java/lang/Object")] 7

/-- java/lang/Comparable -/
def k3 : Class := { plain "java/lang/Comparable" (some 0) with
  accessFlags := 1537
  interfaces := #[]
  cf := some (fileOf pool3 1 #[] #[] 1537 3 #[] #[])
  fields := #[]
  methods := #[]
  instanceTypes := #[]
  staticTypes := #[]
  resolved := Array.replicate 12 none
  statics := none }

def pool4 : Array CpInfo := pool [(1, .class_ 2), (0, u "java/io/Serializable"), (0, .class_ 4), (0, u "java/lang/Object")] 2

/-- java/io/Serializable -/
def k4 : Class := { plain "java/io/Serializable" (some 0) with
  accessFlags := 1537
  interfaces := #[]
  cf := some (fileOf pool4 1 #[] #[] 1537 3 #[] #[])
  fields := #[]
  methods := #[]
  instanceTypes := #[]
  staticTypes := #[]
  resolved := Array.replicate 7 none
  statics := none }

def pool5 : Array CpInfo := pool [(2, .class_ 4), (1, u "java/lang/Enum"), (0, u "name"), (0, u "Ljava/lang/String;"), (0, .fieldref 2 8), (0, .nameAndType 9 10), (0, u "ordinal"), (0, u "I"), (1, .class_ 14), (1, u "java/lang/Object"), (4, u "hash"), (86, .class_ 108), (1, u "java/lang/Enum$EnumDesc"), (2, .class_ 112), (0, u "java/lang/constant/Constable"), (0, .class_ 114), (0, u "java/lang/Comparable"), (0, .class_ 116), (0, u "java/io/Serializable"), (9, u "()I")] 77

def k5c0 : Code := { maxStack := 1, maxLocals := 1, code := jdk_37_method_2_code, exceptionTable := #[], attributes := #[] }
def k5m0 : Method := { name := "ordinal", desc := "()I", sig := { parameters := [], returnType := some .int }, accessFlags := 17, code := some k5c0 }
/-- java/lang/Enum -/
def k5 : Class := { plain "java/lang/Enum" (some 0) with
  accessFlags := 1057
  interfaces := #[2, 3, 4]
  cf := some (fileOf pool5 2 #[.nestMembers #[106]] #[{ accessFlags := 17, nameIndex := 9, descriptorIndex := 126, attributes := #[] }] 1057 12 #[111, 113, 115] #[{ accessFlags := 18, nameIndex := 5, descriptorIndex := 6, attributes := #[] }, { accessFlags := 18, nameIndex := 9, descriptorIndex := 10, attributes := #[] }, { accessFlags := 2, nameIndex := 19, descriptorIndex := 10, attributes := #[] }])
  fields := #[{ name := "name", type := (.object "java/lang/String"), accessFlags := 18, slot := 0, constantValue := 0 }, { name := "ordinal", type := .int, accessFlags := 18, slot := 1, constantValue := 0 }, { name := "hash", type := .int, accessFlags := 2, slot := 2, constantValue := 0 }]
  methods := #[k5m0]
  instanceTypes := #[(.object "java/lang/String"), .int, .int]
  staticTypes := #[]
  resolved := Array.replicate 204 none
  statics := none }

def pool6 : Array CpInfo := pool [(1, .class_ 2), (0, u "heslar/Element"), (2, u "NM_MAIN"), (0, u "Lheslar/Element;"), (2, u "NM_MINOR"), (2, u "NM_SUP_GEN"), (2, u "NM_SUP_GEO"), (2, u "NM_SUP_CHRO"), (2, u "NM_ORDER"), (2, u "NM_SUP_DIFF"), (2, u "NM_AUTH"), (2, u "NM_TYPE"), (2, u "NM_USED_FROM"), (2, u "NM_USED_TO"), (2, u "NM_DEGREE_PRE"), (2, u "NM_DEGREE_POST"), (2, u "NM_LANG"), (2, u "$VALUES"), (0, u "[Lheslar/Element;"), (6, .class_ 58), (1, u "java/lang/Enum"), (6, .methodref 1 66), (0, .nameAndType 67 68), (0, u "ordinal"), (0, u "()I"), (27, u "()Z"), (1, u "isSupplement")] 4

def k6c0 : Code := { maxStack := 1, maxLocals := 1, code := prog_12_method_5_code, exceptionTable := #[], attributes := #[] }
def k6m0 : Method := { name := "isSupplement", desc := "()Z", sig := { parameters := [], returnType := some .boolean }, accessFlags := 0, code := some k6c0 }
/-- heslar/Element -/
def k6 : Class := { plain "heslar/Element" (some 5) with
  accessFlags := 16433
  interfaces := #[]
  cf := some (fileOf pool6 1 #[] #[{ accessFlags := 0, nameIndex := 98, descriptorIndex := 96, attributes := #[] }] 16433 56 #[] #[{ accessFlags := 16409, nameIndex := 5, descriptorIndex := 6, attributes := #[] }, { accessFlags := 16409, nameIndex := 9, descriptorIndex := 6, attributes := #[] }, { accessFlags := 16409, nameIndex := 12, descriptorIndex := 6, attributes := #[] }, { accessFlags := 16409, nameIndex := 15, descriptorIndex := 6, attributes := #[] }, { accessFlags := 16409, nameIndex := 18, descriptorIndex := 6, attributes := #[] }, { accessFlags := 16409, nameIndex := 21, descriptorIndex := 6, attributes := #[] }, { accessFlags := 16409, nameIndex := 24, descriptorIndex := 6, attributes := #[] }, { accessFlags := 16409, nameIndex := 27, descriptorIndex := 6, attributes := #[] }, { accessFlags := 16409, nameIndex := 30, descriptorIndex := 6, attributes := #[] }, { accessFlags := 16409, nameIndex := 33, descriptorIndex := 6, attributes := #[] }, { accessFlags := 16409, nameIndex := 36, descriptorIndex := 6, attributes := #[] }, { accessFlags := 16409, nameIndex := 39, descriptorIndex := 6, attributes := #[] }, { accessFlags := 16409, nameIndex := 42, descriptorIndex := 6, attributes := #[] }, { accessFlags := 16409, nameIndex := 45, descriptorIndex := 6, attributes := #[] }, { accessFlags := 4122, nameIndex := 48, descriptorIndex := 49, attributes := #[] }])
  fields := #[{ name := "NM_MAIN", type := (.object "heslar/Element"), accessFlags := 16409, slot := 0, constantValue := 0 }, { name := "NM_MINOR", type := (.object "heslar/Element"), accessFlags := 16409, slot := 1, constantValue := 0 }, { name := "NM_SUP_GEN", type := (.object "heslar/Element"), accessFlags := 16409, slot := 2, constantValue := 0 }, { name := "NM_SUP_GEO", type := (.object "heslar/Element"), accessFlags := 16409, slot := 3, constantValue := 0 }, { name := "NM_SUP_CHRO", type := (.object "heslar/Element"), accessFlags := 16409, slot := 4, constantValue := 0 }, { name := "NM_ORDER", type := (.object "heslar/Element"), accessFlags := 16409, slot := 5, constantValue := 0 }, { name := "NM_SUP_DIFF", type := (.object "heslar/Element"), accessFlags := 16409, slot := 6, constantValue := 0 }, { name := "NM_AUTH", type := (.object "heslar/Element"), accessFlags := 16409, slot := 7, constantValue := 0 }, { name := "NM_TYPE", type := (.object "heslar/Element"), accessFlags := 16409, slot := 8, constantValue := 0 }, { name := "NM_USED_FROM", type := (.object "heslar/Element"), accessFlags := 16409, slot := 9, constantValue := 0 }, { name := "NM_USED_TO", type := (.object "heslar/Element"), accessFlags := 16409, slot := 10, constantValue := 0 }, { name := "NM_DEGREE_PRE", type := (.object "heslar/Element"), accessFlags := 16409, slot := 11, constantValue := 0 }, { name := "NM_DEGREE_POST", type := (.object "heslar/Element"), accessFlags := 16409, slot := 12, constantValue := 0 }, { name := "NM_LANG", type := (.object "heslar/Element"), accessFlags := 16409, slot := 13, constantValue := 0 }, { name := "$VALUES", type := (.array (.object "heslar/Element")), accessFlags := 4122, slot := 14, constantValue := 0 }]
  methods := #[k6m0]
  instanceTypes := #[(.object "java/lang/String"), .int, .int]
  staticTypes := #[(.object "heslar/Element"), (.object "heslar/Element"), (.object "heslar/Element"), (.object "heslar/Element"), (.object "heslar/Element"), (.object "heslar/Element"), (.object "heslar/Element"), (.object "heslar/Element"), (.object "heslar/Element"), (.object "heslar/Element"), (.object "heslar/Element"), (.object "heslar/Element"), (.object "heslar/Element"), (.object "heslar/Element"), (.array (.object "heslar/Element"))]
  resolved := Array.replicate 103 none
  statics := some 0 }

def pool7 : Array CpInfo := pool [(1, u "java/lang/Cloneable"), (0, .class_ 1), (0, u "java/lang/Object"), (0, .class_ 3)] 3

/-- java/lang/Cloneable -/
def k7 : Class := { plain "java/lang/Cloneable" (some 0) with
  accessFlags := 1537
  interfaces := #[]
  cf := some (fileOf pool7 2 #[] #[] 1537 4 #[] #[])
  fields := #[]
  methods := #[]
  instanceTypes := #[]
  staticTypes := #[]
  resolved := Array.replicate 8 none
  statics := none }

/-- the primitive byte -/
def k8 : Class := { plain "byte" none with kind := .primitive 'B', accessFlags := 0x411 }
/-- [B -/
def k9 : Class := { plain "[B" (some 0) with kind := .array 8 .byte, interfaces := #[7, 4], accessFlags := 1041 }

/-- the primitive int -/
def k10 : Class := { plain "int" none with kind := .primitive 'I', accessFlags := 0x411 }
/-- [I -/
def k11 : Class := { plain "[I" (some 0) with kind := .array 10 .int, interfaces := #[7, 4], accessFlags := 1041 }

/-- [Lheslar/Element; -/
def k12 : Class := { plain "[Lheslar/Element;" (some 0) with kind := .array 6 (.object "heslar/Element"), interfaces := #[7, 4], accessFlags := 1041 }

def heap : Heap := #[{ cls := 6, slots := #[.ref 1, .ref 2, .ref 3, .ref 4, .ref 5, .ref 6, .ref 7, .ref 8, .ref 9, .ref 10, .ref 11, .ref 12, .ref 13, .ref 14, .null], vm := .statics 6 },
  { cls := 6, slots := #[.null, .int 0, .int 0], vm := .none },
  { cls := 6, slots := #[.null, .int 1, .int 0], vm := .none },
  { cls := 6, slots := #[.null, .int 2, .int 0], vm := .none },
  { cls := 6, slots := #[.null, .int 3, .int 0], vm := .none },
  { cls := 6, slots := #[.null, .int 4, .int 0], vm := .none },
  { cls := 6, slots := #[.null, .int 5, .int 0], vm := .none },
  { cls := 6, slots := #[.null, .int 6, .int 0], vm := .none },
  { cls := 6, slots := #[.null, .int 7, .int 0], vm := .none },
  { cls := 6, slots := #[.null, .int 8, .int 0], vm := .none },
  { cls := 6, slots := #[.null, .int 9, .int 0], vm := .none },
  { cls := 6, slots := #[.null, .int 10, .int 0], vm := .none },
  { cls := 6, slots := #[.null, .int 11, .int 0], vm := .none },
  { cls := 6, slots := #[.null, .int 12, .int 0], vm := .none },
  { cls := 6, slots := #[.null, .int 13, .int 0], vm := .none }]
def classes : Array Class := #[k0, k1, k2, k3, k4, k5, k6, k7, k8, k9, k10, k11, k12]
def interned : List (Array UInt16 × Addr) := []
def slotsUsed : Nat := 57
def theMethod : MethodId := ⟨1, 1⟩
def args0 : Array Value := #[.int 5]
def aboutOver (below : List Frame) : State where
  vm := { classes := classes, interned := interned.toArray }
  heap := heap
  slotsUsed := slotsUsed
  threads := #[{ frames := .invoking theMethod args0 :: below }]
def below0 : List Frame := [.native { method := ⟨0, 0⟩, args := #[] }]
def about1 : State := aboutOver below0
def p0 : Program := .bare "" "" ""
def e0 : Env := launch0.env 0 0 0
theorem w_frames : about1.frames = Frame.invoking theMethod args0 :: below0 := rfl
set_option maxRecDepth 65536 in
theorem w_args : argsFit about1.vm theMethod args0 = true := by decide +kernel
set_option maxRecDepth 65536 in
theorem w_heap : heapFits about1 = true := by decide +kernel
set_option maxRecDepth 65536 in
theorem w_runnable : about1.curStatus? = some .runnable := by decide +kernel
set_option maxRecDepth 65536 in
theorem w_alone : about1.alone = true := by decide +kernel
set_option maxRecDepth 65536 in
theorem w_named : about1.methodNamed? x = some theMethod := by decide +kernel
set_option maxRecDepth 65536 in
theorem w_hears : about1.hears theMethod below0 = true := by decide +kernel
set_option maxRecDepth 65536 in
theorem w_ripe : about1.ripe theMethod args0 below0 = true := by decide +kernel
theorem w_running : about1.status = .running := rfl
set_option maxRecDepth 65536 in
theorem w_room : about1.hasRoom e0.platform room_1 = true :=
  launch0.hasRoom_least _ room_1 (by decide +kernel) (by decide +kernel) (by decide +kernel) (by decide +kernel) (by decide +kernel) (by decide +kernel)
theorem allAtoms_all (ts : List Jvm.Cond) (a : Array Jvm.Value) (st : Jvm.State) : (allAtoms ts).before a st = ts.all (fun c => c.before a st) := by
  induction ts with
  | nil => rfl
  | cons c t ih =>
    show (Jvm.Cond.and c (allAtoms t)).before a st = _
    rw [Jvm.Cond.before_and, ih, List.all_cons]
def words1 : List Jvm.Cond := Jvm.Cond.code x code maxLocals ret :: tables_1
/-- a 'code' word, met by the world's own term for the bytes: nothing is compared byte by byte -/
theorem code_word {y : MethodName} {bytes : ByteArray} {mx : Nat} {rt : Option FieldType} {a : Array Value} {s : State} {m : MethodId} {meth : Method} {c : Code} (h1 : s.methodNamed? y = some m) (h2 : s.vm.method? m = some meth) (h3 : meth.code = some c) (h4 : c.code = bytes)
    (h5 : (c.maxLocals == mx && c.exceptionTable.isEmpty && decide (c.maxStack ≤ mostOperands) && decide (meth.sig.returnType = rt) && !meth.locks && decide (parseMethodDescriptor y.desc = some meth.sig)) = true) : (Jvm.Cond.code y bytes mx rt).before a s = true := by
  simp only [Bool.and_eq_true, beq_iff_eq, Bool.not_eq_true', decide_eq_true_eq] at h5
  obtain ⟨⟨⟨⟨⟨g1, g2⟩, g3⟩, g4⟩, g5⟩, g6⟩ := h5
  simp [Cond.before, Cond.holds, Cond.value, h1, h2, h3, h4, g1, g2, g3, g4, g5, g6]
def isCode : Jvm.Cond → Bool
  | .code _ _ _ _ => true
  | _ => false
theorem all_split {L : List Jvm.Cond} {P : Jvm.Cond → Bool} (h1 : L.all (fun c => isCode c || P c) = true) (h2 : ∀ c ∈ L.filter isCode, P c = true) : L.all P = true := by
  refine List.all_eq_true.mpr fun c hc => ?_
  have h := List.all_eq_true.mp h1 c hc
  rcases Bool.eq_false_or_eq_true (isCode c) with hi | hi
  · exact h2 c (List.mem_filter.mpr ⟨hc, hi⟩)
  · simpa [hi] using h
set_option maxRecDepth 65536 in
theorem w_c0 : (Jvm.Cond.code x code maxLocals ret).before args0 about1 = true := code_word (m := ⟨1, 1⟩) (meth := k1m1) (c := k1c1) (by decide +kernel) rfl rfl rfl (by decide +kernel)
set_option maxRecDepth 65536 in
theorem w_c1 : (Jvm.Cond.code ({ cls := "heslar/Element", name := "isSupplement", desc := "()Z" } : Jvm.MethodName) prog_12_method_5_code (1 : Nat) (Option.some Jvm.ClassFile.FieldType.boolean)).before args0 about1 = true := code_word (m := ⟨6, 0⟩) (meth := k6m0) (c := k6c0) (by decide +kernel) rfl rfl rfl (by decide +kernel)
set_option maxRecDepth 65536 in
theorem w_c2 : (Jvm.Cond.code ({ cls := "java/lang/Enum", name := "ordinal", desc := "()I" } : Jvm.MethodName) jdk_37_method_2_code (1 : Nat) (Option.some Jvm.ClassFile.FieldType.int)).before args0 about1 = true := code_word (m := ⟨5, 0⟩) (meth := k5m0) (c := k5c0) (by decide +kernel) rfl rfl rfl (by decide +kernel)
def codes1 : List Jvm.Cond := [Jvm.Cond.code x code maxLocals ret, Jvm.Cond.code ({ cls := "heslar/Element", name := "isSupplement", desc := "()Z" } : Jvm.MethodName) prog_12_method_5_code (1 : Nat) (Option.some Jvm.ClassFile.FieldType.boolean), Jvm.Cond.code ({ cls := "java/lang/Enum", name := "ordinal", desc := "()I" } : Jvm.MethodName) jdk_37_method_2_code (1 : Nat) (Option.some Jvm.ClassFile.FieldType.int)]
set_option maxRecDepth 65536 in
theorem codes_eq : words1.filter isCode = codes1 := rfl
theorem w_codes : ∀ c ∈ words1.filter isCode, c.before args0 about1 = true := by
  rw [codes_eq]
  intro c hc
  simp only [codes1, List.mem_cons, List.not_mem_nil, or_false] at hc
  rcases hc with rfl | rfl | rfl
  · exact w_c0
  · exact w_c1
  · exact w_c2
set_option maxRecDepth 65536 in
theorem w_t1 : (words1.take 24).all (fun c => isCode c || c.before args0 about1) = true := by decide +kernel
set_option maxRecDepth 65536 in
theorem w_t2 : (words1.drop 24).all (fun c => isCode c || c.before args0 about1) = true := by decide +kernel
theorem w_tables : (allAtoms (Jvm.Cond.code x code maxLocals ret :: tables_1)).before args0 about1 = true := by
  rw [allAtoms_all]
  show words1.all (fun c => c.before args0 about1) = true
  refine all_split ?_ w_codes
  rw [← List.take_append_drop 24 words1, List.all_append, w_t1, w_t2]
  rfl
set_option maxRecDepth 65536 in
theorem w_case : (Jvm.Cond.and given_1 narrow_1).before args0 about1 = true := by decide +kernel
theorem w_applies : (headSpec (Jvm.Cond.code x code maxLocals ret :: tables_1) room_1).applies x e0.platform about1 = true :=
  (Spec.applies_iff w_frames).mpr ⟨w_running, w_runnable, w_alone, w_named, w_hears, w_ripe, w_room, w_tables⟩
theorem atStart : AtStart classFile x code maxLocals ret World_1 tables_1 room_1 Calls_1 rest_1 Pre_1 launch0 p0 e0 about1 theMethod args0 below0 :=
  ⟨lists_1, trivial, launch0.admits_env _ _ _, launch0.least_env, fairChoices_fair.cas, fairChoices_fair.clock, w_frames, w_args, w_heap, w_applies, trivial, trivial, w_case⟩
end start1
theorem witness_1 : WitnessClaimed_1 := ⟨start1.p0, start1.e0, start1.about1, start1.theMethod, start1.args0, start1.below0, start1.atStart⟩
end Jvm.Pilot.@@N@@
