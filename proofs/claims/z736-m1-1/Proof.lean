import JvmDerived
import JvmDerived.Pilot.@@N@@Statement
import JvmDerived.Pilot.@@N@@Code
set_option linter.unusedVariables false
set_option linter.unusedSimpArgs false
namespace Jvm.RoadKit
open Sem ClassFile Op Lib Jvm.Stand Jvm.Free Jvm.LawKit
section New
variable {p : Program} {l : Launch} {e : Env} {R : Room} {s : State} {m : MethodId} {args : Array Value} {below : List Frame} {meth : Method} {c : Code} {T : State} {locs : List Loc} {cells slots : Nat}
theorem retI (X : Stand p l e R s m args below meth c T locs cells slots) (hx : p.tables.exec = Jvm.exec) {pc : Nat} {Ls : Array Slot} {z : Int32} {rest : List Value} (hret : meth.sig.returnType = some .int) (hd : decode c.code pc = .ok (.ireturn, 1)) {fs : List Frame}
    (hl : ∀ (f : JFrame) (acts : List Action), f.method = m → f.locked = none → f.entered = [] → (doReturn e (T.setTop f) acts (some (.int z))).1 = T.setFrames fs) : Steps p.tables e below (T.setTop (mkF m pc Ls (.int z :: rest))) (T.setFrames fs) := by
  have hm' : T.vm.method? m = some meth := X.method'
  have hn : narrow .int (.int z) = .int z := rfl
  show Steps p.tables e below (T.setTop { method := m, pc := pc, locals := Ls, stack := _ :: rest, locked := none }) _
  jvm_step X.here [X.here.top, hx, hd, hm', hret, hn]
  first | (intro acts; rw [hl _ acts rfl rfl rfl]) | rw [hl _ _ rfl rfl rfl]
  exact Steps.refl _
end New
end Jvm.RoadKit
namespace Jvm.Pilot.@@N@@
open Jvm Jvm.ClassFile Sem Op Lib Jvm.Free Jvm.Stand Jvm.LawKit Jvm.RoadKit Bundle Jvm.Pilot.@@N@@.Jvm.D
theorem own_mod (x d : Int32) (D : Int) (hd : d.toInt = D) (h : 0 < D) : 0 ≤ ((x &&& (2147483647 : Int32)) % d).toInt ∧ ((x &&& (2147483647 : Int32)) % d).toInt < D := by
  have h1 := (c_and x 2147483647 (by decide)).1
  have h2 := (c_irem (x &&& 2147483647) d D hd).1 h1
  rw [h2]; exact ⟨Int.emod_nonneg _ (by omega), Int.emod_lt_of_pos _ h⟩
theorem own_nat {k : Int32} (h : 0 ≤ k.toInt) : k = Int32.ofNat k.toNatClampNeg := by
  apply Int32.toInt_inj.mp
  have e : (k.toNatClampNeg : Int) = k.toInt := by simp only [Int32.toNatClampNeg]; omega
  have b : k.toInt < 2147483648 := by have := k.toInt_lt; omega
  rw [Int32.toInt_ofNat_of_lt (by omega)]; omega
theorem own_clamp {k : Int32} (h : 0 ≤ k.toInt) {n : Nat} (hn : k.toInt < n) : k.toNatClampNeg < n := by
  simp only [Int32.toNatClampNeg]; omega
theorem own_clamp_of {j : Nat} (h : j < 2147483648) : (Int32.ofNat j).toNatClampNeg = j := by
  have e : (Int32.ofNat j).toInt = j := Int32.toInt_ofNat_of_lt h
  simp only [Int32.toNatClampNeg, e]; omega
theorem own_nei {x k : Int32} {z : Int} (h : ¬ x = k) (hk : k.toInt = z) : x.toInt ≠ z := fun e => h (Int32.toInt_inj.mp (e.trans hk.symm))
theorem own_eqi {x k : Int32} {z : Int} (h : x.toInt = z) (hk : k.toInt = z) : x = k := Int32.toInt_inj.mp (h.trans hk.symm)
theorem own_sta_keep {Z : State} {h h' : Heap} {C n d : String} {v : Value} {ws : List Addr} (F : Sta Z h C n d v) (K : Keep h h' ws) (q : ∀ a ∈ ws, ∃ c : Cell, h[a]? = some c ∧ c.vm.isStatics = false) : Sta Z h' C n d v := by
  obtain ⟨cf, i, k, f, st, cell, h1, h2, h3, h4, h5, h6, h7⟩ := F
  refine ⟨cf, i, k, f, st, cell, h1, h2, h3, h4, K.2.1 st cell h5 (fun hm => ?_), h6, h7⟩
  obtain ⟨c, e1, e2⟩ := q st hm
  cases h5.symm.trans e1
  rw [e2] at h6; cases h6
theorem own_ns {Z : State} {h : Heap} {C : String} {a : Addr} (E : Exa Z h a C) : ∃ c : Cell, h[a]? = some c ∧ c.vm.isStatics = false := by
  obtain ⟨c, k, h1, -, -, h4, -⟩ := E
  exact ⟨c, h1, h4⟩
def QL (n0 : Nat) (v : Option Value) (h : Heap) (L : List Loc) : Prop := v = some (.int (1 : Int32)) ∧ Fr n0 L
def QR (r : Value) (h0 : Heap) (n0 : Nat) (v : Option Value) (h : Heap) (L : List Loc) : Prop := v = some r ∧ Fr n0 L ∧ h = h0
theorem own_fldI {args : Array Value} {s : State} {t : Term} {C n d : String} {a : Addr} {k : Int32} (ht : t.eval args s none [] s = some (.ref a)) (h : (Jvm.Cond.eq (.field t C n d) (.int k)).value args s none s [] = some true) : Fld s s.heap a C n d (.int k) := by
  obtain ⟨u, w, e1, e2, k1, k2⟩ := cmp_v (Or.inl h)
  obtain rfl : w = .int k := (Option.some.inj (e2.symm.trans (Term.int_eval k)))
  obtain ⟨z, rfl⟩ := k2
  have hz : z = k := by simpa [Cond.value, e1, e2] using h
  subst hz
  rw [fld_at ht] at e1
  exact Fld.start e1
theorem own_fldR {args : Array Value} {s : State} {t u : Term} {C n d : String} {a b : Addr} (ht : t.eval args s none [] s = some (.ref a)) (hu : u.eval args s none [] s = some (.ref b)) (h : (Jvm.Cond.eq (.field t C n d) u).value args s none s [] = some true) : Fld s s.heap a C n d (.ref b) := by
  cases e1 : (Term.field t C n d).eval args s none [] s with
  | none => simp [Cond.value, e1] at h
  | some x =>
    have hx : x = .ref b := by
      cases x <;> simp [Cond.value, e1, hu] at h
      exact congrArg Value.ref h
    subst hx
    rw [fld_at ht] at e1
    exact Fld.start e1
theorem own_nlt {k : Int32} (h : 0 ≤ k.toInt) : ¬ k < 0 := by rw [Int32.lt_iff_toInt_lt]; show ¬ k.toInt < 0; omega
theorem own_lt {k : Int32} (h : k.toInt < 17) : k < 17 := by rw [Int32.lt_iff_toInt_lt]; exact h
theorem own_get (W : Nat → Addr) : ∀ j, j < 17 → ([(.ref (W 0)), (.ref (W 1)), (.ref (W 2)), (.ref (W 3)), (.ref (W 4)), (.ref (W 5)), (.ref (W 6)), (.ref (W 7)), (.ref (W 8)), (.ref (W 9)), (.ref (W 10)), (.ref (W 11)), (.ref (W 12)), (.ref (W 13)), (.ref (W 14)), (.ref (W 15)), (.ref (W 16))] : List Value).getD j .null = .ref (W j) := (fun i hi => match i, hi with | 0, _ => rfl | 1, _ => rfl | 2, _ => rfl | 3, _ => rfl | 4, _ => rfl | 5, _ => rfl | 6, _ => rfl | 7, _ => rfl | 8, _ => rfl | 9, _ => rfl | 10, _ => rfl | 11, _ => rfl | 12, _ => rfl | 13, _ => rfl | 14, _ => rfl | 15, _ => rfl | 16, _ => rfl | n + 17, h => absurd h (by omega))
theorem d1_0 : decode prog_61_method_5_code 0 = .ok (.iload_n 1, 1) := by decide +kernel
theorem d1_1 : decode prog_61_method_5_code 1 = .ok (.aload_n 0, 1) := by decide +kernel
theorem d1_2 : decode prog_61_method_5_code 2 = .ok (.getfield 74, 3) := by decide +kernel
theorem d1_5 : decode prog_61_method_5_code 5 = .ok (.if_icmp .lt 15, 3) := by decide +kernel
theorem d1_20 : decode prog_61_method_5_code 20 = .ok (.iconst 0, 1) := by decide +kernel
theorem d1_21 : decode prog_61_method_5_code 21 = .ok (.ireturn, 1) := by decide +kernel
theorem d1_8 : decode prog_61_method_5_code 8 = .ok (.iload_n 1, 1) := by decide +kernel
theorem d1_9 : decode prog_61_method_5_code 9 = .ok (.aload_n 0, 1) := by decide +kernel
theorem d1_10 : decode prog_61_method_5_code 10 = .ok (.getfield 78, 3) := by decide +kernel
theorem d1_13 : decode prog_61_method_5_code 13 = .ok (.if_icmp .gt 7, 3) := by decide +kernel
theorem d1_16 : decode prog_61_method_5_code 16 = .ok (.iconst 1, 1) := by decide +kernel
theorem d1_17 : decode prog_61_method_5_code 17 = .ok (.goto 4, 3) := by decide +kernel
theorem pn_1 : plainName "com/example/statewise/statewise/SheetFunction" = true := by first | (simp [plainName, overriddenIn]; done) | decide +kernel
theorem ef_rm1 (m : MethodId) (x0 : Addr) (x1 : Int32) : entryFrame m #[(.ref x0), (.int x1)] 2 = mkF m 0 #[.val (.ref x0), .val (.int x1)] [] := by first | (simp [entryFrame, mkF, argsToLocals, Value.category]; done) | rfl
set_option maxRecDepth 65536 in
set_option maxHeartbeats 40000000 in
theorem rm1 (l : Launch) (Z : State) (a0 : Array Value) (hw : ∀ d ∈ tables_1, d.before a0 Z = true) (ws : List Jvm.Cond) (o0 : Addr) (p1 : Int32) (r a b : Int32) (h0 : Heap) (n0 : Nat) (Z0 : n0 ≤ h0.size) (F_f : Fld Z h0 o0 "com/example/statewise/statewise/SheetFunction" "fewest" "I" (.int a)) (F_m : Fld Z h0 o0 "com/example/statewise/statewise/SheetFunction" "most" "I" (.int b)) (hr0 : r = if p1 < a then 0 else if b < p1 then 0 else 1) :
    MetFree l (⟨"com/example/statewise/statewise/SheetFunction", "takes", "(I)Z"⟩ : MethodName) (head1 (Jvm.Cond.code (⟨"com/example/statewise/statewise/SheetFunction", "takes", "(I)Z"⟩ : MethodName) prog_61_method_5_code 2 (some .boolean) :: ws) ({ frames := 0, cells := 0, slots := 0, locals := 0 } : Room)) (fun a U => a = #[(.ref o0), (.int p1)] ∧ Z.Warmed39 U.vm ∧ U.heap = h0) (fun _ _ _ _ _ => True) (fun _ U o U' => ∃ v L, o = .returned v ∧ QR (.int r) h0 n0 v U'.heap L ∧ FrameEnd U o U' L ({ frames := 0, cells := 0, slots := 0, locals := 0 } : Room).cells ({ frames := 0, cells := 0, slots := 0, locals := 0 } : Room).slots) := by
  refine MetFree.of_bodySF (plainFor_of_name pn_1) hisR ?_
  intro p e s m args below meth c s₁ Bd hml0 hP hK
  obtain ⟨rfl, hZ, hh⟩ := hP
  have hx := Bd.exec
  have hby := Bd.bytes
  have hml : c.maxLocals = 2 := hml0
  have hown : s.vm.findClass "com/example/statewise/statewise/SheetFunction" = some m.cls := findClass_of_methodNamed Bd.named
  have hnm := (name_of_methodNamed Bd.named Bd.method).1
  have X0 : Stand p l e ({ frames := 0, cells := 0, slots := 0, locals := 0 } : Room) s m #[(.ref o0), (.int p1)] below meth c s₁ [] 0 0 := Stand.of_body Bd
  have e0 : s₁.heap = h0 := by rw [← hh, Bd.state]; rfl
  have N0 := Fr.nil n0
  have pre0 : ∀ t, Steps p.tables e below (s₁.setTop (mkF m 0 #[.val (.ref o0), .val (.int p1)] [])) t → Steps p.tables e below (s₁.setTop (entryFrame m #[(.ref o0), (.int p1)] 2)) t := fun t k => castTop (ef_rm1 m o0 p1) k
  obtain ⟨T1, X1, e1, st1⟩ := getF X0 hx hZ hown (host := "") (Or.inl (hw _ (List.mem_of_getElem? (i := 61) rfl))) Via.refl e0 F_f (g := (mkF m 2 #[.val (.ref o0), .val (.int p1)] [(.ref o0), (.int p1)])) rfl rfl (hb hby d1_2)
  have pre2 : ∀ t, Steps p.tables e below (T1.setTop (mkF m 5 #[.val (.ref o0), .val (.int p1)] [(.int a), (.int p1)])) t → Steps p.tables e below (s₁.setTop (entryFrame m #[(.ref o0), (.int p1)] 2)) t := by
    intro t kt
    refine pre0 t ?_
    show Steps p.tables e below (s₁.setTop (mkF m 0 #[.val (.ref o0), .val (.int p1)] [])) _
    refine XS.iloadN X0.here hx rfl (hb hby d1_0) rfl ?_
    show Steps p.tables e below (s₁.setTop (mkF m 1 #[.val (.ref o0), .val (.int p1)] [(.int p1)])) _
    refine XS.aloadN X0.here hx rfl (hb hby d1_1) rfl rfl ?_
    show Steps p.tables e below (s₁.setTop (mkF m 2 #[.val (.ref o0), .val (.int p1)] [(.ref o0), (.int p1)])) _
    refine st1 _ ?_
    exact kt
  by_cases hc3 : p1 < a
  · skip
    obtain ⟨fs, hr, hrun, hended, hW, hsame⟩ := X1.leave (v := some (.int (0 : Int32))) (fun h => by rw [Bd.returns] at h; cases h)
    refine ⟨_, _, pre2 _ ?_, hrun, hended, _, _, rfl, ?_, ⟨_, rfl⟩, hW, hsame.mono (by decide) (by decide)⟩
    · skip
      show Steps p.tables e below (T1.setTop (mkF m 5 #[.val (.ref o0), .val (.int p1)] [(.int a), (.int p1)])) _
      refine XS.icmpYes X1.here hx rfl (pc0 := 5) (pc' := 20) rfl (hb hby d1_5) rfl (tlt hc3).1 (by decide) (by decide) ?_
      show Steps p.tables e below (T1.setTop (mkF m 20 #[.val (.ref o0), .val (.int p1)] [])) _
      refine XS.iconst X1.here hx rfl (hb hby d1_20) ?_
      show Steps p.tables e below (T1.setTop (mkF m 21 #[.val (.ref o0), .val (.int p1)] [(.int (0 : Int32))])) _
      exact retN X1 hx (t := .boolean) Bd.returns (by simp) (hb hby d1_21) hr
    · show QR (.int r) h0 n0 _ T1.heap _
      rw [e1]
      exact ⟨(by first | rfl | simp [hc3, hr0]), N0, rfl⟩
  · skip
    obtain ⟨T4, X4, e4, st4⟩ := getF X1 hx hZ hown (host := "") (Or.inl (hw _ (List.mem_of_getElem? (i := 63) rfl))) Via.refl e1 F_m (g := (mkF m 10 #[.val (.ref o0), .val (.int p1)] [(.ref o0), (.int p1)])) rfl rfl (hb hby d1_10)
    have pre5 : ∀ t, Steps p.tables e below (T4.setTop (mkF m 13 #[.val (.ref o0), .val (.int p1)] [(.int b), (.int p1)])) t → Steps p.tables e below (s₁.setTop (entryFrame m #[(.ref o0), (.int p1)] 2)) t := by
      intro t kt
      refine pre2 t ?_
      show Steps p.tables e below (T1.setTop (mkF m 5 #[.val (.ref o0), .val (.int p1)] [(.int a), (.int p1)])) _
      refine XS.icmpNo X1.here hx rfl (hb hby d1_5) rfl (flt hc3).1 ?_
      show Steps p.tables e below (T1.setTop (mkF m 8 #[.val (.ref o0), .val (.int p1)] [])) _
      refine XS.iloadN X1.here hx rfl (hb hby d1_8) rfl ?_
      show Steps p.tables e below (T1.setTop (mkF m 9 #[.val (.ref o0), .val (.int p1)] [(.int p1)])) _
      refine XS.aloadN X1.here hx rfl (hb hby d1_9) rfl rfl ?_
      show Steps p.tables e below (T1.setTop (mkF m 10 #[.val (.ref o0), .val (.int p1)] [(.ref o0), (.int p1)])) _
      refine st4 _ ?_
      exact kt
    by_cases hc6 : b < p1
    · skip
      obtain ⟨fs, hr, hrun, hended, hW, hsame⟩ := X4.leave (v := some (.int (0 : Int32))) (fun h => by rw [Bd.returns] at h; cases h)
      refine ⟨_, _, pre5 _ ?_, hrun, hended, _, _, rfl, ?_, ⟨_, rfl⟩, hW, hsame.mono (by decide) (by decide)⟩
      · skip
        show Steps p.tables e below (T4.setTop (mkF m 13 #[.val (.ref o0), .val (.int p1)] [(.int b), (.int p1)])) _
        refine XS.icmpYes X4.here hx rfl (pc0 := 13) (pc' := 20) rfl (hb hby d1_13) rfl (tlt hc6).2.2.1 (by decide) (by decide) ?_
        show Steps p.tables e below (T4.setTop (mkF m 20 #[.val (.ref o0), .val (.int p1)] [])) _
        refine XS.iconst X4.here hx rfl (hb hby d1_20) ?_
        show Steps p.tables e below (T4.setTop (mkF m 21 #[.val (.ref o0), .val (.int p1)] [(.int (0 : Int32))])) _
        exact retN X4 hx (t := .boolean) Bd.returns (by simp) (hb hby d1_21) hr
      · show QR (.int r) h0 n0 _ T4.heap _
        rw [e4]
        exact ⟨(by first | rfl | simp [hc3, hc6, hr0]), N0, rfl⟩
    · skip
      obtain ⟨fs, hr, hrun, hended, hW, hsame⟩ := X4.leave (v := some (.int (1 : Int32))) (fun h => by rw [Bd.returns] at h; cases h)
      refine ⟨_, _, pre5 _ ?_, hrun, hended, _, _, rfl, ?_, ⟨_, rfl⟩, hW, hsame.mono (by decide) (by decide)⟩
      · skip
        show Steps p.tables e below (T4.setTop (mkF m 13 #[.val (.ref o0), .val (.int p1)] [(.int b), (.int p1)])) _
        refine XS.icmpNo X4.here hx rfl (hb hby d1_13) rfl (flt hc6).2.2.1 ?_
        show Steps p.tables e below (T4.setTop (mkF m 16 #[.val (.ref o0), .val (.int p1)] [])) _
        refine XS.iconst X4.here hx rfl (hb hby d1_16) ?_
        show Steps p.tables e below (T4.setTop (mkF m 17 #[.val (.ref o0), .val (.int p1)] [(.int (1 : Int32))])) _
        refine XS.goto X4.here hx rfl (pc0 := 17) (pc' := 21) rfl (hb hby d1_17) (by decide) (by decide) ?_
        show Steps p.tables e below (T4.setTop (mkF m 21 #[.val (.ref o0), .val (.int p1)] [(.int (1 : Int32))])) _
        exact retN X4 hx (t := .boolean) Bd.returns (by simp) (hb hby d1_21) hr
      · show QR (.int r) h0 n0 _ T4.heap _
        rw [e4]
        exact ⟨(by first | rfl | simp [hc3, hc6, hr0]), N0, rfl⟩
theorem pd__I_Z : parseMethodDescriptor "(I)Z" = some ⟨[.int], some .boolean⟩ := by decide +kernel
theorem pn_0 : plainName "com/example/statewise/statewise/SheetFunctionTakesPinLaw" = true := by first | (simp [plainName, overriddenIn]; done) | decide +kernel
theorem ef_rm0 (m : MethodId) (x0 : Int32) (x1 : Int32) : entryFrame m #[(.int x0), (.int x1)] maxLocals = mkF m 0 #[.val (.int x0), .val (.int x1), .unset, .unset, .unset, .unset, .unset, .unset, .unset, .unset, .unset] [] := by first | (simp [entryFrame, mkF, argsToLocals, Value.category, maxLocals]; done) | rfl
set_option maxRecDepth 65536 in
set_option maxHeartbeats 40000000 in
theorem rm0 (l : Launch) (Z : State) (a0 : Array Value) (hw : ∀ d ∈ tables_1, d.before a0 Z = true) (ws : List Jvm.Cond) (p0 : Int32) (p1 : Int32) (k a b r0 : Int32) (CK : String) (W : Nat → Addr) (h0 : Heap) (n0 : Nat) (Z0 : n0 ≤ h0.size) (S_SUM : Sta Z h0 "com/example/statewise/statewise/SheetFunction" "SUM" "Lcom/example/statewise/statewise/SheetFunction;" (.ref (W 0))) (S_AVERAGE : Sta Z h0 "com/example/statewise/statewise/SheetFunction" "AVERAGE" "Lcom/example/statewise/statewise/SheetFunction;" (.ref (W 1))) (S_MIN : Sta Z h0 "com/example/statewise/statewise/SheetFunction" "MIN" "Lcom/example/statewise/statewise/SheetFunction;" (.ref (W 2))) (S_MAX : Sta Z h0 "com/example/statewise/statewise/SheetFunction" "MAX" "Lcom/example/statewise/statewise/SheetFunction;" (.ref (W 3))) (S_COUNT : Sta Z h0 "com/example/statewise/statewise/SheetFunction" "COUNT" "Lcom/example/statewise/statewise/SheetFunction;" (.ref (W 4))) (S_COUNTA : Sta Z h0 "com/example/statewise/statewise/SheetFunction" "COUNTA" "Lcom/example/statewise/statewise/SheetFunction;" (.ref (W 5))) (S_ROUND : Sta Z h0 "com/example/statewise/statewise/SheetFunction" "ROUND" "Lcom/example/statewise/statewise/SheetFunction;" (.ref (W 6))) (S_ABS : Sta Z h0 "com/example/statewise/statewise/SheetFunction" "ABS" "Lcom/example/statewise/statewise/SheetFunction;" (.ref (W 7))) (S_IF : Sta Z h0 "com/example/statewise/statewise/SheetFunction" "IF" "Lcom/example/statewise/statewise/SheetFunction;" (.ref (W 8))) (S_AND : Sta Z h0 "com/example/statewise/statewise/SheetFunction" "AND" "Lcom/example/statewise/statewise/SheetFunction;" (.ref (W 9))) (S_OR : Sta Z h0 "com/example/statewise/statewise/SheetFunction" "OR" "Lcom/example/statewise/statewise/SheetFunction;" (.ref (W 10))) (S_NOT : Sta Z h0 "com/example/statewise/statewise/SheetFunction" "NOT" "Lcom/example/statewise/statewise/SheetFunction;" (.ref (W 11))) (S_SUMIF : Sta Z h0 "com/example/statewise/statewise/SheetFunction" "SUMIF" "Lcom/example/statewise/statewise/SheetFunction;" (.ref (W 12))) (S_VLOOKUP : Sta Z h0 "com/example/statewise/statewise/SheetFunction" "VLOOKUP" "Lcom/example/statewise/statewise/SheetFunction;" (.ref (W 13))) (S_CONCATENATE : Sta Z h0 "com/example/statewise/statewise/SheetFunction" "CONCATENATE" "Lcom/example/statewise/statewise/SheetFunction;" (.ref (W 14))) (S_NOW : Sta Z h0 "com/example/statewise/statewise/SheetFunction" "NOW" "Lcom/example/statewise/statewise/SheetFunction;" (.ref (W 15))) (S_TODAY : Sta Z h0 "com/example/statewise/statewise/SheetFunction" "TODAY" "Lcom/example/statewise/statewise/SheetFunction;" (.ref (W 16))) (E_SUM : Exa Z h0 (W 0) "com/example/statewise/statewise/SheetFunction$1") (E_AVERAGE : Exa Z h0 (W 1) "com/example/statewise/statewise/SheetFunction$2") (E_MIN : Exa Z h0 (W 2) "com/example/statewise/statewise/SheetFunction$3") (E_MAX : Exa Z h0 (W 3) "com/example/statewise/statewise/SheetFunction$4") (E_COUNT : Exa Z h0 (W 4) "com/example/statewise/statewise/SheetFunction$5") (E_COUNTA : Exa Z h0 (W 5) "com/example/statewise/statewise/SheetFunction$6") (E_ROUND : Exa Z h0 (W 6) "com/example/statewise/statewise/SheetFunction$7") (E_ABS : Exa Z h0 (W 7) "com/example/statewise/statewise/SheetFunction$8") (E_IF : Exa Z h0 (W 8) "com/example/statewise/statewise/SheetFunction$9") (E_AND : Exa Z h0 (W 9) "com/example/statewise/statewise/SheetFunction$10") (E_OR : Exa Z h0 (W 10) "com/example/statewise/statewise/SheetFunction$11") (E_NOT : Exa Z h0 (W 11) "com/example/statewise/statewise/SheetFunction$12") (E_SUMIF : Exa Z h0 (W 12) "com/example/statewise/statewise/SheetFunction$13") (E_VLOOKUP : Exa Z h0 (W 13) "com/example/statewise/statewise/SheetFunction$14") (E_CONCATENATE : Exa Z h0 (W 14) "com/example/statewise/statewise/SheetFunction$15") (E_NOW : Exa Z h0 (W 15) "com/example/statewise/statewise/SheetFunction$16") (E_TODAY : Exa Z h0 (W 16) "com/example/statewise/statewise/SheetFunction$17") (hk : (p0 &&& (2147483647 : Int32)) % (17 : Int32) = k) (hk0 : ¬ k < 0) (hk1 : k < 17) (hlt : k.toNatClampNeg < 17) (E_k : Exa Z h0 (W k.toNatClampNeg) CK) (hsel : (Jvm.Cond.selects CK ({ cls := "com/example/statewise/statewise/SheetFunction", name := "takes", desc := "(I)Z" } : Jvm.MethodName) ({ cls := "com/example/statewise/statewise/SheetFunction", name := "takes", desc := "(I)Z" } : Jvm.MethodName)).before a0 Z = true) (F_f : Fld Z h0 (W k.toNatClampNeg) "com/example/statewise/statewise/SheetFunction" "fewest" "I" (.int a)) (F_m : Fld Z h0 (W k.toNatClampNeg) "com/example/statewise/statewise/SheetFunction" "most" "I" (.int b)) (hlo : ([(.int (1 : Int32)), (.int (1 : Int32)), (.int (1 : Int32)), (.int (1 : Int32)), (.int (1 : Int32)), (.int (1 : Int32)), (.int (1 : Int32)), (.int (1 : Int32)), (.int (1 : Int32)), (.int (1 : Int32)), (.int (1 : Int32)), (.int (1 : Int32)), (.int (2 : Int32)), (.int (3 : Int32)), (.int (1 : Int32)), (.int (0 : Int32)), (.int (0 : Int32))] : List Value).getD k.toNatClampNeg (.int (0 : Int32)) = .int a) (hhi : ([(.int (2147483647 : Int32)), (.int (2147483647 : Int32)), (.int (2147483647 : Int32)), (.int (2147483647 : Int32)), (.int (2147483647 : Int32)), (.int (2147483647 : Int32)), (.int (2 : Int32)), (.int (1 : Int32)), (.int (3 : Int32)), (.int (2147483647 : Int32)), (.int (2147483647 : Int32)), (.int (1 : Int32)), (.int (3 : Int32)), (.int (4 : Int32)), (.int (2147483647 : Int32)), (.int (0 : Int32)), (.int (0 : Int32))] : List Value).getD k.toNatClampNeg (.int (0 : Int32)) = .int b) (hr0 : r0 = if p1 < a then 0 else if b < p1 then 0 else 1) (hab : ¬ b < a) (hm1 : a - 1 < a) (hb1 : ¬ b = 2147483647 → b < b + 1) :
    MetFree l x (head1 (Jvm.Cond.code x code maxLocals ret :: ws) room_1) (fun a U => a = #[(.int p0), (.int p1)] ∧ Z.Warmed39 U.vm ∧ U.heap = h0) (fun _ _ _ _ _ => True) (fun _ U o U' => ∃ v L, o = .returned v ∧ QL n0 v U'.heap L ∧ FrameEnd U o U' L room_1.cells room_1.slots) := by
  refine MetFree.of_bodySF (plainFor_of_name pn_0) hisR ?_
  intro p e s m args below meth c s₁ Bd hml0 hP hK
  obtain ⟨rfl, hZ, hh⟩ := hP
  have hx := Bd.exec
  have hby := Bd.bytes
  have hml : c.maxLocals = 11 := hml0
  have hown : s.vm.findClass "com/example/statewise/statewise/SheetFunctionTakesPinLaw" = some m.cls := findClass_of_methodNamed Bd.named
  have hnm := (name_of_methodNamed Bd.named Bd.method).1
  have X0 : Stand p l e room_1 s m #[(.int p0), (.int p1)] below meth c s₁ [] 0 0 := Stand.of_body Bd
  have e0 : s₁.heap = h0 := by rw [← hh, Bd.state]; rfl
  have N0 := Fr.nil n0
  have pre0 : ∀ t, Steps p.tables e below (s₁.setTop (mkF m 0 #[.val (.int p0), .val (.int p1), .unset, .unset, .unset, .unset, .unset, .unset, .unset, .unset, .unset] [])) t → Steps p.tables e below (s₁.setTop (entryFrame m #[(.int p0), (.int p1)] maxLocals)) t := fun t k => castTop (ef_rm0 m p0 p1) k
  obtain ⟨T1, h1, k1, X1, e1, E1, A1, O1, st1⟩ := newR X0 hx hZ hown (hw _ (List.mem_of_getElem? (i := 0) rfl)) (hw _ (List.mem_of_getElem? (i := 1) rfl)) e0 (g := (mkF m 2 #[.val (.int p0), .val (.int p1), .unset, .unset, .unset, .unset, .unset, .unset, .unset, .unset, .unset] [(.int (17 : Int32))])) rfl (hb hby at_2) rfl (by decide) (cap := 17) (by decide) (by decide) (by decide) (by decide)
  obtain ⟨b1, g1⟩ : ∃ z, z = h0.size := ⟨_, rfl⟩
  rw [← g1] at A1 st1
  have g_b1 : n0 ≤ b1 := Nat.le_trans Z0 (Nat.le_of_eq g1.symm)
  have ne1__W_k_toNatClampNeg_ : (W k.toNatClampNeg) ≠ b1 := Nat.ne_of_lt (Nat.lt_of_lt_of_le (E_k).lt (Nat.le_of_eq g1.symm))
  have Zs1 : n0 ≤ h1.size := Nat.le_trans Z0 E1.1
  have V1 : Arv Z h1 b1 k1 (.object "com/example/statewise/statewise/SheetFunction") (17 : Int32) [.null, .null, .null, .null, .null, .null, .null, .null, .null, .null, .null, .null, .null, .null, .null, .null, .null] .null := (Arv.new A1 (by decide)).pad (pad_rep [] .null 17)
  have S_SUM_2 := (S_SUM.ext E1)
  obtain ⟨T3, X3, e3, st3⟩ := getS2 X1 hx hZ hown (host := "") (Or.inl (hw _ (List.mem_of_getElem? (i := 2) rfl))) Via.refl e1 S_SUM_2 (g := (mkF m 7 #[.val (.int p0), .val (.int p1), .unset, .unset, .unset, .unset, .unset, .unset, .unset, .unset, .unset] [(.int (0 : Int32)), (.ref b1), (.ref b1)])) rfl (hb hby at_7)
  obtain ⟨cl4, Ar4, qa4, Sa4, Na4, Ha4, Ga4⟩ := id V1
  have hin4 : ¬ ((0 : Int32) < 0 ∨ cl4.slots.size ≤ ((0 : Int32)).toNatClampNeg) := inb_of Sa4 ⟨by decide, by decide⟩
  have E_SUM_5 := (E_SUM.ext E1)
  obtain ⟨T6, h6, X6, e6, W6, st6⟩ := stR X3 hx hZ e3 Ar4 (j := (0 : Int32)) hin4 rfl (Sto.ofV Ar4 qa4 O1 (Ins.of_exa E_SUM_5 (hw _ (List.mem_of_getElem? (i := 5) rfl)))) (g := (mkF m 10 #[.val (.int p0), .val (.int p1), .unset, .unset, .unset, .unset, .unset, .unset, .unset, .unset, .unset] [(.ref (W 0)), (.int (0 : Int32)), (.ref b1), (.ref b1)])) rfl rfl (hb hby at_10)
  have V6 : Arv Z h6 b1 k1 (.object "com/example/statewise/statewise/SheetFunction") (17 : Int32) [(.ref (W 0)), .null, .null, .null, .null, .null, .null, .null, .null, .null, .null, .null, .null, .null, .null, .null, .null] .null := Arv.set Ar4 qa4 Sa4 Na4 Ha4 Ga4 rfl W6 0 rfl (Nat.le_of_ble_eq_true rfl)
  have Zs6 : n0 ≤ h6.size := Nat.le_trans Zs1 (Nat.le_of_eq W6.size.symm)
  have N6 := Fr.snoc X6 N0 g_b1
  have S_AVERAGE_7 := ((S_AVERAGE.ext E1).wr W6)
  obtain ⟨T8, X8, e8, st8⟩ := getS2 X6 hx hZ hown (host := "") (Or.inl (hw _ (List.mem_of_getElem? (i := 6) rfl))) Via.refl e6 S_AVERAGE_7 (g := (mkF m 13 #[.val (.int p0), .val (.int p1), .unset, .unset, .unset, .unset, .unset, .unset, .unset, .unset, .unset] [(.int (1 : Int32)), (.ref b1), (.ref b1)])) rfl (hb hby at_13)
  obtain ⟨cl9, Ar9, qa9, Sa9, Na9, Ha9, Ga9⟩ := id V6
  have hin9 : ¬ ((1 : Int32) < 0 ∨ cl9.slots.size ≤ ((1 : Int32)).toNatClampNeg) := inb_of Sa9 ⟨by decide, by decide⟩
  have E_AVERAGE_10 := ((E_AVERAGE.ext E1).wr W6)
  obtain ⟨T11, h11, X11, e11, W11, st11⟩ := stR X8 hx hZ e8 Ar9 (j := (1 : Int32)) hin9 rfl (Sto.ofV Ar9 qa9 O1 (Ins.of_exa E_AVERAGE_10 (hw _ (List.mem_of_getElem? (i := 8) rfl)))) (g := (mkF m 16 #[.val (.int p0), .val (.int p1), .unset, .unset, .unset, .unset, .unset, .unset, .unset, .unset, .unset] [(.ref (W 1)), (.int (1 : Int32)), (.ref b1), (.ref b1)])) rfl rfl (hb hby at_16)
  have V11 : Arv Z h11 b1 k1 (.object "com/example/statewise/statewise/SheetFunction") (17 : Int32) [(.ref (W 0)), (.ref (W 1)), .null, .null, .null, .null, .null, .null, .null, .null, .null, .null, .null, .null, .null, .null, .null] .null := Arv.set Ar9 qa9 Sa9 Na9 Ha9 Ga9 rfl W11 1 rfl (Nat.le_of_ble_eq_true rfl)
  have Zs11 : n0 ≤ h11.size := Nat.le_trans Zs6 (Nat.le_of_eq W11.size.symm)
  have N11 := Fr.snoc X11 N6 g_b1
  have S_MIN_12 := (((S_MIN.ext E1).wr W6).wr W11)
  obtain ⟨T13, X13, e13, st13⟩ := getS2 X11 hx hZ hown (host := "") (Or.inl (hw _ (List.mem_of_getElem? (i := 9) rfl))) Via.refl e11 S_MIN_12 (g := (mkF m 19 #[.val (.int p0), .val (.int p1), .unset, .unset, .unset, .unset, .unset, .unset, .unset, .unset, .unset] [(.int (2 : Int32)), (.ref b1), (.ref b1)])) rfl (hb hby at_19)
  obtain ⟨cl14, Ar14, qa14, Sa14, Na14, Ha14, Ga14⟩ := id V11
  have hin14 : ¬ ((2 : Int32) < 0 ∨ cl14.slots.size ≤ ((2 : Int32)).toNatClampNeg) := inb_of Sa14 ⟨by decide, by decide⟩
  have E_MIN_15 := (((E_MIN.ext E1).wr W6).wr W11)
  obtain ⟨T16, h16, X16, e16, W16, st16⟩ := stR X13 hx hZ e13 Ar14 (j := (2 : Int32)) hin14 rfl (Sto.ofV Ar14 qa14 O1 (Ins.of_exa E_MIN_15 (hw _ (List.mem_of_getElem? (i := 11) rfl)))) (g := (mkF m 22 #[.val (.int p0), .val (.int p1), .unset, .unset, .unset, .unset, .unset, .unset, .unset, .unset, .unset] [(.ref (W 2)), (.int (2 : Int32)), (.ref b1), (.ref b1)])) rfl rfl (hb hby at_22)
  have V16 : Arv Z h16 b1 k1 (.object "com/example/statewise/statewise/SheetFunction") (17 : Int32) [(.ref (W 0)), (.ref (W 1)), (.ref (W 2)), .null, .null, .null, .null, .null, .null, .null, .null, .null, .null, .null, .null, .null, .null] .null := Arv.set Ar14 qa14 Sa14 Na14 Ha14 Ga14 rfl W16 2 rfl (Nat.le_of_ble_eq_true rfl)
  have Zs16 : n0 ≤ h16.size := Nat.le_trans Zs11 (Nat.le_of_eq W16.size.symm)
  have N16 := Fr.snoc X16 N11 g_b1
  have S_MAX_17 := ((((S_MAX.ext E1).wr W6).wr W11).wr W16)
  obtain ⟨T18, X18, e18, st18⟩ := getS2 X16 hx hZ hown (host := "") (Or.inl (hw _ (List.mem_of_getElem? (i := 12) rfl))) Via.refl e16 S_MAX_17 (g := (mkF m 25 #[.val (.int p0), .val (.int p1), .unset, .unset, .unset, .unset, .unset, .unset, .unset, .unset, .unset] [(.int (3 : Int32)), (.ref b1), (.ref b1)])) rfl (hb hby at_25)
  obtain ⟨cl19, Ar19, qa19, Sa19, Na19, Ha19, Ga19⟩ := id V16
  have hin19 : ¬ ((3 : Int32) < 0 ∨ cl19.slots.size ≤ ((3 : Int32)).toNatClampNeg) := inb_of Sa19 ⟨by decide, by decide⟩
  have E_MAX_20 := ((((E_MAX.ext E1).wr W6).wr W11).wr W16)
  obtain ⟨T21, h21, X21, e21, W21, st21⟩ := stR X18 hx hZ e18 Ar19 (j := (3 : Int32)) hin19 rfl (Sto.ofV Ar19 qa19 O1 (Ins.of_exa E_MAX_20 (hw _ (List.mem_of_getElem? (i := 14) rfl)))) (g := (mkF m 28 #[.val (.int p0), .val (.int p1), .unset, .unset, .unset, .unset, .unset, .unset, .unset, .unset, .unset] [(.ref (W 3)), (.int (3 : Int32)), (.ref b1), (.ref b1)])) rfl rfl (hb hby at_28)
  have V21 : Arv Z h21 b1 k1 (.object "com/example/statewise/statewise/SheetFunction") (17 : Int32) [(.ref (W 0)), (.ref (W 1)), (.ref (W 2)), (.ref (W 3)), .null, .null, .null, .null, .null, .null, .null, .null, .null, .null, .null, .null, .null] .null := Arv.set Ar19 qa19 Sa19 Na19 Ha19 Ga19 rfl W21 3 rfl (Nat.le_of_ble_eq_true rfl)
  have Zs21 : n0 ≤ h21.size := Nat.le_trans Zs16 (Nat.le_of_eq W21.size.symm)
  have N21 := Fr.snoc X21 N16 g_b1
  have S_COUNT_22 := (((((S_COUNT.ext E1).wr W6).wr W11).wr W16).wr W21)
  obtain ⟨T23, X23, e23, st23⟩ := getS2 X21 hx hZ hown (host := "") (Or.inl (hw _ (List.mem_of_getElem? (i := 15) rfl))) Via.refl e21 S_COUNT_22 (g := (mkF m 31 #[.val (.int p0), .val (.int p1), .unset, .unset, .unset, .unset, .unset, .unset, .unset, .unset, .unset] [(.int (4 : Int32)), (.ref b1), (.ref b1)])) rfl (hb hby at_31)
  obtain ⟨cl24, Ar24, qa24, Sa24, Na24, Ha24, Ga24⟩ := id V21
  have hin24 : ¬ ((4 : Int32) < 0 ∨ cl24.slots.size ≤ ((4 : Int32)).toNatClampNeg) := inb_of Sa24 ⟨by decide, by decide⟩
  have E_COUNT_25 := (((((E_COUNT.ext E1).wr W6).wr W11).wr W16).wr W21)
  obtain ⟨T26, h26, X26, e26, W26, st26⟩ := stR X23 hx hZ e23 Ar24 (j := (4 : Int32)) hin24 rfl (Sto.ofV Ar24 qa24 O1 (Ins.of_exa E_COUNT_25 (hw _ (List.mem_of_getElem? (i := 17) rfl)))) (g := (mkF m 34 #[.val (.int p0), .val (.int p1), .unset, .unset, .unset, .unset, .unset, .unset, .unset, .unset, .unset] [(.ref (W 4)), (.int (4 : Int32)), (.ref b1), (.ref b1)])) rfl rfl (hb hby at_34)
  have V26 : Arv Z h26 b1 k1 (.object "com/example/statewise/statewise/SheetFunction") (17 : Int32) [(.ref (W 0)), (.ref (W 1)), (.ref (W 2)), (.ref (W 3)), (.ref (W 4)), .null, .null, .null, .null, .null, .null, .null, .null, .null, .null, .null, .null] .null := Arv.set Ar24 qa24 Sa24 Na24 Ha24 Ga24 rfl W26 4 rfl (Nat.le_of_ble_eq_true rfl)
  have Zs26 : n0 ≤ h26.size := Nat.le_trans Zs21 (Nat.le_of_eq W26.size.symm)
  have N26 := Fr.snoc X26 N21 g_b1
  have S_COUNTA_27 := ((((((S_COUNTA.ext E1).wr W6).wr W11).wr W16).wr W21).wr W26)
  obtain ⟨T28, X28, e28, st28⟩ := getS2 X26 hx hZ hown (host := "") (Or.inl (hw _ (List.mem_of_getElem? (i := 18) rfl))) Via.refl e26 S_COUNTA_27 (g := (mkF m 37 #[.val (.int p0), .val (.int p1), .unset, .unset, .unset, .unset, .unset, .unset, .unset, .unset, .unset] [(.int (5 : Int32)), (.ref b1), (.ref b1)])) rfl (hb hby at_37)
  obtain ⟨cl29, Ar29, qa29, Sa29, Na29, Ha29, Ga29⟩ := id V26
  have hin29 : ¬ ((5 : Int32) < 0 ∨ cl29.slots.size ≤ ((5 : Int32)).toNatClampNeg) := inb_of Sa29 ⟨by decide, by decide⟩
  have E_COUNTA_30 := ((((((E_COUNTA.ext E1).wr W6).wr W11).wr W16).wr W21).wr W26)
  obtain ⟨T31, h31, X31, e31, W31, st31⟩ := stR X28 hx hZ e28 Ar29 (j := (5 : Int32)) hin29 rfl (Sto.ofV Ar29 qa29 O1 (Ins.of_exa E_COUNTA_30 (hw _ (List.mem_of_getElem? (i := 20) rfl)))) (g := (mkF m 40 #[.val (.int p0), .val (.int p1), .unset, .unset, .unset, .unset, .unset, .unset, .unset, .unset, .unset] [(.ref (W 5)), (.int (5 : Int32)), (.ref b1), (.ref b1)])) rfl rfl (hb hby at_40)
  have V31 : Arv Z h31 b1 k1 (.object "com/example/statewise/statewise/SheetFunction") (17 : Int32) [(.ref (W 0)), (.ref (W 1)), (.ref (W 2)), (.ref (W 3)), (.ref (W 4)), (.ref (W 5)), .null, .null, .null, .null, .null, .null, .null, .null, .null, .null, .null] .null := Arv.set Ar29 qa29 Sa29 Na29 Ha29 Ga29 rfl W31 5 rfl (Nat.le_of_ble_eq_true rfl)
  have Zs31 : n0 ≤ h31.size := Nat.le_trans Zs26 (Nat.le_of_eq W31.size.symm)
  have N31 := Fr.snoc X31 N26 g_b1
  have S_ROUND_32 := (((((((S_ROUND.ext E1).wr W6).wr W11).wr W16).wr W21).wr W26).wr W31)
  obtain ⟨T33, X33, e33, st33⟩ := getS2 X31 hx hZ hown (host := "") (Or.inl (hw _ (List.mem_of_getElem? (i := 21) rfl))) Via.refl e31 S_ROUND_32 (g := (mkF m 44 #[.val (.int p0), .val (.int p1), .unset, .unset, .unset, .unset, .unset, .unset, .unset, .unset, .unset] [(.int (6 : Int32)), (.ref b1), (.ref b1)])) rfl (hb hby at_44)
  obtain ⟨cl34, Ar34, qa34, Sa34, Na34, Ha34, Ga34⟩ := id V31
  have hin34 : ¬ ((6 : Int32) < 0 ∨ cl34.slots.size ≤ ((6 : Int32)).toNatClampNeg) := inb_of Sa34 ⟨by decide, by decide⟩
  have E_ROUND_35 := (((((((E_ROUND.ext E1).wr W6).wr W11).wr W16).wr W21).wr W26).wr W31)
  obtain ⟨T36, h36, X36, e36, W36, st36⟩ := stR X33 hx hZ e33 Ar34 (j := (6 : Int32)) hin34 rfl (Sto.ofV Ar34 qa34 O1 (Ins.of_exa E_ROUND_35 (hw _ (List.mem_of_getElem? (i := 23) rfl)))) (g := (mkF m 47 #[.val (.int p0), .val (.int p1), .unset, .unset, .unset, .unset, .unset, .unset, .unset, .unset, .unset] [(.ref (W 6)), (.int (6 : Int32)), (.ref b1), (.ref b1)])) rfl rfl (hb hby at_47)
  have V36 : Arv Z h36 b1 k1 (.object "com/example/statewise/statewise/SheetFunction") (17 : Int32) [(.ref (W 0)), (.ref (W 1)), (.ref (W 2)), (.ref (W 3)), (.ref (W 4)), (.ref (W 5)), (.ref (W 6)), .null, .null, .null, .null, .null, .null, .null, .null, .null, .null] .null := Arv.set Ar34 qa34 Sa34 Na34 Ha34 Ga34 rfl W36 6 rfl (Nat.le_of_ble_eq_true rfl)
  have Zs36 : n0 ≤ h36.size := Nat.le_trans Zs31 (Nat.le_of_eq W36.size.symm)
  have N36 := Fr.snoc X36 N31 g_b1
  have S_ABS_37 := ((((((((S_ABS.ext E1).wr W6).wr W11).wr W16).wr W21).wr W26).wr W31).wr W36)
  obtain ⟨T38, X38, e38, st38⟩ := getS2 X36 hx hZ hown (host := "") (Or.inl (hw _ (List.mem_of_getElem? (i := 24) rfl))) Via.refl e36 S_ABS_37 (g := (mkF m 51 #[.val (.int p0), .val (.int p1), .unset, .unset, .unset, .unset, .unset, .unset, .unset, .unset, .unset] [(.int (7 : Int32)), (.ref b1), (.ref b1)])) rfl (hb hby at_51)
  obtain ⟨cl39, Ar39, qa39, Sa39, Na39, Ha39, Ga39⟩ := id V36
  have hin39 : ¬ ((7 : Int32) < 0 ∨ cl39.slots.size ≤ ((7 : Int32)).toNatClampNeg) := inb_of Sa39 ⟨by decide, by decide⟩
  have E_ABS_40 := ((((((((E_ABS.ext E1).wr W6).wr W11).wr W16).wr W21).wr W26).wr W31).wr W36)
  obtain ⟨T41, h41, X41, e41, W41, st41⟩ := stR X38 hx hZ e38 Ar39 (j := (7 : Int32)) hin39 rfl (Sto.ofV Ar39 qa39 O1 (Ins.of_exa E_ABS_40 (hw _ (List.mem_of_getElem? (i := 26) rfl)))) (g := (mkF m 54 #[.val (.int p0), .val (.int p1), .unset, .unset, .unset, .unset, .unset, .unset, .unset, .unset, .unset] [(.ref (W 7)), (.int (7 : Int32)), (.ref b1), (.ref b1)])) rfl rfl (hb hby at_54)
  have V41 : Arv Z h41 b1 k1 (.object "com/example/statewise/statewise/SheetFunction") (17 : Int32) [(.ref (W 0)), (.ref (W 1)), (.ref (W 2)), (.ref (W 3)), (.ref (W 4)), (.ref (W 5)), (.ref (W 6)), (.ref (W 7)), .null, .null, .null, .null, .null, .null, .null, .null, .null] .null := Arv.set Ar39 qa39 Sa39 Na39 Ha39 Ga39 rfl W41 7 rfl (Nat.le_of_ble_eq_true rfl)
  have Zs41 : n0 ≤ h41.size := Nat.le_trans Zs36 (Nat.le_of_eq W41.size.symm)
  have N41 := Fr.snoc X41 N36 g_b1
  have S_IF_42 := (((((((((S_IF.ext E1).wr W6).wr W11).wr W16).wr W21).wr W26).wr W31).wr W36).wr W41)
  obtain ⟨T43, X43, e43, st43⟩ := getS2 X41 hx hZ hown (host := "") (Or.inl (hw _ (List.mem_of_getElem? (i := 27) rfl))) Via.refl e41 S_IF_42 (g := (mkF m 58 #[.val (.int p0), .val (.int p1), .unset, .unset, .unset, .unset, .unset, .unset, .unset, .unset, .unset] [(.int (8 : Int32)), (.ref b1), (.ref b1)])) rfl (hb hby at_58)
  obtain ⟨cl44, Ar44, qa44, Sa44, Na44, Ha44, Ga44⟩ := id V41
  have hin44 : ¬ ((8 : Int32) < 0 ∨ cl44.slots.size ≤ ((8 : Int32)).toNatClampNeg) := inb_of Sa44 ⟨by decide, by decide⟩
  have E_IF_45 := (((((((((E_IF.ext E1).wr W6).wr W11).wr W16).wr W21).wr W26).wr W31).wr W36).wr W41)
  obtain ⟨T46, h46, X46, e46, W46, st46⟩ := stR X43 hx hZ e43 Ar44 (j := (8 : Int32)) hin44 rfl (Sto.ofV Ar44 qa44 O1 (Ins.of_exa E_IF_45 (hw _ (List.mem_of_getElem? (i := 29) rfl)))) (g := (mkF m 61 #[.val (.int p0), .val (.int p1), .unset, .unset, .unset, .unset, .unset, .unset, .unset, .unset, .unset] [(.ref (W 8)), (.int (8 : Int32)), (.ref b1), (.ref b1)])) rfl rfl (hb hby at_61)
  have V46 : Arv Z h46 b1 k1 (.object "com/example/statewise/statewise/SheetFunction") (17 : Int32) [(.ref (W 0)), (.ref (W 1)), (.ref (W 2)), (.ref (W 3)), (.ref (W 4)), (.ref (W 5)), (.ref (W 6)), (.ref (W 7)), (.ref (W 8)), .null, .null, .null, .null, .null, .null, .null, .null] .null := Arv.set Ar44 qa44 Sa44 Na44 Ha44 Ga44 rfl W46 8 rfl (Nat.le_of_ble_eq_true rfl)
  have Zs46 : n0 ≤ h46.size := Nat.le_trans Zs41 (Nat.le_of_eq W46.size.symm)
  have N46 := Fr.snoc X46 N41 g_b1
  have S_AND_47 := ((((((((((S_AND.ext E1).wr W6).wr W11).wr W16).wr W21).wr W26).wr W31).wr W36).wr W41).wr W46)
  obtain ⟨T48, X48, e48, st48⟩ := getS2 X46 hx hZ hown (host := "") (Or.inl (hw _ (List.mem_of_getElem? (i := 30) rfl))) Via.refl e46 S_AND_47 (g := (mkF m 65 #[.val (.int p0), .val (.int p1), .unset, .unset, .unset, .unset, .unset, .unset, .unset, .unset, .unset] [(.int (9 : Int32)), (.ref b1), (.ref b1)])) rfl (hb hby at_65)
  obtain ⟨cl49, Ar49, qa49, Sa49, Na49, Ha49, Ga49⟩ := id V46
  have hin49 : ¬ ((9 : Int32) < 0 ∨ cl49.slots.size ≤ ((9 : Int32)).toNatClampNeg) := inb_of Sa49 ⟨by decide, by decide⟩
  have E_AND_50 := ((((((((((E_AND.ext E1).wr W6).wr W11).wr W16).wr W21).wr W26).wr W31).wr W36).wr W41).wr W46)
  obtain ⟨T51, h51, X51, e51, W51, st51⟩ := stR X48 hx hZ e48 Ar49 (j := (9 : Int32)) hin49 rfl (Sto.ofV Ar49 qa49 O1 (Ins.of_exa E_AND_50 (hw _ (List.mem_of_getElem? (i := 32) rfl)))) (g := (mkF m 68 #[.val (.int p0), .val (.int p1), .unset, .unset, .unset, .unset, .unset, .unset, .unset, .unset, .unset] [(.ref (W 9)), (.int (9 : Int32)), (.ref b1), (.ref b1)])) rfl rfl (hb hby at_68)
  have V51 : Arv Z h51 b1 k1 (.object "com/example/statewise/statewise/SheetFunction") (17 : Int32) [(.ref (W 0)), (.ref (W 1)), (.ref (W 2)), (.ref (W 3)), (.ref (W 4)), (.ref (W 5)), (.ref (W 6)), (.ref (W 7)), (.ref (W 8)), (.ref (W 9)), .null, .null, .null, .null, .null, .null, .null] .null := Arv.set Ar49 qa49 Sa49 Na49 Ha49 Ga49 rfl W51 9 rfl (Nat.le_of_ble_eq_true rfl)
  have Zs51 : n0 ≤ h51.size := Nat.le_trans Zs46 (Nat.le_of_eq W51.size.symm)
  have N51 := Fr.snoc X51 N46 g_b1
  have S_OR_52 := (((((((((((S_OR.ext E1).wr W6).wr W11).wr W16).wr W21).wr W26).wr W31).wr W36).wr W41).wr W46).wr W51)
  obtain ⟨T53, X53, e53, st53⟩ := getS2 X51 hx hZ hown (host := "") (Or.inl (hw _ (List.mem_of_getElem? (i := 33) rfl))) Via.refl e51 S_OR_52 (g := (mkF m 72 #[.val (.int p0), .val (.int p1), .unset, .unset, .unset, .unset, .unset, .unset, .unset, .unset, .unset] [(.int (10 : Int32)), (.ref b1), (.ref b1)])) rfl (hb hby at_72)
  obtain ⟨cl54, Ar54, qa54, Sa54, Na54, Ha54, Ga54⟩ := id V51
  have hin54 : ¬ ((10 : Int32) < 0 ∨ cl54.slots.size ≤ ((10 : Int32)).toNatClampNeg) := inb_of Sa54 ⟨by decide, by decide⟩
  have E_OR_55 := (((((((((((E_OR.ext E1).wr W6).wr W11).wr W16).wr W21).wr W26).wr W31).wr W36).wr W41).wr W46).wr W51)
  obtain ⟨T56, h56, X56, e56, W56, st56⟩ := stR X53 hx hZ e53 Ar54 (j := (10 : Int32)) hin54 rfl (Sto.ofV Ar54 qa54 O1 (Ins.of_exa E_OR_55 (hw _ (List.mem_of_getElem? (i := 35) rfl)))) (g := (mkF m 75 #[.val (.int p0), .val (.int p1), .unset, .unset, .unset, .unset, .unset, .unset, .unset, .unset, .unset] [(.ref (W 10)), (.int (10 : Int32)), (.ref b1), (.ref b1)])) rfl rfl (hb hby at_75)
  have V56 : Arv Z h56 b1 k1 (.object "com/example/statewise/statewise/SheetFunction") (17 : Int32) [(.ref (W 0)), (.ref (W 1)), (.ref (W 2)), (.ref (W 3)), (.ref (W 4)), (.ref (W 5)), (.ref (W 6)), (.ref (W 7)), (.ref (W 8)), (.ref (W 9)), (.ref (W 10)), .null, .null, .null, .null, .null, .null] .null := Arv.set Ar54 qa54 Sa54 Na54 Ha54 Ga54 rfl W56 10 rfl (Nat.le_of_ble_eq_true rfl)
  have Zs56 : n0 ≤ h56.size := Nat.le_trans Zs51 (Nat.le_of_eq W56.size.symm)
  have N56 := Fr.snoc X56 N51 g_b1
  have S_NOT_57 := ((((((((((((S_NOT.ext E1).wr W6).wr W11).wr W16).wr W21).wr W26).wr W31).wr W36).wr W41).wr W46).wr W51).wr W56)
  obtain ⟨T58, X58, e58, st58⟩ := getS2 X56 hx hZ hown (host := "") (Or.inl (hw _ (List.mem_of_getElem? (i := 36) rfl))) Via.refl e56 S_NOT_57 (g := (mkF m 79 #[.val (.int p0), .val (.int p1), .unset, .unset, .unset, .unset, .unset, .unset, .unset, .unset, .unset] [(.int (11 : Int32)), (.ref b1), (.ref b1)])) rfl (hb hby at_79)
  obtain ⟨cl59, Ar59, qa59, Sa59, Na59, Ha59, Ga59⟩ := id V56
  have hin59 : ¬ ((11 : Int32) < 0 ∨ cl59.slots.size ≤ ((11 : Int32)).toNatClampNeg) := inb_of Sa59 ⟨by decide, by decide⟩
  have E_NOT_60 := ((((((((((((E_NOT.ext E1).wr W6).wr W11).wr W16).wr W21).wr W26).wr W31).wr W36).wr W41).wr W46).wr W51).wr W56)
  obtain ⟨T61, h61, X61, e61, W61, st61⟩ := stR X58 hx hZ e58 Ar59 (j := (11 : Int32)) hin59 rfl (Sto.ofV Ar59 qa59 O1 (Ins.of_exa E_NOT_60 (hw _ (List.mem_of_getElem? (i := 38) rfl)))) (g := (mkF m 82 #[.val (.int p0), .val (.int p1), .unset, .unset, .unset, .unset, .unset, .unset, .unset, .unset, .unset] [(.ref (W 11)), (.int (11 : Int32)), (.ref b1), (.ref b1)])) rfl rfl (hb hby at_82)
  have V61 : Arv Z h61 b1 k1 (.object "com/example/statewise/statewise/SheetFunction") (17 : Int32) [(.ref (W 0)), (.ref (W 1)), (.ref (W 2)), (.ref (W 3)), (.ref (W 4)), (.ref (W 5)), (.ref (W 6)), (.ref (W 7)), (.ref (W 8)), (.ref (W 9)), (.ref (W 10)), (.ref (W 11)), .null, .null, .null, .null, .null] .null := Arv.set Ar59 qa59 Sa59 Na59 Ha59 Ga59 rfl W61 11 rfl (Nat.le_of_ble_eq_true rfl)
  have Zs61 : n0 ≤ h61.size := Nat.le_trans Zs56 (Nat.le_of_eq W61.size.symm)
  have N61 := Fr.snoc X61 N56 g_b1
  have S_SUMIF_62 := (((((((((((((S_SUMIF.ext E1).wr W6).wr W11).wr W16).wr W21).wr W26).wr W31).wr W36).wr W41).wr W46).wr W51).wr W56).wr W61)
  obtain ⟨T63, X63, e63, st63⟩ := getS2 X61 hx hZ hown (host := "") (Or.inl (hw _ (List.mem_of_getElem? (i := 39) rfl))) Via.refl e61 S_SUMIF_62 (g := (mkF m 86 #[.val (.int p0), .val (.int p1), .unset, .unset, .unset, .unset, .unset, .unset, .unset, .unset, .unset] [(.int (12 : Int32)), (.ref b1), (.ref b1)])) rfl (hb hby at_86)
  obtain ⟨cl64, Ar64, qa64, Sa64, Na64, Ha64, Ga64⟩ := id V61
  have hin64 : ¬ ((12 : Int32) < 0 ∨ cl64.slots.size ≤ ((12 : Int32)).toNatClampNeg) := inb_of Sa64 ⟨by decide, by decide⟩
  have E_SUMIF_65 := (((((((((((((E_SUMIF.ext E1).wr W6).wr W11).wr W16).wr W21).wr W26).wr W31).wr W36).wr W41).wr W46).wr W51).wr W56).wr W61)
  obtain ⟨T66, h66, X66, e66, W66, st66⟩ := stR X63 hx hZ e63 Ar64 (j := (12 : Int32)) hin64 rfl (Sto.ofV Ar64 qa64 O1 (Ins.of_exa E_SUMIF_65 (hw _ (List.mem_of_getElem? (i := 41) rfl)))) (g := (mkF m 89 #[.val (.int p0), .val (.int p1), .unset, .unset, .unset, .unset, .unset, .unset, .unset, .unset, .unset] [(.ref (W 12)), (.int (12 : Int32)), (.ref b1), (.ref b1)])) rfl rfl (hb hby at_89)
  have V66 : Arv Z h66 b1 k1 (.object "com/example/statewise/statewise/SheetFunction") (17 : Int32) [(.ref (W 0)), (.ref (W 1)), (.ref (W 2)), (.ref (W 3)), (.ref (W 4)), (.ref (W 5)), (.ref (W 6)), (.ref (W 7)), (.ref (W 8)), (.ref (W 9)), (.ref (W 10)), (.ref (W 11)), (.ref (W 12)), .null, .null, .null, .null] .null := Arv.set Ar64 qa64 Sa64 Na64 Ha64 Ga64 rfl W66 12 rfl (Nat.le_of_ble_eq_true rfl)
  have Zs66 : n0 ≤ h66.size := Nat.le_trans Zs61 (Nat.le_of_eq W66.size.symm)
  have N66 := Fr.snoc X66 N61 g_b1
  have S_VLOOKUP_67 := ((((((((((((((S_VLOOKUP.ext E1).wr W6).wr W11).wr W16).wr W21).wr W26).wr W31).wr W36).wr W41).wr W46).wr W51).wr W56).wr W61).wr W66)
  obtain ⟨T68, X68, e68, st68⟩ := getS2 X66 hx hZ hown (host := "") (Or.inl (hw _ (List.mem_of_getElem? (i := 42) rfl))) Via.refl e66 S_VLOOKUP_67 (g := (mkF m 93 #[.val (.int p0), .val (.int p1), .unset, .unset, .unset, .unset, .unset, .unset, .unset, .unset, .unset] [(.int (13 : Int32)), (.ref b1), (.ref b1)])) rfl (hb hby at_93)
  obtain ⟨cl69, Ar69, qa69, Sa69, Na69, Ha69, Ga69⟩ := id V66
  have hin69 : ¬ ((13 : Int32) < 0 ∨ cl69.slots.size ≤ ((13 : Int32)).toNatClampNeg) := inb_of Sa69 ⟨by decide, by decide⟩
  have E_VLOOKUP_70 := ((((((((((((((E_VLOOKUP.ext E1).wr W6).wr W11).wr W16).wr W21).wr W26).wr W31).wr W36).wr W41).wr W46).wr W51).wr W56).wr W61).wr W66)
  obtain ⟨T71, h71, X71, e71, W71, st71⟩ := stR X68 hx hZ e68 Ar69 (j := (13 : Int32)) hin69 rfl (Sto.ofV Ar69 qa69 O1 (Ins.of_exa E_VLOOKUP_70 (hw _ (List.mem_of_getElem? (i := 44) rfl)))) (g := (mkF m 96 #[.val (.int p0), .val (.int p1), .unset, .unset, .unset, .unset, .unset, .unset, .unset, .unset, .unset] [(.ref (W 13)), (.int (13 : Int32)), (.ref b1), (.ref b1)])) rfl rfl (hb hby at_96)
  have V71 : Arv Z h71 b1 k1 (.object "com/example/statewise/statewise/SheetFunction") (17 : Int32) [(.ref (W 0)), (.ref (W 1)), (.ref (W 2)), (.ref (W 3)), (.ref (W 4)), (.ref (W 5)), (.ref (W 6)), (.ref (W 7)), (.ref (W 8)), (.ref (W 9)), (.ref (W 10)), (.ref (W 11)), (.ref (W 12)), (.ref (W 13)), .null, .null, .null] .null := Arv.set Ar69 qa69 Sa69 Na69 Ha69 Ga69 rfl W71 13 rfl (Nat.le_of_ble_eq_true rfl)
  have Zs71 : n0 ≤ h71.size := Nat.le_trans Zs66 (Nat.le_of_eq W71.size.symm)
  have N71 := Fr.snoc X71 N66 g_b1
  have S_CONCATENATE_72 := (((((((((((((((S_CONCATENATE.ext E1).wr W6).wr W11).wr W16).wr W21).wr W26).wr W31).wr W36).wr W41).wr W46).wr W51).wr W56).wr W61).wr W66).wr W71)
  obtain ⟨T73, X73, e73, st73⟩ := getS2 X71 hx hZ hown (host := "") (Or.inl (hw _ (List.mem_of_getElem? (i := 45) rfl))) Via.refl e71 S_CONCATENATE_72 (g := (mkF m 100 #[.val (.int p0), .val (.int p1), .unset, .unset, .unset, .unset, .unset, .unset, .unset, .unset, .unset] [(.int (14 : Int32)), (.ref b1), (.ref b1)])) rfl (hb hby at_100)
  obtain ⟨cl74, Ar74, qa74, Sa74, Na74, Ha74, Ga74⟩ := id V71
  have hin74 : ¬ ((14 : Int32) < 0 ∨ cl74.slots.size ≤ ((14 : Int32)).toNatClampNeg) := inb_of Sa74 ⟨by decide, by decide⟩
  have E_CONCATENATE_75 := (((((((((((((((E_CONCATENATE.ext E1).wr W6).wr W11).wr W16).wr W21).wr W26).wr W31).wr W36).wr W41).wr W46).wr W51).wr W56).wr W61).wr W66).wr W71)
  obtain ⟨T76, h76, X76, e76, W76, st76⟩ := stR X73 hx hZ e73 Ar74 (j := (14 : Int32)) hin74 rfl (Sto.ofV Ar74 qa74 O1 (Ins.of_exa E_CONCATENATE_75 (hw _ (List.mem_of_getElem? (i := 47) rfl)))) (g := (mkF m 103 #[.val (.int p0), .val (.int p1), .unset, .unset, .unset, .unset, .unset, .unset, .unset, .unset, .unset] [(.ref (W 14)), (.int (14 : Int32)), (.ref b1), (.ref b1)])) rfl rfl (hb hby at_103)
  have V76 : Arv Z h76 b1 k1 (.object "com/example/statewise/statewise/SheetFunction") (17 : Int32) [(.ref (W 0)), (.ref (W 1)), (.ref (W 2)), (.ref (W 3)), (.ref (W 4)), (.ref (W 5)), (.ref (W 6)), (.ref (W 7)), (.ref (W 8)), (.ref (W 9)), (.ref (W 10)), (.ref (W 11)), (.ref (W 12)), (.ref (W 13)), (.ref (W 14)), .null, .null] .null := Arv.set Ar74 qa74 Sa74 Na74 Ha74 Ga74 rfl W76 14 rfl (Nat.le_of_ble_eq_true rfl)
  have Zs76 : n0 ≤ h76.size := Nat.le_trans Zs71 (Nat.le_of_eq W76.size.symm)
  have N76 := Fr.snoc X76 N71 g_b1
  have S_NOW_77 := ((((((((((((((((S_NOW.ext E1).wr W6).wr W11).wr W16).wr W21).wr W26).wr W31).wr W36).wr W41).wr W46).wr W51).wr W56).wr W61).wr W66).wr W71).wr W76)
  obtain ⟨T78, X78, e78, st78⟩ := getS2 X76 hx hZ hown (host := "") (Or.inl (hw _ (List.mem_of_getElem? (i := 48) rfl))) Via.refl e76 S_NOW_77 (g := (mkF m 107 #[.val (.int p0), .val (.int p1), .unset, .unset, .unset, .unset, .unset, .unset, .unset, .unset, .unset] [(.int (15 : Int32)), (.ref b1), (.ref b1)])) rfl (hb hby at_107)
  obtain ⟨cl79, Ar79, qa79, Sa79, Na79, Ha79, Ga79⟩ := id V76
  have hin79 : ¬ ((15 : Int32) < 0 ∨ cl79.slots.size ≤ ((15 : Int32)).toNatClampNeg) := inb_of Sa79 ⟨by decide, by decide⟩
  have E_NOW_80 := ((((((((((((((((E_NOW.ext E1).wr W6).wr W11).wr W16).wr W21).wr W26).wr W31).wr W36).wr W41).wr W46).wr W51).wr W56).wr W61).wr W66).wr W71).wr W76)
  obtain ⟨T81, h81, X81, e81, W81, st81⟩ := stR X78 hx hZ e78 Ar79 (j := (15 : Int32)) hin79 rfl (Sto.ofV Ar79 qa79 O1 (Ins.of_exa E_NOW_80 (hw _ (List.mem_of_getElem? (i := 50) rfl)))) (g := (mkF m 110 #[.val (.int p0), .val (.int p1), .unset, .unset, .unset, .unset, .unset, .unset, .unset, .unset, .unset] [(.ref (W 15)), (.int (15 : Int32)), (.ref b1), (.ref b1)])) rfl rfl (hb hby at_110)
  have V81 : Arv Z h81 b1 k1 (.object "com/example/statewise/statewise/SheetFunction") (17 : Int32) [(.ref (W 0)), (.ref (W 1)), (.ref (W 2)), (.ref (W 3)), (.ref (W 4)), (.ref (W 5)), (.ref (W 6)), (.ref (W 7)), (.ref (W 8)), (.ref (W 9)), (.ref (W 10)), (.ref (W 11)), (.ref (W 12)), (.ref (W 13)), (.ref (W 14)), (.ref (W 15)), .null] .null := Arv.set Ar79 qa79 Sa79 Na79 Ha79 Ga79 rfl W81 15 rfl (Nat.le_of_ble_eq_true rfl)
  have Zs81 : n0 ≤ h81.size := Nat.le_trans Zs76 (Nat.le_of_eq W81.size.symm)
  have N81 := Fr.snoc X81 N76 g_b1
  have S_TODAY_82 := (((((((((((((((((S_TODAY.ext E1).wr W6).wr W11).wr W16).wr W21).wr W26).wr W31).wr W36).wr W41).wr W46).wr W51).wr W56).wr W61).wr W66).wr W71).wr W76).wr W81)
  obtain ⟨T83, X83, e83, st83⟩ := getS2 X81 hx hZ hown (host := "") (Or.inl (hw _ (List.mem_of_getElem? (i := 51) rfl))) Via.refl e81 S_TODAY_82 (g := (mkF m 114 #[.val (.int p0), .val (.int p1), .unset, .unset, .unset, .unset, .unset, .unset, .unset, .unset, .unset] [(.int (16 : Int32)), (.ref b1), (.ref b1)])) rfl (hb hby at_114)
  obtain ⟨cl84, Ar84, qa84, Sa84, Na84, Ha84, Ga84⟩ := id V81
  have hin84 : ¬ ((16 : Int32) < 0 ∨ cl84.slots.size ≤ ((16 : Int32)).toNatClampNeg) := inb_of Sa84 ⟨by decide, by decide⟩
  have E_TODAY_85 := (((((((((((((((((E_TODAY.ext E1).wr W6).wr W11).wr W16).wr W21).wr W26).wr W31).wr W36).wr W41).wr W46).wr W51).wr W56).wr W61).wr W66).wr W71).wr W76).wr W81)
  obtain ⟨T86, h86, X86, e86, W86, st86⟩ := stR X83 hx hZ e83 Ar84 (j := (16 : Int32)) hin84 rfl (Sto.ofV Ar84 qa84 O1 (Ins.of_exa E_TODAY_85 (hw _ (List.mem_of_getElem? (i := 53) rfl)))) (g := (mkF m 117 #[.val (.int p0), .val (.int p1), .unset, .unset, .unset, .unset, .unset, .unset, .unset, .unset, .unset] [(.ref (W 16)), (.int (16 : Int32)), (.ref b1), (.ref b1)])) rfl rfl (hb hby at_117)
  have V86 : Arv Z h86 b1 k1 (.object "com/example/statewise/statewise/SheetFunction") (17 : Int32) [(.ref (W 0)), (.ref (W 1)), (.ref (W 2)), (.ref (W 3)), (.ref (W 4)), (.ref (W 5)), (.ref (W 6)), (.ref (W 7)), (.ref (W 8)), (.ref (W 9)), (.ref (W 10)), (.ref (W 11)), (.ref (W 12)), (.ref (W 13)), (.ref (W 14)), (.ref (W 15)), (.ref (W 16))] .null := Arv.set Ar84 qa84 Sa84 Na84 Ha84 Ga84 rfl W86 16 rfl (Nat.le_of_ble_eq_true rfl)
  have Zs86 : n0 ≤ h86.size := Nat.le_trans Zs81 (Nat.le_of_eq W86.size.symm)
  have N86 := Fr.snoc X86 N81 g_b1
  obtain ⟨T87, h87, k87, X87, e87, E87, A87, st87⟩ := newP X86 hx hZ (hw _ (List.mem_of_getElem? (i := 54) rfl)) e86 (g := (mkF m 121 #[.val (.int p0), .val (.int p1), .val (.ref b1), .unset, .unset, .unset, .unset, .unset, .unset, .unset, .unset] [(.int (17 : Int32))])) rfl (hb hby at_121) rfl (by decide) (cap := 17) (by decide) (by decide) (by decide) (by decide)
  obtain ⟨b87, g87⟩ : ∃ z, z = h86.size := ⟨_, rfl⟩
  rw [← g87] at A87 st87
  have g_b87 : n0 ≤ b87 := Nat.le_trans Zs86 (Nat.le_of_eq g87.symm)
  have E_k_88 := ((((((((((((((((((E_k.ext E1).wr W6).wr W11).wr W16).wr W21).wr W26).wr W31).wr W36).wr W41).wr W46).wr W51).wr W56).wr W61).wr W66).wr W71).wr W76).wr W81).wr W86)
  have ne87__W_k_toNatClampNeg_ : (W k.toNatClampNeg) ≠ b87 := Nat.ne_of_lt (Nat.lt_of_lt_of_le (E_k_88).lt (Nat.le_of_eq g87.symm))
  have ne87_b1 : b1 ≠ b87 := Nat.ne_of_lt (Nat.lt_of_lt_of_le (V86).lt (Nat.le_of_eq g87.symm))
  have Zs87 : n0 ≤ h87.size := Nat.le_trans Zs86 E87.1
  have V87 : Arv Z h87 b87 k87 .int (17 : Int32) [(.int (0 : Int32)), (.int (0 : Int32)), (.int (0 : Int32)), (.int (0 : Int32)), (.int (0 : Int32)), (.int (0 : Int32)), (.int (0 : Int32)), (.int (0 : Int32)), (.int (0 : Int32)), (.int (0 : Int32)), (.int (0 : Int32)), (.int (0 : Int32)), (.int (0 : Int32)), (.int (0 : Int32)), (.int (0 : Int32)), (.int (0 : Int32)), (.int (0 : Int32))] (.int (0 : Int32)) := (Arv.new A87 (by decide)).pad (pad_rep [] (.int (0 : Int32)) 17)
  obtain ⟨cl89, Ar89, qa89, Sa89, Na89, Ha89, Ga89⟩ := id V87
  have hin89 : ¬ ((0 : Int32) < 0 ∨ cl89.slots.size ≤ ((0 : Int32)).toNatClampNeg) := inb_of Sa89 ⟨by decide, by decide⟩
  obtain ⟨T90, h90, X90, e90, W90, st90⟩ := stI X87 hx hZ e87 Ar89 (j := (0 : Int32)) hin89 (g := (mkF m 126 #[.val (.int p0), .val (.int p1), .val (.ref b1), .unset, .unset, .unset, .unset, .unset, .unset, .unset, .unset] [(.int (1 : Int32)), (.int (0 : Int32)), (.ref b87), (.ref b87)])) rfl rfl (hb hby at_126)
  have V90 : Arv Z h90 b87 k87 .int (17 : Int32) [(.int (1 : Int32)), (.int (0 : Int32)), (.int (0 : Int32)), (.int (0 : Int32)), (.int (0 : Int32)), (.int (0 : Int32)), (.int (0 : Int32)), (.int (0 : Int32)), (.int (0 : Int32)), (.int (0 : Int32)), (.int (0 : Int32)), (.int (0 : Int32)), (.int (0 : Int32)), (.int (0 : Int32)), (.int (0 : Int32)), (.int (0 : Int32)), (.int (0 : Int32))] (.int (0 : Int32)) := Arv.set Ar89 qa89 Sa89 Na89 Ha89 Ga89 rfl W90 0 rfl (Nat.le_of_ble_eq_true rfl)
  have Zs90 : n0 ≤ h90.size := Nat.le_trans Zs87 (Nat.le_of_eq W90.size.symm)
  have N90 := Fr.snoc X90 N86 g_b87
  obtain ⟨cl91, Ar91, qa91, Sa91, Na91, Ha91, Ga91⟩ := id V90
  have hin91 : ¬ ((1 : Int32) < 0 ∨ cl91.slots.size ≤ ((1 : Int32)).toNatClampNeg) := inb_of Sa91 ⟨by decide, by decide⟩
  obtain ⟨T92, h92, X92, e92, W92, st92⟩ := stI X90 hx hZ e90 Ar91 (j := (1 : Int32)) hin91 (g := (mkF m 130 #[.val (.int p0), .val (.int p1), .val (.ref b1), .unset, .unset, .unset, .unset, .unset, .unset, .unset, .unset] [(.int (1 : Int32)), (.int (1 : Int32)), (.ref b87), (.ref b87)])) rfl rfl (hb hby at_130)
  have V92 : Arv Z h92 b87 k87 .int (17 : Int32) [(.int (1 : Int32)), (.int (1 : Int32)), (.int (0 : Int32)), (.int (0 : Int32)), (.int (0 : Int32)), (.int (0 : Int32)), (.int (0 : Int32)), (.int (0 : Int32)), (.int (0 : Int32)), (.int (0 : Int32)), (.int (0 : Int32)), (.int (0 : Int32)), (.int (0 : Int32)), (.int (0 : Int32)), (.int (0 : Int32)), (.int (0 : Int32)), (.int (0 : Int32))] (.int (0 : Int32)) := Arv.set Ar91 qa91 Sa91 Na91 Ha91 Ga91 rfl W92 1 rfl (Nat.le_of_ble_eq_true rfl)
  have Zs92 : n0 ≤ h92.size := Nat.le_trans Zs90 (Nat.le_of_eq W92.size.symm)
  have N92 := Fr.snoc X92 N90 g_b87
  obtain ⟨cl93, Ar93, qa93, Sa93, Na93, Ha93, Ga93⟩ := id V92
  have hin93 : ¬ ((2 : Int32) < 0 ∨ cl93.slots.size ≤ ((2 : Int32)).toNatClampNeg) := inb_of Sa93 ⟨by decide, by decide⟩
  obtain ⟨T94, h94, X94, e94, W94, st94⟩ := stI X92 hx hZ e92 Ar93 (j := (2 : Int32)) hin93 (g := (mkF m 134 #[.val (.int p0), .val (.int p1), .val (.ref b1), .unset, .unset, .unset, .unset, .unset, .unset, .unset, .unset] [(.int (1 : Int32)), (.int (2 : Int32)), (.ref b87), (.ref b87)])) rfl rfl (hb hby at_134)
  have V94 : Arv Z h94 b87 k87 .int (17 : Int32) [(.int (1 : Int32)), (.int (1 : Int32)), (.int (1 : Int32)), (.int (0 : Int32)), (.int (0 : Int32)), (.int (0 : Int32)), (.int (0 : Int32)), (.int (0 : Int32)), (.int (0 : Int32)), (.int (0 : Int32)), (.int (0 : Int32)), (.int (0 : Int32)), (.int (0 : Int32)), (.int (0 : Int32)), (.int (0 : Int32)), (.int (0 : Int32)), (.int (0 : Int32))] (.int (0 : Int32)) := Arv.set Ar93 qa93 Sa93 Na93 Ha93 Ga93 rfl W94 2 rfl (Nat.le_of_ble_eq_true rfl)
  have Zs94 : n0 ≤ h94.size := Nat.le_trans Zs92 (Nat.le_of_eq W94.size.symm)
  have N94 := Fr.snoc X94 N92 g_b87
  obtain ⟨cl95, Ar95, qa95, Sa95, Na95, Ha95, Ga95⟩ := id V94
  have hin95 : ¬ ((3 : Int32) < 0 ∨ cl95.slots.size ≤ ((3 : Int32)).toNatClampNeg) := inb_of Sa95 ⟨by decide, by decide⟩
  obtain ⟨T96, h96, X96, e96, W96, st96⟩ := stI X94 hx hZ e94 Ar95 (j := (3 : Int32)) hin95 (g := (mkF m 138 #[.val (.int p0), .val (.int p1), .val (.ref b1), .unset, .unset, .unset, .unset, .unset, .unset, .unset, .unset] [(.int (1 : Int32)), (.int (3 : Int32)), (.ref b87), (.ref b87)])) rfl rfl (hb hby at_138)
  have V96 : Arv Z h96 b87 k87 .int (17 : Int32) [(.int (1 : Int32)), (.int (1 : Int32)), (.int (1 : Int32)), (.int (1 : Int32)), (.int (0 : Int32)), (.int (0 : Int32)), (.int (0 : Int32)), (.int (0 : Int32)), (.int (0 : Int32)), (.int (0 : Int32)), (.int (0 : Int32)), (.int (0 : Int32)), (.int (0 : Int32)), (.int (0 : Int32)), (.int (0 : Int32)), (.int (0 : Int32)), (.int (0 : Int32))] (.int (0 : Int32)) := Arv.set Ar95 qa95 Sa95 Na95 Ha95 Ga95 rfl W96 3 rfl (Nat.le_of_ble_eq_true rfl)
  have Zs96 : n0 ≤ h96.size := Nat.le_trans Zs94 (Nat.le_of_eq W96.size.symm)
  have N96 := Fr.snoc X96 N94 g_b87
  obtain ⟨cl97, Ar97, qa97, Sa97, Na97, Ha97, Ga97⟩ := id V96
  have hin97 : ¬ ((4 : Int32) < 0 ∨ cl97.slots.size ≤ ((4 : Int32)).toNatClampNeg) := inb_of Sa97 ⟨by decide, by decide⟩
  obtain ⟨T98, h98, X98, e98, W98, st98⟩ := stI X96 hx hZ e96 Ar97 (j := (4 : Int32)) hin97 (g := (mkF m 142 #[.val (.int p0), .val (.int p1), .val (.ref b1), .unset, .unset, .unset, .unset, .unset, .unset, .unset, .unset] [(.int (1 : Int32)), (.int (4 : Int32)), (.ref b87), (.ref b87)])) rfl rfl (hb hby at_142)
  have V98 : Arv Z h98 b87 k87 .int (17 : Int32) [(.int (1 : Int32)), (.int (1 : Int32)), (.int (1 : Int32)), (.int (1 : Int32)), (.int (1 : Int32)), (.int (0 : Int32)), (.int (0 : Int32)), (.int (0 : Int32)), (.int (0 : Int32)), (.int (0 : Int32)), (.int (0 : Int32)), (.int (0 : Int32)), (.int (0 : Int32)), (.int (0 : Int32)), (.int (0 : Int32)), (.int (0 : Int32)), (.int (0 : Int32))] (.int (0 : Int32)) := Arv.set Ar97 qa97 Sa97 Na97 Ha97 Ga97 rfl W98 4 rfl (Nat.le_of_ble_eq_true rfl)
  have Zs98 : n0 ≤ h98.size := Nat.le_trans Zs96 (Nat.le_of_eq W98.size.symm)
  have N98 := Fr.snoc X98 N96 g_b87
  obtain ⟨cl99, Ar99, qa99, Sa99, Na99, Ha99, Ga99⟩ := id V98
  have hin99 : ¬ ((5 : Int32) < 0 ∨ cl99.slots.size ≤ ((5 : Int32)).toNatClampNeg) := inb_of Sa99 ⟨by decide, by decide⟩
  obtain ⟨T100, h100, X100, e100, W100, st100⟩ := stI X98 hx hZ e98 Ar99 (j := (5 : Int32)) hin99 (g := (mkF m 146 #[.val (.int p0), .val (.int p1), .val (.ref b1), .unset, .unset, .unset, .unset, .unset, .unset, .unset, .unset] [(.int (1 : Int32)), (.int (5 : Int32)), (.ref b87), (.ref b87)])) rfl rfl (hb hby at_146)
  have V100 : Arv Z h100 b87 k87 .int (17 : Int32) [(.int (1 : Int32)), (.int (1 : Int32)), (.int (1 : Int32)), (.int (1 : Int32)), (.int (1 : Int32)), (.int (1 : Int32)), (.int (0 : Int32)), (.int (0 : Int32)), (.int (0 : Int32)), (.int (0 : Int32)), (.int (0 : Int32)), (.int (0 : Int32)), (.int (0 : Int32)), (.int (0 : Int32)), (.int (0 : Int32)), (.int (0 : Int32)), (.int (0 : Int32))] (.int (0 : Int32)) := Arv.set Ar99 qa99 Sa99 Na99 Ha99 Ga99 rfl W100 5 rfl (Nat.le_of_ble_eq_true rfl)
  have Zs100 : n0 ≤ h100.size := Nat.le_trans Zs98 (Nat.le_of_eq W100.size.symm)
  have N100 := Fr.snoc X100 N98 g_b87
  obtain ⟨cl101, Ar101, qa101, Sa101, Na101, Ha101, Ga101⟩ := id V100
  have hin101 : ¬ ((6 : Int32) < 0 ∨ cl101.slots.size ≤ ((6 : Int32)).toNatClampNeg) := inb_of Sa101 ⟨by decide, by decide⟩
  obtain ⟨T102, h102, X102, e102, W102, st102⟩ := stI X100 hx hZ e100 Ar101 (j := (6 : Int32)) hin101 (g := (mkF m 151 #[.val (.int p0), .val (.int p1), .val (.ref b1), .unset, .unset, .unset, .unset, .unset, .unset, .unset, .unset] [(.int (1 : Int32)), (.int (6 : Int32)), (.ref b87), (.ref b87)])) rfl rfl (hb hby at_151)
  have V102 : Arv Z h102 b87 k87 .int (17 : Int32) [(.int (1 : Int32)), (.int (1 : Int32)), (.int (1 : Int32)), (.int (1 : Int32)), (.int (1 : Int32)), (.int (1 : Int32)), (.int (1 : Int32)), (.int (0 : Int32)), (.int (0 : Int32)), (.int (0 : Int32)), (.int (0 : Int32)), (.int (0 : Int32)), (.int (0 : Int32)), (.int (0 : Int32)), (.int (0 : Int32)), (.int (0 : Int32)), (.int (0 : Int32))] (.int (0 : Int32)) := Arv.set Ar101 qa101 Sa101 Na101 Ha101 Ga101 rfl W102 6 rfl (Nat.le_of_ble_eq_true rfl)
  have Zs102 : n0 ≤ h102.size := Nat.le_trans Zs100 (Nat.le_of_eq W102.size.symm)
  have N102 := Fr.snoc X102 N100 g_b87
  obtain ⟨cl103, Ar103, qa103, Sa103, Na103, Ha103, Ga103⟩ := id V102
  have hin103 : ¬ ((7 : Int32) < 0 ∨ cl103.slots.size ≤ ((7 : Int32)).toNatClampNeg) := inb_of Sa103 ⟨by decide, by decide⟩
  obtain ⟨T104, h104, X104, e104, W104, st104⟩ := stI X102 hx hZ e102 Ar103 (j := (7 : Int32)) hin103 (g := (mkF m 156 #[.val (.int p0), .val (.int p1), .val (.ref b1), .unset, .unset, .unset, .unset, .unset, .unset, .unset, .unset] [(.int (1 : Int32)), (.int (7 : Int32)), (.ref b87), (.ref b87)])) rfl rfl (hb hby at_156)
  have V104 : Arv Z h104 b87 k87 .int (17 : Int32) [(.int (1 : Int32)), (.int (1 : Int32)), (.int (1 : Int32)), (.int (1 : Int32)), (.int (1 : Int32)), (.int (1 : Int32)), (.int (1 : Int32)), (.int (1 : Int32)), (.int (0 : Int32)), (.int (0 : Int32)), (.int (0 : Int32)), (.int (0 : Int32)), (.int (0 : Int32)), (.int (0 : Int32)), (.int (0 : Int32)), (.int (0 : Int32)), (.int (0 : Int32))] (.int (0 : Int32)) := Arv.set Ar103 qa103 Sa103 Na103 Ha103 Ga103 rfl W104 7 rfl (Nat.le_of_ble_eq_true rfl)
  have Zs104 : n0 ≤ h104.size := Nat.le_trans Zs102 (Nat.le_of_eq W104.size.symm)
  have N104 := Fr.snoc X104 N102 g_b87
  obtain ⟨cl105, Ar105, qa105, Sa105, Na105, Ha105, Ga105⟩ := id V104
  have hin105 : ¬ ((8 : Int32) < 0 ∨ cl105.slots.size ≤ ((8 : Int32)).toNatClampNeg) := inb_of Sa105 ⟨by decide, by decide⟩
  obtain ⟨T106, h106, X106, e106, W106, st106⟩ := stI X104 hx hZ e104 Ar105 (j := (8 : Int32)) hin105 (g := (mkF m 161 #[.val (.int p0), .val (.int p1), .val (.ref b1), .unset, .unset, .unset, .unset, .unset, .unset, .unset, .unset] [(.int (1 : Int32)), (.int (8 : Int32)), (.ref b87), (.ref b87)])) rfl rfl (hb hby at_161)
  have V106 : Arv Z h106 b87 k87 .int (17 : Int32) [(.int (1 : Int32)), (.int (1 : Int32)), (.int (1 : Int32)), (.int (1 : Int32)), (.int (1 : Int32)), (.int (1 : Int32)), (.int (1 : Int32)), (.int (1 : Int32)), (.int (1 : Int32)), (.int (0 : Int32)), (.int (0 : Int32)), (.int (0 : Int32)), (.int (0 : Int32)), (.int (0 : Int32)), (.int (0 : Int32)), (.int (0 : Int32)), (.int (0 : Int32))] (.int (0 : Int32)) := Arv.set Ar105 qa105 Sa105 Na105 Ha105 Ga105 rfl W106 8 rfl (Nat.le_of_ble_eq_true rfl)
  have Zs106 : n0 ≤ h106.size := Nat.le_trans Zs104 (Nat.le_of_eq W106.size.symm)
  have N106 := Fr.snoc X106 N104 g_b87
  obtain ⟨cl107, Ar107, qa107, Sa107, Na107, Ha107, Ga107⟩ := id V106
  have hin107 : ¬ ((9 : Int32) < 0 ∨ cl107.slots.size ≤ ((9 : Int32)).toNatClampNeg) := inb_of Sa107 ⟨by decide, by decide⟩
  obtain ⟨T108, h108, X108, e108, W108, st108⟩ := stI X106 hx hZ e106 Ar107 (j := (9 : Int32)) hin107 (g := (mkF m 166 #[.val (.int p0), .val (.int p1), .val (.ref b1), .unset, .unset, .unset, .unset, .unset, .unset, .unset, .unset] [(.int (1 : Int32)), (.int (9 : Int32)), (.ref b87), (.ref b87)])) rfl rfl (hb hby at_166)
  have V108 : Arv Z h108 b87 k87 .int (17 : Int32) [(.int (1 : Int32)), (.int (1 : Int32)), (.int (1 : Int32)), (.int (1 : Int32)), (.int (1 : Int32)), (.int (1 : Int32)), (.int (1 : Int32)), (.int (1 : Int32)), (.int (1 : Int32)), (.int (1 : Int32)), (.int (0 : Int32)), (.int (0 : Int32)), (.int (0 : Int32)), (.int (0 : Int32)), (.int (0 : Int32)), (.int (0 : Int32)), (.int (0 : Int32))] (.int (0 : Int32)) := Arv.set Ar107 qa107 Sa107 Na107 Ha107 Ga107 rfl W108 9 rfl (Nat.le_of_ble_eq_true rfl)
  have Zs108 : n0 ≤ h108.size := Nat.le_trans Zs106 (Nat.le_of_eq W108.size.symm)
  have N108 := Fr.snoc X108 N106 g_b87
  obtain ⟨cl109, Ar109, qa109, Sa109, Na109, Ha109, Ga109⟩ := id V108
  have hin109 : ¬ ((10 : Int32) < 0 ∨ cl109.slots.size ≤ ((10 : Int32)).toNatClampNeg) := inb_of Sa109 ⟨by decide, by decide⟩
  obtain ⟨T110, h110, X110, e110, W110, st110⟩ := stI X108 hx hZ e108 Ar109 (j := (10 : Int32)) hin109 (g := (mkF m 171 #[.val (.int p0), .val (.int p1), .val (.ref b1), .unset, .unset, .unset, .unset, .unset, .unset, .unset, .unset] [(.int (1 : Int32)), (.int (10 : Int32)), (.ref b87), (.ref b87)])) rfl rfl (hb hby at_171)
  have V110 : Arv Z h110 b87 k87 .int (17 : Int32) [(.int (1 : Int32)), (.int (1 : Int32)), (.int (1 : Int32)), (.int (1 : Int32)), (.int (1 : Int32)), (.int (1 : Int32)), (.int (1 : Int32)), (.int (1 : Int32)), (.int (1 : Int32)), (.int (1 : Int32)), (.int (1 : Int32)), (.int (0 : Int32)), (.int (0 : Int32)), (.int (0 : Int32)), (.int (0 : Int32)), (.int (0 : Int32)), (.int (0 : Int32))] (.int (0 : Int32)) := Arv.set Ar109 qa109 Sa109 Na109 Ha109 Ga109 rfl W110 10 rfl (Nat.le_of_ble_eq_true rfl)
  have Zs110 : n0 ≤ h110.size := Nat.le_trans Zs108 (Nat.le_of_eq W110.size.symm)
  have N110 := Fr.snoc X110 N108 g_b87
  obtain ⟨cl111, Ar111, qa111, Sa111, Na111, Ha111, Ga111⟩ := id V110
  have hin111 : ¬ ((11 : Int32) < 0 ∨ cl111.slots.size ≤ ((11 : Int32)).toNatClampNeg) := inb_of Sa111 ⟨by decide, by decide⟩
  obtain ⟨T112, h112, X112, e112, W112, st112⟩ := stI X110 hx hZ e110 Ar111 (j := (11 : Int32)) hin111 (g := (mkF m 176 #[.val (.int p0), .val (.int p1), .val (.ref b1), .unset, .unset, .unset, .unset, .unset, .unset, .unset, .unset] [(.int (1 : Int32)), (.int (11 : Int32)), (.ref b87), (.ref b87)])) rfl rfl (hb hby at_176)
  have V112 : Arv Z h112 b87 k87 .int (17 : Int32) [(.int (1 : Int32)), (.int (1 : Int32)), (.int (1 : Int32)), (.int (1 : Int32)), (.int (1 : Int32)), (.int (1 : Int32)), (.int (1 : Int32)), (.int (1 : Int32)), (.int (1 : Int32)), (.int (1 : Int32)), (.int (1 : Int32)), (.int (1 : Int32)), (.int (0 : Int32)), (.int (0 : Int32)), (.int (0 : Int32)), (.int (0 : Int32)), (.int (0 : Int32))] (.int (0 : Int32)) := Arv.set Ar111 qa111 Sa111 Na111 Ha111 Ga111 rfl W112 11 rfl (Nat.le_of_ble_eq_true rfl)
  have Zs112 : n0 ≤ h112.size := Nat.le_trans Zs110 (Nat.le_of_eq W112.size.symm)
  have N112 := Fr.snoc X112 N110 g_b87
  obtain ⟨cl113, Ar113, qa113, Sa113, Na113, Ha113, Ga113⟩ := id V112
  have hin113 : ¬ ((12 : Int32) < 0 ∨ cl113.slots.size ≤ ((12 : Int32)).toNatClampNeg) := inb_of Sa113 ⟨by decide, by decide⟩
  obtain ⟨T114, h114, X114, e114, W114, st114⟩ := stI X112 hx hZ e112 Ar113 (j := (12 : Int32)) hin113 (g := (mkF m 181 #[.val (.int p0), .val (.int p1), .val (.ref b1), .unset, .unset, .unset, .unset, .unset, .unset, .unset, .unset] [(.int (2 : Int32)), (.int (12 : Int32)), (.ref b87), (.ref b87)])) rfl rfl (hb hby at_181)
  have V114 : Arv Z h114 b87 k87 .int (17 : Int32) [(.int (1 : Int32)), (.int (1 : Int32)), (.int (1 : Int32)), (.int (1 : Int32)), (.int (1 : Int32)), (.int (1 : Int32)), (.int (1 : Int32)), (.int (1 : Int32)), (.int (1 : Int32)), (.int (1 : Int32)), (.int (1 : Int32)), (.int (1 : Int32)), (.int (2 : Int32)), (.int (0 : Int32)), (.int (0 : Int32)), (.int (0 : Int32)), (.int (0 : Int32))] (.int (0 : Int32)) := Arv.set Ar113 qa113 Sa113 Na113 Ha113 Ga113 rfl W114 12 rfl (Nat.le_of_ble_eq_true rfl)
  have Zs114 : n0 ≤ h114.size := Nat.le_trans Zs112 (Nat.le_of_eq W114.size.symm)
  have N114 := Fr.snoc X114 N112 g_b87
  obtain ⟨cl115, Ar115, qa115, Sa115, Na115, Ha115, Ga115⟩ := id V114
  have hin115 : ¬ ((13 : Int32) < 0 ∨ cl115.slots.size ≤ ((13 : Int32)).toNatClampNeg) := inb_of Sa115 ⟨by decide, by decide⟩
  obtain ⟨T116, h116, X116, e116, W116, st116⟩ := stI X114 hx hZ e114 Ar115 (j := (13 : Int32)) hin115 (g := (mkF m 186 #[.val (.int p0), .val (.int p1), .val (.ref b1), .unset, .unset, .unset, .unset, .unset, .unset, .unset, .unset] [(.int (3 : Int32)), (.int (13 : Int32)), (.ref b87), (.ref b87)])) rfl rfl (hb hby at_186)
  have V116 : Arv Z h116 b87 k87 .int (17 : Int32) [(.int (1 : Int32)), (.int (1 : Int32)), (.int (1 : Int32)), (.int (1 : Int32)), (.int (1 : Int32)), (.int (1 : Int32)), (.int (1 : Int32)), (.int (1 : Int32)), (.int (1 : Int32)), (.int (1 : Int32)), (.int (1 : Int32)), (.int (1 : Int32)), (.int (2 : Int32)), (.int (3 : Int32)), (.int (0 : Int32)), (.int (0 : Int32)), (.int (0 : Int32))] (.int (0 : Int32)) := Arv.set Ar115 qa115 Sa115 Na115 Ha115 Ga115 rfl W116 13 rfl (Nat.le_of_ble_eq_true rfl)
  have Zs116 : n0 ≤ h116.size := Nat.le_trans Zs114 (Nat.le_of_eq W116.size.symm)
  have N116 := Fr.snoc X116 N114 g_b87
  obtain ⟨cl117, Ar117, qa117, Sa117, Na117, Ha117, Ga117⟩ := id V116
  have hin117 : ¬ ((14 : Int32) < 0 ∨ cl117.slots.size ≤ ((14 : Int32)).toNatClampNeg) := inb_of Sa117 ⟨by decide, by decide⟩
  obtain ⟨T118, h118, X118, e118, W118, st118⟩ := stI X116 hx hZ e116 Ar117 (j := (14 : Int32)) hin117 (g := (mkF m 191 #[.val (.int p0), .val (.int p1), .val (.ref b1), .unset, .unset, .unset, .unset, .unset, .unset, .unset, .unset] [(.int (1 : Int32)), (.int (14 : Int32)), (.ref b87), (.ref b87)])) rfl rfl (hb hby at_191)
  have V118 : Arv Z h118 b87 k87 .int (17 : Int32) [(.int (1 : Int32)), (.int (1 : Int32)), (.int (1 : Int32)), (.int (1 : Int32)), (.int (1 : Int32)), (.int (1 : Int32)), (.int (1 : Int32)), (.int (1 : Int32)), (.int (1 : Int32)), (.int (1 : Int32)), (.int (1 : Int32)), (.int (1 : Int32)), (.int (2 : Int32)), (.int (3 : Int32)), (.int (1 : Int32)), (.int (0 : Int32)), (.int (0 : Int32))] (.int (0 : Int32)) := Arv.set Ar117 qa117 Sa117 Na117 Ha117 Ga117 rfl W118 14 rfl (Nat.le_of_ble_eq_true rfl)
  have Zs118 : n0 ≤ h118.size := Nat.le_trans Zs116 (Nat.le_of_eq W118.size.symm)
  have N118 := Fr.snoc X118 N116 g_b87
  obtain ⟨cl119, Ar119, qa119, Sa119, Na119, Ha119, Ga119⟩ := id V118
  have hin119 : ¬ ((15 : Int32) < 0 ∨ cl119.slots.size ≤ ((15 : Int32)).toNatClampNeg) := inb_of Sa119 ⟨by decide, by decide⟩
  obtain ⟨T120, h120, X120, e120, W120, st120⟩ := stI X118 hx hZ e118 Ar119 (j := (15 : Int32)) hin119 (g := (mkF m 196 #[.val (.int p0), .val (.int p1), .val (.ref b1), .unset, .unset, .unset, .unset, .unset, .unset, .unset, .unset] [(.int (0 : Int32)), (.int (15 : Int32)), (.ref b87), (.ref b87)])) rfl rfl (hb hby at_196)
  have V120 : Arv Z h120 b87 k87 .int (17 : Int32) [(.int (1 : Int32)), (.int (1 : Int32)), (.int (1 : Int32)), (.int (1 : Int32)), (.int (1 : Int32)), (.int (1 : Int32)), (.int (1 : Int32)), (.int (1 : Int32)), (.int (1 : Int32)), (.int (1 : Int32)), (.int (1 : Int32)), (.int (1 : Int32)), (.int (2 : Int32)), (.int (3 : Int32)), (.int (1 : Int32)), (.int (0 : Int32)), (.int (0 : Int32))] (.int (0 : Int32)) := Arv.set Ar119 qa119 Sa119 Na119 Ha119 Ga119 rfl W120 15 rfl (Nat.le_of_ble_eq_true rfl)
  have Zs120 : n0 ≤ h120.size := Nat.le_trans Zs118 (Nat.le_of_eq W120.size.symm)
  have N120 := Fr.snoc X120 N118 g_b87
  obtain ⟨cl121, Ar121, qa121, Sa121, Na121, Ha121, Ga121⟩ := id V120
  have hin121 : ¬ ((16 : Int32) < 0 ∨ cl121.slots.size ≤ ((16 : Int32)).toNatClampNeg) := inb_of Sa121 ⟨by decide, by decide⟩
  obtain ⟨T122, h122, X122, e122, W122, st122⟩ := stI X120 hx hZ e120 Ar121 (j := (16 : Int32)) hin121 (g := (mkF m 201 #[.val (.int p0), .val (.int p1), .val (.ref b1), .unset, .unset, .unset, .unset, .unset, .unset, .unset, .unset] [(.int (0 : Int32)), (.int (16 : Int32)), (.ref b87), (.ref b87)])) rfl rfl (hb hby at_201)
  have V122 : Arv Z h122 b87 k87 .int (17 : Int32) [(.int (1 : Int32)), (.int (1 : Int32)), (.int (1 : Int32)), (.int (1 : Int32)), (.int (1 : Int32)), (.int (1 : Int32)), (.int (1 : Int32)), (.int (1 : Int32)), (.int (1 : Int32)), (.int (1 : Int32)), (.int (1 : Int32)), (.int (1 : Int32)), (.int (2 : Int32)), (.int (3 : Int32)), (.int (1 : Int32)), (.int (0 : Int32)), (.int (0 : Int32))] (.int (0 : Int32)) := Arv.set Ar121 qa121 Sa121 Na121 Ha121 Ga121 rfl W122 16 rfl (Nat.le_of_ble_eq_true rfl)
  have Zs122 : n0 ≤ h122.size := Nat.le_trans Zs120 (Nat.le_of_eq W122.size.symm)
  have N122 := Fr.snoc X122 N120 g_b87
  obtain ⟨T123, h123, k123, X123, e123, E123, A123, st123⟩ := newP X122 hx hZ (hw _ (List.mem_of_getElem? (i := 54) rfl)) e122 (g := (mkF m 205 #[.val (.int p0), .val (.int p1), .val (.ref b1), .val (.ref b87), .unset, .unset, .unset, .unset, .unset, .unset, .unset] [(.int (17 : Int32))])) rfl (hb hby at_205) rfl (by decide) (cap := 17) (by decide) (by decide) (by decide) (by decide)
  obtain ⟨b123, g123⟩ : ∃ z, z = h122.size := ⟨_, rfl⟩
  rw [← g123] at A123 st123
  have g_b123 : n0 ≤ b123 := Nat.le_trans Zs122 (Nat.le_of_eq g123.symm)
  have E_k_124 := ((((((((((((((((((E_k_88.ext E87).wr W90).wr W92).wr W94).wr W96).wr W98).wr W100).wr W102).wr W104).wr W106).wr W108).wr W110).wr W112).wr W114).wr W116).wr W118).wr W120).wr W122)
  have ne123__W_k_toNatClampNeg_ : (W k.toNatClampNeg) ≠ b123 := Nat.ne_of_lt (Nat.lt_of_lt_of_le (E_k_124).lt (Nat.le_of_eq g123.symm))
  have V86_125 := ((((((((((((((((((V86.ext E87).other W90 ne87_b1).other W92 ne87_b1).other W94 ne87_b1).other W96 ne87_b1).other W98 ne87_b1).other W100 ne87_b1).other W102 ne87_b1).other W104 ne87_b1).other W106 ne87_b1).other W108 ne87_b1).other W110 ne87_b1).other W112 ne87_b1).other W114 ne87_b1).other W116 ne87_b1).other W118 ne87_b1).other W120 ne87_b1).other W122 ne87_b1)
  have ne123_b1 : b1 ≠ b123 := Nat.ne_of_lt (Nat.lt_of_lt_of_le (V86_125).lt (Nat.le_of_eq g123.symm))
  have ne123_b87 : b87 ≠ b123 := Nat.ne_of_lt (Nat.lt_of_lt_of_le (V122).lt (Nat.le_of_eq g123.symm))
  have Zs123 : n0 ≤ h123.size := Nat.le_trans Zs122 E123.1
  have V123 : Arv Z h123 b123 k123 .int (17 : Int32) [(.int (0 : Int32)), (.int (0 : Int32)), (.int (0 : Int32)), (.int (0 : Int32)), (.int (0 : Int32)), (.int (0 : Int32)), (.int (0 : Int32)), (.int (0 : Int32)), (.int (0 : Int32)), (.int (0 : Int32)), (.int (0 : Int32)), (.int (0 : Int32)), (.int (0 : Int32)), (.int (0 : Int32)), (.int (0 : Int32)), (.int (0 : Int32)), (.int (0 : Int32))] (.int (0 : Int32)) := (Arv.new A123 (by decide)).pad (pad_rep [] (.int (0 : Int32)) 17)
  obtain ⟨cl126, Ar126, qa126, Sa126, Na126, Ha126, Ga126⟩ := id V123
  have hin126 : ¬ ((0 : Int32) < 0 ∨ cl126.slots.size ≤ ((0 : Int32)).toNatClampNeg) := inb_of Sa126 ⟨by decide, by decide⟩
  obtain ⟨T127, h127, X127, e127, W127, st127⟩ := stI X123 hx hZ e123 Ar126 (j := (0 : Int32)) hin126 (g := (mkF m 211 #[.val (.int p0), .val (.int p1), .val (.ref b1), .val (.ref b87), .unset, .unset, .unset, .unset, .unset, .unset, .unset] [(.int (2147483647 : Int32)), (.int (0 : Int32)), (.ref b123), (.ref b123)])) rfl rfl (hb hby at_211)
  have V127 : Arv Z h127 b123 k123 .int (17 : Int32) [(.int (2147483647 : Int32)), (.int (0 : Int32)), (.int (0 : Int32)), (.int (0 : Int32)), (.int (0 : Int32)), (.int (0 : Int32)), (.int (0 : Int32)), (.int (0 : Int32)), (.int (0 : Int32)), (.int (0 : Int32)), (.int (0 : Int32)), (.int (0 : Int32)), (.int (0 : Int32)), (.int (0 : Int32)), (.int (0 : Int32)), (.int (0 : Int32)), (.int (0 : Int32))] (.int (0 : Int32)) := Arv.set Ar126 qa126 Sa126 Na126 Ha126 Ga126 rfl W127 0 rfl (Nat.le_of_ble_eq_true rfl)
  have Zs127 : n0 ≤ h127.size := Nat.le_trans Zs123 (Nat.le_of_eq W127.size.symm)
  have N127 := Fr.snoc X127 N122 g_b123
  obtain ⟨cl128, Ar128, qa128, Sa128, Na128, Ha128, Ga128⟩ := id V127
  have hin128 : ¬ ((1 : Int32) < 0 ∨ cl128.slots.size ≤ ((1 : Int32)).toNatClampNeg) := inb_of Sa128 ⟨by decide, by decide⟩
  obtain ⟨T129, h129, X129, e129, W129, st129⟩ := stI X127 hx hZ e127 Ar128 (j := (1 : Int32)) hin128 (g := (mkF m 216 #[.val (.int p0), .val (.int p1), .val (.ref b1), .val (.ref b87), .unset, .unset, .unset, .unset, .unset, .unset, .unset] [(.int (2147483647 : Int32)), (.int (1 : Int32)), (.ref b123), (.ref b123)])) rfl rfl (hb hby at_216)
  have V129 : Arv Z h129 b123 k123 .int (17 : Int32) [(.int (2147483647 : Int32)), (.int (2147483647 : Int32)), (.int (0 : Int32)), (.int (0 : Int32)), (.int (0 : Int32)), (.int (0 : Int32)), (.int (0 : Int32)), (.int (0 : Int32)), (.int (0 : Int32)), (.int (0 : Int32)), (.int (0 : Int32)), (.int (0 : Int32)), (.int (0 : Int32)), (.int (0 : Int32)), (.int (0 : Int32)), (.int (0 : Int32)), (.int (0 : Int32))] (.int (0 : Int32)) := Arv.set Ar128 qa128 Sa128 Na128 Ha128 Ga128 rfl W129 1 rfl (Nat.le_of_ble_eq_true rfl)
  have Zs129 : n0 ≤ h129.size := Nat.le_trans Zs127 (Nat.le_of_eq W129.size.symm)
  have N129 := Fr.snoc X129 N127 g_b123
  obtain ⟨cl130, Ar130, qa130, Sa130, Na130, Ha130, Ga130⟩ := id V129
  have hin130 : ¬ ((2 : Int32) < 0 ∨ cl130.slots.size ≤ ((2 : Int32)).toNatClampNeg) := inb_of Sa130 ⟨by decide, by decide⟩
  obtain ⟨T131, h131, X131, e131, W131, st131⟩ := stI X129 hx hZ e129 Ar130 (j := (2 : Int32)) hin130 (g := (mkF m 221 #[.val (.int p0), .val (.int p1), .val (.ref b1), .val (.ref b87), .unset, .unset, .unset, .unset, .unset, .unset, .unset] [(.int (2147483647 : Int32)), (.int (2 : Int32)), (.ref b123), (.ref b123)])) rfl rfl (hb hby at_221)
  have V131 : Arv Z h131 b123 k123 .int (17 : Int32) [(.int (2147483647 : Int32)), (.int (2147483647 : Int32)), (.int (2147483647 : Int32)), (.int (0 : Int32)), (.int (0 : Int32)), (.int (0 : Int32)), (.int (0 : Int32)), (.int (0 : Int32)), (.int (0 : Int32)), (.int (0 : Int32)), (.int (0 : Int32)), (.int (0 : Int32)), (.int (0 : Int32)), (.int (0 : Int32)), (.int (0 : Int32)), (.int (0 : Int32)), (.int (0 : Int32))] (.int (0 : Int32)) := Arv.set Ar130 qa130 Sa130 Na130 Ha130 Ga130 rfl W131 2 rfl (Nat.le_of_ble_eq_true rfl)
  have Zs131 : n0 ≤ h131.size := Nat.le_trans Zs129 (Nat.le_of_eq W131.size.symm)
  have N131 := Fr.snoc X131 N129 g_b123
  obtain ⟨cl132, Ar132, qa132, Sa132, Na132, Ha132, Ga132⟩ := id V131
  have hin132 : ¬ ((3 : Int32) < 0 ∨ cl132.slots.size ≤ ((3 : Int32)).toNatClampNeg) := inb_of Sa132 ⟨by decide, by decide⟩
  obtain ⟨T133, h133, X133, e133, W133, st133⟩ := stI X131 hx hZ e131 Ar132 (j := (3 : Int32)) hin132 (g := (mkF m 226 #[.val (.int p0), .val (.int p1), .val (.ref b1), .val (.ref b87), .unset, .unset, .unset, .unset, .unset, .unset, .unset] [(.int (2147483647 : Int32)), (.int (3 : Int32)), (.ref b123), (.ref b123)])) rfl rfl (hb hby at_226)
  have V133 : Arv Z h133 b123 k123 .int (17 : Int32) [(.int (2147483647 : Int32)), (.int (2147483647 : Int32)), (.int (2147483647 : Int32)), (.int (2147483647 : Int32)), (.int (0 : Int32)), (.int (0 : Int32)), (.int (0 : Int32)), (.int (0 : Int32)), (.int (0 : Int32)), (.int (0 : Int32)), (.int (0 : Int32)), (.int (0 : Int32)), (.int (0 : Int32)), (.int (0 : Int32)), (.int (0 : Int32)), (.int (0 : Int32)), (.int (0 : Int32))] (.int (0 : Int32)) := Arv.set Ar132 qa132 Sa132 Na132 Ha132 Ga132 rfl W133 3 rfl (Nat.le_of_ble_eq_true rfl)
  have Zs133 : n0 ≤ h133.size := Nat.le_trans Zs131 (Nat.le_of_eq W133.size.symm)
  have N133 := Fr.snoc X133 N131 g_b123
  obtain ⟨cl134, Ar134, qa134, Sa134, Na134, Ha134, Ga134⟩ := id V133
  have hin134 : ¬ ((4 : Int32) < 0 ∨ cl134.slots.size ≤ ((4 : Int32)).toNatClampNeg) := inb_of Sa134 ⟨by decide, by decide⟩
  obtain ⟨T135, h135, X135, e135, W135, st135⟩ := stI X133 hx hZ e133 Ar134 (j := (4 : Int32)) hin134 (g := (mkF m 231 #[.val (.int p0), .val (.int p1), .val (.ref b1), .val (.ref b87), .unset, .unset, .unset, .unset, .unset, .unset, .unset] [(.int (2147483647 : Int32)), (.int (4 : Int32)), (.ref b123), (.ref b123)])) rfl rfl (hb hby at_231)
  have V135 : Arv Z h135 b123 k123 .int (17 : Int32) [(.int (2147483647 : Int32)), (.int (2147483647 : Int32)), (.int (2147483647 : Int32)), (.int (2147483647 : Int32)), (.int (2147483647 : Int32)), (.int (0 : Int32)), (.int (0 : Int32)), (.int (0 : Int32)), (.int (0 : Int32)), (.int (0 : Int32)), (.int (0 : Int32)), (.int (0 : Int32)), (.int (0 : Int32)), (.int (0 : Int32)), (.int (0 : Int32)), (.int (0 : Int32)), (.int (0 : Int32))] (.int (0 : Int32)) := Arv.set Ar134 qa134 Sa134 Na134 Ha134 Ga134 rfl W135 4 rfl (Nat.le_of_ble_eq_true rfl)
  have Zs135 : n0 ≤ h135.size := Nat.le_trans Zs133 (Nat.le_of_eq W135.size.symm)
  have N135 := Fr.snoc X135 N133 g_b123
  obtain ⟨cl136, Ar136, qa136, Sa136, Na136, Ha136, Ga136⟩ := id V135
  have hin136 : ¬ ((5 : Int32) < 0 ∨ cl136.slots.size ≤ ((5 : Int32)).toNatClampNeg) := inb_of Sa136 ⟨by decide, by decide⟩
  obtain ⟨T137, h137, X137, e137, W137, st137⟩ := stI X135 hx hZ e135 Ar136 (j := (5 : Int32)) hin136 (g := (mkF m 236 #[.val (.int p0), .val (.int p1), .val (.ref b1), .val (.ref b87), .unset, .unset, .unset, .unset, .unset, .unset, .unset] [(.int (2147483647 : Int32)), (.int (5 : Int32)), (.ref b123), (.ref b123)])) rfl rfl (hb hby at_236)
  have V137 : Arv Z h137 b123 k123 .int (17 : Int32) [(.int (2147483647 : Int32)), (.int (2147483647 : Int32)), (.int (2147483647 : Int32)), (.int (2147483647 : Int32)), (.int (2147483647 : Int32)), (.int (2147483647 : Int32)), (.int (0 : Int32)), (.int (0 : Int32)), (.int (0 : Int32)), (.int (0 : Int32)), (.int (0 : Int32)), (.int (0 : Int32)), (.int (0 : Int32)), (.int (0 : Int32)), (.int (0 : Int32)), (.int (0 : Int32)), (.int (0 : Int32))] (.int (0 : Int32)) := Arv.set Ar136 qa136 Sa136 Na136 Ha136 Ga136 rfl W137 5 rfl (Nat.le_of_ble_eq_true rfl)
  have Zs137 : n0 ≤ h137.size := Nat.le_trans Zs135 (Nat.le_of_eq W137.size.symm)
  have N137 := Fr.snoc X137 N135 g_b123
  obtain ⟨cl138, Ar138, qa138, Sa138, Na138, Ha138, Ga138⟩ := id V137
  have hin138 : ¬ ((6 : Int32) < 0 ∨ cl138.slots.size ≤ ((6 : Int32)).toNatClampNeg) := inb_of Sa138 ⟨by decide, by decide⟩
  obtain ⟨T139, h139, X139, e139, W139, st139⟩ := stI X137 hx hZ e137 Ar138 (j := (6 : Int32)) hin138 (g := (mkF m 241 #[.val (.int p0), .val (.int p1), .val (.ref b1), .val (.ref b87), .unset, .unset, .unset, .unset, .unset, .unset, .unset] [(.int (2 : Int32)), (.int (6 : Int32)), (.ref b123), (.ref b123)])) rfl rfl (hb hby at_241)
  have V139 : Arv Z h139 b123 k123 .int (17 : Int32) [(.int (2147483647 : Int32)), (.int (2147483647 : Int32)), (.int (2147483647 : Int32)), (.int (2147483647 : Int32)), (.int (2147483647 : Int32)), (.int (2147483647 : Int32)), (.int (2 : Int32)), (.int (0 : Int32)), (.int (0 : Int32)), (.int (0 : Int32)), (.int (0 : Int32)), (.int (0 : Int32)), (.int (0 : Int32)), (.int (0 : Int32)), (.int (0 : Int32)), (.int (0 : Int32)), (.int (0 : Int32))] (.int (0 : Int32)) := Arv.set Ar138 qa138 Sa138 Na138 Ha138 Ga138 rfl W139 6 rfl (Nat.le_of_ble_eq_true rfl)
  have Zs139 : n0 ≤ h139.size := Nat.le_trans Zs137 (Nat.le_of_eq W139.size.symm)
  have N139 := Fr.snoc X139 N137 g_b123
  obtain ⟨cl140, Ar140, qa140, Sa140, Na140, Ha140, Ga140⟩ := id V139
  have hin140 : ¬ ((7 : Int32) < 0 ∨ cl140.slots.size ≤ ((7 : Int32)).toNatClampNeg) := inb_of Sa140 ⟨by decide, by decide⟩
  obtain ⟨T141, h141, X141, e141, W141, st141⟩ := stI X139 hx hZ e139 Ar140 (j := (7 : Int32)) hin140 (g := (mkF m 246 #[.val (.int p0), .val (.int p1), .val (.ref b1), .val (.ref b87), .unset, .unset, .unset, .unset, .unset, .unset, .unset] [(.int (1 : Int32)), (.int (7 : Int32)), (.ref b123), (.ref b123)])) rfl rfl (hb hby at_246)
  have V141 : Arv Z h141 b123 k123 .int (17 : Int32) [(.int (2147483647 : Int32)), (.int (2147483647 : Int32)), (.int (2147483647 : Int32)), (.int (2147483647 : Int32)), (.int (2147483647 : Int32)), (.int (2147483647 : Int32)), (.int (2 : Int32)), (.int (1 : Int32)), (.int (0 : Int32)), (.int (0 : Int32)), (.int (0 : Int32)), (.int (0 : Int32)), (.int (0 : Int32)), (.int (0 : Int32)), (.int (0 : Int32)), (.int (0 : Int32)), (.int (0 : Int32))] (.int (0 : Int32)) := Arv.set Ar140 qa140 Sa140 Na140 Ha140 Ga140 rfl W141 7 rfl (Nat.le_of_ble_eq_true rfl)
  have Zs141 : n0 ≤ h141.size := Nat.le_trans Zs139 (Nat.le_of_eq W141.size.symm)
  have N141 := Fr.snoc X141 N139 g_b123
  obtain ⟨cl142, Ar142, qa142, Sa142, Na142, Ha142, Ga142⟩ := id V141
  have hin142 : ¬ ((8 : Int32) < 0 ∨ cl142.slots.size ≤ ((8 : Int32)).toNatClampNeg) := inb_of Sa142 ⟨by decide, by decide⟩
  obtain ⟨T143, h143, X143, e143, W143, st143⟩ := stI X141 hx hZ e141 Ar142 (j := (8 : Int32)) hin142 (g := (mkF m 251 #[.val (.int p0), .val (.int p1), .val (.ref b1), .val (.ref b87), .unset, .unset, .unset, .unset, .unset, .unset, .unset] [(.int (3 : Int32)), (.int (8 : Int32)), (.ref b123), (.ref b123)])) rfl rfl (hb hby at_251)
  have V143 : Arv Z h143 b123 k123 .int (17 : Int32) [(.int (2147483647 : Int32)), (.int (2147483647 : Int32)), (.int (2147483647 : Int32)), (.int (2147483647 : Int32)), (.int (2147483647 : Int32)), (.int (2147483647 : Int32)), (.int (2 : Int32)), (.int (1 : Int32)), (.int (3 : Int32)), (.int (0 : Int32)), (.int (0 : Int32)), (.int (0 : Int32)), (.int (0 : Int32)), (.int (0 : Int32)), (.int (0 : Int32)), (.int (0 : Int32)), (.int (0 : Int32))] (.int (0 : Int32)) := Arv.set Ar142 qa142 Sa142 Na142 Ha142 Ga142 rfl W143 8 rfl (Nat.le_of_ble_eq_true rfl)
  have Zs143 : n0 ≤ h143.size := Nat.le_trans Zs141 (Nat.le_of_eq W143.size.symm)
  have N143 := Fr.snoc X143 N141 g_b123
  obtain ⟨cl144, Ar144, qa144, Sa144, Na144, Ha144, Ga144⟩ := id V143
  have hin144 : ¬ ((9 : Int32) < 0 ∨ cl144.slots.size ≤ ((9 : Int32)).toNatClampNeg) := inb_of Sa144 ⟨by decide, by decide⟩
  obtain ⟨T145, h145, X145, e145, W145, st145⟩ := stI X143 hx hZ e143 Ar144 (j := (9 : Int32)) hin144 (g := (mkF m 257 #[.val (.int p0), .val (.int p1), .val (.ref b1), .val (.ref b87), .unset, .unset, .unset, .unset, .unset, .unset, .unset] [(.int (2147483647 : Int32)), (.int (9 : Int32)), (.ref b123), (.ref b123)])) rfl rfl (hb hby at_257)
  have V145 : Arv Z h145 b123 k123 .int (17 : Int32) [(.int (2147483647 : Int32)), (.int (2147483647 : Int32)), (.int (2147483647 : Int32)), (.int (2147483647 : Int32)), (.int (2147483647 : Int32)), (.int (2147483647 : Int32)), (.int (2 : Int32)), (.int (1 : Int32)), (.int (3 : Int32)), (.int (2147483647 : Int32)), (.int (0 : Int32)), (.int (0 : Int32)), (.int (0 : Int32)), (.int (0 : Int32)), (.int (0 : Int32)), (.int (0 : Int32)), (.int (0 : Int32))] (.int (0 : Int32)) := Arv.set Ar144 qa144 Sa144 Na144 Ha144 Ga144 rfl W145 9 rfl (Nat.le_of_ble_eq_true rfl)
  have Zs145 : n0 ≤ h145.size := Nat.le_trans Zs143 (Nat.le_of_eq W145.size.symm)
  have N145 := Fr.snoc X145 N143 g_b123
  obtain ⟨cl146, Ar146, qa146, Sa146, Na146, Ha146, Ga146⟩ := id V145
  have hin146 : ¬ ((10 : Int32) < 0 ∨ cl146.slots.size ≤ ((10 : Int32)).toNatClampNeg) := inb_of Sa146 ⟨by decide, by decide⟩
  obtain ⟨T147, h147, X147, e147, W147, st147⟩ := stI X145 hx hZ e145 Ar146 (j := (10 : Int32)) hin146 (g := (mkF m 263 #[.val (.int p0), .val (.int p1), .val (.ref b1), .val (.ref b87), .unset, .unset, .unset, .unset, .unset, .unset, .unset] [(.int (2147483647 : Int32)), (.int (10 : Int32)), (.ref b123), (.ref b123)])) rfl rfl (hb hby at_263)
  have V147 : Arv Z h147 b123 k123 .int (17 : Int32) [(.int (2147483647 : Int32)), (.int (2147483647 : Int32)), (.int (2147483647 : Int32)), (.int (2147483647 : Int32)), (.int (2147483647 : Int32)), (.int (2147483647 : Int32)), (.int (2 : Int32)), (.int (1 : Int32)), (.int (3 : Int32)), (.int (2147483647 : Int32)), (.int (2147483647 : Int32)), (.int (0 : Int32)), (.int (0 : Int32)), (.int (0 : Int32)), (.int (0 : Int32)), (.int (0 : Int32)), (.int (0 : Int32))] (.int (0 : Int32)) := Arv.set Ar146 qa146 Sa146 Na146 Ha146 Ga146 rfl W147 10 rfl (Nat.le_of_ble_eq_true rfl)
  have Zs147 : n0 ≤ h147.size := Nat.le_trans Zs145 (Nat.le_of_eq W147.size.symm)
  have N147 := Fr.snoc X147 N145 g_b123
  obtain ⟨cl148, Ar148, qa148, Sa148, Na148, Ha148, Ga148⟩ := id V147
  have hin148 : ¬ ((11 : Int32) < 0 ∨ cl148.slots.size ≤ ((11 : Int32)).toNatClampNeg) := inb_of Sa148 ⟨by decide, by decide⟩
  obtain ⟨T149, h149, X149, e149, W149, st149⟩ := stI X147 hx hZ e147 Ar148 (j := (11 : Int32)) hin148 (g := (mkF m 268 #[.val (.int p0), .val (.int p1), .val (.ref b1), .val (.ref b87), .unset, .unset, .unset, .unset, .unset, .unset, .unset] [(.int (1 : Int32)), (.int (11 : Int32)), (.ref b123), (.ref b123)])) rfl rfl (hb hby at_268)
  have V149 : Arv Z h149 b123 k123 .int (17 : Int32) [(.int (2147483647 : Int32)), (.int (2147483647 : Int32)), (.int (2147483647 : Int32)), (.int (2147483647 : Int32)), (.int (2147483647 : Int32)), (.int (2147483647 : Int32)), (.int (2 : Int32)), (.int (1 : Int32)), (.int (3 : Int32)), (.int (2147483647 : Int32)), (.int (2147483647 : Int32)), (.int (1 : Int32)), (.int (0 : Int32)), (.int (0 : Int32)), (.int (0 : Int32)), (.int (0 : Int32)), (.int (0 : Int32))] (.int (0 : Int32)) := Arv.set Ar148 qa148 Sa148 Na148 Ha148 Ga148 rfl W149 11 rfl (Nat.le_of_ble_eq_true rfl)
  have Zs149 : n0 ≤ h149.size := Nat.le_trans Zs147 (Nat.le_of_eq W149.size.symm)
  have N149 := Fr.snoc X149 N147 g_b123
  obtain ⟨cl150, Ar150, qa150, Sa150, Na150, Ha150, Ga150⟩ := id V149
  have hin150 : ¬ ((12 : Int32) < 0 ∨ cl150.slots.size ≤ ((12 : Int32)).toNatClampNeg) := inb_of Sa150 ⟨by decide, by decide⟩
  obtain ⟨T151, h151, X151, e151, W151, st151⟩ := stI X149 hx hZ e149 Ar150 (j := (12 : Int32)) hin150 (g := (mkF m 273 #[.val (.int p0), .val (.int p1), .val (.ref b1), .val (.ref b87), .unset, .unset, .unset, .unset, .unset, .unset, .unset] [(.int (3 : Int32)), (.int (12 : Int32)), (.ref b123), (.ref b123)])) rfl rfl (hb hby at_273)
  have V151 : Arv Z h151 b123 k123 .int (17 : Int32) [(.int (2147483647 : Int32)), (.int (2147483647 : Int32)), (.int (2147483647 : Int32)), (.int (2147483647 : Int32)), (.int (2147483647 : Int32)), (.int (2147483647 : Int32)), (.int (2 : Int32)), (.int (1 : Int32)), (.int (3 : Int32)), (.int (2147483647 : Int32)), (.int (2147483647 : Int32)), (.int (1 : Int32)), (.int (3 : Int32)), (.int (0 : Int32)), (.int (0 : Int32)), (.int (0 : Int32)), (.int (0 : Int32))] (.int (0 : Int32)) := Arv.set Ar150 qa150 Sa150 Na150 Ha150 Ga150 rfl W151 12 rfl (Nat.le_of_ble_eq_true rfl)
  have Zs151 : n0 ≤ h151.size := Nat.le_trans Zs149 (Nat.le_of_eq W151.size.symm)
  have N151 := Fr.snoc X151 N149 g_b123
  obtain ⟨cl152, Ar152, qa152, Sa152, Na152, Ha152, Ga152⟩ := id V151
  have hin152 : ¬ ((13 : Int32) < 0 ∨ cl152.slots.size ≤ ((13 : Int32)).toNatClampNeg) := inb_of Sa152 ⟨by decide, by decide⟩
  obtain ⟨T153, h153, X153, e153, W153, st153⟩ := stI X151 hx hZ e151 Ar152 (j := (13 : Int32)) hin152 (g := (mkF m 278 #[.val (.int p0), .val (.int p1), .val (.ref b1), .val (.ref b87), .unset, .unset, .unset, .unset, .unset, .unset, .unset] [(.int (4 : Int32)), (.int (13 : Int32)), (.ref b123), (.ref b123)])) rfl rfl (hb hby at_278)
  have V153 : Arv Z h153 b123 k123 .int (17 : Int32) [(.int (2147483647 : Int32)), (.int (2147483647 : Int32)), (.int (2147483647 : Int32)), (.int (2147483647 : Int32)), (.int (2147483647 : Int32)), (.int (2147483647 : Int32)), (.int (2 : Int32)), (.int (1 : Int32)), (.int (3 : Int32)), (.int (2147483647 : Int32)), (.int (2147483647 : Int32)), (.int (1 : Int32)), (.int (3 : Int32)), (.int (4 : Int32)), (.int (0 : Int32)), (.int (0 : Int32)), (.int (0 : Int32))] (.int (0 : Int32)) := Arv.set Ar152 qa152 Sa152 Na152 Ha152 Ga152 rfl W153 13 rfl (Nat.le_of_ble_eq_true rfl)
  have Zs153 : n0 ≤ h153.size := Nat.le_trans Zs151 (Nat.le_of_eq W153.size.symm)
  have N153 := Fr.snoc X153 N151 g_b123
  obtain ⟨cl154, Ar154, qa154, Sa154, Na154, Ha154, Ga154⟩ := id V153
  have hin154 : ¬ ((14 : Int32) < 0 ∨ cl154.slots.size ≤ ((14 : Int32)).toNatClampNeg) := inb_of Sa154 ⟨by decide, by decide⟩
  obtain ⟨T155, h155, X155, e155, W155, st155⟩ := stI X153 hx hZ e153 Ar154 (j := (14 : Int32)) hin154 (g := (mkF m 284 #[.val (.int p0), .val (.int p1), .val (.ref b1), .val (.ref b87), .unset, .unset, .unset, .unset, .unset, .unset, .unset] [(.int (2147483647 : Int32)), (.int (14 : Int32)), (.ref b123), (.ref b123)])) rfl rfl (hb hby at_284)
  have V155 : Arv Z h155 b123 k123 .int (17 : Int32) [(.int (2147483647 : Int32)), (.int (2147483647 : Int32)), (.int (2147483647 : Int32)), (.int (2147483647 : Int32)), (.int (2147483647 : Int32)), (.int (2147483647 : Int32)), (.int (2 : Int32)), (.int (1 : Int32)), (.int (3 : Int32)), (.int (2147483647 : Int32)), (.int (2147483647 : Int32)), (.int (1 : Int32)), (.int (3 : Int32)), (.int (4 : Int32)), (.int (2147483647 : Int32)), (.int (0 : Int32)), (.int (0 : Int32))] (.int (0 : Int32)) := Arv.set Ar154 qa154 Sa154 Na154 Ha154 Ga154 rfl W155 14 rfl (Nat.le_of_ble_eq_true rfl)
  have Zs155 : n0 ≤ h155.size := Nat.le_trans Zs153 (Nat.le_of_eq W155.size.symm)
  have N155 := Fr.snoc X155 N153 g_b123
  obtain ⟨cl156, Ar156, qa156, Sa156, Na156, Ha156, Ga156⟩ := id V155
  have hin156 : ¬ ((15 : Int32) < 0 ∨ cl156.slots.size ≤ ((15 : Int32)).toNatClampNeg) := inb_of Sa156 ⟨by decide, by decide⟩
  obtain ⟨T157, h157, X157, e157, W157, st157⟩ := stI X155 hx hZ e155 Ar156 (j := (15 : Int32)) hin156 (g := (mkF m 289 #[.val (.int p0), .val (.int p1), .val (.ref b1), .val (.ref b87), .unset, .unset, .unset, .unset, .unset, .unset, .unset] [(.int (0 : Int32)), (.int (15 : Int32)), (.ref b123), (.ref b123)])) rfl rfl (hb hby at_289)
  have V157 : Arv Z h157 b123 k123 .int (17 : Int32) [(.int (2147483647 : Int32)), (.int (2147483647 : Int32)), (.int (2147483647 : Int32)), (.int (2147483647 : Int32)), (.int (2147483647 : Int32)), (.int (2147483647 : Int32)), (.int (2 : Int32)), (.int (1 : Int32)), (.int (3 : Int32)), (.int (2147483647 : Int32)), (.int (2147483647 : Int32)), (.int (1 : Int32)), (.int (3 : Int32)), (.int (4 : Int32)), (.int (2147483647 : Int32)), (.int (0 : Int32)), (.int (0 : Int32))] (.int (0 : Int32)) := Arv.set Ar156 qa156 Sa156 Na156 Ha156 Ga156 rfl W157 15 rfl (Nat.le_of_ble_eq_true rfl)
  have Zs157 : n0 ≤ h157.size := Nat.le_trans Zs155 (Nat.le_of_eq W157.size.symm)
  have N157 := Fr.snoc X157 N155 g_b123
  obtain ⟨cl158, Ar158, qa158, Sa158, Na158, Ha158, Ga158⟩ := id V157
  have hin158 : ¬ ((16 : Int32) < 0 ∨ cl158.slots.size ≤ ((16 : Int32)).toNatClampNeg) := inb_of Sa158 ⟨by decide, by decide⟩
  obtain ⟨T159, h159, X159, e159, W159, st159⟩ := stI X157 hx hZ e157 Ar158 (j := (16 : Int32)) hin158 (g := (mkF m 294 #[.val (.int p0), .val (.int p1), .val (.ref b1), .val (.ref b87), .unset, .unset, .unset, .unset, .unset, .unset, .unset] [(.int (0 : Int32)), (.int (16 : Int32)), (.ref b123), (.ref b123)])) rfl rfl (hb hby at_294)
  have V159 : Arv Z h159 b123 k123 .int (17 : Int32) [(.int (2147483647 : Int32)), (.int (2147483647 : Int32)), (.int (2147483647 : Int32)), (.int (2147483647 : Int32)), (.int (2147483647 : Int32)), (.int (2147483647 : Int32)), (.int (2 : Int32)), (.int (1 : Int32)), (.int (3 : Int32)), (.int (2147483647 : Int32)), (.int (2147483647 : Int32)), (.int (1 : Int32)), (.int (3 : Int32)), (.int (4 : Int32)), (.int (2147483647 : Int32)), (.int (0 : Int32)), (.int (0 : Int32))] (.int (0 : Int32)) := Arv.set Ar158 qa158 Sa158 Na158 Ha158 Ga158 rfl W159 16 rfl (Nat.le_of_ble_eq_true rfl)
  have Zs159 : n0 ≤ h159.size := Nat.le_trans Zs157 (Nat.le_of_eq W159.size.symm)
  have N159 := Fr.snoc X159 N157 g_b123
  have V86_161 := ((((((((((((((((((V86_125.ext E123).other W127 ne123_b1).other W129 ne123_b1).other W131 ne123_b1).other W133 ne123_b1).other W135 ne123_b1).other W137 ne123_b1).other W139 ne123_b1).other W141 ne123_b1).other W143 ne123_b1).other W145 ne123_b1).other W147 ne123_b1).other W149 ne123_b1).other W151 ne123_b1).other W153 ne123_b1).other W155 ne123_b1).other W157 ne123_b1).other W159 ne123_b1)
  obtain ⟨cl160, Ar160, qa160, Sa160, Na160, Ha160, Ga160⟩ := id V86_161
  have hin160 : ¬ (k < 0 ∨ cl160.slots.size ≤ (k).toNatClampNeg) := inb_of Sa160 ⟨hk0, hk1⟩
  have hat160 := Ha160.at hin160 (v := (.ref (W k.toNatClampNeg))) (own_get W _ hlt)
  have V122_163 := ((((((((((((((((((V122.ext E123).other W127 ne123_b87).other W129 ne123_b87).other W131 ne123_b87).other W133 ne123_b87).other W135 ne123_b87).other W137 ne123_b87).other W139 ne123_b87).other W141 ne123_b87).other W143 ne123_b87).other W145 ne123_b87).other W147 ne123_b87).other W149 ne123_b87).other W151 ne123_b87).other W153 ne123_b87).other W155 ne123_b87).other W157 ne123_b87).other W159 ne123_b87)
  obtain ⟨cl162, Ar162, qa162, Sa162, Na162, Ha162, Ga162⟩ := id V122_163
  have hin162 : ¬ (k < 0 ∨ cl162.slots.size ≤ (k).toNatClampNeg) := inb_of Sa162 ⟨hk0, hk1⟩
  have hat162 := Ha162.at hin162 (v := (.int a)) hlo
  obtain ⟨cl164, Ar164, qa164, Sa164, Na164, Ha164, Ga164⟩ := id V159
  have hin164 : ¬ (k < 0 ∨ cl164.slots.size ≤ (k).toNatClampNeg) := inb_of Sa164 ⟨hk0, hk1⟩
  have hat164 := Ha164.at hin164 (v := (.int b)) hhi
  have pre165 : ∀ t, Steps p.tables e below (T159.setTop (mkF m 325 #[.val (.int p0), .val (.int p1), .val (.ref b1), .val (.ref b87), .val (.ref b123), .val (.int k), .val (.ref (W k.toNatClampNeg)), .val (.int a), .val (.int b), .unset, .unset] [])) t → Steps p.tables e below (s₁.setTop (entryFrame m #[(.int p0), (.int p1)] maxLocals)) t := by
    intro t kt
    refine pre0 t ?_
    show Steps p.tables e below (s₁.setTop (mkF m 0 #[.val (.int p0), .val (.int p1), .unset, .unset, .unset, .unset, .unset, .unset, .unset, .unset, .unset] [])) _
    refine XS.bipush X0.here hx rfl (hb hby at_0) ?_
    show Steps p.tables e below (s₁.setTop (mkF m 2 #[.val (.int p0), .val (.int p1), .unset, .unset, .unset, .unset, .unset, .unset, .unset, .unset, .unset] [(.int (17 : Int32))])) _
    refine st1 _ ?_
    show Steps p.tables e below (T1.setTop (mkF m 5 #[.val (.int p0), .val (.int p1), .unset, .unset, .unset, .unset, .unset, .unset, .unset, .unset, .unset] [(.ref b1)])) _
    refine XS.dup X1.here hx rfl (hb hby at_5) rfl rfl ?_
    show Steps p.tables e below (T1.setTop (mkF m 6 #[.val (.int p0), .val (.int p1), .unset, .unset, .unset, .unset, .unset, .unset, .unset, .unset, .unset] [(.ref b1), (.ref b1)])) _
    refine XS.iconst X1.here hx rfl (hb hby at_6) ?_
    show Steps p.tables e below (T1.setTop (mkF m 7 #[.val (.int p0), .val (.int p1), .unset, .unset, .unset, .unset, .unset, .unset, .unset, .unset, .unset] [(.int (0 : Int32)), (.ref b1), (.ref b1)])) _
    refine st3 _ ?_
    show Steps p.tables e below (T3.setTop (mkF m 10 #[.val (.int p0), .val (.int p1), .unset, .unset, .unset, .unset, .unset, .unset, .unset, .unset, .unset] [(.ref (W 0)), (.int (0 : Int32)), (.ref b1), (.ref b1)])) _
    refine st6 _ ?_
    show Steps p.tables e below (T6.setTop (mkF m 11 #[.val (.int p0), .val (.int p1), .unset, .unset, .unset, .unset, .unset, .unset, .unset, .unset, .unset] [(.ref b1)])) _
    refine XS.dup X6.here hx rfl (hb hby at_11) rfl rfl ?_
    show Steps p.tables e below (T6.setTop (mkF m 12 #[.val (.int p0), .val (.int p1), .unset, .unset, .unset, .unset, .unset, .unset, .unset, .unset, .unset] [(.ref b1), (.ref b1)])) _
    refine XS.iconst X6.here hx rfl (hb hby at_12) ?_
    show Steps p.tables e below (T6.setTop (mkF m 13 #[.val (.int p0), .val (.int p1), .unset, .unset, .unset, .unset, .unset, .unset, .unset, .unset, .unset] [(.int (1 : Int32)), (.ref b1), (.ref b1)])) _
    refine st8 _ ?_
    show Steps p.tables e below (T8.setTop (mkF m 16 #[.val (.int p0), .val (.int p1), .unset, .unset, .unset, .unset, .unset, .unset, .unset, .unset, .unset] [(.ref (W 1)), (.int (1 : Int32)), (.ref b1), (.ref b1)])) _
    refine st11 _ ?_
    show Steps p.tables e below (T11.setTop (mkF m 17 #[.val (.int p0), .val (.int p1), .unset, .unset, .unset, .unset, .unset, .unset, .unset, .unset, .unset] [(.ref b1)])) _
    refine XS.dup X11.here hx rfl (hb hby at_17) rfl rfl ?_
    show Steps p.tables e below (T11.setTop (mkF m 18 #[.val (.int p0), .val (.int p1), .unset, .unset, .unset, .unset, .unset, .unset, .unset, .unset, .unset] [(.ref b1), (.ref b1)])) _
    refine XS.iconst X11.here hx rfl (hb hby at_18) ?_
    show Steps p.tables e below (T11.setTop (mkF m 19 #[.val (.int p0), .val (.int p1), .unset, .unset, .unset, .unset, .unset, .unset, .unset, .unset, .unset] [(.int (2 : Int32)), (.ref b1), (.ref b1)])) _
    refine st13 _ ?_
    show Steps p.tables e below (T13.setTop (mkF m 22 #[.val (.int p0), .val (.int p1), .unset, .unset, .unset, .unset, .unset, .unset, .unset, .unset, .unset] [(.ref (W 2)), (.int (2 : Int32)), (.ref b1), (.ref b1)])) _
    refine st16 _ ?_
    show Steps p.tables e below (T16.setTop (mkF m 23 #[.val (.int p0), .val (.int p1), .unset, .unset, .unset, .unset, .unset, .unset, .unset, .unset, .unset] [(.ref b1)])) _
    refine XS.dup X16.here hx rfl (hb hby at_23) rfl rfl ?_
    show Steps p.tables e below (T16.setTop (mkF m 24 #[.val (.int p0), .val (.int p1), .unset, .unset, .unset, .unset, .unset, .unset, .unset, .unset, .unset] [(.ref b1), (.ref b1)])) _
    refine XS.iconst X16.here hx rfl (hb hby at_24) ?_
    show Steps p.tables e below (T16.setTop (mkF m 25 #[.val (.int p0), .val (.int p1), .unset, .unset, .unset, .unset, .unset, .unset, .unset, .unset, .unset] [(.int (3 : Int32)), (.ref b1), (.ref b1)])) _
    refine st18 _ ?_
    show Steps p.tables e below (T18.setTop (mkF m 28 #[.val (.int p0), .val (.int p1), .unset, .unset, .unset, .unset, .unset, .unset, .unset, .unset, .unset] [(.ref (W 3)), (.int (3 : Int32)), (.ref b1), (.ref b1)])) _
    refine st21 _ ?_
    show Steps p.tables e below (T21.setTop (mkF m 29 #[.val (.int p0), .val (.int p1), .unset, .unset, .unset, .unset, .unset, .unset, .unset, .unset, .unset] [(.ref b1)])) _
    refine XS.dup X21.here hx rfl (hb hby at_29) rfl rfl ?_
    show Steps p.tables e below (T21.setTop (mkF m 30 #[.val (.int p0), .val (.int p1), .unset, .unset, .unset, .unset, .unset, .unset, .unset, .unset, .unset] [(.ref b1), (.ref b1)])) _
    refine XS.iconst X21.here hx rfl (hb hby at_30) ?_
    show Steps p.tables e below (T21.setTop (mkF m 31 #[.val (.int p0), .val (.int p1), .unset, .unset, .unset, .unset, .unset, .unset, .unset, .unset, .unset] [(.int (4 : Int32)), (.ref b1), (.ref b1)])) _
    refine st23 _ ?_
    show Steps p.tables e below (T23.setTop (mkF m 34 #[.val (.int p0), .val (.int p1), .unset, .unset, .unset, .unset, .unset, .unset, .unset, .unset, .unset] [(.ref (W 4)), (.int (4 : Int32)), (.ref b1), (.ref b1)])) _
    refine st26 _ ?_
    show Steps p.tables e below (T26.setTop (mkF m 35 #[.val (.int p0), .val (.int p1), .unset, .unset, .unset, .unset, .unset, .unset, .unset, .unset, .unset] [(.ref b1)])) _
    refine XS.dup X26.here hx rfl (hb hby at_35) rfl rfl ?_
    show Steps p.tables e below (T26.setTop (mkF m 36 #[.val (.int p0), .val (.int p1), .unset, .unset, .unset, .unset, .unset, .unset, .unset, .unset, .unset] [(.ref b1), (.ref b1)])) _
    refine XS.iconst X26.here hx rfl (hb hby at_36) ?_
    show Steps p.tables e below (T26.setTop (mkF m 37 #[.val (.int p0), .val (.int p1), .unset, .unset, .unset, .unset, .unset, .unset, .unset, .unset, .unset] [(.int (5 : Int32)), (.ref b1), (.ref b1)])) _
    refine st28 _ ?_
    show Steps p.tables e below (T28.setTop (mkF m 40 #[.val (.int p0), .val (.int p1), .unset, .unset, .unset, .unset, .unset, .unset, .unset, .unset, .unset] [(.ref (W 5)), (.int (5 : Int32)), (.ref b1), (.ref b1)])) _
    refine st31 _ ?_
    show Steps p.tables e below (T31.setTop (mkF m 41 #[.val (.int p0), .val (.int p1), .unset, .unset, .unset, .unset, .unset, .unset, .unset, .unset, .unset] [(.ref b1)])) _
    refine XS.dup X31.here hx rfl (hb hby at_41) rfl rfl ?_
    show Steps p.tables e below (T31.setTop (mkF m 42 #[.val (.int p0), .val (.int p1), .unset, .unset, .unset, .unset, .unset, .unset, .unset, .unset, .unset] [(.ref b1), (.ref b1)])) _
    refine XS.bipush X31.here hx rfl (hb hby at_42) ?_
    show Steps p.tables e below (T31.setTop (mkF m 44 #[.val (.int p0), .val (.int p1), .unset, .unset, .unset, .unset, .unset, .unset, .unset, .unset, .unset] [(.int (6 : Int32)), (.ref b1), (.ref b1)])) _
    refine st33 _ ?_
    show Steps p.tables e below (T33.setTop (mkF m 47 #[.val (.int p0), .val (.int p1), .unset, .unset, .unset, .unset, .unset, .unset, .unset, .unset, .unset] [(.ref (W 6)), (.int (6 : Int32)), (.ref b1), (.ref b1)])) _
    refine st36 _ ?_
    show Steps p.tables e below (T36.setTop (mkF m 48 #[.val (.int p0), .val (.int p1), .unset, .unset, .unset, .unset, .unset, .unset, .unset, .unset, .unset] [(.ref b1)])) _
    refine XS.dup X36.here hx rfl (hb hby at_48) rfl rfl ?_
    show Steps p.tables e below (T36.setTop (mkF m 49 #[.val (.int p0), .val (.int p1), .unset, .unset, .unset, .unset, .unset, .unset, .unset, .unset, .unset] [(.ref b1), (.ref b1)])) _
    refine XS.bipush X36.here hx rfl (hb hby at_49) ?_
    show Steps p.tables e below (T36.setTop (mkF m 51 #[.val (.int p0), .val (.int p1), .unset, .unset, .unset, .unset, .unset, .unset, .unset, .unset, .unset] [(.int (7 : Int32)), (.ref b1), (.ref b1)])) _
    refine st38 _ ?_
    show Steps p.tables e below (T38.setTop (mkF m 54 #[.val (.int p0), .val (.int p1), .unset, .unset, .unset, .unset, .unset, .unset, .unset, .unset, .unset] [(.ref (W 7)), (.int (7 : Int32)), (.ref b1), (.ref b1)])) _
    refine st41 _ ?_
    show Steps p.tables e below (T41.setTop (mkF m 55 #[.val (.int p0), .val (.int p1), .unset, .unset, .unset, .unset, .unset, .unset, .unset, .unset, .unset] [(.ref b1)])) _
    refine XS.dup X41.here hx rfl (hb hby at_55) rfl rfl ?_
    show Steps p.tables e below (T41.setTop (mkF m 56 #[.val (.int p0), .val (.int p1), .unset, .unset, .unset, .unset, .unset, .unset, .unset, .unset, .unset] [(.ref b1), (.ref b1)])) _
    refine XS.bipush X41.here hx rfl (hb hby at_56) ?_
    show Steps p.tables e below (T41.setTop (mkF m 58 #[.val (.int p0), .val (.int p1), .unset, .unset, .unset, .unset, .unset, .unset, .unset, .unset, .unset] [(.int (8 : Int32)), (.ref b1), (.ref b1)])) _
    refine st43 _ ?_
    show Steps p.tables e below (T43.setTop (mkF m 61 #[.val (.int p0), .val (.int p1), .unset, .unset, .unset, .unset, .unset, .unset, .unset, .unset, .unset] [(.ref (W 8)), (.int (8 : Int32)), (.ref b1), (.ref b1)])) _
    refine st46 _ ?_
    show Steps p.tables e below (T46.setTop (mkF m 62 #[.val (.int p0), .val (.int p1), .unset, .unset, .unset, .unset, .unset, .unset, .unset, .unset, .unset] [(.ref b1)])) _
    refine XS.dup X46.here hx rfl (hb hby at_62) rfl rfl ?_
    show Steps p.tables e below (T46.setTop (mkF m 63 #[.val (.int p0), .val (.int p1), .unset, .unset, .unset, .unset, .unset, .unset, .unset, .unset, .unset] [(.ref b1), (.ref b1)])) _
    refine XS.bipush X46.here hx rfl (hb hby at_63) ?_
    show Steps p.tables e below (T46.setTop (mkF m 65 #[.val (.int p0), .val (.int p1), .unset, .unset, .unset, .unset, .unset, .unset, .unset, .unset, .unset] [(.int (9 : Int32)), (.ref b1), (.ref b1)])) _
    refine st48 _ ?_
    show Steps p.tables e below (T48.setTop (mkF m 68 #[.val (.int p0), .val (.int p1), .unset, .unset, .unset, .unset, .unset, .unset, .unset, .unset, .unset] [(.ref (W 9)), (.int (9 : Int32)), (.ref b1), (.ref b1)])) _
    refine st51 _ ?_
    show Steps p.tables e below (T51.setTop (mkF m 69 #[.val (.int p0), .val (.int p1), .unset, .unset, .unset, .unset, .unset, .unset, .unset, .unset, .unset] [(.ref b1)])) _
    refine XS.dup X51.here hx rfl (hb hby at_69) rfl rfl ?_
    show Steps p.tables e below (T51.setTop (mkF m 70 #[.val (.int p0), .val (.int p1), .unset, .unset, .unset, .unset, .unset, .unset, .unset, .unset, .unset] [(.ref b1), (.ref b1)])) _
    refine XS.bipush X51.here hx rfl (hb hby at_70) ?_
    show Steps p.tables e below (T51.setTop (mkF m 72 #[.val (.int p0), .val (.int p1), .unset, .unset, .unset, .unset, .unset, .unset, .unset, .unset, .unset] [(.int (10 : Int32)), (.ref b1), (.ref b1)])) _
    refine st53 _ ?_
    show Steps p.tables e below (T53.setTop (mkF m 75 #[.val (.int p0), .val (.int p1), .unset, .unset, .unset, .unset, .unset, .unset, .unset, .unset, .unset] [(.ref (W 10)), (.int (10 : Int32)), (.ref b1), (.ref b1)])) _
    refine st56 _ ?_
    show Steps p.tables e below (T56.setTop (mkF m 76 #[.val (.int p0), .val (.int p1), .unset, .unset, .unset, .unset, .unset, .unset, .unset, .unset, .unset] [(.ref b1)])) _
    refine XS.dup X56.here hx rfl (hb hby at_76) rfl rfl ?_
    show Steps p.tables e below (T56.setTop (mkF m 77 #[.val (.int p0), .val (.int p1), .unset, .unset, .unset, .unset, .unset, .unset, .unset, .unset, .unset] [(.ref b1), (.ref b1)])) _
    refine XS.bipush X56.here hx rfl (hb hby at_77) ?_
    show Steps p.tables e below (T56.setTop (mkF m 79 #[.val (.int p0), .val (.int p1), .unset, .unset, .unset, .unset, .unset, .unset, .unset, .unset, .unset] [(.int (11 : Int32)), (.ref b1), (.ref b1)])) _
    refine st58 _ ?_
    show Steps p.tables e below (T58.setTop (mkF m 82 #[.val (.int p0), .val (.int p1), .unset, .unset, .unset, .unset, .unset, .unset, .unset, .unset, .unset] [(.ref (W 11)), (.int (11 : Int32)), (.ref b1), (.ref b1)])) _
    refine st61 _ ?_
    show Steps p.tables e below (T61.setTop (mkF m 83 #[.val (.int p0), .val (.int p1), .unset, .unset, .unset, .unset, .unset, .unset, .unset, .unset, .unset] [(.ref b1)])) _
    refine XS.dup X61.here hx rfl (hb hby at_83) rfl rfl ?_
    show Steps p.tables e below (T61.setTop (mkF m 84 #[.val (.int p0), .val (.int p1), .unset, .unset, .unset, .unset, .unset, .unset, .unset, .unset, .unset] [(.ref b1), (.ref b1)])) _
    refine XS.bipush X61.here hx rfl (hb hby at_84) ?_
    show Steps p.tables e below (T61.setTop (mkF m 86 #[.val (.int p0), .val (.int p1), .unset, .unset, .unset, .unset, .unset, .unset, .unset, .unset, .unset] [(.int (12 : Int32)), (.ref b1), (.ref b1)])) _
    refine st63 _ ?_
    show Steps p.tables e below (T63.setTop (mkF m 89 #[.val (.int p0), .val (.int p1), .unset, .unset, .unset, .unset, .unset, .unset, .unset, .unset, .unset] [(.ref (W 12)), (.int (12 : Int32)), (.ref b1), (.ref b1)])) _
    refine st66 _ ?_
    show Steps p.tables e below (T66.setTop (mkF m 90 #[.val (.int p0), .val (.int p1), .unset, .unset, .unset, .unset, .unset, .unset, .unset, .unset, .unset] [(.ref b1)])) _
    refine XS.dup X66.here hx rfl (hb hby at_90) rfl rfl ?_
    show Steps p.tables e below (T66.setTop (mkF m 91 #[.val (.int p0), .val (.int p1), .unset, .unset, .unset, .unset, .unset, .unset, .unset, .unset, .unset] [(.ref b1), (.ref b1)])) _
    refine XS.bipush X66.here hx rfl (hb hby at_91) ?_
    show Steps p.tables e below (T66.setTop (mkF m 93 #[.val (.int p0), .val (.int p1), .unset, .unset, .unset, .unset, .unset, .unset, .unset, .unset, .unset] [(.int (13 : Int32)), (.ref b1), (.ref b1)])) _
    refine st68 _ ?_
    show Steps p.tables e below (T68.setTop (mkF m 96 #[.val (.int p0), .val (.int p1), .unset, .unset, .unset, .unset, .unset, .unset, .unset, .unset, .unset] [(.ref (W 13)), (.int (13 : Int32)), (.ref b1), (.ref b1)])) _
    refine st71 _ ?_
    show Steps p.tables e below (T71.setTop (mkF m 97 #[.val (.int p0), .val (.int p1), .unset, .unset, .unset, .unset, .unset, .unset, .unset, .unset, .unset] [(.ref b1)])) _
    refine XS.dup X71.here hx rfl (hb hby at_97) rfl rfl ?_
    show Steps p.tables e below (T71.setTop (mkF m 98 #[.val (.int p0), .val (.int p1), .unset, .unset, .unset, .unset, .unset, .unset, .unset, .unset, .unset] [(.ref b1), (.ref b1)])) _
    refine XS.bipush X71.here hx rfl (hb hby at_98) ?_
    show Steps p.tables e below (T71.setTop (mkF m 100 #[.val (.int p0), .val (.int p1), .unset, .unset, .unset, .unset, .unset, .unset, .unset, .unset, .unset] [(.int (14 : Int32)), (.ref b1), (.ref b1)])) _
    refine st73 _ ?_
    show Steps p.tables e below (T73.setTop (mkF m 103 #[.val (.int p0), .val (.int p1), .unset, .unset, .unset, .unset, .unset, .unset, .unset, .unset, .unset] [(.ref (W 14)), (.int (14 : Int32)), (.ref b1), (.ref b1)])) _
    refine st76 _ ?_
    show Steps p.tables e below (T76.setTop (mkF m 104 #[.val (.int p0), .val (.int p1), .unset, .unset, .unset, .unset, .unset, .unset, .unset, .unset, .unset] [(.ref b1)])) _
    refine XS.dup X76.here hx rfl (hb hby at_104) rfl rfl ?_
    show Steps p.tables e below (T76.setTop (mkF m 105 #[.val (.int p0), .val (.int p1), .unset, .unset, .unset, .unset, .unset, .unset, .unset, .unset, .unset] [(.ref b1), (.ref b1)])) _
    refine XS.bipush X76.here hx rfl (hb hby at_105) ?_
    show Steps p.tables e below (T76.setTop (mkF m 107 #[.val (.int p0), .val (.int p1), .unset, .unset, .unset, .unset, .unset, .unset, .unset, .unset, .unset] [(.int (15 : Int32)), (.ref b1), (.ref b1)])) _
    refine st78 _ ?_
    show Steps p.tables e below (T78.setTop (mkF m 110 #[.val (.int p0), .val (.int p1), .unset, .unset, .unset, .unset, .unset, .unset, .unset, .unset, .unset] [(.ref (W 15)), (.int (15 : Int32)), (.ref b1), (.ref b1)])) _
    refine st81 _ ?_
    show Steps p.tables e below (T81.setTop (mkF m 111 #[.val (.int p0), .val (.int p1), .unset, .unset, .unset, .unset, .unset, .unset, .unset, .unset, .unset] [(.ref b1)])) _
    refine XS.dup X81.here hx rfl (hb hby at_111) rfl rfl ?_
    show Steps p.tables e below (T81.setTop (mkF m 112 #[.val (.int p0), .val (.int p1), .unset, .unset, .unset, .unset, .unset, .unset, .unset, .unset, .unset] [(.ref b1), (.ref b1)])) _
    refine XS.bipush X81.here hx rfl (hb hby at_112) ?_
    show Steps p.tables e below (T81.setTop (mkF m 114 #[.val (.int p0), .val (.int p1), .unset, .unset, .unset, .unset, .unset, .unset, .unset, .unset, .unset] [(.int (16 : Int32)), (.ref b1), (.ref b1)])) _
    refine st83 _ ?_
    show Steps p.tables e below (T83.setTop (mkF m 117 #[.val (.int p0), .val (.int p1), .unset, .unset, .unset, .unset, .unset, .unset, .unset, .unset, .unset] [(.ref (W 16)), (.int (16 : Int32)), (.ref b1), (.ref b1)])) _
    refine st86 _ ?_
    show Steps p.tables e below (T86.setTop (mkF m 118 #[.val (.int p0), .val (.int p1), .unset, .unset, .unset, .unset, .unset, .unset, .unset, .unset, .unset] [(.ref b1)])) _
    refine XS.astoreN X86.here hx rfl (hb hby at_118) rfl rfl (l' := #[.val (.int p0), .val (.int p1), .val (.ref b1), .unset, .unset, .unset, .unset, .unset, .unset, .unset, .unset]) rfl ?_
    show Steps p.tables e below (T86.setTop (mkF m 119 #[.val (.int p0), .val (.int p1), .val (.ref b1), .unset, .unset, .unset, .unset, .unset, .unset, .unset, .unset] [])) _
    refine XS.bipush X86.here hx rfl (hb hby at_119) ?_
    show Steps p.tables e below (T86.setTop (mkF m 121 #[.val (.int p0), .val (.int p1), .val (.ref b1), .unset, .unset, .unset, .unset, .unset, .unset, .unset, .unset] [(.int (17 : Int32))])) _
    refine st87 _ ?_
    show Steps p.tables e below (T87.setTop (mkF m 123 #[.val (.int p0), .val (.int p1), .val (.ref b1), .unset, .unset, .unset, .unset, .unset, .unset, .unset, .unset] [(.ref b87)])) _
    refine XS.dup X87.here hx rfl (hb hby at_123) rfl rfl ?_
    show Steps p.tables e below (T87.setTop (mkF m 124 #[.val (.int p0), .val (.int p1), .val (.ref b1), .unset, .unset, .unset, .unset, .unset, .unset, .unset, .unset] [(.ref b87), (.ref b87)])) _
    refine XS.iconst X87.here hx rfl (hb hby at_124) ?_
    show Steps p.tables e below (T87.setTop (mkF m 125 #[.val (.int p0), .val (.int p1), .val (.ref b1), .unset, .unset, .unset, .unset, .unset, .unset, .unset, .unset] [(.int (0 : Int32)), (.ref b87), (.ref b87)])) _
    refine XS.iconst X87.here hx rfl (hb hby at_125) ?_
    show Steps p.tables e below (T87.setTop (mkF m 126 #[.val (.int p0), .val (.int p1), .val (.ref b1), .unset, .unset, .unset, .unset, .unset, .unset, .unset, .unset] [(.int (1 : Int32)), (.int (0 : Int32)), (.ref b87), (.ref b87)])) _
    refine st90 _ ?_
    show Steps p.tables e below (T90.setTop (mkF m 127 #[.val (.int p0), .val (.int p1), .val (.ref b1), .unset, .unset, .unset, .unset, .unset, .unset, .unset, .unset] [(.ref b87)])) _
    refine XS.dup X90.here hx rfl (hb hby at_127) rfl rfl ?_
    show Steps p.tables e below (T90.setTop (mkF m 128 #[.val (.int p0), .val (.int p1), .val (.ref b1), .unset, .unset, .unset, .unset, .unset, .unset, .unset, .unset] [(.ref b87), (.ref b87)])) _
    refine XS.iconst X90.here hx rfl (hb hby at_128) ?_
    show Steps p.tables e below (T90.setTop (mkF m 129 #[.val (.int p0), .val (.int p1), .val (.ref b1), .unset, .unset, .unset, .unset, .unset, .unset, .unset, .unset] [(.int (1 : Int32)), (.ref b87), (.ref b87)])) _
    refine XS.iconst X90.here hx rfl (hb hby at_129) ?_
    show Steps p.tables e below (T90.setTop (mkF m 130 #[.val (.int p0), .val (.int p1), .val (.ref b1), .unset, .unset, .unset, .unset, .unset, .unset, .unset, .unset] [(.int (1 : Int32)), (.int (1 : Int32)), (.ref b87), (.ref b87)])) _
    refine st92 _ ?_
    show Steps p.tables e below (T92.setTop (mkF m 131 #[.val (.int p0), .val (.int p1), .val (.ref b1), .unset, .unset, .unset, .unset, .unset, .unset, .unset, .unset] [(.ref b87)])) _
    refine XS.dup X92.here hx rfl (hb hby at_131) rfl rfl ?_
    show Steps p.tables e below (T92.setTop (mkF m 132 #[.val (.int p0), .val (.int p1), .val (.ref b1), .unset, .unset, .unset, .unset, .unset, .unset, .unset, .unset] [(.ref b87), (.ref b87)])) _
    refine XS.iconst X92.here hx rfl (hb hby at_132) ?_
    show Steps p.tables e below (T92.setTop (mkF m 133 #[.val (.int p0), .val (.int p1), .val (.ref b1), .unset, .unset, .unset, .unset, .unset, .unset, .unset, .unset] [(.int (2 : Int32)), (.ref b87), (.ref b87)])) _
    refine XS.iconst X92.here hx rfl (hb hby at_133) ?_
    show Steps p.tables e below (T92.setTop (mkF m 134 #[.val (.int p0), .val (.int p1), .val (.ref b1), .unset, .unset, .unset, .unset, .unset, .unset, .unset, .unset] [(.int (1 : Int32)), (.int (2 : Int32)), (.ref b87), (.ref b87)])) _
    refine st94 _ ?_
    show Steps p.tables e below (T94.setTop (mkF m 135 #[.val (.int p0), .val (.int p1), .val (.ref b1), .unset, .unset, .unset, .unset, .unset, .unset, .unset, .unset] [(.ref b87)])) _
    refine XS.dup X94.here hx rfl (hb hby at_135) rfl rfl ?_
    show Steps p.tables e below (T94.setTop (mkF m 136 #[.val (.int p0), .val (.int p1), .val (.ref b1), .unset, .unset, .unset, .unset, .unset, .unset, .unset, .unset] [(.ref b87), (.ref b87)])) _
    refine XS.iconst X94.here hx rfl (hb hby at_136) ?_
    show Steps p.tables e below (T94.setTop (mkF m 137 #[.val (.int p0), .val (.int p1), .val (.ref b1), .unset, .unset, .unset, .unset, .unset, .unset, .unset, .unset] [(.int (3 : Int32)), (.ref b87), (.ref b87)])) _
    refine XS.iconst X94.here hx rfl (hb hby at_137) ?_
    show Steps p.tables e below (T94.setTop (mkF m 138 #[.val (.int p0), .val (.int p1), .val (.ref b1), .unset, .unset, .unset, .unset, .unset, .unset, .unset, .unset] [(.int (1 : Int32)), (.int (3 : Int32)), (.ref b87), (.ref b87)])) _
    refine st96 _ ?_
    show Steps p.tables e below (T96.setTop (mkF m 139 #[.val (.int p0), .val (.int p1), .val (.ref b1), .unset, .unset, .unset, .unset, .unset, .unset, .unset, .unset] [(.ref b87)])) _
    refine XS.dup X96.here hx rfl (hb hby at_139) rfl rfl ?_
    show Steps p.tables e below (T96.setTop (mkF m 140 #[.val (.int p0), .val (.int p1), .val (.ref b1), .unset, .unset, .unset, .unset, .unset, .unset, .unset, .unset] [(.ref b87), (.ref b87)])) _
    refine XS.iconst X96.here hx rfl (hb hby at_140) ?_
    show Steps p.tables e below (T96.setTop (mkF m 141 #[.val (.int p0), .val (.int p1), .val (.ref b1), .unset, .unset, .unset, .unset, .unset, .unset, .unset, .unset] [(.int (4 : Int32)), (.ref b87), (.ref b87)])) _
    refine XS.iconst X96.here hx rfl (hb hby at_141) ?_
    show Steps p.tables e below (T96.setTop (mkF m 142 #[.val (.int p0), .val (.int p1), .val (.ref b1), .unset, .unset, .unset, .unset, .unset, .unset, .unset, .unset] [(.int (1 : Int32)), (.int (4 : Int32)), (.ref b87), (.ref b87)])) _
    refine st98 _ ?_
    show Steps p.tables e below (T98.setTop (mkF m 143 #[.val (.int p0), .val (.int p1), .val (.ref b1), .unset, .unset, .unset, .unset, .unset, .unset, .unset, .unset] [(.ref b87)])) _
    refine XS.dup X98.here hx rfl (hb hby at_143) rfl rfl ?_
    show Steps p.tables e below (T98.setTop (mkF m 144 #[.val (.int p0), .val (.int p1), .val (.ref b1), .unset, .unset, .unset, .unset, .unset, .unset, .unset, .unset] [(.ref b87), (.ref b87)])) _
    refine XS.iconst X98.here hx rfl (hb hby at_144) ?_
    show Steps p.tables e below (T98.setTop (mkF m 145 #[.val (.int p0), .val (.int p1), .val (.ref b1), .unset, .unset, .unset, .unset, .unset, .unset, .unset, .unset] [(.int (5 : Int32)), (.ref b87), (.ref b87)])) _
    refine XS.iconst X98.here hx rfl (hb hby at_145) ?_
    show Steps p.tables e below (T98.setTop (mkF m 146 #[.val (.int p0), .val (.int p1), .val (.ref b1), .unset, .unset, .unset, .unset, .unset, .unset, .unset, .unset] [(.int (1 : Int32)), (.int (5 : Int32)), (.ref b87), (.ref b87)])) _
    refine st100 _ ?_
    show Steps p.tables e below (T100.setTop (mkF m 147 #[.val (.int p0), .val (.int p1), .val (.ref b1), .unset, .unset, .unset, .unset, .unset, .unset, .unset, .unset] [(.ref b87)])) _
    refine XS.dup X100.here hx rfl (hb hby at_147) rfl rfl ?_
    show Steps p.tables e below (T100.setTop (mkF m 148 #[.val (.int p0), .val (.int p1), .val (.ref b1), .unset, .unset, .unset, .unset, .unset, .unset, .unset, .unset] [(.ref b87), (.ref b87)])) _
    refine XS.bipush X100.here hx rfl (hb hby at_148) ?_
    show Steps p.tables e below (T100.setTop (mkF m 150 #[.val (.int p0), .val (.int p1), .val (.ref b1), .unset, .unset, .unset, .unset, .unset, .unset, .unset, .unset] [(.int (6 : Int32)), (.ref b87), (.ref b87)])) _
    refine XS.iconst X100.here hx rfl (hb hby at_150) ?_
    show Steps p.tables e below (T100.setTop (mkF m 151 #[.val (.int p0), .val (.int p1), .val (.ref b1), .unset, .unset, .unset, .unset, .unset, .unset, .unset, .unset] [(.int (1 : Int32)), (.int (6 : Int32)), (.ref b87), (.ref b87)])) _
    refine st102 _ ?_
    show Steps p.tables e below (T102.setTop (mkF m 152 #[.val (.int p0), .val (.int p1), .val (.ref b1), .unset, .unset, .unset, .unset, .unset, .unset, .unset, .unset] [(.ref b87)])) _
    refine XS.dup X102.here hx rfl (hb hby at_152) rfl rfl ?_
    show Steps p.tables e below (T102.setTop (mkF m 153 #[.val (.int p0), .val (.int p1), .val (.ref b1), .unset, .unset, .unset, .unset, .unset, .unset, .unset, .unset] [(.ref b87), (.ref b87)])) _
    refine XS.bipush X102.here hx rfl (hb hby at_153) ?_
    show Steps p.tables e below (T102.setTop (mkF m 155 #[.val (.int p0), .val (.int p1), .val (.ref b1), .unset, .unset, .unset, .unset, .unset, .unset, .unset, .unset] [(.int (7 : Int32)), (.ref b87), (.ref b87)])) _
    refine XS.iconst X102.here hx rfl (hb hby at_155) ?_
    show Steps p.tables e below (T102.setTop (mkF m 156 #[.val (.int p0), .val (.int p1), .val (.ref b1), .unset, .unset, .unset, .unset, .unset, .unset, .unset, .unset] [(.int (1 : Int32)), (.int (7 : Int32)), (.ref b87), (.ref b87)])) _
    refine st104 _ ?_
    show Steps p.tables e below (T104.setTop (mkF m 157 #[.val (.int p0), .val (.int p1), .val (.ref b1), .unset, .unset, .unset, .unset, .unset, .unset, .unset, .unset] [(.ref b87)])) _
    refine XS.dup X104.here hx rfl (hb hby at_157) rfl rfl ?_
    show Steps p.tables e below (T104.setTop (mkF m 158 #[.val (.int p0), .val (.int p1), .val (.ref b1), .unset, .unset, .unset, .unset, .unset, .unset, .unset, .unset] [(.ref b87), (.ref b87)])) _
    refine XS.bipush X104.here hx rfl (hb hby at_158) ?_
    show Steps p.tables e below (T104.setTop (mkF m 160 #[.val (.int p0), .val (.int p1), .val (.ref b1), .unset, .unset, .unset, .unset, .unset, .unset, .unset, .unset] [(.int (8 : Int32)), (.ref b87), (.ref b87)])) _
    refine XS.iconst X104.here hx rfl (hb hby at_160) ?_
    show Steps p.tables e below (T104.setTop (mkF m 161 #[.val (.int p0), .val (.int p1), .val (.ref b1), .unset, .unset, .unset, .unset, .unset, .unset, .unset, .unset] [(.int (1 : Int32)), (.int (8 : Int32)), (.ref b87), (.ref b87)])) _
    refine st106 _ ?_
    show Steps p.tables e below (T106.setTop (mkF m 162 #[.val (.int p0), .val (.int p1), .val (.ref b1), .unset, .unset, .unset, .unset, .unset, .unset, .unset, .unset] [(.ref b87)])) _
    refine XS.dup X106.here hx rfl (hb hby at_162) rfl rfl ?_
    show Steps p.tables e below (T106.setTop (mkF m 163 #[.val (.int p0), .val (.int p1), .val (.ref b1), .unset, .unset, .unset, .unset, .unset, .unset, .unset, .unset] [(.ref b87), (.ref b87)])) _
    refine XS.bipush X106.here hx rfl (hb hby at_163) ?_
    show Steps p.tables e below (T106.setTop (mkF m 165 #[.val (.int p0), .val (.int p1), .val (.ref b1), .unset, .unset, .unset, .unset, .unset, .unset, .unset, .unset] [(.int (9 : Int32)), (.ref b87), (.ref b87)])) _
    refine XS.iconst X106.here hx rfl (hb hby at_165) ?_
    show Steps p.tables e below (T106.setTop (mkF m 166 #[.val (.int p0), .val (.int p1), .val (.ref b1), .unset, .unset, .unset, .unset, .unset, .unset, .unset, .unset] [(.int (1 : Int32)), (.int (9 : Int32)), (.ref b87), (.ref b87)])) _
    refine st108 _ ?_
    show Steps p.tables e below (T108.setTop (mkF m 167 #[.val (.int p0), .val (.int p1), .val (.ref b1), .unset, .unset, .unset, .unset, .unset, .unset, .unset, .unset] [(.ref b87)])) _
    refine XS.dup X108.here hx rfl (hb hby at_167) rfl rfl ?_
    show Steps p.tables e below (T108.setTop (mkF m 168 #[.val (.int p0), .val (.int p1), .val (.ref b1), .unset, .unset, .unset, .unset, .unset, .unset, .unset, .unset] [(.ref b87), (.ref b87)])) _
    refine XS.bipush X108.here hx rfl (hb hby at_168) ?_
    show Steps p.tables e below (T108.setTop (mkF m 170 #[.val (.int p0), .val (.int p1), .val (.ref b1), .unset, .unset, .unset, .unset, .unset, .unset, .unset, .unset] [(.int (10 : Int32)), (.ref b87), (.ref b87)])) _
    refine XS.iconst X108.here hx rfl (hb hby at_170) ?_
    show Steps p.tables e below (T108.setTop (mkF m 171 #[.val (.int p0), .val (.int p1), .val (.ref b1), .unset, .unset, .unset, .unset, .unset, .unset, .unset, .unset] [(.int (1 : Int32)), (.int (10 : Int32)), (.ref b87), (.ref b87)])) _
    refine st110 _ ?_
    show Steps p.tables e below (T110.setTop (mkF m 172 #[.val (.int p0), .val (.int p1), .val (.ref b1), .unset, .unset, .unset, .unset, .unset, .unset, .unset, .unset] [(.ref b87)])) _
    refine XS.dup X110.here hx rfl (hb hby at_172) rfl rfl ?_
    show Steps p.tables e below (T110.setTop (mkF m 173 #[.val (.int p0), .val (.int p1), .val (.ref b1), .unset, .unset, .unset, .unset, .unset, .unset, .unset, .unset] [(.ref b87), (.ref b87)])) _
    refine XS.bipush X110.here hx rfl (hb hby at_173) ?_
    show Steps p.tables e below (T110.setTop (mkF m 175 #[.val (.int p0), .val (.int p1), .val (.ref b1), .unset, .unset, .unset, .unset, .unset, .unset, .unset, .unset] [(.int (11 : Int32)), (.ref b87), (.ref b87)])) _
    refine XS.iconst X110.here hx rfl (hb hby at_175) ?_
    show Steps p.tables e below (T110.setTop (mkF m 176 #[.val (.int p0), .val (.int p1), .val (.ref b1), .unset, .unset, .unset, .unset, .unset, .unset, .unset, .unset] [(.int (1 : Int32)), (.int (11 : Int32)), (.ref b87), (.ref b87)])) _
    refine st112 _ ?_
    show Steps p.tables e below (T112.setTop (mkF m 177 #[.val (.int p0), .val (.int p1), .val (.ref b1), .unset, .unset, .unset, .unset, .unset, .unset, .unset, .unset] [(.ref b87)])) _
    refine XS.dup X112.here hx rfl (hb hby at_177) rfl rfl ?_
    show Steps p.tables e below (T112.setTop (mkF m 178 #[.val (.int p0), .val (.int p1), .val (.ref b1), .unset, .unset, .unset, .unset, .unset, .unset, .unset, .unset] [(.ref b87), (.ref b87)])) _
    refine XS.bipush X112.here hx rfl (hb hby at_178) ?_
    show Steps p.tables e below (T112.setTop (mkF m 180 #[.val (.int p0), .val (.int p1), .val (.ref b1), .unset, .unset, .unset, .unset, .unset, .unset, .unset, .unset] [(.int (12 : Int32)), (.ref b87), (.ref b87)])) _
    refine XS.iconst X112.here hx rfl (hb hby at_180) ?_
    show Steps p.tables e below (T112.setTop (mkF m 181 #[.val (.int p0), .val (.int p1), .val (.ref b1), .unset, .unset, .unset, .unset, .unset, .unset, .unset, .unset] [(.int (2 : Int32)), (.int (12 : Int32)), (.ref b87), (.ref b87)])) _
    refine st114 _ ?_
    show Steps p.tables e below (T114.setTop (mkF m 182 #[.val (.int p0), .val (.int p1), .val (.ref b1), .unset, .unset, .unset, .unset, .unset, .unset, .unset, .unset] [(.ref b87)])) _
    refine XS.dup X114.here hx rfl (hb hby at_182) rfl rfl ?_
    show Steps p.tables e below (T114.setTop (mkF m 183 #[.val (.int p0), .val (.int p1), .val (.ref b1), .unset, .unset, .unset, .unset, .unset, .unset, .unset, .unset] [(.ref b87), (.ref b87)])) _
    refine XS.bipush X114.here hx rfl (hb hby at_183) ?_
    show Steps p.tables e below (T114.setTop (mkF m 185 #[.val (.int p0), .val (.int p1), .val (.ref b1), .unset, .unset, .unset, .unset, .unset, .unset, .unset, .unset] [(.int (13 : Int32)), (.ref b87), (.ref b87)])) _
    refine XS.iconst X114.here hx rfl (hb hby at_185) ?_
    show Steps p.tables e below (T114.setTop (mkF m 186 #[.val (.int p0), .val (.int p1), .val (.ref b1), .unset, .unset, .unset, .unset, .unset, .unset, .unset, .unset] [(.int (3 : Int32)), (.int (13 : Int32)), (.ref b87), (.ref b87)])) _
    refine st116 _ ?_
    show Steps p.tables e below (T116.setTop (mkF m 187 #[.val (.int p0), .val (.int p1), .val (.ref b1), .unset, .unset, .unset, .unset, .unset, .unset, .unset, .unset] [(.ref b87)])) _
    refine XS.dup X116.here hx rfl (hb hby at_187) rfl rfl ?_
    show Steps p.tables e below (T116.setTop (mkF m 188 #[.val (.int p0), .val (.int p1), .val (.ref b1), .unset, .unset, .unset, .unset, .unset, .unset, .unset, .unset] [(.ref b87), (.ref b87)])) _
    refine XS.bipush X116.here hx rfl (hb hby at_188) ?_
    show Steps p.tables e below (T116.setTop (mkF m 190 #[.val (.int p0), .val (.int p1), .val (.ref b1), .unset, .unset, .unset, .unset, .unset, .unset, .unset, .unset] [(.int (14 : Int32)), (.ref b87), (.ref b87)])) _
    refine XS.iconst X116.here hx rfl (hb hby at_190) ?_
    show Steps p.tables e below (T116.setTop (mkF m 191 #[.val (.int p0), .val (.int p1), .val (.ref b1), .unset, .unset, .unset, .unset, .unset, .unset, .unset, .unset] [(.int (1 : Int32)), (.int (14 : Int32)), (.ref b87), (.ref b87)])) _
    refine st118 _ ?_
    show Steps p.tables e below (T118.setTop (mkF m 192 #[.val (.int p0), .val (.int p1), .val (.ref b1), .unset, .unset, .unset, .unset, .unset, .unset, .unset, .unset] [(.ref b87)])) _
    refine XS.dup X118.here hx rfl (hb hby at_192) rfl rfl ?_
    show Steps p.tables e below (T118.setTop (mkF m 193 #[.val (.int p0), .val (.int p1), .val (.ref b1), .unset, .unset, .unset, .unset, .unset, .unset, .unset, .unset] [(.ref b87), (.ref b87)])) _
    refine XS.bipush X118.here hx rfl (hb hby at_193) ?_
    show Steps p.tables e below (T118.setTop (mkF m 195 #[.val (.int p0), .val (.int p1), .val (.ref b1), .unset, .unset, .unset, .unset, .unset, .unset, .unset, .unset] [(.int (15 : Int32)), (.ref b87), (.ref b87)])) _
    refine XS.iconst X118.here hx rfl (hb hby at_195) ?_
    show Steps p.tables e below (T118.setTop (mkF m 196 #[.val (.int p0), .val (.int p1), .val (.ref b1), .unset, .unset, .unset, .unset, .unset, .unset, .unset, .unset] [(.int (0 : Int32)), (.int (15 : Int32)), (.ref b87), (.ref b87)])) _
    refine st120 _ ?_
    show Steps p.tables e below (T120.setTop (mkF m 197 #[.val (.int p0), .val (.int p1), .val (.ref b1), .unset, .unset, .unset, .unset, .unset, .unset, .unset, .unset] [(.ref b87)])) _
    refine XS.dup X120.here hx rfl (hb hby at_197) rfl rfl ?_
    show Steps p.tables e below (T120.setTop (mkF m 198 #[.val (.int p0), .val (.int p1), .val (.ref b1), .unset, .unset, .unset, .unset, .unset, .unset, .unset, .unset] [(.ref b87), (.ref b87)])) _
    refine XS.bipush X120.here hx rfl (hb hby at_198) ?_
    show Steps p.tables e below (T120.setTop (mkF m 200 #[.val (.int p0), .val (.int p1), .val (.ref b1), .unset, .unset, .unset, .unset, .unset, .unset, .unset, .unset] [(.int (16 : Int32)), (.ref b87), (.ref b87)])) _
    refine XS.iconst X120.here hx rfl (hb hby at_200) ?_
    show Steps p.tables e below (T120.setTop (mkF m 201 #[.val (.int p0), .val (.int p1), .val (.ref b1), .unset, .unset, .unset, .unset, .unset, .unset, .unset, .unset] [(.int (0 : Int32)), (.int (16 : Int32)), (.ref b87), (.ref b87)])) _
    refine st122 _ ?_
    show Steps p.tables e below (T122.setTop (mkF m 202 #[.val (.int p0), .val (.int p1), .val (.ref b1), .unset, .unset, .unset, .unset, .unset, .unset, .unset, .unset] [(.ref b87)])) _
    refine XS.astoreN X122.here hx rfl (hb hby at_202) rfl rfl (l' := #[.val (.int p0), .val (.int p1), .val (.ref b1), .val (.ref b87), .unset, .unset, .unset, .unset, .unset, .unset, .unset]) rfl ?_
    show Steps p.tables e below (T122.setTop (mkF m 203 #[.val (.int p0), .val (.int p1), .val (.ref b1), .val (.ref b87), .unset, .unset, .unset, .unset, .unset, .unset, .unset] [])) _
    refine XS.bipush X122.here hx rfl (hb hby at_203) ?_
    show Steps p.tables e below (T122.setTop (mkF m 205 #[.val (.int p0), .val (.int p1), .val (.ref b1), .val (.ref b87), .unset, .unset, .unset, .unset, .unset, .unset, .unset] [(.int (17 : Int32))])) _
    refine st123 _ ?_
    show Steps p.tables e below (T123.setTop (mkF m 207 #[.val (.int p0), .val (.int p1), .val (.ref b1), .val (.ref b87), .unset, .unset, .unset, .unset, .unset, .unset, .unset] [(.ref b123)])) _
    refine XS.dup X123.here hx rfl (hb hby at_207) rfl rfl ?_
    show Steps p.tables e below (T123.setTop (mkF m 208 #[.val (.int p0), .val (.int p1), .val (.ref b1), .val (.ref b87), .unset, .unset, .unset, .unset, .unset, .unset, .unset] [(.ref b123), (.ref b123)])) _
    refine XS.iconst X123.here hx rfl (hb hby at_208) ?_
    show Steps p.tables e below (T123.setTop (mkF m 209 #[.val (.int p0), .val (.int p1), .val (.ref b1), .val (.ref b87), .unset, .unset, .unset, .unset, .unset, .unset, .unset] [(.int (0 : Int32)), (.ref b123), (.ref b123)])) _
    refine X123.ldcInt hx hown (mvT hZ (hw _ (List.mem_of_getElem? (i := 55) rfl))) (g := (mkF m 209 #[.val (.int p0), .val (.int p1), .val (.ref b1), .val (.ref b87), .unset, .unset, .unset, .unset, .unset, .unset, .unset] [(.int (0 : Int32)), (.ref b123), (.ref b123)])) rfl (hb hby at_209) _ ?_
    show Steps p.tables e below (T123.setTop (mkF m 211 #[.val (.int p0), .val (.int p1), .val (.ref b1), .val (.ref b87), .unset, .unset, .unset, .unset, .unset, .unset, .unset] [(.int (2147483647 : Int32)), (.int (0 : Int32)), (.ref b123), (.ref b123)])) _
    refine st127 _ ?_
    show Steps p.tables e below (T127.setTop (mkF m 212 #[.val (.int p0), .val (.int p1), .val (.ref b1), .val (.ref b87), .unset, .unset, .unset, .unset, .unset, .unset, .unset] [(.ref b123)])) _
    refine XS.dup X127.here hx rfl (hb hby at_212) rfl rfl ?_
    show Steps p.tables e below (T127.setTop (mkF m 213 #[.val (.int p0), .val (.int p1), .val (.ref b1), .val (.ref b87), .unset, .unset, .unset, .unset, .unset, .unset, .unset] [(.ref b123), (.ref b123)])) _
    refine XS.iconst X127.here hx rfl (hb hby at_213) ?_
    show Steps p.tables e below (T127.setTop (mkF m 214 #[.val (.int p0), .val (.int p1), .val (.ref b1), .val (.ref b87), .unset, .unset, .unset, .unset, .unset, .unset, .unset] [(.int (1 : Int32)), (.ref b123), (.ref b123)])) _
    refine X127.ldcInt hx hown (mvT hZ (hw _ (List.mem_of_getElem? (i := 55) rfl))) (g := (mkF m 214 #[.val (.int p0), .val (.int p1), .val (.ref b1), .val (.ref b87), .unset, .unset, .unset, .unset, .unset, .unset, .unset] [(.int (1 : Int32)), (.ref b123), (.ref b123)])) rfl (hb hby at_214) _ ?_
    show Steps p.tables e below (T127.setTop (mkF m 216 #[.val (.int p0), .val (.int p1), .val (.ref b1), .val (.ref b87), .unset, .unset, .unset, .unset, .unset, .unset, .unset] [(.int (2147483647 : Int32)), (.int (1 : Int32)), (.ref b123), (.ref b123)])) _
    refine st129 _ ?_
    show Steps p.tables e below (T129.setTop (mkF m 217 #[.val (.int p0), .val (.int p1), .val (.ref b1), .val (.ref b87), .unset, .unset, .unset, .unset, .unset, .unset, .unset] [(.ref b123)])) _
    refine XS.dup X129.here hx rfl (hb hby at_217) rfl rfl ?_
    show Steps p.tables e below (T129.setTop (mkF m 218 #[.val (.int p0), .val (.int p1), .val (.ref b1), .val (.ref b87), .unset, .unset, .unset, .unset, .unset, .unset, .unset] [(.ref b123), (.ref b123)])) _
    refine XS.iconst X129.here hx rfl (hb hby at_218) ?_
    show Steps p.tables e below (T129.setTop (mkF m 219 #[.val (.int p0), .val (.int p1), .val (.ref b1), .val (.ref b87), .unset, .unset, .unset, .unset, .unset, .unset, .unset] [(.int (2 : Int32)), (.ref b123), (.ref b123)])) _
    refine X129.ldcInt hx hown (mvT hZ (hw _ (List.mem_of_getElem? (i := 55) rfl))) (g := (mkF m 219 #[.val (.int p0), .val (.int p1), .val (.ref b1), .val (.ref b87), .unset, .unset, .unset, .unset, .unset, .unset, .unset] [(.int (2 : Int32)), (.ref b123), (.ref b123)])) rfl (hb hby at_219) _ ?_
    show Steps p.tables e below (T129.setTop (mkF m 221 #[.val (.int p0), .val (.int p1), .val (.ref b1), .val (.ref b87), .unset, .unset, .unset, .unset, .unset, .unset, .unset] [(.int (2147483647 : Int32)), (.int (2 : Int32)), (.ref b123), (.ref b123)])) _
    refine st131 _ ?_
    show Steps p.tables e below (T131.setTop (mkF m 222 #[.val (.int p0), .val (.int p1), .val (.ref b1), .val (.ref b87), .unset, .unset, .unset, .unset, .unset, .unset, .unset] [(.ref b123)])) _
    refine XS.dup X131.here hx rfl (hb hby at_222) rfl rfl ?_
    show Steps p.tables e below (T131.setTop (mkF m 223 #[.val (.int p0), .val (.int p1), .val (.ref b1), .val (.ref b87), .unset, .unset, .unset, .unset, .unset, .unset, .unset] [(.ref b123), (.ref b123)])) _
    refine XS.iconst X131.here hx rfl (hb hby at_223) ?_
    show Steps p.tables e below (T131.setTop (mkF m 224 #[.val (.int p0), .val (.int p1), .val (.ref b1), .val (.ref b87), .unset, .unset, .unset, .unset, .unset, .unset, .unset] [(.int (3 : Int32)), (.ref b123), (.ref b123)])) _
    refine X131.ldcInt hx hown (mvT hZ (hw _ (List.mem_of_getElem? (i := 55) rfl))) (g := (mkF m 224 #[.val (.int p0), .val (.int p1), .val (.ref b1), .val (.ref b87), .unset, .unset, .unset, .unset, .unset, .unset, .unset] [(.int (3 : Int32)), (.ref b123), (.ref b123)])) rfl (hb hby at_224) _ ?_
    show Steps p.tables e below (T131.setTop (mkF m 226 #[.val (.int p0), .val (.int p1), .val (.ref b1), .val (.ref b87), .unset, .unset, .unset, .unset, .unset, .unset, .unset] [(.int (2147483647 : Int32)), (.int (3 : Int32)), (.ref b123), (.ref b123)])) _
    refine st133 _ ?_
    show Steps p.tables e below (T133.setTop (mkF m 227 #[.val (.int p0), .val (.int p1), .val (.ref b1), .val (.ref b87), .unset, .unset, .unset, .unset, .unset, .unset, .unset] [(.ref b123)])) _
    refine XS.dup X133.here hx rfl (hb hby at_227) rfl rfl ?_
    show Steps p.tables e below (T133.setTop (mkF m 228 #[.val (.int p0), .val (.int p1), .val (.ref b1), .val (.ref b87), .unset, .unset, .unset, .unset, .unset, .unset, .unset] [(.ref b123), (.ref b123)])) _
    refine XS.iconst X133.here hx rfl (hb hby at_228) ?_
    show Steps p.tables e below (T133.setTop (mkF m 229 #[.val (.int p0), .val (.int p1), .val (.ref b1), .val (.ref b87), .unset, .unset, .unset, .unset, .unset, .unset, .unset] [(.int (4 : Int32)), (.ref b123), (.ref b123)])) _
    refine X133.ldcInt hx hown (mvT hZ (hw _ (List.mem_of_getElem? (i := 55) rfl))) (g := (mkF m 229 #[.val (.int p0), .val (.int p1), .val (.ref b1), .val (.ref b87), .unset, .unset, .unset, .unset, .unset, .unset, .unset] [(.int (4 : Int32)), (.ref b123), (.ref b123)])) rfl (hb hby at_229) _ ?_
    show Steps p.tables e below (T133.setTop (mkF m 231 #[.val (.int p0), .val (.int p1), .val (.ref b1), .val (.ref b87), .unset, .unset, .unset, .unset, .unset, .unset, .unset] [(.int (2147483647 : Int32)), (.int (4 : Int32)), (.ref b123), (.ref b123)])) _
    refine st135 _ ?_
    show Steps p.tables e below (T135.setTop (mkF m 232 #[.val (.int p0), .val (.int p1), .val (.ref b1), .val (.ref b87), .unset, .unset, .unset, .unset, .unset, .unset, .unset] [(.ref b123)])) _
    refine XS.dup X135.here hx rfl (hb hby at_232) rfl rfl ?_
    show Steps p.tables e below (T135.setTop (mkF m 233 #[.val (.int p0), .val (.int p1), .val (.ref b1), .val (.ref b87), .unset, .unset, .unset, .unset, .unset, .unset, .unset] [(.ref b123), (.ref b123)])) _
    refine XS.iconst X135.here hx rfl (hb hby at_233) ?_
    show Steps p.tables e below (T135.setTop (mkF m 234 #[.val (.int p0), .val (.int p1), .val (.ref b1), .val (.ref b87), .unset, .unset, .unset, .unset, .unset, .unset, .unset] [(.int (5 : Int32)), (.ref b123), (.ref b123)])) _
    refine X135.ldcInt hx hown (mvT hZ (hw _ (List.mem_of_getElem? (i := 55) rfl))) (g := (mkF m 234 #[.val (.int p0), .val (.int p1), .val (.ref b1), .val (.ref b87), .unset, .unset, .unset, .unset, .unset, .unset, .unset] [(.int (5 : Int32)), (.ref b123), (.ref b123)])) rfl (hb hby at_234) _ ?_
    show Steps p.tables e below (T135.setTop (mkF m 236 #[.val (.int p0), .val (.int p1), .val (.ref b1), .val (.ref b87), .unset, .unset, .unset, .unset, .unset, .unset, .unset] [(.int (2147483647 : Int32)), (.int (5 : Int32)), (.ref b123), (.ref b123)])) _
    refine st137 _ ?_
    show Steps p.tables e below (T137.setTop (mkF m 237 #[.val (.int p0), .val (.int p1), .val (.ref b1), .val (.ref b87), .unset, .unset, .unset, .unset, .unset, .unset, .unset] [(.ref b123)])) _
    refine XS.dup X137.here hx rfl (hb hby at_237) rfl rfl ?_
    show Steps p.tables e below (T137.setTop (mkF m 238 #[.val (.int p0), .val (.int p1), .val (.ref b1), .val (.ref b87), .unset, .unset, .unset, .unset, .unset, .unset, .unset] [(.ref b123), (.ref b123)])) _
    refine XS.bipush X137.here hx rfl (hb hby at_238) ?_
    show Steps p.tables e below (T137.setTop (mkF m 240 #[.val (.int p0), .val (.int p1), .val (.ref b1), .val (.ref b87), .unset, .unset, .unset, .unset, .unset, .unset, .unset] [(.int (6 : Int32)), (.ref b123), (.ref b123)])) _
    refine XS.iconst X137.here hx rfl (hb hby at_240) ?_
    show Steps p.tables e below (T137.setTop (mkF m 241 #[.val (.int p0), .val (.int p1), .val (.ref b1), .val (.ref b87), .unset, .unset, .unset, .unset, .unset, .unset, .unset] [(.int (2 : Int32)), (.int (6 : Int32)), (.ref b123), (.ref b123)])) _
    refine st139 _ ?_
    show Steps p.tables e below (T139.setTop (mkF m 242 #[.val (.int p0), .val (.int p1), .val (.ref b1), .val (.ref b87), .unset, .unset, .unset, .unset, .unset, .unset, .unset] [(.ref b123)])) _
    refine XS.dup X139.here hx rfl (hb hby at_242) rfl rfl ?_
    show Steps p.tables e below (T139.setTop (mkF m 243 #[.val (.int p0), .val (.int p1), .val (.ref b1), .val (.ref b87), .unset, .unset, .unset, .unset, .unset, .unset, .unset] [(.ref b123), (.ref b123)])) _
    refine XS.bipush X139.here hx rfl (hb hby at_243) ?_
    show Steps p.tables e below (T139.setTop (mkF m 245 #[.val (.int p0), .val (.int p1), .val (.ref b1), .val (.ref b87), .unset, .unset, .unset, .unset, .unset, .unset, .unset] [(.int (7 : Int32)), (.ref b123), (.ref b123)])) _
    refine XS.iconst X139.here hx rfl (hb hby at_245) ?_
    show Steps p.tables e below (T139.setTop (mkF m 246 #[.val (.int p0), .val (.int p1), .val (.ref b1), .val (.ref b87), .unset, .unset, .unset, .unset, .unset, .unset, .unset] [(.int (1 : Int32)), (.int (7 : Int32)), (.ref b123), (.ref b123)])) _
    refine st141 _ ?_
    show Steps p.tables e below (T141.setTop (mkF m 247 #[.val (.int p0), .val (.int p1), .val (.ref b1), .val (.ref b87), .unset, .unset, .unset, .unset, .unset, .unset, .unset] [(.ref b123)])) _
    refine XS.dup X141.here hx rfl (hb hby at_247) rfl rfl ?_
    show Steps p.tables e below (T141.setTop (mkF m 248 #[.val (.int p0), .val (.int p1), .val (.ref b1), .val (.ref b87), .unset, .unset, .unset, .unset, .unset, .unset, .unset] [(.ref b123), (.ref b123)])) _
    refine XS.bipush X141.here hx rfl (hb hby at_248) ?_
    show Steps p.tables e below (T141.setTop (mkF m 250 #[.val (.int p0), .val (.int p1), .val (.ref b1), .val (.ref b87), .unset, .unset, .unset, .unset, .unset, .unset, .unset] [(.int (8 : Int32)), (.ref b123), (.ref b123)])) _
    refine XS.iconst X141.here hx rfl (hb hby at_250) ?_
    show Steps p.tables e below (T141.setTop (mkF m 251 #[.val (.int p0), .val (.int p1), .val (.ref b1), .val (.ref b87), .unset, .unset, .unset, .unset, .unset, .unset, .unset] [(.int (3 : Int32)), (.int (8 : Int32)), (.ref b123), (.ref b123)])) _
    refine st143 _ ?_
    show Steps p.tables e below (T143.setTop (mkF m 252 #[.val (.int p0), .val (.int p1), .val (.ref b1), .val (.ref b87), .unset, .unset, .unset, .unset, .unset, .unset, .unset] [(.ref b123)])) _
    refine XS.dup X143.here hx rfl (hb hby at_252) rfl rfl ?_
    show Steps p.tables e below (T143.setTop (mkF m 253 #[.val (.int p0), .val (.int p1), .val (.ref b1), .val (.ref b87), .unset, .unset, .unset, .unset, .unset, .unset, .unset] [(.ref b123), (.ref b123)])) _
    refine XS.bipush X143.here hx rfl (hb hby at_253) ?_
    show Steps p.tables e below (T143.setTop (mkF m 255 #[.val (.int p0), .val (.int p1), .val (.ref b1), .val (.ref b87), .unset, .unset, .unset, .unset, .unset, .unset, .unset] [(.int (9 : Int32)), (.ref b123), (.ref b123)])) _
    refine X143.ldcInt hx hown (mvT hZ (hw _ (List.mem_of_getElem? (i := 55) rfl))) (g := (mkF m 255 #[.val (.int p0), .val (.int p1), .val (.ref b1), .val (.ref b87), .unset, .unset, .unset, .unset, .unset, .unset, .unset] [(.int (9 : Int32)), (.ref b123), (.ref b123)])) rfl (hb hby at_255) _ ?_
    show Steps p.tables e below (T143.setTop (mkF m 257 #[.val (.int p0), .val (.int p1), .val (.ref b1), .val (.ref b87), .unset, .unset, .unset, .unset, .unset, .unset, .unset] [(.int (2147483647 : Int32)), (.int (9 : Int32)), (.ref b123), (.ref b123)])) _
    refine st145 _ ?_
    show Steps p.tables e below (T145.setTop (mkF m 258 #[.val (.int p0), .val (.int p1), .val (.ref b1), .val (.ref b87), .unset, .unset, .unset, .unset, .unset, .unset, .unset] [(.ref b123)])) _
    refine XS.dup X145.here hx rfl (hb hby at_258) rfl rfl ?_
    show Steps p.tables e below (T145.setTop (mkF m 259 #[.val (.int p0), .val (.int p1), .val (.ref b1), .val (.ref b87), .unset, .unset, .unset, .unset, .unset, .unset, .unset] [(.ref b123), (.ref b123)])) _
    refine XS.bipush X145.here hx rfl (hb hby at_259) ?_
    show Steps p.tables e below (T145.setTop (mkF m 261 #[.val (.int p0), .val (.int p1), .val (.ref b1), .val (.ref b87), .unset, .unset, .unset, .unset, .unset, .unset, .unset] [(.int (10 : Int32)), (.ref b123), (.ref b123)])) _
    refine X145.ldcInt hx hown (mvT hZ (hw _ (List.mem_of_getElem? (i := 55) rfl))) (g := (mkF m 261 #[.val (.int p0), .val (.int p1), .val (.ref b1), .val (.ref b87), .unset, .unset, .unset, .unset, .unset, .unset, .unset] [(.int (10 : Int32)), (.ref b123), (.ref b123)])) rfl (hb hby at_261) _ ?_
    show Steps p.tables e below (T145.setTop (mkF m 263 #[.val (.int p0), .val (.int p1), .val (.ref b1), .val (.ref b87), .unset, .unset, .unset, .unset, .unset, .unset, .unset] [(.int (2147483647 : Int32)), (.int (10 : Int32)), (.ref b123), (.ref b123)])) _
    refine st147 _ ?_
    show Steps p.tables e below (T147.setTop (mkF m 264 #[.val (.int p0), .val (.int p1), .val (.ref b1), .val (.ref b87), .unset, .unset, .unset, .unset, .unset, .unset, .unset] [(.ref b123)])) _
    refine XS.dup X147.here hx rfl (hb hby at_264) rfl rfl ?_
    show Steps p.tables e below (T147.setTop (mkF m 265 #[.val (.int p0), .val (.int p1), .val (.ref b1), .val (.ref b87), .unset, .unset, .unset, .unset, .unset, .unset, .unset] [(.ref b123), (.ref b123)])) _
    refine XS.bipush X147.here hx rfl (hb hby at_265) ?_
    show Steps p.tables e below (T147.setTop (mkF m 267 #[.val (.int p0), .val (.int p1), .val (.ref b1), .val (.ref b87), .unset, .unset, .unset, .unset, .unset, .unset, .unset] [(.int (11 : Int32)), (.ref b123), (.ref b123)])) _
    refine XS.iconst X147.here hx rfl (hb hby at_267) ?_
    show Steps p.tables e below (T147.setTop (mkF m 268 #[.val (.int p0), .val (.int p1), .val (.ref b1), .val (.ref b87), .unset, .unset, .unset, .unset, .unset, .unset, .unset] [(.int (1 : Int32)), (.int (11 : Int32)), (.ref b123), (.ref b123)])) _
    refine st149 _ ?_
    show Steps p.tables e below (T149.setTop (mkF m 269 #[.val (.int p0), .val (.int p1), .val (.ref b1), .val (.ref b87), .unset, .unset, .unset, .unset, .unset, .unset, .unset] [(.ref b123)])) _
    refine XS.dup X149.here hx rfl (hb hby at_269) rfl rfl ?_
    show Steps p.tables e below (T149.setTop (mkF m 270 #[.val (.int p0), .val (.int p1), .val (.ref b1), .val (.ref b87), .unset, .unset, .unset, .unset, .unset, .unset, .unset] [(.ref b123), (.ref b123)])) _
    refine XS.bipush X149.here hx rfl (hb hby at_270) ?_
    show Steps p.tables e below (T149.setTop (mkF m 272 #[.val (.int p0), .val (.int p1), .val (.ref b1), .val (.ref b87), .unset, .unset, .unset, .unset, .unset, .unset, .unset] [(.int (12 : Int32)), (.ref b123), (.ref b123)])) _
    refine XS.iconst X149.here hx rfl (hb hby at_272) ?_
    show Steps p.tables e below (T149.setTop (mkF m 273 #[.val (.int p0), .val (.int p1), .val (.ref b1), .val (.ref b87), .unset, .unset, .unset, .unset, .unset, .unset, .unset] [(.int (3 : Int32)), (.int (12 : Int32)), (.ref b123), (.ref b123)])) _
    refine st151 _ ?_
    show Steps p.tables e below (T151.setTop (mkF m 274 #[.val (.int p0), .val (.int p1), .val (.ref b1), .val (.ref b87), .unset, .unset, .unset, .unset, .unset, .unset, .unset] [(.ref b123)])) _
    refine XS.dup X151.here hx rfl (hb hby at_274) rfl rfl ?_
    show Steps p.tables e below (T151.setTop (mkF m 275 #[.val (.int p0), .val (.int p1), .val (.ref b1), .val (.ref b87), .unset, .unset, .unset, .unset, .unset, .unset, .unset] [(.ref b123), (.ref b123)])) _
    refine XS.bipush X151.here hx rfl (hb hby at_275) ?_
    show Steps p.tables e below (T151.setTop (mkF m 277 #[.val (.int p0), .val (.int p1), .val (.ref b1), .val (.ref b87), .unset, .unset, .unset, .unset, .unset, .unset, .unset] [(.int (13 : Int32)), (.ref b123), (.ref b123)])) _
    refine XS.iconst X151.here hx rfl (hb hby at_277) ?_
    show Steps p.tables e below (T151.setTop (mkF m 278 #[.val (.int p0), .val (.int p1), .val (.ref b1), .val (.ref b87), .unset, .unset, .unset, .unset, .unset, .unset, .unset] [(.int (4 : Int32)), (.int (13 : Int32)), (.ref b123), (.ref b123)])) _
    refine st153 _ ?_
    show Steps p.tables e below (T153.setTop (mkF m 279 #[.val (.int p0), .val (.int p1), .val (.ref b1), .val (.ref b87), .unset, .unset, .unset, .unset, .unset, .unset, .unset] [(.ref b123)])) _
    refine XS.dup X153.here hx rfl (hb hby at_279) rfl rfl ?_
    show Steps p.tables e below (T153.setTop (mkF m 280 #[.val (.int p0), .val (.int p1), .val (.ref b1), .val (.ref b87), .unset, .unset, .unset, .unset, .unset, .unset, .unset] [(.ref b123), (.ref b123)])) _
    refine XS.bipush X153.here hx rfl (hb hby at_280) ?_
    show Steps p.tables e below (T153.setTop (mkF m 282 #[.val (.int p0), .val (.int p1), .val (.ref b1), .val (.ref b87), .unset, .unset, .unset, .unset, .unset, .unset, .unset] [(.int (14 : Int32)), (.ref b123), (.ref b123)])) _
    refine X153.ldcInt hx hown (mvT hZ (hw _ (List.mem_of_getElem? (i := 55) rfl))) (g := (mkF m 282 #[.val (.int p0), .val (.int p1), .val (.ref b1), .val (.ref b87), .unset, .unset, .unset, .unset, .unset, .unset, .unset] [(.int (14 : Int32)), (.ref b123), (.ref b123)])) rfl (hb hby at_282) _ ?_
    show Steps p.tables e below (T153.setTop (mkF m 284 #[.val (.int p0), .val (.int p1), .val (.ref b1), .val (.ref b87), .unset, .unset, .unset, .unset, .unset, .unset, .unset] [(.int (2147483647 : Int32)), (.int (14 : Int32)), (.ref b123), (.ref b123)])) _
    refine st155 _ ?_
    show Steps p.tables e below (T155.setTop (mkF m 285 #[.val (.int p0), .val (.int p1), .val (.ref b1), .val (.ref b87), .unset, .unset, .unset, .unset, .unset, .unset, .unset] [(.ref b123)])) _
    refine XS.dup X155.here hx rfl (hb hby at_285) rfl rfl ?_
    show Steps p.tables e below (T155.setTop (mkF m 286 #[.val (.int p0), .val (.int p1), .val (.ref b1), .val (.ref b87), .unset, .unset, .unset, .unset, .unset, .unset, .unset] [(.ref b123), (.ref b123)])) _
    refine XS.bipush X155.here hx rfl (hb hby at_286) ?_
    show Steps p.tables e below (T155.setTop (mkF m 288 #[.val (.int p0), .val (.int p1), .val (.ref b1), .val (.ref b87), .unset, .unset, .unset, .unset, .unset, .unset, .unset] [(.int (15 : Int32)), (.ref b123), (.ref b123)])) _
    refine XS.iconst X155.here hx rfl (hb hby at_288) ?_
    show Steps p.tables e below (T155.setTop (mkF m 289 #[.val (.int p0), .val (.int p1), .val (.ref b1), .val (.ref b87), .unset, .unset, .unset, .unset, .unset, .unset, .unset] [(.int (0 : Int32)), (.int (15 : Int32)), (.ref b123), (.ref b123)])) _
    refine st157 _ ?_
    show Steps p.tables e below (T157.setTop (mkF m 290 #[.val (.int p0), .val (.int p1), .val (.ref b1), .val (.ref b87), .unset, .unset, .unset, .unset, .unset, .unset, .unset] [(.ref b123)])) _
    refine XS.dup X157.here hx rfl (hb hby at_290) rfl rfl ?_
    show Steps p.tables e below (T157.setTop (mkF m 291 #[.val (.int p0), .val (.int p1), .val (.ref b1), .val (.ref b87), .unset, .unset, .unset, .unset, .unset, .unset, .unset] [(.ref b123), (.ref b123)])) _
    refine XS.bipush X157.here hx rfl (hb hby at_291) ?_
    show Steps p.tables e below (T157.setTop (mkF m 293 #[.val (.int p0), .val (.int p1), .val (.ref b1), .val (.ref b87), .unset, .unset, .unset, .unset, .unset, .unset, .unset] [(.int (16 : Int32)), (.ref b123), (.ref b123)])) _
    refine XS.iconst X157.here hx rfl (hb hby at_293) ?_
    show Steps p.tables e below (T157.setTop (mkF m 294 #[.val (.int p0), .val (.int p1), .val (.ref b1), .val (.ref b87), .unset, .unset, .unset, .unset, .unset, .unset, .unset] [(.int (0 : Int32)), (.int (16 : Int32)), (.ref b123), (.ref b123)])) _
    refine st159 _ ?_
    show Steps p.tables e below (T159.setTop (mkF m 295 #[.val (.int p0), .val (.int p1), .val (.ref b1), .val (.ref b87), .unset, .unset, .unset, .unset, .unset, .unset, .unset] [(.ref b123)])) _
    refine XS.astore X159.here hx rfl (hb hby at_295) rfl rfl (l' := #[.val (.int p0), .val (.int p1), .val (.ref b1), .val (.ref b87), .val (.ref b123), .unset, .unset, .unset, .unset, .unset, .unset]) rfl ?_
    show Steps p.tables e below (T159.setTop (mkF m 297 #[.val (.int p0), .val (.int p1), .val (.ref b1), .val (.ref b87), .val (.ref b123), .unset, .unset, .unset, .unset, .unset, .unset] [])) _
    refine XS.iloadN X159.here hx rfl (hb hby at_297) rfl ?_
    show Steps p.tables e below (T159.setTop (mkF m 298 #[.val (.int p0), .val (.int p1), .val (.ref b1), .val (.ref b87), .val (.ref b123), .unset, .unset, .unset, .unset, .unset, .unset] [(.int p0)])) _
    refine X159.ldcInt hx hown (mvT hZ (hw _ (List.mem_of_getElem? (i := 55) rfl))) (g := (mkF m 298 #[.val (.int p0), .val (.int p1), .val (.ref b1), .val (.ref b87), .val (.ref b123), .unset, .unset, .unset, .unset, .unset, .unset] [(.int p0)])) rfl (hb hby at_298) _ ?_
    show Steps p.tables e below (T159.setTop (mkF m 300 #[.val (.int p0), .val (.int p1), .val (.ref b1), .val (.ref b87), .val (.ref b123), .unset, .unset, .unset, .unset, .unset, .unset] [(.int (2147483647 : Int32)), (.int p0)])) _
    refine XS.iand X159.here hx rfl (hb hby at_300) rfl ?_
    show Steps p.tables e below (T159.setTop (mkF m 301 #[.val (.int p0), .val (.int p1), .val (.ref b1), .val (.ref b87), .val (.ref b123), .unset, .unset, .unset, .unset, .unset, .unset] [(.int (p0 &&& (2147483647 : Int32)))])) _
    refine XS.bipush X159.here hx rfl (hb hby at_301) ?_
    show Steps p.tables e below (T159.setTop (mkF m 303 #[.val (.int p0), .val (.int p1), .val (.ref b1), .val (.ref b87), .val (.ref b123), .unset, .unset, .unset, .unset, .unset, .unset] [(.int (17 : Int32)), (.int (p0 &&& (2147483647 : Int32)))])) _
    refine iremM (g := (mkF m 303 #[.val (.int p0), .val (.int p1), .val (.ref b1), .val (.ref b87), .val (.ref b123), .unset, .unset, .unset, .unset, .unset, .unset] [(.int (17 : Int32)), (.int (p0 &&& (2147483647 : Int32)))])) X159 hx rfl (hb hby at_303) rfl (by decide) ?_
    show Steps p.tables e below (T159.setTop (mkF m 304 #[.val (.int p0), .val (.int p1), .val (.ref b1), .val (.ref b87), .val (.ref b123), .unset, .unset, .unset, .unset, .unset, .unset] [(.int ((p0 &&& (2147483647 : Int32)) % (17 : Int32)))])) _
    refine XS.istore X159.here hx rfl (hb hby at_304) rfl (l' := #[.val (.int p0), .val (.int p1), .val (.ref b1), .val (.ref b87), .val (.ref b123), .val (.int ((p0 &&& (2147483647 : Int32)) % (17 : Int32))), .unset, .unset, .unset, .unset, .unset]) rfl ?_
    show Steps p.tables e below (T159.setTop (mkF m 306 #[.val (.int p0), .val (.int p1), .val (.ref b1), .val (.ref b87), .val (.ref b123), .val (.int ((p0 &&& (2147483647 : Int32)) % (17 : Int32))), .unset, .unset, .unset, .unset, .unset] [])) _
    rw [hk]
    show Steps p.tables e below (T159.setTop (mkF m 306 #[.val (.int p0), .val (.int p1), .val (.ref b1), .val (.ref b87), .val (.ref b123), .val (.int k), .unset, .unset, .unset, .unset, .unset] [])) _
    refine XS.aloadN X159.here hx rfl (hb hby at_306) rfl rfl ?_
    show Steps p.tables e below (T159.setTop (mkF m 307 #[.val (.int p0), .val (.int p1), .val (.ref b1), .val (.ref b87), .val (.ref b123), .val (.int k), .unset, .unset, .unset, .unset, .unset] [(.ref b1)])) _
    refine XS.iload X159.here hx rfl (hb hby at_307) rfl ?_
    show Steps p.tables e below (T159.setTop (mkF m 309 #[.val (.int p0), .val (.int p1), .val (.ref b1), .val (.ref b87), .val (.ref b123), .val (.int k), .unset, .unset, .unset, .unset, .unset] [(.int k), (.ref b1)])) _
    refine X159.aaload hx (j := k) (v := (.ref (W k.toNatClampNeg))) (by rw [e159]; exact Ar160.1) (State.isArrayOf_alike hZ.alike Ar160.2.1) rfl Ar160.2.2 hin160 hat160 (g := (mkF m 309 #[.val (.int p0), .val (.int p1), .val (.ref b1), .val (.ref b87), .val (.ref b123), .val (.int k), .unset, .unset, .unset, .unset, .unset] [(.int k), (.ref b1)])) rfl rfl (hb hby at_309) _ ?_
    show Steps p.tables e below (T159.setTop (mkF m 310 #[.val (.int p0), .val (.int p1), .val (.ref b1), .val (.ref b87), .val (.ref b123), .val (.int k), .unset, .unset, .unset, .unset, .unset] [(.ref (W k.toNatClampNeg))])) _
    refine XS.astore X159.here hx rfl (hb hby at_310) rfl rfl (l' := #[.val (.int p0), .val (.int p1), .val (.ref b1), .val (.ref b87), .val (.ref b123), .val (.int k), .val (.ref (W k.toNatClampNeg)), .unset, .unset, .unset, .unset]) rfl ?_
    show Steps p.tables e below (T159.setTop (mkF m 312 #[.val (.int p0), .val (.int p1), .val (.ref b1), .val (.ref b87), .val (.ref b123), .val (.int k), .val (.ref (W k.toNatClampNeg)), .unset, .unset, .unset, .unset] [])) _
    refine XS.aloadN X159.here hx rfl (hb hby at_312) rfl rfl ?_
    show Steps p.tables e below (T159.setTop (mkF m 313 #[.val (.int p0), .val (.int p1), .val (.ref b1), .val (.ref b87), .val (.ref b123), .val (.int k), .val (.ref (W k.toNatClampNeg)), .unset, .unset, .unset, .unset] [(.ref b87)])) _
    refine XS.iload X159.here hx rfl (hb hby at_313) rfl ?_
    show Steps p.tables e below (T159.setTop (mkF m 315 #[.val (.int p0), .val (.int p1), .val (.ref b1), .val (.ref b87), .val (.ref b123), .val (.int k), .val (.ref (W k.toNatClampNeg)), .unset, .unset, .unset, .unset] [(.int k), (.ref b87)])) _
    refine X159.iaload hx (j := k) (v := (.int a)) (by rw [e159]; exact Ar162.1) (State.isArrayOf_alike hZ.alike Ar162.2.1) Ar162.2.2 hin162 hat162 (g := (mkF m 315 #[.val (.int p0), .val (.int p1), .val (.ref b1), .val (.ref b87), .val (.ref b123), .val (.int k), .val (.ref (W k.toNatClampNeg)), .unset, .unset, .unset, .unset] [(.int k), (.ref b87)])) rfl rfl (hb hby at_315) _ ?_
    show Steps p.tables e below (T159.setTop (mkF m 316 #[.val (.int p0), .val (.int p1), .val (.ref b1), .val (.ref b87), .val (.ref b123), .val (.int k), .val (.ref (W k.toNatClampNeg)), .unset, .unset, .unset, .unset] [(.int a)])) _
    refine XS.istore X159.here hx rfl (hb hby at_316) rfl (l' := #[.val (.int p0), .val (.int p1), .val (.ref b1), .val (.ref b87), .val (.ref b123), .val (.int k), .val (.ref (W k.toNatClampNeg)), .val (.int a), .unset, .unset, .unset]) rfl ?_
    show Steps p.tables e below (T159.setTop (mkF m 318 #[.val (.int p0), .val (.int p1), .val (.ref b1), .val (.ref b87), .val (.ref b123), .val (.int k), .val (.ref (W k.toNatClampNeg)), .val (.int a), .unset, .unset, .unset] [])) _
    refine XS.aload X159.here hx rfl (hb hby at_318) rfl rfl ?_
    show Steps p.tables e below (T159.setTop (mkF m 320 #[.val (.int p0), .val (.int p1), .val (.ref b1), .val (.ref b87), .val (.ref b123), .val (.int k), .val (.ref (W k.toNatClampNeg)), .val (.int a), .unset, .unset, .unset] [(.ref b123)])) _
    refine XS.iload X159.here hx rfl (hb hby at_320) rfl ?_
    show Steps p.tables e below (T159.setTop (mkF m 322 #[.val (.int p0), .val (.int p1), .val (.ref b1), .val (.ref b87), .val (.ref b123), .val (.int k), .val (.ref (W k.toNatClampNeg)), .val (.int a), .unset, .unset, .unset] [(.int k), (.ref b123)])) _
    refine X159.iaload hx (j := k) (v := (.int b)) (by rw [e159]; exact Ar164.1) (State.isArrayOf_alike hZ.alike Ar164.2.1) Ar164.2.2 hin164 hat164 (g := (mkF m 322 #[.val (.int p0), .val (.int p1), .val (.ref b1), .val (.ref b87), .val (.ref b123), .val (.int k), .val (.ref (W k.toNatClampNeg)), .val (.int a), .unset, .unset, .unset] [(.int k), (.ref b123)])) rfl rfl (hb hby at_322) _ ?_
    show Steps p.tables e below (T159.setTop (mkF m 323 #[.val (.int p0), .val (.int p1), .val (.ref b1), .val (.ref b87), .val (.ref b123), .val (.int k), .val (.ref (W k.toNatClampNeg)), .val (.int a), .unset, .unset, .unset] [(.int b)])) _
    refine XS.istore X159.here hx rfl (hb hby at_323) rfl (l' := #[.val (.int p0), .val (.int p1), .val (.ref b1), .val (.ref b87), .val (.ref b123), .val (.int k), .val (.ref (W k.toNatClampNeg)), .val (.int a), .val (.int b), .unset, .unset]) rfl ?_
    exact kt
  have pre166 : ∀ t, Steps p.tables e below (T159.setTop (mkF m 342 #[.val (.int p0), .val (.int p1), .val (.ref b1), .val (.ref b87), .val (.ref b123), .val (.int k), .val (.ref (W k.toNatClampNeg)), .val (.int a), .val (.int b), .unset, .unset] [(.int r0)])) t → Steps p.tables e below (s₁.setTop (entryFrame m #[(.int p0), (.int p1)] maxLocals)) t := by
    intro t kt
    refine pre165 t ?_
    show Steps p.tables e below (T159.setTop (mkF m 325 #[.val (.int p0), .val (.int p1), .val (.ref b1), .val (.ref b87), .val (.ref b123), .val (.int k), .val (.ref (W k.toNatClampNeg)), .val (.int a), .val (.int b), .unset, .unset] [])) _
    refine XS.iloadN X159.here hx rfl (hb hby at_325) rfl ?_
    show Steps p.tables e below (T159.setTop (mkF m 326 #[.val (.int p0), .val (.int p1), .val (.ref b1), .val (.ref b87), .val (.ref b123), .val (.int k), .val (.ref (W k.toNatClampNeg)), .val (.int a), .val (.int b), .unset, .unset] [(.int p1)])) _
    refine XS.iload X159.here hx rfl (hb hby at_326) rfl ?_
    by_cases hc167 : p1 < a
    · skip
      show Steps p.tables e below (T159.setTop (mkF m 328 #[.val (.int p0), .val (.int p1), .val (.ref b1), .val (.ref b87), .val (.ref b123), .val (.int k), .val (.ref (W k.toNatClampNeg)), .val (.int a), .val (.int b), .unset, .unset] [(.int a), (.int p1)])) _
      refine XS.icmpYes X159.here hx rfl (pc0 := 328) (pc' := 341) rfl (hb hby at_328) rfl (tlt hc167).1 (by decide) (by decide) ?_
      show Steps p.tables e below (T159.setTop (mkF m 341 #[.val (.int p0), .val (.int p1), .val (.ref b1), .val (.ref b87), .val (.ref b123), .val (.int k), .val (.ref (W k.toNatClampNeg)), .val (.int a), .val (.int b), .unset, .unset] [])) _
      refine XS.iconst X159.here hx rfl (hb hby at_341) ?_
      rw [show r0 = (0 : Int32) from by simp [hr0, hc167]] at kt
      exact kt
    · skip
      show Steps p.tables e below (T159.setTop (mkF m 328 #[.val (.int p0), .val (.int p1), .val (.ref b1), .val (.ref b87), .val (.ref b123), .val (.int k), .val (.ref (W k.toNatClampNeg)), .val (.int a), .val (.int b), .unset, .unset] [(.int a), (.int p1)])) _
      refine XS.icmpNo X159.here hx rfl (hb hby at_328) rfl (flt hc167).1 ?_
      show Steps p.tables e below (T159.setTop (mkF m 331 #[.val (.int p0), .val (.int p1), .val (.ref b1), .val (.ref b87), .val (.ref b123), .val (.int k), .val (.ref (W k.toNatClampNeg)), .val (.int a), .val (.int b), .unset, .unset] [])) _
      refine XS.iloadN X159.here hx rfl (hb hby at_331) rfl ?_
      show Steps p.tables e below (T159.setTop (mkF m 332 #[.val (.int p0), .val (.int p1), .val (.ref b1), .val (.ref b87), .val (.ref b123), .val (.int k), .val (.ref (W k.toNatClampNeg)), .val (.int a), .val (.int b), .unset, .unset] [(.int p1)])) _
      refine XS.iload X159.here hx rfl (hb hby at_332) rfl ?_
      by_cases hc168 : b < p1
      · skip
        show Steps p.tables e below (T159.setTop (mkF m 334 #[.val (.int p0), .val (.int p1), .val (.ref b1), .val (.ref b87), .val (.ref b123), .val (.int k), .val (.ref (W k.toNatClampNeg)), .val (.int a), .val (.int b), .unset, .unset] [(.int b), (.int p1)])) _
        refine XS.icmpYes X159.here hx rfl (pc0 := 334) (pc' := 341) rfl (hb hby at_334) rfl (tlt hc168).2.2.1 (by decide) (by decide) ?_
        show Steps p.tables e below (T159.setTop (mkF m 341 #[.val (.int p0), .val (.int p1), .val (.ref b1), .val (.ref b87), .val (.ref b123), .val (.int k), .val (.ref (W k.toNatClampNeg)), .val (.int a), .val (.int b), .unset, .unset] [])) _
        refine XS.iconst X159.here hx rfl (hb hby at_341) ?_
        rw [show r0 = (0 : Int32) from by simp [hr0, hc167, hc168]] at kt
        exact kt
      · skip
        show Steps p.tables e below (T159.setTop (mkF m 334 #[.val (.int p0), .val (.int p1), .val (.ref b1), .val (.ref b87), .val (.ref b123), .val (.int k), .val (.ref (W k.toNatClampNeg)), .val (.int a), .val (.int b), .unset, .unset] [(.int b), (.int p1)])) _
        refine XS.icmpNo X159.here hx rfl (hb hby at_334) rfl (flt hc168).2.2.1 ?_
        show Steps p.tables e below (T159.setTop (mkF m 337 #[.val (.int p0), .val (.int p1), .val (.ref b1), .val (.ref b87), .val (.ref b123), .val (.int k), .val (.ref (W k.toNatClampNeg)), .val (.int a), .val (.int b), .unset, .unset] [])) _
        refine XS.iconst X159.here hx rfl (hb hby at_337) ?_
        show Steps p.tables e below (T159.setTop (mkF m 338 #[.val (.int p0), .val (.int p1), .val (.ref b1), .val (.ref b87), .val (.ref b123), .val (.int k), .val (.ref (W k.toNatClampNeg)), .val (.int a), .val (.int b), .unset, .unset] [(.int (1 : Int32))])) _
        refine XS.goto X159.here hx rfl (pc0 := 338) (pc' := 342) rfl (hb hby at_338) (by decide) (by decide) ?_
        rw [show r0 = (1 : Int32) from by simp [hr0, hc167, hc168]] at kt
        exact kt
  have F_f_169 := ((((((((((((((((((((((((((((((((((((((((((((((((((((((F_f.ext E1).other W6 (Or.inl ne1__W_k_toNatClampNeg_)).other W11 (Or.inl ne1__W_k_toNatClampNeg_)).other W16 (Or.inl ne1__W_k_toNatClampNeg_)).other W21 (Or.inl ne1__W_k_toNatClampNeg_)).other W26 (Or.inl ne1__W_k_toNatClampNeg_)).other W31 (Or.inl ne1__W_k_toNatClampNeg_)).other W36 (Or.inl ne1__W_k_toNatClampNeg_)).other W41 (Or.inl ne1__W_k_toNatClampNeg_)).other W46 (Or.inl ne1__W_k_toNatClampNeg_)).other W51 (Or.inl ne1__W_k_toNatClampNeg_)).other W56 (Or.inl ne1__W_k_toNatClampNeg_)).other W61 (Or.inl ne1__W_k_toNatClampNeg_)).other W66 (Or.inl ne1__W_k_toNatClampNeg_)).other W71 (Or.inl ne1__W_k_toNatClampNeg_)).other W76 (Or.inl ne1__W_k_toNatClampNeg_)).other W81 (Or.inl ne1__W_k_toNatClampNeg_)).other W86 (Or.inl ne1__W_k_toNatClampNeg_)).ext E87).other W90 (Or.inl ne87__W_k_toNatClampNeg_)).other W92 (Or.inl ne87__W_k_toNatClampNeg_)).other W94 (Or.inl ne87__W_k_toNatClampNeg_)).other W96 (Or.inl ne87__W_k_toNatClampNeg_)).other W98 (Or.inl ne87__W_k_toNatClampNeg_)).other W100 (Or.inl ne87__W_k_toNatClampNeg_)).other W102 (Or.inl ne87__W_k_toNatClampNeg_)).other W104 (Or.inl ne87__W_k_toNatClampNeg_)).other W106 (Or.inl ne87__W_k_toNatClampNeg_)).other W108 (Or.inl ne87__W_k_toNatClampNeg_)).other W110 (Or.inl ne87__W_k_toNatClampNeg_)).other W112 (Or.inl ne87__W_k_toNatClampNeg_)).other W114 (Or.inl ne87__W_k_toNatClampNeg_)).other W116 (Or.inl ne87__W_k_toNatClampNeg_)).other W118 (Or.inl ne87__W_k_toNatClampNeg_)).other W120 (Or.inl ne87__W_k_toNatClampNeg_)).other W122 (Or.inl ne87__W_k_toNatClampNeg_)).ext E123).other W127 (Or.inl ne123__W_k_toNatClampNeg_)).other W129 (Or.inl ne123__W_k_toNatClampNeg_)).other W131 (Or.inl ne123__W_k_toNatClampNeg_)).other W133 (Or.inl ne123__W_k_toNatClampNeg_)).other W135 (Or.inl ne123__W_k_toNatClampNeg_)).other W137 (Or.inl ne123__W_k_toNatClampNeg_)).other W139 (Or.inl ne123__W_k_toNatClampNeg_)).other W141 (Or.inl ne123__W_k_toNatClampNeg_)).other W143 (Or.inl ne123__W_k_toNatClampNeg_)).other W145 (Or.inl ne123__W_k_toNatClampNeg_)).other W147 (Or.inl ne123__W_k_toNatClampNeg_)).other W149 (Or.inl ne123__W_k_toNatClampNeg_)).other W151 (Or.inl ne123__W_k_toNatClampNeg_)).other W153 (Or.inl ne123__W_k_toNatClampNeg_)).other W155 (Or.inl ne123__W_k_toNatClampNeg_)).other W157 (Or.inl ne123__W_k_toNatClampNeg_)).other W159 (Or.inl ne123__W_k_toNatClampNeg_))
  have F_m_170 := ((((((((((((((((((((((((((((((((((((((((((((((((((((((F_m.ext E1).other W6 (Or.inl ne1__W_k_toNatClampNeg_)).other W11 (Or.inl ne1__W_k_toNatClampNeg_)).other W16 (Or.inl ne1__W_k_toNatClampNeg_)).other W21 (Or.inl ne1__W_k_toNatClampNeg_)).other W26 (Or.inl ne1__W_k_toNatClampNeg_)).other W31 (Or.inl ne1__W_k_toNatClampNeg_)).other W36 (Or.inl ne1__W_k_toNatClampNeg_)).other W41 (Or.inl ne1__W_k_toNatClampNeg_)).other W46 (Or.inl ne1__W_k_toNatClampNeg_)).other W51 (Or.inl ne1__W_k_toNatClampNeg_)).other W56 (Or.inl ne1__W_k_toNatClampNeg_)).other W61 (Or.inl ne1__W_k_toNatClampNeg_)).other W66 (Or.inl ne1__W_k_toNatClampNeg_)).other W71 (Or.inl ne1__W_k_toNatClampNeg_)).other W76 (Or.inl ne1__W_k_toNatClampNeg_)).other W81 (Or.inl ne1__W_k_toNatClampNeg_)).other W86 (Or.inl ne1__W_k_toNatClampNeg_)).ext E87).other W90 (Or.inl ne87__W_k_toNatClampNeg_)).other W92 (Or.inl ne87__W_k_toNatClampNeg_)).other W94 (Or.inl ne87__W_k_toNatClampNeg_)).other W96 (Or.inl ne87__W_k_toNatClampNeg_)).other W98 (Or.inl ne87__W_k_toNatClampNeg_)).other W100 (Or.inl ne87__W_k_toNatClampNeg_)).other W102 (Or.inl ne87__W_k_toNatClampNeg_)).other W104 (Or.inl ne87__W_k_toNatClampNeg_)).other W106 (Or.inl ne87__W_k_toNatClampNeg_)).other W108 (Or.inl ne87__W_k_toNatClampNeg_)).other W110 (Or.inl ne87__W_k_toNatClampNeg_)).other W112 (Or.inl ne87__W_k_toNatClampNeg_)).other W114 (Or.inl ne87__W_k_toNatClampNeg_)).other W116 (Or.inl ne87__W_k_toNatClampNeg_)).other W118 (Or.inl ne87__W_k_toNatClampNeg_)).other W120 (Or.inl ne87__W_k_toNatClampNeg_)).other W122 (Or.inl ne87__W_k_toNatClampNeg_)).ext E123).other W127 (Or.inl ne123__W_k_toNatClampNeg_)).other W129 (Or.inl ne123__W_k_toNatClampNeg_)).other W131 (Or.inl ne123__W_k_toNatClampNeg_)).other W133 (Or.inl ne123__W_k_toNatClampNeg_)).other W135 (Or.inl ne123__W_k_toNatClampNeg_)).other W137 (Or.inl ne123__W_k_toNatClampNeg_)).other W139 (Or.inl ne123__W_k_toNatClampNeg_)).other W141 (Or.inl ne123__W_k_toNatClampNeg_)).other W143 (Or.inl ne123__W_k_toNatClampNeg_)).other W145 (Or.inl ne123__W_k_toNatClampNeg_)).other W147 (Or.inl ne123__W_k_toNatClampNeg_)).other W149 (Or.inl ne123__W_k_toNatClampNeg_)).other W151 (Or.inl ne123__W_k_toNatClampNeg_)).other W153 (Or.inl ne123__W_k_toNatClampNeg_)).other W155 (Or.inl ne123__W_k_toNatClampNeg_)).other W157 (Or.inl ne123__W_k_toNatClampNeg_)).other W159 (Or.inl ne123__W_k_toNatClampNeg_))
  have E_k_172 := ((((((((((((((((((E_k_124.ext E123).wr W127).wr W129).wr W131).wr W133).wr W135).wr W137).wr W139).wr W141).wr W143).wr W145).wr W147).wr W149).wr W151).wr W153).wr W155).wr W157).wr W159)
  obtain ⟨cq171, kq171, q171a, q171b, q171c⟩ := isOf hZ e159 E_k_172
  obtain ⟨_, _, ⟨T171, L171, k171, n171⟩, -, X171, ⟨Lc171, hQ171, l171, y171, z171⟩, st171⟩ := X159.virtualBack hx (y := (⟨"com/example/statewise/statewise/SheetFunction", "takes", "(I)Z"⟩ : MethodName)) (z := (⟨"com/example/statewise/statewise/SheetFunction", "takes", "(I)Z"⟩ : MethodName)) hown (mvT hZ (hw _ (List.mem_of_getElem? (i := 56) rfl))) (mvT hZ (hw _ (List.mem_of_getElem? (i := 57) rfl))) (notFace_of_selects (args := #[]) (mvT hZ hsel)) (mvT hZ hsel) (mvT hZ (hw _ (List.mem_of_getElem? (i := 58) rfl))) (by decide) (backOf (W := 0) (rm1 l Z a0 hw [] (W k.toNatClampNeg) p1 r0 a b h159 n0 Zs159 F_f_169 F_m_170 hr0) hZ (hw _ (List.mem_of_getElem? (i := 60) rfl)) (hw _ (List.mem_of_getElem? (i := 3) rfl)) (by decide) (by decide)) q171a q171c (g := (mkF m 347 #[.val (.int p0), .val (.int p1), .val (.ref b1), .val (.ref b87), .val (.ref b123), .val (.int k), .val (.ref (W k.toNatClampNeg)), .val (.int a), .val (.int b), .val (.int r0), .unset] [(.int p1), (.ref (W k.toNatClampNeg))])) rfl (by rw [hml]; rfl) (Steps.refl _) (argsL := [(.int p1)]) (rest := []) (lenOf pd__I_Z rfl) rfl (by show 2 * 0 + _ ≤ _; exact Nat.le_of_eq rfl) (hb hby at_347) (fun _ _ => ⟨rfl, e159, (by decide : 3 + 0 ≤ _), (by decide : 51 + 0 ≤ _)⟩)
  dsimp only [Pt.U, Pt.locs, Pt.cells, Pt.slots] at X171 l171 y171 z171 st171 hQ171
  rw [l171, y171, z171] at X171
  obtain ⟨rfl, N171q, e171⟩ := hQ171
  have N171 := Fr.app N159 N171q
  obtain ⟨cq173, kq173, q173a, q173b, q173c⟩ := isOf hZ e171 E_k_172
  obtain ⟨_, _, ⟨T173, L173, k173, n173⟩, -, X173, ⟨Lc173, hQ173, l173, y173, z173⟩, st173⟩ := X171.virtualBack hx (y := (⟨"com/example/statewise/statewise/SheetFunction", "takes", "(I)Z"⟩ : MethodName)) (z := (⟨"com/example/statewise/statewise/SheetFunction", "takes", "(I)Z"⟩ : MethodName)) hown (mvT hZ (hw _ (List.mem_of_getElem? (i := 56) rfl))) (mvT hZ (hw _ (List.mem_of_getElem? (i := 57) rfl))) (notFace_of_selects (args := #[]) (mvT hZ hsel)) (mvT hZ hsel) (mvT hZ (hw _ (List.mem_of_getElem? (i := 58) rfl))) (by decide) (backOf (W := 0) (rm1 l Z a0 hw [] (W k.toNatClampNeg) a (1 : Int32) a b h159 n0 Zs159 F_f_169 F_m_170 (by simp [hab, Int32.lt_irrefl])) hZ (hw _ (List.mem_of_getElem? (i := 60) rfl)) (hw _ (List.mem_of_getElem? (i := 3) rfl)) (by decide) (by decide)) q173a q173c (g := (mkF m 371 #[.val (.int p0), .val (.int p1), .val (.ref b1), .val (.ref b87), .val (.ref b123), .val (.int k), .val (.ref (W k.toNatClampNeg)), .val (.int a), .val (.int b), .val (.int r0), .val (.int (1 : Int32))] [(.int a), (.ref (W k.toNatClampNeg))])) rfl (by rw [hml]; rfl) (Steps.refl _) (argsL := [(.int a)]) (rest := []) (lenOf pd__I_Z rfl) rfl (by show 2 * 0 + _ ≤ _; exact Nat.le_of_eq rfl) (hb hby at_371) (fun _ _ => ⟨rfl, e171, (by decide : 3 + 0 ≤ _), (by decide : 51 + 0 ≤ _)⟩)
  dsimp only [Pt.U, Pt.locs, Pt.cells, Pt.slots] at X173 l173 y173 z173 st173 hQ173
  rw [l173, y173, z173] at X173
  obtain ⟨rfl, N173q, e173⟩ := hQ173
  have N173 := Fr.app N171 N173q
  obtain ⟨cq174, kq174, q174a, q174b, q174c⟩ := isOf hZ e173 E_k_172
  obtain ⟨_, _, ⟨T174, L174, k174, n174⟩, -, X174, ⟨Lc174, hQ174, l174, y174, z174⟩, st174⟩ := X173.virtualBack hx (y := (⟨"com/example/statewise/statewise/SheetFunction", "takes", "(I)Z"⟩ : MethodName)) (z := (⟨"com/example/statewise/statewise/SheetFunction", "takes", "(I)Z"⟩ : MethodName)) hown (mvT hZ (hw _ (List.mem_of_getElem? (i := 56) rfl))) (mvT hZ (hw _ (List.mem_of_getElem? (i := 57) rfl))) (notFace_of_selects (args := #[]) (mvT hZ hsel)) (mvT hZ hsel) (mvT hZ (hw _ (List.mem_of_getElem? (i := 58) rfl))) (by decide) (backOf (W := 0) (rm1 l Z a0 hw [] (W k.toNatClampNeg) b (1 : Int32) a b h159 n0 Zs159 F_f_169 F_m_170 (by simp [hab, Int32.lt_irrefl])) hZ (hw _ (List.mem_of_getElem? (i := 60) rfl)) (hw _ (List.mem_of_getElem? (i := 3) rfl)) (by decide) (by decide)) q174a q174c (g := (mkF m 381 #[.val (.int p0), .val (.int p1), .val (.ref b1), .val (.ref b87), .val (.ref b123), .val (.int k), .val (.ref (W k.toNatClampNeg)), .val (.int a), .val (.int b), .val (.int r0), .val (.int (1 : Int32))] [(.int b), (.ref (W k.toNatClampNeg))])) rfl (by rw [hml]; rfl) (Steps.refl _) (argsL := [(.int b)]) (rest := []) (lenOf pd__I_Z rfl) rfl (by show 2 * 0 + _ ≤ _; exact Nat.le_of_eq rfl) (hb hby at_381) (fun _ _ => ⟨rfl, e173, (by decide : 3 + 0 ≤ _), (by decide : 51 + 0 ≤ _)⟩)
  dsimp only [Pt.U, Pt.locs, Pt.cells, Pt.slots] at X174 l174 y174 z174 st174 hQ174
  rw [l174, y174, z174] at X174
  obtain ⟨rfl, N174q, e174⟩ := hQ174
  have N174 := Fr.app N173 N174q
  obtain ⟨cq175, kq175, q175a, q175b, q175c⟩ := isOf hZ e174 E_k_172
  obtain ⟨_, _, ⟨T175, L175, k175, n175⟩, -, X175, ⟨Lc175, hQ175, l175, y175, z175⟩, st175⟩ := X174.virtualBack hx (y := (⟨"com/example/statewise/statewise/SheetFunction", "takes", "(I)Z"⟩ : MethodName)) (z := (⟨"com/example/statewise/statewise/SheetFunction", "takes", "(I)Z"⟩ : MethodName)) hown (mvT hZ (hw _ (List.mem_of_getElem? (i := 56) rfl))) (mvT hZ (hw _ (List.mem_of_getElem? (i := 57) rfl))) (notFace_of_selects (args := #[]) (mvT hZ hsel)) (mvT hZ hsel) (mvT hZ (hw _ (List.mem_of_getElem? (i := 58) rfl))) (by decide) (backOf (W := 0) (rm1 l Z a0 hw [] (W k.toNatClampNeg) (a - (1 : Int32)) (0 : Int32) a b h159 n0 Zs159 F_f_169 F_m_170 (by simp [hm1])) hZ (hw _ (List.mem_of_getElem? (i := 60) rfl)) (hw _ (List.mem_of_getElem? (i := 3) rfl)) (by decide) (by decide)) q175a q175c (g := (mkF m 405 #[.val (.int p0), .val (.int p1), .val (.ref b1), .val (.ref b87), .val (.ref b123), .val (.int k), .val (.ref (W k.toNatClampNeg)), .val (.int a), .val (.int b), .val (.int r0), .val (.int (1 : Int32))] [(.int (a - (1 : Int32))), (.ref (W k.toNatClampNeg))])) rfl (by rw [hml]; rfl) (Steps.refl _) (argsL := [(.int (a - (1 : Int32)))]) (rest := []) (lenOf pd__I_Z rfl) rfl (by show 2 * 0 + _ ≤ _; exact Nat.le_of_eq rfl) (hb hby at_405) (fun _ _ => ⟨rfl, e174, (by decide : 3 + 0 ≤ _), (by decide : 51 + 0 ≤ _)⟩)
  dsimp only [Pt.U, Pt.locs, Pt.cells, Pt.slots] at X175 l175 y175 z175 st175 hQ175
  rw [l175, y175, z175] at X175
  obtain ⟨rfl, N175q, e175⟩ := hQ175
  have N175 := Fr.app N174 N175q
  have pre176 : ∀ t, Steps p.tables e below (T175.setTop (mkF m 427 #[.val (.int p0), .val (.int p1), .val (.ref b1), .val (.ref b87), .val (.ref b123), .val (.int k), .val (.ref (W k.toNatClampNeg)), .val (.int a), .val (.int b), .val (.int r0), .val (.int (1 : Int32))] [(.int (2147483647 : Int32)), (.int b)])) t → Steps p.tables e below (s₁.setTop (entryFrame m #[(.int p0), (.int p1)] maxLocals)) t := by
    intro t kt
    refine pre166 t ?_
    show Steps p.tables e below (T159.setTop (mkF m 342 #[.val (.int p0), .val (.int p1), .val (.ref b1), .val (.ref b87), .val (.ref b123), .val (.int k), .val (.ref (W k.toNatClampNeg)), .val (.int a), .val (.int b), .unset, .unset] [(.int r0)])) _
    refine XS.istore X159.here hx rfl (hb hby at_342) rfl (l' := #[.val (.int p0), .val (.int p1), .val (.ref b1), .val (.ref b87), .val (.ref b123), .val (.int k), .val (.ref (W k.toNatClampNeg)), .val (.int a), .val (.int b), .val (.int r0), .unset]) rfl ?_
    show Steps p.tables e below (T159.setTop (mkF m 344 #[.val (.int p0), .val (.int p1), .val (.ref b1), .val (.ref b87), .val (.ref b123), .val (.int k), .val (.ref (W k.toNatClampNeg)), .val (.int a), .val (.int b), .val (.int r0), .unset] [])) _
    refine XS.aload X159.here hx rfl (hb hby at_344) rfl rfl ?_
    show Steps p.tables e below (T159.setTop (mkF m 346 #[.val (.int p0), .val (.int p1), .val (.ref b1), .val (.ref b87), .val (.ref b123), .val (.int k), .val (.ref (W k.toNatClampNeg)), .val (.int a), .val (.int b), .val (.int r0), .unset] [(.ref (W k.toNatClampNeg))])) _
    refine XS.iloadN X159.here hx rfl (hb hby at_346) rfl ?_
    show Steps p.tables e below (T159.setTop (mkF m 347 #[.val (.int p0), .val (.int p1), .val (.ref b1), .val (.ref b87), .val (.ref b123), .val (.int k), .val (.ref (W k.toNatClampNeg)), .val (.int a), .val (.int b), .val (.int r0), .unset] [(.int p1), (.ref (W k.toNatClampNeg))])) _
    refine st171.trans ?_
    show Steps p.tables e below (T171.setTop (mkF m 350 #[.val (.int p0), .val (.int p1), .val (.ref b1), .val (.ref b87), .val (.ref b123), .val (.int k), .val (.ref (W k.toNatClampNeg)), .val (.int a), .val (.int b), .val (.int r0), .unset] [(.int r0)])) _
    refine XS.iload X171.here hx rfl (hb hby at_350) rfl ?_
    show Steps p.tables e below (T171.setTop (mkF m 352 #[.val (.int p0), .val (.int p1), .val (.ref b1), .val (.ref b87), .val (.ref b123), .val (.int k), .val (.ref (W k.toNatClampNeg)), .val (.int a), .val (.int b), .val (.int r0), .unset] [(.int r0), (.int r0)])) _
    refine XS.icmpNo X171.here hx rfl (hb hby at_352) rfl (teq rfl).2 ?_
    show Steps p.tables e below (T171.setTop (mkF m 355 #[.val (.int p0), .val (.int p1), .val (.ref b1), .val (.ref b87), .val (.ref b123), .val (.int k), .val (.ref (W k.toNatClampNeg)), .val (.int a), .val (.int b), .val (.int r0), .unset] [])) _
    refine XS.iconst X171.here hx rfl (hb hby at_355) ?_
    show Steps p.tables e below (T171.setTop (mkF m 356 #[.val (.int p0), .val (.int p1), .val (.ref b1), .val (.ref b87), .val (.ref b123), .val (.int k), .val (.ref (W k.toNatClampNeg)), .val (.int a), .val (.int b), .val (.int r0), .unset] [(.int (1 : Int32))])) _
    refine XS.goto X171.here hx rfl (pc0 := 356) (pc' := 360) rfl (hb hby at_356) (by decide) (by decide) ?_
    show Steps p.tables e below (T171.setTop (mkF m 360 #[.val (.int p0), .val (.int p1), .val (.ref b1), .val (.ref b87), .val (.ref b123), .val (.int k), .val (.ref (W k.toNatClampNeg)), .val (.int a), .val (.int b), .val (.int r0), .unset] [(.int (1 : Int32))])) _
    refine XS.istore X171.here hx rfl (hb hby at_360) rfl (l' := #[.val (.int p0), .val (.int p1), .val (.ref b1), .val (.ref b87), .val (.ref b123), .val (.int k), .val (.ref (W k.toNatClampNeg)), .val (.int a), .val (.int b), .val (.int r0), .val (.int (1 : Int32))]) rfl ?_
    show Steps p.tables e below (T171.setTop (mkF m 362 #[.val (.int p0), .val (.int p1), .val (.ref b1), .val (.ref b87), .val (.ref b123), .val (.int k), .val (.ref (W k.toNatClampNeg)), .val (.int a), .val (.int b), .val (.int r0), .val (.int (1 : Int32))] [])) _
    refine XS.iload X171.here hx rfl (hb hby at_362) rfl ?_
    show Steps p.tables e below (T171.setTop (mkF m 364 #[.val (.int p0), .val (.int p1), .val (.ref b1), .val (.ref b87), .val (.ref b123), .val (.int k), .val (.ref (W k.toNatClampNeg)), .val (.int a), .val (.int b), .val (.int r0), .val (.int (1 : Int32))] [(.int (1 : Int32))])) _
    refine XS.ifNo X171.here hx rfl (hb hby at_364) rfl ((if0 _ _).trans (feq (by decide : ¬ ((1 : Int32) = (0 : Int32)))).1) ?_
    show Steps p.tables e below (T171.setTop (mkF m 367 #[.val (.int p0), .val (.int p1), .val (.ref b1), .val (.ref b87), .val (.ref b123), .val (.int k), .val (.ref (W k.toNatClampNeg)), .val (.int a), .val (.int b), .val (.int r0), .val (.int (1 : Int32))] [])) _
    refine XS.aload X171.here hx rfl (hb hby at_367) rfl rfl ?_
    show Steps p.tables e below (T171.setTop (mkF m 369 #[.val (.int p0), .val (.int p1), .val (.ref b1), .val (.ref b87), .val (.ref b123), .val (.int k), .val (.ref (W k.toNatClampNeg)), .val (.int a), .val (.int b), .val (.int r0), .val (.int (1 : Int32))] [(.ref (W k.toNatClampNeg))])) _
    refine XS.iload X171.here hx rfl (hb hby at_369) rfl ?_
    show Steps p.tables e below (T171.setTop (mkF m 371 #[.val (.int p0), .val (.int p1), .val (.ref b1), .val (.ref b87), .val (.ref b123), .val (.int k), .val (.ref (W k.toNatClampNeg)), .val (.int a), .val (.int b), .val (.int r0), .val (.int (1 : Int32))] [(.int a), (.ref (W k.toNatClampNeg))])) _
    refine st173.trans ?_
    show Steps p.tables e below (T173.setTop (mkF m 374 #[.val (.int p0), .val (.int p1), .val (.ref b1), .val (.ref b87), .val (.ref b123), .val (.int k), .val (.ref (W k.toNatClampNeg)), .val (.int a), .val (.int b), .val (.int r0), .val (.int (1 : Int32))] [(.int (1 : Int32))])) _
    refine XS.ifNo X173.here hx rfl (hb hby at_374) rfl ((if0 _ _).trans (feq (by decide : ¬ ((1 : Int32) = (0 : Int32)))).1) ?_
    show Steps p.tables e below (T173.setTop (mkF m 377 #[.val (.int p0), .val (.int p1), .val (.ref b1), .val (.ref b87), .val (.ref b123), .val (.int k), .val (.ref (W k.toNatClampNeg)), .val (.int a), .val (.int b), .val (.int r0), .val (.int (1 : Int32))] [])) _
    refine XS.aload X173.here hx rfl (hb hby at_377) rfl rfl ?_
    show Steps p.tables e below (T173.setTop (mkF m 379 #[.val (.int p0), .val (.int p1), .val (.ref b1), .val (.ref b87), .val (.ref b123), .val (.int k), .val (.ref (W k.toNatClampNeg)), .val (.int a), .val (.int b), .val (.int r0), .val (.int (1 : Int32))] [(.ref (W k.toNatClampNeg))])) _
    refine XS.iload X173.here hx rfl (hb hby at_379) rfl ?_
    show Steps p.tables e below (T173.setTop (mkF m 381 #[.val (.int p0), .val (.int p1), .val (.ref b1), .val (.ref b87), .val (.ref b123), .val (.int k), .val (.ref (W k.toNatClampNeg)), .val (.int a), .val (.int b), .val (.int r0), .val (.int (1 : Int32))] [(.int b), (.ref (W k.toNatClampNeg))])) _
    refine st174.trans ?_
    show Steps p.tables e below (T174.setTop (mkF m 384 #[.val (.int p0), .val (.int p1), .val (.ref b1), .val (.ref b87), .val (.ref b123), .val (.int k), .val (.ref (W k.toNatClampNeg)), .val (.int a), .val (.int b), .val (.int r0), .val (.int (1 : Int32))] [(.int (1 : Int32))])) _
    refine XS.ifNo X174.here hx rfl (hb hby at_384) rfl ((if0 _ _).trans (feq (by decide : ¬ ((1 : Int32) = (0 : Int32)))).1) ?_
    show Steps p.tables e below (T174.setTop (mkF m 387 #[.val (.int p0), .val (.int p1), .val (.ref b1), .val (.ref b87), .val (.ref b123), .val (.int k), .val (.ref (W k.toNatClampNeg)), .val (.int a), .val (.int b), .val (.int r0), .val (.int (1 : Int32))] [])) _
    refine XS.iconst X174.here hx rfl (hb hby at_387) ?_
    show Steps p.tables e below (T174.setTop (mkF m 388 #[.val (.int p0), .val (.int p1), .val (.ref b1), .val (.ref b87), .val (.ref b123), .val (.int k), .val (.ref (W k.toNatClampNeg)), .val (.int a), .val (.int b), .val (.int r0), .val (.int (1 : Int32))] [(.int (1 : Int32))])) _
    refine XS.goto X174.here hx rfl (pc0 := 388) (pc' := 392) rfl (hb hby at_388) (by decide) (by decide) ?_
    show Steps p.tables e below (T174.setTop (mkF m 392 #[.val (.int p0), .val (.int p1), .val (.ref b1), .val (.ref b87), .val (.ref b123), .val (.int k), .val (.ref (W k.toNatClampNeg)), .val (.int a), .val (.int b), .val (.int r0), .val (.int (1 : Int32))] [(.int (1 : Int32))])) _
    refine XS.istore X174.here hx rfl (hb hby at_392) rfl (l' := #[.val (.int p0), .val (.int p1), .val (.ref b1), .val (.ref b87), .val (.ref b123), .val (.int k), .val (.ref (W k.toNatClampNeg)), .val (.int a), .val (.int b), .val (.int r0), .val (.int (1 : Int32))]) rfl ?_
    show Steps p.tables e below (T174.setTop (mkF m 394 #[.val (.int p0), .val (.int p1), .val (.ref b1), .val (.ref b87), .val (.ref b123), .val (.int k), .val (.ref (W k.toNatClampNeg)), .val (.int a), .val (.int b), .val (.int r0), .val (.int (1 : Int32))] [])) _
    refine XS.iload X174.here hx rfl (hb hby at_394) rfl ?_
    show Steps p.tables e below (T174.setTop (mkF m 396 #[.val (.int p0), .val (.int p1), .val (.ref b1), .val (.ref b87), .val (.ref b123), .val (.int k), .val (.ref (W k.toNatClampNeg)), .val (.int a), .val (.int b), .val (.int r0), .val (.int (1 : Int32))] [(.int (1 : Int32))])) _
    refine XS.ifNo X174.here hx rfl (hb hby at_396) rfl ((if0 _ _).trans (feq (by decide : ¬ ((1 : Int32) = (0 : Int32)))).1) ?_
    show Steps p.tables e below (T174.setTop (mkF m 399 #[.val (.int p0), .val (.int p1), .val (.ref b1), .val (.ref b87), .val (.ref b123), .val (.int k), .val (.ref (W k.toNatClampNeg)), .val (.int a), .val (.int b), .val (.int r0), .val (.int (1 : Int32))] [])) _
    refine XS.aload X174.here hx rfl (hb hby at_399) rfl rfl ?_
    show Steps p.tables e below (T174.setTop (mkF m 401 #[.val (.int p0), .val (.int p1), .val (.ref b1), .val (.ref b87), .val (.ref b123), .val (.int k), .val (.ref (W k.toNatClampNeg)), .val (.int a), .val (.int b), .val (.int r0), .val (.int (1 : Int32))] [(.ref (W k.toNatClampNeg))])) _
    refine XS.iload X174.here hx rfl (hb hby at_401) rfl ?_
    show Steps p.tables e below (T174.setTop (mkF m 403 #[.val (.int p0), .val (.int p1), .val (.ref b1), .val (.ref b87), .val (.ref b123), .val (.int k), .val (.ref (W k.toNatClampNeg)), .val (.int a), .val (.int b), .val (.int r0), .val (.int (1 : Int32))] [(.int a), (.ref (W k.toNatClampNeg))])) _
    refine XS.iconst X174.here hx rfl (hb hby at_403) ?_
    show Steps p.tables e below (T174.setTop (mkF m 404 #[.val (.int p0), .val (.int p1), .val (.ref b1), .val (.ref b87), .val (.ref b123), .val (.int k), .val (.ref (W k.toNatClampNeg)), .val (.int a), .val (.int b), .val (.int r0), .val (.int (1 : Int32))] [(.int (1 : Int32)), (.int a), (.ref (W k.toNatClampNeg))])) _
    refine XS.isub X174.here hx rfl (hb hby at_404) rfl ?_
    show Steps p.tables e below (T174.setTop (mkF m 405 #[.val (.int p0), .val (.int p1), .val (.ref b1), .val (.ref b87), .val (.ref b123), .val (.int k), .val (.ref (W k.toNatClampNeg)), .val (.int a), .val (.int b), .val (.int r0), .val (.int (1 : Int32))] [(.int (a - (1 : Int32))), (.ref (W k.toNatClampNeg))])) _
    refine st175.trans ?_
    show Steps p.tables e below (T175.setTop (mkF m 408 #[.val (.int p0), .val (.int p1), .val (.ref b1), .val (.ref b87), .val (.ref b123), .val (.int k), .val (.ref (W k.toNatClampNeg)), .val (.int a), .val (.int b), .val (.int r0), .val (.int (1 : Int32))] [(.int (0 : Int32))])) _
    refine XS.ifNo X175.here hx rfl (hb hby at_408) rfl ((if0 _ _).trans (teq (by decide : (0 : Int32) = (0 : Int32))).2) ?_
    show Steps p.tables e below (T175.setTop (mkF m 411 #[.val (.int p0), .val (.int p1), .val (.ref b1), .val (.ref b87), .val (.ref b123), .val (.int k), .val (.ref (W k.toNatClampNeg)), .val (.int a), .val (.int b), .val (.int r0), .val (.int (1 : Int32))] [])) _
    refine XS.iconst X175.here hx rfl (hb hby at_411) ?_
    show Steps p.tables e below (T175.setTop (mkF m 412 #[.val (.int p0), .val (.int p1), .val (.ref b1), .val (.ref b87), .val (.ref b123), .val (.int k), .val (.ref (W k.toNatClampNeg)), .val (.int a), .val (.int b), .val (.int r0), .val (.int (1 : Int32))] [(.int (1 : Int32))])) _
    refine XS.goto X175.here hx rfl (pc0 := 412) (pc' := 416) rfl (hb hby at_412) (by decide) (by decide) ?_
    show Steps p.tables e below (T175.setTop (mkF m 416 #[.val (.int p0), .val (.int p1), .val (.ref b1), .val (.ref b87), .val (.ref b123), .val (.int k), .val (.ref (W k.toNatClampNeg)), .val (.int a), .val (.int b), .val (.int r0), .val (.int (1 : Int32))] [(.int (1 : Int32))])) _
    refine XS.istore X175.here hx rfl (hb hby at_416) rfl (l' := #[.val (.int p0), .val (.int p1), .val (.ref b1), .val (.ref b87), .val (.ref b123), .val (.int k), .val (.ref (W k.toNatClampNeg)), .val (.int a), .val (.int b), .val (.int r0), .val (.int (1 : Int32))]) rfl ?_
    show Steps p.tables e below (T175.setTop (mkF m 418 #[.val (.int p0), .val (.int p1), .val (.ref b1), .val (.ref b87), .val (.ref b123), .val (.int k), .val (.ref (W k.toNatClampNeg)), .val (.int a), .val (.int b), .val (.int r0), .val (.int (1 : Int32))] [])) _
    refine XS.iload X175.here hx rfl (hb hby at_418) rfl ?_
    show Steps p.tables e below (T175.setTop (mkF m 420 #[.val (.int p0), .val (.int p1), .val (.ref b1), .val (.ref b87), .val (.ref b123), .val (.int k), .val (.ref (W k.toNatClampNeg)), .val (.int a), .val (.int b), .val (.int r0), .val (.int (1 : Int32))] [(.int (1 : Int32))])) _
    refine XS.ifNo X175.here hx rfl (hb hby at_420) rfl ((if0 _ _).trans (feq (by decide : ¬ ((1 : Int32) = (0 : Int32)))).1) ?_
    show Steps p.tables e below (T175.setTop (mkF m 423 #[.val (.int p0), .val (.int p1), .val (.ref b1), .val (.ref b87), .val (.ref b123), .val (.int k), .val (.ref (W k.toNatClampNeg)), .val (.int a), .val (.int b), .val (.int r0), .val (.int (1 : Int32))] [])) _
    refine XS.iload X175.here hx rfl (hb hby at_423) rfl ?_
    show Steps p.tables e below (T175.setTop (mkF m 425 #[.val (.int p0), .val (.int p1), .val (.ref b1), .val (.ref b87), .val (.ref b123), .val (.int k), .val (.ref (W k.toNatClampNeg)), .val (.int a), .val (.int b), .val (.int r0), .val (.int (1 : Int32))] [(.int b)])) _
    refine X175.ldcInt hx hown (mvT hZ (hw _ (List.mem_of_getElem? (i := 55) rfl))) (g := (mkF m 425 #[.val (.int p0), .val (.int p1), .val (.ref b1), .val (.ref b87), .val (.ref b123), .val (.int k), .val (.ref (W k.toNatClampNeg)), .val (.int a), .val (.int b), .val (.int r0), .val (.int (1 : Int32))] [(.int b)])) rfl (hb hby at_425) _ ?_
    exact kt
  by_cases hc177 : b = (2147483647 : Int32)
  · skip
    obtain ⟨fs, hr, hrun, hended, hW, hsame⟩ := X175.leave (v := some (.int (1 : Int32))) (fun h => by rw [Bd.returns] at h; cases h)
    refine ⟨_, _, pre176 _ ?_, hrun, hended, _, _, rfl, ?_, ⟨_, rfl⟩, hW, hsame.mono (by decide) (by decide)⟩
    · skip
      show Steps p.tables e below (T175.setTop (mkF m 427 #[.val (.int p0), .val (.int p1), .val (.ref b1), .val (.ref b87), .val (.ref b123), .val (.int k), .val (.ref (W k.toNatClampNeg)), .val (.int a), .val (.int b), .val (.int r0), .val (.int (1 : Int32))] [(.int (2147483647 : Int32)), (.int b)])) _
      refine XS.icmpYes X175.here hx rfl (pc0 := 427) (pc' := 442) rfl (hb hby at_427) rfl (teq hc177).1 (by decide) (by decide) ?_
      show Steps p.tables e below (T175.setTop (mkF m 442 #[.val (.int p0), .val (.int p1), .val (.ref b1), .val (.ref b87), .val (.ref b123), .val (.int k), .val (.ref (W k.toNatClampNeg)), .val (.int a), .val (.int b), .val (.int r0), .val (.int (1 : Int32))] [])) _
      refine XS.iconst X175.here hx rfl (hb hby at_442) ?_
      show Steps p.tables e below (T175.setTop (mkF m 443 #[.val (.int p0), .val (.int p1), .val (.ref b1), .val (.ref b87), .val (.ref b123), .val (.int k), .val (.ref (W k.toNatClampNeg)), .val (.int a), .val (.int b), .val (.int r0), .val (.int (1 : Int32))] [(.int (1 : Int32))])) _
      refine XS.goto X175.here hx rfl (pc0 := 443) (pc' := 447) rfl (hb hby at_443) (by decide) (by decide) ?_
      show Steps p.tables e below (T175.setTop (mkF m 447 #[.val (.int p0), .val (.int p1), .val (.ref b1), .val (.ref b87), .val (.ref b123), .val (.int k), .val (.ref (W k.toNatClampNeg)), .val (.int a), .val (.int b), .val (.int r0), .val (.int (1 : Int32))] [(.int (1 : Int32))])) _
      refine XS.istore X175.here hx rfl (hb hby at_447) rfl (l' := #[.val (.int p0), .val (.int p1), .val (.ref b1), .val (.ref b87), .val (.ref b123), .val (.int k), .val (.ref (W k.toNatClampNeg)), .val (.int a), .val (.int b), .val (.int r0), .val (.int (1 : Int32))]) rfl ?_
      show Steps p.tables e below (T175.setTop (mkF m 449 #[.val (.int p0), .val (.int p1), .val (.ref b1), .val (.ref b87), .val (.ref b123), .val (.int k), .val (.ref (W k.toNatClampNeg)), .val (.int a), .val (.int b), .val (.int r0), .val (.int (1 : Int32))] [])) _
      refine XS.iload X175.here hx rfl (hb hby at_449) rfl ?_
      show Steps p.tables e below (T175.setTop (mkF m 451 #[.val (.int p0), .val (.int p1), .val (.ref b1), .val (.ref b87), .val (.ref b123), .val (.int k), .val (.ref (W k.toNatClampNeg)), .val (.int a), .val (.int b), .val (.int r0), .val (.int (1 : Int32))] [(.int (1 : Int32))])) _
      exact retN X175 hx (t := .boolean) Bd.returns (by simp) (hb hby at_451) hr
    · exact ⟨(by first | rfl | simp [hc177]), N175⟩
  · skip
    obtain ⟨cq178, kq178, q178a, q178b, q178c⟩ := isOf hZ e175 E_k_172
    obtain ⟨_, _, ⟨T178, L178, k178, n178⟩, -, X178, ⟨Lc178, hQ178, l178, y178, z178⟩, st178⟩ := X175.virtualBack hx (y := (⟨"com/example/statewise/statewise/SheetFunction", "takes", "(I)Z"⟩ : MethodName)) (z := (⟨"com/example/statewise/statewise/SheetFunction", "takes", "(I)Z"⟩ : MethodName)) hown (mvT hZ (hw _ (List.mem_of_getElem? (i := 56) rfl))) (mvT hZ (hw _ (List.mem_of_getElem? (i := 57) rfl))) (notFace_of_selects (args := #[]) (mvT hZ hsel)) (mvT hZ hsel) (mvT hZ (hw _ (List.mem_of_getElem? (i := 58) rfl))) (by decide) (backOf (W := 0) (rm1 l Z a0 hw [] (W k.toNatClampNeg) (b + (1 : Int32)) (0 : Int32) a b h159 n0 Zs159 F_f_169 F_m_170 (by simp [hb1 hc177])) hZ (hw _ (List.mem_of_getElem? (i := 60) rfl)) (hw _ (List.mem_of_getElem? (i := 3) rfl)) (by decide) (by decide)) q178a q178c (g := (mkF m 436 #[.val (.int p0), .val (.int p1), .val (.ref b1), .val (.ref b87), .val (.ref b123), .val (.int k), .val (.ref (W k.toNatClampNeg)), .val (.int a), .val (.int b), .val (.int r0), .val (.int (1 : Int32))] [(.int (b + (1 : Int32))), (.ref (W k.toNatClampNeg))])) rfl (by rw [hml]; rfl) (Steps.refl _) (argsL := [(.int (b + (1 : Int32)))]) (rest := []) (lenOf pd__I_Z rfl) rfl (by show 2 * 0 + _ ≤ _; exact Nat.le_of_eq rfl) (hb hby at_436) (fun _ _ => ⟨rfl, e175, (by decide : 3 + 0 ≤ _), (by decide : 51 + 0 ≤ _)⟩)
    dsimp only [Pt.U, Pt.locs, Pt.cells, Pt.slots] at X178 l178 y178 z178 st178 hQ178
    rw [l178, y178, z178] at X178
    obtain ⟨rfl, N178q, e178⟩ := hQ178
    have N178 := Fr.app N175 N178q
    obtain ⟨fs, hr, hrun, hended, hW, hsame⟩ := X178.leave (v := some (.int (1 : Int32))) (fun h => by rw [Bd.returns] at h; cases h)
    refine ⟨_, _, pre176 _ ?_, hrun, hended, _, _, rfl, ?_, ⟨_, rfl⟩, hW, hsame.mono (by decide) (by decide)⟩
    · skip
      show Steps p.tables e below (T175.setTop (mkF m 427 #[.val (.int p0), .val (.int p1), .val (.ref b1), .val (.ref b87), .val (.ref b123), .val (.int k), .val (.ref (W k.toNatClampNeg)), .val (.int a), .val (.int b), .val (.int r0), .val (.int (1 : Int32))] [(.int (2147483647 : Int32)), (.int b)])) _
      refine XS.icmpNo X175.here hx rfl (hb hby at_427) rfl (feq hc177).1 ?_
      show Steps p.tables e below (T175.setTop (mkF m 430 #[.val (.int p0), .val (.int p1), .val (.ref b1), .val (.ref b87), .val (.ref b123), .val (.int k), .val (.ref (W k.toNatClampNeg)), .val (.int a), .val (.int b), .val (.int r0), .val (.int (1 : Int32))] [])) _
      refine XS.aload X175.here hx rfl (hb hby at_430) rfl rfl ?_
      show Steps p.tables e below (T175.setTop (mkF m 432 #[.val (.int p0), .val (.int p1), .val (.ref b1), .val (.ref b87), .val (.ref b123), .val (.int k), .val (.ref (W k.toNatClampNeg)), .val (.int a), .val (.int b), .val (.int r0), .val (.int (1 : Int32))] [(.ref (W k.toNatClampNeg))])) _
      refine XS.iload X175.here hx rfl (hb hby at_432) rfl ?_
      show Steps p.tables e below (T175.setTop (mkF m 434 #[.val (.int p0), .val (.int p1), .val (.ref b1), .val (.ref b87), .val (.ref b123), .val (.int k), .val (.ref (W k.toNatClampNeg)), .val (.int a), .val (.int b), .val (.int r0), .val (.int (1 : Int32))] [(.int b), (.ref (W k.toNatClampNeg))])) _
      refine XS.iconst X175.here hx rfl (hb hby at_434) ?_
      show Steps p.tables e below (T175.setTop (mkF m 435 #[.val (.int p0), .val (.int p1), .val (.ref b1), .val (.ref b87), .val (.ref b123), .val (.int k), .val (.ref (W k.toNatClampNeg)), .val (.int a), .val (.int b), .val (.int r0), .val (.int (1 : Int32))] [(.int (1 : Int32)), (.int b), (.ref (W k.toNatClampNeg))])) _
      refine XS.iadd X175.here hx rfl (hb hby at_435) rfl ?_
      show Steps p.tables e below (T175.setTop (mkF m 436 #[.val (.int p0), .val (.int p1), .val (.ref b1), .val (.ref b87), .val (.ref b123), .val (.int k), .val (.ref (W k.toNatClampNeg)), .val (.int a), .val (.int b), .val (.int r0), .val (.int (1 : Int32))] [(.int (b + (1 : Int32))), (.ref (W k.toNatClampNeg))])) _
      refine st178.trans ?_
      show Steps p.tables e below (T178.setTop (mkF m 439 #[.val (.int p0), .val (.int p1), .val (.ref b1), .val (.ref b87), .val (.ref b123), .val (.int k), .val (.ref (W k.toNatClampNeg)), .val (.int a), .val (.int b), .val (.int r0), .val (.int (1 : Int32))] [(.int (0 : Int32))])) _
      refine XS.ifNo X178.here hx rfl (hb hby at_439) rfl ((if0 _ _).trans (teq (by decide : (0 : Int32) = (0 : Int32))).2) ?_
      show Steps p.tables e below (T178.setTop (mkF m 442 #[.val (.int p0), .val (.int p1), .val (.ref b1), .val (.ref b87), .val (.ref b123), .val (.int k), .val (.ref (W k.toNatClampNeg)), .val (.int a), .val (.int b), .val (.int r0), .val (.int (1 : Int32))] [])) _
      refine XS.iconst X178.here hx rfl (hb hby at_442) ?_
      show Steps p.tables e below (T178.setTop (mkF m 443 #[.val (.int p0), .val (.int p1), .val (.ref b1), .val (.ref b87), .val (.ref b123), .val (.int k), .val (.ref (W k.toNatClampNeg)), .val (.int a), .val (.int b), .val (.int r0), .val (.int (1 : Int32))] [(.int (1 : Int32))])) _
      refine XS.goto X178.here hx rfl (pc0 := 443) (pc' := 447) rfl (hb hby at_443) (by decide) (by decide) ?_
      show Steps p.tables e below (T178.setTop (mkF m 447 #[.val (.int p0), .val (.int p1), .val (.ref b1), .val (.ref b87), .val (.ref b123), .val (.int k), .val (.ref (W k.toNatClampNeg)), .val (.int a), .val (.int b), .val (.int r0), .val (.int (1 : Int32))] [(.int (1 : Int32))])) _
      refine XS.istore X178.here hx rfl (hb hby at_447) rfl (l' := #[.val (.int p0), .val (.int p1), .val (.ref b1), .val (.ref b87), .val (.ref b123), .val (.int k), .val (.ref (W k.toNatClampNeg)), .val (.int a), .val (.int b), .val (.int r0), .val (.int (1 : Int32))]) rfl ?_
      show Steps p.tables e below (T178.setTop (mkF m 449 #[.val (.int p0), .val (.int p1), .val (.ref b1), .val (.ref b87), .val (.ref b123), .val (.int k), .val (.ref (W k.toNatClampNeg)), .val (.int a), .val (.int b), .val (.int r0), .val (.int (1 : Int32))] [])) _
      refine XS.iload X178.here hx rfl (hb hby at_449) rfl ?_
      show Steps p.tables e below (T178.setTop (mkF m 451 #[.val (.int p0), .val (.int p1), .val (.ref b1), .val (.ref b87), .val (.ref b123), .val (.int k), .val (.ref (W k.toNatClampNeg)), .val (.int a), .val (.int b), .val (.int r0), .val (.int (1 : Int32))] [(.int (1 : Int32))])) _
      exact retN X178 hx (t := .boolean) Bd.returns (by simp) (hb hby at_451) hr
    · exact ⟨(by first | rfl | simp [hc177]), N178⟩
set_option maxRecDepth 65536 in
set_option maxHeartbeats 40000000 in
theorem comes_1 {Post : Tables → Env → Array Value → State → Outcome → State → Prop} (hpost : ∀ tb e args s v u, (limb_1_1.after args s (.returned v) u = true ∧ limb_1_2.after args s (.returned v) u = true ∧ True) → FrameEnd s (.returned v) u (Jvm.fieldLocs frame_1_writes args s ++ Jvm.arrayLocs frame_1_arrays args s ++ Jvm.staticLocs frame_1_statics s) 16 192 → Post tb e args s (.returned v) u) :
    ArmFor flags0 classFile x code maxLocals ret World_1 tables_1 room_1 Calls_1 rest_1 Pre_1 Post := by
  intro l hfl _ _ p e ha hcas hclk s m args below hf hA hF happ hP
  obtain ⟨hcalls, hrest, hpre⟩ := hP
  obtain ⟨-, -, -, hnamed, -, -, -, hat⟩ := (Spec.applies_iff hf).mp happ
  obtain ⟨hg, hn⟩ := and_e (Cond.before_iff.mp (show (Jvm.Cond.and given_1 narrow_1).before args s = true from hpre))
  obtain ⟨g0, hg⟩ := and_e hg
  obtain ⟨g1, hg⟩ := and_e hg
  have g2 := hg
  obtain ⟨w0, w1, rfl⟩ : ∃ w0 w1 : Value, args = #[w0, w1] := by
    have hs : args.size = 2 := by simpa [Cond.value, given_1] using g0
    obtain ⟨L⟩ := args
    match L, hs with
    | [w0, w1], _ => exact ⟨w0, w1, rfl⟩
  have hw := fun d (hd : d ∈ tables_1) => atoms_spec (ws := Jvm.Cond.code x code maxLocals ret :: tables_1) hat d (List.mem_cons_of_mem _ hd)
  have hfit : Fit s := fun {y c} hc i hi => by
    obtain ⟨ha, rfl⟩ := Array.getElem?_eq_some_iff.mp hc
    have q := List.all_eq_true.mp ((Array.all_eq_true_iff_forall_mem.mp hF) _ (Array.getElem_mem ha)) i (List.mem_range.mpr hi)
    simpa [Array.getElem?_eq_getElem hi] using q
  obtain ⟨i0, ei0⟩ := is_v g1
  obtain rfl : w0 = (.int i0) := Option.some.inj ei0
  obtain ⟨i1, ei1⟩ := is_v g2
  obtain rfl : w1 = (.int i1) := Option.some.inj ei1
  obtain ⟨m0, hn⟩ := and_e hn
  obtain ⟨m1, hn⟩ := and_e hn
  obtain ⟨m2, hn⟩ := and_e hn
  obtain ⟨m3, hn⟩ := and_e hn
  obtain ⟨m4, hn⟩ := and_e hn
  obtain ⟨m5, hn⟩ := and_e hn
  obtain ⟨m6, hn⟩ := and_e hn
  obtain ⟨m7, hn⟩ := and_e hn
  obtain ⟨m8, hn⟩ := and_e hn
  obtain ⟨m9, hn⟩ := and_e hn
  obtain ⟨m10, hn⟩ := and_e hn
  obtain ⟨m11, hn⟩ := and_e hn
  obtain ⟨m12, hn⟩ := and_e hn
  obtain ⟨m13, hn⟩ := and_e hn
  obtain ⟨m14, hn⟩ := and_e hn
  obtain ⟨m15, hn⟩ := and_e hn
  obtain ⟨m16, hn⟩ := and_e hn
  obtain ⟨m17, hn⟩ := and_e hn
  obtain ⟨m18, hn⟩ := and_e hn
  obtain ⟨m19, hn⟩ := and_e hn
  obtain ⟨m20, hn⟩ := and_e hn
  obtain ⟨m21, hn⟩ := and_e hn
  obtain ⟨m22, hn⟩ := and_e hn
  obtain ⟨m23, hn⟩ := and_e hn
  obtain ⟨m24, hn⟩ := and_e hn
  obtain ⟨m25, hn⟩ := and_e hn
  obtain ⟨m26, hn⟩ := and_e hn
  obtain ⟨m27, hn⟩ := and_e hn
  obtain ⟨m28, hn⟩ := and_e hn
  obtain ⟨m29, hn⟩ := and_e hn
  obtain ⟨m30, hn⟩ := and_e hn
  obtain ⟨m31, hn⟩ := and_e hn
  obtain ⟨m32, hn⟩ := and_e hn
  obtain ⟨m33, hn⟩ := and_e hn
  obtain ⟨m34, hn⟩ := and_e hn
  obtain ⟨m35, hn⟩ := and_e hn
  obtain ⟨m36, hn⟩ := and_e hn
  obtain ⟨m37, hn⟩ := and_e hn
  obtain ⟨m38, hn⟩ := and_e hn
  obtain ⟨m39, hn⟩ := and_e hn
  obtain ⟨m40, hn⟩ := and_e hn
  obtain ⟨m41, hn⟩ := and_e hn
  obtain ⟨m42, hn⟩ := and_e hn
  obtain ⟨m43, hn⟩ := and_e hn
  obtain ⟨m44, hn⟩ := and_e hn
  obtain ⟨m45, hn⟩ := and_e hn
  obtain ⟨m46, hn⟩ := and_e hn
  obtain ⟨m47, hn⟩ := and_e hn
  obtain ⟨m48, hn⟩ := and_e hn
  obtain ⟨m49, hn⟩ := and_e hn
  have m50 := hn
  obtain ⟨w_SheetFunction_SUM, ev_SheetFunction_SUM⟩ := exa_v m0
  have E_SheetFunction_SUM := Exa.start ev_SheetFunction_SUM m0
  have S_SheetFunction_SUM := Sta.start ev_SheetFunction_SUM (Or.inr ⟨(hw _ (List.mem_of_getElem? (i := 3) rfl)), (hw _ (List.mem_of_getElem? (i := 4) rfl))⟩)
  obtain ⟨w_SheetFunction_AVERAGE, ev_SheetFunction_AVERAGE⟩ := exa_v m1
  have E_SheetFunction_AVERAGE := Exa.start ev_SheetFunction_AVERAGE m1
  have S_SheetFunction_AVERAGE := Sta.start ev_SheetFunction_AVERAGE (Or.inr ⟨(hw _ (List.mem_of_getElem? (i := 3) rfl)), (hw _ (List.mem_of_getElem? (i := 7) rfl))⟩)
  obtain ⟨w_SheetFunction_MIN, ev_SheetFunction_MIN⟩ := exa_v m2
  have E_SheetFunction_MIN := Exa.start ev_SheetFunction_MIN m2
  have S_SheetFunction_MIN := Sta.start ev_SheetFunction_MIN (Or.inr ⟨(hw _ (List.mem_of_getElem? (i := 3) rfl)), (hw _ (List.mem_of_getElem? (i := 10) rfl))⟩)
  obtain ⟨w_SheetFunction_MAX, ev_SheetFunction_MAX⟩ := exa_v m3
  have E_SheetFunction_MAX := Exa.start ev_SheetFunction_MAX m3
  have S_SheetFunction_MAX := Sta.start ev_SheetFunction_MAX (Or.inr ⟨(hw _ (List.mem_of_getElem? (i := 3) rfl)), (hw _ (List.mem_of_getElem? (i := 13) rfl))⟩)
  obtain ⟨w_SheetFunction_COUNT, ev_SheetFunction_COUNT⟩ := exa_v m4
  have E_SheetFunction_COUNT := Exa.start ev_SheetFunction_COUNT m4
  have S_SheetFunction_COUNT := Sta.start ev_SheetFunction_COUNT (Or.inr ⟨(hw _ (List.mem_of_getElem? (i := 3) rfl)), (hw _ (List.mem_of_getElem? (i := 16) rfl))⟩)
  obtain ⟨w_SheetFunction_COUNTA, ev_SheetFunction_COUNTA⟩ := exa_v m5
  have E_SheetFunction_COUNTA := Exa.start ev_SheetFunction_COUNTA m5
  have S_SheetFunction_COUNTA := Sta.start ev_SheetFunction_COUNTA (Or.inr ⟨(hw _ (List.mem_of_getElem? (i := 3) rfl)), (hw _ (List.mem_of_getElem? (i := 19) rfl))⟩)
  obtain ⟨w_SheetFunction_ROUND, ev_SheetFunction_ROUND⟩ := exa_v m6
  have E_SheetFunction_ROUND := Exa.start ev_SheetFunction_ROUND m6
  have S_SheetFunction_ROUND := Sta.start ev_SheetFunction_ROUND (Or.inr ⟨(hw _ (List.mem_of_getElem? (i := 3) rfl)), (hw _ (List.mem_of_getElem? (i := 22) rfl))⟩)
  obtain ⟨w_SheetFunction_ABS, ev_SheetFunction_ABS⟩ := exa_v m7
  have E_SheetFunction_ABS := Exa.start ev_SheetFunction_ABS m7
  have S_SheetFunction_ABS := Sta.start ev_SheetFunction_ABS (Or.inr ⟨(hw _ (List.mem_of_getElem? (i := 3) rfl)), (hw _ (List.mem_of_getElem? (i := 25) rfl))⟩)
  obtain ⟨w_SheetFunction_IF, ev_SheetFunction_IF⟩ := exa_v m8
  have E_SheetFunction_IF := Exa.start ev_SheetFunction_IF m8
  have S_SheetFunction_IF := Sta.start ev_SheetFunction_IF (Or.inr ⟨(hw _ (List.mem_of_getElem? (i := 3) rfl)), (hw _ (List.mem_of_getElem? (i := 28) rfl))⟩)
  obtain ⟨w_SheetFunction_AND, ev_SheetFunction_AND⟩ := exa_v m9
  have E_SheetFunction_AND := Exa.start ev_SheetFunction_AND m9
  have S_SheetFunction_AND := Sta.start ev_SheetFunction_AND (Or.inr ⟨(hw _ (List.mem_of_getElem? (i := 3) rfl)), (hw _ (List.mem_of_getElem? (i := 31) rfl))⟩)
  obtain ⟨w_SheetFunction_OR, ev_SheetFunction_OR⟩ := exa_v m10
  have E_SheetFunction_OR := Exa.start ev_SheetFunction_OR m10
  have S_SheetFunction_OR := Sta.start ev_SheetFunction_OR (Or.inr ⟨(hw _ (List.mem_of_getElem? (i := 3) rfl)), (hw _ (List.mem_of_getElem? (i := 34) rfl))⟩)
  obtain ⟨w_SheetFunction_NOT, ev_SheetFunction_NOT⟩ := exa_v m11
  have E_SheetFunction_NOT := Exa.start ev_SheetFunction_NOT m11
  have S_SheetFunction_NOT := Sta.start ev_SheetFunction_NOT (Or.inr ⟨(hw _ (List.mem_of_getElem? (i := 3) rfl)), (hw _ (List.mem_of_getElem? (i := 37) rfl))⟩)
  obtain ⟨w_SheetFunction_SUMIF, ev_SheetFunction_SUMIF⟩ := exa_v m12
  have E_SheetFunction_SUMIF := Exa.start ev_SheetFunction_SUMIF m12
  have S_SheetFunction_SUMIF := Sta.start ev_SheetFunction_SUMIF (Or.inr ⟨(hw _ (List.mem_of_getElem? (i := 3) rfl)), (hw _ (List.mem_of_getElem? (i := 40) rfl))⟩)
  obtain ⟨w_SheetFunction_VLOOKUP, ev_SheetFunction_VLOOKUP⟩ := exa_v m13
  have E_SheetFunction_VLOOKUP := Exa.start ev_SheetFunction_VLOOKUP m13
  have S_SheetFunction_VLOOKUP := Sta.start ev_SheetFunction_VLOOKUP (Or.inr ⟨(hw _ (List.mem_of_getElem? (i := 3) rfl)), (hw _ (List.mem_of_getElem? (i := 43) rfl))⟩)
  obtain ⟨w_SheetFunction_CONCATENATE, ev_SheetFunction_CONCATENATE⟩ := exa_v m14
  have E_SheetFunction_CONCATENATE := Exa.start ev_SheetFunction_CONCATENATE m14
  have S_SheetFunction_CONCATENATE := Sta.start ev_SheetFunction_CONCATENATE (Or.inr ⟨(hw _ (List.mem_of_getElem? (i := 3) rfl)), (hw _ (List.mem_of_getElem? (i := 46) rfl))⟩)
  obtain ⟨w_SheetFunction_NOW, ev_SheetFunction_NOW⟩ := exa_v m15
  have E_SheetFunction_NOW := Exa.start ev_SheetFunction_NOW m15
  have S_SheetFunction_NOW := Sta.start ev_SheetFunction_NOW (Or.inr ⟨(hw _ (List.mem_of_getElem? (i := 3) rfl)), (hw _ (List.mem_of_getElem? (i := 49) rfl))⟩)
  obtain ⟨w_SheetFunction_TODAY, ev_SheetFunction_TODAY⟩ := exa_v m16
  have E_SheetFunction_TODAY := Exa.start ev_SheetFunction_TODAY m16
  have S_SheetFunction_TODAY := Sta.start ev_SheetFunction_TODAY (Or.inr ⟨(hw _ (List.mem_of_getElem? (i := 3) rfl)), (hw _ (List.mem_of_getElem? (i := 52) rfl))⟩)
  have F_SheetFunction_SUM_fewest := own_fldI ev_SheetFunction_SUM m17
  have F_SheetFunction_SUM_most := own_fldI ev_SheetFunction_SUM m18
  have F_SheetFunction_CONCATENATE_fewest := own_fldI ev_SheetFunction_CONCATENATE m19
  have F_SheetFunction_CONCATENATE_most := own_fldI ev_SheetFunction_CONCATENATE m20
  have F_SheetFunction_ROUND_fewest := own_fldI ev_SheetFunction_ROUND m21
  have F_SheetFunction_ROUND_most := own_fldI ev_SheetFunction_ROUND m22
  have F_SheetFunction_TODAY_fewest := own_fldI ev_SheetFunction_TODAY m23
  have F_SheetFunction_TODAY_most := own_fldI ev_SheetFunction_TODAY m24
  have F_SheetFunction_AVERAGE_fewest := own_fldI ev_SheetFunction_AVERAGE m25
  have F_SheetFunction_AVERAGE_most := own_fldI ev_SheetFunction_AVERAGE m26
  have F_SheetFunction_ABS_fewest := own_fldI ev_SheetFunction_ABS m27
  have F_SheetFunction_ABS_most := own_fldI ev_SheetFunction_ABS m28
  have F_SheetFunction_IF_fewest := own_fldI ev_SheetFunction_IF m29
  have F_SheetFunction_IF_most := own_fldI ev_SheetFunction_IF m30
  have F_SheetFunction_SUMIF_fewest := own_fldI ev_SheetFunction_SUMIF m31
  have F_SheetFunction_SUMIF_most := own_fldI ev_SheetFunction_SUMIF m32
  have F_SheetFunction_MAX_fewest := own_fldI ev_SheetFunction_MAX m33
  have F_SheetFunction_MAX_most := own_fldI ev_SheetFunction_MAX m34
  have F_SheetFunction_COUNT_fewest := own_fldI ev_SheetFunction_COUNT m35
  have F_SheetFunction_COUNT_most := own_fldI ev_SheetFunction_COUNT m36
  have F_SheetFunction_MIN_fewest := own_fldI ev_SheetFunction_MIN m37
  have F_SheetFunction_MIN_most := own_fldI ev_SheetFunction_MIN m38
  have F_SheetFunction_VLOOKUP_fewest := own_fldI ev_SheetFunction_VLOOKUP m39
  have F_SheetFunction_VLOOKUP_most := own_fldI ev_SheetFunction_VLOOKUP m40
  have F_SheetFunction_OR_fewest := own_fldI ev_SheetFunction_OR m41
  have F_SheetFunction_OR_most := own_fldI ev_SheetFunction_OR m42
  have F_SheetFunction_NOT_fewest := own_fldI ev_SheetFunction_NOT m43
  have F_SheetFunction_NOT_most := own_fldI ev_SheetFunction_NOT m44
  have F_SheetFunction_AND_fewest := own_fldI ev_SheetFunction_AND m45
  have F_SheetFunction_AND_most := own_fldI ev_SheetFunction_AND m46
  have F_SheetFunction_COUNTA_fewest := own_fldI ev_SheetFunction_COUNTA m47
  have F_SheetFunction_COUNTA_most := own_fldI ev_SheetFunction_COUNTA m48
  have F_SheetFunction_NOW_fewest := own_fldI ev_SheetFunction_NOW m49
  have F_SheetFunction_NOW_most := own_fldI ev_SheetFunction_NOW m50
  obtain ⟨hk0, hk1⟩ := own_mod i0 (17 : Int32) 17 rfl (by decide)
  obtain ⟨k, hk⟩ : ∃ k, (i0 &&& (2147483647 : Int32)) % (17 : Int32) = k := ⟨_, rfl⟩
  rw [hk] at hk0 hk1
  obtain ⟨W, hW⟩ : ∃ W : Nat → Addr, W = (fun n => [w_SheetFunction_SUM, w_SheetFunction_AVERAGE, w_SheetFunction_MIN, w_SheetFunction_MAX, w_SheetFunction_COUNT, w_SheetFunction_COUNTA, w_SheetFunction_ROUND, w_SheetFunction_ABS, w_SheetFunction_IF, w_SheetFunction_AND, w_SheetFunction_OR, w_SheetFunction_NOT, w_SheetFunction_SUMIF, w_SheetFunction_VLOOKUP, w_SheetFunction_CONCATENATE, w_SheetFunction_NOW, w_SheetFunction_TODAY].getD n 0) := ⟨_, rfl⟩
  have T_SUM : Sta s s.heap "com/example/statewise/statewise/SheetFunction" "SUM" "Lcom/example/statewise/statewise/SheetFunction;" (.ref (W 0)) := by rw [hW]; exact S_SheetFunction_SUM
  have T_AVERAGE : Sta s s.heap "com/example/statewise/statewise/SheetFunction" "AVERAGE" "Lcom/example/statewise/statewise/SheetFunction;" (.ref (W 1)) := by rw [hW]; exact S_SheetFunction_AVERAGE
  have T_MIN : Sta s s.heap "com/example/statewise/statewise/SheetFunction" "MIN" "Lcom/example/statewise/statewise/SheetFunction;" (.ref (W 2)) := by rw [hW]; exact S_SheetFunction_MIN
  have T_MAX : Sta s s.heap "com/example/statewise/statewise/SheetFunction" "MAX" "Lcom/example/statewise/statewise/SheetFunction;" (.ref (W 3)) := by rw [hW]; exact S_SheetFunction_MAX
  have T_COUNT : Sta s s.heap "com/example/statewise/statewise/SheetFunction" "COUNT" "Lcom/example/statewise/statewise/SheetFunction;" (.ref (W 4)) := by rw [hW]; exact S_SheetFunction_COUNT
  have T_COUNTA : Sta s s.heap "com/example/statewise/statewise/SheetFunction" "COUNTA" "Lcom/example/statewise/statewise/SheetFunction;" (.ref (W 5)) := by rw [hW]; exact S_SheetFunction_COUNTA
  have T_ROUND : Sta s s.heap "com/example/statewise/statewise/SheetFunction" "ROUND" "Lcom/example/statewise/statewise/SheetFunction;" (.ref (W 6)) := by rw [hW]; exact S_SheetFunction_ROUND
  have T_ABS : Sta s s.heap "com/example/statewise/statewise/SheetFunction" "ABS" "Lcom/example/statewise/statewise/SheetFunction;" (.ref (W 7)) := by rw [hW]; exact S_SheetFunction_ABS
  have T_IF : Sta s s.heap "com/example/statewise/statewise/SheetFunction" "IF" "Lcom/example/statewise/statewise/SheetFunction;" (.ref (W 8)) := by rw [hW]; exact S_SheetFunction_IF
  have T_AND : Sta s s.heap "com/example/statewise/statewise/SheetFunction" "AND" "Lcom/example/statewise/statewise/SheetFunction;" (.ref (W 9)) := by rw [hW]; exact S_SheetFunction_AND
  have T_OR : Sta s s.heap "com/example/statewise/statewise/SheetFunction" "OR" "Lcom/example/statewise/statewise/SheetFunction;" (.ref (W 10)) := by rw [hW]; exact S_SheetFunction_OR
  have T_NOT : Sta s s.heap "com/example/statewise/statewise/SheetFunction" "NOT" "Lcom/example/statewise/statewise/SheetFunction;" (.ref (W 11)) := by rw [hW]; exact S_SheetFunction_NOT
  have T_SUMIF : Sta s s.heap "com/example/statewise/statewise/SheetFunction" "SUMIF" "Lcom/example/statewise/statewise/SheetFunction;" (.ref (W 12)) := by rw [hW]; exact S_SheetFunction_SUMIF
  have T_VLOOKUP : Sta s s.heap "com/example/statewise/statewise/SheetFunction" "VLOOKUP" "Lcom/example/statewise/statewise/SheetFunction;" (.ref (W 13)) := by rw [hW]; exact S_SheetFunction_VLOOKUP
  have T_CONCATENATE : Sta s s.heap "com/example/statewise/statewise/SheetFunction" "CONCATENATE" "Lcom/example/statewise/statewise/SheetFunction;" (.ref (W 14)) := by rw [hW]; exact S_SheetFunction_CONCATENATE
  have T_NOW : Sta s s.heap "com/example/statewise/statewise/SheetFunction" "NOW" "Lcom/example/statewise/statewise/SheetFunction;" (.ref (W 15)) := by rw [hW]; exact S_SheetFunction_NOW
  have T_TODAY : Sta s s.heap "com/example/statewise/statewise/SheetFunction" "TODAY" "Lcom/example/statewise/statewise/SheetFunction;" (.ref (W 16)) := by rw [hW]; exact S_SheetFunction_TODAY
  have U_SUM : Exa s s.heap (W 0) "com/example/statewise/statewise/SheetFunction$1" := by rw [hW]; exact E_SheetFunction_SUM
  have U_AVERAGE : Exa s s.heap (W 1) "com/example/statewise/statewise/SheetFunction$2" := by rw [hW]; exact E_SheetFunction_AVERAGE
  have U_MIN : Exa s s.heap (W 2) "com/example/statewise/statewise/SheetFunction$3" := by rw [hW]; exact E_SheetFunction_MIN
  have U_MAX : Exa s s.heap (W 3) "com/example/statewise/statewise/SheetFunction$4" := by rw [hW]; exact E_SheetFunction_MAX
  have U_COUNT : Exa s s.heap (W 4) "com/example/statewise/statewise/SheetFunction$5" := by rw [hW]; exact E_SheetFunction_COUNT
  have U_COUNTA : Exa s s.heap (W 5) "com/example/statewise/statewise/SheetFunction$6" := by rw [hW]; exact E_SheetFunction_COUNTA
  have U_ROUND : Exa s s.heap (W 6) "com/example/statewise/statewise/SheetFunction$7" := by rw [hW]; exact E_SheetFunction_ROUND
  have U_ABS : Exa s s.heap (W 7) "com/example/statewise/statewise/SheetFunction$8" := by rw [hW]; exact E_SheetFunction_ABS
  have U_IF : Exa s s.heap (W 8) "com/example/statewise/statewise/SheetFunction$9" := by rw [hW]; exact E_SheetFunction_IF
  have U_AND : Exa s s.heap (W 9) "com/example/statewise/statewise/SheetFunction$10" := by rw [hW]; exact E_SheetFunction_AND
  have U_OR : Exa s s.heap (W 10) "com/example/statewise/statewise/SheetFunction$11" := by rw [hW]; exact E_SheetFunction_OR
  have U_NOT : Exa s s.heap (W 11) "com/example/statewise/statewise/SheetFunction$12" := by rw [hW]; exact E_SheetFunction_NOT
  have U_SUMIF : Exa s s.heap (W 12) "com/example/statewise/statewise/SheetFunction$13" := by rw [hW]; exact E_SheetFunction_SUMIF
  have U_VLOOKUP : Exa s s.heap (W 13) "com/example/statewise/statewise/SheetFunction$14" := by rw [hW]; exact E_SheetFunction_VLOOKUP
  have U_CONCATENATE : Exa s s.heap (W 14) "com/example/statewise/statewise/SheetFunction$15" := by rw [hW]; exact E_SheetFunction_CONCATENATE
  have U_NOW : Exa s s.heap (W 15) "com/example/statewise/statewise/SheetFunction$16" := by rw [hW]; exact E_SheetFunction_NOW
  have U_TODAY : Exa s s.heap (W 16) "com/example/statewise/statewise/SheetFunction$17" := by rw [hW]; exact E_SheetFunction_TODAY
  have hlt := own_clamp hk0 (n := 17) hk1
  have hex : ∃ (CK : String) (a b : Int32), Exa s s.heap (W k.toNatClampNeg) CK ∧ (Jvm.Cond.selects CK ({ cls := "com/example/statewise/statewise/SheetFunction", name := "takes", desc := "(I)Z" } : Jvm.MethodName) ({ cls := "com/example/statewise/statewise/SheetFunction", name := "takes", desc := "(I)Z" } : Jvm.MethodName)).before #[.int i0, .int i1] s = true ∧ Fld s s.heap (W k.toNatClampNeg) "com/example/statewise/statewise/SheetFunction" "fewest" "I" (.int a) ∧ Fld s s.heap (W k.toNatClampNeg) "com/example/statewise/statewise/SheetFunction" "most" "I" (.int b) ∧ ([(.int (1 : Int32)), (.int (1 : Int32)), (.int (1 : Int32)), (.int (1 : Int32)), (.int (1 : Int32)), (.int (1 : Int32)), (.int (1 : Int32)), (.int (1 : Int32)), (.int (1 : Int32)), (.int (1 : Int32)), (.int (1 : Int32)), (.int (1 : Int32)), (.int (2 : Int32)), (.int (3 : Int32)), (.int (1 : Int32)), (.int (0 : Int32)), (.int (0 : Int32))] : List Value).getD k.toNatClampNeg (.int (0 : Int32)) = .int a ∧ ([(.int (2147483647 : Int32)), (.int (2147483647 : Int32)), (.int (2147483647 : Int32)), (.int (2147483647 : Int32)), (.int (2147483647 : Int32)), (.int (2147483647 : Int32)), (.int (2 : Int32)), (.int (1 : Int32)), (.int (3 : Int32)), (.int (2147483647 : Int32)), (.int (2147483647 : Int32)), (.int (1 : Int32)), (.int (3 : Int32)), (.int (4 : Int32)), (.int (2147483647 : Int32)), (.int (0 : Int32)), (.int (0 : Int32))] : List Value).getD k.toNatClampNeg (.int (0 : Int32)) = .int b ∧ ¬ b < a ∧ a - 1 < a ∧ (¬ b = 2147483647 → b < b + 1) := by
    revert hlt; generalize k.toNatClampNeg = j; intro hlt; rw [hW]
    match j, hlt with
    | 0, _ => exact ⟨_, 1, 2147483647, E_SheetFunction_SUM, (hw _ (List.mem_of_getElem? (i := 59) rfl)), F_SheetFunction_SUM_fewest, F_SheetFunction_SUM_most, rfl, rfl, by decide, by decide, by decide⟩
    | 1, _ => exact ⟨_, 1, 2147483647, E_SheetFunction_AVERAGE, (hw _ (List.mem_of_getElem? (i := 74) rfl)), F_SheetFunction_AVERAGE_fewest, F_SheetFunction_AVERAGE_most, rfl, rfl, by decide, by decide, by decide⟩
    | 2, _ => exact ⟨_, 1, 2147483647, E_SheetFunction_MIN, (hw _ (List.mem_of_getElem? (i := 92) rfl)), F_SheetFunction_MIN_fewest, F_SheetFunction_MIN_most, rfl, rfl, by decide, by decide, by decide⟩
    | 3, _ => exact ⟨_, 1, 2147483647, E_SheetFunction_MAX, (hw _ (List.mem_of_getElem? (i := 86) rfl)), F_SheetFunction_MAX_fewest, F_SheetFunction_MAX_most, rfl, rfl, by decide, by decide, by decide⟩
    | 4, _ => exact ⟨_, 1, 2147483647, E_SheetFunction_COUNT, (hw _ (List.mem_of_getElem? (i := 89) rfl)), F_SheetFunction_COUNT_fewest, F_SheetFunction_COUNT_most, rfl, rfl, by decide, by decide, by decide⟩
    | 5, _ => exact ⟨_, 1, 2147483647, E_SheetFunction_COUNTA, (hw _ (List.mem_of_getElem? (i := 107) rfl)), F_SheetFunction_COUNTA_fewest, F_SheetFunction_COUNTA_most, rfl, rfl, by decide, by decide, by decide⟩
    | 6, _ => exact ⟨_, 1, 2, E_SheetFunction_ROUND, (hw _ (List.mem_of_getElem? (i := 68) rfl)), F_SheetFunction_ROUND_fewest, F_SheetFunction_ROUND_most, rfl, rfl, by decide, by decide, by decide⟩
    | 7, _ => exact ⟨_, 1, 1, E_SheetFunction_ABS, (hw _ (List.mem_of_getElem? (i := 77) rfl)), F_SheetFunction_ABS_fewest, F_SheetFunction_ABS_most, rfl, rfl, by decide, by decide, by decide⟩
    | 8, _ => exact ⟨_, 1, 3, E_SheetFunction_IF, (hw _ (List.mem_of_getElem? (i := 80) rfl)), F_SheetFunction_IF_fewest, F_SheetFunction_IF_most, rfl, rfl, by decide, by decide, by decide⟩
    | 9, _ => exact ⟨_, 1, 2147483647, E_SheetFunction_AND, (hw _ (List.mem_of_getElem? (i := 104) rfl)), F_SheetFunction_AND_fewest, F_SheetFunction_AND_most, rfl, rfl, by decide, by decide, by decide⟩
    | 10, _ => exact ⟨_, 1, 2147483647, E_SheetFunction_OR, (hw _ (List.mem_of_getElem? (i := 98) rfl)), F_SheetFunction_OR_fewest, F_SheetFunction_OR_most, rfl, rfl, by decide, by decide, by decide⟩
    | 11, _ => exact ⟨_, 1, 1, E_SheetFunction_NOT, (hw _ (List.mem_of_getElem? (i := 101) rfl)), F_SheetFunction_NOT_fewest, F_SheetFunction_NOT_most, rfl, rfl, by decide, by decide, by decide⟩
    | 12, _ => exact ⟨_, 2, 3, E_SheetFunction_SUMIF, (hw _ (List.mem_of_getElem? (i := 83) rfl)), F_SheetFunction_SUMIF_fewest, F_SheetFunction_SUMIF_most, rfl, rfl, by decide, by decide, by decide⟩
    | 13, _ => exact ⟨_, 3, 4, E_SheetFunction_VLOOKUP, (hw _ (List.mem_of_getElem? (i := 95) rfl)), F_SheetFunction_VLOOKUP_fewest, F_SheetFunction_VLOOKUP_most, rfl, rfl, by decide, by decide, by decide⟩
    | 14, _ => exact ⟨_, 1, 2147483647, E_SheetFunction_CONCATENATE, (hw _ (List.mem_of_getElem? (i := 65) rfl)), F_SheetFunction_CONCATENATE_fewest, F_SheetFunction_CONCATENATE_most, rfl, rfl, by decide, by decide, by decide⟩
    | 15, _ => exact ⟨_, 0, 0, E_SheetFunction_NOW, (hw _ (List.mem_of_getElem? (i := 110) rfl)), F_SheetFunction_NOW_fewest, F_SheetFunction_NOW_most, rfl, rfl, by decide, by decide, by decide⟩
    | 16, _ => exact ⟨_, 0, 0, E_SheetFunction_TODAY, (hw _ (List.mem_of_getElem? (i := 71) rfl)), F_SheetFunction_TODAY_fewest, F_SheetFunction_TODAY_most, rfl, rfl, by decide, by decide, by decide⟩
    | n + 17, h => exact absurd h (by omega)
  obtain ⟨CK, a, b, hEk, hsel, hfew, hmost, hlo, hhi, hab, hm1, hb1⟩ := hex
  obtain ⟨n, o, h1, h2, h3, _, L, rfl, ⟨rfl, N⟩, hq⟩ := rm0 l s _ hw tables_1 i0 i1 k a b _ CK W s.heap s.heap.size (Nat.le_refl _) T_SUM T_AVERAGE T_MIN T_MAX T_COUNT T_COUNTA T_ROUND T_ABS T_IF T_AND T_OR T_NOT T_SUMIF T_VLOOKUP T_CONCATENATE T_NOW T_TODAY U_SUM U_AVERAGE U_MIN U_MAX U_COUNT U_COUNTA U_ROUND U_ABS U_IF U_AND U_OR U_NOT U_SUMIF U_VLOOKUP U_CONCATENATE U_NOW U_TODAY hk (own_nlt hk0) (own_lt hk1) hlt hEk hsel hfew hmost hlo hhi rfl hab hm1 hb1 p e ha hcas hclk s m _ below hf ((Spec.applies_iff_loose hf).mp happ).1 ⟨rfl, State.Warmed39.refl s, rfl⟩ trivial
  refine ⟨n, _, h1, h2, h3, hpost _ _ _ _ _ _ ⟨Cond.after_iff.mpr rfl, Cond.after_iff.mpr (eq_i res_at (Term.int_eval (1)) rfl), trivial⟩ ⟨hq.1, hq.2.1, (hq.2.2.sift fun y hy => Or.inr (N y hy)).mono (by decide) (by decide)⟩⟩
theorem main_1_1 : Claimed_1_1 := comes_1 fun _ _ _ _ _ _ h hF => ⟨h.1, hF⟩
theorem main_1_2 : Claimed_1_2 := comes_1 fun _ _ _ _ _ _ h hF => ⟨h.2.1, hF⟩
end Jvm.Pilot.@@N@@
namespace Jvm.Pilot.@@N@@
open Jvm Jvm.ClassFile Sem Op Lib Jvm.Free Jvm.Stand Jvm.Pilot.@@N@@.Jvm.D
/-! MADE BY PROGRAM (witnessworld.py) out of the Statement's table words and the real class files: 30 classes; the members and pool entries that the words name. The judged class is class 1, her method 1. -/
namespace start1
open Jvm.ClassFile
def u (s : String) : CpInfo := .utf8 (stringToUtf16 s)
/-- a pool by its gaps: so many unusable entries, then the entry; so many at the end -/
def gap : Nat → List CpInfo → List CpInfo
  | 0, r => r
  | n + 1, r => .unusable :: gap n r
def poolList (es : List (Nat × CpInfo)) (last : Nat) : List CpInfo := es.foldr (fun e r => gap e.1 (e.2 :: r)) (gap last [])
def pool (es : List (Nat × CpInfo)) (last : Nat) : Array CpInfo := ⟨poolList es last⟩
def fileOf (pool : Array CpInfo) (this : Nat) (attrs : Array Attribute := #[]) (ms : Array MethodInfo := #[]) (fl : Nat := 33) (sup : Nat := 0) (ifs : Array Nat := #[]) (fds : Array FieldInfo := #[]) : ClassFile where
  minorVersion := 0
  majorVersion := 65
  constantPool := pool
  accessFlags := fl
  thisClass := this
  superClass := sup
  interfaces := ifs
  fields := fds
  methods := ms
  attributes := attrs
def plain (name : String) (sup : Option ClassId) : Class where
  name := name
  kind := .ordinary
  loader := none
  accessFlags := 33
  super := sup
  interfaces := #[]
  cf := none
  fields := #[]
  methods := #[]
  instanceTypes := #[]
  staticTypes := #[]
  resolved := #[]
  callSites := []
  init := .initialized
  statics := none
  mirror := none

def pool0 : Array CpInfo := pool [(5, u "<init>"), (0, u "()V"), (1, .class_ 10), (1, u "java/lang/Object")] 113

def k0m0 : Method := { name := "<init>", desc := "()V", sig := { parameters := [], returnType := none }, accessFlags := 1, code := none }
/-- java/lang/Object -/
def k0 : Class := { plain "java/lang/Object" none with
  accessFlags := 33
  interfaces := #[]
  cf := some (fileOf pool0 8 #[] #[{ accessFlags := 1, nameIndex := 5, descriptorIndex := 6, attributes := #[] }] 33 0 #[] #[])
  fields := #[]
  methods := #[k0m0]
  instanceTypes := #[]
  staticTypes := #[]
  resolved := Array.replicate 124 none
  statics := none }

def pool1 : Array CpInfo := pool [(2, .class_ 4), (1, u "java/lang/Object"), (0, u "<init>"), (0, u "()V"), (0, .class_ 8), (0, u "com/example/statewise/statewise/SheetFunction"), (0, .fieldref 7 10), (0, .nameAndType 11 12), (0, u "SUM"), (0, u "Lcom/example/statewise/statewise/SheetFunction;"), (0, .fieldref 7 14), (0, .nameAndType 15 12), (0, u "AVERAGE"), (0, .fieldref 7 17), (0, .nameAndType 18 12), (0, u "MIN"), (0, .fieldref 7 20), (0, .nameAndType 21 12), (0, u "MAX"), (0, .fieldref 7 23), (0, .nameAndType 24 12), (0, u "COUNT"), (0, .fieldref 7 26), (0, .nameAndType 27 12), (0, u "COUNTA"), (0, .fieldref 7 29), (0, .nameAndType 30 12), (0, u "ROUND"), (0, .fieldref 7 32), (0, .nameAndType 33 12), (0, u "ABS"), (0, .fieldref 7 35), (0, .nameAndType 36 12), (0, u "IF"), (0, .fieldref 7 38), (0, .nameAndType 39 12), (0, u "AND"), (0, .fieldref 7 41), (0, .nameAndType 42 12), (0, u "OR"), (0, .fieldref 7 44), (0, .nameAndType 45 12), (0, u "NOT"), (0, .fieldref 7 47), (0, .nameAndType 48 12), (0, u "SUMIF"), (0, .fieldref 7 50), (0, .nameAndType 51 12), (0, u "VLOOKUP"), (0, .fieldref 7 53), (0, .nameAndType 54 12), (0, u "CONCATENATE"), (0, .fieldref 7 56), (0, .nameAndType 57 12), (0, u "NOW"), (0, .fieldref 7 59), (0, .nameAndType 60 12), (0, u "TODAY"), (2, .integer 2147483647), (0, .methodref 7 65), (0, .nameAndType 66 67), (0, u "takes"), (0, u "(I)Z"), (0, .class_ 69), (0, u "com/example/statewise/statewise/SheetFunctionTakesPinLaw"), (2, u "law"), (0, u "(II)Z")] 7

def k1m0 : Method := { name := "<init>", desc := "()V", sig := { parameters := [], returnType := none }, accessFlags := 2, code := none }
def k1c1 : Code := { maxStack := 4, maxLocals := 11, code := code, exceptionTable := #[], attributes := #[] }
def k1m1 : Method := { name := "law", desc := "(II)Z", sig := { parameters := [.int, .int], returnType := some .boolean }, accessFlags := 9, code := some k1c1 }
/-- com/example/statewise/statewise/SheetFunctionTakesPinLaw -/
def k1 : Class := { plain "com/example/statewise/statewise/SheetFunctionTakesPinLaw" (some 0) with
  accessFlags := 49
  interfaces := #[]
  cf := some (fileOf pool1 68 #[] #[{ accessFlags := 2, nameIndex := 5, descriptorIndex := 6, attributes := #[] }, { accessFlags := 9, nameIndex := 72, descriptorIndex := 73, attributes := #[] }] 49 2 #[] #[])
  fields := #[]
  methods := #[k1m0, k1m1]
  instanceTypes := #[]
  staticTypes := #[]
  resolved := Array.replicate 81 none
  statics := none }

def pool2 : Array CpInfo := pool [(1, .class_ 2), (0, u "java/lang/constant/Constable"), (0, .class_ 4), (0, u "java/lang/Object")] 6

/-- java/lang/constant/Constable -/
def k2 : Class := { plain "java/lang/constant/Constable" (some 0) with
  accessFlags := 1537
  interfaces := #[]
  cf := some (fileOf pool2 1 #[] #[] 1537 3 #[] #[])
  fields := #[]
  methods := #[]
  instanceTypes := #[]
  staticTypes := #[]
  resolved := Array.replicate 11 none
  statics := none }

def pool3 : Array CpInfo := pool [(1, .class_ 2), (0, u "java/lang/Comparable"), (0, .class_ 4), (0, u "java/lang/Object")] 7

/-- java/lang/Comparable -/
def k3 : Class := { plain "java/lang/Comparable" (some 0) with
  accessFlags := 1537
  interfaces := #[]
  cf := some (fileOf pool3 1 #[] #[] 1537 3 #[] #[])
  fields := #[]
  methods := #[]
  instanceTypes := #[]
  staticTypes := #[]
  resolved := Array.replicate 12 none
  statics := none }

def pool4 : Array CpInfo := pool [(1, .class_ 2), (0, u "java/io/Serializable"), (0, .class_ 4), (0, u "java/lang/Object")] 2

/-- java/io/Serializable -/
def k4 : Class := { plain "java/io/Serializable" (some 0) with
  accessFlags := 1537
  interfaces := #[]
  cf := some (fileOf pool4 1 #[] #[] 1537 3 #[] #[])
  fields := #[]
  methods := #[]
  instanceTypes := #[]
  staticTypes := #[]
  resolved := Array.replicate 7 none
  statics := none }

def pool5 : Array CpInfo := pool [(2, .class_ 4), (1, u "java/lang/Enum"), (0, u "name"), (0, u "Ljava/lang/String;"), (2, u "ordinal"), (0, u "I"), (1, .class_ 14), (1, u "java/lang/Object"), (4, u "hash"), (86, .class_ 108), (1, u "java/lang/Enum$EnumDesc"), (2, .class_ 112), (0, u "java/lang/constant/Constable"), (0, .class_ 114), (0, u "java/lang/Comparable"), (0, .class_ 116), (0, u "java/io/Serializable")] 87

/-- java/lang/Enum -/
def k5 : Class := { plain "java/lang/Enum" (some 0) with
  accessFlags := 1057
  interfaces := #[2, 3, 4]
  cf := some (fileOf pool5 2 #[.nestMembers #[106]] #[] 1057 12 #[111, 113, 115] #[{ accessFlags := 18, nameIndex := 5, descriptorIndex := 6, attributes := #[] }, { accessFlags := 18, nameIndex := 9, descriptorIndex := 10, attributes := #[] }, { accessFlags := 2, nameIndex := 19, descriptorIndex := 10, attributes := #[] }])
  fields := #[{ name := "name", type := (.object "java/lang/String"), accessFlags := 18, slot := 0, constantValue := 0 }, { name := "ordinal", type := .int, accessFlags := 18, slot := 1, constantValue := 0 }, { name := "hash", type := .int, accessFlags := 2, slot := 2, constantValue := 0 }]
  methods := #[]
  instanceTypes := #[(.object "java/lang/String"), .int, .int]
  staticTypes := #[]
  resolved := Array.replicate 204 none
  statics := none }

def pool6 : Array CpInfo := pool [(1, .class_ 2), (0, u "com/example/statewise/statewise/SheetFunction"), (2, u "SUM"), (0, u "Lcom/example/statewise/statewise/SheetFunction;"), (2, u "AVERAGE"), (2, u "MIN"), (2, u "MAX"), (2, u "COUNT"), (2, u "COUNTA"), (2, u "ROUND"), (2, u "ABS"), (2, u "IF"), (2, u "AND"), (2, u "OR"), (2, u "NOT"), (2, u "SUMIF"), (2, u "VLOOKUP"), (2, u "CONCATENATE"), (2, u "NOW"), (2, u "TODAY"), (2, u "$VALUES"), (0, u "[Lcom/example/statewise/statewise/SheetFunction;"), (6, .class_ 67), (1, u "java/lang/Enum"), (6, .fieldref 1 75), (0, .nameAndType 76 77), (0, u "fewest"), (0, u "I"), (0, .fieldref 1 79), (0, .nameAndType 80 77), (0, u "most"), (2, u "BY_NAME"), (0, u "Ljava/util/Map;"), (114, .class_ 200), (0, u "com/example/statewise/statewise/SheetFunction$1"), (7, .class_ 209), (0, u "com/example/statewise/statewise/SheetFunction$2"), (2, .class_ 213), (0, u "com/example/statewise/statewise/SheetFunction$3"), (2, .class_ 217), (0, u "com/example/statewise/statewise/SheetFunction$4"), (2, .class_ 221), (0, u "com/example/statewise/statewise/SheetFunction$5"), (2, .class_ 225), (0, u "com/example/statewise/statewise/SheetFunction$6"), (2, .class_ 229), (0, u "com/example/statewise/statewise/SheetFunction$7"), (2, .class_ 233), (0, u "com/example/statewise/statewise/SheetFunction$8"), (2, .class_ 237), (0, u "com/example/statewise/statewise/SheetFunction$9"), (2, .class_ 241), (0, u "com/example/statewise/statewise/SheetFunction$10"), (2, .class_ 245), (0, u "com/example/statewise/statewise/SheetFunction$11"), (2, .class_ 249), (0, u "com/example/statewise/statewise/SheetFunction$12"), (2, .class_ 253), (0, u "com/example/statewise/statewise/SheetFunction$13"), (2, .class_ 257), (0, u "com/example/statewise/statewise/SheetFunction$14"), (2, .class_ 261), (0, u "com/example/statewise/statewise/SheetFunction$15"), (2, .class_ 265), (0, u "com/example/statewise/statewise/SheetFunction$16"), (2, .class_ 269), (0, u "com/example/statewise/statewise/SheetFunction$17"), (31, u "takes"), (0, u "(I)Z"), (20, .class_ 324), (0, u "com/example/statewise/statewise/SheetFunction$Logicals"), (0, .class_ 326), (0, u "com/example/statewise/statewise/SheetFunction$Lookup"), (0, .class_ 328), (0, u "com/example/statewise/statewise/SheetFunction$Tally"), (0, .class_ 330), (0, u "com/example/statewise/statewise/SheetFunction$Numbers")] 8

def k6c0 : Code := { maxStack := 2, maxLocals := 2, code := prog_61_method_5_code, exceptionTable := #[], attributes := #[] }
def k6m0 : Method := { name := "takes", desc := "(I)Z", sig := { parameters := [.int], returnType := some .boolean }, accessFlags := 0, code := some k6c0 }
/-- com/example/statewise/statewise/SheetFunction -/
def k6 : Class := { plain "com/example/statewise/statewise/SheetFunction" (some 5) with
  accessFlags := 17440
  interfaces := #[]
  cf := some (fileOf pool6 1 #[.nestMembers #[323, 325, 327, 329, 268, 264, 260, 256, 252, 248, 244, 240, 236, 232, 228, 224, 220, 216, 212, 208, 199]] #[{ accessFlags := 0, nameIndex := 301, descriptorIndex := 302, attributes := #[] }] 17440 65 #[] #[{ accessFlags := 16409, nameIndex := 5, descriptorIndex := 6, attributes := #[] }, { accessFlags := 16409, nameIndex := 9, descriptorIndex := 6, attributes := #[] }, { accessFlags := 16409, nameIndex := 12, descriptorIndex := 6, attributes := #[] }, { accessFlags := 16409, nameIndex := 15, descriptorIndex := 6, attributes := #[] }, { accessFlags := 16409, nameIndex := 18, descriptorIndex := 6, attributes := #[] }, { accessFlags := 16409, nameIndex := 21, descriptorIndex := 6, attributes := #[] }, { accessFlags := 16409, nameIndex := 24, descriptorIndex := 6, attributes := #[] }, { accessFlags := 16409, nameIndex := 27, descriptorIndex := 6, attributes := #[] }, { accessFlags := 16409, nameIndex := 30, descriptorIndex := 6, attributes := #[] }, { accessFlags := 16409, nameIndex := 33, descriptorIndex := 6, attributes := #[] }, { accessFlags := 16409, nameIndex := 36, descriptorIndex := 6, attributes := #[] }, { accessFlags := 16409, nameIndex := 39, descriptorIndex := 6, attributes := #[] }, { accessFlags := 16409, nameIndex := 42, descriptorIndex := 6, attributes := #[] }, { accessFlags := 16409, nameIndex := 45, descriptorIndex := 6, attributes := #[] }, { accessFlags := 16409, nameIndex := 48, descriptorIndex := 6, attributes := #[] }, { accessFlags := 16409, nameIndex := 51, descriptorIndex := 6, attributes := #[] }, { accessFlags := 16409, nameIndex := 54, descriptorIndex := 6, attributes := #[] }, { accessFlags := 26, nameIndex := 83, descriptorIndex := 84, attributes := #[] }, { accessFlags := 18, nameIndex := 76, descriptorIndex := 77, attributes := #[] }, { accessFlags := 18, nameIndex := 80, descriptorIndex := 77, attributes := #[] }, { accessFlags := 4122, nameIndex := 57, descriptorIndex := 58, attributes := #[] }])
  fields := #[{ name := "SUM", type := (.object "com/example/statewise/statewise/SheetFunction"), accessFlags := 16409, slot := 0, constantValue := 0 }, { name := "AVERAGE", type := (.object "com/example/statewise/statewise/SheetFunction"), accessFlags := 16409, slot := 1, constantValue := 0 }, { name := "MIN", type := (.object "com/example/statewise/statewise/SheetFunction"), accessFlags := 16409, slot := 2, constantValue := 0 }, { name := "MAX", type := (.object "com/example/statewise/statewise/SheetFunction"), accessFlags := 16409, slot := 3, constantValue := 0 }, { name := "COUNT", type := (.object "com/example/statewise/statewise/SheetFunction"), accessFlags := 16409, slot := 4, constantValue := 0 }, { name := "COUNTA", type := (.object "com/example/statewise/statewise/SheetFunction"), accessFlags := 16409, slot := 5, constantValue := 0 }, { name := "ROUND", type := (.object "com/example/statewise/statewise/SheetFunction"), accessFlags := 16409, slot := 6, constantValue := 0 }, { name := "ABS", type := (.object "com/example/statewise/statewise/SheetFunction"), accessFlags := 16409, slot := 7, constantValue := 0 }, { name := "IF", type := (.object "com/example/statewise/statewise/SheetFunction"), accessFlags := 16409, slot := 8, constantValue := 0 }, { name := "AND", type := (.object "com/example/statewise/statewise/SheetFunction"), accessFlags := 16409, slot := 9, constantValue := 0 }, { name := "OR", type := (.object "com/example/statewise/statewise/SheetFunction"), accessFlags := 16409, slot := 10, constantValue := 0 }, { name := "NOT", type := (.object "com/example/statewise/statewise/SheetFunction"), accessFlags := 16409, slot := 11, constantValue := 0 }, { name := "SUMIF", type := (.object "com/example/statewise/statewise/SheetFunction"), accessFlags := 16409, slot := 12, constantValue := 0 }, { name := "VLOOKUP", type := (.object "com/example/statewise/statewise/SheetFunction"), accessFlags := 16409, slot := 13, constantValue := 0 }, { name := "CONCATENATE", type := (.object "com/example/statewise/statewise/SheetFunction"), accessFlags := 16409, slot := 14, constantValue := 0 }, { name := "NOW", type := (.object "com/example/statewise/statewise/SheetFunction"), accessFlags := 16409, slot := 15, constantValue := 0 }, { name := "TODAY", type := (.object "com/example/statewise/statewise/SheetFunction"), accessFlags := 16409, slot := 16, constantValue := 0 }, { name := "BY_NAME", type := (.object "java/util/Map"), accessFlags := 26, slot := 17, constantValue := 0 }, { name := "fewest", type := .int, accessFlags := 18, slot := 3, constantValue := 0 }, { name := "most", type := .int, accessFlags := 18, slot := 4, constantValue := 0 }, { name := "$VALUES", type := (.array (.object "com/example/statewise/statewise/SheetFunction")), accessFlags := 4122, slot := 18, constantValue := 0 }]
  methods := #[k6m0]
  instanceTypes := #[(.object "java/lang/String"), .int, .int, .int, .int]
  staticTypes := #[(.object "com/example/statewise/statewise/SheetFunction"), (.object "com/example/statewise/statewise/SheetFunction"), (.object "com/example/statewise/statewise/SheetFunction"), (.object "com/example/statewise/statewise/SheetFunction"), (.object "com/example/statewise/statewise/SheetFunction"), (.object "com/example/statewise/statewise/SheetFunction"), (.object "com/example/statewise/statewise/SheetFunction"), (.object "com/example/statewise/statewise/SheetFunction"), (.object "com/example/statewise/statewise/SheetFunction"), (.object "com/example/statewise/statewise/SheetFunction"), (.object "com/example/statewise/statewise/SheetFunction"), (.object "com/example/statewise/statewise/SheetFunction"), (.object "com/example/statewise/statewise/SheetFunction"), (.object "com/example/statewise/statewise/SheetFunction"), (.object "com/example/statewise/statewise/SheetFunction"), (.object "com/example/statewise/statewise/SheetFunction"), (.object "com/example/statewise/statewise/SheetFunction"), (.object "java/util/Map"), (.array (.object "com/example/statewise/statewise/SheetFunction"))]
  resolved := Array.replicate 339 none
  statics := some 0 }

def pool7 : Array CpInfo := pool [(2, .class_ 4), (1, u "com/example/statewise/statewise/SheetFunction"), (22, .class_ 28), (0, u "com/example/statewise/statewise/SheetFunction$1")] 17

/-- com/example/statewise/statewise/SheetFunction$1 -/
def k7 : Class := { plain "com/example/statewise/statewise/SheetFunction$1" (some 6) with
  accessFlags := 16432
  interfaces := #[]
  cf := some (fileOf pool7 27 #[.nestHost 2] #[] 16432 2 #[] #[])
  fields := #[]
  methods := #[]
  instanceTypes := #[(.object "java/lang/String"), .int, .int, .int, .int]
  staticTypes := #[]
  resolved := Array.replicate 46 none
  statics := none }

def pool8 : Array CpInfo := pool [(2, .class_ 4), (1, u "com/example/statewise/statewise/SheetFunction"), (35, .class_ 41), (0, u "com/example/statewise/statewise/SheetFunction$2")] 17

/-- com/example/statewise/statewise/SheetFunction$2 -/
def k8 : Class := { plain "com/example/statewise/statewise/SheetFunction$2" (some 6) with
  accessFlags := 16432
  interfaces := #[]
  cf := some (fileOf pool8 40 #[.nestHost 2] #[] 16432 2 #[] #[])
  fields := #[]
  methods := #[]
  instanceTypes := #[(.object "java/lang/String"), .int, .int, .int, .int]
  staticTypes := #[]
  resolved := Array.replicate 59 none
  statics := none }

def pool9 : Array CpInfo := pool [(2, .class_ 4), (1, u "com/example/statewise/statewise/SheetFunction"), (26, .class_ 32), (0, u "com/example/statewise/statewise/SheetFunction$3")] 17

/-- com/example/statewise/statewise/SheetFunction$3 -/
def k9 : Class := { plain "com/example/statewise/statewise/SheetFunction$3" (some 6) with
  accessFlags := 16432
  interfaces := #[]
  cf := some (fileOf pool9 31 #[.nestHost 2] #[] 16432 2 #[] #[])
  fields := #[]
  methods := #[]
  instanceTypes := #[(.object "java/lang/String"), .int, .int, .int, .int]
  staticTypes := #[]
  resolved := Array.replicate 50 none
  statics := none }

def pool10 : Array CpInfo := pool [(2, .class_ 4), (1, u "com/example/statewise/statewise/SheetFunction"), (26, .class_ 32), (0, u "com/example/statewise/statewise/SheetFunction$4")] 17

/-- com/example/statewise/statewise/SheetFunction$4 -/
def k10 : Class := { plain "com/example/statewise/statewise/SheetFunction$4" (some 6) with
  accessFlags := 16432
  interfaces := #[]
  cf := some (fileOf pool10 31 #[.nestHost 2] #[] 16432 2 #[] #[])
  fields := #[]
  methods := #[]
  instanceTypes := #[(.object "java/lang/String"), .int, .int, .int, .int]
  staticTypes := #[]
  resolved := Array.replicate 50 none
  statics := none }

def pool11 : Array CpInfo := pool [(2, .class_ 4), (1, u "com/example/statewise/statewise/SheetFunction"), (18, .class_ 24), (0, u "com/example/statewise/statewise/SheetFunction$5")] 16

/-- com/example/statewise/statewise/SheetFunction$5 -/
def k11 : Class := { plain "com/example/statewise/statewise/SheetFunction$5" (some 6) with
  accessFlags := 16432
  interfaces := #[]
  cf := some (fileOf pool11 23 #[.nestHost 2] #[] 16432 2 #[] #[])
  fields := #[]
  methods := #[]
  instanceTypes := #[(.object "java/lang/String"), .int, .int, .int, .int]
  staticTypes := #[]
  resolved := Array.replicate 41 none
  statics := none }

def pool12 : Array CpInfo := pool [(2, .class_ 4), (1, u "com/example/statewise/statewise/SheetFunction"), (18, .class_ 24), (0, u "com/example/statewise/statewise/SheetFunction$6")] 16

/-- com/example/statewise/statewise/SheetFunction$6 -/
def k12 : Class := { plain "com/example/statewise/statewise/SheetFunction$6" (some 6) with
  accessFlags := 16432
  interfaces := #[]
  cf := some (fileOf pool12 23 #[.nestHost 2] #[] 16432 2 #[] #[])
  fields := #[]
  methods := #[]
  instanceTypes := #[(.object "java/lang/String"), .int, .int, .int, .int]
  staticTypes := #[]
  resolved := Array.replicate 41 none
  statics := none }

def pool13 : Array CpInfo := pool [(2, .class_ 4), (1, u "com/example/statewise/statewise/SheetFunction"), (32, .class_ 38), (0, u "com/example/statewise/statewise/SheetFunction$7"), (26, u "MAX_PLACES"), (0, u "I")] 18

/-- com/example/statewise/statewise/SheetFunction$7 -/
def k13 : Class := { plain "com/example/statewise/statewise/SheetFunction$7" (some 6) with
  accessFlags := 16432
  interfaces := #[]
  cf := some (fileOf pool13 37 #[.nestHost 2] #[] 16432 2 #[] #[{ accessFlags := 26, nameIndex := 65, descriptorIndex := 66, attributes := #[] }])
  fields := #[{ name := "MAX_PLACES", type := .int, accessFlags := 26, slot := 0, constantValue := 0 }]
  methods := #[]
  instanceTypes := #[(.object "java/lang/String"), .int, .int, .int, .int]
  staticTypes := #[.int]
  resolved := Array.replicate 85 none
  statics := none }

def pool14 : Array CpInfo := pool [(2, .class_ 4), (1, u "com/example/statewise/statewise/SheetFunction"), (37, .class_ 43), (0, u "com/example/statewise/statewise/SheetFunction$8")] 16

/-- com/example/statewise/statewise/SheetFunction$8 -/
def k14 : Class := { plain "com/example/statewise/statewise/SheetFunction$8" (some 6) with
  accessFlags := 16432
  interfaces := #[]
  cf := some (fileOf pool14 42 #[.nestHost 2] #[] 16432 2 #[] #[])
  fields := #[]
  methods := #[]
  instanceTypes := #[(.object "java/lang/String"), .int, .int, .int, .int]
  staticTypes := #[]
  resolved := Array.replicate 60 none
  statics := none }

def pool15 : Array CpInfo := pool [(2, .class_ 4), (1, u "com/example/statewise/statewise/SheetFunction"), (32, .class_ 38), (0, u "com/example/statewise/statewise/SheetFunction$9")] 16

/-- com/example/statewise/statewise/SheetFunction$9 -/
def k15 : Class := { plain "com/example/statewise/statewise/SheetFunction$9" (some 6) with
  accessFlags := 16432
  interfaces := #[]
  cf := some (fileOf pool15 37 #[.nestHost 2] #[] 16432 2 #[] #[])
  fields := #[]
  methods := #[]
  instanceTypes := #[(.object "java/lang/String"), .int, .int, .int, .int]
  staticTypes := #[]
  resolved := Array.replicate 55 none
  statics := none }

def pool16 : Array CpInfo := pool [(2, .class_ 4), (1, u "com/example/statewise/statewise/SheetFunction"), (12, .class_ 18), (0, u "com/example/statewise/statewise/SheetFunction$10")] 16

/-- com/example/statewise/statewise/SheetFunction$10 -/
def k16 : Class := { plain "com/example/statewise/statewise/SheetFunction$10" (some 6) with
  accessFlags := 16432
  interfaces := #[]
  cf := some (fileOf pool16 17 #[.nestHost 2] #[] 16432 2 #[] #[])
  fields := #[]
  methods := #[]
  instanceTypes := #[(.object "java/lang/String"), .int, .int, .int, .int]
  staticTypes := #[]
  resolved := Array.replicate 35 none
  statics := none }

def pool17 : Array CpInfo := pool [(2, .class_ 4), (1, u "com/example/statewise/statewise/SheetFunction"), (12, .class_ 18), (0, u "com/example/statewise/statewise/SheetFunction$11")] 16

/-- com/example/statewise/statewise/SheetFunction$11 -/
def k17 : Class := { plain "com/example/statewise/statewise/SheetFunction$11" (some 6) with
  accessFlags := 16432
  interfaces := #[]
  cf := some (fileOf pool17 17 #[.nestHost 2] #[] 16432 2 #[] #[])
  fields := #[]
  methods := #[]
  instanceTypes := #[(.object "java/lang/String"), .int, .int, .int, .int]
  staticTypes := #[]
  resolved := Array.replicate 35 none
  statics := none }

def pool18 : Array CpInfo := pool [(2, .class_ 4), (1, u "com/example/statewise/statewise/SheetFunction"), (32, .class_ 38), (0, u "com/example/statewise/statewise/SheetFunction$12")] 16

/-- com/example/statewise/statewise/SheetFunction$12 -/
def k18 : Class := { plain "com/example/statewise/statewise/SheetFunction$12" (some 6) with
  accessFlags := 16432
  interfaces := #[]
  cf := some (fileOf pool18 37 #[.nestHost 2] #[] 16432 2 #[] #[])
  fields := #[]
  methods := #[]
  instanceTypes := #[(.object "java/lang/String"), .int, .int, .int, .int]
  staticTypes := #[]
  resolved := Array.replicate 55 none
  statics := none }

def pool19 : Array CpInfo := pool [(2, .class_ 4), (1, u "com/example/statewise/statewise/SheetFunction"), (123, .class_ 129), (0, u "com/example/statewise/statewise/SheetFunction$13")] 41

/-- com/example/statewise/statewise/SheetFunction$13 -/
def k19 : Class := { plain "com/example/statewise/statewise/SheetFunction$13" (some 6) with
  accessFlags := 16432
  interfaces := #[]
  cf := some (fileOf pool19 128 #[.nestHost 2] #[] 16432 2 #[] #[])
  fields := #[]
  methods := #[]
  instanceTypes := #[(.object "java/lang/String"), .int, .int, .int, .int]
  staticTypes := #[]
  resolved := Array.replicate 171 none
  statics := none }

def pool20 : Array CpInfo := pool [(2, .class_ 4), (1, u "com/example/statewise/statewise/SheetFunction"), (152, .class_ 158), (0, u "com/example/statewise/statewise/SheetFunction$14")] 40

/-- com/example/statewise/statewise/SheetFunction$14 -/
def k20 : Class := { plain "com/example/statewise/statewise/SheetFunction$14" (some 6) with
  accessFlags := 16432
  interfaces := #[]
  cf := some (fileOf pool20 157 #[.nestHost 2] #[] 16432 2 #[] #[])
  fields := #[]
  methods := #[]
  instanceTypes := #[(.object "java/lang/String"), .int, .int, .int, .int]
  staticTypes := #[]
  resolved := Array.replicate 199 none
  statics := none }

def pool21 : Array CpInfo := pool [(2, .class_ 4), (1, u "com/example/statewise/statewise/SheetFunction"), (64, .class_ 70), (0, u "com/example/statewise/statewise/SheetFunction$15")] 16

/-- com/example/statewise/statewise/SheetFunction$15 -/
def k21 : Class := { plain "com/example/statewise/statewise/SheetFunction$15" (some 6) with
  accessFlags := 16432
  interfaces := #[]
  cf := some (fileOf pool21 69 #[.nestHost 2] #[] 16432 2 #[] #[])
  fields := #[]
  methods := #[]
  instanceTypes := #[(.object "java/lang/String"), .int, .int, .int, .int]
  staticTypes := #[]
  resolved := Array.replicate 87 none
  statics := none }

def pool22 : Array CpInfo := pool [(2, .class_ 4), (1, u "com/example/statewise/statewise/SheetFunction"), (14, .class_ 20), (0, u "com/example/statewise/statewise/SheetFunction$16")] 12

/-- com/example/statewise/statewise/SheetFunction$16 -/
def k22 : Class := { plain "com/example/statewise/statewise/SheetFunction$16" (some 6) with
  accessFlags := 16432
  interfaces := #[]
  cf := some (fileOf pool22 19 #[.nestHost 2] #[] 16432 2 #[] #[])
  fields := #[]
  methods := #[]
  instanceTypes := #[(.object "java/lang/String"), .int, .int, .int, .int]
  staticTypes := #[]
  resolved := Array.replicate 33 none
  statics := none }

def pool23 : Array CpInfo := pool [(2, .class_ 4), (1, u "com/example/statewise/statewise/SheetFunction"), (20, .class_ 26), (0, u "com/example/statewise/statewise/SheetFunction$17")] 12

/-- com/example/statewise/statewise/SheetFunction$17 -/
def k23 : Class := { plain "com/example/statewise/statewise/SheetFunction$17" (some 6) with
  accessFlags := 16432
  interfaces := #[]
  cf := some (fileOf pool23 25 #[.nestHost 2] #[] 16432 2 #[] #[])
  fields := #[]
  methods := #[]
  instanceTypes := #[(.object "java/lang/String"), .int, .int, .int, .int]
  staticTypes := #[]
  resolved := Array.replicate 39 none
  statics := none }

def pool24 : Array CpInfo := pool [(1, u "java/lang/Cloneable"), (0, .class_ 1), (0, u "java/lang/Object"), (0, .class_ 3)] 3

/-- java/lang/Cloneable -/
def k24 : Class := { plain "java/lang/Cloneable" (some 0) with
  accessFlags := 1537
  interfaces := #[]
  cf := some (fileOf pool24 2 #[] #[] 1537 4 #[] #[])
  fields := #[]
  methods := #[]
  instanceTypes := #[]
  staticTypes := #[]
  resolved := Array.replicate 8 none
  statics := none }

/-- the primitive byte -/
def k25 : Class := { plain "byte" none with kind := .primitive 'B', accessFlags := 0x411 }
/-- [B -/
def k26 : Class := { plain "[B" (some 0) with kind := .array 25 .byte, interfaces := #[24, 4], accessFlags := 1041 }

/-- the primitive int -/
def k27 : Class := { plain "int" none with kind := .primitive 'I', accessFlags := 0x411 }
/-- [I -/
def k28 : Class := { plain "[I" (some 0) with kind := .array 27 .int, interfaces := #[24, 4], accessFlags := 1041 }

/-- [Lcom/example/statewise/statewise/SheetFunction; -/
def k29 : Class := { plain "[Lcom/example/statewise/statewise/SheetFunction;" (some 0) with kind := .array 6 (.object "com/example/statewise/statewise/SheetFunction"), interfaces := #[24, 4], accessFlags := 1041 }

def heap : Heap := #[{ cls := 6, slots := #[.ref 1, .ref 2, .ref 3, .ref 4, .ref 5, .ref 6, .ref 7, .ref 8, .ref 9, .ref 10, .ref 11, .ref 12, .ref 13, .ref 14, .ref 15, .ref 16, .ref 17, .null, .null], vm := .statics 6 },
  { cls := 7, slots := #[.null, .int 0, .int 0, .int 1, .int 2147483647], vm := .none },
  { cls := 8, slots := #[.null, .int 0, .int 0, .int 1, .int 2147483647], vm := .none },
  { cls := 9, slots := #[.null, .int 0, .int 0, .int 1, .int 2147483647], vm := .none },
  { cls := 10, slots := #[.null, .int 0, .int 0, .int 1, .int 2147483647], vm := .none },
  { cls := 11, slots := #[.null, .int 0, .int 0, .int 1, .int 2147483647], vm := .none },
  { cls := 12, slots := #[.null, .int 0, .int 0, .int 1, .int 2147483647], vm := .none },
  { cls := 13, slots := #[.null, .int 0, .int 0, .int 1, .int 2], vm := .none },
  { cls := 14, slots := #[.null, .int 0, .int 0, .int 1, .int 1], vm := .none },
  { cls := 15, slots := #[.null, .int 0, .int 0, .int 1, .int 3], vm := .none },
  { cls := 16, slots := #[.null, .int 0, .int 0, .int 1, .int 2147483647], vm := .none },
  { cls := 17, slots := #[.null, .int 0, .int 0, .int 1, .int 2147483647], vm := .none },
  { cls := 18, slots := #[.null, .int 0, .int 0, .int 1, .int 1], vm := .none },
  { cls := 19, slots := #[.null, .int 0, .int 0, .int 2, .int 3], vm := .none },
  { cls := 20, slots := #[.null, .int 0, .int 0, .int 3, .int 4], vm := .none },
  { cls := 21, slots := #[.null, .int 0, .int 0, .int 1, .int 2147483647], vm := .none },
  { cls := 22, slots := #[.null, .int 0, .int 0, .int 0, .int 0], vm := .none },
  { cls := 23, slots := #[.null, .int 0, .int 0, .int 0, .int 0], vm := .none }]
def classes : Array Class := #[k0, k1, k2, k3, k4, k5, k6, k7, k8, k9, k10, k11, k12, k13, k14, k15, k16, k17, k18, k19, k20, k21, k22, k23, k24, k25, k26, k27, k28, k29]
def interned : List (Array UInt16 × Addr) := []
def slotsUsed : Nat := 104
def theMethod : MethodId := ⟨1, 1⟩
def args0 : Array Value := #[.int 5, .int 2]
def aboutOver (below : List Frame) : State where
  vm := { classes := classes, interned := interned.toArray }
  heap := heap
  slotsUsed := slotsUsed
  threads := #[{ frames := .invoking theMethod args0 :: below }]
def below0 : List Frame := [.native { method := ⟨0, 0⟩, args := #[] }]
def about1 : State := aboutOver below0
def p0 : Program := .bare "" "" ""
def e0 : Env := launch0.env 0 0 0
theorem w_frames : about1.frames = Frame.invoking theMethod args0 :: below0 := rfl
set_option maxRecDepth 65536 in
theorem w_args : argsFit about1.vm theMethod args0 = true := by decide +kernel
set_option maxRecDepth 65536 in
theorem w_heap : heapFits about1 = true := by decide +kernel
set_option maxRecDepth 65536 in
theorem w_runnable : about1.curStatus? = some .runnable := by decide +kernel
set_option maxRecDepth 65536 in
theorem w_alone : about1.alone = true := by decide +kernel
set_option maxRecDepth 65536 in
theorem w_named : about1.methodNamed? x = some theMethod := by decide +kernel
set_option maxRecDepth 65536 in
theorem w_hears : about1.hears theMethod below0 = true := by decide +kernel
set_option maxRecDepth 65536 in
theorem w_ripe : about1.ripe theMethod args0 below0 = true := by decide +kernel
theorem w_running : about1.status = .running := rfl
set_option maxRecDepth 65536 in
theorem w_room : about1.hasRoom e0.platform room_1 = true :=
  launch0.hasRoom_least _ room_1 (by decide +kernel) (by decide +kernel) (by decide +kernel) (by decide +kernel) (by decide +kernel) (by decide +kernel)
theorem allAtoms_all (ts : List Jvm.Cond) (a : Array Jvm.Value) (st : Jvm.State) : (allAtoms ts).before a st = ts.all (fun c => c.before a st) := by
  induction ts with
  | nil => rfl
  | cons c t ih =>
    show (Jvm.Cond.and c (allAtoms t)).before a st = _
    rw [Jvm.Cond.before_and, ih, List.all_cons]
def words1 : List Jvm.Cond := Jvm.Cond.code x code maxLocals ret :: tables_1
/-- a 'code' word, met by the world's own term for the bytes: nothing is compared byte by byte -/
theorem code_word {y : MethodName} {bytes : ByteArray} {mx : Nat} {rt : Option FieldType} {a : Array Value} {s : State} {m : MethodId} {meth : Method} {c : Code} (h1 : s.methodNamed? y = some m) (h2 : s.vm.method? m = some meth) (h3 : meth.code = some c) (h4 : c.code = bytes)
    (h5 : (c.maxLocals == mx && c.exceptionTable.isEmpty && decide (c.maxStack ≤ mostOperands) && decide (meth.sig.returnType = rt) && !meth.locks && decide (parseMethodDescriptor y.desc = some meth.sig)) = true) : (Jvm.Cond.code y bytes mx rt).before a s = true := by
  simp only [Bool.and_eq_true, beq_iff_eq, Bool.not_eq_true', decide_eq_true_eq] at h5
  obtain ⟨⟨⟨⟨⟨g1, g2⟩, g3⟩, g4⟩, g5⟩, g6⟩ := h5
  simp [Cond.before, Cond.holds, Cond.value, h1, h2, h3, h4, g1, g2, g3, g4, g5, g6]
def isCode : Jvm.Cond → Bool
  | .code _ _ _ _ => true
  | _ => false
theorem all_split {L : List Jvm.Cond} {P : Jvm.Cond → Bool} (h1 : L.all (fun c => isCode c || P c) = true) (h2 : ∀ c ∈ L.filter isCode, P c = true) : L.all P = true := by
  refine List.all_eq_true.mpr fun c hc => ?_
  have h := List.all_eq_true.mp h1 c hc
  rcases Bool.eq_false_or_eq_true (isCode c) with hi | hi
  · exact h2 c (List.mem_filter.mpr ⟨hc, hi⟩)
  · simpa [hi] using h
set_option maxRecDepth 65536 in
theorem w_c0 : (Jvm.Cond.code x code maxLocals ret).before args0 about1 = true := code_word (m := ⟨1, 1⟩) (meth := k1m1) (c := k1c1) (by decide +kernel) rfl rfl rfl (by decide +kernel)
set_option maxRecDepth 65536 in
theorem w_c1 : (Jvm.Cond.code ({ cls := "com/example/statewise/statewise/SheetFunction", name := "takes", desc := "(I)Z" } : Jvm.MethodName) prog_61_method_5_code (2 : Nat) (Option.some Jvm.ClassFile.FieldType.boolean)).before args0 about1 = true := code_word (m := ⟨6, 0⟩) (meth := k6m0) (c := k6c0) (by decide +kernel) rfl rfl rfl (by decide +kernel)
def codes1 : List Jvm.Cond := [Jvm.Cond.code x code maxLocals ret, Jvm.Cond.code ({ cls := "com/example/statewise/statewise/SheetFunction", name := "takes", desc := "(I)Z" } : Jvm.MethodName) prog_61_method_5_code (2 : Nat) (Option.some Jvm.ClassFile.FieldType.boolean)]
set_option maxRecDepth 65536 in
theorem codes_eq : words1.filter isCode = codes1 := rfl
theorem w_codes : ∀ c ∈ words1.filter isCode, c.before args0 about1 = true := by
  rw [codes_eq]
  intro c hc
  simp only [codes1, List.mem_cons, List.not_mem_nil, or_false] at hc
  rcases hc with rfl | rfl
  · exact w_c0
  · exact w_c1
set_option maxRecDepth 65536 in
theorem w_t1 : (words1.take 24).all (fun c => isCode c || c.before args0 about1) = true := by decide +kernel
set_option maxRecDepth 65536 in
theorem w_t2 : ((words1.drop 24).take 24).all (fun c => isCode c || c.before args0 about1) = true := by decide +kernel
set_option maxRecDepth 65536 in
theorem w_t3 : (((words1.drop 24).drop 24).take 24).all (fun c => isCode c || c.before args0 about1) = true := by decide +kernel
set_option maxRecDepth 65536 in
theorem w_t4 : ((((words1.drop 24).drop 24).drop 24).take 24).all (fun c => isCode c || c.before args0 about1) = true := by decide +kernel
set_option maxRecDepth 65536 in
theorem w_t5 : ((((words1.drop 24).drop 24).drop 24).drop 24).all (fun c => isCode c || c.before args0 about1) = true := by decide +kernel
theorem w_tables : (allAtoms (Jvm.Cond.code x code maxLocals ret :: tables_1)).before args0 about1 = true := by
  rw [allAtoms_all]
  show words1.all (fun c => c.before args0 about1) = true
  refine all_split ?_ w_codes
  rw [← List.take_append_drop 24 words1, List.all_append, w_t1, ← List.take_append_drop 24 (words1.drop 24), List.all_append, w_t2, ← List.take_append_drop 24 ((words1.drop 24).drop 24), List.all_append, w_t3, ← List.take_append_drop 24 (((words1.drop 24).drop 24).drop 24), List.all_append, w_t4, w_t5]
  rfl
set_option maxRecDepth 65536 in
theorem w_case : (Jvm.Cond.and given_1 narrow_1).before args0 about1 = true := by decide +kernel
theorem w_applies : (headSpec (Jvm.Cond.code x code maxLocals ret :: tables_1) room_1).applies x e0.platform about1 = true :=
  (Spec.applies_iff w_frames).mpr ⟨w_running, w_runnable, w_alone, w_named, w_hears, w_ripe, w_room, w_tables⟩
theorem atStart : AtStart classFile x code maxLocals ret World_1 tables_1 room_1 Calls_1 rest_1 Pre_1 launch0 p0 e0 about1 theMethod args0 below0 :=
  ⟨lists_1, trivial, launch0.admits_env _ _ _, launch0.least_env, fairChoices_fair.cas, fairChoices_fair.clock, w_frames, w_args, w_heap, w_applies, trivial, trivial, w_case⟩
end start1
theorem witness_1 : WitnessClaimed_1 := ⟨start1.p0, start1.e0, start1.about1, start1.theMethod, start1.args0, start1.below0, start1.atStart⟩
end Jvm.Pilot.@@N@@
