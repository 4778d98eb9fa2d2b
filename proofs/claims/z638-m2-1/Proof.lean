import JvmDerived
import JvmDerived.Pilot.@@N@@Statement
import JvmDerived.Pilot.@@N@@Code
set_option linter.unusedVariables false
set_option linter.unusedSimpArgs false
namespace Jvm.RoadKit
open Sem ClassFile Op Lib Jvm.Stand Jvm.Free Jvm.LawKit
section New
variable {p : Program} {l : Launch} {e : Env} {R : Room} {s : State} {m : MethodId} {args : Array Value} {below : List Frame} {meth : Method} {c : Code} {T : State} {locs : List Loc} {cells slots : Nat}
theorem retI (X : Stand p l e R s m args below meth c T locs cells slots) (hx : p.tables.exec = Jvm.exec) {pc : Nat} {Ls : Array Slot} {z : Int32} {rest : List Value} (hret : meth.sig.returnType = some .int) (hd : decode c.code pc = .ok (.ireturn, 1)) {fs : List Frame}
    (hl : ∀ (f : JFrame) (acts : List Action), f.method = m → f.locked = none → f.entered = [] → (doReturn e (T.setTop f) acts (some (.int z))).1 = T.setFrames fs) : Steps p.tables e below (T.setTop (mkF m pc Ls (.int z :: rest))) (T.setFrames fs) := by
  have hm' : T.vm.method? m = some meth := X.method'
  have hn : narrow .int (.int z) = .int z := rfl
  show Steps p.tables e below (T.setTop { method := m, pc := pc, locals := Ls, stack := _ :: rest, locked := none }) _
  jvm_step X.here [X.here.top, hx, hd, hm', hret, hn]
  first | (intro acts; rw [hl _ acts rfl rfl rfl]) | rw [hl _ _ rfl rfl rfl]
  exact Steps.refl _
end New
end Jvm.RoadKit
namespace Jvm.Pilot.@@N@@
open Jvm Jvm.ClassFile Sem Op Lib Jvm.Free Jvm.Stand Jvm.LawKit Jvm.RoadKit Bundle Jvm.Pilot.@@N@@.Jvm.D
theorem own_mod (x d : Int32) (D : Int) (hd : d.toInt = D) (h : 0 < D) : 0 ≤ ((x &&& (2147483647 : Int32)) % d).toInt ∧ ((x &&& (2147483647 : Int32)) % d).toInt < D := by
  have h1 := (c_and x 2147483647 (by decide)).1
  have h2 := (c_irem (x &&& 2147483647) d D hd).1 h1
  rw [h2]; exact ⟨Int.emod_nonneg _ (by omega), Int.emod_lt_of_pos _ h⟩
theorem own_nat {k : Int32} (h : 0 ≤ k.toInt) : k = Int32.ofNat k.toNatClampNeg := by
  apply Int32.toInt_inj.mp
  have e : (k.toNatClampNeg : Int) = k.toInt := by simp only [Int32.toNatClampNeg]; omega
  have b : k.toInt < 2147483648 := by have := k.toInt_lt; omega
  rw [Int32.toInt_ofNat_of_lt (by omega)]; omega
theorem own_clamp {k : Int32} (h : 0 ≤ k.toInt) {n : Nat} (hn : k.toInt < n) : k.toNatClampNeg < n := by
  simp only [Int32.toNatClampNeg]; omega
theorem own_clamp_of {j : Nat} (h : j < 2147483648) : (Int32.ofNat j).toNatClampNeg = j := by
  have e : (Int32.ofNat j).toInt = j := Int32.toInt_ofNat_of_lt h
  simp only [Int32.toNatClampNeg, e]; omega
theorem own_nei {x k : Int32} {z : Int} (h : ¬ x = k) (hk : k.toInt = z) : x.toInt ≠ z := fun e => h (Int32.toInt_inj.mp (e.trans hk.symm))
theorem own_eqi {x k : Int32} {z : Int} (h : x.toInt = z) (hk : k.toInt = z) : x = k := Int32.toInt_inj.mp (h.trans hk.symm)
theorem own_sta_keep {Z : State} {h h' : Heap} {C n d : String} {v : Value} {ws : List Addr} (F : Sta Z h C n d v) (K : Keep h h' ws) (q : ∀ a ∈ ws, ∃ c : Cell, h[a]? = some c ∧ c.vm.isStatics = false) : Sta Z h' C n d v := by
  obtain ⟨cf, i, k, f, st, cell, h1, h2, h3, h4, h5, h6, h7⟩ := F
  refine ⟨cf, i, k, f, st, cell, h1, h2, h3, h4, K.2.1 st cell h5 (fun hm => ?_), h6, h7⟩
  obtain ⟨c, e1, e2⟩ := q st hm
  cases h5.symm.trans e1
  rw [e2] at h6; cases h6
theorem own_ns {Z : State} {h : Heap} {C : String} {a : Addr} (E : Exa Z h a C) : ∃ c : Cell, h[a]? = some c ∧ c.vm.isStatics = false := by
  obtain ⟨c, k, h1, -, -, h4, -⟩ := E
  exact ⟨c, h1, h4⟩
def QL (n0 : Nat) (v : Option Value) (h : Heap) (L : List Loc) : Prop := v = some (.int (1 : Int32)) ∧ Fr n0 L
def QR (r : Value) (h0 : Heap) (n0 : Nat) (v : Option Value) (h : Heap) (L : List Loc) : Prop := v = some r ∧ Fr n0 L ∧ h = h0
theorem own_fldI {args : Array Value} {s : State} {t : Term} {C n d : String} {a : Addr} {k : Int32} (ht : t.eval args s none [] s = some (.ref a)) (h : (Jvm.Cond.eq (.field t C n d) (.int k)).value args s none s [] = some true) : Fld s s.heap a C n d (.int k) := by
  obtain ⟨u, w, e1, e2, k1, k2⟩ := cmp_v (Or.inl h)
  obtain rfl : w = .int k := (Option.some.inj (e2.symm.trans (Term.int_eval k)))
  obtain ⟨z, rfl⟩ := k2
  have hz : z = k := by simpa [Cond.value, e1, e2] using h
  subst hz
  rw [fld_at ht] at e1
  exact Fld.start e1
theorem own_fldR {args : Array Value} {s : State} {t u : Term} {C n d : String} {a b : Addr} (ht : t.eval args s none [] s = some (.ref a)) (hu : u.eval args s none [] s = some (.ref b)) (h : (Jvm.Cond.eq (.field t C n d) u).value args s none s [] = some true) : Fld s s.heap a C n d (.ref b) := by
  cases e1 : (Term.field t C n d).eval args s none [] s with
  | none => simp [Cond.value, e1] at h
  | some x =>
    have hx : x = .ref b := by
      cases x <;> simp [Cond.value, e1, hu] at h
      exact congrArg Value.ref h
    subst hx
    rw [fld_at ht] at e1
    exact Fld.start e1
theorem d1_0 : decode method_2_code 0 = .ok (.iload_n 0, 1) := by decide +kernel
theorem d1_1 : decode method_2_code 1 = .ok (.ifCond .ne 7, 3) := by decide +kernel
theorem d1_4 : decode method_2_code 4 = .ok (.getstatic 7, 3) := by decide +kernel
theorem d1_7 : decode method_2_code 7 = .ok (.areturn, 1) := by decide +kernel
theorem d1_8 : decode method_2_code 8 = .ok (.iload_n 0, 1) := by decide +kernel
theorem d1_9 : decode method_2_code 9 = .ok (.iconst 1, 1) := by decide +kernel
theorem d1_10 : decode method_2_code 10 = .ok (.if_icmp .ne 7, 3) := by decide +kernel
theorem d1_13 : decode method_2_code 13 = .ok (.getstatic 13, 3) := by decide +kernel
theorem d1_16 : decode method_2_code 16 = .ok (.areturn, 1) := by decide +kernel
theorem d1_17 : decode method_2_code 17 = .ok (.iload_n 0, 1) := by decide +kernel
theorem d1_18 : decode method_2_code 18 = .ok (.iconst 2, 1) := by decide +kernel
theorem d1_19 : decode method_2_code 19 = .ok (.if_icmp .ne 7, 3) := by decide +kernel
theorem d1_22 : decode method_2_code 22 = .ok (.getstatic 16, 3) := by decide +kernel
theorem d1_25 : decode method_2_code 25 = .ok (.areturn, 1) := by decide +kernel
theorem d1_26 : decode method_2_code 26 = .ok (.iload_n 0, 1) := by decide +kernel
theorem d1_27 : decode method_2_code 27 = .ok (.iconst 3, 1) := by decide +kernel
theorem d1_28 : decode method_2_code 28 = .ok (.if_icmp .ne 7, 3) := by decide +kernel
theorem d1_31 : decode method_2_code 31 = .ok (.getstatic 19, 3) := by decide +kernel
theorem d1_34 : decode method_2_code 34 = .ok (.areturn, 1) := by decide +kernel
theorem d1_35 : decode method_2_code 35 = .ok (.iload_n 0, 1) := by decide +kernel
theorem d1_36 : decode method_2_code 36 = .ok (.iconst 4, 1) := by decide +kernel
theorem d1_37 : decode method_2_code 37 = .ok (.if_icmp .ne 7, 3) := by decide +kernel
theorem d1_40 : decode method_2_code 40 = .ok (.getstatic 22, 3) := by decide +kernel
theorem d1_43 : decode method_2_code 43 = .ok (.areturn, 1) := by decide +kernel
theorem d1_44 : decode method_2_code 44 = .ok (.iload_n 0, 1) := by decide +kernel
theorem d1_45 : decode method_2_code 45 = .ok (.iconst 5, 1) := by decide +kernel
theorem d1_46 : decode method_2_code 46 = .ok (.if_icmp .ne 7, 3) := by decide +kernel
theorem d1_49 : decode method_2_code 49 = .ok (.getstatic 25, 3) := by decide +kernel
theorem d1_52 : decode method_2_code 52 = .ok (.areturn, 1) := by decide +kernel
theorem d1_53 : decode method_2_code 53 = .ok (.iload_n 0, 1) := by decide +kernel
theorem d1_54 : decode method_2_code 54 = .ok (.bipush 6, 2) := by decide +kernel
theorem d1_56 : decode method_2_code 56 = .ok (.if_icmp .ne 7, 3) := by decide +kernel
theorem d1_59 : decode method_2_code 59 = .ok (.getstatic 28, 3) := by decide +kernel
theorem d1_62 : decode method_2_code 62 = .ok (.areturn, 1) := by decide +kernel
theorem d1_63 : decode method_2_code 63 = .ok (.iload_n 0, 1) := by decide +kernel
theorem d1_64 : decode method_2_code 64 = .ok (.bipush 7, 2) := by decide +kernel
theorem d1_66 : decode method_2_code 66 = .ok (.if_icmp .ne 7, 3) := by decide +kernel
theorem d1_69 : decode method_2_code 69 = .ok (.getstatic 31, 3) := by decide +kernel
theorem d1_72 : decode method_2_code 72 = .ok (.areturn, 1) := by decide +kernel
theorem d1_73 : decode method_2_code 73 = .ok (.iload_n 0, 1) := by decide +kernel
theorem d1_74 : decode method_2_code 74 = .ok (.bipush 8, 2) := by decide +kernel
theorem d1_76 : decode method_2_code 76 = .ok (.if_icmp .ne 7, 3) := by decide +kernel
theorem d1_79 : decode method_2_code 79 = .ok (.getstatic 34, 3) := by decide +kernel
theorem d1_82 : decode method_2_code 82 = .ok (.areturn, 1) := by decide +kernel
theorem d1_83 : decode method_2_code 83 = .ok (.iload_n 0, 1) := by decide +kernel
theorem d1_84 : decode method_2_code 84 = .ok (.bipush 9, 2) := by decide +kernel
theorem d1_86 : decode method_2_code 86 = .ok (.if_icmp .ne 7, 3) := by decide +kernel
theorem d1_89 : decode method_2_code 89 = .ok (.getstatic 37, 3) := by decide +kernel
theorem d1_92 : decode method_2_code 92 = .ok (.areturn, 1) := by decide +kernel
theorem d1_93 : decode method_2_code 93 = .ok (.iload_n 0, 1) := by decide +kernel
theorem d1_94 : decode method_2_code 94 = .ok (.bipush 10, 2) := by decide +kernel
theorem d1_96 : decode method_2_code 96 = .ok (.if_icmp .ne 7, 3) := by decide +kernel
theorem d1_99 : decode method_2_code 99 = .ok (.getstatic 40, 3) := by decide +kernel
theorem d1_102 : decode method_2_code 102 = .ok (.areturn, 1) := by decide +kernel
theorem d1_103 : decode method_2_code 103 = .ok (.iload_n 0, 1) := by decide +kernel
theorem d1_104 : decode method_2_code 104 = .ok (.bipush 11, 2) := by decide +kernel
theorem d1_106 : decode method_2_code 106 = .ok (.if_icmp .ne 7, 3) := by decide +kernel
theorem d1_109 : decode method_2_code 109 = .ok (.getstatic 43, 3) := by decide +kernel
theorem d1_112 : decode method_2_code 112 = .ok (.areturn, 1) := by decide +kernel
theorem d1_113 : decode method_2_code 113 = .ok (.iload_n 0, 1) := by decide +kernel
theorem d1_114 : decode method_2_code 114 = .ok (.bipush 12, 2) := by decide +kernel
theorem d1_116 : decode method_2_code 116 = .ok (.if_icmp .ne 7, 3) := by decide +kernel
theorem d1_119 : decode method_2_code 119 = .ok (.getstatic 46, 3) := by decide +kernel
theorem d1_122 : decode method_2_code 122 = .ok (.areturn, 1) := by decide +kernel
theorem d1_123 : decode method_2_code 123 = .ok (.iload_n 0, 1) := by decide +kernel
theorem d1_124 : decode method_2_code 124 = .ok (.bipush 13, 2) := by decide +kernel
theorem d1_126 : decode method_2_code 126 = .ok (.if_icmp .ne 7, 3) := by decide +kernel
theorem d1_129 : decode method_2_code 129 = .ok (.getstatic 49, 3) := by decide +kernel
theorem d1_132 : decode method_2_code 132 = .ok (.areturn, 1) := by decide +kernel
theorem d1_133 : decode method_2_code 133 = .ok (.iload_n 0, 1) := by decide +kernel
theorem d1_134 : decode method_2_code 134 = .ok (.bipush 14, 2) := by decide +kernel
theorem d1_136 : decode method_2_code 136 = .ok (.if_icmp .ne 7, 3) := by decide +kernel
theorem d1_139 : decode method_2_code 139 = .ok (.getstatic 52, 3) := by decide +kernel
theorem d1_142 : decode method_2_code 142 = .ok (.areturn, 1) := by decide +kernel
theorem d1_143 : decode method_2_code 143 = .ok (.iload_n 0, 1) := by decide +kernel
theorem d1_144 : decode method_2_code 144 = .ok (.bipush 15, 2) := by decide +kernel
theorem d1_146 : decode method_2_code 146 = .ok (.if_icmp .ne 7, 3) := by decide +kernel
theorem d1_149 : decode method_2_code 149 = .ok (.getstatic 55, 3) := by decide +kernel
theorem d1_152 : decode method_2_code 152 = .ok (.areturn, 1) := by decide +kernel
theorem d1_153 : decode method_2_code 153 = .ok (.iload_n 0, 1) := by decide +kernel
theorem d1_154 : decode method_2_code 154 = .ok (.bipush 16, 2) := by decide +kernel
theorem d1_156 : decode method_2_code 156 = .ok (.if_icmp .ne 7, 3) := by decide +kernel
theorem d1_159 : decode method_2_code 159 = .ok (.getstatic 58, 3) := by decide +kernel
theorem d1_162 : decode method_2_code 162 = .ok (.areturn, 1) := by decide +kernel
theorem d1_163 : decode method_2_code 163 = .ok (.iload_n 0, 1) := by decide +kernel
theorem d1_164 : decode method_2_code 164 = .ok (.bipush 17, 2) := by decide +kernel
theorem d1_166 : decode method_2_code 166 = .ok (.if_icmp .ne 7, 3) := by decide +kernel
theorem d1_169 : decode method_2_code 169 = .ok (.getstatic 61, 3) := by decide +kernel
theorem d1_172 : decode method_2_code 172 = .ok (.areturn, 1) := by decide +kernel
theorem d1_173 : decode method_2_code 173 = .ok (.iload_n 0, 1) := by decide +kernel
theorem d1_174 : decode method_2_code 174 = .ok (.bipush 18, 2) := by decide +kernel
theorem d1_176 : decode method_2_code 176 = .ok (.if_icmp .ne 7, 3) := by decide +kernel
theorem d1_179 : decode method_2_code 179 = .ok (.getstatic 64, 3) := by decide +kernel
theorem d1_182 : decode method_2_code 182 = .ok (.areturn, 1) := by decide +kernel
theorem d1_183 : decode method_2_code 183 = .ok (.iload_n 0, 1) := by decide +kernel
theorem d1_184 : decode method_2_code 184 = .ok (.bipush 19, 2) := by decide +kernel
theorem d1_186 : decode method_2_code 186 = .ok (.if_icmp .ne 7, 3) := by decide +kernel
theorem d1_189 : decode method_2_code 189 = .ok (.getstatic 67, 3) := by decide +kernel
theorem d1_192 : decode method_2_code 192 = .ok (.areturn, 1) := by decide +kernel
theorem d1_193 : decode method_2_code 193 = .ok (.getstatic 70, 3) := by decide +kernel
theorem d1_196 : decode method_2_code 196 = .ok (.areturn, 1) := by decide +kernel
theorem pn_1 : plainName "com/example/forbid_or_permit/forbidorpermit/KindLinksPinLaw" = true := by first | (simp [plainName, overriddenIn]; done) | decide +kernel
theorem ef_rm1 (m : MethodId) (x0 : Int32) : entryFrame m #[(.int x0)] 1 = mkF m 0 #[.val (.int x0)] [] := by first | (simp [entryFrame, mkF, argsToLocals, Value.category]; done) | rfl
set_option maxRecDepth 65536 in
set_option maxHeartbeats 40000000 in
theorem rm1 (l : Launch) (Z : State) (a0 : Array Value) (hw : ∀ d ∈ tables_1, d.before a0 Z = true) (ws : List Jvm.Cond) (p0 : Int32) (W : Nat → Addr) (h0 : Heap) (n0 : Nat) (Z0 : n0 ≤ h0.size) (S_PERMISSION : Sta Z h0 "com/example/forbid_or_permit/forbidorpermit/Kind" "PERMISSION" "Lcom/example/forbid_or_permit/forbidorpermit/Kind;" (.ref (W 0))) (S_PROHIBITION : Sta Z h0 "com/example/forbid_or_permit/forbidorpermit/Kind" "PROHIBITION" "Lcom/example/forbid_or_permit/forbidorpermit/Kind;" (.ref (W 1))) (S_EMPLOY : Sta Z h0 "com/example/forbid_or_permit/forbidorpermit/Kind" "EMPLOY" "Lcom/example/forbid_or_permit/forbidorpermit/Kind;" (.ref (W 2))) (S_USE : Sta Z h0 "com/example/forbid_or_permit/forbidorpermit/Kind" "USE" "Lcom/example/forbid_or_permit/forbidorpermit/Kind;" (.ref (W 3))) (S_CONSIDER : Sta Z h0 "com/example/forbid_or_permit/forbidorpermit/Kind" "CONSIDER" "Lcom/example/forbid_or_permit/forbidorpermit/Kind;" (.ref (W 4))) (S_DEFINE : Sta Z h0 "com/example/forbid_or_permit/forbidorpermit/Kind" "DEFINE" "Lcom/example/forbid_or_permit/forbidorpermit/Kind;" (.ref (W 5))) (S_HOLDS : Sta Z h0 "com/example/forbid_or_permit/forbidorpermit/Kind" "HOLDS" "Lcom/example/forbid_or_permit/forbidorpermit/Kind;" (.ref (W 6))) (S_ORDER : Sta Z h0 "com/example/forbid_or_permit/forbidorpermit/Kind" "ORDER" "Lcom/example/forbid_or_permit/forbidorpermit/Kind;" (.ref (W 7))) (S_SUB_ORGANISATION : Sta Z h0 "com/example/forbid_or_permit/forbidorpermit/Kind" "SUB_ORGANISATION" "Lcom/example/forbid_or_permit/forbidorpermit/Kind;" (.ref (W 8))) (S_SUB_ROLE : Sta Z h0 "com/example/forbid_or_permit/forbidorpermit/Kind" "SUB_ROLE" "Lcom/example/forbid_or_permit/forbidorpermit/Kind;" (.ref (W 9))) (S_SUB_VIEW : Sta Z h0 "com/example/forbid_or_permit/forbidorpermit/Kind" "SUB_VIEW" "Lcom/example/forbid_or_permit/forbidorpermit/Kind;" (.ref (W 10))) (S_SUB_ACTIVITY : Sta Z h0 "com/example/forbid_or_permit/forbidorpermit/Kind" "SUB_ACTIVITY" "Lcom/example/forbid_or_permit/forbidorpermit/Kind;" (.ref (W 11))) (S_SUB_CONTEXT : Sta Z h0 "com/example/forbid_or_permit/forbidorpermit/Kind" "SUB_CONTEXT" "Lcom/example/forbid_or_permit/forbidorpermit/Kind;" (.ref (W 12))) (S_PREFER_ROLE : Sta Z h0 "com/example/forbid_or_permit/forbidorpermit/Kind" "PREFER_ROLE" "Lcom/example/forbid_or_permit/forbidorpermit/Kind;" (.ref (W 13))) (S_PREFER_CONTEXT : Sta Z h0 "com/example/forbid_or_permit/forbidorpermit/Kind" "PREFER_CONTEXT" "Lcom/example/forbid_or_permit/forbidorpermit/Kind;" (.ref (W 14))) (S_PREFER_VIEW : Sta Z h0 "com/example/forbid_or_permit/forbidorpermit/Kind" "PREFER_VIEW" "Lcom/example/forbid_or_permit/forbidorpermit/Kind;" (.ref (W 15))) (S_PREFER_ACTIVITY : Sta Z h0 "com/example/forbid_or_permit/forbidorpermit/Kind" "PREFER_ACTIVITY" "Lcom/example/forbid_or_permit/forbidorpermit/Kind;" (.ref (W 16))) (S_SEPARATED_ROLE : Sta Z h0 "com/example/forbid_or_permit/forbidorpermit/Kind" "SEPARATED_ROLE" "Lcom/example/forbid_or_permit/forbidorpermit/Kind;" (.ref (W 17))) (S_SEPARATED_VIEW : Sta Z h0 "com/example/forbid_or_permit/forbidorpermit/Kind" "SEPARATED_VIEW" "Lcom/example/forbid_or_permit/forbidorpermit/Kind;" (.ref (W 18))) (S_SEPARATED_ACTIVITY : Sta Z h0 "com/example/forbid_or_permit/forbidorpermit/Kind" "SEPARATED_ACTIVITY" "Lcom/example/forbid_or_permit/forbidorpermit/Kind;" (.ref (W 19))) (S_SEPARATED_CONTEXT : Sta Z h0 "com/example/forbid_or_permit/forbidorpermit/Kind" "SEPARATED_CONTEXT" "Lcom/example/forbid_or_permit/forbidorpermit/Kind;" (.ref (W 20))) (hk0 : 0 ≤ p0.toInt) (hk1 : p0.toInt < 21) :
    MetFree l (⟨"com/example/forbid_or_permit/forbidorpermit/KindLinksPinLaw", "kindAt", "(I)Lcom/example/forbid_or_permit/forbidorpermit/Kind;"⟩ : MethodName) (head1 (Jvm.Cond.code (⟨"com/example/forbid_or_permit/forbidorpermit/KindLinksPinLaw", "kindAt", "(I)Lcom/example/forbid_or_permit/forbidorpermit/Kind;"⟩ : MethodName) method_2_code 1 (some (.object "com/example/forbid_or_permit/forbidorpermit/Kind")) :: ws) ({ frames := 0, cells := 0, slots := 0, locals := 0 } : Room)) (fun a U => a = #[(.int p0)] ∧ Z.Warmed39 U.vm ∧ U.heap = h0) (fun _ _ _ _ _ => True) (fun _ U o U' => ∃ v L, o = .returned v ∧ QR (.ref (W p0.toNatClampNeg)) h0 n0 v U'.heap L ∧ FrameEnd U o U' L ({ frames := 0, cells := 0, slots := 0, locals := 0 } : Room).cells ({ frames := 0, cells := 0, slots := 0, locals := 0 } : Room).slots) := by
  refine MetFree.of_bodySF (plainFor_of_name pn_1) hisR ?_
  intro p e s m args below meth c s₁ Bd hml0 hP hK
  obtain ⟨rfl, hZ, hh⟩ := hP
  have hx := Bd.exec
  have hby := Bd.bytes
  have hml : c.maxLocals = 1 := hml0
  have hown : s.vm.findClass "com/example/forbid_or_permit/forbidorpermit/KindLinksPinLaw" = some m.cls := findClass_of_methodNamed Bd.named
  have hnm := (name_of_methodNamed Bd.named Bd.method).1
  have X0 : Stand p l e ({ frames := 0, cells := 0, slots := 0, locals := 0 } : Room) s m #[(.int p0)] below meth c s₁ [] 0 0 := Stand.of_body Bd
  have e0 : s₁.heap = h0 := by rw [← hh, Bd.state]; rfl
  have N0 := Fr.nil n0
  have pre0 : ∀ t, Steps p.tables e below (s₁.setTop (mkF m 0 #[.val (.int p0)] [])) t → Steps p.tables e below (s₁.setTop (entryFrame m #[(.int p0)] 1)) t := fun t k => castTop (ef_rm1 m p0) k
  have pre1 : ∀ t, Steps p.tables e below (s₁.setTop (mkF m 1 #[.val (.int p0)] [(.int p0)])) t → Steps p.tables e below (s₁.setTop (entryFrame m #[(.int p0)] 1)) t := by
    intro t kt
    refine pre0 t ?_
    show Steps p.tables e below (s₁.setTop (mkF m 0 #[.val (.int p0)] [])) _
    refine XS.iloadN X0.here hx rfl (hb hby d1_0) rfl ?_
    exact kt
  by_cases hc2 : p0 = (0 : Int32)
  · skip
    obtain ⟨T3, X3, e3, st3⟩ := getS2 X0 hx hZ hown (host := "") (Or.inl (hw _ (List.mem_of_getElem? (i := 5) rfl))) Via.refl e0 S_PERMISSION (g := (mkF m 4 #[.val (.int p0)] [])) rfl (hb hby d1_4)
    obtain ⟨fs, hr, hrun, hended, hW, hsame⟩ := X3.leave (v := some (.ref (W 0))) (fun h => by rw [Bd.returns] at h; cases h)
    refine ⟨_, _, pre1 _ ?_, hrun, hended, _, _, rfl, ?_, ⟨_, rfl⟩, hW, hsame.mono (by decide) (by decide)⟩
    · skip
      show Steps p.tables e below (s₁.setTop (mkF m 1 #[.val (.int p0)] [(.int p0)])) _
      refine XS.ifNo X0.here hx rfl (hb hby d1_1) rfl ((if0 _ _).trans (teq hc2).2) ?_
      show Steps p.tables e below (s₁.setTop (mkF m 4 #[.val (.int p0)] [])) _
      refine st3 _ ?_
      show Steps p.tables e below (T3.setTop (mkF m 7 #[.val (.int p0)] [(.ref (W 0))])) _
      jvm_step X3.here [X3.here.top, hx, (hb hby d1_7), X3.method', Bd.returns, Value.isRef, FieldType.isReference]
      first | (intro acts; rw [hr _ acts rfl rfl rfl]) | rw [hr _ _ rfl rfl rfl]
      exact Steps.refl _
    · show QR (.ref (W p0.toNatClampNeg)) h0 n0 _ T3.heap _
      rw [e3]
      exact ⟨(by rw [hc2]; rfl), N0, rfl⟩
  · skip
    have pre4 : ∀ t, Steps p.tables e below (s₁.setTop (mkF m 10 #[.val (.int p0)] [(.int (1 : Int32)), (.int p0)])) t → Steps p.tables e below (s₁.setTop (entryFrame m #[(.int p0)] 1)) t := by
      intro t kt
      refine pre1 t ?_
      show Steps p.tables e below (s₁.setTop (mkF m 1 #[.val (.int p0)] [(.int p0)])) _
      refine XS.ifYes X0.here hx rfl (pc0 := 1) (pc' := 8) rfl (hb hby d1_1) rfl ((if0 _ _).trans (feq hc2).2) (by decide) (by decide) ?_
      show Steps p.tables e below (s₁.setTop (mkF m 8 #[.val (.int p0)] [])) _
      refine XS.iloadN X0.here hx rfl (hb hby d1_8) rfl ?_
      show Steps p.tables e below (s₁.setTop (mkF m 9 #[.val (.int p0)] [(.int p0)])) _
      refine XS.iconst X0.here hx rfl (hb hby d1_9) ?_
      exact kt
    by_cases hc5 : p0 = (1 : Int32)
    · skip
      obtain ⟨T6, X6, e6, st6⟩ := getS2 X0 hx hZ hown (host := "") (Or.inl (hw _ (List.mem_of_getElem? (i := 44) rfl))) Via.refl e0 S_PROHIBITION (g := (mkF m 13 #[.val (.int p0)] [])) rfl (hb hby d1_13)
      obtain ⟨fs, hr, hrun, hended, hW, hsame⟩ := X6.leave (v := some (.ref (W 1))) (fun h => by rw [Bd.returns] at h; cases h)
      refine ⟨_, _, pre4 _ ?_, hrun, hended, _, _, rfl, ?_, ⟨_, rfl⟩, hW, hsame.mono (by decide) (by decide)⟩
      · skip
        show Steps p.tables e below (s₁.setTop (mkF m 10 #[.val (.int p0)] [(.int (1 : Int32)), (.int p0)])) _
        refine XS.icmpNo X0.here hx rfl (hb hby d1_10) rfl (teq hc5).2 ?_
        show Steps p.tables e below (s₁.setTop (mkF m 13 #[.val (.int p0)] [])) _
        refine st6 _ ?_
        show Steps p.tables e below (T6.setTop (mkF m 16 #[.val (.int p0)] [(.ref (W 1))])) _
        jvm_step X6.here [X6.here.top, hx, (hb hby d1_16), X6.method', Bd.returns, Value.isRef, FieldType.isReference]
        first | (intro acts; rw [hr _ acts rfl rfl rfl]) | rw [hr _ _ rfl rfl rfl]
        exact Steps.refl _
      · show QR (.ref (W p0.toNatClampNeg)) h0 n0 _ T6.heap _
        rw [e6]
        exact ⟨(by rw [hc5]; rfl), N0, rfl⟩
    · skip
      have pre7 : ∀ t, Steps p.tables e below (s₁.setTop (mkF m 19 #[.val (.int p0)] [(.int (2 : Int32)), (.int p0)])) t → Steps p.tables e below (s₁.setTop (entryFrame m #[(.int p0)] 1)) t := by
        intro t kt
        refine pre4 t ?_
        show Steps p.tables e below (s₁.setTop (mkF m 10 #[.val (.int p0)] [(.int (1 : Int32)), (.int p0)])) _
        refine XS.icmpYes X0.here hx rfl (pc0 := 10) (pc' := 17) rfl (hb hby d1_10) rfl (feq hc5).2 (by decide) (by decide) ?_
        show Steps p.tables e below (s₁.setTop (mkF m 17 #[.val (.int p0)] [])) _
        refine XS.iloadN X0.here hx rfl (hb hby d1_17) rfl ?_
        show Steps p.tables e below (s₁.setTop (mkF m 18 #[.val (.int p0)] [(.int p0)])) _
        refine XS.iconst X0.here hx rfl (hb hby d1_18) ?_
        exact kt
      by_cases hc8 : p0 = (2 : Int32)
      · skip
        obtain ⟨T9, X9, e9, st9⟩ := getS2 X0 hx hZ hown (host := "") (Or.inl (hw _ (List.mem_of_getElem? (i := 38) rfl))) Via.refl e0 S_EMPLOY (g := (mkF m 22 #[.val (.int p0)] [])) rfl (hb hby d1_22)
        obtain ⟨fs, hr, hrun, hended, hW, hsame⟩ := X9.leave (v := some (.ref (W 2))) (fun h => by rw [Bd.returns] at h; cases h)
        refine ⟨_, _, pre7 _ ?_, hrun, hended, _, _, rfl, ?_, ⟨_, rfl⟩, hW, hsame.mono (by decide) (by decide)⟩
        · skip
          show Steps p.tables e below (s₁.setTop (mkF m 19 #[.val (.int p0)] [(.int (2 : Int32)), (.int p0)])) _
          refine XS.icmpNo X0.here hx rfl (hb hby d1_19) rfl (teq hc8).2 ?_
          show Steps p.tables e below (s₁.setTop (mkF m 22 #[.val (.int p0)] [])) _
          refine st9 _ ?_
          show Steps p.tables e below (T9.setTop (mkF m 25 #[.val (.int p0)] [(.ref (W 2))])) _
          jvm_step X9.here [X9.here.top, hx, (hb hby d1_25), X9.method', Bd.returns, Value.isRef, FieldType.isReference]
          first | (intro acts; rw [hr _ acts rfl rfl rfl]) | rw [hr _ _ rfl rfl rfl]
          exact Steps.refl _
        · show QR (.ref (W p0.toNatClampNeg)) h0 n0 _ T9.heap _
          rw [e9]
          exact ⟨(by rw [hc8]; rfl), N0, rfl⟩
      · skip
        have pre10 : ∀ t, Steps p.tables e below (s₁.setTop (mkF m 28 #[.val (.int p0)] [(.int (3 : Int32)), (.int p0)])) t → Steps p.tables e below (s₁.setTop (entryFrame m #[(.int p0)] 1)) t := by
          intro t kt
          refine pre7 t ?_
          show Steps p.tables e below (s₁.setTop (mkF m 19 #[.val (.int p0)] [(.int (2 : Int32)), (.int p0)])) _
          refine XS.icmpYes X0.here hx rfl (pc0 := 19) (pc' := 26) rfl (hb hby d1_19) rfl (feq hc8).2 (by decide) (by decide) ?_
          show Steps p.tables e below (s₁.setTop (mkF m 26 #[.val (.int p0)] [])) _
          refine XS.iloadN X0.here hx rfl (hb hby d1_26) rfl ?_
          show Steps p.tables e below (s₁.setTop (mkF m 27 #[.val (.int p0)] [(.int p0)])) _
          refine XS.iconst X0.here hx rfl (hb hby d1_27) ?_
          exact kt
        by_cases hc11 : p0 = (3 : Int32)
        · skip
          obtain ⟨T12, X12, e12, st12⟩ := getS2 X0 hx hZ hown (host := "") (Or.inl (hw _ (List.mem_of_getElem? (i := 24) rfl))) Via.refl e0 S_USE (g := (mkF m 31 #[.val (.int p0)] [])) rfl (hb hby d1_31)
          obtain ⟨fs, hr, hrun, hended, hW, hsame⟩ := X12.leave (v := some (.ref (W 3))) (fun h => by rw [Bd.returns] at h; cases h)
          refine ⟨_, _, pre10 _ ?_, hrun, hended, _, _, rfl, ?_, ⟨_, rfl⟩, hW, hsame.mono (by decide) (by decide)⟩
          · skip
            show Steps p.tables e below (s₁.setTop (mkF m 28 #[.val (.int p0)] [(.int (3 : Int32)), (.int p0)])) _
            refine XS.icmpNo X0.here hx rfl (hb hby d1_28) rfl (teq hc11).2 ?_
            show Steps p.tables e below (s₁.setTop (mkF m 31 #[.val (.int p0)] [])) _
            refine st12 _ ?_
            show Steps p.tables e below (T12.setTop (mkF m 34 #[.val (.int p0)] [(.ref (W 3))])) _
            jvm_step X12.here [X12.here.top, hx, (hb hby d1_34), X12.method', Bd.returns, Value.isRef, FieldType.isReference]
            first | (intro acts; rw [hr _ acts rfl rfl rfl]) | rw [hr _ _ rfl rfl rfl]
            exact Steps.refl _
          · show QR (.ref (W p0.toNatClampNeg)) h0 n0 _ T12.heap _
            rw [e12]
            exact ⟨(by rw [hc11]; rfl), N0, rfl⟩
        · skip
          have pre13 : ∀ t, Steps p.tables e below (s₁.setTop (mkF m 37 #[.val (.int p0)] [(.int (4 : Int32)), (.int p0)])) t → Steps p.tables e below (s₁.setTop (entryFrame m #[(.int p0)] 1)) t := by
            intro t kt
            refine pre10 t ?_
            show Steps p.tables e below (s₁.setTop (mkF m 28 #[.val (.int p0)] [(.int (3 : Int32)), (.int p0)])) _
            refine XS.icmpYes X0.here hx rfl (pc0 := 28) (pc' := 35) rfl (hb hby d1_28) rfl (feq hc11).2 (by decide) (by decide) ?_
            show Steps p.tables e below (s₁.setTop (mkF m 35 #[.val (.int p0)] [])) _
            refine XS.iloadN X0.here hx rfl (hb hby d1_35) rfl ?_
            show Steps p.tables e below (s₁.setTop (mkF m 36 #[.val (.int p0)] [(.int p0)])) _
            refine XS.iconst X0.here hx rfl (hb hby d1_36) ?_
            exact kt
          by_cases hc14 : p0 = (4 : Int32)
          · skip
            obtain ⟨T15, X15, e15, st15⟩ := getS2 X0 hx hZ hown (host := "") (Or.inl (hw _ (List.mem_of_getElem? (i := 61) rfl))) Via.refl e0 S_CONSIDER (g := (mkF m 40 #[.val (.int p0)] [])) rfl (hb hby d1_40)
            obtain ⟨fs, hr, hrun, hended, hW, hsame⟩ := X15.leave (v := some (.ref (W 4))) (fun h => by rw [Bd.returns] at h; cases h)
            refine ⟨_, _, pre13 _ ?_, hrun, hended, _, _, rfl, ?_, ⟨_, rfl⟩, hW, hsame.mono (by decide) (by decide)⟩
            · skip
              show Steps p.tables e below (s₁.setTop (mkF m 37 #[.val (.int p0)] [(.int (4 : Int32)), (.int p0)])) _
              refine XS.icmpNo X0.here hx rfl (hb hby d1_37) rfl (teq hc14).2 ?_
              show Steps p.tables e below (s₁.setTop (mkF m 40 #[.val (.int p0)] [])) _
              refine st15 _ ?_
              show Steps p.tables e below (T15.setTop (mkF m 43 #[.val (.int p0)] [(.ref (W 4))])) _
              jvm_step X15.here [X15.here.top, hx, (hb hby d1_43), X15.method', Bd.returns, Value.isRef, FieldType.isReference]
              first | (intro acts; rw [hr _ acts rfl rfl rfl]) | rw [hr _ _ rfl rfl rfl]
              exact Steps.refl _
            · show QR (.ref (W p0.toNatClampNeg)) h0 n0 _ T15.heap _
              rw [e15]
              exact ⟨(by rw [hc14]; rfl), N0, rfl⟩
          · skip
            have pre16 : ∀ t, Steps p.tables e below (s₁.setTop (mkF m 46 #[.val (.int p0)] [(.int (5 : Int32)), (.int p0)])) t → Steps p.tables e below (s₁.setTop (entryFrame m #[(.int p0)] 1)) t := by
              intro t kt
              refine pre13 t ?_
              show Steps p.tables e below (s₁.setTop (mkF m 37 #[.val (.int p0)] [(.int (4 : Int32)), (.int p0)])) _
              refine XS.icmpYes X0.here hx rfl (pc0 := 37) (pc' := 44) rfl (hb hby d1_37) rfl (feq hc14).2 (by decide) (by decide) ?_
              show Steps p.tables e below (s₁.setTop (mkF m 44 #[.val (.int p0)] [])) _
              refine XS.iloadN X0.here hx rfl (hb hby d1_44) rfl ?_
              show Steps p.tables e below (s₁.setTop (mkF m 45 #[.val (.int p0)] [(.int p0)])) _
              refine XS.iconst X0.here hx rfl (hb hby d1_45) ?_
              exact kt
            by_cases hc17 : p0 = (5 : Int32)
            · skip
              obtain ⟨T18, X18, e18, st18⟩ := getS2 X0 hx hZ hown (host := "") (Or.inl (hw _ (List.mem_of_getElem? (i := 27) rfl))) Via.refl e0 S_DEFINE (g := (mkF m 49 #[.val (.int p0)] [])) rfl (hb hby d1_49)
              obtain ⟨fs, hr, hrun, hended, hW, hsame⟩ := X18.leave (v := some (.ref (W 5))) (fun h => by rw [Bd.returns] at h; cases h)
              refine ⟨_, _, pre16 _ ?_, hrun, hended, _, _, rfl, ?_, ⟨_, rfl⟩, hW, hsame.mono (by decide) (by decide)⟩
              · skip
                show Steps p.tables e below (s₁.setTop (mkF m 46 #[.val (.int p0)] [(.int (5 : Int32)), (.int p0)])) _
                refine XS.icmpNo X0.here hx rfl (hb hby d1_46) rfl (teq hc17).2 ?_
                show Steps p.tables e below (s₁.setTop (mkF m 49 #[.val (.int p0)] [])) _
                refine st18 _ ?_
                show Steps p.tables e below (T18.setTop (mkF m 52 #[.val (.int p0)] [(.ref (W 5))])) _
                jvm_step X18.here [X18.here.top, hx, (hb hby d1_52), X18.method', Bd.returns, Value.isRef, FieldType.isReference]
                first | (intro acts; rw [hr _ acts rfl rfl rfl]) | rw [hr _ _ rfl rfl rfl]
                exact Steps.refl _
              · show QR (.ref (W p0.toNatClampNeg)) h0 n0 _ T18.heap _
                rw [e18]
                exact ⟨(by rw [hc17]; rfl), N0, rfl⟩
            · skip
              have pre19 : ∀ t, Steps p.tables e below (s₁.setTop (mkF m 56 #[.val (.int p0)] [(.int (6 : Int32)), (.int p0)])) t → Steps p.tables e below (s₁.setTop (entryFrame m #[(.int p0)] 1)) t := by
                intro t kt
                refine pre16 t ?_
                show Steps p.tables e below (s₁.setTop (mkF m 46 #[.val (.int p0)] [(.int (5 : Int32)), (.int p0)])) _
                refine XS.icmpYes X0.here hx rfl (pc0 := 46) (pc' := 53) rfl (hb hby d1_46) rfl (feq hc17).2 (by decide) (by decide) ?_
                show Steps p.tables e below (s₁.setTop (mkF m 53 #[.val (.int p0)] [])) _
                refine XS.iloadN X0.here hx rfl (hb hby d1_53) rfl ?_
                show Steps p.tables e below (s₁.setTop (mkF m 54 #[.val (.int p0)] [(.int p0)])) _
                refine XS.bipush X0.here hx rfl (hb hby d1_54) ?_
                exact kt
              by_cases hc20 : p0 = (6 : Int32)
              · skip
                obtain ⟨T21, X21, e21, st21⟩ := getS2 X0 hx hZ hown (host := "") (Or.inl (hw _ (List.mem_of_getElem? (i := 31) rfl))) Via.refl e0 S_HOLDS (g := (mkF m 59 #[.val (.int p0)] [])) rfl (hb hby d1_59)
                obtain ⟨fs, hr, hrun, hended, hW, hsame⟩ := X21.leave (v := some (.ref (W 6))) (fun h => by rw [Bd.returns] at h; cases h)
                refine ⟨_, _, pre19 _ ?_, hrun, hended, _, _, rfl, ?_, ⟨_, rfl⟩, hW, hsame.mono (by decide) (by decide)⟩
                · skip
                  show Steps p.tables e below (s₁.setTop (mkF m 56 #[.val (.int p0)] [(.int (6 : Int32)), (.int p0)])) _
                  refine XS.icmpNo X0.here hx rfl (hb hby d1_56) rfl (teq hc20).2 ?_
                  show Steps p.tables e below (s₁.setTop (mkF m 59 #[.val (.int p0)] [])) _
                  refine st21 _ ?_
                  show Steps p.tables e below (T21.setTop (mkF m 62 #[.val (.int p0)] [(.ref (W 6))])) _
                  jvm_step X21.here [X21.here.top, hx, (hb hby d1_62), X21.method', Bd.returns, Value.isRef, FieldType.isReference]
                  first | (intro acts; rw [hr _ acts rfl rfl rfl]) | rw [hr _ _ rfl rfl rfl]
                  exact Steps.refl _
                · show QR (.ref (W p0.toNatClampNeg)) h0 n0 _ T21.heap _
                  rw [e21]
                  exact ⟨(by rw [hc20]; rfl), N0, rfl⟩
              · skip
                have pre22 : ∀ t, Steps p.tables e below (s₁.setTop (mkF m 66 #[.val (.int p0)] [(.int (7 : Int32)), (.int p0)])) t → Steps p.tables e below (s₁.setTop (entryFrame m #[(.int p0)] 1)) t := by
                  intro t kt
                  refine pre19 t ?_
                  show Steps p.tables e below (s₁.setTop (mkF m 56 #[.val (.int p0)] [(.int (6 : Int32)), (.int p0)])) _
                  refine XS.icmpYes X0.here hx rfl (pc0 := 56) (pc' := 63) rfl (hb hby d1_56) rfl (feq hc20).2 (by decide) (by decide) ?_
                  show Steps p.tables e below (s₁.setTop (mkF m 63 #[.val (.int p0)] [])) _
                  refine XS.iloadN X0.here hx rfl (hb hby d1_63) rfl ?_
                  show Steps p.tables e below (s₁.setTop (mkF m 64 #[.val (.int p0)] [(.int p0)])) _
                  refine XS.bipush X0.here hx rfl (hb hby d1_64) ?_
                  exact kt
                by_cases hc23 : p0 = (7 : Int32)
                · skip
                  obtain ⟨T24, X24, e24, st24⟩ := getS2 X0 hx hZ hown (host := "") (Or.inl (hw _ (List.mem_of_getElem? (i := 35) rfl))) Via.refl e0 S_ORDER (g := (mkF m 69 #[.val (.int p0)] [])) rfl (hb hby d1_69)
                  obtain ⟨fs, hr, hrun, hended, hW, hsame⟩ := X24.leave (v := some (.ref (W 7))) (fun h => by rw [Bd.returns] at h; cases h)
                  refine ⟨_, _, pre22 _ ?_, hrun, hended, _, _, rfl, ?_, ⟨_, rfl⟩, hW, hsame.mono (by decide) (by decide)⟩
                  · skip
                    show Steps p.tables e below (s₁.setTop (mkF m 66 #[.val (.int p0)] [(.int (7 : Int32)), (.int p0)])) _
                    refine XS.icmpNo X0.here hx rfl (hb hby d1_66) rfl (teq hc23).2 ?_
                    show Steps p.tables e below (s₁.setTop (mkF m 69 #[.val (.int p0)] [])) _
                    refine st24 _ ?_
                    show Steps p.tables e below (T24.setTop (mkF m 72 #[.val (.int p0)] [(.ref (W 7))])) _
                    jvm_step X24.here [X24.here.top, hx, (hb hby d1_72), X24.method', Bd.returns, Value.isRef, FieldType.isReference]
                    first | (intro acts; rw [hr _ acts rfl rfl rfl]) | rw [hr _ _ rfl rfl rfl]
                    exact Steps.refl _
                  · show QR (.ref (W p0.toNatClampNeg)) h0 n0 _ T24.heap _
                    rw [e24]
                    exact ⟨(by rw [hc23]; rfl), N0, rfl⟩
                · skip
                  have pre25 : ∀ t, Steps p.tables e below (s₁.setTop (mkF m 76 #[.val (.int p0)] [(.int (8 : Int32)), (.int p0)])) t → Steps p.tables e below (s₁.setTop (entryFrame m #[(.int p0)] 1)) t := by
                    intro t kt
                    refine pre22 t ?_
                    show Steps p.tables e below (s₁.setTop (mkF m 66 #[.val (.int p0)] [(.int (7 : Int32)), (.int p0)])) _
                    refine XS.icmpYes X0.here hx rfl (pc0 := 66) (pc' := 73) rfl (hb hby d1_66) rfl (feq hc23).2 (by decide) (by decide) ?_
                    show Steps p.tables e below (s₁.setTop (mkF m 73 #[.val (.int p0)] [])) _
                    refine XS.iloadN X0.here hx rfl (hb hby d1_73) rfl ?_
                    show Steps p.tables e below (s₁.setTop (mkF m 74 #[.val (.int p0)] [(.int p0)])) _
                    refine XS.bipush X0.here hx rfl (hb hby d1_74) ?_
                    exact kt
                  by_cases hc26 : p0 = (8 : Int32)
                  · skip
                    obtain ⟨T27, X27, e27, st27⟩ := getS2 X0 hx hZ hown (host := "") (Or.inl (hw _ (List.mem_of_getElem? (i := 42) rfl))) Via.refl e0 S_SUB_ORGANISATION (g := (mkF m 79 #[.val (.int p0)] [])) rfl (hb hby d1_79)
                    obtain ⟨fs, hr, hrun, hended, hW, hsame⟩ := X27.leave (v := some (.ref (W 8))) (fun h => by rw [Bd.returns] at h; cases h)
                    refine ⟨_, _, pre25 _ ?_, hrun, hended, _, _, rfl, ?_, ⟨_, rfl⟩, hW, hsame.mono (by decide) (by decide)⟩
                    · skip
                      show Steps p.tables e below (s₁.setTop (mkF m 76 #[.val (.int p0)] [(.int (8 : Int32)), (.int p0)])) _
                      refine XS.icmpNo X0.here hx rfl (hb hby d1_76) rfl (teq hc26).2 ?_
                      show Steps p.tables e below (s₁.setTop (mkF m 79 #[.val (.int p0)] [])) _
                      refine st27 _ ?_
                      show Steps p.tables e below (T27.setTop (mkF m 82 #[.val (.int p0)] [(.ref (W 8))])) _
                      jvm_step X27.here [X27.here.top, hx, (hb hby d1_82), X27.method', Bd.returns, Value.isRef, FieldType.isReference]
                      first | (intro acts; rw [hr _ acts rfl rfl rfl]) | rw [hr _ _ rfl rfl rfl]
                      exact Steps.refl _
                    · show QR (.ref (W p0.toNatClampNeg)) h0 n0 _ T27.heap _
                      rw [e27]
                      exact ⟨(by rw [hc26]; rfl), N0, rfl⟩
                  · skip
                    have pre28 : ∀ t, Steps p.tables e below (s₁.setTop (mkF m 86 #[.val (.int p0)] [(.int (9 : Int32)), (.int p0)])) t → Steps p.tables e below (s₁.setTop (entryFrame m #[(.int p0)] 1)) t := by
                      intro t kt
                      refine pre25 t ?_
                      show Steps p.tables e below (s₁.setTop (mkF m 76 #[.val (.int p0)] [(.int (8 : Int32)), (.int p0)])) _
                      refine XS.icmpYes X0.here hx rfl (pc0 := 76) (pc' := 83) rfl (hb hby d1_76) rfl (feq hc26).2 (by decide) (by decide) ?_
                      show Steps p.tables e below (s₁.setTop (mkF m 83 #[.val (.int p0)] [])) _
                      refine XS.iloadN X0.here hx rfl (hb hby d1_83) rfl ?_
                      show Steps p.tables e below (s₁.setTop (mkF m 84 #[.val (.int p0)] [(.int p0)])) _
                      refine XS.bipush X0.here hx rfl (hb hby d1_84) ?_
                      exact kt
                    by_cases hc29 : p0 = (9 : Int32)
                    · skip
                      obtain ⟨T30, X30, e30, st30⟩ := getS2 X0 hx hZ hown (host := "") (Or.inl (hw _ (List.mem_of_getElem? (i := 50) rfl))) Via.refl e0 S_SUB_ROLE (g := (mkF m 89 #[.val (.int p0)] [])) rfl (hb hby d1_89)
                      obtain ⟨fs, hr, hrun, hended, hW, hsame⟩ := X30.leave (v := some (.ref (W 9))) (fun h => by rw [Bd.returns] at h; cases h)
                      refine ⟨_, _, pre28 _ ?_, hrun, hended, _, _, rfl, ?_, ⟨_, rfl⟩, hW, hsame.mono (by decide) (by decide)⟩
                      · skip
                        show Steps p.tables e below (s₁.setTop (mkF m 86 #[.val (.int p0)] [(.int (9 : Int32)), (.int p0)])) _
                        refine XS.icmpNo X0.here hx rfl (hb hby d1_86) rfl (teq hc29).2 ?_
                        show Steps p.tables e below (s₁.setTop (mkF m 89 #[.val (.int p0)] [])) _
                        refine st30 _ ?_
                        show Steps p.tables e below (T30.setTop (mkF m 92 #[.val (.int p0)] [(.ref (W 9))])) _
                        jvm_step X30.here [X30.here.top, hx, (hb hby d1_92), X30.method', Bd.returns, Value.isRef, FieldType.isReference]
                        first | (intro acts; rw [hr _ acts rfl rfl rfl]) | rw [hr _ _ rfl rfl rfl]
                        exact Steps.refl _
                      · show QR (.ref (W p0.toNatClampNeg)) h0 n0 _ T30.heap _
                        rw [e30]
                        exact ⟨(by rw [hc29]; rfl), N0, rfl⟩
                    · skip
                      have pre31 : ∀ t, Steps p.tables e below (s₁.setTop (mkF m 96 #[.val (.int p0)] [(.int (10 : Int32)), (.int p0)])) t → Steps p.tables e below (s₁.setTop (entryFrame m #[(.int p0)] 1)) t := by
                        intro t kt
                        refine pre28 t ?_
                        show Steps p.tables e below (s₁.setTop (mkF m 86 #[.val (.int p0)] [(.int (9 : Int32)), (.int p0)])) _
                        refine XS.icmpYes X0.here hx rfl (pc0 := 86) (pc' := 93) rfl (hb hby d1_86) rfl (feq hc29).2 (by decide) (by decide) ?_
                        show Steps p.tables e below (s₁.setTop (mkF m 93 #[.val (.int p0)] [])) _
                        refine XS.iloadN X0.here hx rfl (hb hby d1_93) rfl ?_
                        show Steps p.tables e below (s₁.setTop (mkF m 94 #[.val (.int p0)] [(.int p0)])) _
                        refine XS.bipush X0.here hx rfl (hb hby d1_94) ?_
                        exact kt
                      by_cases hc32 : p0 = (10 : Int32)
                      · skip
                        obtain ⟨T33, X33, e33, st33⟩ := getS2 X0 hx hZ hown (host := "") (Or.inl (hw _ (List.mem_of_getElem? (i := 40) rfl))) Via.refl e0 S_SUB_VIEW (g := (mkF m 99 #[.val (.int p0)] [])) rfl (hb hby d1_99)
                        obtain ⟨fs, hr, hrun, hended, hW, hsame⟩ := X33.leave (v := some (.ref (W 10))) (fun h => by rw [Bd.returns] at h; cases h)
                        refine ⟨_, _, pre31 _ ?_, hrun, hended, _, _, rfl, ?_, ⟨_, rfl⟩, hW, hsame.mono (by decide) (by decide)⟩
                        · skip
                          show Steps p.tables e below (s₁.setTop (mkF m 96 #[.val (.int p0)] [(.int (10 : Int32)), (.int p0)])) _
                          refine XS.icmpNo X0.here hx rfl (hb hby d1_96) rfl (teq hc32).2 ?_
                          show Steps p.tables e below (s₁.setTop (mkF m 99 #[.val (.int p0)] [])) _
                          refine st33 _ ?_
                          show Steps p.tables e below (T33.setTop (mkF m 102 #[.val (.int p0)] [(.ref (W 10))])) _
                          jvm_step X33.here [X33.here.top, hx, (hb hby d1_102), X33.method', Bd.returns, Value.isRef, FieldType.isReference]
                          first | (intro acts; rw [hr _ acts rfl rfl rfl]) | rw [hr _ _ rfl rfl rfl]
                          exact Steps.refl _
                        · show QR (.ref (W p0.toNatClampNeg)) h0 n0 _ T33.heap _
                          rw [e33]
                          exact ⟨(by rw [hc32]; rfl), N0, rfl⟩
                      · skip
                        have pre34 : ∀ t, Steps p.tables e below (s₁.setTop (mkF m 106 #[.val (.int p0)] [(.int (11 : Int32)), (.int p0)])) t → Steps p.tables e below (s₁.setTop (entryFrame m #[(.int p0)] 1)) t := by
                          intro t kt
                          refine pre31 t ?_
                          show Steps p.tables e below (s₁.setTop (mkF m 96 #[.val (.int p0)] [(.int (10 : Int32)), (.int p0)])) _
                          refine XS.icmpYes X0.here hx rfl (pc0 := 96) (pc' := 103) rfl (hb hby d1_96) rfl (feq hc32).2 (by decide) (by decide) ?_
                          show Steps p.tables e below (s₁.setTop (mkF m 103 #[.val (.int p0)] [])) _
                          refine XS.iloadN X0.here hx rfl (hb hby d1_103) rfl ?_
                          show Steps p.tables e below (s₁.setTop (mkF m 104 #[.val (.int p0)] [(.int p0)])) _
                          refine XS.bipush X0.here hx rfl (hb hby d1_104) ?_
                          exact kt
                        by_cases hc35 : p0 = (11 : Int32)
                        · skip
                          obtain ⟨T36, X36, e36, st36⟩ := getS2 X0 hx hZ hown (host := "") (Or.inl (hw _ (List.mem_of_getElem? (i := 33) rfl))) Via.refl e0 S_SUB_ACTIVITY (g := (mkF m 109 #[.val (.int p0)] [])) rfl (hb hby d1_109)
                          obtain ⟨fs, hr, hrun, hended, hW, hsame⟩ := X36.leave (v := some (.ref (W 11))) (fun h => by rw [Bd.returns] at h; cases h)
                          refine ⟨_, _, pre34 _ ?_, hrun, hended, _, _, rfl, ?_, ⟨_, rfl⟩, hW, hsame.mono (by decide) (by decide)⟩
                          · skip
                            show Steps p.tables e below (s₁.setTop (mkF m 106 #[.val (.int p0)] [(.int (11 : Int32)), (.int p0)])) _
                            refine XS.icmpNo X0.here hx rfl (hb hby d1_106) rfl (teq hc35).2 ?_
                            show Steps p.tables e below (s₁.setTop (mkF m 109 #[.val (.int p0)] [])) _
                            refine st36 _ ?_
                            show Steps p.tables e below (T36.setTop (mkF m 112 #[.val (.int p0)] [(.ref (W 11))])) _
                            jvm_step X36.here [X36.here.top, hx, (hb hby d1_112), X36.method', Bd.returns, Value.isRef, FieldType.isReference]
                            first | (intro acts; rw [hr _ acts rfl rfl rfl]) | rw [hr _ _ rfl rfl rfl]
                            exact Steps.refl _
                          · show QR (.ref (W p0.toNatClampNeg)) h0 n0 _ T36.heap _
                            rw [e36]
                            exact ⟨(by rw [hc35]; rfl), N0, rfl⟩
                        · skip
                          have pre37 : ∀ t, Steps p.tables e below (s₁.setTop (mkF m 116 #[.val (.int p0)] [(.int (12 : Int32)), (.int p0)])) t → Steps p.tables e below (s₁.setTop (entryFrame m #[(.int p0)] 1)) t := by
                            intro t kt
                            refine pre34 t ?_
                            show Steps p.tables e below (s₁.setTop (mkF m 106 #[.val (.int p0)] [(.int (11 : Int32)), (.int p0)])) _
                            refine XS.icmpYes X0.here hx rfl (pc0 := 106) (pc' := 113) rfl (hb hby d1_106) rfl (feq hc35).2 (by decide) (by decide) ?_
                            show Steps p.tables e below (s₁.setTop (mkF m 113 #[.val (.int p0)] [])) _
                            refine XS.iloadN X0.here hx rfl (hb hby d1_113) rfl ?_
                            show Steps p.tables e below (s₁.setTop (mkF m 114 #[.val (.int p0)] [(.int p0)])) _
                            refine XS.bipush X0.here hx rfl (hb hby d1_114) ?_
                            exact kt
                          by_cases hc38 : p0 = (12 : Int32)
                          · skip
                            obtain ⟨T39, X39, e39, st39⟩ := getS2 X0 hx hZ hown (host := "") (Or.inl (hw _ (List.mem_of_getElem? (i := 63) rfl))) Via.refl e0 S_SUB_CONTEXT (g := (mkF m 119 #[.val (.int p0)] [])) rfl (hb hby d1_119)
                            obtain ⟨fs, hr, hrun, hended, hW, hsame⟩ := X39.leave (v := some (.ref (W 12))) (fun h => by rw [Bd.returns] at h; cases h)
                            refine ⟨_, _, pre37 _ ?_, hrun, hended, _, _, rfl, ?_, ⟨_, rfl⟩, hW, hsame.mono (by decide) (by decide)⟩
                            · skip
                              show Steps p.tables e below (s₁.setTop (mkF m 116 #[.val (.int p0)] [(.int (12 : Int32)), (.int p0)])) _
                              refine XS.icmpNo X0.here hx rfl (hb hby d1_116) rfl (teq hc38).2 ?_
                              show Steps p.tables e below (s₁.setTop (mkF m 119 #[.val (.int p0)] [])) _
                              refine st39 _ ?_
                              show Steps p.tables e below (T39.setTop (mkF m 122 #[.val (.int p0)] [(.ref (W 12))])) _
                              jvm_step X39.here [X39.here.top, hx, (hb hby d1_122), X39.method', Bd.returns, Value.isRef, FieldType.isReference]
                              first | (intro acts; rw [hr _ acts rfl rfl rfl]) | rw [hr _ _ rfl rfl rfl]
                              exact Steps.refl _
                            · show QR (.ref (W p0.toNatClampNeg)) h0 n0 _ T39.heap _
                              rw [e39]
                              exact ⟨(by rw [hc38]; rfl), N0, rfl⟩
                          · skip
                            have pre40 : ∀ t, Steps p.tables e below (s₁.setTop (mkF m 126 #[.val (.int p0)] [(.int (13 : Int32)), (.int p0)])) t → Steps p.tables e below (s₁.setTop (entryFrame m #[(.int p0)] 1)) t := by
                              intro t kt
                              refine pre37 t ?_
                              show Steps p.tables e below (s₁.setTop (mkF m 116 #[.val (.int p0)] [(.int (12 : Int32)), (.int p0)])) _
                              refine XS.icmpYes X0.here hx rfl (pc0 := 116) (pc' := 123) rfl (hb hby d1_116) rfl (feq hc38).2 (by decide) (by decide) ?_
                              show Steps p.tables e below (s₁.setTop (mkF m 123 #[.val (.int p0)] [])) _
                              refine XS.iloadN X0.here hx rfl (hb hby d1_123) rfl ?_
                              show Steps p.tables e below (s₁.setTop (mkF m 124 #[.val (.int p0)] [(.int p0)])) _
                              refine XS.bipush X0.here hx rfl (hb hby d1_124) ?_
                              exact kt
                            by_cases hc41 : p0 = (13 : Int32)
                            · skip
                              obtain ⟨T42, X42, e42, st42⟩ := getS2 X0 hx hZ hown (host := "") (Or.inl (hw _ (List.mem_of_getElem? (i := 29) rfl))) Via.refl e0 S_PREFER_ROLE (g := (mkF m 129 #[.val (.int p0)] [])) rfl (hb hby d1_129)
                              obtain ⟨fs, hr, hrun, hended, hW, hsame⟩ := X42.leave (v := some (.ref (W 13))) (fun h => by rw [Bd.returns] at h; cases h)
                              refine ⟨_, _, pre40 _ ?_, hrun, hended, _, _, rfl, ?_, ⟨_, rfl⟩, hW, hsame.mono (by decide) (by decide)⟩
                              · skip
                                show Steps p.tables e below (s₁.setTop (mkF m 126 #[.val (.int p0)] [(.int (13 : Int32)), (.int p0)])) _
                                refine XS.icmpNo X0.here hx rfl (hb hby d1_126) rfl (teq hc41).2 ?_
                                show Steps p.tables e below (s₁.setTop (mkF m 129 #[.val (.int p0)] [])) _
                                refine st42 _ ?_
                                show Steps p.tables e below (T42.setTop (mkF m 132 #[.val (.int p0)] [(.ref (W 13))])) _
                                jvm_step X42.here [X42.here.top, hx, (hb hby d1_132), X42.method', Bd.returns, Value.isRef, FieldType.isReference]
                                first | (intro acts; rw [hr _ acts rfl rfl rfl]) | rw [hr _ _ rfl rfl rfl]
                                exact Steps.refl _
                              · show QR (.ref (W p0.toNatClampNeg)) h0 n0 _ T42.heap _
                                rw [e42]
                                exact ⟨(by rw [hc41]; rfl), N0, rfl⟩
                            · skip
                              have pre43 : ∀ t, Steps p.tables e below (s₁.setTop (mkF m 136 #[.val (.int p0)] [(.int (14 : Int32)), (.int p0)])) t → Steps p.tables e below (s₁.setTop (entryFrame m #[(.int p0)] 1)) t := by
                                intro t kt
                                refine pre40 t ?_
                                show Steps p.tables e below (s₁.setTop (mkF m 126 #[.val (.int p0)] [(.int (13 : Int32)), (.int p0)])) _
                                refine XS.icmpYes X0.here hx rfl (pc0 := 126) (pc' := 133) rfl (hb hby d1_126) rfl (feq hc41).2 (by decide) (by decide) ?_
                                show Steps p.tables e below (s₁.setTop (mkF m 133 #[.val (.int p0)] [])) _
                                refine XS.iloadN X0.here hx rfl (hb hby d1_133) rfl ?_
                                show Steps p.tables e below (s₁.setTop (mkF m 134 #[.val (.int p0)] [(.int p0)])) _
                                refine XS.bipush X0.here hx rfl (hb hby d1_134) ?_
                                exact kt
                              by_cases hc44 : p0 = (14 : Int32)
                              · skip
                                obtain ⟨T45, X45, e45, st45⟩ := getS2 X0 hx hZ hown (host := "") (Or.inl (hw _ (List.mem_of_getElem? (i := 46) rfl))) Via.refl e0 S_PREFER_CONTEXT (g := (mkF m 139 #[.val (.int p0)] [])) rfl (hb hby d1_139)
                                obtain ⟨fs, hr, hrun, hended, hW, hsame⟩ := X45.leave (v := some (.ref (W 14))) (fun h => by rw [Bd.returns] at h; cases h)
                                refine ⟨_, _, pre43 _ ?_, hrun, hended, _, _, rfl, ?_, ⟨_, rfl⟩, hW, hsame.mono (by decide) (by decide)⟩
                                · skip
                                  show Steps p.tables e below (s₁.setTop (mkF m 136 #[.val (.int p0)] [(.int (14 : Int32)), (.int p0)])) _
                                  refine XS.icmpNo X0.here hx rfl (hb hby d1_136) rfl (teq hc44).2 ?_
                                  show Steps p.tables e below (s₁.setTop (mkF m 139 #[.val (.int p0)] [])) _
                                  refine st45 _ ?_
                                  show Steps p.tables e below (T45.setTop (mkF m 142 #[.val (.int p0)] [(.ref (W 14))])) _
                                  jvm_step X45.here [X45.here.top, hx, (hb hby d1_142), X45.method', Bd.returns, Value.isRef, FieldType.isReference]
                                  first | (intro acts; rw [hr _ acts rfl rfl rfl]) | rw [hr _ _ rfl rfl rfl]
                                  exact Steps.refl _
                                · show QR (.ref (W p0.toNatClampNeg)) h0 n0 _ T45.heap _
                                  rw [e45]
                                  exact ⟨(by rw [hc44]; rfl), N0, rfl⟩
                              · skip
                                have pre46 : ∀ t, Steps p.tables e below (s₁.setTop (mkF m 146 #[.val (.int p0)] [(.int (15 : Int32)), (.int p0)])) t → Steps p.tables e below (s₁.setTop (entryFrame m #[(.int p0)] 1)) t := by
                                  intro t kt
                                  refine pre43 t ?_
                                  show Steps p.tables e below (s₁.setTop (mkF m 136 #[.val (.int p0)] [(.int (14 : Int32)), (.int p0)])) _
                                  refine XS.icmpYes X0.here hx rfl (pc0 := 136) (pc' := 143) rfl (hb hby d1_136) rfl (feq hc44).2 (by decide) (by decide) ?_
                                  show Steps p.tables e below (s₁.setTop (mkF m 143 #[.val (.int p0)] [])) _
                                  refine XS.iloadN X0.here hx rfl (hb hby d1_143) rfl ?_
                                  show Steps p.tables e below (s₁.setTop (mkF m 144 #[.val (.int p0)] [(.int p0)])) _
                                  refine XS.bipush X0.here hx rfl (hb hby d1_144) ?_
                                  exact kt
                                by_cases hc47 : p0 = (15 : Int32)
                                · skip
                                  obtain ⟨T48, X48, e48, st48⟩ := getS2 X0 hx hZ hown (host := "") (Or.inl (hw _ (List.mem_of_getElem? (i := 48) rfl))) Via.refl e0 S_PREFER_VIEW (g := (mkF m 149 #[.val (.int p0)] [])) rfl (hb hby d1_149)
                                  obtain ⟨fs, hr, hrun, hended, hW, hsame⟩ := X48.leave (v := some (.ref (W 15))) (fun h => by rw [Bd.returns] at h; cases h)
                                  refine ⟨_, _, pre46 _ ?_, hrun, hended, _, _, rfl, ?_, ⟨_, rfl⟩, hW, hsame.mono (by decide) (by decide)⟩
                                  · skip
                                    show Steps p.tables e below (s₁.setTop (mkF m 146 #[.val (.int p0)] [(.int (15 : Int32)), (.int p0)])) _
                                    refine XS.icmpNo X0.here hx rfl (hb hby d1_146) rfl (teq hc47).2 ?_
                                    show Steps p.tables e below (s₁.setTop (mkF m 149 #[.val (.int p0)] [])) _
                                    refine st48 _ ?_
                                    show Steps p.tables e below (T48.setTop (mkF m 152 #[.val (.int p0)] [(.ref (W 15))])) _
                                    jvm_step X48.here [X48.here.top, hx, (hb hby d1_152), X48.method', Bd.returns, Value.isRef, FieldType.isReference]
                                    first | (intro acts; rw [hr _ acts rfl rfl rfl]) | rw [hr _ _ rfl rfl rfl]
                                    exact Steps.refl _
                                  · show QR (.ref (W p0.toNatClampNeg)) h0 n0 _ T48.heap _
                                    rw [e48]
                                    exact ⟨(by rw [hc47]; rfl), N0, rfl⟩
                                · skip
                                  have pre49 : ∀ t, Steps p.tables e below (s₁.setTop (mkF m 156 #[.val (.int p0)] [(.int (16 : Int32)), (.int p0)])) t → Steps p.tables e below (s₁.setTop (entryFrame m #[(.int p0)] 1)) t := by
                                    intro t kt
                                    refine pre46 t ?_
                                    show Steps p.tables e below (s₁.setTop (mkF m 146 #[.val (.int p0)] [(.int (15 : Int32)), (.int p0)])) _
                                    refine XS.icmpYes X0.here hx rfl (pc0 := 146) (pc' := 153) rfl (hb hby d1_146) rfl (feq hc47).2 (by decide) (by decide) ?_
                                    show Steps p.tables e below (s₁.setTop (mkF m 153 #[.val (.int p0)] [])) _
                                    refine XS.iloadN X0.here hx rfl (hb hby d1_153) rfl ?_
                                    show Steps p.tables e below (s₁.setTop (mkF m 154 #[.val (.int p0)] [(.int p0)])) _
                                    refine XS.bipush X0.here hx rfl (hb hby d1_154) ?_
                                    exact kt
                                  by_cases hc50 : p0 = (16 : Int32)
                                  · skip
                                    obtain ⟨T51, X51, e51, st51⟩ := getS2 X0 hx hZ hown (host := "") (Or.inl (hw _ (List.mem_of_getElem? (i := 55) rfl))) Via.refl e0 S_PREFER_ACTIVITY (g := (mkF m 159 #[.val (.int p0)] [])) rfl (hb hby d1_159)
                                    obtain ⟨fs, hr, hrun, hended, hW, hsame⟩ := X51.leave (v := some (.ref (W 16))) (fun h => by rw [Bd.returns] at h; cases h)
                                    refine ⟨_, _, pre49 _ ?_, hrun, hended, _, _, rfl, ?_, ⟨_, rfl⟩, hW, hsame.mono (by decide) (by decide)⟩
                                    · skip
                                      show Steps p.tables e below (s₁.setTop (mkF m 156 #[.val (.int p0)] [(.int (16 : Int32)), (.int p0)])) _
                                      refine XS.icmpNo X0.here hx rfl (hb hby d1_156) rfl (teq hc50).2 ?_
                                      show Steps p.tables e below (s₁.setTop (mkF m 159 #[.val (.int p0)] [])) _
                                      refine st51 _ ?_
                                      show Steps p.tables e below (T51.setTop (mkF m 162 #[.val (.int p0)] [(.ref (W 16))])) _
                                      jvm_step X51.here [X51.here.top, hx, (hb hby d1_162), X51.method', Bd.returns, Value.isRef, FieldType.isReference]
                                      first | (intro acts; rw [hr _ acts rfl rfl rfl]) | rw [hr _ _ rfl rfl rfl]
                                      exact Steps.refl _
                                    · show QR (.ref (W p0.toNatClampNeg)) h0 n0 _ T51.heap _
                                      rw [e51]
                                      exact ⟨(by rw [hc50]; rfl), N0, rfl⟩
                                  · skip
                                    have pre52 : ∀ t, Steps p.tables e below (s₁.setTop (mkF m 166 #[.val (.int p0)] [(.int (17 : Int32)), (.int p0)])) t → Steps p.tables e below (s₁.setTop (entryFrame m #[(.int p0)] 1)) t := by
                                      intro t kt
                                      refine pre49 t ?_
                                      show Steps p.tables e below (s₁.setTop (mkF m 156 #[.val (.int p0)] [(.int (16 : Int32)), (.int p0)])) _
                                      refine XS.icmpYes X0.here hx rfl (pc0 := 156) (pc' := 163) rfl (hb hby d1_156) rfl (feq hc50).2 (by decide) (by decide) ?_
                                      show Steps p.tables e below (s₁.setTop (mkF m 163 #[.val (.int p0)] [])) _
                                      refine XS.iloadN X0.here hx rfl (hb hby d1_163) rfl ?_
                                      show Steps p.tables e below (s₁.setTop (mkF m 164 #[.val (.int p0)] [(.int p0)])) _
                                      refine XS.bipush X0.here hx rfl (hb hby d1_164) ?_
                                      exact kt
                                    by_cases hc53 : p0 = (17 : Int32)
                                    · skip
                                      obtain ⟨T54, X54, e54, st54⟩ := getS2 X0 hx hZ hown (host := "") (Or.inl (hw _ (List.mem_of_getElem? (i := 57) rfl))) Via.refl e0 S_SEPARATED_ROLE (g := (mkF m 169 #[.val (.int p0)] [])) rfl (hb hby d1_169)
                                      obtain ⟨fs, hr, hrun, hended, hW, hsame⟩ := X54.leave (v := some (.ref (W 17))) (fun h => by rw [Bd.returns] at h; cases h)
                                      refine ⟨_, _, pre52 _ ?_, hrun, hended, _, _, rfl, ?_, ⟨_, rfl⟩, hW, hsame.mono (by decide) (by decide)⟩
                                      · skip
                                        show Steps p.tables e below (s₁.setTop (mkF m 166 #[.val (.int p0)] [(.int (17 : Int32)), (.int p0)])) _
                                        refine XS.icmpNo X0.here hx rfl (hb hby d1_166) rfl (teq hc53).2 ?_
                                        show Steps p.tables e below (s₁.setTop (mkF m 169 #[.val (.int p0)] [])) _
                                        refine st54 _ ?_
                                        show Steps p.tables e below (T54.setTop (mkF m 172 #[.val (.int p0)] [(.ref (W 17))])) _
                                        jvm_step X54.here [X54.here.top, hx, (hb hby d1_172), X54.method', Bd.returns, Value.isRef, FieldType.isReference]
                                        first | (intro acts; rw [hr _ acts rfl rfl rfl]) | rw [hr _ _ rfl rfl rfl]
                                        exact Steps.refl _
                                      · show QR (.ref (W p0.toNatClampNeg)) h0 n0 _ T54.heap _
                                        rw [e54]
                                        exact ⟨(by rw [hc53]; rfl), N0, rfl⟩
                                    · skip
                                      have pre55 : ∀ t, Steps p.tables e below (s₁.setTop (mkF m 176 #[.val (.int p0)] [(.int (18 : Int32)), (.int p0)])) t → Steps p.tables e below (s₁.setTop (entryFrame m #[(.int p0)] 1)) t := by
                                        intro t kt
                                        refine pre52 t ?_
                                        show Steps p.tables e below (s₁.setTop (mkF m 166 #[.val (.int p0)] [(.int (17 : Int32)), (.int p0)])) _
                                        refine XS.icmpYes X0.here hx rfl (pc0 := 166) (pc' := 173) rfl (hb hby d1_166) rfl (feq hc53).2 (by decide) (by decide) ?_
                                        show Steps p.tables e below (s₁.setTop (mkF m 173 #[.val (.int p0)] [])) _
                                        refine XS.iloadN X0.here hx rfl (hb hby d1_173) rfl ?_
                                        show Steps p.tables e below (s₁.setTop (mkF m 174 #[.val (.int p0)] [(.int p0)])) _
                                        refine XS.bipush X0.here hx rfl (hb hby d1_174) ?_
                                        exact kt
                                      by_cases hc56 : p0 = (18 : Int32)
                                      · skip
                                        obtain ⟨T57, X57, e57, st57⟩ := getS2 X0 hx hZ hown (host := "") (Or.inl (hw _ (List.mem_of_getElem? (i := 65) rfl))) Via.refl e0 S_SEPARATED_VIEW (g := (mkF m 179 #[.val (.int p0)] [])) rfl (hb hby d1_179)
                                        obtain ⟨fs, hr, hrun, hended, hW, hsame⟩ := X57.leave (v := some (.ref (W 18))) (fun h => by rw [Bd.returns] at h; cases h)
                                        refine ⟨_, _, pre55 _ ?_, hrun, hended, _, _, rfl, ?_, ⟨_, rfl⟩, hW, hsame.mono (by decide) (by decide)⟩
                                        · skip
                                          show Steps p.tables e below (s₁.setTop (mkF m 176 #[.val (.int p0)] [(.int (18 : Int32)), (.int p0)])) _
                                          refine XS.icmpNo X0.here hx rfl (hb hby d1_176) rfl (teq hc56).2 ?_
                                          show Steps p.tables e below (s₁.setTop (mkF m 179 #[.val (.int p0)] [])) _
                                          refine st57 _ ?_
                                          show Steps p.tables e below (T57.setTop (mkF m 182 #[.val (.int p0)] [(.ref (W 18))])) _
                                          jvm_step X57.here [X57.here.top, hx, (hb hby d1_182), X57.method', Bd.returns, Value.isRef, FieldType.isReference]
                                          first | (intro acts; rw [hr _ acts rfl rfl rfl]) | rw [hr _ _ rfl rfl rfl]
                                          exact Steps.refl _
                                        · show QR (.ref (W p0.toNatClampNeg)) h0 n0 _ T57.heap _
                                          rw [e57]
                                          exact ⟨(by rw [hc56]; rfl), N0, rfl⟩
                                      · skip
                                        have pre58 : ∀ t, Steps p.tables e below (s₁.setTop (mkF m 186 #[.val (.int p0)] [(.int (19 : Int32)), (.int p0)])) t → Steps p.tables e below (s₁.setTop (entryFrame m #[(.int p0)] 1)) t := by
                                          intro t kt
                                          refine pre55 t ?_
                                          show Steps p.tables e below (s₁.setTop (mkF m 176 #[.val (.int p0)] [(.int (18 : Int32)), (.int p0)])) _
                                          refine XS.icmpYes X0.here hx rfl (pc0 := 176) (pc' := 183) rfl (hb hby d1_176) rfl (feq hc56).2 (by decide) (by decide) ?_
                                          show Steps p.tables e below (s₁.setTop (mkF m 183 #[.val (.int p0)] [])) _
                                          refine XS.iloadN X0.here hx rfl (hb hby d1_183) rfl ?_
                                          show Steps p.tables e below (s₁.setTop (mkF m 184 #[.val (.int p0)] [(.int p0)])) _
                                          refine XS.bipush X0.here hx rfl (hb hby d1_184) ?_
                                          exact kt
                                        by_cases hc59 : p0 = (19 : Int32)
                                        · skip
                                          obtain ⟨T60, X60, e60, st60⟩ := getS2 X0 hx hZ hown (host := "") (Or.inl (hw _ (List.mem_of_getElem? (i := 52) rfl))) Via.refl e0 S_SEPARATED_ACTIVITY (g := (mkF m 189 #[.val (.int p0)] [])) rfl (hb hby d1_189)
                                          obtain ⟨fs, hr, hrun, hended, hW, hsame⟩ := X60.leave (v := some (.ref (W 19))) (fun h => by rw [Bd.returns] at h; cases h)
                                          refine ⟨_, _, pre58 _ ?_, hrun, hended, _, _, rfl, ?_, ⟨_, rfl⟩, hW, hsame.mono (by decide) (by decide)⟩
                                          · skip
                                            show Steps p.tables e below (s₁.setTop (mkF m 186 #[.val (.int p0)] [(.int (19 : Int32)), (.int p0)])) _
                                            refine XS.icmpNo X0.here hx rfl (hb hby d1_186) rfl (teq hc59).2 ?_
                                            show Steps p.tables e below (s₁.setTop (mkF m 189 #[.val (.int p0)] [])) _
                                            refine st60 _ ?_
                                            show Steps p.tables e below (T60.setTop (mkF m 192 #[.val (.int p0)] [(.ref (W 19))])) _
                                            jvm_step X60.here [X60.here.top, hx, (hb hby d1_192), X60.method', Bd.returns, Value.isRef, FieldType.isReference]
                                            first | (intro acts; rw [hr _ acts rfl rfl rfl]) | rw [hr _ _ rfl rfl rfl]
                                            exact Steps.refl _
                                          · show QR (.ref (W p0.toNatClampNeg)) h0 n0 _ T60.heap _
                                            rw [e60]
                                            exact ⟨(by rw [hc59]; rfl), N0, rfl⟩
                                        · skip
                                          obtain ⟨T61, X61, e61, st61⟩ := getS2 X0 hx hZ hown (host := "") (Or.inl (hw _ (List.mem_of_getElem? (i := 59) rfl))) Via.refl e0 S_SEPARATED_CONTEXT (g := (mkF m 193 #[.val (.int p0)] [])) rfl (hb hby d1_193)
                                          obtain ⟨fs, hr, hrun, hended, hW, hsame⟩ := X61.leave (v := some (.ref (W 20))) (fun h => by rw [Bd.returns] at h; cases h)
                                          refine ⟨_, _, pre58 _ ?_, hrun, hended, _, _, rfl, ?_, ⟨_, rfl⟩, hW, hsame.mono (by decide) (by decide)⟩
                                          · skip
                                            show Steps p.tables e below (s₁.setTop (mkF m 186 #[.val (.int p0)] [(.int (19 : Int32)), (.int p0)])) _
                                            refine XS.icmpYes X0.here hx rfl (pc0 := 186) (pc' := 193) rfl (hb hby d1_186) rfl (feq hc59).2 (by decide) (by decide) ?_
                                            show Steps p.tables e below (s₁.setTop (mkF m 193 #[.val (.int p0)] [])) _
                                            refine st61 _ ?_
                                            show Steps p.tables e below (T61.setTop (mkF m 196 #[.val (.int p0)] [(.ref (W 20))])) _
                                            jvm_step X61.here [X61.here.top, hx, (hb hby d1_196), X61.method', Bd.returns, Value.isRef, FieldType.isReference]
                                            first | (intro acts; rw [hr _ acts rfl rfl rfl]) | rw [hr _ _ rfl rfl rfl]
                                            exact Steps.refl _
                                          · show QR (.ref (W p0.toNatClampNeg)) h0 n0 _ T61.heap _
                                            rw [e61]
                                            have t0 := own_nei hc2 (z := 0) rfl
                                            have t1 := own_nei hc5 (z := 1) rfl
                                            have t2 := own_nei hc8 (z := 2) rfl
                                            have t3 := own_nei hc11 (z := 3) rfl
                                            have t4 := own_nei hc14 (z := 4) rfl
                                            have t5 := own_nei hc17 (z := 5) rfl
                                            have t6 := own_nei hc20 (z := 6) rfl
                                            have t7 := own_nei hc23 (z := 7) rfl
                                            have t8 := own_nei hc26 (z := 8) rfl
                                            have t9 := own_nei hc29 (z := 9) rfl
                                            have t10 := own_nei hc32 (z := 10) rfl
                                            have t11 := own_nei hc35 (z := 11) rfl
                                            have t12 := own_nei hc38 (z := 12) rfl
                                            have t13 := own_nei hc41 (z := 13) rfl
                                            have t14 := own_nei hc44 (z := 14) rfl
                                            have t15 := own_nei hc47 (z := 15) rfl
                                            have t16 := own_nei hc50 (z := 16) rfl
                                            have t17 := own_nei hc53 (z := 17) rfl
                                            have t18 := own_nei hc56 (z := 18) rfl
                                            have t19 := own_nei hc59 (z := 19) rfl
                                            have hl : p0 = (20 : Int32) := own_eqi (z := 20) (by omega) rfl
                                            exact ⟨(by rw [hl]; rfl), N0, rfl⟩
theorem d2_0 : decode prog_18_method_11_code 0 = .ok (.aload_n 0, 1) := by decide +kernel
theorem d2_1 : decode prog_18_method_11_code 1 = .ok (.getfield 90, 3) := by decide +kernel
theorem d2_4 : decode prog_18_method_11_code 4 = .ok (.getstatic 143, 3) := by decide +kernel
theorem d2_7 : decode prog_18_method_11_code 7 = .ok (.if_acmp .eq 13, 3) := by decide +kernel
theorem d2_20 : decode prog_18_method_11_code 20 = .ok (.iconst 1, 1) := by decide +kernel
theorem d2_21 : decode prog_18_method_11_code 21 = .ok (.goto 4, 3) := by decide +kernel
theorem d2_25 : decode prog_18_method_11_code 25 = .ok (.ireturn, 1) := by decide +kernel
theorem d2_10 : decode prog_18_method_11_code 10 = .ok (.aload_n 0, 1) := by decide +kernel
theorem d2_11 : decode prog_18_method_11_code 11 = .ok (.getfield 90, 3) := by decide +kernel
theorem d2_14 : decode prog_18_method_11_code 14 = .ok (.getstatic 146, 3) := by decide +kernel
theorem d2_17 : decode prog_18_method_11_code 17 = .ok (.if_acmp .ne 7, 3) := by decide +kernel
theorem d2_24 : decode prog_18_method_11_code 24 = .ok (.iconst 0, 1) := by decide +kernel
theorem pn_2 : plainName "com/example/forbid_or_permit/forbidorpermit/Kind" = true := by first | (simp [plainName, overriddenIn]; done) | decide +kernel
theorem ef_rm2 (m : MethodId) (x0 : Addr) : entryFrame m #[(.ref x0)] 1 = mkF m 0 #[.val (.ref x0)] [] := by first | (simp [entryFrame, mkF, argsToLocals, Value.category]; done) | rfl
set_option maxRecDepth 65536 in
set_option maxHeartbeats 40000000 in
theorem rm2 (l : Launch) (Z : State) (a0 : Array Value) (hw : ∀ d ∈ tables_1, d.before a0 Z = true) (ws : List Jvm.Cond) (o0 : Addr) (r : Int32) (c0 cH cP : Addr) (h0 : Heap) (n0 : Nat) (Z0 : n0 ≤ h0.size) (S_H : Sta Z h0 "com/example/forbid_or_permit/forbidorpermit/Kind$Category" "HIERARCHY" "Lcom/example/forbid_or_permit/forbidorpermit/Kind$Category;" (.ref cH)) (S_P : Sta Z h0 "com/example/forbid_or_permit/forbidorpermit/Kind$Category" "PREFERENCE" "Lcom/example/forbid_or_permit/forbidorpermit/Kind$Category;" (.ref cP)) (F_a : Fld Z h0 o0 "com/example/forbid_or_permit/forbidorpermit/Kind" "category" "Lcom/example/forbid_or_permit/forbidorpermit/Kind$Category;" (.ref c0)) (hr0 : r = if c0 = cH ∨ c0 = cP then 1 else 0) :
    MetFree l (⟨"com/example/forbid_or_permit/forbidorpermit/Kind", "links", "()Z"⟩ : MethodName) (head1 (Jvm.Cond.code (⟨"com/example/forbid_or_permit/forbidorpermit/Kind", "links", "()Z"⟩ : MethodName) prog_18_method_11_code 1 (some .boolean) :: ws) ({ frames := 0, cells := 0, slots := 0, locals := 0 } : Room)) (fun a U => a = #[(.ref o0)] ∧ Z.Warmed39 U.vm ∧ U.heap = h0) (fun _ _ _ _ _ => True) (fun _ U o U' => ∃ v L, o = .returned v ∧ QR (.int r) h0 n0 v U'.heap L ∧ FrameEnd U o U' L ({ frames := 0, cells := 0, slots := 0, locals := 0 } : Room).cells ({ frames := 0, cells := 0, slots := 0, locals := 0 } : Room).slots) := by
  refine MetFree.of_bodySF (plainFor_of_name pn_2) hisR ?_
  intro p e s m args below meth c s₁ Bd hml0 hP hK
  obtain ⟨rfl, hZ, hh⟩ := hP
  have hx := Bd.exec
  have hby := Bd.bytes
  have hml : c.maxLocals = 1 := hml0
  have hown : s.vm.findClass "com/example/forbid_or_permit/forbidorpermit/Kind" = some m.cls := findClass_of_methodNamed Bd.named
  have hnm := (name_of_methodNamed Bd.named Bd.method).1
  have X0 : Stand p l e ({ frames := 0, cells := 0, slots := 0, locals := 0 } : Room) s m #[(.ref o0)] below meth c s₁ [] 0 0 := Stand.of_body Bd
  have e0 : s₁.heap = h0 := by rw [← hh, Bd.state]; rfl
  have N0 := Fr.nil n0
  have pre0 : ∀ t, Steps p.tables e below (s₁.setTop (mkF m 0 #[.val (.ref o0)] [])) t → Steps p.tables e below (s₁.setTop (entryFrame m #[(.ref o0)] 1)) t := fun t k => castTop (ef_rm2 m o0) k
  obtain ⟨T1, X1, e1, st1⟩ := getF X0 hx hZ hown (host := "") (Or.inl (hw _ (List.mem_of_getElem? (i := 13) rfl))) Via.refl e0 F_a (g := (mkF m 1 #[.val (.ref o0)] [(.ref o0)])) rfl rfl (hb hby d2_1)
  obtain ⟨T2, X2, e2, st2⟩ := getS2 X1 hx hZ hown (host := "") (Or.inl (hw _ (List.mem_of_getElem? (i := 17) rfl))) Via.refl e1 S_H (g := (mkF m 4 #[.val (.ref o0)] [(.ref c0)])) rfl (hb hby d2_4)
  have pre3 : ∀ t, Steps p.tables e below (T2.setTop (mkF m 7 #[.val (.ref o0)] [(.ref cH), (.ref c0)])) t → Steps p.tables e below (s₁.setTop (entryFrame m #[(.ref o0)] 1)) t := by
    intro t kt
    refine pre0 t ?_
    show Steps p.tables e below (s₁.setTop (mkF m 0 #[.val (.ref o0)] [])) _
    refine XS.aloadN X0.here hx rfl (hb hby d2_0) rfl rfl ?_
    show Steps p.tables e below (s₁.setTop (mkF m 1 #[.val (.ref o0)] [(.ref o0)])) _
    refine st1 _ ?_
    show Steps p.tables e below (T1.setTop (mkF m 4 #[.val (.ref o0)] [(.ref c0)])) _
    refine st2 _ ?_
    exact kt
  by_cases hc4 : c0 = cH
  · skip
    obtain ⟨fs, hr, hrun, hended, hW, hsame⟩ := X2.leave (v := some (.int (1 : Int32))) (fun h => by rw [Bd.returns] at h; cases h)
    refine ⟨_, _, pre3 _ ?_, hrun, hended, _, _, rfl, ?_, ⟨_, rfl⟩, hW, hsame.mono (by decide) (by decide)⟩
    · skip
      show Steps p.tables e below (T2.setTop (mkF m 7 #[.val (.ref o0)] [(.ref cH), (.ref c0)])) _
      refine Jvm.RoadKit.acmp (g := (mkF m 7 #[.val (.ref o0)] [(.ref cH), (.ref c0)])) X2 hx rfl rfl rfl (pc0 := 7) (pc' := 20) (same := true) rfl (hb hby d2_7) rfl (decide_eq_true (congrArg Value.ref hc4)) (by decide) (by decide) ?_
      show Steps p.tables e below (T2.setTop (mkF m 20 #[.val (.ref o0)] [])) _
      refine XS.iconst X2.here hx rfl (hb hby d2_20) ?_
      show Steps p.tables e below (T2.setTop (mkF m 21 #[.val (.ref o0)] [(.int (1 : Int32))])) _
      refine XS.goto X2.here hx rfl (pc0 := 21) (pc' := 25) rfl (hb hby d2_21) (by decide) (by decide) ?_
      show Steps p.tables e below (T2.setTop (mkF m 25 #[.val (.ref o0)] [(.int (1 : Int32))])) _
      exact retN X2 hx (t := .boolean) Bd.returns (by simp) (hb hby d2_25) hr
    · show QR (.int r) h0 n0 _ T2.heap _
      rw [e2]
      exact ⟨(by first | rfl | simp [hc4, hr0]), N0, rfl⟩
  · skip
    obtain ⟨T5, X5, e5, st5⟩ := getF X2 hx hZ hown (host := "") (Or.inl (hw _ (List.mem_of_getElem? (i := 13) rfl))) Via.refl e2 F_a (g := (mkF m 11 #[.val (.ref o0)] [(.ref o0)])) rfl rfl (hb hby d2_11)
    obtain ⟨T6, X6, e6, st6⟩ := getS2 X5 hx hZ hown (host := "") (Or.inl (hw _ (List.mem_of_getElem? (i := 19) rfl))) Via.refl e5 S_P (g := (mkF m 14 #[.val (.ref o0)] [(.ref c0)])) rfl (hb hby d2_14)
    have pre7 : ∀ t, Steps p.tables e below (T6.setTop (mkF m 17 #[.val (.ref o0)] [(.ref cP), (.ref c0)])) t → Steps p.tables e below (s₁.setTop (entryFrame m #[(.ref o0)] 1)) t := by
      intro t kt
      refine pre3 t ?_
      show Steps p.tables e below (T2.setTop (mkF m 7 #[.val (.ref o0)] [(.ref cH), (.ref c0)])) _
      refine Jvm.RoadKit.acmp (g := (mkF m 7 #[.val (.ref o0)] [(.ref cH), (.ref c0)])) X2 hx rfl rfl rfl (pc0 := 7) (pc' := 10) (same := false) rfl (hb hby d2_7) rfl (decide_eq_false fun q => hc4 (Value.ref.inj q)) (by decide) (by decide) ?_
      show Steps p.tables e below (T2.setTop (mkF m 10 #[.val (.ref o0)] [])) _
      refine XS.aloadN X2.here hx rfl (hb hby d2_10) rfl rfl ?_
      show Steps p.tables e below (T2.setTop (mkF m 11 #[.val (.ref o0)] [(.ref o0)])) _
      refine st5 _ ?_
      show Steps p.tables e below (T5.setTop (mkF m 14 #[.val (.ref o0)] [(.ref c0)])) _
      refine st6 _ ?_
      exact kt
    by_cases hc8 : c0 = cP
    · skip
      obtain ⟨fs, hr, hrun, hended, hW, hsame⟩ := X6.leave (v := some (.int (1 : Int32))) (fun h => by rw [Bd.returns] at h; cases h)
      refine ⟨_, _, pre7 _ ?_, hrun, hended, _, _, rfl, ?_, ⟨_, rfl⟩, hW, hsame.mono (by decide) (by decide)⟩
      · skip
        show Steps p.tables e below (T6.setTop (mkF m 17 #[.val (.ref o0)] [(.ref cP), (.ref c0)])) _
        refine Jvm.RoadKit.acmp (g := (mkF m 17 #[.val (.ref o0)] [(.ref cP), (.ref c0)])) X6 hx rfl rfl rfl (pc0 := 17) (pc' := 20) (same := true) rfl (hb hby d2_17) rfl (decide_eq_true (congrArg Value.ref hc8)) (by decide) (by decide) ?_
        show Steps p.tables e below (T6.setTop (mkF m 20 #[.val (.ref o0)] [])) _
        refine XS.iconst X6.here hx rfl (hb hby d2_20) ?_
        show Steps p.tables e below (T6.setTop (mkF m 21 #[.val (.ref o0)] [(.int (1 : Int32))])) _
        refine XS.goto X6.here hx rfl (pc0 := 21) (pc' := 25) rfl (hb hby d2_21) (by decide) (by decide) ?_
        show Steps p.tables e below (T6.setTop (mkF m 25 #[.val (.ref o0)] [(.int (1 : Int32))])) _
        exact retN X6 hx (t := .boolean) Bd.returns (by simp) (hb hby d2_25) hr
      · show QR (.int r) h0 n0 _ T6.heap _
        rw [e6]
        exact ⟨(by first | rfl | simp [hc4, hc8, hr0]), N0, rfl⟩
    · skip
      obtain ⟨fs, hr, hrun, hended, hW, hsame⟩ := X6.leave (v := some (.int (0 : Int32))) (fun h => by rw [Bd.returns] at h; cases h)
      refine ⟨_, _, pre7 _ ?_, hrun, hended, _, _, rfl, ?_, ⟨_, rfl⟩, hW, hsame.mono (by decide) (by decide)⟩
      · skip
        show Steps p.tables e below (T6.setTop (mkF m 17 #[.val (.ref o0)] [(.ref cP), (.ref c0)])) _
        refine Jvm.RoadKit.acmp (g := (mkF m 17 #[.val (.ref o0)] [(.ref cP), (.ref c0)])) X6 hx rfl rfl rfl (pc0 := 17) (pc' := 24) (same := false) rfl (hb hby d2_17) rfl (decide_eq_false fun q => hc8 (Value.ref.inj q)) (by decide) (by decide) ?_
        show Steps p.tables e below (T6.setTop (mkF m 24 #[.val (.ref o0)] [])) _
        refine XS.iconst X6.here hx rfl (hb hby d2_24) ?_
        show Steps p.tables e below (T6.setTop (mkF m 25 #[.val (.ref o0)] [(.int (0 : Int32))])) _
        exact retN X6 hx (t := .boolean) Bd.returns (by simp) (hb hby d2_25) hr
      · show QR (.int r) h0 n0 _ T6.heap _
        rw [e6]
        exact ⟨(by first | rfl | simp [hc4, hc8, hr0]), N0, rfl⟩
theorem d3_0 : decode method_3_code 0 = .ok (.iload_n 0, 1) := by decide +kernel
theorem d3_1 : decode method_3_code 1 = .ok (.bipush 8, 2) := by decide +kernel
theorem d3_3 : decode method_3_code 3 = .ok (.if_icmp .ge 5, 3) := by decide +kernel
theorem d3_6 : decode method_3_code 6 = .ok (.iconst 0, 1) := by decide +kernel
theorem d3_7 : decode method_3_code 7 = .ok (.ireturn, 1) := by decide +kernel
theorem d3_8 : decode method_3_code 8 = .ok (.iload_n 0, 1) := by decide +kernel
theorem d3_9 : decode method_3_code 9 = .ok (.bipush 16, 2) := by decide +kernel
theorem d3_11 : decode method_3_code 11 = .ok (.if_icmp .le 5, 3) := by decide +kernel
theorem d3_14 : decode method_3_code 14 = .ok (.iconst 0, 1) := by decide +kernel
theorem d3_15 : decode method_3_code 15 = .ok (.ireturn, 1) := by decide +kernel
theorem d3_16 : decode method_3_code 16 = .ok (.iconst 1, 1) := by decide +kernel
theorem d3_17 : decode method_3_code 17 = .ok (.ireturn, 1) := by decide +kernel
theorem pn_3 : plainName "com/example/forbid_or_permit/forbidorpermit/KindLinksPinLaw" = true := by first | (simp [plainName, overriddenIn]; done) | decide +kernel
theorem ef_rm3 (m : MethodId) (x0 : Int32) : entryFrame m #[(.int x0)] 1 = mkF m 0 #[.val (.int x0)] [] := by first | (simp [entryFrame, mkF, argsToLocals, Value.category]; done) | rfl
set_option maxRecDepth 65536 in
set_option maxHeartbeats 40000000 in
theorem rm3 (l : Launch) (Z : State) (a0 : Array Value) (hw : ∀ d ∈ tables_1, d.before a0 Z = true) (ws : List Jvm.Cond) (p0 : Int32) (r : Int32) (h0 : Heap) (n0 : Nat) (Z0 : n0 ≤ h0.size) (hr0 : r = if p0 < (8 : Int32) then 0 else if (16 : Int32) < p0 then 0 else 1) :
    MetFree l (⟨"com/example/forbid_or_permit/forbidorpermit/KindLinksPinLaw", "expected", "(I)Z"⟩ : MethodName) (head1 (Jvm.Cond.code (⟨"com/example/forbid_or_permit/forbidorpermit/KindLinksPinLaw", "expected", "(I)Z"⟩ : MethodName) method_3_code 1 (some .boolean) :: ws) ({ frames := 0, cells := 0, slots := 0, locals := 0 } : Room)) (fun a U => a = #[(.int p0)] ∧ Z.Warmed39 U.vm ∧ U.heap = h0) (fun _ _ _ _ _ => True) (fun _ U o U' => ∃ v L, o = .returned v ∧ QR (.int r) h0 n0 v U'.heap L ∧ FrameEnd U o U' L ({ frames := 0, cells := 0, slots := 0, locals := 0 } : Room).cells ({ frames := 0, cells := 0, slots := 0, locals := 0 } : Room).slots) := by
  refine MetFree.of_bodySF (plainFor_of_name pn_3) hisR ?_
  intro p e s m args below meth c s₁ Bd hml0 hP hK
  obtain ⟨rfl, hZ, hh⟩ := hP
  have hx := Bd.exec
  have hby := Bd.bytes
  have hml : c.maxLocals = 1 := hml0
  have hown : s.vm.findClass "com/example/forbid_or_permit/forbidorpermit/KindLinksPinLaw" = some m.cls := findClass_of_methodNamed Bd.named
  have hnm := (name_of_methodNamed Bd.named Bd.method).1
  have X0 : Stand p l e ({ frames := 0, cells := 0, slots := 0, locals := 0 } : Room) s m #[(.int p0)] below meth c s₁ [] 0 0 := Stand.of_body Bd
  have e0 : s₁.heap = h0 := by rw [← hh, Bd.state]; rfl
  have N0 := Fr.nil n0
  have pre0 : ∀ t, Steps p.tables e below (s₁.setTop (mkF m 0 #[.val (.int p0)] [])) t → Steps p.tables e below (s₁.setTop (entryFrame m #[(.int p0)] 1)) t := fun t k => castTop (ef_rm3 m p0) k
  have pre1 : ∀ t, Steps p.tables e below (s₁.setTop (mkF m 3 #[.val (.int p0)] [(.int (8 : Int32)), (.int p0)])) t → Steps p.tables e below (s₁.setTop (entryFrame m #[(.int p0)] 1)) t := by
    intro t kt
    refine pre0 t ?_
    show Steps p.tables e below (s₁.setTop (mkF m 0 #[.val (.int p0)] [])) _
    refine XS.iloadN X0.here hx rfl (hb hby d3_0) rfl ?_
    show Steps p.tables e below (s₁.setTop (mkF m 1 #[.val (.int p0)] [(.int p0)])) _
    refine XS.bipush X0.here hx rfl (hb hby d3_1) ?_
    exact kt
  by_cases hc2 : p0 < (8 : Int32)
  · skip
    obtain ⟨fs, hr, hrun, hended, hW, hsame⟩ := X0.leave (v := some (.int (0 : Int32))) (fun h => by rw [Bd.returns] at h; cases h)
    refine ⟨_, _, pre1 _ ?_, hrun, hended, _, _, rfl, ?_, ⟨_, rfl⟩, hW, hsame.mono (by decide) (by decide)⟩
    · skip
      show Steps p.tables e below (s₁.setTop (mkF m 3 #[.val (.int p0)] [(.int (8 : Int32)), (.int p0)])) _
      refine XS.icmpNo X0.here hx rfl (hb hby d3_3) rfl (tlt hc2).2.1 ?_
      show Steps p.tables e below (s₁.setTop (mkF m 6 #[.val (.int p0)] [])) _
      refine XS.iconst X0.here hx rfl (hb hby d3_6) ?_
      show Steps p.tables e below (s₁.setTop (mkF m 7 #[.val (.int p0)] [(.int (0 : Int32))])) _
      exact retN X0 hx (t := .boolean) Bd.returns (by simp) (hb hby d3_7) hr
    · show QR (.int r) h0 n0 _ s₁.heap _
      rw [e0]
      exact ⟨(by first | rfl | simp [hc2, hr0]), N0, rfl⟩
  · skip
    have pre3 : ∀ t, Steps p.tables e below (s₁.setTop (mkF m 11 #[.val (.int p0)] [(.int (16 : Int32)), (.int p0)])) t → Steps p.tables e below (s₁.setTop (entryFrame m #[(.int p0)] 1)) t := by
      intro t kt
      refine pre1 t ?_
      show Steps p.tables e below (s₁.setTop (mkF m 3 #[.val (.int p0)] [(.int (8 : Int32)), (.int p0)])) _
      refine XS.icmpYes X0.here hx rfl (pc0 := 3) (pc' := 8) rfl (hb hby d3_3) rfl (flt hc2).2.1 (by decide) (by decide) ?_
      show Steps p.tables e below (s₁.setTop (mkF m 8 #[.val (.int p0)] [])) _
      refine XS.iloadN X0.here hx rfl (hb hby d3_8) rfl ?_
      show Steps p.tables e below (s₁.setTop (mkF m 9 #[.val (.int p0)] [(.int p0)])) _
      refine XS.bipush X0.here hx rfl (hb hby d3_9) ?_
      exact kt
    by_cases hc4 : (16 : Int32) < p0
    · skip
      obtain ⟨fs, hr, hrun, hended, hW, hsame⟩ := X0.leave (v := some (.int (0 : Int32))) (fun h => by rw [Bd.returns] at h; cases h)
      refine ⟨_, _, pre3 _ ?_, hrun, hended, _, _, rfl, ?_, ⟨_, rfl⟩, hW, hsame.mono (by decide) (by decide)⟩
      · skip
        show Steps p.tables e below (s₁.setTop (mkF m 11 #[.val (.int p0)] [(.int (16 : Int32)), (.int p0)])) _
        refine XS.icmpNo X0.here hx rfl (hb hby d3_11) rfl (tlt hc4).2.2.2 ?_
        show Steps p.tables e below (s₁.setTop (mkF m 14 #[.val (.int p0)] [])) _
        refine XS.iconst X0.here hx rfl (hb hby d3_14) ?_
        show Steps p.tables e below (s₁.setTop (mkF m 15 #[.val (.int p0)] [(.int (0 : Int32))])) _
        exact retN X0 hx (t := .boolean) Bd.returns (by simp) (hb hby d3_15) hr
      · show QR (.int r) h0 n0 _ s₁.heap _
        rw [e0]
        exact ⟨(by first | rfl | simp [hc2, hc4, hr0]), N0, rfl⟩
    · skip
      obtain ⟨fs, hr, hrun, hended, hW, hsame⟩ := X0.leave (v := some (.int (1 : Int32))) (fun h => by rw [Bd.returns] at h; cases h)
      refine ⟨_, _, pre3 _ ?_, hrun, hended, _, _, rfl, ?_, ⟨_, rfl⟩, hW, hsame.mono (by decide) (by decide)⟩
      · skip
        show Steps p.tables e below (s₁.setTop (mkF m 11 #[.val (.int p0)] [(.int (16 : Int32)), (.int p0)])) _
        refine XS.icmpYes X0.here hx rfl (pc0 := 11) (pc' := 16) rfl (hb hby d3_11) rfl (flt hc4).2.2.2 (by decide) (by decide) ?_
        show Steps p.tables e below (s₁.setTop (mkF m 16 #[.val (.int p0)] [])) _
        refine XS.iconst X0.here hx rfl (hb hby d3_16) ?_
        show Steps p.tables e below (s₁.setTop (mkF m 17 #[.val (.int p0)] [(.int (1 : Int32))])) _
        exact retN X0 hx (t := .boolean) Bd.returns (by simp) (hb hby d3_17) hr
      · show QR (.int r) h0 n0 _ s₁.heap _
        rw [e0]
        exact ⟨(by first | rfl | simp [hc2, hc4, hr0]), N0, rfl⟩
theorem pd__I_Lcom_example_forbid_or_permit_forbidorpermit_Kind_ : parseMethodDescriptor "(I)Lcom/example/forbid_or_permit/forbidorpermit/Kind;" = some ⟨[.int], some (.object "com/example/forbid_or_permit/forbidorpermit/Kind")⟩ := by decide +kernel
theorem pd___Z : parseMethodDescriptor "()Z" = some ⟨[], some .boolean⟩ := by decide +kernel
theorem pd__I_Z : parseMethodDescriptor "(I)Z" = some ⟨[.int], some .boolean⟩ := by decide +kernel
theorem pn_0 : plainName "com/example/forbid_or_permit/forbidorpermit/KindLinksPinLaw" = true := by first | (simp [plainName, overriddenIn]; done) | decide +kernel
theorem ef_rm0 (m : MethodId) (x0 : Int32) : entryFrame m #[(.int x0)] maxLocals = mkF m 0 #[.val (.int x0), .unset, .unset] [] := by first | (simp [entryFrame, mkF, argsToLocals, Value.category, maxLocals]; done) | rfl
set_option maxRecDepth 65536 in
set_option maxHeartbeats 40000000 in
theorem rm0 (l : Launch) (Z : State) (a0 : Array Value) (hw : ∀ d ∈ tables_1, d.before a0 Z = true) (ws : List Jvm.Cond) (p0 : Int32) (k r : Int32) (c0 : Addr) (W : Nat → Addr) (cH cP : Addr) (h0 : Heap) (n0 : Nat) (Z0 : n0 ≤ h0.size) (S_PERMISSION : Sta Z h0 "com/example/forbid_or_permit/forbidorpermit/Kind" "PERMISSION" "Lcom/example/forbid_or_permit/forbidorpermit/Kind;" (.ref (W 0))) (S_PROHIBITION : Sta Z h0 "com/example/forbid_or_permit/forbidorpermit/Kind" "PROHIBITION" "Lcom/example/forbid_or_permit/forbidorpermit/Kind;" (.ref (W 1))) (S_EMPLOY : Sta Z h0 "com/example/forbid_or_permit/forbidorpermit/Kind" "EMPLOY" "Lcom/example/forbid_or_permit/forbidorpermit/Kind;" (.ref (W 2))) (S_USE : Sta Z h0 "com/example/forbid_or_permit/forbidorpermit/Kind" "USE" "Lcom/example/forbid_or_permit/forbidorpermit/Kind;" (.ref (W 3))) (S_CONSIDER : Sta Z h0 "com/example/forbid_or_permit/forbidorpermit/Kind" "CONSIDER" "Lcom/example/forbid_or_permit/forbidorpermit/Kind;" (.ref (W 4))) (S_DEFINE : Sta Z h0 "com/example/forbid_or_permit/forbidorpermit/Kind" "DEFINE" "Lcom/example/forbid_or_permit/forbidorpermit/Kind;" (.ref (W 5))) (S_HOLDS : Sta Z h0 "com/example/forbid_or_permit/forbidorpermit/Kind" "HOLDS" "Lcom/example/forbid_or_permit/forbidorpermit/Kind;" (.ref (W 6))) (S_ORDER : Sta Z h0 "com/example/forbid_or_permit/forbidorpermit/Kind" "ORDER" "Lcom/example/forbid_or_permit/forbidorpermit/Kind;" (.ref (W 7))) (S_SUB_ORGANISATION : Sta Z h0 "com/example/forbid_or_permit/forbidorpermit/Kind" "SUB_ORGANISATION" "Lcom/example/forbid_or_permit/forbidorpermit/Kind;" (.ref (W 8))) (S_SUB_ROLE : Sta Z h0 "com/example/forbid_or_permit/forbidorpermit/Kind" "SUB_ROLE" "Lcom/example/forbid_or_permit/forbidorpermit/Kind;" (.ref (W 9))) (S_SUB_VIEW : Sta Z h0 "com/example/forbid_or_permit/forbidorpermit/Kind" "SUB_VIEW" "Lcom/example/forbid_or_permit/forbidorpermit/Kind;" (.ref (W 10))) (S_SUB_ACTIVITY : Sta Z h0 "com/example/forbid_or_permit/forbidorpermit/Kind" "SUB_ACTIVITY" "Lcom/example/forbid_or_permit/forbidorpermit/Kind;" (.ref (W 11))) (S_SUB_CONTEXT : Sta Z h0 "com/example/forbid_or_permit/forbidorpermit/Kind" "SUB_CONTEXT" "Lcom/example/forbid_or_permit/forbidorpermit/Kind;" (.ref (W 12))) (S_PREFER_ROLE : Sta Z h0 "com/example/forbid_or_permit/forbidorpermit/Kind" "PREFER_ROLE" "Lcom/example/forbid_or_permit/forbidorpermit/Kind;" (.ref (W 13))) (S_PREFER_CONTEXT : Sta Z h0 "com/example/forbid_or_permit/forbidorpermit/Kind" "PREFER_CONTEXT" "Lcom/example/forbid_or_permit/forbidorpermit/Kind;" (.ref (W 14))) (S_PREFER_VIEW : Sta Z h0 "com/example/forbid_or_permit/forbidorpermit/Kind" "PREFER_VIEW" "Lcom/example/forbid_or_permit/forbidorpermit/Kind;" (.ref (W 15))) (S_PREFER_ACTIVITY : Sta Z h0 "com/example/forbid_or_permit/forbidorpermit/Kind" "PREFER_ACTIVITY" "Lcom/example/forbid_or_permit/forbidorpermit/Kind;" (.ref (W 16))) (S_SEPARATED_ROLE : Sta Z h0 "com/example/forbid_or_permit/forbidorpermit/Kind" "SEPARATED_ROLE" "Lcom/example/forbid_or_permit/forbidorpermit/Kind;" (.ref (W 17))) (S_SEPARATED_VIEW : Sta Z h0 "com/example/forbid_or_permit/forbidorpermit/Kind" "SEPARATED_VIEW" "Lcom/example/forbid_or_permit/forbidorpermit/Kind;" (.ref (W 18))) (S_SEPARATED_ACTIVITY : Sta Z h0 "com/example/forbid_or_permit/forbidorpermit/Kind" "SEPARATED_ACTIVITY" "Lcom/example/forbid_or_permit/forbidorpermit/Kind;" (.ref (W 19))) (S_SEPARATED_CONTEXT : Sta Z h0 "com/example/forbid_or_permit/forbidorpermit/Kind" "SEPARATED_CONTEXT" "Lcom/example/forbid_or_permit/forbidorpermit/Kind;" (.ref (W 20))) (hk : (p0 &&& (2147483647 : Int32)) % (21 : Int32) = k) (hk0 : 0 ≤ k.toInt) (hk1 : k.toInt < 21) (E_k : Exa Z h0 (W k.toNatClampNeg) "com/example/forbid_or_permit/forbidorpermit/Kind") (F_a : Fld Z h0 (W k.toNatClampNeg) "com/example/forbid_or_permit/forbidorpermit/Kind" "category" "Lcom/example/forbid_or_permit/forbidorpermit/Kind$Category;" (.ref c0)) (S_H : Sta Z h0 "com/example/forbid_or_permit/forbidorpermit/Kind$Category" "HIERARCHY" "Lcom/example/forbid_or_permit/forbidorpermit/Kind$Category;" (.ref cH)) (S_P : Sta Z h0 "com/example/forbid_or_permit/forbidorpermit/Kind$Category" "PREFERENCE" "Lcom/example/forbid_or_permit/forbidorpermit/Kind$Category;" (.ref cP)) (hr0 : r = if c0 = cH ∨ c0 = cP then 1 else 0) (hr1 : r = if k < (8 : Int32) then 0 else if (16 : Int32) < k then 0 else 1) :
    MetFree l x (head1 (Jvm.Cond.code x code maxLocals ret :: ws) room_1) (fun a U => a = #[(.int p0)] ∧ Z.Warmed39 U.vm ∧ U.heap = h0) (fun _ _ _ _ _ => True) (fun _ U o U' => ∃ v L, o = .returned v ∧ QR (.int (1 : Int32)) h0 n0 v U'.heap L ∧ FrameEnd U o U' L room_1.cells room_1.slots) := by
  refine MetFree.of_bodySF (plainFor_of_name pn_0) hisR ?_
  intro p e s m args below meth c s₁ Bd hml0 hP hK
  obtain ⟨rfl, hZ, hh⟩ := hP
  have hx := Bd.exec
  have hby := Bd.bytes
  have hml : c.maxLocals = 3 := hml0
  have hown : s.vm.findClass "com/example/forbid_or_permit/forbidorpermit/KindLinksPinLaw" = some m.cls := findClass_of_methodNamed Bd.named
  have hnm := (name_of_methodNamed Bd.named Bd.method).1
  have X0 : Stand p l e room_1 s m #[(.int p0)] below meth c s₁ [] 0 0 := Stand.of_body Bd
  have e0 : s₁.heap = h0 := by rw [← hh, Bd.state]; rfl
  have N0 := Fr.nil n0
  have pre0 : ∀ t, Steps p.tables e below (s₁.setTop (mkF m 0 #[.val (.int p0), .unset, .unset] [])) t → Steps p.tables e below (s₁.setTop (entryFrame m #[(.int p0)] maxLocals)) t := fun t k => castTop (ef_rm0 m p0) k
  obtain ⟨_, _, ⟨T1, L1, k1, n1⟩, -, X1, ⟨Lc1, hQ1, l1, y1, z1⟩, st1⟩ := Jvm.LawKit.callS X0 hx (y := (⟨"com/example/forbid_or_permit/forbidorpermit/KindLinksPinLaw", "kindAt", "(I)Lcom/example/forbid_or_permit/forbidorpermit/Kind;"⟩ : MethodName)) hown (mvT hZ (hw _ (List.mem_of_getElem? (i := 1) rfl))) (mvT hZ (hw _ (List.mem_of_getElem? (i := 2) rfl))) (mvT hZ (hw _ (List.mem_of_getElem? (i := 3) rfl))) (mvT hZ (hw _ (List.mem_of_getElem? (i := 4) rfl))) (by decide) (backOf (W := 0) (rm1 l Z a0 hw [] k W h0 n0 Z0 S_PERMISSION S_PROHIBITION S_EMPLOY S_USE S_CONSIDER S_DEFINE S_HOLDS S_ORDER S_SUB_ORGANISATION S_SUB_ROLE S_SUB_VIEW S_SUB_ACTIVITY S_SUB_CONTEXT S_PREFER_ROLE S_PREFER_CONTEXT S_PREFER_VIEW S_PREFER_ACTIVITY S_SEPARATED_ROLE S_SEPARATED_VIEW S_SEPARATED_ACTIVITY S_SEPARATED_CONTEXT hk0 hk1) hZ (hw _ (List.mem_of_getElem? (i := 4) rfl)) (hw _ (List.mem_of_getElem? (i := 3) rfl)) (by decide) (by decide)) (g := (mkF m 9 #[.val (.int p0), .val (.int k), .unset] [(.int k)])) rfl (by rw [hml]; rfl) (argsL := [(.int k)]) (rest := []) (lenOf pd__I_Lcom_example_forbid_or_permit_forbidorpermit_Kind_ rfl) rfl (by show 2 * 0 + _ ≤ _; exact Nat.le_of_eq rfl) (hb hby at_9) (fun _ _ => ⟨rfl, e0, (by decide : 0 + 0 ≤ _), (by decide : 0 + 0 ≤ _)⟩)
  dsimp only [Pt.U, Pt.locs, Pt.cells, Pt.slots] at X1 l1 y1 z1 st1 hQ1
  subst l1 y1 z1
  obtain ⟨rfl, N1q, e1⟩ := hQ1
  have N1 := Fr.app N0 N1q
  obtain ⟨cq2, kq2, q2a, q2b, q2c⟩ := isOf hZ e1 E_k
  obtain ⟨_, _, ⟨T2, L2, k2, n2⟩, -, X2, ⟨Lc2, hQ2, l2, y2, z2⟩, st2⟩ := X1.virtualBack hx (y := (⟨"com/example/forbid_or_permit/forbidorpermit/Kind", "links", "()Z"⟩ : MethodName)) (z := (⟨"com/example/forbid_or_permit/forbidorpermit/Kind", "links", "()Z"⟩ : MethodName)) hown (mvT hZ (hw _ (List.mem_of_getElem? (i := 8) rfl))) (mvT hZ (hw _ (List.mem_of_getElem? (i := 9) rfl))) (notFace_of_selects (args := #[]) (mvT hZ (hw _ (List.mem_of_getElem? (i := 11) rfl)))) (mvT hZ (hw _ (List.mem_of_getElem? (i := 11) rfl))) (mvT hZ (hw _ (List.mem_of_getElem? (i := 10) rfl))) (by decide) (backOf (W := 0) (rm2 l Z a0 hw [] (W k.toNatClampNeg) r c0 cH cP h0 n0 Z0 S_H S_P F_a hr0) hZ (hw _ (List.mem_of_getElem? (i := 12) rfl)) (hw _ (List.mem_of_getElem? (i := 6) rfl)) (by decide) (by decide)) q2a q2c (g := (mkF m 14 #[.val (.int p0), .val (.int k), .val (.ref (W k.toNatClampNeg))] [(.ref (W k.toNatClampNeg))])) rfl (by rw [hml]; rfl) (Steps.refl _) (argsL := []) (rest := []) (lenOf pd___Z rfl) rfl (by show 2 * 0 + _ ≤ _; exact Nat.le_of_eq rfl) (hb hby at_14) (fun _ _ => ⟨rfl, e1, (by decide : 0 + 0 ≤ _), (by decide : 0 + 0 ≤ _)⟩)
  dsimp only [Pt.U, Pt.locs, Pt.cells, Pt.slots] at X2 l2 y2 z2 st2 hQ2
  subst l2 y2 z2
  obtain ⟨rfl, N2q, e2⟩ := hQ2
  have N2 := Fr.app N1 N2q
  obtain ⟨_, _, ⟨T3, L3, k3, n3⟩, -, X3, ⟨Lc3, hQ3, l3, y3, z3⟩, st3⟩ := Jvm.LawKit.callS X2 hx (y := (⟨"com/example/forbid_or_permit/forbidorpermit/KindLinksPinLaw", "expected", "(I)Z"⟩ : MethodName)) hown (mvT hZ (hw _ (List.mem_of_getElem? (i := 21) rfl))) (mvT hZ (hw _ (List.mem_of_getElem? (i := 22) rfl))) (mvT hZ (hw _ (List.mem_of_getElem? (i := 3) rfl))) (mvT hZ (hw _ (List.mem_of_getElem? (i := 23) rfl))) (by decide) (backOf (W := 1) (rm3 l Z a0 hw [] k r h0 n0 Z0 hr1) hZ (hw _ (List.mem_of_getElem? (i := 23) rfl)) (hw _ (List.mem_of_getElem? (i := 3) rfl)) (by decide) (by decide)) (g := (mkF m 18 #[.val (.int p0), .val (.int k), .val (.ref (W k.toNatClampNeg))] [(.int k), (.int r)])) rfl (by rw [hml]; rfl) (argsL := [(.int k)]) (rest := [(.int r)]) (lenOf pd__I_Z rfl) rfl (by show 2 * 0 + _ ≤ _; exact Nat.le_of_eq rfl) (hb hby at_18) (fun _ _ => ⟨rfl, e2, (by decide : 0 + 0 ≤ _), (by decide : 0 + 0 ≤ _)⟩)
  dsimp only [Pt.U, Pt.locs, Pt.cells, Pt.slots] at X3 l3 y3 z3 st3 hQ3
  subst l3 y3 z3
  obtain ⟨rfl, N3q, e3⟩ := hQ3
  have N3 := Fr.app N2 N3q
  obtain ⟨fs, hr, hrun, hended, hW, hsame⟩ := X3.leave (v := some (.int (1 : Int32))) (fun h => by rw [Bd.returns] at h; cases h)
  refine ⟨_, _, pre0 _ ?_, hrun, hended, _, _, rfl, ?_, ⟨_, rfl⟩, hW, hsame.mono (by decide) (by decide)⟩
  · skip
    show Steps p.tables e below (s₁.setTop (mkF m 0 #[.val (.int p0), .unset, .unset] [])) _
    refine XS.iloadN X0.here hx rfl (hb hby at_0) rfl ?_
    show Steps p.tables e below (s₁.setTop (mkF m 1 #[.val (.int p0), .unset, .unset] [(.int p0)])) _
    refine X0.ldcInt hx hown (mvT hZ (hw _ (List.mem_of_getElem? (i := 0) rfl))) (g := (mkF m 1 #[.val (.int p0), .unset, .unset] [(.int p0)])) rfl (hb hby at_1) _ ?_
    show Steps p.tables e below (s₁.setTop (mkF m 3 #[.val (.int p0), .unset, .unset] [(.int (2147483647 : Int32)), (.int p0)])) _
    refine XS.iand X0.here hx rfl (hb hby at_3) rfl ?_
    show Steps p.tables e below (s₁.setTop (mkF m 4 #[.val (.int p0), .unset, .unset] [(.int (p0 &&& (2147483647 : Int32)))])) _
    refine XS.bipush X0.here hx rfl (hb hby at_4) ?_
    show Steps p.tables e below (s₁.setTop (mkF m 6 #[.val (.int p0), .unset, .unset] [(.int (21 : Int32)), (.int (p0 &&& (2147483647 : Int32)))])) _
    refine iremM (g := (mkF m 6 #[.val (.int p0), .unset, .unset] [(.int (21 : Int32)), (.int (p0 &&& (2147483647 : Int32)))])) X0 hx rfl (hb hby at_6) rfl (by decide) ?_
    show Steps p.tables e below (s₁.setTop (mkF m 7 #[.val (.int p0), .unset, .unset] [(.int ((p0 &&& (2147483647 : Int32)) % (21 : Int32)))])) _
    refine XS.istoreN X0.here hx rfl (hb hby at_7) rfl (l' := #[.val (.int p0), .val (.int ((p0 &&& (2147483647 : Int32)) % (21 : Int32))), .unset]) rfl ?_
    show Steps p.tables e below (s₁.setTop (mkF m 8 #[.val (.int p0), .val (.int ((p0 &&& (2147483647 : Int32)) % (21 : Int32))), .unset] [])) _
    rw [hk]
    show Steps p.tables e below (s₁.setTop (mkF m 8 #[.val (.int p0), .val (.int k), .unset] [])) _
    refine XS.iloadN X0.here hx rfl (hb hby at_8) rfl ?_
    show Steps p.tables e below (s₁.setTop (mkF m 9 #[.val (.int p0), .val (.int k), .unset] [(.int k)])) _
    refine st1 _ ?_
    show Steps p.tables e below (T1.setTop (mkF m 12 #[.val (.int p0), .val (.int k), .unset] [(.ref (W k.toNatClampNeg))])) _
    refine XS.astoreN X1.here hx rfl (hb hby at_12) rfl rfl (l' := #[.val (.int p0), .val (.int k), .val (.ref (W k.toNatClampNeg))]) rfl ?_
    show Steps p.tables e below (T1.setTop (mkF m 13 #[.val (.int p0), .val (.int k), .val (.ref (W k.toNatClampNeg))] [])) _
    refine XS.aloadN X1.here hx rfl (hb hby at_13) rfl rfl ?_
    show Steps p.tables e below (T1.setTop (mkF m 14 #[.val (.int p0), .val (.int k), .val (.ref (W k.toNatClampNeg))] [(.ref (W k.toNatClampNeg))])) _
    refine st2.trans ?_
    show Steps p.tables e below (T2.setTop (mkF m 17 #[.val (.int p0), .val (.int k), .val (.ref (W k.toNatClampNeg))] [(.int r)])) _
    refine XS.iloadN X2.here hx rfl (hb hby at_17) rfl ?_
    show Steps p.tables e below (T2.setTop (mkF m 18 #[.val (.int p0), .val (.int k), .val (.ref (W k.toNatClampNeg))] [(.int k), (.int r)])) _
    refine st3 _ ?_
    show Steps p.tables e below (T3.setTop (mkF m 21 #[.val (.int p0), .val (.int k), .val (.ref (W k.toNatClampNeg))] [(.int r), (.int r)])) _
    refine XS.icmpNo X3.here hx rfl (hb hby at_21) rfl (teq rfl).2 ?_
    show Steps p.tables e below (T3.setTop (mkF m 24 #[.val (.int p0), .val (.int k), .val (.ref (W k.toNatClampNeg))] [])) _
    refine XS.iconst X3.here hx rfl (hb hby at_24) ?_
    show Steps p.tables e below (T3.setTop (mkF m 25 #[.val (.int p0), .val (.int k), .val (.ref (W k.toNatClampNeg))] [(.int (1 : Int32))])) _
    refine XS.goto X3.here hx rfl (pc0 := 25) (pc' := 29) rfl (hb hby at_25) (by decide) (by decide) ?_
    show Steps p.tables e below (T3.setTop (mkF m 29 #[.val (.int p0), .val (.int k), .val (.ref (W k.toNatClampNeg))] [(.int (1 : Int32))])) _
    exact retN X3 hx (t := .boolean) Bd.returns (by simp) (hb hby at_29) hr
  · show QR (.int (1 : Int32)) h0 n0 _ T3.heap _
    rw [e3]
    exact ⟨(by first | rfl | simp []), N3, rfl⟩
set_option maxRecDepth 65536 in
set_option maxHeartbeats 40000000 in
theorem comes_1 {Post : Tables → Env → Array Value → State → Outcome → State → Prop} (hpost : ∀ tb e args s v u, (limb_1_1.after args s (.returned v) u = true ∧ limb_1_2.after args s (.returned v) u = true ∧ True) → FrameEnd s (.returned v) u (Jvm.fieldLocs frame_1_writes args s ++ Jvm.arrayLocs frame_1_arrays args s ++ Jvm.staticLocs frame_1_statics s) 0 0 → Post tb e args s (.returned v) u) :
    ArmFor flags0 classFile x code maxLocals ret World_1 tables_1 room_1 Calls_1 rest_1 Pre_1 Post := by
  intro l hfl _ _ p e ha hcas hclk s m args below hf hA hF happ hP
  obtain ⟨hcalls, hrest, hpre⟩ := hP
  obtain ⟨-, -, -, hnamed, -, -, -, hat⟩ := (Spec.applies_iff hf).mp happ
  obtain ⟨hg, hn⟩ := and_e (Cond.before_iff.mp (show (Jvm.Cond.and given_1 narrow_1).before args s = true from hpre))
  obtain ⟨g0, hg⟩ := and_e hg
  have g1 := hg
  obtain ⟨w0, rfl⟩ : ∃ w0 : Value, args = #[w0] := by
    have hs : args.size = 1 := by simpa [Cond.value, given_1] using g0
    obtain ⟨L⟩ := args
    match L, hs with
    | [w0], _ => exact ⟨w0, rfl⟩
  have hw := fun d (hd : d ∈ tables_1) => atoms_spec (ws := Jvm.Cond.code x code maxLocals ret :: tables_1) hat d (List.mem_cons_of_mem _ hd)
  have hfit : Fit s := fun {y c} hc i hi => by
    obtain ⟨ha, rfl⟩ := Array.getElem?_eq_some_iff.mp hc
    have q := List.all_eq_true.mp ((Array.all_eq_true_iff_forall_mem.mp hF) _ (Array.getElem_mem ha)) i (List.mem_range.mpr hi)
    simpa [Array.getElem?_eq_getElem hi] using q
  obtain ⟨i0, ei0⟩ := is_v g1
  obtain rfl : w0 = (.int i0) := Option.some.inj ei0
  obtain ⟨m0, hn⟩ := and_e hn
  obtain ⟨m1, hn⟩ := and_e hn
  obtain ⟨m2, hn⟩ := and_e hn
  obtain ⟨m3, hn⟩ := and_e hn
  obtain ⟨m4, hn⟩ := and_e hn
  obtain ⟨m5, hn⟩ := and_e hn
  obtain ⟨m6, hn⟩ := and_e hn
  obtain ⟨m7, hn⟩ := and_e hn
  obtain ⟨m8, hn⟩ := and_e hn
  obtain ⟨m9, hn⟩ := and_e hn
  obtain ⟨m10, hn⟩ := and_e hn
  obtain ⟨m11, hn⟩ := and_e hn
  obtain ⟨m12, hn⟩ := and_e hn
  obtain ⟨m13, hn⟩ := and_e hn
  obtain ⟨m14, hn⟩ := and_e hn
  obtain ⟨m15, hn⟩ := and_e hn
  obtain ⟨m16, hn⟩ := and_e hn
  obtain ⟨m17, hn⟩ := and_e hn
  obtain ⟨m18, hn⟩ := and_e hn
  obtain ⟨m19, hn⟩ := and_e hn
  obtain ⟨m20, hn⟩ := and_e hn
  obtain ⟨m21, hn⟩ := and_e hn
  obtain ⟨m22, hn⟩ := and_e hn
  obtain ⟨m23, hn⟩ := and_e hn
  obtain ⟨m24, hn⟩ := and_e hn
  obtain ⟨m25, hn⟩ := and_e hn
  obtain ⟨m26, hn⟩ := and_e hn
  obtain ⟨m27, hn⟩ := and_e hn
  obtain ⟨m28, hn⟩ := and_e hn
  obtain ⟨m29, hn⟩ := and_e hn
  obtain ⟨m30, hn⟩ := and_e hn
  obtain ⟨m31, hn⟩ := and_e hn
  obtain ⟨m32, hn⟩ := and_e hn
  obtain ⟨m33, hn⟩ := and_e hn
  obtain ⟨m34, hn⟩ := and_e hn
  obtain ⟨m35, hn⟩ := and_e hn
  obtain ⟨m36, hn⟩ := and_e hn
  obtain ⟨m37, hn⟩ := and_e hn
  obtain ⟨m38, hn⟩ := and_e hn
  obtain ⟨m39, hn⟩ := and_e hn
  obtain ⟨m40, hn⟩ := and_e hn
  obtain ⟨m41, hn⟩ := and_e hn
  obtain ⟨m42, hn⟩ := and_e hn
  obtain ⟨m43, hn⟩ := and_e hn
  obtain ⟨m44, hn⟩ := and_e hn
  obtain ⟨m45, hn⟩ := and_e hn
  obtain ⟨m46, hn⟩ := and_e hn
  obtain ⟨m47, hn⟩ := and_e hn
  obtain ⟨m48, hn⟩ := and_e hn
  obtain ⟨m49, hn⟩ := and_e hn
  obtain ⟨m50, hn⟩ := and_e hn
  obtain ⟨m51, hn⟩ := and_e hn
  obtain ⟨m52, hn⟩ := and_e hn
  have m53 := hn
  obtain ⟨w_Kind_PERMISSION, ev_Kind_PERMISSION⟩ := exa_v m0
  have E_Kind_PERMISSION := Exa.start ev_Kind_PERMISSION m0
  have S_Kind_PERMISSION := Sta.start ev_Kind_PERMISSION (Or.inr ⟨(hw _ (List.mem_of_getElem? (i := 6) rfl)), (hw _ (List.mem_of_getElem? (i := 7) rfl))⟩)
  obtain ⟨w_Category_RULE, ev_Category_RULE⟩ := exa_v m1
  have E_Category_RULE := Exa.start ev_Category_RULE m1
  have S_Category_RULE := Sta.start ev_Category_RULE (Or.inr ⟨(hw _ (List.mem_of_getElem? (i := 15) rfl)), (hw _ (List.mem_of_getElem? (i := 16) rfl))⟩)
  obtain ⟨w_Category_HIERARCHY, ev_Category_HIERARCHY⟩ := exa_v m3
  have E_Category_HIERARCHY := Exa.start ev_Category_HIERARCHY m3
  have S_Category_HIERARCHY := Sta.start ev_Category_HIERARCHY (Or.inr ⟨(hw _ (List.mem_of_getElem? (i := 15) rfl)), (hw _ (List.mem_of_getElem? (i := 18) rfl))⟩)
  obtain ⟨w_Category_PREFERENCE, ev_Category_PREFERENCE⟩ := exa_v m6
  have E_Category_PREFERENCE := Exa.start ev_Category_PREFERENCE m6
  have S_Category_PREFERENCE := Sta.start ev_Category_PREFERENCE (Or.inr ⟨(hw _ (List.mem_of_getElem? (i := 15) rfl)), (hw _ (List.mem_of_getElem? (i := 20) rfl))⟩)
  obtain ⟨w_Kind_USE, ev_Kind_USE⟩ := exa_v m8
  have E_Kind_USE := Exa.start ev_Kind_USE m8
  have S_Kind_USE := Sta.start ev_Kind_USE (Or.inr ⟨(hw _ (List.mem_of_getElem? (i := 6) rfl)), (hw _ (List.mem_of_getElem? (i := 25) rfl))⟩)
  obtain ⟨w_Category_FACT, ev_Category_FACT⟩ := exa_v m9
  have E_Category_FACT := Exa.start ev_Category_FACT m9
  have S_Category_FACT := Sta.start ev_Category_FACT (Or.inr ⟨(hw _ (List.mem_of_getElem? (i := 15) rfl)), (hw _ (List.mem_of_getElem? (i := 26) rfl))⟩)
  obtain ⟨w_Kind_DEFINE, ev_Kind_DEFINE⟩ := exa_v m12
  have E_Kind_DEFINE := Exa.start ev_Kind_DEFINE m12
  have S_Kind_DEFINE := Sta.start ev_Kind_DEFINE (Or.inr ⟨(hw _ (List.mem_of_getElem? (i := 6) rfl)), (hw _ (List.mem_of_getElem? (i := 28) rfl))⟩)
  obtain ⟨w_Kind_PREFER_ROLE, ev_Kind_PREFER_ROLE⟩ := exa_v m14
  have E_Kind_PREFER_ROLE := Exa.start ev_Kind_PREFER_ROLE m14
  have S_Kind_PREFER_ROLE := Sta.start ev_Kind_PREFER_ROLE (Or.inr ⟨(hw _ (List.mem_of_getElem? (i := 6) rfl)), (hw _ (List.mem_of_getElem? (i := 30) rfl))⟩)
  obtain ⟨w_Kind_HOLDS, ev_Kind_HOLDS⟩ := exa_v m16
  have E_Kind_HOLDS := Exa.start ev_Kind_HOLDS m16
  have S_Kind_HOLDS := Sta.start ev_Kind_HOLDS (Or.inr ⟨(hw _ (List.mem_of_getElem? (i := 6) rfl)), (hw _ (List.mem_of_getElem? (i := 32) rfl))⟩)
  obtain ⟨w_Kind_SUB_ACTIVITY, ev_Kind_SUB_ACTIVITY⟩ := exa_v m18
  have E_Kind_SUB_ACTIVITY := Exa.start ev_Kind_SUB_ACTIVITY m18
  have S_Kind_SUB_ACTIVITY := Sta.start ev_Kind_SUB_ACTIVITY (Or.inr ⟨(hw _ (List.mem_of_getElem? (i := 6) rfl)), (hw _ (List.mem_of_getElem? (i := 34) rfl))⟩)
  obtain ⟨w_Kind_ORDER, ev_Kind_ORDER⟩ := exa_v m20
  have E_Kind_ORDER := Exa.start ev_Kind_ORDER m20
  have S_Kind_ORDER := Sta.start ev_Kind_ORDER (Or.inr ⟨(hw _ (List.mem_of_getElem? (i := 6) rfl)), (hw _ (List.mem_of_getElem? (i := 36) rfl))⟩)
  obtain ⟨w_Category_ORDER, ev_Category_ORDER⟩ := exa_v m21
  have E_Category_ORDER := Exa.start ev_Category_ORDER m21
  have S_Category_ORDER := Sta.start ev_Category_ORDER (Or.inr ⟨(hw _ (List.mem_of_getElem? (i := 15) rfl)), (hw _ (List.mem_of_getElem? (i := 37) rfl))⟩)
  obtain ⟨w_Kind_EMPLOY, ev_Kind_EMPLOY⟩ := exa_v m24
  have E_Kind_EMPLOY := Exa.start ev_Kind_EMPLOY m24
  have S_Kind_EMPLOY := Sta.start ev_Kind_EMPLOY (Or.inr ⟨(hw _ (List.mem_of_getElem? (i := 6) rfl)), (hw _ (List.mem_of_getElem? (i := 39) rfl))⟩)
  obtain ⟨w_Kind_SUB_VIEW, ev_Kind_SUB_VIEW⟩ := exa_v m26
  have E_Kind_SUB_VIEW := Exa.start ev_Kind_SUB_VIEW m26
  have S_Kind_SUB_VIEW := Sta.start ev_Kind_SUB_VIEW (Or.inr ⟨(hw _ (List.mem_of_getElem? (i := 6) rfl)), (hw _ (List.mem_of_getElem? (i := 41) rfl))⟩)
  obtain ⟨w_Kind_SUB_ORGANISATION, ev_Kind_SUB_ORGANISATION⟩ := exa_v m28
  have E_Kind_SUB_ORGANISATION := Exa.start ev_Kind_SUB_ORGANISATION m28
  have S_Kind_SUB_ORGANISATION := Sta.start ev_Kind_SUB_ORGANISATION (Or.inr ⟨(hw _ (List.mem_of_getElem? (i := 6) rfl)), (hw _ (List.mem_of_getElem? (i := 43) rfl))⟩)
  obtain ⟨w_Kind_PROHIBITION, ev_Kind_PROHIBITION⟩ := exa_v m30
  have E_Kind_PROHIBITION := Exa.start ev_Kind_PROHIBITION m30
  have S_Kind_PROHIBITION := Sta.start ev_Kind_PROHIBITION (Or.inr ⟨(hw _ (List.mem_of_getElem? (i := 6) rfl)), (hw _ (List.mem_of_getElem? (i := 45) rfl))⟩)
  obtain ⟨w_Kind_PREFER_CONTEXT, ev_Kind_PREFER_CONTEXT⟩ := exa_v m32
  have E_Kind_PREFER_CONTEXT := Exa.start ev_Kind_PREFER_CONTEXT m32
  have S_Kind_PREFER_CONTEXT := Sta.start ev_Kind_PREFER_CONTEXT (Or.inr ⟨(hw _ (List.mem_of_getElem? (i := 6) rfl)), (hw _ (List.mem_of_getElem? (i := 47) rfl))⟩)
  obtain ⟨w_Kind_PREFER_VIEW, ev_Kind_PREFER_VIEW⟩ := exa_v m34
  have E_Kind_PREFER_VIEW := Exa.start ev_Kind_PREFER_VIEW m34
  have S_Kind_PREFER_VIEW := Sta.start ev_Kind_PREFER_VIEW (Or.inr ⟨(hw _ (List.mem_of_getElem? (i := 6) rfl)), (hw _ (List.mem_of_getElem? (i := 49) rfl))⟩)
  obtain ⟨w_Kind_SUB_ROLE, ev_Kind_SUB_ROLE⟩ := exa_v m36
  have E_Kind_SUB_ROLE := Exa.start ev_Kind_SUB_ROLE m36
  have S_Kind_SUB_ROLE := Sta.start ev_Kind_SUB_ROLE (Or.inr ⟨(hw _ (List.mem_of_getElem? (i := 6) rfl)), (hw _ (List.mem_of_getElem? (i := 51) rfl))⟩)
  obtain ⟨w_Kind_SEPARATED_ACTIVITY, ev_Kind_SEPARATED_ACTIVITY⟩ := exa_v m38
  have E_Kind_SEPARATED_ACTIVITY := Exa.start ev_Kind_SEPARATED_ACTIVITY m38
  have S_Kind_SEPARATED_ACTIVITY := Sta.start ev_Kind_SEPARATED_ACTIVITY (Or.inr ⟨(hw _ (List.mem_of_getElem? (i := 6) rfl)), (hw _ (List.mem_of_getElem? (i := 53) rfl))⟩)
  obtain ⟨w_Category_SEPARATION, ev_Category_SEPARATION⟩ := exa_v m39
  have E_Category_SEPARATION := Exa.start ev_Category_SEPARATION m39
  have S_Category_SEPARATION := Sta.start ev_Category_SEPARATION (Or.inr ⟨(hw _ (List.mem_of_getElem? (i := 15) rfl)), (hw _ (List.mem_of_getElem? (i := 54) rfl))⟩)
  obtain ⟨w_Kind_PREFER_ACTIVITY, ev_Kind_PREFER_ACTIVITY⟩ := exa_v m42
  have E_Kind_PREFER_ACTIVITY := Exa.start ev_Kind_PREFER_ACTIVITY m42
  have S_Kind_PREFER_ACTIVITY := Sta.start ev_Kind_PREFER_ACTIVITY (Or.inr ⟨(hw _ (List.mem_of_getElem? (i := 6) rfl)), (hw _ (List.mem_of_getElem? (i := 56) rfl))⟩)
  obtain ⟨w_Kind_SEPARATED_ROLE, ev_Kind_SEPARATED_ROLE⟩ := exa_v m44
  have E_Kind_SEPARATED_ROLE := Exa.start ev_Kind_SEPARATED_ROLE m44
  have S_Kind_SEPARATED_ROLE := Sta.start ev_Kind_SEPARATED_ROLE (Or.inr ⟨(hw _ (List.mem_of_getElem? (i := 6) rfl)), (hw _ (List.mem_of_getElem? (i := 58) rfl))⟩)
  obtain ⟨w_Kind_SEPARATED_CONTEXT, ev_Kind_SEPARATED_CONTEXT⟩ := exa_v m46
  have E_Kind_SEPARATED_CONTEXT := Exa.start ev_Kind_SEPARATED_CONTEXT m46
  have S_Kind_SEPARATED_CONTEXT := Sta.start ev_Kind_SEPARATED_CONTEXT (Or.inr ⟨(hw _ (List.mem_of_getElem? (i := 6) rfl)), (hw _ (List.mem_of_getElem? (i := 60) rfl))⟩)
  obtain ⟨w_Kind_CONSIDER, ev_Kind_CONSIDER⟩ := exa_v m48
  have E_Kind_CONSIDER := Exa.start ev_Kind_CONSIDER m48
  have S_Kind_CONSIDER := Sta.start ev_Kind_CONSIDER (Or.inr ⟨(hw _ (List.mem_of_getElem? (i := 6) rfl)), (hw _ (List.mem_of_getElem? (i := 62) rfl))⟩)
  obtain ⟨w_Kind_SUB_CONTEXT, ev_Kind_SUB_CONTEXT⟩ := exa_v m50
  have E_Kind_SUB_CONTEXT := Exa.start ev_Kind_SUB_CONTEXT m50
  have S_Kind_SUB_CONTEXT := Sta.start ev_Kind_SUB_CONTEXT (Or.inr ⟨(hw _ (List.mem_of_getElem? (i := 6) rfl)), (hw _ (List.mem_of_getElem? (i := 64) rfl))⟩)
  obtain ⟨w_Kind_SEPARATED_VIEW, ev_Kind_SEPARATED_VIEW⟩ := exa_v m52
  have E_Kind_SEPARATED_VIEW := Exa.start ev_Kind_SEPARATED_VIEW m52
  have S_Kind_SEPARATED_VIEW := Sta.start ev_Kind_SEPARATED_VIEW (Or.inr ⟨(hw _ (List.mem_of_getElem? (i := 6) rfl)), (hw _ (List.mem_of_getElem? (i := 66) rfl))⟩)
  have F_Kind_PERMISSION_category := own_fldR ev_Kind_PERMISSION ev_Category_RULE m2
  have F_Category_RULE_ordinal := own_fldI ev_Category_RULE m4
  have F_Category_HIERARCHY_ordinal := own_fldI ev_Category_HIERARCHY m5
  have F_Category_PREFERENCE_ordinal := own_fldI ev_Category_PREFERENCE m7
  have F_Kind_USE_category := own_fldR ev_Kind_USE ev_Category_FACT m10
  have F_Category_FACT_ordinal := own_fldI ev_Category_FACT m11
  have F_Kind_DEFINE_category := own_fldR ev_Kind_DEFINE ev_Category_FACT m13
  have F_Kind_PREFER_ROLE_category := own_fldR ev_Kind_PREFER_ROLE ev_Category_PREFERENCE m15
  have F_Kind_HOLDS_category := own_fldR ev_Kind_HOLDS ev_Category_FACT m17
  have F_Kind_SUB_ACTIVITY_category := own_fldR ev_Kind_SUB_ACTIVITY ev_Category_HIERARCHY m19
  have F_Kind_ORDER_category := own_fldR ev_Kind_ORDER ev_Category_ORDER m22
  have F_Category_ORDER_ordinal := own_fldI ev_Category_ORDER m23
  have F_Kind_EMPLOY_category := own_fldR ev_Kind_EMPLOY ev_Category_FACT m25
  have F_Kind_SUB_VIEW_category := own_fldR ev_Kind_SUB_VIEW ev_Category_HIERARCHY m27
  have F_Kind_SUB_ORGANISATION_category := own_fldR ev_Kind_SUB_ORGANISATION ev_Category_HIERARCHY m29
  have F_Kind_PROHIBITION_category := own_fldR ev_Kind_PROHIBITION ev_Category_RULE m31
  have F_Kind_PREFER_CONTEXT_category := own_fldR ev_Kind_PREFER_CONTEXT ev_Category_PREFERENCE m33
  have F_Kind_PREFER_VIEW_category := own_fldR ev_Kind_PREFER_VIEW ev_Category_PREFERENCE m35
  have F_Kind_SUB_ROLE_category := own_fldR ev_Kind_SUB_ROLE ev_Category_HIERARCHY m37
  have F_Kind_SEPARATED_ACTIVITY_category := own_fldR ev_Kind_SEPARATED_ACTIVITY ev_Category_SEPARATION m40
  have F_Category_SEPARATION_ordinal := own_fldI ev_Category_SEPARATION m41
  have F_Kind_PREFER_ACTIVITY_category := own_fldR ev_Kind_PREFER_ACTIVITY ev_Category_PREFERENCE m43
  have F_Kind_SEPARATED_ROLE_category := own_fldR ev_Kind_SEPARATED_ROLE ev_Category_SEPARATION m45
  have F_Kind_SEPARATED_CONTEXT_category := own_fldR ev_Kind_SEPARATED_CONTEXT ev_Category_SEPARATION m47
  have F_Kind_CONSIDER_category := own_fldR ev_Kind_CONSIDER ev_Category_FACT m49
  have F_Kind_SUB_CONTEXT_category := own_fldR ev_Kind_SUB_CONTEXT ev_Category_HIERARCHY m51
  have F_Kind_SEPARATED_VIEW_category := own_fldR ev_Kind_SEPARATED_VIEW ev_Category_SEPARATION m53
  obtain ⟨hk0, hk1⟩ := own_mod i0 (21 : Int32) 21 rfl (by decide)
  obtain ⟨k, hk⟩ : ∃ k, (i0 &&& (2147483647 : Int32)) % (21 : Int32) = k := ⟨_, rfl⟩
  rw [hk] at hk0 hk1
  obtain ⟨W, hW⟩ : ∃ W : Nat → Addr, W = (fun n => [w_Kind_PERMISSION, w_Kind_PROHIBITION, w_Kind_EMPLOY, w_Kind_USE, w_Kind_CONSIDER, w_Kind_DEFINE, w_Kind_HOLDS, w_Kind_ORDER, w_Kind_SUB_ORGANISATION, w_Kind_SUB_ROLE, w_Kind_SUB_VIEW, w_Kind_SUB_ACTIVITY, w_Kind_SUB_CONTEXT, w_Kind_PREFER_ROLE, w_Kind_PREFER_CONTEXT, w_Kind_PREFER_VIEW, w_Kind_PREFER_ACTIVITY, w_Kind_SEPARATED_ROLE, w_Kind_SEPARATED_VIEW, w_Kind_SEPARATED_ACTIVITY, w_Kind_SEPARATED_CONTEXT].getD n 0) := ⟨_, rfl⟩
  obtain ⟨G, hG⟩ : ∃ G : Nat → Addr, G = (fun n => [w_Category_RULE, w_Category_RULE, w_Category_FACT, w_Category_FACT, w_Category_FACT, w_Category_FACT, w_Category_FACT, w_Category_ORDER, w_Category_HIERARCHY, w_Category_HIERARCHY, w_Category_HIERARCHY, w_Category_HIERARCHY, w_Category_HIERARCHY, w_Category_PREFERENCE, w_Category_PREFERENCE, w_Category_PREFERENCE, w_Category_PREFERENCE, w_Category_SEPARATION, w_Category_SEPARATION, w_Category_SEPARATION, w_Category_SEPARATION].getD n 0) := ⟨_, rfl⟩
  have hE : ∀ i, i < 21 → Exa s s.heap (W i) "com/example/forbid_or_permit/forbidorpermit/Kind" := by rw [hW]; exact (fun i hi => match i, hi with | 0, _ => E_Kind_PERMISSION | 1, _ => E_Kind_PROHIBITION | 2, _ => E_Kind_EMPLOY | 3, _ => E_Kind_USE | 4, _ => E_Kind_CONSIDER | 5, _ => E_Kind_DEFINE | 6, _ => E_Kind_HOLDS | 7, _ => E_Kind_ORDER | 8, _ => E_Kind_SUB_ORGANISATION | 9, _ => E_Kind_SUB_ROLE | 10, _ => E_Kind_SUB_VIEW | 11, _ => E_Kind_SUB_ACTIVITY | 12, _ => E_Kind_SUB_CONTEXT | 13, _ => E_Kind_PREFER_ROLE | 14, _ => E_Kind_PREFER_CONTEXT | 15, _ => E_Kind_PREFER_VIEW | 16, _ => E_Kind_PREFER_ACTIVITY | 17, _ => E_Kind_SEPARATED_ROLE | 18, _ => E_Kind_SEPARATED_VIEW | 19, _ => E_Kind_SEPARATED_ACTIVITY | 20, _ => E_Kind_SEPARATED_CONTEXT | n + 21, h => absurd h (by omega))
  have hF : ∀ i, i < 21 → Fld s s.heap (W i) "com/example/forbid_or_permit/forbidorpermit/Kind" "category" "Lcom/example/forbid_or_permit/forbidorpermit/Kind$Category;" (.ref (G i)) := by rw [hW, hG]; exact (fun i hi => match i, hi with | 0, _ => F_Kind_PERMISSION_category | 1, _ => F_Kind_PROHIBITION_category | 2, _ => F_Kind_EMPLOY_category | 3, _ => F_Kind_USE_category | 4, _ => F_Kind_CONSIDER_category | 5, _ => F_Kind_DEFINE_category | 6, _ => F_Kind_HOLDS_category | 7, _ => F_Kind_ORDER_category | 8, _ => F_Kind_SUB_ORGANISATION_category | 9, _ => F_Kind_SUB_ROLE_category | 10, _ => F_Kind_SUB_VIEW_category | 11, _ => F_Kind_SUB_ACTIVITY_category | 12, _ => F_Kind_SUB_CONTEXT_category | 13, _ => F_Kind_PREFER_ROLE_category | 14, _ => F_Kind_PREFER_CONTEXT_category | 15, _ => F_Kind_PREFER_VIEW_category | 16, _ => F_Kind_PREFER_ACTIVITY_category | 17, _ => F_Kind_SEPARATED_ROLE_category | 18, _ => F_Kind_SEPARATED_VIEW_category | 19, _ => F_Kind_SEPARATED_ACTIVITY_category | 20, _ => F_Kind_SEPARATED_CONTEXT_category | n + 21, h => absurd h (by omega))
  have hC : ∀ i, i < 21 → ((G i = w_Category_HIERARCHY ∨ G i = w_Category_PREFERENCE) ↔ (8 ≤ i ∧ i ≤ 16)) := by rw [hG]; exact (fun i hi => match i, hi with | 0, _ => iff_of_false (fun q => q.elim (F_Category_RULE_ordinal.ne F_Category_HIERARCHY_ordinal (by decide)) (F_Category_RULE_ordinal.ne F_Category_PREFERENCE_ordinal (by decide))) (by decide) | 1, _ => iff_of_false (fun q => q.elim (F_Category_RULE_ordinal.ne F_Category_HIERARCHY_ordinal (by decide)) (F_Category_RULE_ordinal.ne F_Category_PREFERENCE_ordinal (by decide))) (by decide) | 2, _ => iff_of_false (fun q => q.elim (F_Category_FACT_ordinal.ne F_Category_HIERARCHY_ordinal (by decide)) (F_Category_FACT_ordinal.ne F_Category_PREFERENCE_ordinal (by decide))) (by decide) | 3, _ => iff_of_false (fun q => q.elim (F_Category_FACT_ordinal.ne F_Category_HIERARCHY_ordinal (by decide)) (F_Category_FACT_ordinal.ne F_Category_PREFERENCE_ordinal (by decide))) (by decide) | 4, _ => iff_of_false (fun q => q.elim (F_Category_FACT_ordinal.ne F_Category_HIERARCHY_ordinal (by decide)) (F_Category_FACT_ordinal.ne F_Category_PREFERENCE_ordinal (by decide))) (by decide) | 5, _ => iff_of_false (fun q => q.elim (F_Category_FACT_ordinal.ne F_Category_HIERARCHY_ordinal (by decide)) (F_Category_FACT_ordinal.ne F_Category_PREFERENCE_ordinal (by decide))) (by decide) | 6, _ => iff_of_false (fun q => q.elim (F_Category_FACT_ordinal.ne F_Category_HIERARCHY_ordinal (by decide)) (F_Category_FACT_ordinal.ne F_Category_PREFERENCE_ordinal (by decide))) (by decide) | 7, _ => iff_of_false (fun q => q.elim (F_Category_ORDER_ordinal.ne F_Category_HIERARCHY_ordinal (by decide)) (F_Category_ORDER_ordinal.ne F_Category_PREFERENCE_ordinal (by decide))) (by decide) | 8, _ => iff_of_true (Or.inl rfl) (by decide) | 9, _ => iff_of_true (Or.inl rfl) (by decide) | 10, _ => iff_of_true (Or.inl rfl) (by decide) | 11, _ => iff_of_true (Or.inl rfl) (by decide) | 12, _ => iff_of_true (Or.inl rfl) (by decide) | 13, _ => iff_of_true (Or.inr rfl) (by decide) | 14, _ => iff_of_true (Or.inr rfl) (by decide) | 15, _ => iff_of_true (Or.inr rfl) (by decide) | 16, _ => iff_of_true (Or.inr rfl) (by decide) | 17, _ => iff_of_false (fun q => q.elim (F_Category_SEPARATION_ordinal.ne F_Category_HIERARCHY_ordinal (by decide)) (F_Category_SEPARATION_ordinal.ne F_Category_PREFERENCE_ordinal (by decide))) (by decide) | 18, _ => iff_of_false (fun q => q.elim (F_Category_SEPARATION_ordinal.ne F_Category_HIERARCHY_ordinal (by decide)) (F_Category_SEPARATION_ordinal.ne F_Category_PREFERENCE_ordinal (by decide))) (by decide) | 19, _ => iff_of_false (fun q => q.elim (F_Category_SEPARATION_ordinal.ne F_Category_HIERARCHY_ordinal (by decide)) (F_Category_SEPARATION_ordinal.ne F_Category_PREFERENCE_ordinal (by decide))) (by decide) | 20, _ => iff_of_false (fun q => q.elim (F_Category_SEPARATION_ordinal.ne F_Category_HIERARCHY_ordinal (by decide)) (F_Category_SEPARATION_ordinal.ne F_Category_PREFERENCE_ordinal (by decide))) (by decide) | n + 21, h => absurd h (by omega))
  have hlt := own_clamp hk0 (n := 21) hk1
  have hr1 : (if G k.toNatClampNeg = w_Category_HIERARCHY ∨ G k.toNatClampNeg = w_Category_PREFERENCE then (1 : Int32) else 0) = if k < (8 : Int32) then 0 else if (16 : Int32) < k then 0 else 1 := by
    simp only [hC _ hlt]
    have key : ∀ j, j < 21 → (if 8 ≤ j ∧ j ≤ 16 then (1 : Int32) else 0) = if Int32.ofNat j < (8 : Int32) then 0 else if (16 : Int32) < Int32.ofNat j then 0 else 1 := by decide
    have := key _ hlt
    rw [← own_nat hk0] at this; exact this
  have T_PERMISSION : Sta s s.heap "com/example/forbid_or_permit/forbidorpermit/Kind" "PERMISSION" "Lcom/example/forbid_or_permit/forbidorpermit/Kind;" (.ref (W 0)) := by rw [hW]; exact S_Kind_PERMISSION
  have T_PROHIBITION : Sta s s.heap "com/example/forbid_or_permit/forbidorpermit/Kind" "PROHIBITION" "Lcom/example/forbid_or_permit/forbidorpermit/Kind;" (.ref (W 1)) := by rw [hW]; exact S_Kind_PROHIBITION
  have T_EMPLOY : Sta s s.heap "com/example/forbid_or_permit/forbidorpermit/Kind" "EMPLOY" "Lcom/example/forbid_or_permit/forbidorpermit/Kind;" (.ref (W 2)) := by rw [hW]; exact S_Kind_EMPLOY
  have T_USE : Sta s s.heap "com/example/forbid_or_permit/forbidorpermit/Kind" "USE" "Lcom/example/forbid_or_permit/forbidorpermit/Kind;" (.ref (W 3)) := by rw [hW]; exact S_Kind_USE
  have T_CONSIDER : Sta s s.heap "com/example/forbid_or_permit/forbidorpermit/Kind" "CONSIDER" "Lcom/example/forbid_or_permit/forbidorpermit/Kind;" (.ref (W 4)) := by rw [hW]; exact S_Kind_CONSIDER
  have T_DEFINE : Sta s s.heap "com/example/forbid_or_permit/forbidorpermit/Kind" "DEFINE" "Lcom/example/forbid_or_permit/forbidorpermit/Kind;" (.ref (W 5)) := by rw [hW]; exact S_Kind_DEFINE
  have T_HOLDS : Sta s s.heap "com/example/forbid_or_permit/forbidorpermit/Kind" "HOLDS" "Lcom/example/forbid_or_permit/forbidorpermit/Kind;" (.ref (W 6)) := by rw [hW]; exact S_Kind_HOLDS
  have T_ORDER : Sta s s.heap "com/example/forbid_or_permit/forbidorpermit/Kind" "ORDER" "Lcom/example/forbid_or_permit/forbidorpermit/Kind;" (.ref (W 7)) := by rw [hW]; exact S_Kind_ORDER
  have T_SUB_ORGANISATION : Sta s s.heap "com/example/forbid_or_permit/forbidorpermit/Kind" "SUB_ORGANISATION" "Lcom/example/forbid_or_permit/forbidorpermit/Kind;" (.ref (W 8)) := by rw [hW]; exact S_Kind_SUB_ORGANISATION
  have T_SUB_ROLE : Sta s s.heap "com/example/forbid_or_permit/forbidorpermit/Kind" "SUB_ROLE" "Lcom/example/forbid_or_permit/forbidorpermit/Kind;" (.ref (W 9)) := by rw [hW]; exact S_Kind_SUB_ROLE
  have T_SUB_VIEW : Sta s s.heap "com/example/forbid_or_permit/forbidorpermit/Kind" "SUB_VIEW" "Lcom/example/forbid_or_permit/forbidorpermit/Kind;" (.ref (W 10)) := by rw [hW]; exact S_Kind_SUB_VIEW
  have T_SUB_ACTIVITY : Sta s s.heap "com/example/forbid_or_permit/forbidorpermit/Kind" "SUB_ACTIVITY" "Lcom/example/forbid_or_permit/forbidorpermit/Kind;" (.ref (W 11)) := by rw [hW]; exact S_Kind_SUB_ACTIVITY
  have T_SUB_CONTEXT : Sta s s.heap "com/example/forbid_or_permit/forbidorpermit/Kind" "SUB_CONTEXT" "Lcom/example/forbid_or_permit/forbidorpermit/Kind;" (.ref (W 12)) := by rw [hW]; exact S_Kind_SUB_CONTEXT
  have T_PREFER_ROLE : Sta s s.heap "com/example/forbid_or_permit/forbidorpermit/Kind" "PREFER_ROLE" "Lcom/example/forbid_or_permit/forbidorpermit/Kind;" (.ref (W 13)) := by rw [hW]; exact S_Kind_PREFER_ROLE
  have T_PREFER_CONTEXT : Sta s s.heap "com/example/forbid_or_permit/forbidorpermit/Kind" "PREFER_CONTEXT" "Lcom/example/forbid_or_permit/forbidorpermit/Kind;" (.ref (W 14)) := by rw [hW]; exact S_Kind_PREFER_CONTEXT
  have T_PREFER_VIEW : Sta s s.heap "com/example/forbid_or_permit/forbidorpermit/Kind" "PREFER_VIEW" "Lcom/example/forbid_or_permit/forbidorpermit/Kind;" (.ref (W 15)) := by rw [hW]; exact S_Kind_PREFER_VIEW
  have T_PREFER_ACTIVITY : Sta s s.heap "com/example/forbid_or_permit/forbidorpermit/Kind" "PREFER_ACTIVITY" "Lcom/example/forbid_or_permit/forbidorpermit/Kind;" (.ref (W 16)) := by rw [hW]; exact S_Kind_PREFER_ACTIVITY
  have T_SEPARATED_ROLE : Sta s s.heap "com/example/forbid_or_permit/forbidorpermit/Kind" "SEPARATED_ROLE" "Lcom/example/forbid_or_permit/forbidorpermit/Kind;" (.ref (W 17)) := by rw [hW]; exact S_Kind_SEPARATED_ROLE
  have T_SEPARATED_VIEW : Sta s s.heap "com/example/forbid_or_permit/forbidorpermit/Kind" "SEPARATED_VIEW" "Lcom/example/forbid_or_permit/forbidorpermit/Kind;" (.ref (W 18)) := by rw [hW]; exact S_Kind_SEPARATED_VIEW
  have T_SEPARATED_ACTIVITY : Sta s s.heap "com/example/forbid_or_permit/forbidorpermit/Kind" "SEPARATED_ACTIVITY" "Lcom/example/forbid_or_permit/forbidorpermit/Kind;" (.ref (W 19)) := by rw [hW]; exact S_Kind_SEPARATED_ACTIVITY
  have T_SEPARATED_CONTEXT : Sta s s.heap "com/example/forbid_or_permit/forbidorpermit/Kind" "SEPARATED_CONTEXT" "Lcom/example/forbid_or_permit/forbidorpermit/Kind;" (.ref (W 20)) := by rw [hW]; exact S_Kind_SEPARATED_CONTEXT
  obtain ⟨n, o, h1, h2, h3, _, L, rfl, ⟨rfl, N, -⟩, hq⟩ := rm0 l s _ hw tables_1 i0 k _ _ W _ _ s.heap s.heap.size (Nat.le_refl _) T_PERMISSION T_PROHIBITION T_EMPLOY T_USE T_CONSIDER T_DEFINE T_HOLDS T_ORDER T_SUB_ORGANISATION T_SUB_ROLE T_SUB_VIEW T_SUB_ACTIVITY T_SUB_CONTEXT T_PREFER_ROLE T_PREFER_CONTEXT T_PREFER_VIEW T_PREFER_ACTIVITY T_SEPARATED_ROLE T_SEPARATED_VIEW T_SEPARATED_ACTIVITY T_SEPARATED_CONTEXT hk hk0 hk1 (hE _ hlt) (hF _ hlt) S_Category_HIERARCHY S_Category_PREFERENCE rfl hr1 p e ha hcas hclk s m _ below hf ((Spec.applies_iff_loose hf).mp happ).1 ⟨rfl, State.Warmed39.refl s, rfl⟩ trivial
  refine ⟨n, _, h1, h2, h3, hpost _ _ _ _ _ _ ⟨Cond.after_iff.mpr rfl, Cond.after_iff.mpr (eq_i res_at (Term.int_eval (1)) rfl), trivial⟩ ⟨hq.1, hq.2.1, (hq.2.2.sift fun y hy => Or.inr (N y hy)).mono (by decide) (by decide)⟩⟩
theorem main_1_1 : Claimed_1_1 := comes_1 fun _ _ _ _ _ _ h hF => ⟨h.1, hF⟩
theorem main_1_2 : Claimed_1_2 := comes_1 fun _ _ _ _ _ _ h hF => ⟨h.2.1, hF⟩
end Jvm.Pilot.@@N@@
namespace Jvm.Pilot.@@N@@
open Jvm Jvm.ClassFile Sem Op Lib Jvm.Free Jvm.Stand Jvm.Pilot.@@N@@.Jvm.D
/-! MADE BY PROGRAM (witnessworld.py) out of the Statement's table words and the real class files: 13 classes; the members and pool entries that the words name. The judged class is class 1, her method 3. -/
namespace start1
open Jvm.ClassFile
def u (s : String) : CpInfo := .utf8 (stringToUtf16 s)
/-- a pool by its gaps: so many unusable entries, then the entry; so many at the end -/
def gap : Nat → List CpInfo → List CpInfo
  | 0, r => r
  | n + 1, r => .unusable :: gap n r
def poolList (es : List (Nat × CpInfo)) (last : Nat) : List CpInfo := es.foldr (fun e r => gap e.1 (e.2 :: r)) (gap last [])
def pool (es : List (Nat × CpInfo)) (last : Nat) : Array CpInfo := ⟨poolList es last⟩
def fileOf (pool : Array CpInfo) (this : Nat) (attrs : Array Attribute := #[]) (ms : Array MethodInfo := #[]) (fl : Nat := 33) (sup : Nat := 0) (ifs : Array Nat := #[]) (fds : Array FieldInfo := #[]) : ClassFile where
  minorVersion := 0
  majorVersion := 65
  constantPool := pool
  accessFlags := fl
  thisClass := this
  superClass := sup
  interfaces := ifs
  fields := fds
  methods := ms
  attributes := attrs
def plain (name : String) (sup : Option ClassId) : Class where
  name := name
  kind := .ordinary
  loader := none
  accessFlags := 33
  super := sup
  interfaces := #[]
  cf := none
  fields := #[]
  methods := #[]
  instanceTypes := #[]
  staticTypes := #[]
  resolved := #[]
  callSites := []
  init := .initialized
  statics := none
  mirror := none

def pool0 : Array CpInfo := pool [(5, u "<init>"), (0, u "()V"), (1, .class_ 10), (1, u "java/lang/Object")] 113

def k0m0 : Method := { name := "<init>", desc := "()V", sig := { parameters := [], returnType := none }, accessFlags := 1, code := none }
/-- java/lang/Object -/
def k0 : Class := { plain "java/lang/Object" none with
  accessFlags := 33
  interfaces := #[]
  cf := some (fileOf pool0 8 #[] #[{ accessFlags := 1, nameIndex := 5, descriptorIndex := 6, attributes := #[] }] 33 0 #[] #[])
  fields := #[]
  methods := #[k0m0]
  instanceTypes := #[]
  staticTypes := #[]
  resolved := Array.replicate 124 none
  statics := none }

def pool1 : Array CpInfo := pool [(2, .class_ 4), (1, u "java/lang/Object"), (0, u "<init>"), (0, u "()V"), (0, .fieldref 8 9), (0, .class_ 10), (0, .nameAndType 11 12), (0, u "com/example/forbid_or_permit/forbidorpermit/Kind"), (0, u "PERMISSION"), (0, u "Lcom/example/forbid_or_permit/forbidorpermit/Kind;"), (0, .fieldref 8 14), (0, .nameAndType 15 12), (0, u "PROHIBITION"), (0, .fieldref 8 17), (0, .nameAndType 18 12), (0, u "EMPLOY"), (0, .fieldref 8 20), (0, .nameAndType 21 12), (0, u "USE"), (0, .fieldref 8 23), (0, .nameAndType 24 12), (0, u "CONSIDER"), (0, .fieldref 8 26), (0, .nameAndType 27 12), (0, u "DEFINE"), (0, .fieldref 8 29), (0, .nameAndType 30 12), (0, u "HOLDS"), (0, .fieldref 8 32), (0, .nameAndType 33 12), (0, u "ORDER"), (0, .fieldref 8 35), (0, .nameAndType 36 12), (0, u "SUB_ORGANISATION"), (0, .fieldref 8 38), (0, .nameAndType 39 12), (0, u "SUB_ROLE"), (0, .fieldref 8 41), (0, .nameAndType 42 12), (0, u "SUB_VIEW"), (0, .fieldref 8 44), (0, .nameAndType 45 12), (0, u "SUB_ACTIVITY"), (0, .fieldref 8 47), (0, .nameAndType 48 12), (0, u "SUB_CONTEXT"), (0, .fieldref 8 50), (0, .nameAndType 51 12), (0, u "PREFER_ROLE"), (0, .fieldref 8 53), (0, .nameAndType 54 12), (0, u "PREFER_CONTEXT"), (0, .fieldref 8 56), (0, .nameAndType 57 12), (0, u "PREFER_VIEW"), (0, .fieldref 8 59), (0, .nameAndType 60 12), (0, u "PREFER_ACTIVITY"), (0, .fieldref 8 62), (0, .nameAndType 63 12), (0, u "SEPARATED_ROLE"), (0, .fieldref 8 65), (0, .nameAndType 66 12), (0, u "SEPARATED_VIEW"), (0, .fieldref 8 68), (0, .nameAndType 69 12), (0, u "SEPARATED_ACTIVITY"), (0, .fieldref 8 71), (0, .nameAndType 72 12), (0, u "SEPARATED_CONTEXT"), (0, .integer 2147483647), (0, .methodref 75 76), (0, .class_ 77), (0, .nameAndType 78 79), (0, u "com/example/forbid_or_permit/forbidorpermit/KindLinksPinLaw"), (0, u "kindAt"), (0, u "(I)Lcom/example/forbid_or_permit/forbidorpermit/Kind;"), (0, .methodref 8 81), (0, .nameAndType 82 83), (0, u "links"), (0, u "()Z"), (0, .methodref 75 85), (0, .nameAndType 86 87), (0, u "expected"), (0, u "(I)Z"), (3, u "law")] 2

def k1m0 : Method := { name := "<init>", desc := "()V", sig := { parameters := [], returnType := none }, accessFlags := 2, code := none }
def k1c1 : Code := { maxStack := 2, maxLocals := 1, code := method_2_code, exceptionTable := #[], attributes := #[] }
def k1m1 : Method := { name := "kindAt", desc := "(I)Lcom/example/forbid_or_permit/forbidorpermit/Kind;", sig := { parameters := [.int], returnType := some (.object "com/example/forbid_or_permit/forbidorpermit/Kind") }, accessFlags := 10, code := some k1c1 }
def k1c2 : Code := { maxStack := 2, maxLocals := 1, code := method_3_code, exceptionTable := #[], attributes := #[] }
def k1m2 : Method := { name := "expected", desc := "(I)Z", sig := { parameters := [.int], returnType := some .boolean }, accessFlags := 10, code := some k1c2 }
def k1c3 : Code := { maxStack := 2, maxLocals := 3, code := code, exceptionTable := #[], attributes := #[] }
def k1m3 : Method := { name := "law", desc := "(I)Z", sig := { parameters := [.int], returnType := some .boolean }, accessFlags := 9, code := some k1c3 }
/-- com/example/forbid_or_permit/forbidorpermit/KindLinksPinLaw -/
def k1 : Class := { plain "com/example/forbid_or_permit/forbidorpermit/KindLinksPinLaw" (some 0) with
  accessFlags := 49
  interfaces := #[]
  cf := some (fileOf pool1 75 #[] #[{ accessFlags := 2, nameIndex := 5, descriptorIndex := 6, attributes := #[] }, { accessFlags := 10, nameIndex := 78, descriptorIndex := 79, attributes := #[] }, { accessFlags := 10, nameIndex := 86, descriptorIndex := 87, attributes := #[] }, { accessFlags := 9, nameIndex := 91, descriptorIndex := 87, attributes := #[] }] 49 2 #[] #[])
  fields := #[]
  methods := #[k1m0, k1m1, k1m2, k1m3]
  instanceTypes := #[]
  staticTypes := #[]
  resolved := Array.replicate 94 none
  statics := none }

def pool2 : Array CpInfo := pool [(1, .class_ 2), (0, u "java/lang/constant/Constable"), (0, .class_ 4), (0, u "java/lang/Object")] 6

/-- java/lang/constant/Constable -/
def k2 : Class := { plain "java/lang/constant/Constable" (some 0) with
  accessFlags := 1537
  interfaces := #[]
  cf := some (fileOf pool2 1 #[] #[] 1537 3 #[] #[])
  fields := #[]
  methods := #[]
  instanceTypes := #[]
  staticTypes := #[]
  resolved := Array.replicate 11 none
  statics := none }

def pool3 : Array CpInfo := pool [(1, .class_ 2), (0, u "java/lang/Comparable"), (0, .class_ 4), (0, u "java/lang/Object")] 7

/-- java/lang/Comparable -/
def k3 : Class := { plain "java/lang/Comparable" (some 0) with
  accessFlags := 1537
  interfaces := #[]
  cf := some (fileOf pool3 1 #[] #[] 1537 3 #[] #[])
  fields := #[]
  methods := #[]
  instanceTypes := #[]
  staticTypes := #[]
  resolved := Array.replicate 12 none
  statics := none }

def pool4 : Array CpInfo := pool [(1, .class_ 2), (0, u "java/io/Serializable"), (0, .class_ 4), (0, u "java/lang/Object")] 2

/-- java/io/Serializable -/
def k4 : Class := { plain "java/io/Serializable" (some 0) with
  accessFlags := 1537
  interfaces := #[]
  cf := some (fileOf pool4 1 #[] #[] 1537 3 #[] #[])
  fields := #[]
  methods := #[]
  instanceTypes := #[]
  staticTypes := #[]
  resolved := Array.replicate 7 none
  statics := none }

def pool5 : Array CpInfo := pool [(2, .class_ 4), (1, u "java/lang/Enum"), (0, u "name"), (0, u "Ljava/lang/String;"), (2, u "ordinal"), (0, u "I"), (1, .class_ 14), (1, u "java/lang/Object"), (4, u "hash"), (86, .class_ 108), (1, u "java/lang/Enum$EnumDesc"), (2, .class_ 112), (0, u "java/lang/constant/Constable"), (0, .class_ 114), (0, u "java/lang/Comparable"), (0, .class_ 116), (0, u "java/io/Serializable")] 87

/-- java/lang/Enum -/
def k5 : Class := { plain "java/lang/Enum" (some 0) with
  accessFlags := 1057
  interfaces := #[2, 3, 4]
  cf := some (fileOf pool5 2 #[.nestMembers #[106]] #[] 1057 12 #[111, 113, 115] #[{ accessFlags := 18, nameIndex := 5, descriptorIndex := 6, attributes := #[] }, { accessFlags := 18, nameIndex := 9, descriptorIndex := 10, attributes := #[] }, { accessFlags := 2, nameIndex := 19, descriptorIndex := 10, attributes := #[] }])
  fields := #[{ name := "name", type := (.object "java/lang/String"), accessFlags := 18, slot := 0, constantValue := 0 }, { name := "ordinal", type := .int, accessFlags := 18, slot := 1, constantValue := 0 }, { name := "hash", type := .int, accessFlags := 2, slot := 2, constantValue := 0 }]
  methods := #[]
  instanceTypes := #[(.object "java/lang/String"), .int, .int]
  staticTypes := #[]
  resolved := Array.replicate 204 none
  statics := none }

def pool6 : Array CpInfo := pool [(1, .class_ 2), (0, u "com/example/forbid_or_permit/forbidorpermit/Kind"), (2, u "PERMISSION"), (0, u "Lcom/example/forbid_or_permit/forbidorpermit/Kind;"), (2, u "PROHIBITION"), (2, u "EMPLOY"), (2, u "USE"), (2, u "CONSIDER"), (2, u "DEFINE"), (2, u "HOLDS"), (2, u "ORDER"), (2, u "SUB_ORGANISATION"), (2, u "SUB_ROLE"), (2, u "SUB_VIEW"), (2, u "SUB_ACTIVITY"), (2, u "SUB_CONTEXT"), (2, u "PREFER_ROLE"), (2, u "PREFER_CONTEXT"), (2, u "PREFER_VIEW"), (2, u "PREFER_ACTIVITY"), (2, u "SEPARATED_ROLE"), (2, u "SEPARATED_VIEW"), (2, u "SEPARATED_ACTIVITY"), (2, u "SEPARATED_CONTEXT"), (2, u "$VALUES"), (0, u "[Lcom/example/forbid_or_permit/forbidorpermit/Kind;"), (6, .class_ 79), (1, u "java/lang/Enum"), (8, u "keyword"), (0, u "Ljava/lang/String;"), (0, .fieldref 1 91), (0, .nameAndType 92 93), (0, u "category"), (0, u "Lcom/example/forbid_or_permit/forbidorpermit/Kind$Category;"), (8, u "parameters"), (0, u "Ljava/util/List;"), (2, u "repeatsLast"), (0, u "Z"), (1, .class_ 111), (1, u "com/example/forbid_or_permit/forbidorpermit/Kind$Sentence"), (4, u "sentence"), (0, u "Lcom/example/forbid_or_permit/forbidorpermit/Kind$Sentence;"), (6, .class_ 126), (1, u "com/example/forbid_or_permit/forbidorpermit/Kind$Category"), (16, .fieldref 124 144), (0, .nameAndType 145 93), (0, u "HIERARCHY"), (0, .fieldref 124 147), (0, .nameAndType 148 93), (0, u "PREFERENCE"), (195, u "()Z"), (3, u "links")] 34

def k6c0 : Code := { maxStack := 2, maxLocals := 1, code := prog_18_method_11_code, exceptionTable := #[], attributes := #[] }
def k6m0 : Method := { name := "links", desc := "()Z", sig := { parameters := [], returnType := some .boolean }, accessFlags := 1, code := some k6c0 }
/-- com/example/forbid_or_permit/forbidorpermit/Kind -/
def k6 : Class := { plain "com/example/forbid_or_permit/forbidorpermit/Kind" (some 5) with
  accessFlags := 16433
  interfaces := #[]
  cf := some (fileOf pool6 1 #[.nestMembers #[109, 124]] #[{ accessFlags := 1, nameIndex := 348, descriptorIndex := 344, attributes := #[] }] 16433 77 #[] #[{ accessFlags := 16409, nameIndex := 5, descriptorIndex := 6, attributes := #[] }, { accessFlags := 16409, nameIndex := 9, descriptorIndex := 6, attributes := #[] }, { accessFlags := 16409, nameIndex := 12, descriptorIndex := 6, attributes := #[] }, { accessFlags := 16409, nameIndex := 15, descriptorIndex := 6, attributes := #[] }, { accessFlags := 16409, nameIndex := 18, descriptorIndex := 6, attributes := #[] }, { accessFlags := 16409, nameIndex := 21, descriptorIndex := 6, attributes := #[] }, { accessFlags := 16409, nameIndex := 24, descriptorIndex := 6, attributes := #[] }, { accessFlags := 16409, nameIndex := 27, descriptorIndex := 6, attributes := #[] }, { accessFlags := 16409, nameIndex := 30, descriptorIndex := 6, attributes := #[] }, { accessFlags := 16409, nameIndex := 33, descriptorIndex := 6, attributes := #[] }, { accessFlags := 16409, nameIndex := 36, descriptorIndex := 6, attributes := #[] }, { accessFlags := 16409, nameIndex := 39, descriptorIndex := 6, attributes := #[] }, { accessFlags := 16409, nameIndex := 42, descriptorIndex := 6, attributes := #[] }, { accessFlags := 16409, nameIndex := 45, descriptorIndex := 6, attributes := #[] }, { accessFlags := 16409, nameIndex := 48, descriptorIndex := 6, attributes := #[] }, { accessFlags := 16409, nameIndex := 51, descriptorIndex := 6, attributes := #[] }, { accessFlags := 16409, nameIndex := 54, descriptorIndex := 6, attributes := #[] }, { accessFlags := 16409, nameIndex := 57, descriptorIndex := 6, attributes := #[] }, { accessFlags := 16409, nameIndex := 60, descriptorIndex := 6, attributes := #[] }, { accessFlags := 16409, nameIndex := 63, descriptorIndex := 6, attributes := #[] }, { accessFlags := 16409, nameIndex := 66, descriptorIndex := 6, attributes := #[] }, { accessFlags := 18, nameIndex := 88, descriptorIndex := 89, attributes := #[] }, { accessFlags := 18, nameIndex := 92, descriptorIndex := 93, attributes := #[] }, { accessFlags := 18, nameIndex := 102, descriptorIndex := 103, attributes := #[] }, { accessFlags := 18, nameIndex := 106, descriptorIndex := 107, attributes := #[] }, { accessFlags := 18, nameIndex := 116, descriptorIndex := 117, attributes := #[] }, { accessFlags := 4122, nameIndex := 69, descriptorIndex := 70, attributes := #[] }])
  fields := #[{ name := "PERMISSION", type := (.object "com/example/forbid_or_permit/forbidorpermit/Kind"), accessFlags := 16409, slot := 0, constantValue := 0 }, { name := "PROHIBITION", type := (.object "com/example/forbid_or_permit/forbidorpermit/Kind"), accessFlags := 16409, slot := 1, constantValue := 0 }, { name := "EMPLOY", type := (.object "com/example/forbid_or_permit/forbidorpermit/Kind"), accessFlags := 16409, slot := 2, constantValue := 0 }, { name := "USE", type := (.object "com/example/forbid_or_permit/forbidorpermit/Kind"), accessFlags := 16409, slot := 3, constantValue := 0 }, { name := "CONSIDER", type := (.object "com/example/forbid_or_permit/forbidorpermit/Kind"), accessFlags := 16409, slot := 4, constantValue := 0 }, { name := "DEFINE", type := (.object "com/example/forbid_or_permit/forbidorpermit/Kind"), accessFlags := 16409, slot := 5, constantValue := 0 }, { name := "HOLDS", type := (.object "com/example/forbid_or_permit/forbidorpermit/Kind"), accessFlags := 16409, slot := 6, constantValue := 0 }, { name := "ORDER", type := (.object "com/example/forbid_or_permit/forbidorpermit/Kind"), accessFlags := 16409, slot := 7, constantValue := 0 }, { name := "SUB_ORGANISATION", type := (.object "com/example/forbid_or_permit/forbidorpermit/Kind"), accessFlags := 16409, slot := 8, constantValue := 0 }, { name := "SUB_ROLE", type := (.object "com/example/forbid_or_permit/forbidorpermit/Kind"), accessFlags := 16409, slot := 9, constantValue := 0 }, { name := "SUB_VIEW", type := (.object "com/example/forbid_or_permit/forbidorpermit/Kind"), accessFlags := 16409, slot := 10, constantValue := 0 }, { name := "SUB_ACTIVITY", type := (.object "com/example/forbid_or_permit/forbidorpermit/Kind"), accessFlags := 16409, slot := 11, constantValue := 0 }, { name := "SUB_CONTEXT", type := (.object "com/example/forbid_or_permit/forbidorpermit/Kind"), accessFlags := 16409, slot := 12, constantValue := 0 }, { name := "PREFER_ROLE", type := (.object "com/example/forbid_or_permit/forbidorpermit/Kind"), accessFlags := 16409, slot := 13, constantValue := 0 }, { name := "PREFER_CONTEXT", type := (.object "com/example/forbid_or_permit/forbidorpermit/Kind"), accessFlags := 16409, slot := 14, constantValue := 0 }, { name := "PREFER_VIEW", type := (.object "com/example/forbid_or_permit/forbidorpermit/Kind"), accessFlags := 16409, slot := 15, constantValue := 0 }, { name := "PREFER_ACTIVITY", type := (.object "com/example/forbid_or_permit/forbidorpermit/Kind"), accessFlags := 16409, slot := 16, constantValue := 0 }, { name := "SEPARATED_ROLE", type := (.object "com/example/forbid_or_permit/forbidorpermit/Kind"), accessFlags := 16409, slot := 17, constantValue := 0 }, { name := "SEPARATED_VIEW", type := (.object "com/example/forbid_or_permit/forbidorpermit/Kind"), accessFlags := 16409, slot := 18, constantValue := 0 }, { name := "SEPARATED_ACTIVITY", type := (.object "com/example/forbid_or_permit/forbidorpermit/Kind"), accessFlags := 16409, slot := 19, constantValue := 0 }, { name := "SEPARATED_CONTEXT", type := (.object "com/example/forbid_or_permit/forbidorpermit/Kind"), accessFlags := 16409, slot := 20, constantValue := 0 }, { name := "keyword", type := (.object "java/lang/String"), accessFlags := 18, slot := 3, constantValue := 0 }, { name := "category", type := (.object "com/example/forbid_or_permit/forbidorpermit/Kind$Category"), accessFlags := 18, slot := 4, constantValue := 0 }, { name := "parameters", type := (.object "java/util/List"), accessFlags := 18, slot := 5, constantValue := 0 }, { name := "repeatsLast", type := .boolean, accessFlags := 18, slot := 6, constantValue := 0 }, { name := "sentence", type := (.object "com/example/forbid_or_permit/forbidorpermit/Kind$Sentence"), accessFlags := 18, slot := 7, constantValue := 0 }, { name := "$VALUES", type := (.array (.object "com/example/forbid_or_permit/forbidorpermit/Kind")), accessFlags := 4122, slot := 21, constantValue := 0 }]
  methods := #[k6m0]
  instanceTypes := #[(.object "java/lang/String"), .int, .int, (.object "java/lang/String"), (.object "com/example/forbid_or_permit/forbidorpermit/Kind$Category"), (.object "java/util/List"), .boolean, (.object "com/example/forbid_or_permit/forbidorpermit/Kind$Sentence")]
  staticTypes := #[(.object "com/example/forbid_or_permit/forbidorpermit/Kind"), (.object "com/example/forbid_or_permit/forbidorpermit/Kind"), (.object "com/example/forbid_or_permit/forbidorpermit/Kind"), (.object "com/example/forbid_or_permit/forbidorpermit/Kind"), (.object "com/example/forbid_or_permit/forbidorpermit/Kind"), (.object "com/example/forbid_or_permit/forbidorpermit/Kind"), (.object "com/example/forbid_or_permit/forbidorpermit/Kind"), (.object "com/example/forbid_or_permit/forbidorpermit/Kind"), (.object "com/example/forbid_or_permit/forbidorpermit/Kind"), (.object "com/example/forbid_or_permit/forbidorpermit/Kind"), (.object "com/example/forbid_or_permit/forbidorpermit/Kind"), (.object "com/example/forbid_or_permit/forbidorpermit/Kind"), (.object "com/example/forbid_or_permit/forbidorpermit/Kind"), (.object "com/example/forbid_or_permit/forbidorpermit/Kind"), (.object "com/example/forbid_or_permit/forbidorpermit/Kind"), (.object "com/example/forbid_or_permit/forbidorpermit/Kind"), (.object "com/example/forbid_or_permit/forbidorpermit/Kind"), (.object "com/example/forbid_or_permit/forbidorpermit/Kind"), (.object "com/example/forbid_or_permit/forbidorpermit/Kind"), (.object "com/example/forbid_or_permit/forbidorpermit/Kind"), (.object "com/example/forbid_or_permit/forbidorpermit/Kind"), (.array (.object "com/example/forbid_or_permit/forbidorpermit/Kind"))]
  resolved := Array.replicate 383 none
  statics := some 0 }

def pool7 : Array CpInfo := pool [(1, .class_ 2), (0, u "com/example/forbid_or_permit/forbidorpermit/Kind$Category"), (2, u "RULE"), (0, u "Lcom/example/forbid_or_permit/forbidorpermit/Kind$Category;"), (2, u "FACT"), (2, u "ORDER"), (2, u "HIERARCHY"), (2, u "PREFERENCE"), (2, u "SEPARATION"), (2, u "$VALUES"), (0, u "[Lcom/example/forbid_or_permit/forbidorpermit/Kind$Category;"), (6, .class_ 34), (1, u "java/lang/Enum"), (29, .class_ 65), (0, u "com/example/forbid_or_permit/forbidorpermit/Kind")] 2

/-- com/example/forbid_or_permit/forbidorpermit/Kind$Category -/
def k7 : Class := { plain "com/example/forbid_or_permit/forbidorpermit/Kind$Category" (some 5) with
  accessFlags := 16433
  interfaces := #[]
  cf := some (fileOf pool7 1 #[.nestHost 64] #[] 16433 32 #[] #[{ accessFlags := 16409, nameIndex := 5, descriptorIndex := 6, attributes := #[] }, { accessFlags := 16409, nameIndex := 9, descriptorIndex := 6, attributes := #[] }, { accessFlags := 16409, nameIndex := 12, descriptorIndex := 6, attributes := #[] }, { accessFlags := 16409, nameIndex := 15, descriptorIndex := 6, attributes := #[] }, { accessFlags := 16409, nameIndex := 18, descriptorIndex := 6, attributes := #[] }, { accessFlags := 16409, nameIndex := 21, descriptorIndex := 6, attributes := #[] }, { accessFlags := 4122, nameIndex := 24, descriptorIndex := 25, attributes := #[] }])
  fields := #[{ name := "RULE", type := (.object "com/example/forbid_or_permit/forbidorpermit/Kind$Category"), accessFlags := 16409, slot := 0, constantValue := 0 }, { name := "FACT", type := (.object "com/example/forbid_or_permit/forbidorpermit/Kind$Category"), accessFlags := 16409, slot := 1, constantValue := 0 }, { name := "ORDER", type := (.object "com/example/forbid_or_permit/forbidorpermit/Kind$Category"), accessFlags := 16409, slot := 2, constantValue := 0 }, { name := "HIERARCHY", type := (.object "com/example/forbid_or_permit/forbidorpermit/Kind$Category"), accessFlags := 16409, slot := 3, constantValue := 0 }, { name := "PREFERENCE", type := (.object "com/example/forbid_or_permit/forbidorpermit/Kind$Category"), accessFlags := 16409, slot := 4, constantValue := 0 }, { name := "SEPARATION", type := (.object "com/example/forbid_or_permit/forbidorpermit/Kind$Category"), accessFlags := 16409, slot := 5, constantValue := 0 }, { name := "$VALUES", type := (.array (.object "com/example/forbid_or_permit/forbidorpermit/Kind$Category")), accessFlags := 4122, slot := 6, constantValue := 0 }]
  methods := #[]
  instanceTypes := #[(.object "java/lang/String"), .int, .int]
  staticTypes := #[(.object "com/example/forbid_or_permit/forbidorpermit/Kind$Category"), (.object "com/example/forbid_or_permit/forbidorpermit/Kind$Category"), (.object "com/example/forbid_or_permit/forbidorpermit/Kind$Category"), (.object "com/example/forbid_or_permit/forbidorpermit/Kind$Category"), (.object "com/example/forbid_or_permit/forbidorpermit/Kind$Category"), (.object "com/example/forbid_or_permit/forbidorpermit/Kind$Category"), (.array (.object "com/example/forbid_or_permit/forbidorpermit/Kind$Category"))]
  resolved := Array.replicate 68 none
  statics := some 1 }

def pool8 : Array CpInfo := pool [(1, u "java/lang/Cloneable"), (0, .class_ 1), (0, u "java/lang/Object"), (0, .class_ 3)] 3

/-- java/lang/Cloneable -/
def k8 : Class := { plain "java/lang/Cloneable" (some 0) with
  accessFlags := 1537
  interfaces := #[]
  cf := some (fileOf pool8 2 #[] #[] 1537 4 #[] #[])
  fields := #[]
  methods := #[]
  instanceTypes := #[]
  staticTypes := #[]
  resolved := Array.replicate 8 none
  statics := none }

/-- the primitive byte -/
def k9 : Class := { plain "byte" none with kind := .primitive 'B', accessFlags := 0x411 }
/-- [B -/
def k10 : Class := { plain "[B" (some 0) with kind := .array 9 .byte, interfaces := #[8, 4], accessFlags := 1041 }

/-- the primitive int -/
def k11 : Class := { plain "int" none with kind := .primitive 'I', accessFlags := 0x411 }
/-- [I -/
def k12 : Class := { plain "[I" (some 0) with kind := .array 11 .int, interfaces := #[8, 4], accessFlags := 1041 }

def heap : Heap := #[{ cls := 6, slots := #[.ref 2, .ref 17, .ref 14, .ref 6, .ref 26, .ref 8, .ref 10, .ref 12, .ref 16, .ref 20, .ref 15, .ref 11, .ref 27, .ref 9, .ref 18, .ref 19, .ref 23, .ref 24, .ref 28, .ref 21, .ref 25, .null], vm := .statics 6 },
  { cls := 7, slots := #[.ref 3, .ref 7, .ref 13, .ref 4, .ref 5, .ref 22, .null], vm := .statics 7 },
  { cls := 6, slots := #[.null, .int 0, .int 0, .null, .ref 3, .null, .int 0, .null], vm := .none },
  { cls := 7, slots := #[.null, .int 0, .int 0], vm := .none },
  { cls := 7, slots := #[.null, .int 3, .int 0], vm := .none },
  { cls := 7, slots := #[.null, .int 4, .int 0], vm := .none },
  { cls := 6, slots := #[.null, .int 0, .int 0, .null, .ref 7, .null, .int 0, .null], vm := .none },
  { cls := 7, slots := #[.null, .int 1, .int 0], vm := .none },
  { cls := 6, slots := #[.null, .int 0, .int 0, .null, .ref 7, .null, .int 0, .null], vm := .none },
  { cls := 6, slots := #[.null, .int 0, .int 0, .null, .ref 5, .null, .int 0, .null], vm := .none },
  { cls := 6, slots := #[.null, .int 0, .int 0, .null, .ref 7, .null, .int 0, .null], vm := .none },
  { cls := 6, slots := #[.null, .int 0, .int 0, .null, .ref 4, .null, .int 0, .null], vm := .none },
  { cls := 6, slots := #[.null, .int 0, .int 0, .null, .ref 13, .null, .int 0, .null], vm := .none },
  { cls := 7, slots := #[.null, .int 2, .int 0], vm := .none },
  { cls := 6, slots := #[.null, .int 0, .int 0, .null, .ref 7, .null, .int 0, .null], vm := .none },
  { cls := 6, slots := #[.null, .int 0, .int 0, .null, .ref 4, .null, .int 0, .null], vm := .none },
  { cls := 6, slots := #[.null, .int 0, .int 0, .null, .ref 4, .null, .int 0, .null], vm := .none },
  { cls := 6, slots := #[.null, .int 0, .int 0, .null, .ref 3, .null, .int 0, .null], vm := .none },
  { cls := 6, slots := #[.null, .int 0, .int 0, .null, .ref 5, .null, .int 0, .null], vm := .none },
  { cls := 6, slots := #[.null, .int 0, .int 0, .null, .ref 5, .null, .int 0, .null], vm := .none },
  { cls := 6, slots := #[.null, .int 0, .int 0, .null, .ref 4, .null, .int 0, .null], vm := .none },
  { cls := 6, slots := #[.null, .int 0, .int 0, .null, .ref 22, .null, .int 0, .null], vm := .none },
  { cls := 7, slots := #[.null, .int 5, .int 0], vm := .none },
  { cls := 6, slots := #[.null, .int 0, .int 0, .null, .ref 5, .null, .int 0, .null], vm := .none },
  { cls := 6, slots := #[.null, .int 0, .int 0, .null, .ref 22, .null, .int 0, .null], vm := .none },
  { cls := 6, slots := #[.null, .int 0, .int 0, .null, .ref 22, .null, .int 0, .null], vm := .none },
  { cls := 6, slots := #[.null, .int 0, .int 0, .null, .ref 7, .null, .int 0, .null], vm := .none },
  { cls := 6, slots := #[.null, .int 0, .int 0, .null, .ref 4, .null, .int 0, .null], vm := .none },
  { cls := 6, slots := #[.null, .int 0, .int 0, .null, .ref 22, .null, .int 0, .null], vm := .none }]
def classes : Array Class := #[k0, k1, k2, k3, k4, k5, k6, k7, k8, k9, k10, k11, k12]
def interned : List (Array UInt16 × Addr) := []
def slotsUsed : Nat := 215
def theMethod : MethodId := ⟨1, 3⟩
def args0 : Array Value := #[.int 5]
def aboutOver (below : List Frame) : State where
  vm := { classes := classes, interned := interned.toArray }
  heap := heap
  slotsUsed := slotsUsed
  threads := #[{ frames := .invoking theMethod args0 :: below }]
def below0 : List Frame := [.native { method := ⟨0, 0⟩, args := #[] }]
def about1 : State := aboutOver below0
def p0 : Program := .bare "" "" ""
def e0 : Env := launch0.env 0 0 0
theorem w_frames : about1.frames = Frame.invoking theMethod args0 :: below0 := rfl
set_option maxRecDepth 65536 in
theorem w_args : argsFit about1.vm theMethod args0 = true := by decide +kernel
set_option maxRecDepth 65536 in
theorem w_heap : heapFits about1 = true := by decide +kernel
set_option maxRecDepth 65536 in
theorem w_runnable : about1.curStatus? = some .runnable := by decide +kernel
set_option maxRecDepth 65536 in
theorem w_alone : about1.alone = true := by decide +kernel
set_option maxRecDepth 65536 in
theorem w_named : about1.methodNamed? x = some theMethod := by decide +kernel
set_option maxRecDepth 65536 in
theorem w_hears : about1.hears theMethod below0 = true := by decide +kernel
set_option maxRecDepth 65536 in
theorem w_ripe : about1.ripe theMethod args0 below0 = true := by decide +kernel
theorem w_running : about1.status = .running := rfl
set_option maxRecDepth 65536 in
theorem w_room : about1.hasRoom e0.platform room_1 = true :=
  launch0.hasRoom_least _ room_1 (by decide +kernel) (by decide +kernel) (by decide +kernel) (by decide +kernel) (by decide +kernel) (by decide +kernel)
theorem allAtoms_all (ts : List Jvm.Cond) (a : Array Jvm.Value) (st : Jvm.State) : (allAtoms ts).before a st = ts.all (fun c => c.before a st) := by
  induction ts with
  | nil => rfl
  | cons c t ih =>
    show (Jvm.Cond.and c (allAtoms t)).before a st = _
    rw [Jvm.Cond.before_and, ih, List.all_cons]
def words1 : List Jvm.Cond := Jvm.Cond.code x code maxLocals ret :: tables_1
/-- a 'code' word, met by the world's own term for the bytes: nothing is compared byte by byte -/
theorem code_word {y : MethodName} {bytes : ByteArray} {mx : Nat} {rt : Option FieldType} {a : Array Value} {s : State} {m : MethodId} {meth : Method} {c : Code} (h1 : s.methodNamed? y = some m) (h2 : s.vm.method? m = some meth) (h3 : meth.code = some c) (h4 : c.code = bytes)
    (h5 : (c.maxLocals == mx && c.exceptionTable.isEmpty && decide (c.maxStack ≤ mostOperands) && decide (meth.sig.returnType = rt) && !meth.locks && decide (parseMethodDescriptor y.desc = some meth.sig)) = true) : (Jvm.Cond.code y bytes mx rt).before a s = true := by
  simp only [Bool.and_eq_true, beq_iff_eq, Bool.not_eq_true', decide_eq_true_eq] at h5
  obtain ⟨⟨⟨⟨⟨g1, g2⟩, g3⟩, g4⟩, g5⟩, g6⟩ := h5
  simp [Cond.before, Cond.holds, Cond.value, h1, h2, h3, h4, g1, g2, g3, g4, g5, g6]
def isCode : Jvm.Cond → Bool
  | .code _ _ _ _ => true
  | _ => false
theorem all_split {L : List Jvm.Cond} {P : Jvm.Cond → Bool} (h1 : L.all (fun c => isCode c || P c) = true) (h2 : ∀ c ∈ L.filter isCode, P c = true) : L.all P = true := by
  refine List.all_eq_true.mpr fun c hc => ?_
  have h := List.all_eq_true.mp h1 c hc
  rcases Bool.eq_false_or_eq_true (isCode c) with hi | hi
  · exact h2 c (List.mem_filter.mpr ⟨hc, hi⟩)
  · simpa [hi] using h
set_option maxRecDepth 65536 in
theorem w_c0 : (Jvm.Cond.code x code maxLocals ret).before args0 about1 = true := code_word (m := ⟨1, 3⟩) (meth := k1m3) (c := k1c3) (by decide +kernel) rfl rfl rfl (by decide +kernel)
set_option maxRecDepth 65536 in
theorem w_c1 : (Jvm.Cond.code ({ cls := "com/example/forbid_or_permit/forbidorpermit/KindLinksPinLaw", name := "kindAt", desc := "(I)Lcom/example/forbid_or_permit/forbidorpermit/Kind;" } : Jvm.MethodName) method_2_code (1 : Nat) (Option.some (Jvm.ClassFile.FieldType.object "com/example/forbid_or_permit/forbidorpermit/Kind"))).before args0 about1 = true := code_word (m := ⟨1, 1⟩) (meth := k1m1) (c := k1c1) (by decide +kernel) rfl rfl rfl (by decide +kernel)
set_option maxRecDepth 65536 in
theorem w_c2 : (Jvm.Cond.code ({ cls := "com/example/forbid_or_permit/forbidorpermit/Kind", name := "links", desc := "()Z" } : Jvm.MethodName) prog_18_method_11_code (1 : Nat) (Option.some Jvm.ClassFile.FieldType.boolean)).before args0 about1 = true := code_word (m := ⟨6, 0⟩) (meth := k6m0) (c := k6c0) (by decide +kernel) rfl rfl rfl (by decide +kernel)
set_option maxRecDepth 65536 in
theorem w_c3 : (Jvm.Cond.code ({ cls := "com/example/forbid_or_permit/forbidorpermit/KindLinksPinLaw", name := "expected", desc := "(I)Z" } : Jvm.MethodName) method_3_code (1 : Nat) (Option.some Jvm.ClassFile.FieldType.boolean)).before args0 about1 = true := code_word (m := ⟨1, 2⟩) (meth := k1m2) (c := k1c2) (by decide +kernel) rfl rfl rfl (by decide +kernel)
def codes1 : List Jvm.Cond := [Jvm.Cond.code x code maxLocals ret, Jvm.Cond.code ({ cls := "com/example/forbid_or_permit/forbidorpermit/KindLinksPinLaw", name := "kindAt", desc := "(I)Lcom/example/forbid_or_permit/forbidorpermit/Kind;" } : Jvm.MethodName) method_2_code (1 : Nat) (Option.some (Jvm.ClassFile.FieldType.object "com/example/forbid_or_permit/forbidorpermit/Kind")), Jvm.Cond.code ({ cls := "com/example/forbid_or_permit/forbidorpermit/Kind", name := "links", desc := "()Z" } : Jvm.MethodName) prog_18_method_11_code (1 : Nat) (Option.some Jvm.ClassFile.FieldType.boolean), Jvm.Cond.code ({ cls := "com/example/forbid_or_permit/forbidorpermit/KindLinksPinLaw", name := "expected", desc := "(I)Z" } : Jvm.MethodName) method_3_code (1 : Nat) (Option.some Jvm.ClassFile.FieldType.boolean)]
set_option maxRecDepth 65536 in
theorem codes_eq : words1.filter isCode = codes1 := rfl
theorem w_codes : ∀ c ∈ words1.filter isCode, c.before args0 about1 = true := by
  rw [codes_eq]
  intro c hc
  simp only [codes1, List.mem_cons, List.not_mem_nil, or_false] at hc
  rcases hc with rfl | rfl | rfl | rfl
  · exact w_c0
  · exact w_c1
  · exact w_c2
  · exact w_c3
set_option maxRecDepth 65536 in
theorem w_t1 : (words1.take 24).all (fun c => isCode c || c.before args0 about1) = true := by decide +kernel
set_option maxRecDepth 65536 in
theorem w_t2 : ((words1.drop 24).take 24).all (fun c => isCode c || c.before args0 about1) = true := by decide +kernel
set_option maxRecDepth 65536 in
theorem w_t3 : ((words1.drop 24).drop 24).all (fun c => isCode c || c.before args0 about1) = true := by decide +kernel
theorem w_tables : (allAtoms (Jvm.Cond.code x code maxLocals ret :: tables_1)).before args0 about1 = true := by
  rw [allAtoms_all]
  show words1.all (fun c => c.before args0 about1) = true
  refine all_split ?_ w_codes
  rw [← List.take_append_drop 24 words1, List.all_append, w_t1, ← List.take_append_drop 24 (words1.drop 24), List.all_append, w_t2, w_t3]
  rfl
set_option maxRecDepth 65536 in
theorem w_case : (Jvm.Cond.and given_1 narrow_1).before args0 about1 = true := by decide +kernel
theorem w_applies : (headSpec (Jvm.Cond.code x code maxLocals ret :: tables_1) room_1).applies x e0.platform about1 = true :=
  (Spec.applies_iff w_frames).mpr ⟨w_running, w_runnable, w_alone, w_named, w_hears, w_ripe, w_room, w_tables⟩
theorem atStart : AtStart classFile x code maxLocals ret World_1 tables_1 room_1 Calls_1 rest_1 Pre_1 launch0 p0 e0 about1 theMethod args0 below0 :=
  ⟨lists_1, trivial, launch0.admits_env _ _ _, launch0.least_env, fairChoices_fair.cas, fairChoices_fair.clock, w_frames, w_args, w_heap, w_applies, trivial, trivial, w_case⟩
end start1
theorem witness_1 : WitnessClaimed_1 := ⟨start1.p0, start1.e0, start1.about1, start1.theMethod, start1.args0, start1.below0, start1.atStart⟩
end Jvm.Pilot.@@N@@
