import JvmDerived
import JvmDerived.Pilot.@@N@@Statement
import JvmDerived.Pilot.@@N@@Code
set_option linter.unusedVariables false
set_option linter.unusedSimpArgs false
namespace Jvm.RoadKit
open Sem ClassFile Op Lib Jvm.Stand Jvm.Free Jvm.LawKit
section New
variable {p : Program} {l : Launch} {e : Env} {R : Room} {s : State} {m : MethodId} {args : Array Value} {below : List Frame} {meth : Method} {c : Code} {T : State} {locs : List Loc} {cells slots : Nat}
theorem retI (X : Stand p l e R s m args below meth c T locs cells slots) (hx : p.tables.exec = Jvm.exec) {pc : Nat} {Ls : Array Slot} {z : Int32} {rest : List Value} (hret : meth.sig.returnType = some .int) (hd : decode c.code pc = .ok (.ireturn, 1)) {fs : List Frame}
    (hl : ∀ (f : JFrame) (acts : List Action), f.method = m → f.locked = none → f.entered = [] → (doReturn e (T.setTop f) acts (some (.int z))).1 = T.setFrames fs) : Steps p.tables e below (T.setTop (mkF m pc Ls (.int z :: rest))) (T.setFrames fs) := by
  have hm' : T.vm.method? m = some meth := X.method'
  have hn : narrow .int (.int z) = .int z := rfl
  show Steps p.tables e below (T.setTop { method := m, pc := pc, locals := Ls, stack := _ :: rest, locked := none }) _
  jvm_step X.here [X.here.top, hx, hd, hm', hret, hn]
  first | (intro acts; rw [hl _ acts rfl rfl rfl]) | rw [hl _ _ rfl rfl rfl]
  exact Steps.refl _
end New
end Jvm.RoadKit
namespace Jvm.Pilot.@@N@@
open Jvm Jvm.ClassFile Sem Op Lib Jvm.Free Jvm.Stand Jvm.LawKit Jvm.RoadKit Bundle Jvm.Pilot.@@N@@.Jvm.D
theorem own_mod (x d : Int32) (D : Int) (hd : d.toInt = D) (h : 0 < D) : 0 ≤ ((x &&& (2147483647 : Int32)) % d).toInt ∧ ((x &&& (2147483647 : Int32)) % d).toInt < D := by
  have h1 := (c_and x 2147483647 (by decide)).1
  have h2 := (c_irem (x &&& 2147483647) d D hd).1 h1
  rw [h2]; exact ⟨Int.emod_nonneg _ (by omega), Int.emod_lt_of_pos _ h⟩
theorem own_nat {k : Int32} (h : 0 ≤ k.toInt) : k = Int32.ofNat k.toNatClampNeg := by
  apply Int32.toInt_inj.mp
  have e : (k.toNatClampNeg : Int) = k.toInt := by simp only [Int32.toNatClampNeg]; omega
  have b : k.toInt < 2147483648 := by have := k.toInt_lt; omega
  rw [Int32.toInt_ofNat_of_lt (by omega)]; omega
theorem own_clamp {k : Int32} (h : 0 ≤ k.toInt) {n : Nat} (hn : k.toInt < n) : k.toNatClampNeg < n := by
  simp only [Int32.toNatClampNeg]; omega
theorem own_clamp_of {j : Nat} (h : j < 2147483648) : (Int32.ofNat j).toNatClampNeg = j := by
  have e : (Int32.ofNat j).toInt = j := Int32.toInt_ofNat_of_lt h
  simp only [Int32.toNatClampNeg, e]; omega
theorem own_nei {x k : Int32} {z : Int} (h : ¬ x = k) (hk : k.toInt = z) : x.toInt ≠ z := fun e => h (Int32.toInt_inj.mp (e.trans hk.symm))
theorem own_eqi {x k : Int32} {z : Int} (h : x.toInt = z) (hk : k.toInt = z) : x = k := Int32.toInt_inj.mp (h.trans hk.symm)
theorem own_sta_keep {Z : State} {h h' : Heap} {C n d : String} {v : Value} {ws : List Addr} (F : Sta Z h C n d v) (K : Keep h h' ws) (q : ∀ a ∈ ws, ∃ c : Cell, h[a]? = some c ∧ c.vm.isStatics = false) : Sta Z h' C n d v := by
  obtain ⟨cf, i, k, f, st, cell, h1, h2, h3, h4, h5, h6, h7⟩ := F
  refine ⟨cf, i, k, f, st, cell, h1, h2, h3, h4, K.2.1 st cell h5 (fun hm => ?_), h6, h7⟩
  obtain ⟨c, e1, e2⟩ := q st hm
  cases h5.symm.trans e1
  rw [e2] at h6; cases h6
theorem own_ns {Z : State} {h : Heap} {C : String} {a : Addr} (E : Exa Z h a C) : ∃ c : Cell, h[a]? = some c ∧ c.vm.isStatics = false := by
  obtain ⟨c, k, h1, -, -, h4, -⟩ := E
  exact ⟨c, h1, h4⟩
def QL (n0 : Nat) (v : Option Value) (h : Heap) (L : List Loc) : Prop := v = some (.int (1 : Int32)) ∧ Fr n0 L
def QR (r : Value) (h0 : Heap) (n0 : Nat) (v : Option Value) (h : Heap) (L : List Loc) : Prop := v = some r ∧ Fr n0 L ∧ h = h0
theorem own_fldI {args : Array Value} {s : State} {t : Term} {C n d : String} {a : Addr} {k : Int32} (ht : t.eval args s none [] s = some (.ref a)) (h : (Jvm.Cond.eq (.field t C n d) (.int k)).value args s none s [] = some true) : Fld s s.heap a C n d (.int k) := by
  obtain ⟨u, w, e1, e2, k1, k2⟩ := cmp_v (Or.inl h)
  obtain rfl : w = .int k := (Option.some.inj (e2.symm.trans (Term.int_eval k)))
  obtain ⟨z, rfl⟩ := k2
  have hz : z = k := by simpa [Cond.value, e1, e2] using h
  subst hz
  rw [fld_at ht] at e1
  exact Fld.start e1
theorem own_fldR {args : Array Value} {s : State} {t u : Term} {C n d : String} {a b : Addr} (ht : t.eval args s none [] s = some (.ref a)) (hu : u.eval args s none [] s = some (.ref b)) (h : (Jvm.Cond.eq (.field t C n d) u).value args s none s [] = some true) : Fld s s.heap a C n d (.ref b) := by
  cases e1 : (Term.field t C n d).eval args s none [] s with
  | none => simp [Cond.value, e1] at h
  | some x =>
    have hx : x = .ref b := by
      cases x <;> simp [Cond.value, e1, hu] at h
      exact congrArg Value.ref h
    subst hx
    rw [fld_at ht] at e1
    exact Fld.start e1
def own_look (W : Nat → Addr) (x : Int32) : Value := if x = 0 then .ref (W 0) else if x = 1 then .ref (W 1) else if x = 2 then .ref (W 2) else if x = 3 then .ref (W 3) else if x = 8 then .ref (W 4) else if x = 9 then .ref (W 5) else if x = 10 then .ref (W 6) else if x = 11 then .ref (W 7) else if x = 12 then .ref (W 8) else if x = 13 then .ref (W 9) else if x = 14 then .ref (W 10) else if x = 15 then .ref (W 11) else if x = 16 then .ref (W 12) else if x = 18 then .ref (W 13) else if x = 19 then .ref (W 14) else if x = 20 then .ref (W 15) else if x = 22 then .ref (W 16) else if x = 32 then .ref (W 17) else if x = 33 then .ref (W 18) else if x = 37 then .ref (W 19) else if x = 42 then .ref (W 20) else .null
def own_id (j : Nat) : Int32 := [(0 : Int32), (1 : Int32), (2 : Int32), (3 : Int32), (8 : Int32), (9 : Int32), (10 : Int32), (11 : Int32), (12 : Int32), (13 : Int32), (14 : Int32), (15 : Int32), (16 : Int32), (18 : Int32), (19 : Int32), (20 : Int32), (22 : Int32), (32 : Int32), (33 : Int32), (37 : Int32), (42 : Int32)].getD j 0
theorem own_hit (W : Nat → Addr) : ∀ j, j < 21 → own_look W (own_id j) = .ref (W j) := (fun i hi => match i, hi with | 0, _ => rfl | 1, _ => rfl | 2, _ => rfl | 3, _ => rfl | 4, _ => rfl | 5, _ => rfl | 6, _ => rfl | 7, _ => rfl | 8, _ => rfl | 9, _ => rfl | 10, _ => rfl | 11, _ => rfl | 12, _ => rfl | 13, _ => rfl | 14, _ => rfl | 15, _ => rfl | 16, _ => rfl | 17, _ => rfl | 18, _ => rfl | 19, _ => rfl | 20, _ => rfl | n + 21, h => absurd h (by omega))
theorem own_miss (W : Nat → Addr) {x : Int32} (h : ∀ j, j < 21 → ¬ own_id j = x) : own_look W x = .null := by
  have t0 : ¬ x = 0 := fun q => h 0 (by decide) q.symm
  have t1 : ¬ x = 1 := fun q => h 1 (by decide) q.symm
  have t2 : ¬ x = 2 := fun q => h 2 (by decide) q.symm
  have t3 : ¬ x = 3 := fun q => h 3 (by decide) q.symm
  have t4 : ¬ x = 8 := fun q => h 4 (by decide) q.symm
  have t5 : ¬ x = 9 := fun q => h 5 (by decide) q.symm
  have t6 : ¬ x = 10 := fun q => h 6 (by decide) q.symm
  have t7 : ¬ x = 11 := fun q => h 7 (by decide) q.symm
  have t8 : ¬ x = 12 := fun q => h 8 (by decide) q.symm
  have t9 : ¬ x = 13 := fun q => h 9 (by decide) q.symm
  have t10 : ¬ x = 14 := fun q => h 10 (by decide) q.symm
  have t11 : ¬ x = 15 := fun q => h 11 (by decide) q.symm
  have t12 : ¬ x = 16 := fun q => h 12 (by decide) q.symm
  have t13 : ¬ x = 18 := fun q => h 13 (by decide) q.symm
  have t14 : ¬ x = 19 := fun q => h 14 (by decide) q.symm
  have t15 : ¬ x = 20 := fun q => h 15 (by decide) q.symm
  have t16 : ¬ x = 22 := fun q => h 16 (by decide) q.symm
  have t17 : ¬ x = 32 := fun q => h 17 (by decide) q.symm
  have t18 : ¬ x = 33 := fun q => h 18 (by decide) q.symm
  have t19 : ¬ x = 37 := fun q => h 19 (by decide) q.symm
  have t20 : ¬ x = 42 := fun q => h 20 (by decide) q.symm
  simp only [own_look, t0, t1, t2, t3, t4, t5, t6, t7, t8, t9, t10, t11, t12, t13, t14, t15, t16, t17, t18, t19, t20, if_false]
theorem own_first {x : Int32} (h : ¬ ∀ j, j < 21 → ¬ own_id j = x) : ∃ j, j < 21 ∧ own_id j = x ∧ ∀ i, i < j → ¬ own_id i = x := by
  obtain ⟨j, hj⟩ : ∃ j, j < 21 ∧ own_id j = x := by
    refine Classical.byContradiction fun q => h fun j hj e => q ⟨j, hj, e⟩
  refine ⟨j, hj.1, hj.2, fun i hi e => ?_⟩
  have key : ∀ a : Fin 21, ∀ b : Fin 21, own_id a.1 = own_id b.1 → a = b := by decide
  have := key ⟨i, Nat.lt_trans hi hj.1⟩ ⟨j, hj.1⟩ (e.trans hj.2.symm)
  exact absurd (congrArg Fin.val this) (Nat.ne_of_lt hi)
theorem own_get (W : Nat → Addr) : ∀ j, j < 21 → ([(.ref (W 0)), (.ref (W 1)), (.ref (W 2)), (.ref (W 3)), (.ref (W 4)), (.ref (W 5)), (.ref (W 6)), (.ref (W 7)), (.ref (W 8)), (.ref (W 9)), (.ref (W 10)), (.ref (W 11)), (.ref (W 12)), (.ref (W 13)), (.ref (W 14)), (.ref (W 15)), (.ref (W 16)), (.ref (W 17)), (.ref (W 18)), (.ref (W 19)), (.ref (W 20))] : List Value).getD j .null = .ref (W j) := (fun i hi => match i, hi with | 0, _ => rfl | 1, _ => rfl | 2, _ => rfl | 3, _ => rfl | 4, _ => rfl | 5, _ => rfl | 6, _ => rfl | 7, _ => rfl | 8, _ => rfl | 9, _ => rfl | 10, _ => rfl | 11, _ => rfl | 12, _ => rfl | 13, _ => rfl | 14, _ => rfl | 15, _ => rfl | 16, _ => rfl | 17, _ => rfl | 18, _ => rfl | 19, _ => rfl | 20, _ => rfl | n + 21, h => absurd h (by omega))
theorem own_i {i : Nat} (h : i < 21) : (Int32.ofNat i).toInt = i := Int32.toInt_ofNat_of_lt (by omega)
theorem own_in {i : Nat} (h : i < 21) : ¬ Int32.ofNat i < 0 ∧ Int32.ofNat i < (21 : Int32) := by
  rw [Int32.lt_iff_toInt_lt, Int32.lt_iff_toInt_lt, own_i h]; show ¬ (i : Int) < 0 ∧ (i : Int) < 21; omega
theorem own_cl {i : Nat} (h : i < 21) : (Int32.ofNat i).toNatClampNeg = i := by simp only [Int32.toNatClampNeg, own_i h]; omega
theorem own_one (i : Nat) : Int32.ofNat i + (1 : Int32) = Int32.ofNat (i + 1) := (Int32.ofNat_add i 1).symm
theorem own_len {args : Array Value} {s : State} {t : Term} {a : Addr} {cl : Cell} {ty : FieldType} {z : Int32} (ev : t.eval args s none [] s = some (.ref a)) (A : Arr s s.heap a cl ty) (h : (Jvm.Cond.eq (.length t) (.int z)).value args s none s [] = some true) : cl.slots.size < 2 ^ 31 ∧ cl.slots.size.toInt32 = z := by
  obtain ⟨u, w, e1, e2, k1, k2⟩ := cmp_v (Or.inl h)
  obtain rfl : w = .int z := (Option.some.inj (e2.symm.trans (Term.int_eval z)))
  obtain ⟨y, rfl⟩ := k2
  have hz : y = z := by simpa [Cond.value, e1, e2] using h
  subst hz
  have ha := A.fin (Vm.Alike.refl _)
  by_cases hlt : cl.slots.size < 2 ^ 31
  · have e3 := len_f ev ha hlt
    exact ⟨hlt, Value.int.inj (Option.some.inj (e3.symm.trans e1))⟩
  · simp [Term.eval, ev, ha, hlt] at e1
theorem own_elem {args : Array Value} {s : State} {t u : Term} {a b : Addr} {cl : Cell} {ty : FieldType} {z : Int32} {i : Nat} (ev : t.eval args s none [] s = some (.ref a)) (A : Arr s s.heap a cl ty) (hu : u.eval args s none [] s = some (.ref b)) (h : (Jvm.Cond.eq (.elem t (.int z)) u).value args s none s [] = some true) (hi : z.toNatClampNeg = i) : cl.slots[i]? = some (.ref b) := by
  cases e1 : (Term.elem t (.int z)).eval args s none [] s with
  | none => simp [Cond.value, e1] at h
  | some x =>
    have hx : x = .ref b := by
      cases x <;> simp [Cond.value, e1, hu] at h
      exact congrArg Value.ref h
    subst hx
    have := (elem_in e1 ev (Term.int_eval z) A.1).2
    rw [hi] at this; exact this
theorem own_short (p0 p1 : Int32) : (if (p1 &&& (1 : Int32)) = 0 then p0.toInt16.toInt32 else (p0 % (64 : Int32)).toInt16.toInt32).toInt16.toInt32 = if (p1 &&& (1 : Int32)) = 0 then p0.toInt16.toInt32 else (p0 % (64 : Int32)).toInt16.toInt32 := by
  split <;> simp
theorem d1_9 : decode prog_27_method_4_code 9 = .ok (.iload_n 3, 1) := by decide +kernel
theorem d1_10 : decode prog_27_method_4_code 10 = .ok (.iload_n 2, 1) := by decide +kernel
theorem d1_11 : decode prog_27_method_4_code 11 = .ok (.if_icmp .ge 26, 3) := by decide +kernel
theorem d1_14 : decode prog_27_method_4_code 14 = .ok (.aload_n 1, 1) := by decide +kernel
theorem d1_15 : decode prog_27_method_4_code 15 = .ok (.iload_n 3, 1) := by decide +kernel
theorem d1_16 : decode prog_27_method_4_code 16 = .ok (.aaload, 1) := by decide +kernel
theorem d1_17 : decode prog_27_method_4_code 17 = .ok (.astore 4, 2) := by decide +kernel
theorem os_tnT_17 {z0 : Value} {z1 : Value} {z2 : Value} {z3 : Value} {s4 : Slot} {v : Addr} (h : One s4) : storeLocals #[.val z0, .val z1, .val z2, .val z3, s4] 4 (.ref v) = some #[.val z0, .val z1, .val z2, .val z3, .val (.ref v)] := by
  rcases h with rfl | ⟨w, rfl, hw⟩
  · rfl
  · cases w <;> first | rfl | (simp [Value.category] at hw)
theorem d1_19 : decode prog_27_method_4_code 19 = .ok (.aload 4, 2) := by decide +kernel
theorem d1_21 : decode prog_27_method_4_code 21 = .ok (.getfield 86, 3) := by decide +kernel
theorem d1_24 : decode prog_27_method_4_code 24 = .ok (.iload_n 0, 1) := by decide +kernel
theorem d1_25 : decode prog_27_method_4_code 25 = .ok (.if_icmp .ne 6, 3) := by decide +kernel
theorem d1_31 : decode prog_27_method_4_code 31 = .ok (.iinc 3 1, 3) := by decide +kernel
theorem d1_34 : decode prog_27_method_4_code 34 = .ok (.goto (-25), 3) := by decide +kernel
set_option maxRecDepth 65536 in
set_option maxHeartbeats 40000000 in
theorem tnT {p : Program} {l : Launch} {e : Env} {R : Room} {s : State} {m : MethodId} {args : Array Value} {below : List Frame} {meth : Method} {c : Code} {T0 : State} {locs : List Loc} {cells slots : Nat} {Z : State} {a0 : Array Value} {h0 : Heap} (p0 : Int32) (W : Nat → Addr) (aA : Addr) (kA : ClassId) (i : Nat) (s4 : Slot) (X0 : Stand p l e R s m args below meth c T0 locs cells slots) (hx : p.tables.exec = Jvm.exec) (hZ : Z.Warmed39 s.vm) (hw : ∀ d ∈ tables_1, d.before a0 Z = true) (hby : c.code = prog_27_method_4_code) (hml : c.maxLocals = 5) (hown : s.vm.findClass "com/example/nano_broker/nanobroker/protocol/ApiKey" = some m.cls) (e0 : T0.heap = h0) (hs4 : One s4) (V_A : Arv Z h0 aA kA (.object "com/example/nano_broker/nanobroker/protocol/ApiKey") (21 : Int32) [(.ref (W 0)), (.ref (W 1)), (.ref (W 2)), (.ref (W 3)), (.ref (W 4)), (.ref (W 5)), (.ref (W 6)), (.ref (W 7)), (.ref (W 8)), (.ref (W 9)), (.ref (W 10)), (.ref (W 11)), (.ref (W 12)), (.ref (W 13)), (.ref (W 14)), (.ref (W 15)), (.ref (W 16)), (.ref (W 17)), (.ref (W 18)), (.ref (W 19)), (.ref (W 20))] .null) (hF : ∀ i, i < 21 → Fld Z h0 (W i) "com/example/nano_broker/nanobroker/protocol/ApiKey" "id" "S" (.int (own_id i))) (hi : i < 21) (hne : ¬ own_id i = p0) :
    ∃ T' : State, Stand p l e R s m args below meth c T' locs cells slots ∧ T'.heap = h0 ∧ ∀ target, Steps p.tables e below (T'.setTop (mkF m 9 #[.val (.int p0), .val (.ref aA), .val (.int (21 : Int32)), .val (.int ((Int32.ofNat i) + (1 : Int32))), .val (.ref (W i))] [])) target → Steps p.tables e below (T0.setTop (mkF m 9 #[.val (.int p0), .val (.ref aA), .val (.int (21 : Int32)), .val (.int (Int32.ofNat i)), s4] [])) target := by
  have pre0 : ∀ t, Steps p.tables e below (T0.setTop (mkF m 9 #[.val (.int p0), .val (.ref aA), .val (.int (21 : Int32)), .val (.int (Int32.ofNat i)), s4] [])) t → Steps p.tables e below (T0.setTop (mkF m 9 #[.val (.int p0), .val (.ref aA), .val (.int (21 : Int32)), .val (.int (Int32.ofNat i)), s4] [])) t := fun _ k => k
  obtain ⟨cl1, Ar1, qa1, Sa1, Na1, Ha1, Ga1⟩ := id V_A
  have hin1 : ¬ ((Int32.ofNat i) < 0 ∨ cl1.slots.size ≤ ((Int32.ofNat i)).toNatClampNeg) := inb_of Sa1 (own_in hi)
  have hat1 := Ha1.at hin1 (v := (.ref (W i))) (by rw [own_cl hi]; exact own_get W i hi)
  have Fi := hF i hi
  obtain ⟨T2, X2, e2, st2⟩ := getF X0 hx hZ hown (host := "") (Or.inl (hw _ (List.mem_of_getElem? (i := 7) rfl))) Via.refl e0 Fi (g := (mkF m 21 #[.val (.int p0), .val (.ref aA), .val (.int (21 : Int32)), .val (.int (Int32.ofNat i)), .val (.ref (W i))] [(.ref (W i))])) rfl rfl (hb hby d1_21)
  have pre3 : ∀ t, Steps p.tables e below (T2.setTop (mkF m 9 #[.val (.int p0), .val (.ref aA), .val (.int (21 : Int32)), .val (.int ((Int32.ofNat i) + (1 : Int32))), .val (.ref (W i))] [])) t → Steps p.tables e below (T0.setTop (mkF m 9 #[.val (.int p0), .val (.ref aA), .val (.int (21 : Int32)), .val (.int (Int32.ofNat i)), s4] [])) t := by
    intro t kt
    refine pre0 t ?_
    show Steps p.tables e below (T0.setTop (mkF m 9 #[.val (.int p0), .val (.ref aA), .val (.int (21 : Int32)), .val (.int (Int32.ofNat i)), s4] [])) _
    refine XS.iloadN X0.here hx rfl (hb hby d1_9) rfl ?_
    show Steps p.tables e below (T0.setTop (mkF m 10 #[.val (.int p0), .val (.ref aA), .val (.int (21 : Int32)), .val (.int (Int32.ofNat i)), s4] [(.int (Int32.ofNat i))])) _
    refine XS.iloadN X0.here hx rfl (hb hby d1_10) rfl ?_
    show Steps p.tables e below (T0.setTop (mkF m 11 #[.val (.int p0), .val (.ref aA), .val (.int (21 : Int32)), .val (.int (Int32.ofNat i)), s4] [(.int (21 : Int32)), (.int (Int32.ofNat i))])) _
    refine XS.icmpNo X0.here hx rfl (hb hby d1_11) rfl (tlt (own_in hi).2).2.1 ?_
    show Steps p.tables e below (T0.setTop (mkF m 14 #[.val (.int p0), .val (.ref aA), .val (.int (21 : Int32)), .val (.int (Int32.ofNat i)), s4] [])) _
    refine XS.aloadN X0.here hx rfl (hb hby d1_14) rfl rfl ?_
    show Steps p.tables e below (T0.setTop (mkF m 15 #[.val (.int p0), .val (.ref aA), .val (.int (21 : Int32)), .val (.int (Int32.ofNat i)), s4] [(.ref aA)])) _
    refine XS.iloadN X0.here hx rfl (hb hby d1_15) rfl ?_
    show Steps p.tables e below (T0.setTop (mkF m 16 #[.val (.int p0), .val (.ref aA), .val (.int (21 : Int32)), .val (.int (Int32.ofNat i)), s4] [(.int (Int32.ofNat i)), (.ref aA)])) _
    refine X0.aaload hx (j := (Int32.ofNat i)) (v := (.ref (W i))) (by rw [e0]; exact Ar1.1) (State.isArrayOf_alike hZ.alike Ar1.2.1) rfl Ar1.2.2 hin1 hat1 (g := (mkF m 16 #[.val (.int p0), .val (.ref aA), .val (.int (21 : Int32)), .val (.int (Int32.ofNat i)), s4] [(.int (Int32.ofNat i)), (.ref aA)])) rfl rfl (hb hby d1_16) _ ?_
    show Steps p.tables e below (T0.setTop (mkF m 17 #[.val (.int p0), .val (.ref aA), .val (.int (21 : Int32)), .val (.int (Int32.ofNat i)), s4] [(.ref (W i))])) _
    refine XS.astore X0.here hx rfl (hb hby d1_17) rfl rfl (l' := #[.val (.int p0), .val (.ref aA), .val (.int (21 : Int32)), .val (.int (Int32.ofNat i)), .val (.ref (W i))]) (os_tnT_17 hs4) ?_
    show Steps p.tables e below (T0.setTop (mkF m 19 #[.val (.int p0), .val (.ref aA), .val (.int (21 : Int32)), .val (.int (Int32.ofNat i)), .val (.ref (W i))] [])) _
    refine XS.aload X0.here hx rfl (hb hby d1_19) rfl rfl ?_
    show Steps p.tables e below (T0.setTop (mkF m 21 #[.val (.int p0), .val (.ref aA), .val (.int (21 : Int32)), .val (.int (Int32.ofNat i)), .val (.ref (W i))] [(.ref (W i))])) _
    refine st2 _ ?_
    show Steps p.tables e below (T2.setTop (mkF m 24 #[.val (.int p0), .val (.ref aA), .val (.int (21 : Int32)), .val (.int (Int32.ofNat i)), .val (.ref (W i))] [(.int (own_id i))])) _
    refine XS.iloadN X2.here hx rfl (hb hby d1_24) rfl ?_
    show Steps p.tables e below (T2.setTop (mkF m 25 #[.val (.int p0), .val (.ref aA), .val (.int (21 : Int32)), .val (.int (Int32.ofNat i)), .val (.ref (W i))] [(.int p0), (.int (own_id i))])) _
    refine XS.icmpYes X2.here hx rfl (pc0 := 25) (pc' := 31) rfl (hb hby d1_25) rfl (feq hne).2 (by decide) (by decide) ?_
    show Steps p.tables e below (T2.setTop (mkF m 31 #[.val (.int p0), .val (.ref aA), .val (.int (21 : Int32)), .val (.int (Int32.ofNat i)), .val (.ref (W i))] [])) _
    refine XS.iinc X2.here hx rfl (hb hby d1_31) rfl (l' := #[.val (.int p0), .val (.ref aA), .val (.int (21 : Int32)), .val (.int ((Int32.ofNat i) + (1 : Int32))), .val (.ref (W i))]) rfl ?_
    show Steps p.tables e below (T2.setTop (mkF m 34 #[.val (.int p0), .val (.ref aA), .val (.int (21 : Int32)), .val (.int ((Int32.ofNat i) + (1 : Int32))), .val (.ref (W i))] [])) _
    refine XS.goto X2.here hx rfl (pc0 := 34) (pc' := 9) rfl (hb hby d1_34) (by decide) (by decide) ?_
    exact kt
  exact ⟨T2, X2, e2, fun target kt => pre3 target kt⟩
theorem os_tnH_17 {z0 : Value} {z1 : Value} {z2 : Value} {z3 : Value} {s4 : Slot} {v : Addr} (h : One s4) : storeLocals #[.val z0, .val z1, .val z2, .val z3, s4] 4 (.ref v) = some #[.val z0, .val z1, .val z2, .val z3, .val (.ref v)] := by
  rcases h with rfl | ⟨w, rfl, hw⟩
  · rfl
  · cases w <;> first | rfl | (simp [Value.category] at hw)
set_option maxRecDepth 65536 in
set_option maxHeartbeats 40000000 in
theorem tnH {p : Program} {l : Launch} {e : Env} {R : Room} {s : State} {m : MethodId} {args : Array Value} {below : List Frame} {meth : Method} {c : Code} {T0 : State} {locs : List Loc} {cells slots : Nat} {Z : State} {a0 : Array Value} {h0 : Heap} (p0 : Int32) (W : Nat → Addr) (aA : Addr) (kA : ClassId) (i : Nat) (s4 : Slot) (X0 : Stand p l e R s m args below meth c T0 locs cells slots) (hx : p.tables.exec = Jvm.exec) (hZ : Z.Warmed39 s.vm) (hw : ∀ d ∈ tables_1, d.before a0 Z = true) (hby : c.code = prog_27_method_4_code) (hml : c.maxLocals = 5) (hown : s.vm.findClass "com/example/nano_broker/nanobroker/protocol/ApiKey" = some m.cls) (e0 : T0.heap = h0) (hs4 : One s4) (V_A : Arv Z h0 aA kA (.object "com/example/nano_broker/nanobroker/protocol/ApiKey") (21 : Int32) [(.ref (W 0)), (.ref (W 1)), (.ref (W 2)), (.ref (W 3)), (.ref (W 4)), (.ref (W 5)), (.ref (W 6)), (.ref (W 7)), (.ref (W 8)), (.ref (W 9)), (.ref (W 10)), (.ref (W 11)), (.ref (W 12)), (.ref (W 13)), (.ref (W 14)), (.ref (W 15)), (.ref (W 16)), (.ref (W 17)), (.ref (W 18)), (.ref (W 19)), (.ref (W 20))] .null) (hF : ∀ i, i < 21 → Fld Z h0 (W i) "com/example/nano_broker/nanobroker/protocol/ApiKey" "id" "S" (.int (own_id i))) (hi : i < 21) (heq : own_id i = p0) :
    ∃ T' : State, Stand p l e R s m args below meth c T' locs cells slots ∧ T'.heap = h0 ∧ ∀ target, Steps p.tables e below (T'.setTop (mkF m 28 #[.val (.int p0), .val (.ref aA), .val (.int (21 : Int32)), .val (.int (Int32.ofNat i)), .val (.ref (W i))] [])) target → Steps p.tables e below (T0.setTop (mkF m 9 #[.val (.int p0), .val (.ref aA), .val (.int (21 : Int32)), .val (.int (Int32.ofNat i)), s4] [])) target := by
  have pre0 : ∀ t, Steps p.tables e below (T0.setTop (mkF m 9 #[.val (.int p0), .val (.ref aA), .val (.int (21 : Int32)), .val (.int (Int32.ofNat i)), s4] [])) t → Steps p.tables e below (T0.setTop (mkF m 9 #[.val (.int p0), .val (.ref aA), .val (.int (21 : Int32)), .val (.int (Int32.ofNat i)), s4] [])) t := fun _ k => k
  obtain ⟨cl1, Ar1, qa1, Sa1, Na1, Ha1, Ga1⟩ := id V_A
  have hin1 : ¬ ((Int32.ofNat i) < 0 ∨ cl1.slots.size ≤ ((Int32.ofNat i)).toNatClampNeg) := inb_of Sa1 (own_in hi)
  have hat1 := Ha1.at hin1 (v := (.ref (W i))) (by rw [own_cl hi]; exact own_get W i hi)
  have Fi := hF i hi
  obtain ⟨T2, X2, e2, st2⟩ := getF X0 hx hZ hown (host := "") (Or.inl (hw _ (List.mem_of_getElem? (i := 7) rfl))) Via.refl e0 Fi (g := (mkF m 21 #[.val (.int p0), .val (.ref aA), .val (.int (21 : Int32)), .val (.int (Int32.ofNat i)), .val (.ref (W i))] [(.ref (W i))])) rfl rfl (hb hby d1_21)
  have pre3 : ∀ t, Steps p.tables e below (T2.setTop (mkF m 28 #[.val (.int p0), .val (.ref aA), .val (.int (21 : Int32)), .val (.int (Int32.ofNat i)), .val (.ref (W i))] [])) t → Steps p.tables e below (T0.setTop (mkF m 9 #[.val (.int p0), .val (.ref aA), .val (.int (21 : Int32)), .val (.int (Int32.ofNat i)), s4] [])) t := by
    intro t kt
    refine pre0 t ?_
    show Steps p.tables e below (T0.setTop (mkF m 9 #[.val (.int p0), .val (.ref aA), .val (.int (21 : Int32)), .val (.int (Int32.ofNat i)), s4] [])) _
    refine XS.iloadN X0.here hx rfl (hb hby d1_9) rfl ?_
    show Steps p.tables e below (T0.setTop (mkF m 10 #[.val (.int p0), .val (.ref aA), .val (.int (21 : Int32)), .val (.int (Int32.ofNat i)), s4] [(.int (Int32.ofNat i))])) _
    refine XS.iloadN X0.here hx rfl (hb hby d1_10) rfl ?_
    show Steps p.tables e below (T0.setTop (mkF m 11 #[.val (.int p0), .val (.ref aA), .val (.int (21 : Int32)), .val (.int (Int32.ofNat i)), s4] [(.int (21 : Int32)), (.int (Int32.ofNat i))])) _
    refine XS.icmpNo X0.here hx rfl (hb hby d1_11) rfl (tlt (own_in hi).2).2.1 ?_
    show Steps p.tables e below (T0.setTop (mkF m 14 #[.val (.int p0), .val (.ref aA), .val (.int (21 : Int32)), .val (.int (Int32.ofNat i)), s4] [])) _
    refine XS.aloadN X0.here hx rfl (hb hby d1_14) rfl rfl ?_
    show Steps p.tables e below (T0.setTop (mkF m 15 #[.val (.int p0), .val (.ref aA), .val (.int (21 : Int32)), .val (.int (Int32.ofNat i)), s4] [(.ref aA)])) _
    refine XS.iloadN X0.here hx rfl (hb hby d1_15) rfl ?_
    show Steps p.tables e below (T0.setTop (mkF m 16 #[.val (.int p0), .val (.ref aA), .val (.int (21 : Int32)), .val (.int (Int32.ofNat i)), s4] [(.int (Int32.ofNat i)), (.ref aA)])) _
    refine X0.aaload hx (j := (Int32.ofNat i)) (v := (.ref (W i))) (by rw [e0]; exact Ar1.1) (State.isArrayOf_alike hZ.alike Ar1.2.1) rfl Ar1.2.2 hin1 hat1 (g := (mkF m 16 #[.val (.int p0), .val (.ref aA), .val (.int (21 : Int32)), .val (.int (Int32.ofNat i)), s4] [(.int (Int32.ofNat i)), (.ref aA)])) rfl rfl (hb hby d1_16) _ ?_
    show Steps p.tables e below (T0.setTop (mkF m 17 #[.val (.int p0), .val (.ref aA), .val (.int (21 : Int32)), .val (.int (Int32.ofNat i)), s4] [(.ref (W i))])) _
    refine XS.astore X0.here hx rfl (hb hby d1_17) rfl rfl (l' := #[.val (.int p0), .val (.ref aA), .val (.int (21 : Int32)), .val (.int (Int32.ofNat i)), .val (.ref (W i))]) (os_tnH_17 hs4) ?_
    show Steps p.tables e below (T0.setTop (mkF m 19 #[.val (.int p0), .val (.ref aA), .val (.int (21 : Int32)), .val (.int (Int32.ofNat i)), .val (.ref (W i))] [])) _
    refine XS.aload X0.here hx rfl (hb hby d1_19) rfl rfl ?_
    show Steps p.tables e below (T0.setTop (mkF m 21 #[.val (.int p0), .val (.ref aA), .val (.int (21 : Int32)), .val (.int (Int32.ofNat i)), .val (.ref (W i))] [(.ref (W i))])) _
    refine st2 _ ?_
    show Steps p.tables e below (T2.setTop (mkF m 24 #[.val (.int p0), .val (.ref aA), .val (.int (21 : Int32)), .val (.int (Int32.ofNat i)), .val (.ref (W i))] [(.int (own_id i))])) _
    refine XS.iloadN X2.here hx rfl (hb hby d1_24) rfl ?_
    show Steps p.tables e below (T2.setTop (mkF m 25 #[.val (.int p0), .val (.ref aA), .val (.int (21 : Int32)), .val (.int (Int32.ofNat i)), .val (.ref (W i))] [(.int p0), (.int (own_id i))])) _
    refine XS.icmpNo X2.here hx rfl (hb hby d1_25) rfl (teq heq).2 ?_
    exact kt
  exact ⟨T2, X2, e2, fun target kt => pre3 target kt⟩
set_option maxRecDepth 65536 in
set_option maxHeartbeats 40000000 in
theorem tnM {p : Program} {l : Launch} {e : Env} {R : Room} {s : State} {m : MethodId} {args : Array Value} {below : List Frame} {meth : Method} {c : Code} {T0 : State} {locs : List Loc} {cells slots : Nat} {Z : State} {a0 : Array Value} {h0 : Heap} (p0 : Int32) (W : Nat → Addr) (aA : Addr) (kA : ClassId) (i : Nat) (s4 : Slot) (X0 : Stand p l e R s m args below meth c T0 locs cells slots) (hx : p.tables.exec = Jvm.exec) (hZ : Z.Warmed39 s.vm) (hw : ∀ d ∈ tables_1, d.before a0 Z = true) (hby : c.code = prog_27_method_4_code) (hml : c.maxLocals = 5) (hown : s.vm.findClass "com/example/nano_broker/nanobroker/protocol/ApiKey" = some m.cls) (e0 : T0.heap = h0) (hs4 : One s4) (V_A : Arv Z h0 aA kA (.object "com/example/nano_broker/nanobroker/protocol/ApiKey") (21 : Int32) [(.ref (W 0)), (.ref (W 1)), (.ref (W 2)), (.ref (W 3)), (.ref (W 4)), (.ref (W 5)), (.ref (W 6)), (.ref (W 7)), (.ref (W 8)), (.ref (W 9)), (.ref (W 10)), (.ref (W 11)), (.ref (W 12)), (.ref (W 13)), (.ref (W 14)), (.ref (W 15)), (.ref (W 16)), (.ref (W 17)), (.ref (W 18)), (.ref (W 19)), (.ref (W 20))] .null) (hF : ∀ i, i < 21 → Fld Z h0 (W i) "com/example/nano_broker/nanobroker/protocol/ApiKey" "id" "S" (.int (own_id i)))  :
    ∃ T' : State, Stand p l e R s m args below meth c T' locs cells slots ∧ T'.heap = h0 ∧ ∀ target, Steps p.tables e below (T'.setTop (mkF m 37 #[.val (.int p0), .val (.ref aA), .val (.int (21 : Int32)), .val (.int (Int32.ofNat 21)), s4] [])) target → Steps p.tables e below (T0.setTop (mkF m 9 #[.val (.int p0), .val (.ref aA), .val (.int (21 : Int32)), .val (.int (Int32.ofNat 21)), s4] [])) target := by
  have pre0 : ∀ t, Steps p.tables e below (T0.setTop (mkF m 9 #[.val (.int p0), .val (.ref aA), .val (.int (21 : Int32)), .val (.int (Int32.ofNat 21)), s4] [])) t → Steps p.tables e below (T0.setTop (mkF m 9 #[.val (.int p0), .val (.ref aA), .val (.int (21 : Int32)), .val (.int (Int32.ofNat 21)), s4] [])) t := fun _ k => k
  have pre1 : ∀ t, Steps p.tables e below (T0.setTop (mkF m 37 #[.val (.int p0), .val (.ref aA), .val (.int (21 : Int32)), .val (.int (Int32.ofNat 21)), s4] [])) t → Steps p.tables e below (T0.setTop (mkF m 9 #[.val (.int p0), .val (.ref aA), .val (.int (21 : Int32)), .val (.int (Int32.ofNat 21)), s4] [])) t := by
    intro t kt
    refine pre0 t ?_
    show Steps p.tables e below (T0.setTop (mkF m 9 #[.val (.int p0), .val (.ref aA), .val (.int (21 : Int32)), .val (.int (Int32.ofNat 21)), s4] [])) _
    refine XS.iloadN X0.here hx rfl (hb hby d1_9) rfl ?_
    show Steps p.tables e below (T0.setTop (mkF m 10 #[.val (.int p0), .val (.ref aA), .val (.int (21 : Int32)), .val (.int (Int32.ofNat 21)), s4] [(.int (Int32.ofNat 21))])) _
    refine XS.iloadN X0.here hx rfl (hb hby d1_10) rfl ?_
    show Steps p.tables e below (T0.setTop (mkF m 11 #[.val (.int p0), .val (.ref aA), .val (.int (21 : Int32)), .val (.int (Int32.ofNat 21)), s4] [(.int (21 : Int32)), (.int (Int32.ofNat 21))])) _
    refine XS.icmpYes X0.here hx rfl (pc0 := 11) (pc' := 37) rfl (hb hby d1_11) rfl (flt (by decide)).2.1 (by decide) (by decide) ?_
    exact kt
  exact ⟨T0, X0, e0, fun target kt => pre1 target kt⟩
theorem loopH {p : Program} {l : Launch} {e : Env} {R : Room} {s : State} {m : MethodId} {args : Array Value} {below : List Frame} {meth : Method} {c : Code} {locs : List Loc} {cells slots : Nat} {Z : State} {a0 : Array Value} {h0 : Heap} (p0 : Int32) (W : Nat → Addr) (aA : Addr) (kA : ClassId) (j : Nat) (hj : j < 21) (heq : own_id j = p0) (hne : ∀ i, i < j → ¬ own_id i = p0) (hx : p.tables.exec = Jvm.exec) (hZ : Z.Warmed39 s.vm) (hw : ∀ d ∈ tables_1, d.before a0 Z = true) (hby : c.code = prog_27_method_4_code) (hml : c.maxLocals = 5) (hown : s.vm.findClass "com/example/nano_broker/nanobroker/protocol/ApiKey" = some m.cls) (V_A : Arv Z h0 aA kA (.object "com/example/nano_broker/nanobroker/protocol/ApiKey") (21 : Int32) [(.ref (W 0)), (.ref (W 1)), (.ref (W 2)), (.ref (W 3)), (.ref (W 4)), (.ref (W 5)), (.ref (W 6)), (.ref (W 7)), (.ref (W 8)), (.ref (W 9)), (.ref (W 10)), (.ref (W 11)), (.ref (W 12)), (.ref (W 13)), (.ref (W 14)), (.ref (W 15)), (.ref (W 16)), (.ref (W 17)), (.ref (W 18)), (.ref (W 19)), (.ref (W 20))] .null) (hF : ∀ i, i < 21 → Fld Z h0 (W i) "com/example/nano_broker/nanobroker/protocol/ApiKey" "id" "S" (.int (own_id i))) :
    ∀ (k i : Nat) (s4 : Slot) (T0 : State), One s4 → i + k = j → Stand p l e R s m args below meth c T0 locs cells slots → T0.heap = h0 →
      ∃ T' : State, Stand p l e R s m args below meth c T' locs cells slots ∧ T'.heap = h0 ∧ ∀ target, Steps p.tables e below (T'.setTop (mkF m 28 #[.val (.int p0), .val (.ref aA), .val (.int (21 : Int32)), .val (.int (Int32.ofNat j)), .val (.ref (W j))] [])) target → Steps p.tables e below (T0.setTop (mkF m 9 #[.val (.int p0), .val (.ref aA), .val (.int (21 : Int32)), .val (.int (Int32.ofNat i)), s4] [])) target := by
  intro k
  induction k with
  | zero =>
    intro i s4 T0 hs4 hi X0 e0
    obtain rfl : i = j := by omega
    exact tnH p0 W aA kA i s4 X0 hx hZ hw hby hml hown e0 hs4 V_A hF hj heq
  | succ k ih =>
    intro i s4 T0 hs4 hi X0 e0
    obtain ⟨T1, X1, e1, st1⟩ := tnT p0 W aA kA i s4 X0 hx hZ hw hby hml hown e0 hs4 V_A hF (by omega) (hne i (by omega))
    obtain ⟨T2, X2, e2, st2⟩ := ih (i + 1) (.val (.ref (W i))) T1 (One.val rfl) (by omega) X1 e1
    refine ⟨T2, X2, e2, fun target h => st1 target ?_⟩
    rw [own_one]
    exact st2 target h
theorem loopM {p : Program} {l : Launch} {e : Env} {R : Room} {s : State} {m : MethodId} {args : Array Value} {below : List Frame} {meth : Method} {c : Code} {locs : List Loc} {cells slots : Nat} {Z : State} {a0 : Array Value} {h0 : Heap} (p0 : Int32) (W : Nat → Addr) (aA : Addr) (kA : ClassId) (hne : ∀ i, i < 21 → ¬ own_id i = p0) (hx : p.tables.exec = Jvm.exec) (hZ : Z.Warmed39 s.vm) (hw : ∀ d ∈ tables_1, d.before a0 Z = true) (hby : c.code = prog_27_method_4_code) (hml : c.maxLocals = 5) (hown : s.vm.findClass "com/example/nano_broker/nanobroker/protocol/ApiKey" = some m.cls) (V_A : Arv Z h0 aA kA (.object "com/example/nano_broker/nanobroker/protocol/ApiKey") (21 : Int32) [(.ref (W 0)), (.ref (W 1)), (.ref (W 2)), (.ref (W 3)), (.ref (W 4)), (.ref (W 5)), (.ref (W 6)), (.ref (W 7)), (.ref (W 8)), (.ref (W 9)), (.ref (W 10)), (.ref (W 11)), (.ref (W 12)), (.ref (W 13)), (.ref (W 14)), (.ref (W 15)), (.ref (W 16)), (.ref (W 17)), (.ref (W 18)), (.ref (W 19)), (.ref (W 20))] .null) (hF : ∀ i, i < 21 → Fld Z h0 (W i) "com/example/nano_broker/nanobroker/protocol/ApiKey" "id" "S" (.int (own_id i))) :
    ∀ (k i : Nat) (s4 : Slot) (T0 : State), One s4 → i + k = 21 → Stand p l e R s m args below meth c T0 locs cells slots → T0.heap = h0 →
      ∃ (T' : State) (s5 : Slot), Stand p l e R s m args below meth c T' locs cells slots ∧ T'.heap = h0 ∧ ∀ target, Steps p.tables e below (T'.setTop (mkF m 37 #[.val (.int p0), .val (.ref aA), .val (.int (21 : Int32)), .val (.int (Int32.ofNat 21)), s5] [])) target → Steps p.tables e below (T0.setTop (mkF m 9 #[.val (.int p0), .val (.ref aA), .val (.int (21 : Int32)), .val (.int (Int32.ofNat i)), s4] [])) target := by
  intro k
  induction k with
  | zero =>
    intro i s4 T0 hs4 hi X0 e0
    obtain rfl : i = 21 := by omega
    obtain ⟨T1, X1, e1, st1⟩ := tnM p0 W aA kA 21 s4 X0 hx hZ hw hby hml hown e0 hs4 V_A hF
    exact ⟨T1, s4, X1, e1, st1⟩
  | succ k ih =>
    intro i s4 T0 hs4 hi X0 e0
    obtain ⟨T1, X1, e1, st1⟩ := tnT p0 W aA kA i s4 X0 hx hZ hw hby hml hown e0 hs4 V_A hF (by omega) (hne i (by omega))
    obtain ⟨T2, s5, X2, e2, st2⟩ := ih (i + 1) (.val (.ref (W i))) T1 (One.val rfl) (by omega) X1 e1
    refine ⟨T2, s5, X2, e2, fun target h => st1 target ?_⟩
    rw [own_one]
    exact st2 target h
theorem d1_0 : decode prog_27_method_4_code 0 = .ok (.getstatic 99, 3) := by decide +kernel
theorem d1_3 : decode prog_27_method_4_code 3 = .ok (.astore_n 1, 1) := by decide +kernel
theorem d1_4 : decode prog_27_method_4_code 4 = .ok (.aload_n 1, 1) := by decide +kernel
theorem d1_5 : decode prog_27_method_4_code 5 = .ok (.arraylength, 1) := by decide +kernel
theorem d1_6 : decode prog_27_method_4_code 6 = .ok (.istore_n 2, 1) := by decide +kernel
theorem d1_7 : decode prog_27_method_4_code 7 = .ok (.iconst 0, 1) := by decide +kernel
theorem d1_8 : decode prog_27_method_4_code 8 = .ok (.istore_n 3, 1) := by decide +kernel
theorem d1_28 : decode prog_27_method_4_code 28 = .ok (.aload 4, 2) := by decide +kernel
theorem d1_30 : decode prog_27_method_4_code 30 = .ok (.areturn, 1) := by decide +kernel
theorem pn_1 : plainName "com/example/nano_broker/nanobroker/protocol/ApiKey" = true := by first | (simp [plainName, overriddenIn]; done) | decide +kernel
theorem ef_rm1h (m : MethodId) (x0 : Int32) : entryFrame m #[(.int x0)] 5 = mkF m 0 #[.val (.int x0), .unset, .unset, .unset, .unset] [] := by first | (simp [entryFrame, mkF, argsToLocals, Value.category]; done) | rfl
set_option maxRecDepth 65536 in
set_option maxHeartbeats 40000000 in
theorem rm1h (l : Launch) (Z : State) (a0 : Array Value) (hw : ∀ d ∈ tables_1, d.before a0 Z = true) (ws : List Jvm.Cond) (p0 : Int32) (W : Nat → Addr) (aA : Addr) (kA : ClassId) (h0 : Heap) (n0 : Nat) (Z0 : n0 ≤ h0.size) (S_A : Sta Z h0 "com/example/nano_broker/nanobroker/protocol/ApiKey" "ALL" "[Lcom/example/nano_broker/nanobroker/protocol/ApiKey;" (.ref aA)) (V_A : Arv Z h0 aA kA (.object "com/example/nano_broker/nanobroker/protocol/ApiKey") (21 : Int32) [(.ref (W 0)), (.ref (W 1)), (.ref (W 2)), (.ref (W 3)), (.ref (W 4)), (.ref (W 5)), (.ref (W 6)), (.ref (W 7)), (.ref (W 8)), (.ref (W 9)), (.ref (W 10)), (.ref (W 11)), (.ref (W 12)), (.ref (W 13)), (.ref (W 14)), (.ref (W 15)), (.ref (W 16)), (.ref (W 17)), (.ref (W 18)), (.ref (W 19)), (.ref (W 20))] .null) (hF : ∀ i, i < 21 → Fld Z h0 (W i) "com/example/nano_broker/nanobroker/protocol/ApiKey" "id" "S" (.int (own_id i))) (j : Nat) (hj : j < 21) (heq : own_id j = p0) (hne : ∀ i, i < j → ¬ own_id i = p0) :
    MetFree l (⟨"com/example/nano_broker/nanobroker/protocol/ApiKey", "forId", "(S)Lcom/example/nano_broker/nanobroker/protocol/ApiKey;"⟩ : MethodName) (head1 (Jvm.Cond.code (⟨"com/example/nano_broker/nanobroker/protocol/ApiKey", "forId", "(S)Lcom/example/nano_broker/nanobroker/protocol/ApiKey;"⟩ : MethodName) prog_27_method_4_code 5 (some (.object "com/example/nano_broker/nanobroker/protocol/ApiKey")) :: ws) ({ frames := 0, cells := 0, slots := 0, locals := 0 } : Room)) (fun a U => a = #[(.int p0)] ∧ Z.Warmed39 U.vm ∧ U.heap = h0) (fun _ _ _ _ _ => True) (fun _ U o U' => ∃ v L, o = .returned v ∧ QR (.ref (W j)) h0 n0 v U'.heap L ∧ FrameEnd U o U' L ({ frames := 0, cells := 0, slots := 0, locals := 0 } : Room).cells ({ frames := 0, cells := 0, slots := 0, locals := 0 } : Room).slots) := by
  refine MetFree.of_bodySF (plainFor_of_name pn_1) hisR ?_
  intro p e s m args below meth c s₁ Bd hml0 hP hK
  obtain ⟨rfl, hZ, hh⟩ := hP
  have hx := Bd.exec
  have hby := Bd.bytes
  have hml : c.maxLocals = 5 := hml0
  have hown : s.vm.findClass "com/example/nano_broker/nanobroker/protocol/ApiKey" = some m.cls := findClass_of_methodNamed Bd.named
  have hnm := (name_of_methodNamed Bd.named Bd.method).1
  have X0 : Stand p l e ({ frames := 0, cells := 0, slots := 0, locals := 0 } : Room) s m #[(.int p0)] below meth c s₁ [] 0 0 := Stand.of_body Bd
  have e0 : s₁.heap = h0 := by rw [← hh, Bd.state]; rfl
  have N0 := Fr.nil n0
  have pre0 : ∀ t, Steps p.tables e below (s₁.setTop (mkF m 0 #[.val (.int p0), .unset, .unset, .unset, .unset] [])) t → Steps p.tables e below (s₁.setTop (entryFrame m #[(.int p0)] 5)) t := fun t k => castTop (ef_rm1h m p0) k
  obtain ⟨T1, X1, e1, st1⟩ := getS2 X0 hx hZ hown (host := "") (Or.inl (hw _ (List.mem_of_getElem? (i := 4) rfl))) Via.refl e0 S_A (g := (mkF m 0 #[.val (.int p0), .unset, .unset, .unset, .unset] [])) rfl (hb hby d1_0)
  obtain ⟨cl2, Ar2, -, Sa2, Na2, -, -⟩ := id V_A
  obtain ⟨T3, X3, e3, st3⟩ := loopH p0 W aA kA j hj heq hne hx hZ hw hby hml hown V_A hF j 0 .unset T1 One.u (by omega) X1 e1
  obtain ⟨fs, hr, hrun, hended, hW, hsame⟩ := X3.leave (v := some (.ref (W j))) (fun h => by rw [Bd.returns] at h; cases h)
  refine ⟨_, _, pre0 _ ?_, hrun, hended, _, _, rfl, ?_, ⟨_, rfl⟩, hW, hsame.mono (by decide) (by decide)⟩
  · skip
    show Steps p.tables e below (s₁.setTop (mkF m 0 #[.val (.int p0), .unset, .unset, .unset, .unset] [])) _
    refine st1 _ ?_
    show Steps p.tables e below (T1.setTop (mkF m 3 #[.val (.int p0), .unset, .unset, .unset, .unset] [(.ref aA)])) _
    refine XS.astoreN X1.here hx rfl (hb hby d1_3) rfl rfl (l' := #[.val (.int p0), .val (.ref aA), .unset, .unset, .unset]) rfl ?_
    show Steps p.tables e below (T1.setTop (mkF m 4 #[.val (.int p0), .val (.ref aA), .unset, .unset, .unset] [])) _
    refine XS.aloadN X1.here hx rfl (hb hby d1_4) rfl rfl ?_
    show Steps p.tables e below (T1.setTop (mkF m 5 #[.val (.int p0), .val (.ref aA), .unset, .unset, .unset] [(.ref aA)])) _
    refine X1.arraylength hx (by rw [e1]; exact Ar2.1) (State.isArrayOf_alike hZ.alike Ar2.2.1) (g := (mkF m 5 #[.val (.int p0), .val (.ref aA), .unset, .unset, .unset] [(.ref aA)])) rfl rfl (hb hby d1_5) _ ?_
    rw [len_of Sa2 Na2]
    show Steps p.tables e below (T1.setTop (mkF m 6 #[.val (.int p0), .val (.ref aA), .unset, .unset, .unset] [(.int (21 : Int32))])) _
    refine XS.istoreN X1.here hx rfl (hb hby d1_6) rfl (l' := #[.val (.int p0), .val (.ref aA), .val (.int (21 : Int32)), .unset, .unset]) rfl ?_
    show Steps p.tables e below (T1.setTop (mkF m 7 #[.val (.int p0), .val (.ref aA), .val (.int (21 : Int32)), .unset, .unset] [])) _
    refine XS.iconst X1.here hx rfl (hb hby d1_7) ?_
    show Steps p.tables e below (T1.setTop (mkF m 8 #[.val (.int p0), .val (.ref aA), .val (.int (21 : Int32)), .unset, .unset] [(.int (0 : Int32))])) _
    refine XS.istoreN X1.here hx rfl (hb hby d1_8) rfl (l' := #[.val (.int p0), .val (.ref aA), .val (.int (21 : Int32)), .val (.int (0 : Int32)), .unset]) rfl ?_
    show Steps p.tables e below (T1.setTop (mkF m 9 #[.val (.int p0), .val (.ref aA), .val (.int (21 : Int32)), .val (.int (0 : Int32)), .unset] [])) _
    refine st3 _ ?_
    show Steps p.tables e below (T3.setTop (mkF m 28 #[.val (.int p0), .val (.ref aA), .val (.int (21 : Int32)), .val (.int (Int32.ofNat j)), .val (.ref (W j))] [])) _
    refine XS.aload X3.here hx rfl (hb hby d1_28) rfl rfl ?_
    show Steps p.tables e below (T3.setTop (mkF m 30 #[.val (.int p0), .val (.ref aA), .val (.int (21 : Int32)), .val (.int (Int32.ofNat j)), .val (.ref (W j))] [(.ref (W j))])) _
    jvm_step X3.here [X3.here.top, hx, (hb hby d1_30), X3.method', Bd.returns, Value.isRef, FieldType.isReference]
    first | (intro acts; rw [hr _ acts rfl rfl rfl]) | rw [hr _ _ rfl rfl rfl]
    exact Steps.refl _
  · show QR (.ref (W j)) h0 n0 _ T3.heap _
    rw [e3]
    exact ⟨(by first | rfl | simp []), N0, rfl⟩
theorem d1_37 : decode prog_27_method_4_code 37 = .ok (.aconst_null, 1) := by decide +kernel
theorem d1_38 : decode prog_27_method_4_code 38 = .ok (.areturn, 1) := by decide +kernel
theorem ef_rm1m (m : MethodId) (x0 : Int32) : entryFrame m #[(.int x0)] 5 = mkF m 0 #[.val (.int x0), .unset, .unset, .unset, .unset] [] := by first | (simp [entryFrame, mkF, argsToLocals, Value.category]; done) | rfl
set_option maxRecDepth 65536 in
set_option maxHeartbeats 40000000 in
theorem rm1m (l : Launch) (Z : State) (a0 : Array Value) (hw : ∀ d ∈ tables_1, d.before a0 Z = true) (ws : List Jvm.Cond) (p0 : Int32) (W : Nat → Addr) (aA : Addr) (kA : ClassId) (h0 : Heap) (n0 : Nat) (Z0 : n0 ≤ h0.size) (S_A : Sta Z h0 "com/example/nano_broker/nanobroker/protocol/ApiKey" "ALL" "[Lcom/example/nano_broker/nanobroker/protocol/ApiKey;" (.ref aA)) (V_A : Arv Z h0 aA kA (.object "com/example/nano_broker/nanobroker/protocol/ApiKey") (21 : Int32) [(.ref (W 0)), (.ref (W 1)), (.ref (W 2)), (.ref (W 3)), (.ref (W 4)), (.ref (W 5)), (.ref (W 6)), (.ref (W 7)), (.ref (W 8)), (.ref (W 9)), (.ref (W 10)), (.ref (W 11)), (.ref (W 12)), (.ref (W 13)), (.ref (W 14)), (.ref (W 15)), (.ref (W 16)), (.ref (W 17)), (.ref (W 18)), (.ref (W 19)), (.ref (W 20))] .null) (hF : ∀ i, i < 21 → Fld Z h0 (W i) "com/example/nano_broker/nanobroker/protocol/ApiKey" "id" "S" (.int (own_id i))) (hne : ∀ i, i < 21 → ¬ own_id i = p0) :
    MetFree l (⟨"com/example/nano_broker/nanobroker/protocol/ApiKey", "forId", "(S)Lcom/example/nano_broker/nanobroker/protocol/ApiKey;"⟩ : MethodName) (head1 (Jvm.Cond.code (⟨"com/example/nano_broker/nanobroker/protocol/ApiKey", "forId", "(S)Lcom/example/nano_broker/nanobroker/protocol/ApiKey;"⟩ : MethodName) prog_27_method_4_code 5 (some (.object "com/example/nano_broker/nanobroker/protocol/ApiKey")) :: ws) ({ frames := 0, cells := 0, slots := 0, locals := 0 } : Room)) (fun a U => a = #[(.int p0)] ∧ Z.Warmed39 U.vm ∧ U.heap = h0) (fun _ _ _ _ _ => True) (fun _ U o U' => ∃ v L, o = .returned v ∧ QR .null h0 n0 v U'.heap L ∧ FrameEnd U o U' L ({ frames := 0, cells := 0, slots := 0, locals := 0 } : Room).cells ({ frames := 0, cells := 0, slots := 0, locals := 0 } : Room).slots) := by
  refine MetFree.of_bodySF (plainFor_of_name pn_1) hisR ?_
  intro p e s m args below meth c s₁ Bd hml0 hP hK
  obtain ⟨rfl, hZ, hh⟩ := hP
  have hx := Bd.exec
  have hby := Bd.bytes
  have hml : c.maxLocals = 5 := hml0
  have hown : s.vm.findClass "com/example/nano_broker/nanobroker/protocol/ApiKey" = some m.cls := findClass_of_methodNamed Bd.named
  have hnm := (name_of_methodNamed Bd.named Bd.method).1
  have X0 : Stand p l e ({ frames := 0, cells := 0, slots := 0, locals := 0 } : Room) s m #[(.int p0)] below meth c s₁ [] 0 0 := Stand.of_body Bd
  have e0 : s₁.heap = h0 := by rw [← hh, Bd.state]; rfl
  have N0 := Fr.nil n0
  have pre0 : ∀ t, Steps p.tables e below (s₁.setTop (mkF m 0 #[.val (.int p0), .unset, .unset, .unset, .unset] [])) t → Steps p.tables e below (s₁.setTop (entryFrame m #[(.int p0)] 5)) t := fun t k => castTop (ef_rm1m m p0) k
  obtain ⟨T1, X1, e1, st1⟩ := getS2 X0 hx hZ hown (host := "") (Or.inl (hw _ (List.mem_of_getElem? (i := 4) rfl))) Via.refl e0 S_A (g := (mkF m 0 #[.val (.int p0), .unset, .unset, .unset, .unset] [])) rfl (hb hby d1_0)
  obtain ⟨cl2, Ar2, -, Sa2, Na2, -, -⟩ := id V_A
  obtain ⟨T3, s5, X3, e3, st3⟩ := loopM p0 W aA kA hne hx hZ hw hby hml hown V_A hF 21 0 .unset T1 One.u (by omega) X1 e1
  obtain ⟨fs, hr, hrun, hended, hW, hsame⟩ := X3.leave (v := some .null) (fun h => by rw [Bd.returns] at h; cases h)
  refine ⟨_, _, pre0 _ ?_, hrun, hended, _, _, rfl, ?_, ⟨_, rfl⟩, hW, hsame.mono (by decide) (by decide)⟩
  · skip
    show Steps p.tables e below (s₁.setTop (mkF m 0 #[.val (.int p0), .unset, .unset, .unset, .unset] [])) _
    refine st1 _ ?_
    show Steps p.tables e below (T1.setTop (mkF m 3 #[.val (.int p0), .unset, .unset, .unset, .unset] [(.ref aA)])) _
    refine XS.astoreN X1.here hx rfl (hb hby d1_3) rfl rfl (l' := #[.val (.int p0), .val (.ref aA), .unset, .unset, .unset]) rfl ?_
    show Steps p.tables e below (T1.setTop (mkF m 4 #[.val (.int p0), .val (.ref aA), .unset, .unset, .unset] [])) _
    refine XS.aloadN X1.here hx rfl (hb hby d1_4) rfl rfl ?_
    show Steps p.tables e below (T1.setTop (mkF m 5 #[.val (.int p0), .val (.ref aA), .unset, .unset, .unset] [(.ref aA)])) _
    refine X1.arraylength hx (by rw [e1]; exact Ar2.1) (State.isArrayOf_alike hZ.alike Ar2.2.1) (g := (mkF m 5 #[.val (.int p0), .val (.ref aA), .unset, .unset, .unset] [(.ref aA)])) rfl rfl (hb hby d1_5) _ ?_
    rw [len_of Sa2 Na2]
    show Steps p.tables e below (T1.setTop (mkF m 6 #[.val (.int p0), .val (.ref aA), .unset, .unset, .unset] [(.int (21 : Int32))])) _
    refine XS.istoreN X1.here hx rfl (hb hby d1_6) rfl (l' := #[.val (.int p0), .val (.ref aA), .val (.int (21 : Int32)), .unset, .unset]) rfl ?_
    show Steps p.tables e below (T1.setTop (mkF m 7 #[.val (.int p0), .val (.ref aA), .val (.int (21 : Int32)), .unset, .unset] [])) _
    refine XS.iconst X1.here hx rfl (hb hby d1_7) ?_
    show Steps p.tables e below (T1.setTop (mkF m 8 #[.val (.int p0), .val (.ref aA), .val (.int (21 : Int32)), .unset, .unset] [(.int (0 : Int32))])) _
    refine XS.istoreN X1.here hx rfl (hb hby d1_8) rfl (l' := #[.val (.int p0), .val (.ref aA), .val (.int (21 : Int32)), .val (.int (0 : Int32)), .unset]) rfl ?_
    show Steps p.tables e below (T1.setTop (mkF m 9 #[.val (.int p0), .val (.ref aA), .val (.int (21 : Int32)), .val (.int (0 : Int32)), .unset] [])) _
    refine st3 _ ?_
    show Steps p.tables e below (T3.setTop (mkF m 37 #[.val (.int p0), .val (.ref aA), .val (.int (21 : Int32)), .val (.int (Int32.ofNat 21)), s5] [])) _
    refine XS.aconstNull X3.here hx rfl (hb hby d1_37) ?_
    show Steps p.tables e below (T3.setTop (mkF m 38 #[.val (.int p0), .val (.ref aA), .val (.int (21 : Int32)), .val (.int (Int32.ofNat 21)), s5] [.null])) _
    jvm_step X3.here [X3.here.top, hx, (hb hby d1_38), X3.method', Bd.returns, Value.isRef, FieldType.isReference]
    first | (intro acts; rw [hr _ acts rfl rfl rfl]) | rw [hr _ _ rfl rfl rfl]
    exact Steps.refl _
  · show QR .null h0 n0 _ T3.heap _
    rw [e3]
    exact ⟨(by first | rfl | simp []), N0, rfl⟩
theorem d2_0 : decode method_3_code 0 = .ok (.iload_n 0, 1) := by decide +kernel
theorem d2_1 : decode method_3_code 1 = .ok (.tableswitch 271 0 42 #[187, 191, 195, 199, 271, 271, 271, 271, 203, 207, 211, 215, 219, 223, 227, 231, 235, 271, 239, 243, 247, 271, 251, 271, 271, 271, 271, 271, 271, 271, 271, 271, 255, 259, 271, 271, 271, 263, 271, 271, 271, 271, 267], 187) := by decide +kernel
theorem d2_188 : decode method_3_code 188 = .ok (.getstatic 23, 3) := by decide +kernel
theorem d2_191 : decode method_3_code 191 = .ok (.areturn, 1) := by decide +kernel
theorem d2_192 : decode method_3_code 192 = .ok (.getstatic 27, 3) := by decide +kernel
theorem d2_195 : decode method_3_code 195 = .ok (.areturn, 1) := by decide +kernel
theorem d2_196 : decode method_3_code 196 = .ok (.getstatic 30, 3) := by decide +kernel
theorem d2_199 : decode method_3_code 199 = .ok (.areturn, 1) := by decide +kernel
theorem d2_200 : decode method_3_code 200 = .ok (.getstatic 33, 3) := by decide +kernel
theorem d2_203 : decode method_3_code 203 = .ok (.areturn, 1) := by decide +kernel
theorem d2_272 : decode method_3_code 272 = .ok (.aconst_null, 1) := by decide +kernel
theorem d2_273 : decode method_3_code 273 = .ok (.areturn, 1) := by decide +kernel
theorem d2_204 : decode method_3_code 204 = .ok (.getstatic 36, 3) := by decide +kernel
theorem d2_207 : decode method_3_code 207 = .ok (.areturn, 1) := by decide +kernel
theorem d2_208 : decode method_3_code 208 = .ok (.getstatic 39, 3) := by decide +kernel
theorem d2_211 : decode method_3_code 211 = .ok (.areturn, 1) := by decide +kernel
theorem d2_212 : decode method_3_code 212 = .ok (.getstatic 42, 3) := by decide +kernel
theorem d2_215 : decode method_3_code 215 = .ok (.areturn, 1) := by decide +kernel
theorem d2_216 : decode method_3_code 216 = .ok (.getstatic 45, 3) := by decide +kernel
theorem d2_219 : decode method_3_code 219 = .ok (.areturn, 1) := by decide +kernel
theorem d2_220 : decode method_3_code 220 = .ok (.getstatic 48, 3) := by decide +kernel
theorem d2_223 : decode method_3_code 223 = .ok (.areturn, 1) := by decide +kernel
theorem d2_224 : decode method_3_code 224 = .ok (.getstatic 51, 3) := by decide +kernel
theorem d2_227 : decode method_3_code 227 = .ok (.areturn, 1) := by decide +kernel
theorem d2_228 : decode method_3_code 228 = .ok (.getstatic 54, 3) := by decide +kernel
theorem d2_231 : decode method_3_code 231 = .ok (.areturn, 1) := by decide +kernel
theorem d2_232 : decode method_3_code 232 = .ok (.getstatic 57, 3) := by decide +kernel
theorem d2_235 : decode method_3_code 235 = .ok (.areturn, 1) := by decide +kernel
theorem d2_236 : decode method_3_code 236 = .ok (.getstatic 60, 3) := by decide +kernel
theorem d2_239 : decode method_3_code 239 = .ok (.areturn, 1) := by decide +kernel
theorem d2_240 : decode method_3_code 240 = .ok (.getstatic 63, 3) := by decide +kernel
theorem d2_243 : decode method_3_code 243 = .ok (.areturn, 1) := by decide +kernel
theorem d2_244 : decode method_3_code 244 = .ok (.getstatic 66, 3) := by decide +kernel
theorem d2_247 : decode method_3_code 247 = .ok (.areturn, 1) := by decide +kernel
theorem d2_248 : decode method_3_code 248 = .ok (.getstatic 69, 3) := by decide +kernel
theorem d2_251 : decode method_3_code 251 = .ok (.areturn, 1) := by decide +kernel
theorem d2_252 : decode method_3_code 252 = .ok (.getstatic 72, 3) := by decide +kernel
theorem d2_255 : decode method_3_code 255 = .ok (.areturn, 1) := by decide +kernel
theorem d2_256 : decode method_3_code 256 = .ok (.getstatic 75, 3) := by decide +kernel
theorem d2_259 : decode method_3_code 259 = .ok (.areturn, 1) := by decide +kernel
theorem d2_260 : decode method_3_code 260 = .ok (.getstatic 78, 3) := by decide +kernel
theorem d2_263 : decode method_3_code 263 = .ok (.areturn, 1) := by decide +kernel
theorem d2_264 : decode method_3_code 264 = .ok (.getstatic 81, 3) := by decide +kernel
theorem d2_267 : decode method_3_code 267 = .ok (.areturn, 1) := by decide +kernel
theorem d2_268 : decode method_3_code 268 = .ok (.getstatic 84, 3) := by decide +kernel
theorem d2_271 : decode method_3_code 271 = .ok (.areturn, 1) := by decide +kernel
theorem pn_2 : plainName "com/example/nano_broker/nanobroker/protocol/ApiKeyForIdPinLaw" = true := by first | (simp [plainName, overriddenIn]; done) | decide +kernel
theorem ef_rm2 (m : MethodId) (x0 : Int32) : entryFrame m #[(.int x0)] 1 = mkF m 0 #[.val (.int x0)] [] := by first | (simp [entryFrame, mkF, argsToLocals, Value.category]; done) | rfl
set_option maxRecDepth 65536 in
set_option maxHeartbeats 40000000 in
theorem rm2 (l : Launch) (Z : State) (a0 : Array Value) (hw : ∀ d ∈ tables_1, d.before a0 Z = true) (ws : List Jvm.Cond) (p0 : Int32) (W : Nat → Addr) (h0 : Heap) (n0 : Nat) (Z0 : n0 ≤ h0.size) (S_PRODUCE : Sta Z h0 "com/example/nano_broker/nanobroker/protocol/ApiKey" "PRODUCE" "Lcom/example/nano_broker/nanobroker/protocol/ApiKey;" (.ref (W 0))) (S_FETCH : Sta Z h0 "com/example/nano_broker/nanobroker/protocol/ApiKey" "FETCH" "Lcom/example/nano_broker/nanobroker/protocol/ApiKey;" (.ref (W 1))) (S_LIST_OFFSETS : Sta Z h0 "com/example/nano_broker/nanobroker/protocol/ApiKey" "LIST_OFFSETS" "Lcom/example/nano_broker/nanobroker/protocol/ApiKey;" (.ref (W 2))) (S_METADATA : Sta Z h0 "com/example/nano_broker/nanobroker/protocol/ApiKey" "METADATA" "Lcom/example/nano_broker/nanobroker/protocol/ApiKey;" (.ref (W 3))) (S_OFFSET_COMMIT : Sta Z h0 "com/example/nano_broker/nanobroker/protocol/ApiKey" "OFFSET_COMMIT" "Lcom/example/nano_broker/nanobroker/protocol/ApiKey;" (.ref (W 4))) (S_OFFSET_FETCH : Sta Z h0 "com/example/nano_broker/nanobroker/protocol/ApiKey" "OFFSET_FETCH" "Lcom/example/nano_broker/nanobroker/protocol/ApiKey;" (.ref (W 5))) (S_FIND_COORDINATOR : Sta Z h0 "com/example/nano_broker/nanobroker/protocol/ApiKey" "FIND_COORDINATOR" "Lcom/example/nano_broker/nanobroker/protocol/ApiKey;" (.ref (W 6))) (S_JOIN_GROUP : Sta Z h0 "com/example/nano_broker/nanobroker/protocol/ApiKey" "JOIN_GROUP" "Lcom/example/nano_broker/nanobroker/protocol/ApiKey;" (.ref (W 7))) (S_HEARTBEAT : Sta Z h0 "com/example/nano_broker/nanobroker/protocol/ApiKey" "HEARTBEAT" "Lcom/example/nano_broker/nanobroker/protocol/ApiKey;" (.ref (W 8))) (S_LEAVE_GROUP : Sta Z h0 "com/example/nano_broker/nanobroker/protocol/ApiKey" "LEAVE_GROUP" "Lcom/example/nano_broker/nanobroker/protocol/ApiKey;" (.ref (W 9))) (S_SYNC_GROUP : Sta Z h0 "com/example/nano_broker/nanobroker/protocol/ApiKey" "SYNC_GROUP" "Lcom/example/nano_broker/nanobroker/protocol/ApiKey;" (.ref (W 10))) (S_DESCRIBE_GROUPS : Sta Z h0 "com/example/nano_broker/nanobroker/protocol/ApiKey" "DESCRIBE_GROUPS" "Lcom/example/nano_broker/nanobroker/protocol/ApiKey;" (.ref (W 11))) (S_LIST_GROUPS : Sta Z h0 "com/example/nano_broker/nanobroker/protocol/ApiKey" "LIST_GROUPS" "Lcom/example/nano_broker/nanobroker/protocol/ApiKey;" (.ref (W 12))) (S_API_VERSIONS : Sta Z h0 "com/example/nano_broker/nanobroker/protocol/ApiKey" "API_VERSIONS" "Lcom/example/nano_broker/nanobroker/protocol/ApiKey;" (.ref (W 13))) (S_CREATE_TOPICS : Sta Z h0 "com/example/nano_broker/nanobroker/protocol/ApiKey" "CREATE_TOPICS" "Lcom/example/nano_broker/nanobroker/protocol/ApiKey;" (.ref (W 14))) (S_DELETE_TOPICS : Sta Z h0 "com/example/nano_broker/nanobroker/protocol/ApiKey" "DELETE_TOPICS" "Lcom/example/nano_broker/nanobroker/protocol/ApiKey;" (.ref (W 15))) (S_INIT_PRODUCER_ID : Sta Z h0 "com/example/nano_broker/nanobroker/protocol/ApiKey" "INIT_PRODUCER_ID" "Lcom/example/nano_broker/nanobroker/protocol/ApiKey;" (.ref (W 16))) (S_DESCRIBE_CONFIGS : Sta Z h0 "com/example/nano_broker/nanobroker/protocol/ApiKey" "DESCRIBE_CONFIGS" "Lcom/example/nano_broker/nanobroker/protocol/ApiKey;" (.ref (W 17))) (S_ALTER_CONFIGS : Sta Z h0 "com/example/nano_broker/nanobroker/protocol/ApiKey" "ALTER_CONFIGS" "Lcom/example/nano_broker/nanobroker/protocol/ApiKey;" (.ref (W 18))) (S_CREATE_PARTITIONS : Sta Z h0 "com/example/nano_broker/nanobroker/protocol/ApiKey" "CREATE_PARTITIONS" "Lcom/example/nano_broker/nanobroker/protocol/ApiKey;" (.ref (W 19))) (S_DELETE_GROUPS : Sta Z h0 "com/example/nano_broker/nanobroker/protocol/ApiKey" "DELETE_GROUPS" "Lcom/example/nano_broker/nanobroker/protocol/ApiKey;" (.ref (W 20))) :
    MetFree l (⟨"com/example/nano_broker/nanobroker/protocol/ApiKeyForIdPinLaw", "expected", "(I)Lcom/example/nano_broker/nanobroker/protocol/ApiKey;"⟩ : MethodName) (head1 (Jvm.Cond.code (⟨"com/example/nano_broker/nanobroker/protocol/ApiKeyForIdPinLaw", "expected", "(I)Lcom/example/nano_broker/nanobroker/protocol/ApiKey;"⟩ : MethodName) method_3_code 1 (some (.object "com/example/nano_broker/nanobroker/protocol/ApiKey")) :: ws) ({ frames := 0, cells := 0, slots := 0, locals := 0 } : Room)) (fun a U => a = #[(.int p0)] ∧ Z.Warmed39 U.vm ∧ U.heap = h0) (fun _ _ _ _ _ => True) (fun _ U o U' => ∃ v L, o = .returned v ∧ QR (own_look W p0) h0 n0 v U'.heap L ∧ FrameEnd U o U' L ({ frames := 0, cells := 0, slots := 0, locals := 0 } : Room).cells ({ frames := 0, cells := 0, slots := 0, locals := 0 } : Room).slots) := by
  refine MetFree.of_bodySF (plainFor_of_name pn_2) hisR ?_
  intro p e s m args below meth c s₁ Bd hml0 hP hK
  obtain ⟨rfl, hZ, hh⟩ := hP
  have hx := Bd.exec
  have hby := Bd.bytes
  have hml : c.maxLocals = 1 := hml0
  have hown : s.vm.findClass "com/example/nano_broker/nanobroker/protocol/ApiKeyForIdPinLaw" = some m.cls := findClass_of_methodNamed Bd.named
  have hnm := (name_of_methodNamed Bd.named Bd.method).1
  have X0 : Stand p l e ({ frames := 0, cells := 0, slots := 0, locals := 0 } : Room) s m #[(.int p0)] below meth c s₁ [] 0 0 := Stand.of_body Bd
  have e0 : s₁.heap = h0 := by rw [← hh, Bd.state]; rfl
  have N0 := Fr.nil n0
  have pre0 : ∀ t, Steps p.tables e below (s₁.setTop (mkF m 0 #[.val (.int p0)] [])) t → Steps p.tables e below (s₁.setTop (entryFrame m #[(.int p0)] 1)) t := fun t k => castTop (ef_rm2 m p0) k
  have pre1 : ∀ t, Steps p.tables e below (s₁.setTop (mkF m 1 #[.val (.int p0)] [(.int p0)])) t → Steps p.tables e below (s₁.setTop (entryFrame m #[(.int p0)] 1)) t := by
    intro t kt
    refine pre0 t ?_
    show Steps p.tables e below (s₁.setTop (mkF m 0 #[.val (.int p0)] [])) _
    refine XS.iloadN X0.here hx rfl (hb hby d2_0) rfl ?_
    exact kt
  by_cases hc2 : p0 = (0 : Int32)
  · skip
    obtain ⟨T3, X3, e3, st3⟩ := getS2 X0 hx hZ hown (host := "") (Or.inl (hw _ (List.mem_of_getElem? (i := 13) rfl))) Via.refl e0 S_PRODUCE (g := (mkF m 188 #[.val (.int p0)] [])) rfl (hb hby d2_188)
    obtain ⟨fs, hr, hrun, hended, hW, hsame⟩ := X3.leave (v := some (.ref (W 0))) (fun h => by rw [Bd.returns] at h; cases h)
    refine ⟨_, _, pre1 _ ?_, hrun, hended, _, _, rfl, ?_, ⟨_, rfl⟩, hW, hsame.mono (by decide) (by decide)⟩
    · skip
      show Steps p.tables e below (s₁.setTop (mkF m 1 #[.val (.int p0)] [(.int p0)])) _
      refine X0.tableswitchIn hx (g := (mkF m 1 #[.val (.int p0)] [(.int p0)])) rfl rfl (hb hby d2_1) (by rw [hc2]; decide) (off := 187) (by rw [hc2]; rfl) (by show (0 : Int) ≤ (1 : Int) + 187; decide) _ ?_
      show Steps p.tables e below (s₁.setTop (mkF m 188 #[.val (.int p0)] [])) _
      refine st3 _ ?_
      show Steps p.tables e below (T3.setTop (mkF m 191 #[.val (.int p0)] [(.ref (W 0))])) _
      jvm_step X3.here [X3.here.top, hx, (hb hby d2_191), X3.method', Bd.returns, Value.isRef, FieldType.isReference]
      first | (intro acts; rw [hr _ acts rfl rfl rfl]) | rw [hr _ _ rfl rfl rfl]
      exact Steps.refl _
    · show QR (own_look W p0) h0 n0 _ T3.heap _
      rw [e3]
      exact ⟨(by rw [hc2]; rfl), N0, rfl⟩
  by_cases hc4 : p0 = (1 : Int32)
  · skip
    obtain ⟨T5, X5, e5, st5⟩ := getS2 X0 hx hZ hown (host := "") (Or.inl (hw _ (List.mem_of_getElem? (i := 43) rfl))) Via.refl e0 S_FETCH (g := (mkF m 192 #[.val (.int p0)] [])) rfl (hb hby d2_192)
    obtain ⟨fs, hr, hrun, hended, hW, hsame⟩ := X5.leave (v := some (.ref (W 1))) (fun h => by rw [Bd.returns] at h; cases h)
    refine ⟨_, _, pre1 _ ?_, hrun, hended, _, _, rfl, ?_, ⟨_, rfl⟩, hW, hsame.mono (by decide) (by decide)⟩
    · skip
      show Steps p.tables e below (s₁.setTop (mkF m 1 #[.val (.int p0)] [(.int p0)])) _
      refine X0.tableswitchIn hx (g := (mkF m 1 #[.val (.int p0)] [(.int p0)])) rfl rfl (hb hby d2_1) (by rw [hc4]; decide) (off := 191) (by rw [hc4]; rfl) (by show (0 : Int) ≤ (1 : Int) + 191; decide) _ ?_
      show Steps p.tables e below (s₁.setTop (mkF m 192 #[.val (.int p0)] [])) _
      refine st5 _ ?_
      show Steps p.tables e below (T5.setTop (mkF m 195 #[.val (.int p0)] [(.ref (W 1))])) _
      jvm_step X5.here [X5.here.top, hx, (hb hby d2_195), X5.method', Bd.returns, Value.isRef, FieldType.isReference]
      first | (intro acts; rw [hr _ acts rfl rfl rfl]) | rw [hr _ _ rfl rfl rfl]
      exact Steps.refl _
    · show QR (own_look W p0) h0 n0 _ T5.heap _
      rw [e5]
      exact ⟨(by rw [hc4]; rfl), N0, rfl⟩
  by_cases hc6 : p0 = (2 : Int32)
  · skip
    obtain ⟨T7, X7, e7, st7⟩ := getS2 X0 hx hZ hown (host := "") (Or.inl (hw _ (List.mem_of_getElem? (i := 44) rfl))) Via.refl e0 S_LIST_OFFSETS (g := (mkF m 196 #[.val (.int p0)] [])) rfl (hb hby d2_196)
    obtain ⟨fs, hr, hrun, hended, hW, hsame⟩ := X7.leave (v := some (.ref (W 2))) (fun h => by rw [Bd.returns] at h; cases h)
    refine ⟨_, _, pre1 _ ?_, hrun, hended, _, _, rfl, ?_, ⟨_, rfl⟩, hW, hsame.mono (by decide) (by decide)⟩
    · skip
      show Steps p.tables e below (s₁.setTop (mkF m 1 #[.val (.int p0)] [(.int p0)])) _
      refine X0.tableswitchIn hx (g := (mkF m 1 #[.val (.int p0)] [(.int p0)])) rfl rfl (hb hby d2_1) (by rw [hc6]; decide) (off := 195) (by rw [hc6]; rfl) (by show (0 : Int) ≤ (1 : Int) + 195; decide) _ ?_
      show Steps p.tables e below (s₁.setTop (mkF m 196 #[.val (.int p0)] [])) _
      refine st7 _ ?_
      show Steps p.tables e below (T7.setTop (mkF m 199 #[.val (.int p0)] [(.ref (W 2))])) _
      jvm_step X7.here [X7.here.top, hx, (hb hby d2_199), X7.method', Bd.returns, Value.isRef, FieldType.isReference]
      first | (intro acts; rw [hr _ acts rfl rfl rfl]) | rw [hr _ _ rfl rfl rfl]
      exact Steps.refl _
    · show QR (own_look W p0) h0 n0 _ T7.heap _
      rw [e7]
      exact ⟨(by rw [hc6]; rfl), N0, rfl⟩
  by_cases hc8 : p0 = (3 : Int32)
  · skip
    obtain ⟨T9, X9, e9, st9⟩ := getS2 X0 hx hZ hown (host := "") (Or.inl (hw _ (List.mem_of_getElem? (i := 42) rfl))) Via.refl e0 S_METADATA (g := (mkF m 200 #[.val (.int p0)] [])) rfl (hb hby d2_200)
    obtain ⟨fs, hr, hrun, hended, hW, hsame⟩ := X9.leave (v := some (.ref (W 3))) (fun h => by rw [Bd.returns] at h; cases h)
    refine ⟨_, _, pre1 _ ?_, hrun, hended, _, _, rfl, ?_, ⟨_, rfl⟩, hW, hsame.mono (by decide) (by decide)⟩
    · skip
      show Steps p.tables e below (s₁.setTop (mkF m 1 #[.val (.int p0)] [(.int p0)])) _
      refine X0.tableswitchIn hx (g := (mkF m 1 #[.val (.int p0)] [(.int p0)])) rfl rfl (hb hby d2_1) (by rw [hc8]; decide) (off := 199) (by rw [hc8]; rfl) (by show (0 : Int) ≤ (1 : Int) + 199; decide) _ ?_
      show Steps p.tables e below (s₁.setTop (mkF m 200 #[.val (.int p0)] [])) _
      refine st9 _ ?_
      show Steps p.tables e below (T9.setTop (mkF m 203 #[.val (.int p0)] [(.ref (W 3))])) _
      jvm_step X9.here [X9.here.top, hx, (hb hby d2_203), X9.method', Bd.returns, Value.isRef, FieldType.isReference]
      first | (intro acts; rw [hr _ acts rfl rfl rfl]) | rw [hr _ _ rfl rfl rfl]
      exact Steps.refl _
    · show QR (own_look W p0) h0 n0 _ T9.heap _
      rw [e9]
      exact ⟨(by rw [hc8]; rfl), N0, rfl⟩
  by_cases hc10 : p0 = (4 : Int32)
  · skip
    obtain ⟨fs, hr, hrun, hended, hW, hsame⟩ := X0.leave (v := some .null) (fun h => by rw [Bd.returns] at h; cases h)
    refine ⟨_, _, pre1 _ ?_, hrun, hended, _, _, rfl, ?_, ⟨_, rfl⟩, hW, hsame.mono (by decide) (by decide)⟩
    · skip
      show Steps p.tables e below (s₁.setTop (mkF m 1 #[.val (.int p0)] [(.int p0)])) _
      refine X0.tableswitchIn hx (g := (mkF m 1 #[.val (.int p0)] [(.int p0)])) rfl rfl (hb hby d2_1) (by rw [hc10]; decide) (off := 271) (by rw [hc10]; rfl) (by show (0 : Int) ≤ (1 : Int) + 271; decide) _ ?_
      show Steps p.tables e below (s₁.setTop (mkF m 272 #[.val (.int p0)] [])) _
      refine XS.aconstNull X0.here hx rfl (hb hby d2_272) ?_
      show Steps p.tables e below (s₁.setTop (mkF m 273 #[.val (.int p0)] [.null])) _
      jvm_step X0.here [X0.here.top, hx, (hb hby d2_273), X0.method', Bd.returns, Value.isRef, FieldType.isReference]
      first | (intro acts; rw [hr _ acts rfl rfl rfl]) | rw [hr _ _ rfl rfl rfl]
      exact Steps.refl _
    · show QR (own_look W p0) h0 n0 _ s₁.heap _
      rw [e0]
      exact ⟨(by rw [hc10]; rfl), N0, rfl⟩
  by_cases hc11 : p0 = (5 : Int32)
  · skip
    obtain ⟨fs, hr, hrun, hended, hW, hsame⟩ := X0.leave (v := some .null) (fun h => by rw [Bd.returns] at h; cases h)
    refine ⟨_, _, pre1 _ ?_, hrun, hended, _, _, rfl, ?_, ⟨_, rfl⟩, hW, hsame.mono (by decide) (by decide)⟩
    · skip
      show Steps p.tables e below (s₁.setTop (mkF m 1 #[.val (.int p0)] [(.int p0)])) _
      refine X0.tableswitchIn hx (g := (mkF m 1 #[.val (.int p0)] [(.int p0)])) rfl rfl (hb hby d2_1) (by rw [hc11]; decide) (off := 271) (by rw [hc11]; rfl) (by show (0 : Int) ≤ (1 : Int) + 271; decide) _ ?_
      show Steps p.tables e below (s₁.setTop (mkF m 272 #[.val (.int p0)] [])) _
      refine XS.aconstNull X0.here hx rfl (hb hby d2_272) ?_
      show Steps p.tables e below (s₁.setTop (mkF m 273 #[.val (.int p0)] [.null])) _
      jvm_step X0.here [X0.here.top, hx, (hb hby d2_273), X0.method', Bd.returns, Value.isRef, FieldType.isReference]
      first | (intro acts; rw [hr _ acts rfl rfl rfl]) | rw [hr _ _ rfl rfl rfl]
      exact Steps.refl _
    · show QR (own_look W p0) h0 n0 _ s₁.heap _
      rw [e0]
      exact ⟨(by rw [hc11]; rfl), N0, rfl⟩
  by_cases hc12 : p0 = (6 : Int32)
  · skip
    obtain ⟨fs, hr, hrun, hended, hW, hsame⟩ := X0.leave (v := some .null) (fun h => by rw [Bd.returns] at h; cases h)
    refine ⟨_, _, pre1 _ ?_, hrun, hended, _, _, rfl, ?_, ⟨_, rfl⟩, hW, hsame.mono (by decide) (by decide)⟩
    · skip
      show Steps p.tables e below (s₁.setTop (mkF m 1 #[.val (.int p0)] [(.int p0)])) _
      refine X0.tableswitchIn hx (g := (mkF m 1 #[.val (.int p0)] [(.int p0)])) rfl rfl (hb hby d2_1) (by rw [hc12]; decide) (off := 271) (by rw [hc12]; rfl) (by show (0 : Int) ≤ (1 : Int) + 271; decide) _ ?_
      show Steps p.tables e below (s₁.setTop (mkF m 272 #[.val (.int p0)] [])) _
      refine XS.aconstNull X0.here hx rfl (hb hby d2_272) ?_
      show Steps p.tables e below (s₁.setTop (mkF m 273 #[.val (.int p0)] [.null])) _
      jvm_step X0.here [X0.here.top, hx, (hb hby d2_273), X0.method', Bd.returns, Value.isRef, FieldType.isReference]
      first | (intro acts; rw [hr _ acts rfl rfl rfl]) | rw [hr _ _ rfl rfl rfl]
      exact Steps.refl _
    · show QR (own_look W p0) h0 n0 _ s₁.heap _
      rw [e0]
      exact ⟨(by rw [hc12]; rfl), N0, rfl⟩
  by_cases hc13 : p0 = (7 : Int32)
  · skip
    obtain ⟨fs, hr, hrun, hended, hW, hsame⟩ := X0.leave (v := some .null) (fun h => by rw [Bd.returns] at h; cases h)
    refine ⟨_, _, pre1 _ ?_, hrun, hended, _, _, rfl, ?_, ⟨_, rfl⟩, hW, hsame.mono (by decide) (by decide)⟩
    · skip
      show Steps p.tables e below (s₁.setTop (mkF m 1 #[.val (.int p0)] [(.int p0)])) _
      refine X0.tableswitchIn hx (g := (mkF m 1 #[.val (.int p0)] [(.int p0)])) rfl rfl (hb hby d2_1) (by rw [hc13]; decide) (off := 271) (by rw [hc13]; rfl) (by show (0 : Int) ≤ (1 : Int) + 271; decide) _ ?_
      show Steps p.tables e below (s₁.setTop (mkF m 272 #[.val (.int p0)] [])) _
      refine XS.aconstNull X0.here hx rfl (hb hby d2_272) ?_
      show Steps p.tables e below (s₁.setTop (mkF m 273 #[.val (.int p0)] [.null])) _
      jvm_step X0.here [X0.here.top, hx, (hb hby d2_273), X0.method', Bd.returns, Value.isRef, FieldType.isReference]
      first | (intro acts; rw [hr _ acts rfl rfl rfl]) | rw [hr _ _ rfl rfl rfl]
      exact Steps.refl _
    · show QR (own_look W p0) h0 n0 _ s₁.heap _
      rw [e0]
      exact ⟨(by rw [hc13]; rfl), N0, rfl⟩
  by_cases hc14 : p0 = (8 : Int32)
  · skip
    obtain ⟨T15, X15, e15, st15⟩ := getS2 X0 hx hZ hown (host := "") (Or.inl (hw _ (List.mem_of_getElem? (i := 40) rfl))) Via.refl e0 S_OFFSET_COMMIT (g := (mkF m 204 #[.val (.int p0)] [])) rfl (hb hby d2_204)
    obtain ⟨fs, hr, hrun, hended, hW, hsame⟩ := X15.leave (v := some (.ref (W 4))) (fun h => by rw [Bd.returns] at h; cases h)
    refine ⟨_, _, pre1 _ ?_, hrun, hended, _, _, rfl, ?_, ⟨_, rfl⟩, hW, hsame.mono (by decide) (by decide)⟩
    · skip
      show Steps p.tables e below (s₁.setTop (mkF m 1 #[.val (.int p0)] [(.int p0)])) _
      refine X0.tableswitchIn hx (g := (mkF m 1 #[.val (.int p0)] [(.int p0)])) rfl rfl (hb hby d2_1) (by rw [hc14]; decide) (off := 203) (by rw [hc14]; rfl) (by show (0 : Int) ≤ (1 : Int) + 203; decide) _ ?_
      show Steps p.tables e below (s₁.setTop (mkF m 204 #[.val (.int p0)] [])) _
      refine st15 _ ?_
      show Steps p.tables e below (T15.setTop (mkF m 207 #[.val (.int p0)] [(.ref (W 4))])) _
      jvm_step X15.here [X15.here.top, hx, (hb hby d2_207), X15.method', Bd.returns, Value.isRef, FieldType.isReference]
      first | (intro acts; rw [hr _ acts rfl rfl rfl]) | rw [hr _ _ rfl rfl rfl]
      exact Steps.refl _
    · show QR (own_look W p0) h0 n0 _ T15.heap _
      rw [e15]
      exact ⟨(by rw [hc14]; rfl), N0, rfl⟩
  by_cases hc16 : p0 = (9 : Int32)
  · skip
    obtain ⟨T17, X17, e17, st17⟩ := getS2 X0 hx hZ hown (host := "") (Or.inl (hw _ (List.mem_of_getElem? (i := 47) rfl))) Via.refl e0 S_OFFSET_FETCH (g := (mkF m 208 #[.val (.int p0)] [])) rfl (hb hby d2_208)
    obtain ⟨fs, hr, hrun, hended, hW, hsame⟩ := X17.leave (v := some (.ref (W 5))) (fun h => by rw [Bd.returns] at h; cases h)
    refine ⟨_, _, pre1 _ ?_, hrun, hended, _, _, rfl, ?_, ⟨_, rfl⟩, hW, hsame.mono (by decide) (by decide)⟩
    · skip
      show Steps p.tables e below (s₁.setTop (mkF m 1 #[.val (.int p0)] [(.int p0)])) _
      refine X0.tableswitchIn hx (g := (mkF m 1 #[.val (.int p0)] [(.int p0)])) rfl rfl (hb hby d2_1) (by rw [hc16]; decide) (off := 207) (by rw [hc16]; rfl) (by show (0 : Int) ≤ (1 : Int) + 207; decide) _ ?_
      show Steps p.tables e below (s₁.setTop (mkF m 208 #[.val (.int p0)] [])) _
      refine st17 _ ?_
      show Steps p.tables e below (T17.setTop (mkF m 211 #[.val (.int p0)] [(.ref (W 5))])) _
      jvm_step X17.here [X17.here.top, hx, (hb hby d2_211), X17.method', Bd.returns, Value.isRef, FieldType.isReference]
      first | (intro acts; rw [hr _ acts rfl rfl rfl]) | rw [hr _ _ rfl rfl rfl]
      exact Steps.refl _
    · show QR (own_look W p0) h0 n0 _ T17.heap _
      rw [e17]
      exact ⟨(by rw [hc16]; rfl), N0, rfl⟩
  by_cases hc18 : p0 = (10 : Int32)
  · skip
    obtain ⟨T19, X19, e19, st19⟩ := getS2 X0 hx hZ hown (host := "") (Or.inl (hw _ (List.mem_of_getElem? (i := 45) rfl))) Via.refl e0 S_FIND_COORDINATOR (g := (mkF m 212 #[.val (.int p0)] [])) rfl (hb hby d2_212)
    obtain ⟨fs, hr, hrun, hended, hW, hsame⟩ := X19.leave (v := some (.ref (W 6))) (fun h => by rw [Bd.returns] at h; cases h)
    refine ⟨_, _, pre1 _ ?_, hrun, hended, _, _, rfl, ?_, ⟨_, rfl⟩, hW, hsame.mono (by decide) (by decide)⟩
    · skip
      show Steps p.tables e below (s₁.setTop (mkF m 1 #[.val (.int p0)] [(.int p0)])) _
      refine X0.tableswitchIn hx (g := (mkF m 1 #[.val (.int p0)] [(.int p0)])) rfl rfl (hb hby d2_1) (by rw [hc18]; decide) (off := 211) (by rw [hc18]; rfl) (by show (0 : Int) ≤ (1 : Int) + 211; decide) _ ?_
      show Steps p.tables e below (s₁.setTop (mkF m 212 #[.val (.int p0)] [])) _
      refine st19 _ ?_
      show Steps p.tables e below (T19.setTop (mkF m 215 #[.val (.int p0)] [(.ref (W 6))])) _
      jvm_step X19.here [X19.here.top, hx, (hb hby d2_215), X19.method', Bd.returns, Value.isRef, FieldType.isReference]
      first | (intro acts; rw [hr _ acts rfl rfl rfl]) | rw [hr _ _ rfl rfl rfl]
      exact Steps.refl _
    · show QR (own_look W p0) h0 n0 _ T19.heap _
      rw [e19]
      exact ⟨(by rw [hc18]; rfl), N0, rfl⟩
  by_cases hc20 : p0 = (11 : Int32)
  · skip
    obtain ⟨T21, X21, e21, st21⟩ := getS2 X0 hx hZ hown (host := "") (Or.inl (hw _ (List.mem_of_getElem? (i := 46) rfl))) Via.refl e0 S_JOIN_GROUP (g := (mkF m 216 #[.val (.int p0)] [])) rfl (hb hby d2_216)
    obtain ⟨fs, hr, hrun, hended, hW, hsame⟩ := X21.leave (v := some (.ref (W 7))) (fun h => by rw [Bd.returns] at h; cases h)
    refine ⟨_, _, pre1 _ ?_, hrun, hended, _, _, rfl, ?_, ⟨_, rfl⟩, hW, hsame.mono (by decide) (by decide)⟩
    · skip
      show Steps p.tables e below (s₁.setTop (mkF m 1 #[.val (.int p0)] [(.int p0)])) _
      refine X0.tableswitchIn hx (g := (mkF m 1 #[.val (.int p0)] [(.int p0)])) rfl rfl (hb hby d2_1) (by rw [hc20]; decide) (off := 215) (by rw [hc20]; rfl) (by show (0 : Int) ≤ (1 : Int) + 215; decide) _ ?_
      show Steps p.tables e below (s₁.setTop (mkF m 216 #[.val (.int p0)] [])) _
      refine st21 _ ?_
      show Steps p.tables e below (T21.setTop (mkF m 219 #[.val (.int p0)] [(.ref (W 7))])) _
      jvm_step X21.here [X21.here.top, hx, (hb hby d2_219), X21.method', Bd.returns, Value.isRef, FieldType.isReference]
      first | (intro acts; rw [hr _ acts rfl rfl rfl]) | rw [hr _ _ rfl rfl rfl]
      exact Steps.refl _
    · show QR (own_look W p0) h0 n0 _ T21.heap _
      rw [e21]
      exact ⟨(by rw [hc20]; rfl), N0, rfl⟩
  by_cases hc22 : p0 = (12 : Int32)
  · skip
    obtain ⟨T23, X23, e23, st23⟩ := getS2 X0 hx hZ hown (host := "") (Or.inl (hw _ (List.mem_of_getElem? (i := 41) rfl))) Via.refl e0 S_HEARTBEAT (g := (mkF m 220 #[.val (.int p0)] [])) rfl (hb hby d2_220)
    obtain ⟨fs, hr, hrun, hended, hW, hsame⟩ := X23.leave (v := some (.ref (W 8))) (fun h => by rw [Bd.returns] at h; cases h)
    refine ⟨_, _, pre1 _ ?_, hrun, hended, _, _, rfl, ?_, ⟨_, rfl⟩, hW, hsame.mono (by decide) (by decide)⟩
    · skip
      show Steps p.tables e below (s₁.setTop (mkF m 1 #[.val (.int p0)] [(.int p0)])) _
      refine X0.tableswitchIn hx (g := (mkF m 1 #[.val (.int p0)] [(.int p0)])) rfl rfl (hb hby d2_1) (by rw [hc22]; decide) (off := 219) (by rw [hc22]; rfl) (by show (0 : Int) ≤ (1 : Int) + 219; decide) _ ?_
      show Steps p.tables e below (s₁.setTop (mkF m 220 #[.val (.int p0)] [])) _
      refine st23 _ ?_
      show Steps p.tables e below (T23.setTop (mkF m 223 #[.val (.int p0)] [(.ref (W 8))])) _
      jvm_step X23.here [X23.here.top, hx, (hb hby d2_223), X23.method', Bd.returns, Value.isRef, FieldType.isReference]
      first | (intro acts; rw [hr _ acts rfl rfl rfl]) | rw [hr _ _ rfl rfl rfl]
      exact Steps.refl _
    · show QR (own_look W p0) h0 n0 _ T23.heap _
      rw [e23]
      exact ⟨(by rw [hc22]; rfl), N0, rfl⟩
  by_cases hc24 : p0 = (13 : Int32)
  · skip
    obtain ⟨T25, X25, e25, st25⟩ := getS2 X0 hx hZ hown (host := "") (Or.inl (hw _ (List.mem_of_getElem? (i := 49) rfl))) Via.refl e0 S_LEAVE_GROUP (g := (mkF m 224 #[.val (.int p0)] [])) rfl (hb hby d2_224)
    obtain ⟨fs, hr, hrun, hended, hW, hsame⟩ := X25.leave (v := some (.ref (W 9))) (fun h => by rw [Bd.returns] at h; cases h)
    refine ⟨_, _, pre1 _ ?_, hrun, hended, _, _, rfl, ?_, ⟨_, rfl⟩, hW, hsame.mono (by decide) (by decide)⟩
    · skip
      show Steps p.tables e below (s₁.setTop (mkF m 1 #[.val (.int p0)] [(.int p0)])) _
      refine X0.tableswitchIn hx (g := (mkF m 1 #[.val (.int p0)] [(.int p0)])) rfl rfl (hb hby d2_1) (by rw [hc24]; decide) (off := 223) (by rw [hc24]; rfl) (by show (0 : Int) ≤ (1 : Int) + 223; decide) _ ?_
      show Steps p.tables e below (s₁.setTop (mkF m 224 #[.val (.int p0)] [])) _
      refine st25 _ ?_
      show Steps p.tables e below (T25.setTop (mkF m 227 #[.val (.int p0)] [(.ref (W 9))])) _
      jvm_step X25.here [X25.here.top, hx, (hb hby d2_227), X25.method', Bd.returns, Value.isRef, FieldType.isReference]
      first | (intro acts; rw [hr _ acts rfl rfl rfl]) | rw [hr _ _ rfl rfl rfl]
      exact Steps.refl _
    · show QR (own_look W p0) h0 n0 _ T25.heap _
      rw [e25]
      exact ⟨(by rw [hc24]; rfl), N0, rfl⟩
  by_cases hc26 : p0 = (14 : Int32)
  · skip
    obtain ⟨T27, X27, e27, st27⟩ := getS2 X0 hx hZ hown (host := "") (Or.inl (hw _ (List.mem_of_getElem? (i := 29) rfl))) Via.refl e0 S_SYNC_GROUP (g := (mkF m 228 #[.val (.int p0)] [])) rfl (hb hby d2_228)
    obtain ⟨fs, hr, hrun, hended, hW, hsame⟩ := X27.leave (v := some (.ref (W 10))) (fun h => by rw [Bd.returns] at h; cases h)
    refine ⟨_, _, pre1 _ ?_, hrun, hended, _, _, rfl, ?_, ⟨_, rfl⟩, hW, hsame.mono (by decide) (by decide)⟩
    · skip
      show Steps p.tables e below (s₁.setTop (mkF m 1 #[.val (.int p0)] [(.int p0)])) _
      refine X0.tableswitchIn hx (g := (mkF m 1 #[.val (.int p0)] [(.int p0)])) rfl rfl (hb hby d2_1) (by rw [hc26]; decide) (off := 227) (by rw [hc26]; rfl) (by show (0 : Int) ≤ (1 : Int) + 227; decide) _ ?_
      show Steps p.tables e below (s₁.setTop (mkF m 228 #[.val (.int p0)] [])) _
      refine st27 _ ?_
      show Steps p.tables e below (T27.setTop (mkF m 231 #[.val (.int p0)] [(.ref (W 10))])) _
      jvm_step X27.here [X27.here.top, hx, (hb hby d2_231), X27.method', Bd.returns, Value.isRef, FieldType.isReference]
      first | (intro acts; rw [hr _ acts rfl rfl rfl]) | rw [hr _ _ rfl rfl rfl]
      exact Steps.refl _
    · show QR (own_look W p0) h0 n0 _ T27.heap _
      rw [e27]
      exact ⟨(by rw [hc26]; rfl), N0, rfl⟩
  by_cases hc28 : p0 = (15 : Int32)
  · skip
    obtain ⟨T29, X29, e29, st29⟩ := getS2 X0 hx hZ hown (host := "") (Or.inl (hw _ (List.mem_of_getElem? (i := 51) rfl))) Via.refl e0 S_DESCRIBE_GROUPS (g := (mkF m 232 #[.val (.int p0)] [])) rfl (hb hby d2_232)
    obtain ⟨fs, hr, hrun, hended, hW, hsame⟩ := X29.leave (v := some (.ref (W 11))) (fun h => by rw [Bd.returns] at h; cases h)
    refine ⟨_, _, pre1 _ ?_, hrun, hended, _, _, rfl, ?_, ⟨_, rfl⟩, hW, hsame.mono (by decide) (by decide)⟩
    · skip
      show Steps p.tables e below (s₁.setTop (mkF m 1 #[.val (.int p0)] [(.int p0)])) _
      refine X0.tableswitchIn hx (g := (mkF m 1 #[.val (.int p0)] [(.int p0)])) rfl rfl (hb hby d2_1) (by rw [hc28]; decide) (off := 231) (by rw [hc28]; rfl) (by show (0 : Int) ≤ (1 : Int) + 231; decide) _ ?_
      show Steps p.tables e below (s₁.setTop (mkF m 232 #[.val (.int p0)] [])) _
      refine st29 _ ?_
      show Steps p.tables e below (T29.setTop (mkF m 235 #[.val (.int p0)] [(.ref (W 11))])) _
      jvm_step X29.here [X29.here.top, hx, (hb hby d2_235), X29.method', Bd.returns, Value.isRef, FieldType.isReference]
      first | (intro acts; rw [hr _ acts rfl rfl rfl]) | rw [hr _ _ rfl rfl rfl]
      exact Steps.refl _
    · show QR (own_look W p0) h0 n0 _ T29.heap _
      rw [e29]
      exact ⟨(by rw [hc28]; rfl), N0, rfl⟩
  by_cases hc30 : p0 = (16 : Int32)
  · skip
    obtain ⟨T31, X31, e31, st31⟩ := getS2 X0 hx hZ hown (host := "") (Or.inl (hw _ (List.mem_of_getElem? (i := 53) rfl))) Via.refl e0 S_LIST_GROUPS (g := (mkF m 236 #[.val (.int p0)] [])) rfl (hb hby d2_236)
    obtain ⟨fs, hr, hrun, hended, hW, hsame⟩ := X31.leave (v := some (.ref (W 12))) (fun h => by rw [Bd.returns] at h; cases h)
    refine ⟨_, _, pre1 _ ?_, hrun, hended, _, _, rfl, ?_, ⟨_, rfl⟩, hW, hsame.mono (by decide) (by decide)⟩
    · skip
      show Steps p.tables e below (s₁.setTop (mkF m 1 #[.val (.int p0)] [(.int p0)])) _
      refine X0.tableswitchIn hx (g := (mkF m 1 #[.val (.int p0)] [(.int p0)])) rfl rfl (hb hby d2_1) (by rw [hc30]; decide) (off := 235) (by rw [hc30]; rfl) (by show (0 : Int) ≤ (1 : Int) + 235; decide) _ ?_
      show Steps p.tables e below (s₁.setTop (mkF m 236 #[.val (.int p0)] [])) _
      refine st31 _ ?_
      show Steps p.tables e below (T31.setTop (mkF m 239 #[.val (.int p0)] [(.ref (W 12))])) _
      jvm_step X31.here [X31.here.top, hx, (hb hby d2_239), X31.method', Bd.returns, Value.isRef, FieldType.isReference]
      first | (intro acts; rw [hr _ acts rfl rfl rfl]) | rw [hr _ _ rfl rfl rfl]
      exact Steps.refl _
    · show QR (own_look W p0) h0 n0 _ T31.heap _
      rw [e31]
      exact ⟨(by rw [hc30]; rfl), N0, rfl⟩
  by_cases hc32 : p0 = (17 : Int32)
  · skip
    obtain ⟨fs, hr, hrun, hended, hW, hsame⟩ := X0.leave (v := some .null) (fun h => by rw [Bd.returns] at h; cases h)
    refine ⟨_, _, pre1 _ ?_, hrun, hended, _, _, rfl, ?_, ⟨_, rfl⟩, hW, hsame.mono (by decide) (by decide)⟩
    · skip
      show Steps p.tables e below (s₁.setTop (mkF m 1 #[.val (.int p0)] [(.int p0)])) _
      refine X0.tableswitchIn hx (g := (mkF m 1 #[.val (.int p0)] [(.int p0)])) rfl rfl (hb hby d2_1) (by rw [hc32]; decide) (off := 271) (by rw [hc32]; rfl) (by show (0 : Int) ≤ (1 : Int) + 271; decide) _ ?_
      show Steps p.tables e below (s₁.setTop (mkF m 272 #[.val (.int p0)] [])) _
      refine XS.aconstNull X0.here hx rfl (hb hby d2_272) ?_
      show Steps p.tables e below (s₁.setTop (mkF m 273 #[.val (.int p0)] [.null])) _
      jvm_step X0.here [X0.here.top, hx, (hb hby d2_273), X0.method', Bd.returns, Value.isRef, FieldType.isReference]
      first | (intro acts; rw [hr _ acts rfl rfl rfl]) | rw [hr _ _ rfl rfl rfl]
      exact Steps.refl _
    · show QR (own_look W p0) h0 n0 _ s₁.heap _
      rw [e0]
      exact ⟨(by rw [hc32]; rfl), N0, rfl⟩
  by_cases hc33 : p0 = (18 : Int32)
  · skip
    obtain ⟨T34, X34, e34, st34⟩ := getS2 X0 hx hZ hown (host := "") (Or.inl (hw _ (List.mem_of_getElem? (i := 48) rfl))) Via.refl e0 S_API_VERSIONS (g := (mkF m 240 #[.val (.int p0)] [])) rfl (hb hby d2_240)
    obtain ⟨fs, hr, hrun, hended, hW, hsame⟩ := X34.leave (v := some (.ref (W 13))) (fun h => by rw [Bd.returns] at h; cases h)
    refine ⟨_, _, pre1 _ ?_, hrun, hended, _, _, rfl, ?_, ⟨_, rfl⟩, hW, hsame.mono (by decide) (by decide)⟩
    · skip
      show Steps p.tables e below (s₁.setTop (mkF m 1 #[.val (.int p0)] [(.int p0)])) _
      refine X0.tableswitchIn hx (g := (mkF m 1 #[.val (.int p0)] [(.int p0)])) rfl rfl (hb hby d2_1) (by rw [hc33]; decide) (off := 239) (by rw [hc33]; rfl) (by show (0 : Int) ≤ (1 : Int) + 239; decide) _ ?_
      show Steps p.tables e below (s₁.setTop (mkF m 240 #[.val (.int p0)] [])) _
      refine st34 _ ?_
      show Steps p.tables e below (T34.setTop (mkF m 243 #[.val (.int p0)] [(.ref (W 13))])) _
      jvm_step X34.here [X34.here.top, hx, (hb hby d2_243), X34.method', Bd.returns, Value.isRef, FieldType.isReference]
      first | (intro acts; rw [hr _ acts rfl rfl rfl]) | rw [hr _ _ rfl rfl rfl]
      exact Steps.refl _
    · show QR (own_look W p0) h0 n0 _ T34.heap _
      rw [e34]
      exact ⟨(by rw [hc33]; rfl), N0, rfl⟩
  by_cases hc35 : p0 = (19 : Int32)
  · skip
    obtain ⟨T36, X36, e36, st36⟩ := getS2 X0 hx hZ hown (host := "") (Or.inl (hw _ (List.mem_of_getElem? (i := 52) rfl))) Via.refl e0 S_CREATE_TOPICS (g := (mkF m 244 #[.val (.int p0)] [])) rfl (hb hby d2_244)
    obtain ⟨fs, hr, hrun, hended, hW, hsame⟩ := X36.leave (v := some (.ref (W 14))) (fun h => by rw [Bd.returns] at h; cases h)
    refine ⟨_, _, pre1 _ ?_, hrun, hended, _, _, rfl, ?_, ⟨_, rfl⟩, hW, hsame.mono (by decide) (by decide)⟩
    · skip
      show Steps p.tables e below (s₁.setTop (mkF m 1 #[.val (.int p0)] [(.int p0)])) _
      refine X0.tableswitchIn hx (g := (mkF m 1 #[.val (.int p0)] [(.int p0)])) rfl rfl (hb hby d2_1) (by rw [hc35]; decide) (off := 243) (by rw [hc35]; rfl) (by show (0 : Int) ≤ (1 : Int) + 243; decide) _ ?_
      show Steps p.tables e below (s₁.setTop (mkF m 244 #[.val (.int p0)] [])) _
      refine st36 _ ?_
      show Steps p.tables e below (T36.setTop (mkF m 247 #[.val (.int p0)] [(.ref (W 14))])) _
      jvm_step X36.here [X36.here.top, hx, (hb hby d2_247), X36.method', Bd.returns, Value.isRef, FieldType.isReference]
      first | (intro acts; rw [hr _ acts rfl rfl rfl]) | rw [hr _ _ rfl rfl rfl]
      exact Steps.refl _
    · show QR (own_look W p0) h0 n0 _ T36.heap _
      rw [e36]
      exact ⟨(by rw [hc35]; rfl), N0, rfl⟩
  by_cases hc37 : p0 = (20 : Int32)
  · skip
    obtain ⟨T38, X38, e38, st38⟩ := getS2 X0 hx hZ hown (host := "") (Or.inl (hw _ (List.mem_of_getElem? (i := 50) rfl))) Via.refl e0 S_DELETE_TOPICS (g := (mkF m 248 #[.val (.int p0)] [])) rfl (hb hby d2_248)
    obtain ⟨fs, hr, hrun, hended, hW, hsame⟩ := X38.leave (v := some (.ref (W 15))) (fun h => by rw [Bd.returns] at h; cases h)
    refine ⟨_, _, pre1 _ ?_, hrun, hended, _, _, rfl, ?_, ⟨_, rfl⟩, hW, hsame.mono (by decide) (by decide)⟩
    · skip
      show Steps p.tables e below (s₁.setTop (mkF m 1 #[.val (.int p0)] [(.int p0)])) _
      refine X0.tableswitchIn hx (g := (mkF m 1 #[.val (.int p0)] [(.int p0)])) rfl rfl (hb hby d2_1) (by rw [hc37]; decide) (off := 247) (by rw [hc37]; rfl) (by show (0 : Int) ≤ (1 : Int) + 247; decide) _ ?_
      show Steps p.tables e below (s₁.setTop (mkF m 248 #[.val (.int p0)] [])) _
      refine st38 _ ?_
      show Steps p.tables e below (T38.setTop (mkF m 251 #[.val (.int p0)] [(.ref (W 15))])) _
      jvm_step X38.here [X38.here.top, hx, (hb hby d2_251), X38.method', Bd.returns, Value.isRef, FieldType.isReference]
      first | (intro acts; rw [hr _ acts rfl rfl rfl]) | rw [hr _ _ rfl rfl rfl]
      exact Steps.refl _
    · show QR (own_look W p0) h0 n0 _ T38.heap _
      rw [e38]
      exact ⟨(by rw [hc37]; rfl), N0, rfl⟩
  by_cases hc39 : p0 = (21 : Int32)
  · skip
    obtain ⟨fs, hr, hrun, hended, hW, hsame⟩ := X0.leave (v := some .null) (fun h => by rw [Bd.returns] at h; cases h)
    refine ⟨_, _, pre1 _ ?_, hrun, hended, _, _, rfl, ?_, ⟨_, rfl⟩, hW, hsame.mono (by decide) (by decide)⟩
    · skip
      show Steps p.tables e below (s₁.setTop (mkF m 1 #[.val (.int p0)] [(.int p0)])) _
      refine X0.tableswitchIn hx (g := (mkF m 1 #[.val (.int p0)] [(.int p0)])) rfl rfl (hb hby d2_1) (by rw [hc39]; decide) (off := 271) (by rw [hc39]; rfl) (by show (0 : Int) ≤ (1 : Int) + 271; decide) _ ?_
      show Steps p.tables e below (s₁.setTop (mkF m 272 #[.val (.int p0)] [])) _
      refine XS.aconstNull X0.here hx rfl (hb hby d2_272) ?_
      show Steps p.tables e below (s₁.setTop (mkF m 273 #[.val (.int p0)] [.null])) _
      jvm_step X0.here [X0.here.top, hx, (hb hby d2_273), X0.method', Bd.returns, Value.isRef, FieldType.isReference]
      first | (intro acts; rw [hr _ acts rfl rfl rfl]) | rw [hr _ _ rfl rfl rfl]
      exact Steps.refl _
    · show QR (own_look W p0) h0 n0 _ s₁.heap _
      rw [e0]
      exact ⟨(by rw [hc39]; rfl), N0, rfl⟩
  by_cases hc40 : p0 = (22 : Int32)
  · skip
    obtain ⟨T41, X41, e41, st41⟩ := getS2 X0 hx hZ hown (host := "") (Or.inl (hw _ (List.mem_of_getElem? (i := 56) rfl))) Via.refl e0 S_INIT_PRODUCER_ID (g := (mkF m 252 #[.val (.int p0)] [])) rfl (hb hby d2_252)
    obtain ⟨fs, hr, hrun, hended, hW, hsame⟩ := X41.leave (v := some (.ref (W 16))) (fun h => by rw [Bd.returns] at h; cases h)
    refine ⟨_, _, pre1 _ ?_, hrun, hended, _, _, rfl, ?_, ⟨_, rfl⟩, hW, hsame.mono (by decide) (by decide)⟩
    · skip
      show Steps p.tables e below (s₁.setTop (mkF m 1 #[.val (.int p0)] [(.int p0)])) _
      refine X0.tableswitchIn hx (g := (mkF m 1 #[.val (.int p0)] [(.int p0)])) rfl rfl (hb hby d2_1) (by rw [hc40]; decide) (off := 251) (by rw [hc40]; rfl) (by show (0 : Int) ≤ (1 : Int) + 251; decide) _ ?_
      show Steps p.tables e below (s₁.setTop (mkF m 252 #[.val (.int p0)] [])) _
      refine st41 _ ?_
      show Steps p.tables e below (T41.setTop (mkF m 255 #[.val (.int p0)] [(.ref (W 16))])) _
      jvm_step X41.here [X41.here.top, hx, (hb hby d2_255), X41.method', Bd.returns, Value.isRef, FieldType.isReference]
      first | (intro acts; rw [hr _ acts rfl rfl rfl]) | rw [hr _ _ rfl rfl rfl]
      exact Steps.refl _
    · show QR (own_look W p0) h0 n0 _ T41.heap _
      rw [e41]
      exact ⟨(by rw [hc40]; rfl), N0, rfl⟩
  by_cases hc42 : p0 = (23 : Int32)
  · skip
    obtain ⟨fs, hr, hrun, hended, hW, hsame⟩ := X0.leave (v := some .null) (fun h => by rw [Bd.returns] at h; cases h)
    refine ⟨_, _, pre1 _ ?_, hrun, hended, _, _, rfl, ?_, ⟨_, rfl⟩, hW, hsame.mono (by decide) (by decide)⟩
    · skip
      show Steps p.tables e below (s₁.setTop (mkF m 1 #[.val (.int p0)] [(.int p0)])) _
      refine X0.tableswitchIn hx (g := (mkF m 1 #[.val (.int p0)] [(.int p0)])) rfl rfl (hb hby d2_1) (by rw [hc42]; decide) (off := 271) (by rw [hc42]; rfl) (by show (0 : Int) ≤ (1 : Int) + 271; decide) _ ?_
      show Steps p.tables e below (s₁.setTop (mkF m 272 #[.val (.int p0)] [])) _
      refine XS.aconstNull X0.here hx rfl (hb hby d2_272) ?_
      show Steps p.tables e below (s₁.setTop (mkF m 273 #[.val (.int p0)] [.null])) _
      jvm_step X0.here [X0.here.top, hx, (hb hby d2_273), X0.method', Bd.returns, Value.isRef, FieldType.isReference]
      first | (intro acts; rw [hr _ acts rfl rfl rfl]) | rw [hr _ _ rfl rfl rfl]
      exact Steps.refl _
    · show QR (own_look W p0) h0 n0 _ s₁.heap _
      rw [e0]
      exact ⟨(by rw [hc42]; rfl), N0, rfl⟩
  by_cases hc43 : p0 = (24 : Int32)
  · skip
    obtain ⟨fs, hr, hrun, hended, hW, hsame⟩ := X0.leave (v := some .null) (fun h => by rw [Bd.returns] at h; cases h)
    refine ⟨_, _, pre1 _ ?_, hrun, hended, _, _, rfl, ?_, ⟨_, rfl⟩, hW, hsame.mono (by decide) (by decide)⟩
    · skip
      show Steps p.tables e below (s₁.setTop (mkF m 1 #[.val (.int p0)] [(.int p0)])) _
      refine X0.tableswitchIn hx (g := (mkF m 1 #[.val (.int p0)] [(.int p0)])) rfl rfl (hb hby d2_1) (by rw [hc43]; decide) (off := 271) (by rw [hc43]; rfl) (by show (0 : Int) ≤ (1 : Int) + 271; decide) _ ?_
      show Steps p.tables e below (s₁.setTop (mkF m 272 #[.val (.int p0)] [])) _
      refine XS.aconstNull X0.here hx rfl (hb hby d2_272) ?_
      show Steps p.tables e below (s₁.setTop (mkF m 273 #[.val (.int p0)] [.null])) _
      jvm_step X0.here [X0.here.top, hx, (hb hby d2_273), X0.method', Bd.returns, Value.isRef, FieldType.isReference]
      first | (intro acts; rw [hr _ acts rfl rfl rfl]) | rw [hr _ _ rfl rfl rfl]
      exact Steps.refl _
    · show QR (own_look W p0) h0 n0 _ s₁.heap _
      rw [e0]
      exact ⟨(by rw [hc43]; rfl), N0, rfl⟩
  by_cases hc44 : p0 = (25 : Int32)
  · skip
    obtain ⟨fs, hr, hrun, hended, hW, hsame⟩ := X0.leave (v := some .null) (fun h => by rw [Bd.returns] at h; cases h)
    refine ⟨_, _, pre1 _ ?_, hrun, hended, _, _, rfl, ?_, ⟨_, rfl⟩, hW, hsame.mono (by decide) (by decide)⟩
    · skip
      show Steps p.tables e below (s₁.setTop (mkF m 1 #[.val (.int p0)] [(.int p0)])) _
      refine X0.tableswitchIn hx (g := (mkF m 1 #[.val (.int p0)] [(.int p0)])) rfl rfl (hb hby d2_1) (by rw [hc44]; decide) (off := 271) (by rw [hc44]; rfl) (by show (0 : Int) ≤ (1 : Int) + 271; decide) _ ?_
      show Steps p.tables e below (s₁.setTop (mkF m 272 #[.val (.int p0)] [])) _
      refine XS.aconstNull X0.here hx rfl (hb hby d2_272) ?_
      show Steps p.tables e below (s₁.setTop (mkF m 273 #[.val (.int p0)] [.null])) _
      jvm_step X0.here [X0.here.top, hx, (hb hby d2_273), X0.method', Bd.returns, Value.isRef, FieldType.isReference]
      first | (intro acts; rw [hr _ acts rfl rfl rfl]) | rw [hr _ _ rfl rfl rfl]
      exact Steps.refl _
    · show QR (own_look W p0) h0 n0 _ s₁.heap _
      rw [e0]
      exact ⟨(by rw [hc44]; rfl), N0, rfl⟩
  by_cases hc45 : p0 = (26 : Int32)
  · skip
    obtain ⟨fs, hr, hrun, hended, hW, hsame⟩ := X0.leave (v := some .null) (fun h => by rw [Bd.returns] at h; cases h)
    refine ⟨_, _, pre1 _ ?_, hrun, hended, _, _, rfl, ?_, ⟨_, rfl⟩, hW, hsame.mono (by decide) (by decide)⟩
    · skip
      show Steps p.tables e below (s₁.setTop (mkF m 1 #[.val (.int p0)] [(.int p0)])) _
      refine X0.tableswitchIn hx (g := (mkF m 1 #[.val (.int p0)] [(.int p0)])) rfl rfl (hb hby d2_1) (by rw [hc45]; decide) (off := 271) (by rw [hc45]; rfl) (by show (0 : Int) ≤ (1 : Int) + 271; decide) _ ?_
      show Steps p.tables e below (s₁.setTop (mkF m 272 #[.val (.int p0)] [])) _
      refine XS.aconstNull X0.here hx rfl (hb hby d2_272) ?_
      show Steps p.tables e below (s₁.setTop (mkF m 273 #[.val (.int p0)] [.null])) _
      jvm_step X0.here [X0.here.top, hx, (hb hby d2_273), X0.method', Bd.returns, Value.isRef, FieldType.isReference]
      first | (intro acts; rw [hr _ acts rfl rfl rfl]) | rw [hr _ _ rfl rfl rfl]
      exact Steps.refl _
    · show QR (own_look W p0) h0 n0 _ s₁.heap _
      rw [e0]
      exact ⟨(by rw [hc45]; rfl), N0, rfl⟩
  by_cases hc46 : p0 = (27 : Int32)
  · skip
    obtain ⟨fs, hr, hrun, hended, hW, hsame⟩ := X0.leave (v := some .null) (fun h => by rw [Bd.returns] at h; cases h)
    refine ⟨_, _, pre1 _ ?_, hrun, hended, _, _, rfl, ?_, ⟨_, rfl⟩, hW, hsame.mono (by decide) (by decide)⟩
    · skip
      show Steps p.tables e below (s₁.setTop (mkF m 1 #[.val (.int p0)] [(.int p0)])) _
      refine X0.tableswitchIn hx (g := (mkF m 1 #[.val (.int p0)] [(.int p0)])) rfl rfl (hb hby d2_1) (by rw [hc46]; decide) (off := 271) (by rw [hc46]; rfl) (by show (0 : Int) ≤ (1 : Int) + 271; decide) _ ?_
      show Steps p.tables e below (s₁.setTop (mkF m 272 #[.val (.int p0)] [])) _
      refine XS.aconstNull X0.here hx rfl (hb hby d2_272) ?_
      show Steps p.tables e below (s₁.setTop (mkF m 273 #[.val (.int p0)] [.null])) _
      jvm_step X0.here [X0.here.top, hx, (hb hby d2_273), X0.method', Bd.returns, Value.isRef, FieldType.isReference]
      first | (intro acts; rw [hr _ acts rfl rfl rfl]) | rw [hr _ _ rfl rfl rfl]
      exact Steps.refl _
    · show QR (own_look W p0) h0 n0 _ s₁.heap _
      rw [e0]
      exact ⟨(by rw [hc46]; rfl), N0, rfl⟩
  by_cases hc47 : p0 = (28 : Int32)
  · skip
    obtain ⟨fs, hr, hrun, hended, hW, hsame⟩ := X0.leave (v := some .null) (fun h => by rw [Bd.returns] at h; cases h)
    refine ⟨_, _, pre1 _ ?_, hrun, hended, _, _, rfl, ?_, ⟨_, rfl⟩, hW, hsame.mono (by decide) (by decide)⟩
    · skip
      show Steps p.tables e below (s₁.setTop (mkF m 1 #[.val (.int p0)] [(.int p0)])) _
      refine X0.tableswitchIn hx (g := (mkF m 1 #[.val (.int p0)] [(.int p0)])) rfl rfl (hb hby d2_1) (by rw [hc47]; decide) (off := 271) (by rw [hc47]; rfl) (by show (0 : Int) ≤ (1 : Int) + 271; decide) _ ?_
      show Steps p.tables e below (s₁.setTop (mkF m 272 #[.val (.int p0)] [])) _
      refine XS.aconstNull X0.here hx rfl (hb hby d2_272) ?_
      show Steps p.tables e below (s₁.setTop (mkF m 273 #[.val (.int p0)] [.null])) _
      jvm_step X0.here [X0.here.top, hx, (hb hby d2_273), X0.method', Bd.returns, Value.isRef, FieldType.isReference]
      first | (intro acts; rw [hr _ acts rfl rfl rfl]) | rw [hr _ _ rfl rfl rfl]
      exact Steps.refl _
    · show QR (own_look W p0) h0 n0 _ s₁.heap _
      rw [e0]
      exact ⟨(by rw [hc47]; rfl), N0, rfl⟩
  by_cases hc48 : p0 = (29 : Int32)
  · skip
    obtain ⟨fs, hr, hrun, hended, hW, hsame⟩ := X0.leave (v := some .null) (fun h => by rw [Bd.returns] at h; cases h)
    refine ⟨_, _, pre1 _ ?_, hrun, hended, _, _, rfl, ?_, ⟨_, rfl⟩, hW, hsame.mono (by decide) (by decide)⟩
    · skip
      show Steps p.tables e below (s₁.setTop (mkF m 1 #[.val (.int p0)] [(.int p0)])) _
      refine X0.tableswitchIn hx (g := (mkF m 1 #[.val (.int p0)] [(.int p0)])) rfl rfl (hb hby d2_1) (by rw [hc48]; decide) (off := 271) (by rw [hc48]; rfl) (by show (0 : Int) ≤ (1 : Int) + 271; decide) _ ?_
      show Steps p.tables e below (s₁.setTop (mkF m 272 #[.val (.int p0)] [])) _
      refine XS.aconstNull X0.here hx rfl (hb hby d2_272) ?_
      show Steps p.tables e below (s₁.setTop (mkF m 273 #[.val (.int p0)] [.null])) _
      jvm_step X0.here [X0.here.top, hx, (hb hby d2_273), X0.method', Bd.returns, Value.isRef, FieldType.isReference]
      first | (intro acts; rw [hr _ acts rfl rfl rfl]) | rw [hr _ _ rfl rfl rfl]
      exact Steps.refl _
    · show QR (own_look W p0) h0 n0 _ s₁.heap _
      rw [e0]
      exact ⟨(by rw [hc48]; rfl), N0, rfl⟩
  by_cases hc49 : p0 = (30 : Int32)
  · skip
    obtain ⟨fs, hr, hrun, hended, hW, hsame⟩ := X0.leave (v := some .null) (fun h => by rw [Bd.returns] at h; cases h)
    refine ⟨_, _, pre1 _ ?_, hrun, hended, _, _, rfl, ?_, ⟨_, rfl⟩, hW, hsame.mono (by decide) (by decide)⟩
    · skip
      show Steps p.tables e below (s₁.setTop (mkF m 1 #[.val (.int p0)] [(.int p0)])) _
      refine X0.tableswitchIn hx (g := (mkF m 1 #[.val (.int p0)] [(.int p0)])) rfl rfl (hb hby d2_1) (by rw [hc49]; decide) (off := 271) (by rw [hc49]; rfl) (by show (0 : Int) ≤ (1 : Int) + 271; decide) _ ?_
      show Steps p.tables e below (s₁.setTop (mkF m 272 #[.val (.int p0)] [])) _
      refine XS.aconstNull X0.here hx rfl (hb hby d2_272) ?_
      show Steps p.tables e below (s₁.setTop (mkF m 273 #[.val (.int p0)] [.null])) _
      jvm_step X0.here [X0.here.top, hx, (hb hby d2_273), X0.method', Bd.returns, Value.isRef, FieldType.isReference]
      first | (intro acts; rw [hr _ acts rfl rfl rfl]) | rw [hr _ _ rfl rfl rfl]
      exact Steps.refl _
    · show QR (own_look W p0) h0 n0 _ s₁.heap _
      rw [e0]
      exact ⟨(by rw [hc49]; rfl), N0, rfl⟩
  by_cases hc50 : p0 = (31 : Int32)
  · skip
    obtain ⟨fs, hr, hrun, hended, hW, hsame⟩ := X0.leave (v := some .null) (fun h => by rw [Bd.returns] at h; cases h)
    refine ⟨_, _, pre1 _ ?_, hrun, hended, _, _, rfl, ?_, ⟨_, rfl⟩, hW, hsame.mono (by decide) (by decide)⟩
    · skip
      show Steps p.tables e below (s₁.setTop (mkF m 1 #[.val (.int p0)] [(.int p0)])) _
      refine X0.tableswitchIn hx (g := (mkF m 1 #[.val (.int p0)] [(.int p0)])) rfl rfl (hb hby d2_1) (by rw [hc50]; decide) (off := 271) (by rw [hc50]; rfl) (by show (0 : Int) ≤ (1 : Int) + 271; decide) _ ?_
      show Steps p.tables e below (s₁.setTop (mkF m 272 #[.val (.int p0)] [])) _
      refine XS.aconstNull X0.here hx rfl (hb hby d2_272) ?_
      show Steps p.tables e below (s₁.setTop (mkF m 273 #[.val (.int p0)] [.null])) _
      jvm_step X0.here [X0.here.top, hx, (hb hby d2_273), X0.method', Bd.returns, Value.isRef, FieldType.isReference]
      first | (intro acts; rw [hr _ acts rfl rfl rfl]) | rw [hr _ _ rfl rfl rfl]
      exact Steps.refl _
    · show QR (own_look W p0) h0 n0 _ s₁.heap _
      rw [e0]
      exact ⟨(by rw [hc50]; rfl), N0, rfl⟩
  by_cases hc51 : p0 = (32 : Int32)
  · skip
    obtain ⟨T52, X52, e52, st52⟩ := getS2 X0 hx hZ hown (host := "") (Or.inl (hw _ (List.mem_of_getElem? (i := 54) rfl))) Via.refl e0 S_DESCRIBE_CONFIGS (g := (mkF m 256 #[.val (.int p0)] [])) rfl (hb hby d2_256)
    obtain ⟨fs, hr, hrun, hended, hW, hsame⟩ := X52.leave (v := some (.ref (W 17))) (fun h => by rw [Bd.returns] at h; cases h)
    refine ⟨_, _, pre1 _ ?_, hrun, hended, _, _, rfl, ?_, ⟨_, rfl⟩, hW, hsame.mono (by decide) (by decide)⟩
    · skip
      show Steps p.tables e below (s₁.setTop (mkF m 1 #[.val (.int p0)] [(.int p0)])) _
      refine X0.tableswitchIn hx (g := (mkF m 1 #[.val (.int p0)] [(.int p0)])) rfl rfl (hb hby d2_1) (by rw [hc51]; decide) (off := 255) (by rw [hc51]; rfl) (by show (0 : Int) ≤ (1 : Int) + 255; decide) _ ?_
      show Steps p.tables e below (s₁.setTop (mkF m 256 #[.val (.int p0)] [])) _
      refine st52 _ ?_
      show Steps p.tables e below (T52.setTop (mkF m 259 #[.val (.int p0)] [(.ref (W 17))])) _
      jvm_step X52.here [X52.here.top, hx, (hb hby d2_259), X52.method', Bd.returns, Value.isRef, FieldType.isReference]
      first | (intro acts; rw [hr _ acts rfl rfl rfl]) | rw [hr _ _ rfl rfl rfl]
      exact Steps.refl _
    · show QR (own_look W p0) h0 n0 _ T52.heap _
      rw [e52]
      exact ⟨(by rw [hc51]; rfl), N0, rfl⟩
  by_cases hc53 : p0 = (33 : Int32)
  · skip
    obtain ⟨T54, X54, e54, st54⟩ := getS2 X0 hx hZ hown (host := "") (Or.inl (hw _ (List.mem_of_getElem? (i := 57) rfl))) Via.refl e0 S_ALTER_CONFIGS (g := (mkF m 260 #[.val (.int p0)] [])) rfl (hb hby d2_260)
    obtain ⟨fs, hr, hrun, hended, hW, hsame⟩ := X54.leave (v := some (.ref (W 18))) (fun h => by rw [Bd.returns] at h; cases h)
    refine ⟨_, _, pre1 _ ?_, hrun, hended, _, _, rfl, ?_, ⟨_, rfl⟩, hW, hsame.mono (by decide) (by decide)⟩
    · skip
      show Steps p.tables e below (s₁.setTop (mkF m 1 #[.val (.int p0)] [(.int p0)])) _
      refine X0.tableswitchIn hx (g := (mkF m 1 #[.val (.int p0)] [(.int p0)])) rfl rfl (hb hby d2_1) (by rw [hc53]; decide) (off := 259) (by rw [hc53]; rfl) (by show (0 : Int) ≤ (1 : Int) + 259; decide) _ ?_
      show Steps p.tables e below (s₁.setTop (mkF m 260 #[.val (.int p0)] [])) _
      refine st54 _ ?_
      show Steps p.tables e below (T54.setTop (mkF m 263 #[.val (.int p0)] [(.ref (W 18))])) _
      jvm_step X54.here [X54.here.top, hx, (hb hby d2_263), X54.method', Bd.returns, Value.isRef, FieldType.isReference]
      first | (intro acts; rw [hr _ acts rfl rfl rfl]) | rw [hr _ _ rfl rfl rfl]
      exact Steps.refl _
    · show QR (own_look W p0) h0 n0 _ T54.heap _
      rw [e54]
      exact ⟨(by rw [hc53]; rfl), N0, rfl⟩
  by_cases hc55 : p0 = (34 : Int32)
  · skip
    obtain ⟨fs, hr, hrun, hended, hW, hsame⟩ := X0.leave (v := some .null) (fun h => by rw [Bd.returns] at h; cases h)
    refine ⟨_, _, pre1 _ ?_, hrun, hended, _, _, rfl, ?_, ⟨_, rfl⟩, hW, hsame.mono (by decide) (by decide)⟩
    · skip
      show Steps p.tables e below (s₁.setTop (mkF m 1 #[.val (.int p0)] [(.int p0)])) _
      refine X0.tableswitchIn hx (g := (mkF m 1 #[.val (.int p0)] [(.int p0)])) rfl rfl (hb hby d2_1) (by rw [hc55]; decide) (off := 271) (by rw [hc55]; rfl) (by show (0 : Int) ≤ (1 : Int) + 271; decide) _ ?_
      show Steps p.tables e below (s₁.setTop (mkF m 272 #[.val (.int p0)] [])) _
      refine XS.aconstNull X0.here hx rfl (hb hby d2_272) ?_
      show Steps p.tables e below (s₁.setTop (mkF m 273 #[.val (.int p0)] [.null])) _
      jvm_step X0.here [X0.here.top, hx, (hb hby d2_273), X0.method', Bd.returns, Value.isRef, FieldType.isReference]
      first | (intro acts; rw [hr _ acts rfl rfl rfl]) | rw [hr _ _ rfl rfl rfl]
      exact Steps.refl _
    · show QR (own_look W p0) h0 n0 _ s₁.heap _
      rw [e0]
      exact ⟨(by rw [hc55]; rfl), N0, rfl⟩
  by_cases hc56 : p0 = (35 : Int32)
  · skip
    obtain ⟨fs, hr, hrun, hended, hW, hsame⟩ := X0.leave (v := some .null) (fun h => by rw [Bd.returns] at h; cases h)
    refine ⟨_, _, pre1 _ ?_, hrun, hended, _, _, rfl, ?_, ⟨_, rfl⟩, hW, hsame.mono (by decide) (by decide)⟩
    · skip
      show Steps p.tables e below (s₁.setTop (mkF m 1 #[.val (.int p0)] [(.int p0)])) _
      refine X0.tableswitchIn hx (g := (mkF m 1 #[.val (.int p0)] [(.int p0)])) rfl rfl (hb hby d2_1) (by rw [hc56]; decide) (off := 271) (by rw [hc56]; rfl) (by show (0 : Int) ≤ (1 : Int) + 271; decide) _ ?_
      show Steps p.tables e below (s₁.setTop (mkF m 272 #[.val (.int p0)] [])) _
      refine XS.aconstNull X0.here hx rfl (hb hby d2_272) ?_
      show Steps p.tables e below (s₁.setTop (mkF m 273 #[.val (.int p0)] [.null])) _
      jvm_step X0.here [X0.here.top, hx, (hb hby d2_273), X0.method', Bd.returns, Value.isRef, FieldType.isReference]
      first | (intro acts; rw [hr _ acts rfl rfl rfl]) | rw [hr _ _ rfl rfl rfl]
      exact Steps.refl _
    · show QR (own_look W p0) h0 n0 _ s₁.heap _
      rw [e0]
      exact ⟨(by rw [hc56]; rfl), N0, rfl⟩
  by_cases hc57 : p0 = (36 : Int32)
  · skip
    obtain ⟨fs, hr, hrun, hended, hW, hsame⟩ := X0.leave (v := some .null) (fun h => by rw [Bd.returns] at h; cases h)
    refine ⟨_, _, pre1 _ ?_, hrun, hended, _, _, rfl, ?_, ⟨_, rfl⟩, hW, hsame.mono (by decide) (by decide)⟩
    · skip
      show Steps p.tables e below (s₁.setTop (mkF m 1 #[.val (.int p0)] [(.int p0)])) _
      refine X0.tableswitchIn hx (g := (mkF m 1 #[.val (.int p0)] [(.int p0)])) rfl rfl (hb hby d2_1) (by rw [hc57]; decide) (off := 271) (by rw [hc57]; rfl) (by show (0 : Int) ≤ (1 : Int) + 271; decide) _ ?_
      show Steps p.tables e below (s₁.setTop (mkF m 272 #[.val (.int p0)] [])) _
      refine XS.aconstNull X0.here hx rfl (hb hby d2_272) ?_
      show Steps p.tables e below (s₁.setTop (mkF m 273 #[.val (.int p0)] [.null])) _
      jvm_step X0.here [X0.here.top, hx, (hb hby d2_273), X0.method', Bd.returns, Value.isRef, FieldType.isReference]
      first | (intro acts; rw [hr _ acts rfl rfl rfl]) | rw [hr _ _ rfl rfl rfl]
      exact Steps.refl _
    · show QR (own_look W p0) h0 n0 _ s₁.heap _
      rw [e0]
      exact ⟨(by rw [hc57]; rfl), N0, rfl⟩
  by_cases hc58 : p0 = (37 : Int32)
  · skip
    obtain ⟨T59, X59, e59, st59⟩ := getS2 X0 hx hZ hown (host := "") (Or.inl (hw _ (List.mem_of_getElem? (i := 58) rfl))) Via.refl e0 S_CREATE_PARTITIONS (g := (mkF m 264 #[.val (.int p0)] [])) rfl (hb hby d2_264)
    obtain ⟨fs, hr, hrun, hended, hW, hsame⟩ := X59.leave (v := some (.ref (W 19))) (fun h => by rw [Bd.returns] at h; cases h)
    refine ⟨_, _, pre1 _ ?_, hrun, hended, _, _, rfl, ?_, ⟨_, rfl⟩, hW, hsame.mono (by decide) (by decide)⟩
    · skip
      show Steps p.tables e below (s₁.setTop (mkF m 1 #[.val (.int p0)] [(.int p0)])) _
      refine X0.tableswitchIn hx (g := (mkF m 1 #[.val (.int p0)] [(.int p0)])) rfl rfl (hb hby d2_1) (by rw [hc58]; decide) (off := 263) (by rw [hc58]; rfl) (by show (0 : Int) ≤ (1 : Int) + 263; decide) _ ?_
      show Steps p.tables e below (s₁.setTop (mkF m 264 #[.val (.int p0)] [])) _
      refine st59 _ ?_
      show Steps p.tables e below (T59.setTop (mkF m 267 #[.val (.int p0)] [(.ref (W 19))])) _
      jvm_step X59.here [X59.here.top, hx, (hb hby d2_267), X59.method', Bd.returns, Value.isRef, FieldType.isReference]
      first | (intro acts; rw [hr _ acts rfl rfl rfl]) | rw [hr _ _ rfl rfl rfl]
      exact Steps.refl _
    · show QR (own_look W p0) h0 n0 _ T59.heap _
      rw [e59]
      exact ⟨(by rw [hc58]; rfl), N0, rfl⟩
  by_cases hc60 : p0 = (38 : Int32)
  · skip
    obtain ⟨fs, hr, hrun, hended, hW, hsame⟩ := X0.leave (v := some .null) (fun h => by rw [Bd.returns] at h; cases h)
    refine ⟨_, _, pre1 _ ?_, hrun, hended, _, _, rfl, ?_, ⟨_, rfl⟩, hW, hsame.mono (by decide) (by decide)⟩
    · skip
      show Steps p.tables e below (s₁.setTop (mkF m 1 #[.val (.int p0)] [(.int p0)])) _
      refine X0.tableswitchIn hx (g := (mkF m 1 #[.val (.int p0)] [(.int p0)])) rfl rfl (hb hby d2_1) (by rw [hc60]; decide) (off := 271) (by rw [hc60]; rfl) (by show (0 : Int) ≤ (1 : Int) + 271; decide) _ ?_
      show Steps p.tables e below (s₁.setTop (mkF m 272 #[.val (.int p0)] [])) _
      refine XS.aconstNull X0.here hx rfl (hb hby d2_272) ?_
      show Steps p.tables e below (s₁.setTop (mkF m 273 #[.val (.int p0)] [.null])) _
      jvm_step X0.here [X0.here.top, hx, (hb hby d2_273), X0.method', Bd.returns, Value.isRef, FieldType.isReference]
      first | (intro acts; rw [hr _ acts rfl rfl rfl]) | rw [hr _ _ rfl rfl rfl]
      exact Steps.refl _
    · show QR (own_look W p0) h0 n0 _ s₁.heap _
      rw [e0]
      exact ⟨(by rw [hc60]; rfl), N0, rfl⟩
  by_cases hc61 : p0 = (39 : Int32)
  · skip
    obtain ⟨fs, hr, hrun, hended, hW, hsame⟩ := X0.leave (v := some .null) (fun h => by rw [Bd.returns] at h; cases h)
    refine ⟨_, _, pre1 _ ?_, hrun, hended, _, _, rfl, ?_, ⟨_, rfl⟩, hW, hsame.mono (by decide) (by decide)⟩
    · skip
      show Steps p.tables e below (s₁.setTop (mkF m 1 #[.val (.int p0)] [(.int p0)])) _
      refine X0.tableswitchIn hx (g := (mkF m 1 #[.val (.int p0)] [(.int p0)])) rfl rfl (hb hby d2_1) (by rw [hc61]; decide) (off := 271) (by rw [hc61]; rfl) (by show (0 : Int) ≤ (1 : Int) + 271; decide) _ ?_
      show Steps p.tables e below (s₁.setTop (mkF m 272 #[.val (.int p0)] [])) _
      refine XS.aconstNull X0.here hx rfl (hb hby d2_272) ?_
      show Steps p.tables e below (s₁.setTop (mkF m 273 #[.val (.int p0)] [.null])) _
      jvm_step X0.here [X0.here.top, hx, (hb hby d2_273), X0.method', Bd.returns, Value.isRef, FieldType.isReference]
      first | (intro acts; rw [hr _ acts rfl rfl rfl]) | rw [hr _ _ rfl rfl rfl]
      exact Steps.refl _
    · show QR (own_look W p0) h0 n0 _ s₁.heap _
      rw [e0]
      exact ⟨(by rw [hc61]; rfl), N0, rfl⟩
  by_cases hc62 : p0 = (40 : Int32)
  · skip
    obtain ⟨fs, hr, hrun, hended, hW, hsame⟩ := X0.leave (v := some .null) (fun h => by rw [Bd.returns] at h; cases h)
    refine ⟨_, _, pre1 _ ?_, hrun, hended, _, _, rfl, ?_, ⟨_, rfl⟩, hW, hsame.mono (by decide) (by decide)⟩
    · skip
      show Steps p.tables e below (s₁.setTop (mkF m 1 #[.val (.int p0)] [(.int p0)])) _
      refine X0.tableswitchIn hx (g := (mkF m 1 #[.val (.int p0)] [(.int p0)])) rfl rfl (hb hby d2_1) (by rw [hc62]; decide) (off := 271) (by rw [hc62]; rfl) (by show (0 : Int) ≤ (1 : Int) + 271; decide) _ ?_
      show Steps p.tables e below (s₁.setTop (mkF m 272 #[.val (.int p0)] [])) _
      refine XS.aconstNull X0.here hx rfl (hb hby d2_272) ?_
      show Steps p.tables e below (s₁.setTop (mkF m 273 #[.val (.int p0)] [.null])) _
      jvm_step X0.here [X0.here.top, hx, (hb hby d2_273), X0.method', Bd.returns, Value.isRef, FieldType.isReference]
      first | (intro acts; rw [hr _ acts rfl rfl rfl]) | rw [hr _ _ rfl rfl rfl]
      exact Steps.refl _
    · show QR (own_look W p0) h0 n0 _ s₁.heap _
      rw [e0]
      exact ⟨(by rw [hc62]; rfl), N0, rfl⟩
  by_cases hc63 : p0 = (41 : Int32)
  · skip
    obtain ⟨fs, hr, hrun, hended, hW, hsame⟩ := X0.leave (v := some .null) (fun h => by rw [Bd.returns] at h; cases h)
    refine ⟨_, _, pre1 _ ?_, hrun, hended, _, _, rfl, ?_, ⟨_, rfl⟩, hW, hsame.mono (by decide) (by decide)⟩
    · skip
      show Steps p.tables e below (s₁.setTop (mkF m 1 #[.val (.int p0)] [(.int p0)])) _
      refine X0.tableswitchIn hx (g := (mkF m 1 #[.val (.int p0)] [(.int p0)])) rfl rfl (hb hby d2_1) (by rw [hc63]; decide) (off := 271) (by rw [hc63]; rfl) (by show (0 : Int) ≤ (1 : Int) + 271; decide) _ ?_
      show Steps p.tables e below (s₁.setTop (mkF m 272 #[.val (.int p0)] [])) _
      refine XS.aconstNull X0.here hx rfl (hb hby d2_272) ?_
      show Steps p.tables e below (s₁.setTop (mkF m 273 #[.val (.int p0)] [.null])) _
      jvm_step X0.here [X0.here.top, hx, (hb hby d2_273), X0.method', Bd.returns, Value.isRef, FieldType.isReference]
      first | (intro acts; rw [hr _ acts rfl rfl rfl]) | rw [hr _ _ rfl rfl rfl]
      exact Steps.refl _
    · show QR (own_look W p0) h0 n0 _ s₁.heap _
      rw [e0]
      exact ⟨(by rw [hc63]; rfl), N0, rfl⟩
  by_cases hc64 : p0 = (42 : Int32)
  · skip
    obtain ⟨T65, X65, e65, st65⟩ := getS2 X0 hx hZ hown (host := "") (Or.inl (hw _ (List.mem_of_getElem? (i := 55) rfl))) Via.refl e0 S_DELETE_GROUPS (g := (mkF m 268 #[.val (.int p0)] [])) rfl (hb hby d2_268)
    obtain ⟨fs, hr, hrun, hended, hW, hsame⟩ := X65.leave (v := some (.ref (W 20))) (fun h => by rw [Bd.returns] at h; cases h)
    refine ⟨_, _, pre1 _ ?_, hrun, hended, _, _, rfl, ?_, ⟨_, rfl⟩, hW, hsame.mono (by decide) (by decide)⟩
    · skip
      show Steps p.tables e below (s₁.setTop (mkF m 1 #[.val (.int p0)] [(.int p0)])) _
      refine X0.tableswitchIn hx (g := (mkF m 1 #[.val (.int p0)] [(.int p0)])) rfl rfl (hb hby d2_1) (by rw [hc64]; decide) (off := 267) (by rw [hc64]; rfl) (by show (0 : Int) ≤ (1 : Int) + 267; decide) _ ?_
      show Steps p.tables e below (s₁.setTop (mkF m 268 #[.val (.int p0)] [])) _
      refine st65 _ ?_
      show Steps p.tables e below (T65.setTop (mkF m 271 #[.val (.int p0)] [(.ref (W 20))])) _
      jvm_step X65.here [X65.here.top, hx, (hb hby d2_271), X65.method', Bd.returns, Value.isRef, FieldType.isReference]
      first | (intro acts; rw [hr _ acts rfl rfl rfl]) | rw [hr _ _ rfl rfl rfl]
      exact Steps.refl _
    · show QR (own_look W p0) h0 n0 _ T65.heap _
      rw [e65]
      exact ⟨(by rw [hc64]; rfl), N0, rfl⟩
  have u_hc2 := own_nei hc2 (z := 0) rfl
  have u_hc4 := own_nei hc4 (z := 1) rfl
  have u_hc6 := own_nei hc6 (z := 2) rfl
  have u_hc8 := own_nei hc8 (z := 3) rfl
  have u_hc10 := own_nei hc10 (z := 4) rfl
  have u_hc11 := own_nei hc11 (z := 5) rfl
  have u_hc12 := own_nei hc12 (z := 6) rfl
  have u_hc13 := own_nei hc13 (z := 7) rfl
  have u_hc14 := own_nei hc14 (z := 8) rfl
  have u_hc16 := own_nei hc16 (z := 9) rfl
  have u_hc18 := own_nei hc18 (z := 10) rfl
  have u_hc20 := own_nei hc20 (z := 11) rfl
  have u_hc22 := own_nei hc22 (z := 12) rfl
  have u_hc24 := own_nei hc24 (z := 13) rfl
  have u_hc26 := own_nei hc26 (z := 14) rfl
  have u_hc28 := own_nei hc28 (z := 15) rfl
  have u_hc30 := own_nei hc30 (z := 16) rfl
  have u_hc32 := own_nei hc32 (z := 17) rfl
  have u_hc33 := own_nei hc33 (z := 18) rfl
  have u_hc35 := own_nei hc35 (z := 19) rfl
  have u_hc37 := own_nei hc37 (z := 20) rfl
  have u_hc39 := own_nei hc39 (z := 21) rfl
  have u_hc40 := own_nei hc40 (z := 22) rfl
  have u_hc42 := own_nei hc42 (z := 23) rfl
  have u_hc43 := own_nei hc43 (z := 24) rfl
  have u_hc44 := own_nei hc44 (z := 25) rfl
  have u_hc45 := own_nei hc45 (z := 26) rfl
  have u_hc46 := own_nei hc46 (z := 27) rfl
  have u_hc47 := own_nei hc47 (z := 28) rfl
  have u_hc48 := own_nei hc48 (z := 29) rfl
  have u_hc49 := own_nei hc49 (z := 30) rfl
  have u_hc50 := own_nei hc50 (z := 31) rfl
  have u_hc51 := own_nei hc51 (z := 32) rfl
  have u_hc53 := own_nei hc53 (z := 33) rfl
  have u_hc55 := own_nei hc55 (z := 34) rfl
  have u_hc56 := own_nei hc56 (z := 35) rfl
  have u_hc57 := own_nei hc57 (z := 36) rfl
  have u_hc58 := own_nei hc58 (z := 37) rfl
  have u_hc60 := own_nei hc60 (z := 38) rfl
  have u_hc61 := own_nei hc61 (z := 39) rfl
  have u_hc62 := own_nei hc62 (z := 40) rfl
  have u_hc63 := own_nei hc63 (z := 41) rfl
  have u_hc64 := own_nei hc64 (z := 42) rfl
  obtain ⟨fs, hr, hrun, hended, hW, hsame⟩ := X0.leave (v := some .null) (fun h => by rw [Bd.returns] at h; cases h)
  refine ⟨_, _, pre1 _ ?_, hrun, hended, _, _, rfl, ?_, ⟨_, rfl⟩, hW, hsame.mono (by decide) (by decide)⟩
  · skip
    show Steps p.tables e below (s₁.setTop (mkF m 1 #[.val (.int p0)] [(.int p0)])) _
    refine X0.tableswitchOut hx (g := (mkF m 1 #[.val (.int p0)] [(.int p0)])) rfl rfl (hb hby d2_1) (by omega) (by show (0 : Int) ≤ (1 : Int) + 271; decide) _ ?_
    show Steps p.tables e below (s₁.setTop (mkF m 272 #[.val (.int p0)] [])) _
    refine XS.aconstNull X0.here hx rfl (hb hby d2_272) ?_
    show Steps p.tables e below (s₁.setTop (mkF m 273 #[.val (.int p0)] [.null])) _
    jvm_step X0.here [X0.here.top, hx, (hb hby d2_273), X0.method', Bd.returns, Value.isRef, FieldType.isReference]
    first | (intro acts; rw [hr _ acts rfl rfl rfl]) | rw [hr _ _ rfl rfl rfl]
    exact Steps.refl _
  · show QR (own_look W p0) h0 n0 _ s₁.heap _
    rw [e0]
    exact ⟨(by rw [own_look]; simp only [hc2, hc4, hc6, hc8, hc10, hc11, hc12, hc13, hc14, hc16, hc18, hc20, hc22, hc24, hc26, hc28, hc30, hc32, hc33, hc35, hc37, hc39, hc40, hc42, hc43, hc44, hc45, hc46, hc47, hc48, hc49, hc50, hc51, hc53, hc55, hc56, hc57, hc58, hc60, hc61, hc62, hc63, hc64, if_false]), N0, rfl⟩
theorem d3_0 : decode prog_27_method_5_code 0 = .ok (.aload_n 0, 1) := by decide +kernel
theorem d3_1 : decode prog_27_method_5_code 1 = .ok (.getfield 86, 3) := by decide +kernel
theorem d3_4 : decode prog_27_method_5_code 4 = .ok (.ireturn, 1) := by decide +kernel
theorem pn_3 : plainName "com/example/nano_broker/nanobroker/protocol/ApiKey" = true := by first | (simp [plainName, overriddenIn]; done) | decide +kernel
theorem ef_rm3 (m : MethodId) (x0 : Addr) : entryFrame m #[(.ref x0)] 1 = mkF m 0 #[.val (.ref x0)] [] := by first | (simp [entryFrame, mkF, argsToLocals, Value.category]; done) | rfl
set_option maxRecDepth 65536 in
set_option maxHeartbeats 40000000 in
theorem rm3 (l : Launch) (Z : State) (a0 : Array Value) (hw : ∀ d ∈ tables_1, d.before a0 Z = true) (ws : List Jvm.Cond) (o0 : Addr) (c0 : Int32) (h0 : Heap) (n0 : Nat) (Z0 : n0 ≤ h0.size) (F_i : Fld Z h0 o0 "com/example/nano_broker/nanobroker/protocol/ApiKey" "id" "S" (.int c0)) (hc0 : c0.toInt16.toInt32 = c0) :
    MetFree l (⟨"com/example/nano_broker/nanobroker/protocol/ApiKey", "id", "()S"⟩ : MethodName) (head1 (Jvm.Cond.code (⟨"com/example/nano_broker/nanobroker/protocol/ApiKey", "id", "()S"⟩ : MethodName) prog_27_method_5_code 1 (some .short) :: ws) ({ frames := 0, cells := 0, slots := 0, locals := 0 } : Room)) (fun a U => a = #[(.ref o0)] ∧ Z.Warmed39 U.vm ∧ U.heap = h0) (fun _ _ _ _ _ => True) (fun _ U o U' => ∃ v L, o = .returned v ∧ QR (.int c0) h0 n0 v U'.heap L ∧ FrameEnd U o U' L ({ frames := 0, cells := 0, slots := 0, locals := 0 } : Room).cells ({ frames := 0, cells := 0, slots := 0, locals := 0 } : Room).slots) := by
  refine MetFree.of_bodySF (plainFor_of_name pn_3) hisR ?_
  intro p e s m args below meth c s₁ Bd hml0 hP hK
  obtain ⟨rfl, hZ, hh⟩ := hP
  have hx := Bd.exec
  have hby := Bd.bytes
  have hml : c.maxLocals = 1 := hml0
  have hown : s.vm.findClass "com/example/nano_broker/nanobroker/protocol/ApiKey" = some m.cls := findClass_of_methodNamed Bd.named
  have hnm := (name_of_methodNamed Bd.named Bd.method).1
  have X0 : Stand p l e ({ frames := 0, cells := 0, slots := 0, locals := 0 } : Room) s m #[(.ref o0)] below meth c s₁ [] 0 0 := Stand.of_body Bd
  have e0 : s₁.heap = h0 := by rw [← hh, Bd.state]; rfl
  have N0 := Fr.nil n0
  have pre0 : ∀ t, Steps p.tables e below (s₁.setTop (mkF m 0 #[.val (.ref o0)] [])) t → Steps p.tables e below (s₁.setTop (entryFrame m #[(.ref o0)] 1)) t := fun t k => castTop (ef_rm3 m o0) k
  obtain ⟨T1, X1, e1, st1⟩ := getF X0 hx hZ hown (host := "") (Or.inl (hw _ (List.mem_of_getElem? (i := 7) rfl))) Via.refl e0 F_i (g := (mkF m 1 #[.val (.ref o0)] [(.ref o0)])) rfl rfl (hb hby d3_1)
  obtain ⟨fs, hr, hrun, hended, hW, hsame⟩ := X1.leave (v := some (.int (nar .short c0))) (fun h => by rw [Bd.returns] at h; cases h)
  refine ⟨_, _, pre0 _ ?_, hrun, hended, _, _, rfl, ?_, ⟨_, rfl⟩, hW, hsame.mono (by decide) (by decide)⟩
  · skip
    show Steps p.tables e below (s₁.setTop (mkF m 0 #[.val (.ref o0)] [])) _
    refine XS.aloadN X0.here hx rfl (hb hby d3_0) rfl rfl ?_
    show Steps p.tables e below (s₁.setTop (mkF m 1 #[.val (.ref o0)] [(.ref o0)])) _
    refine st1 _ ?_
    show Steps p.tables e below (T1.setTop (mkF m 4 #[.val (.ref o0)] [(.int c0)])) _
    exact retN X1 hx (t := .short) Bd.returns (by simp) (hb hby d3_4) hr
  · show QR (.int c0) h0 n0 _ T1.heap _
    rw [e1]
    exact ⟨(congrArg (fun z => some (Value.int z)) hc0), N0, rfl⟩
theorem pd__S_Lcom_example_nano_broker_nanobroker_protocol_ApiKey_ : parseMethodDescriptor "(S)Lcom/example/nano_broker/nanobroker/protocol/ApiKey;" = some ⟨[.short], some (.object "com/example/nano_broker/nanobroker/protocol/ApiKey")⟩ := by decide +kernel
theorem pd__I_Lcom_example_nano_broker_nanobroker_protocol_ApiKey_ : parseMethodDescriptor "(I)Lcom/example/nano_broker/nanobroker/protocol/ApiKey;" = some ⟨[.int], some (.object "com/example/nano_broker/nanobroker/protocol/ApiKey")⟩ := by decide +kernel
theorem pd___S : parseMethodDescriptor "()S" = some ⟨[], some .short⟩ := by decide +kernel
theorem pn_0 : plainName "com/example/nano_broker/nanobroker/protocol/ApiKeyForIdPinLaw" = true := by first | (simp [plainName, overriddenIn]; done) | decide +kernel
theorem ef_rm0h (m : MethodId) (x0 : Int32) (x1 : Int32) : entryFrame m #[(.int x0), (.int x1)] maxLocals = mkF m 0 #[.val (.int x0), .val (.int x1), .unset, .unset, .unset] [] := by first | (simp [entryFrame, mkF, argsToLocals, Value.category, maxLocals]; done) | rfl
set_option maxRecDepth 65536 in
set_option maxHeartbeats 40000000 in
theorem rm0h (l : Launch) (Z : State) (a0 : Array Value) (hw : ∀ d ∈ tables_1, d.before a0 Z = true) (ws : List Jvm.Cond) (p0 : Int32) (p1 : Int32) (sv : Int32) (W : Nat → Addr) (aA : Addr) (kA : ClassId) (h0 : Heap) (n0 : Nat) (Z0 : n0 ≤ h0.size) (S_A : Sta Z h0 "com/example/nano_broker/nanobroker/protocol/ApiKey" "ALL" "[Lcom/example/nano_broker/nanobroker/protocol/ApiKey;" (.ref aA)) (V_A : Arv Z h0 aA kA (.object "com/example/nano_broker/nanobroker/protocol/ApiKey") (21 : Int32) [(.ref (W 0)), (.ref (W 1)), (.ref (W 2)), (.ref (W 3)), (.ref (W 4)), (.ref (W 5)), (.ref (W 6)), (.ref (W 7)), (.ref (W 8)), (.ref (W 9)), (.ref (W 10)), (.ref (W 11)), (.ref (W 12)), (.ref (W 13)), (.ref (W 14)), (.ref (W 15)), (.ref (W 16)), (.ref (W 17)), (.ref (W 18)), (.ref (W 19)), (.ref (W 20))] .null) (hF : ∀ i, i < 21 → Fld Z h0 (W i) "com/example/nano_broker/nanobroker/protocol/ApiKey" "id" "S" (.int (own_id i))) (S_PRODUCE : Sta Z h0 "com/example/nano_broker/nanobroker/protocol/ApiKey" "PRODUCE" "Lcom/example/nano_broker/nanobroker/protocol/ApiKey;" (.ref (W 0))) (S_FETCH : Sta Z h0 "com/example/nano_broker/nanobroker/protocol/ApiKey" "FETCH" "Lcom/example/nano_broker/nanobroker/protocol/ApiKey;" (.ref (W 1))) (S_LIST_OFFSETS : Sta Z h0 "com/example/nano_broker/nanobroker/protocol/ApiKey" "LIST_OFFSETS" "Lcom/example/nano_broker/nanobroker/protocol/ApiKey;" (.ref (W 2))) (S_METADATA : Sta Z h0 "com/example/nano_broker/nanobroker/protocol/ApiKey" "METADATA" "Lcom/example/nano_broker/nanobroker/protocol/ApiKey;" (.ref (W 3))) (S_OFFSET_COMMIT : Sta Z h0 "com/example/nano_broker/nanobroker/protocol/ApiKey" "OFFSET_COMMIT" "Lcom/example/nano_broker/nanobroker/protocol/ApiKey;" (.ref (W 4))) (S_OFFSET_FETCH : Sta Z h0 "com/example/nano_broker/nanobroker/protocol/ApiKey" "OFFSET_FETCH" "Lcom/example/nano_broker/nanobroker/protocol/ApiKey;" (.ref (W 5))) (S_FIND_COORDINATOR : Sta Z h0 "com/example/nano_broker/nanobroker/protocol/ApiKey" "FIND_COORDINATOR" "Lcom/example/nano_broker/nanobroker/protocol/ApiKey;" (.ref (W 6))) (S_JOIN_GROUP : Sta Z h0 "com/example/nano_broker/nanobroker/protocol/ApiKey" "JOIN_GROUP" "Lcom/example/nano_broker/nanobroker/protocol/ApiKey;" (.ref (W 7))) (S_HEARTBEAT : Sta Z h0 "com/example/nano_broker/nanobroker/protocol/ApiKey" "HEARTBEAT" "Lcom/example/nano_broker/nanobroker/protocol/ApiKey;" (.ref (W 8))) (S_LEAVE_GROUP : Sta Z h0 "com/example/nano_broker/nanobroker/protocol/ApiKey" "LEAVE_GROUP" "Lcom/example/nano_broker/nanobroker/protocol/ApiKey;" (.ref (W 9))) (S_SYNC_GROUP : Sta Z h0 "com/example/nano_broker/nanobroker/protocol/ApiKey" "SYNC_GROUP" "Lcom/example/nano_broker/nanobroker/protocol/ApiKey;" (.ref (W 10))) (S_DESCRIBE_GROUPS : Sta Z h0 "com/example/nano_broker/nanobroker/protocol/ApiKey" "DESCRIBE_GROUPS" "Lcom/example/nano_broker/nanobroker/protocol/ApiKey;" (.ref (W 11))) (S_LIST_GROUPS : Sta Z h0 "com/example/nano_broker/nanobroker/protocol/ApiKey" "LIST_GROUPS" "Lcom/example/nano_broker/nanobroker/protocol/ApiKey;" (.ref (W 12))) (S_API_VERSIONS : Sta Z h0 "com/example/nano_broker/nanobroker/protocol/ApiKey" "API_VERSIONS" "Lcom/example/nano_broker/nanobroker/protocol/ApiKey;" (.ref (W 13))) (S_CREATE_TOPICS : Sta Z h0 "com/example/nano_broker/nanobroker/protocol/ApiKey" "CREATE_TOPICS" "Lcom/example/nano_broker/nanobroker/protocol/ApiKey;" (.ref (W 14))) (S_DELETE_TOPICS : Sta Z h0 "com/example/nano_broker/nanobroker/protocol/ApiKey" "DELETE_TOPICS" "Lcom/example/nano_broker/nanobroker/protocol/ApiKey;" (.ref (W 15))) (S_INIT_PRODUCER_ID : Sta Z h0 "com/example/nano_broker/nanobroker/protocol/ApiKey" "INIT_PRODUCER_ID" "Lcom/example/nano_broker/nanobroker/protocol/ApiKey;" (.ref (W 16))) (S_DESCRIBE_CONFIGS : Sta Z h0 "com/example/nano_broker/nanobroker/protocol/ApiKey" "DESCRIBE_CONFIGS" "Lcom/example/nano_broker/nanobroker/protocol/ApiKey;" (.ref (W 17))) (S_ALTER_CONFIGS : Sta Z h0 "com/example/nano_broker/nanobroker/protocol/ApiKey" "ALTER_CONFIGS" "Lcom/example/nano_broker/nanobroker/protocol/ApiKey;" (.ref (W 18))) (S_CREATE_PARTITIONS : Sta Z h0 "com/example/nano_broker/nanobroker/protocol/ApiKey" "CREATE_PARTITIONS" "Lcom/example/nano_broker/nanobroker/protocol/ApiKey;" (.ref (W 19))) (S_DELETE_GROUPS : Sta Z h0 "com/example/nano_broker/nanobroker/protocol/ApiKey" "DELETE_GROUPS" "Lcom/example/nano_broker/nanobroker/protocol/ApiKey;" (.ref (W 20)))  (hsv : sv = if (p1 &&& (1 : Int32)) = 0 then p0.toInt16.toInt32 else (p0 % (64 : Int32)).toInt16.toInt32) (j : Nat) (hj : j < 21) (heq : own_id j = sv) (hne : ∀ i, i < j → ¬ own_id i = sv) (E_j : Exa Z h0 (W j) "com/example/nano_broker/nanobroker/protocol/ApiKey") (hc0 : sv.toInt16.toInt32 = sv) :
    MetFree l x (head1 (Jvm.Cond.code x code maxLocals ret :: ws) room_1) (fun a U => a = #[(.int p0), (.int p1)] ∧ Z.Warmed39 U.vm ∧ U.heap = h0) (fun _ _ _ _ _ => True) (fun _ U o U' => ∃ v L, o = .returned v ∧ QR (.int (1 : Int32)) h0 n0 v U'.heap L ∧ FrameEnd U o U' L room_1.cells room_1.slots) := by
  refine MetFree.of_bodySF (plainFor_of_name pn_0) hisR ?_
  intro p e s m args below meth c s₁ Bd hml0 hP hK
  obtain ⟨rfl, hZ, hh⟩ := hP
  have hx := Bd.exec
  have hby := Bd.bytes
  have hml : c.maxLocals = 5 := hml0
  have hown : s.vm.findClass "com/example/nano_broker/nanobroker/protocol/ApiKeyForIdPinLaw" = some m.cls := findClass_of_methodNamed Bd.named
  have hnm := (name_of_methodNamed Bd.named Bd.method).1
  have X0 : Stand p l e room_1 s m #[(.int p0), (.int p1)] below meth c s₁ [] 0 0 := Stand.of_body Bd
  have e0 : s₁.heap = h0 := by rw [← hh, Bd.state]; rfl
  have N0 := Fr.nil n0
  have pre0 : ∀ t, Steps p.tables e below (s₁.setTop (mkF m 0 #[.val (.int p0), .val (.int p1), .unset, .unset, .unset] [])) t → Steps p.tables e below (s₁.setTop (entryFrame m #[(.int p0), (.int p1)] maxLocals)) t := fun t k => castTop (ef_rm0h m p0 p1) k
  have hl : own_look W sv = .ref (W j) := by rw [← heq]; exact own_hit W j hj
  have F_j := hF j hj
  rw [heq] at F_j
  have pre1 : ∀ t, Steps p.tables e below (s₁.setTop (mkF m 16 #[.val (.int p0), .val (.int p1), .unset, .unset, .unset] [(.int sv)])) t → Steps p.tables e below (s₁.setTop (entryFrame m #[(.int p0), (.int p1)] maxLocals)) t := by
    intro t kt
    refine pre0 t ?_
    show Steps p.tables e below (s₁.setTop (mkF m 0 #[.val (.int p0), .val (.int p1), .unset, .unset, .unset] [])) _
    refine XS.iloadN X0.here hx rfl (hb hby at_0) rfl ?_
    show Steps p.tables e below (s₁.setTop (mkF m 1 #[.val (.int p0), .val (.int p1), .unset, .unset, .unset] [(.int p1)])) _
    refine XS.iconst X0.here hx rfl (hb hby at_1) ?_
    show Steps p.tables e below (s₁.setTop (mkF m 2 #[.val (.int p0), .val (.int p1), .unset, .unset, .unset] [(.int (1 : Int32)), (.int p1)])) _
    refine XS.iand X0.here hx rfl (hb hby at_2) rfl ?_
    by_cases hc2 : (p1 &&& (1 : Int32)) = (0 : Int32)
    · skip
      show Steps p.tables e below (s₁.setTop (mkF m 3 #[.val (.int p0), .val (.int p1), .unset, .unset, .unset] [(.int (p1 &&& (1 : Int32)))])) _
      refine XS.ifYes X0.here hx rfl (pc0 := 3) (pc' := 14) rfl (hb hby at_3) rfl ((if0 _ _).trans (teq hc2).1) (by decide) (by decide) ?_
      show Steps p.tables e below (s₁.setTop (mkF m 14 #[.val (.int p0), .val (.int p1), .unset, .unset, .unset] [])) _
      refine XS.iloadN X0.here hx rfl (hb hby at_14) rfl ?_
      show Steps p.tables e below (s₁.setTop (mkF m 15 #[.val (.int p0), .val (.int p1), .unset, .unset, .unset] [(.int p0)])) _
      refine XS.i2s X0.here hx rfl (hb hby at_15) rfl ?_
      rw [show sv = (p0.toInt16.toInt32) from by simp [hsv, hc2]] at kt
      exact kt
    · skip
      show Steps p.tables e below (s₁.setTop (mkF m 3 #[.val (.int p0), .val (.int p1), .unset, .unset, .unset] [(.int (p1 &&& (1 : Int32)))])) _
      refine XS.ifNo X0.here hx rfl (hb hby at_3) rfl ((if0 _ _).trans (feq hc2).1) ?_
      show Steps p.tables e below (s₁.setTop (mkF m 6 #[.val (.int p0), .val (.int p1), .unset, .unset, .unset] [])) _
      refine XS.iloadN X0.here hx rfl (hb hby at_6) rfl ?_
      show Steps p.tables e below (s₁.setTop (mkF m 7 #[.val (.int p0), .val (.int p1), .unset, .unset, .unset] [(.int p0)])) _
      refine XS.bipush X0.here hx rfl (hb hby at_7) ?_
      show Steps p.tables e below (s₁.setTop (mkF m 9 #[.val (.int p0), .val (.int p1), .unset, .unset, .unset] [(.int (64 : Int32)), (.int p0)])) _
      refine iremM (g := (mkF m 9 #[.val (.int p0), .val (.int p1), .unset, .unset, .unset] [(.int (64 : Int32)), (.int p0)])) X0 hx rfl (hb hby at_9) rfl (by decide) ?_
      show Steps p.tables e below (s₁.setTop (mkF m 10 #[.val (.int p0), .val (.int p1), .unset, .unset, .unset] [(.int (p0 % (64 : Int32)))])) _
      refine XS.i2s X0.here hx rfl (hb hby at_10) rfl ?_
      show Steps p.tables e below (s₁.setTop (mkF m 11 #[.val (.int p0), .val (.int p1), .unset, .unset, .unset] [(.int ((p0 % (64 : Int32)).toInt16.toInt32))])) _
      refine XS.goto X0.here hx rfl (pc0 := 11) (pc' := 16) rfl (hb hby at_11) (by decide) (by decide) ?_
      rw [show sv = ((p0 % (64 : Int32)).toInt16.toInt32) from by simp [hsv, hc2]] at kt
      exact kt
  obtain ⟨_, _, ⟨T3, L3, k3, n3⟩, -, X3, ⟨Lc3, hQ3, l3, y3, z3⟩, st3⟩ := Jvm.LawKit.callS X0 hx (y := (⟨"com/example/nano_broker/nanobroker/protocol/ApiKey", "forId", "(S)Lcom/example/nano_broker/nanobroker/protocol/ApiKey;"⟩ : MethodName)) hown (mvT hZ (hw _ (List.mem_of_getElem? (i := 0) rfl))) (mvT hZ (hw _ (List.mem_of_getElem? (i := 1) rfl))) (mvT hZ (hw _ (List.mem_of_getElem? (i := 2) rfl))) (mvT hZ (hw _ (List.mem_of_getElem? (i := 3) rfl))) (by decide) (backOf (W := 0) (rm1h l Z a0 hw [] sv W aA kA h0 n0 Z0 S_A V_A hF j hj heq hne) hZ (hw _ (List.mem_of_getElem? (i := 3) rfl)) (hw _ (List.mem_of_getElem? (i := 2) rfl)) (by decide) (by decide)) (g := (mkF m 18 #[.val (.int p0), .val (.int p1), .val (.int sv), .unset, .unset] [(.int sv)])) rfl (by rw [hml]; rfl) (argsL := [(.int sv)]) (rest := []) (lenOf pd__S_Lcom_example_nano_broker_nanobroker_protocol_ApiKey_ rfl) rfl (by show 2 * 0 + _ ≤ _; exact Nat.le_of_eq rfl) (hb hby at_18) (fun _ _ => ⟨rfl, e0, (by decide : 0 + 0 ≤ _), (by decide : 0 + 0 ≤ _)⟩)
  dsimp only [Pt.U, Pt.locs, Pt.cells, Pt.slots] at X3 l3 y3 z3 st3 hQ3
  rw [l3, y3, z3] at X3
  obtain ⟨rfl, N3q, e3⟩ := hQ3
  have N3 := Fr.app N0 N3q
  obtain ⟨_, _, ⟨T4, L4, k4, n4⟩, -, X4, ⟨Lc4, hQ4, l4, y4, z4⟩, st4⟩ := Jvm.LawKit.callS X3 hx (y := (⟨"com/example/nano_broker/nanobroker/protocol/ApiKeyForIdPinLaw", "expected", "(I)Lcom/example/nano_broker/nanobroker/protocol/ApiKey;"⟩ : MethodName)) hown (mvT hZ (hw _ (List.mem_of_getElem? (i := 9) rfl))) (mvT hZ (hw _ (List.mem_of_getElem? (i := 10) rfl))) (mvT hZ (hw _ (List.mem_of_getElem? (i := 11) rfl))) (mvT hZ (hw _ (List.mem_of_getElem? (i := 12) rfl))) (by decide) (backOf (W := 0) (hl ▸ rm2 l Z a0 hw [] sv W h0 n0 Z0 S_PRODUCE S_FETCH S_LIST_OFFSETS S_METADATA S_OFFSET_COMMIT S_OFFSET_FETCH S_FIND_COORDINATOR S_JOIN_GROUP S_HEARTBEAT S_LEAVE_GROUP S_SYNC_GROUP S_DESCRIBE_GROUPS S_LIST_GROUPS S_API_VERSIONS S_CREATE_TOPICS S_DELETE_TOPICS S_INIT_PRODUCER_ID S_DESCRIBE_CONFIGS S_ALTER_CONFIGS S_CREATE_PARTITIONS S_DELETE_GROUPS) hZ (hw _ (List.mem_of_getElem? (i := 12) rfl)) (hw _ (List.mem_of_getElem? (i := 11) rfl)) (by decide) (by decide)) (g := (mkF m 23 #[.val (.int p0), .val (.int p1), .val (.int sv), .val (.ref (W j)), .unset] [(.int sv)])) rfl (by rw [hml]; rfl) (argsL := [(.int sv)]) (rest := []) (lenOf pd__I_Lcom_example_nano_broker_nanobroker_protocol_ApiKey_ rfl) rfl (by show 2 * 0 + _ ≤ _; exact Nat.le_of_eq rfl) (hb hby at_23) (fun _ _ => ⟨rfl, e3, (by decide : 0 + 0 ≤ _), (by decide : 0 + 0 ≤ _)⟩)
  dsimp only [Pt.U, Pt.locs, Pt.cells, Pt.slots] at X4 l4 y4 z4 st4 hQ4
  rw [l4, y4, z4] at X4
  obtain ⟨rfl, N4q, e4⟩ := hQ4
  have N4 := Fr.app N3 N4q
  obtain ⟨cq5, kq5, q5a, q5b, q5c⟩ := isOf hZ e4 E_j
  obtain ⟨_, _, ⟨T5, L5, k5, n5⟩, -, X5, ⟨Lc5, hQ5, l5, y5, z5⟩, st5⟩ := X4.virtualBack hx (y := (⟨"com/example/nano_broker/nanobroker/protocol/ApiKey", "id", "()S"⟩ : MethodName)) (z := (⟨"com/example/nano_broker/nanobroker/protocol/ApiKey", "id", "()S"⟩ : MethodName)) hown (mvT hZ (hw _ (List.mem_of_getElem? (i := 14) rfl))) (mvT hZ (hw _ (List.mem_of_getElem? (i := 15) rfl))) (notFace_of_selects (args := #[]) (mvT hZ (hw _ (List.mem_of_getElem? (i := 17) rfl)))) (mvT hZ (hw _ (List.mem_of_getElem? (i := 17) rfl))) (mvT hZ (hw _ (List.mem_of_getElem? (i := 16) rfl))) (by decide) (backOf (W := 0) (rm3 l Z a0 hw [] (W j) sv h0 n0 Z0 F_j hc0) hZ (hw _ (List.mem_of_getElem? (i := 18) rfl)) (hw _ (List.mem_of_getElem? (i := 2) rfl)) (by decide) (by decide)) q5a q5c (g := (mkF m 41 #[.val (.int p0), .val (.int p1), .val (.int sv), .val (.ref (W j)), .val (.ref (W j))] [(.ref (W j))])) rfl (by rw [hml]; rfl) (Steps.refl _) (argsL := []) (rest := []) (lenOf pd___S rfl) rfl (by show 2 * 0 + _ ≤ _; exact Nat.le_of_eq rfl) (hb hby at_41) (fun _ _ => ⟨rfl, e4, (by decide : 0 + 0 ≤ _), (by decide : 0 + 0 ≤ _)⟩)
  dsimp only [Pt.U, Pt.locs, Pt.cells, Pt.slots] at X5 l5 y5 z5 st5 hQ5
  rw [l5, y5, z5] at X5
  obtain ⟨rfl, N5q, e5⟩ := hQ5
  have N5 := Fr.app N4 N5q
  obtain ⟨fs, hr, hrun, hended, hW, hsame⟩ := X5.leave (v := some (.int (1 : Int32))) (fun h => by rw [Bd.returns] at h; cases h)
  refine ⟨_, _, pre1 _ ?_, hrun, hended, _, _, rfl, ?_, ⟨_, rfl⟩, hW, hsame.mono (by decide) (by decide)⟩
  · skip
    show Steps p.tables e below (s₁.setTop (mkF m 16 #[.val (.int p0), .val (.int p1), .unset, .unset, .unset] [(.int sv)])) _
    refine XS.istoreN X0.here hx rfl (hb hby at_16) rfl (l' := #[.val (.int p0), .val (.int p1), .val (.int sv), .unset, .unset]) rfl ?_
    show Steps p.tables e below (s₁.setTop (mkF m 17 #[.val (.int p0), .val (.int p1), .val (.int sv), .unset, .unset] [])) _
    refine XS.iloadN X0.here hx rfl (hb hby at_17) rfl ?_
    show Steps p.tables e below (s₁.setTop (mkF m 18 #[.val (.int p0), .val (.int p1), .val (.int sv), .unset, .unset] [(.int sv)])) _
    refine st3 _ ?_
    show Steps p.tables e below (T3.setTop (mkF m 21 #[.val (.int p0), .val (.int p1), .val (.int sv), .unset, .unset] [(.ref (W j))])) _
    refine XS.astoreN X3.here hx rfl (hb hby at_21) rfl rfl (l' := #[.val (.int p0), .val (.int p1), .val (.int sv), .val (.ref (W j)), .unset]) rfl ?_
    show Steps p.tables e below (T3.setTop (mkF m 22 #[.val (.int p0), .val (.int p1), .val (.int sv), .val (.ref (W j)), .unset] [])) _
    refine XS.iloadN X3.here hx rfl (hb hby at_22) rfl ?_
    show Steps p.tables e below (T3.setTop (mkF m 23 #[.val (.int p0), .val (.int p1), .val (.int sv), .val (.ref (W j)), .unset] [(.int sv)])) _
    refine st4 _ ?_
    show Steps p.tables e below (T4.setTop (mkF m 26 #[.val (.int p0), .val (.int p1), .val (.int sv), .val (.ref (W j)), .unset] [(.ref (W j))])) _
    refine XS.astore X4.here hx rfl (hb hby at_26) rfl rfl (l' := #[.val (.int p0), .val (.int p1), .val (.int sv), .val (.ref (W j)), .val (.ref (W j))]) rfl ?_
    show Steps p.tables e below (T4.setTop (mkF m 28 #[.val (.int p0), .val (.int p1), .val (.int sv), .val (.ref (W j)), .val (.ref (W j))] [])) _
    refine XS.aloadN X4.here hx rfl (hb hby at_28) rfl rfl ?_
    show Steps p.tables e below (T4.setTop (mkF m 29 #[.val (.int p0), .val (.int p1), .val (.int sv), .val (.ref (W j)), .val (.ref (W j))] [(.ref (W j))])) _
    refine XS.aload X4.here hx rfl (hb hby at_29) rfl rfl ?_
    show Steps p.tables e below (T4.setTop (mkF m 31 #[.val (.int p0), .val (.int p1), .val (.int sv), .val (.ref (W j)), .val (.ref (W j))] [(.ref (W j)), (.ref (W j))])) _
    refine Jvm.RoadKit.acmp (g := (mkF m 31 #[.val (.int p0), .val (.int p1), .val (.int sv), .val (.ref (W j)), .val (.ref (W j))] [(.ref (W j)), (.ref (W j))])) X4 hx rfl rfl rfl (pc0 := 31) (pc' := 36) (same := true) rfl (hb hby at_31) rfl (decide_eq_true rfl) (by decide) (by decide) ?_
    show Steps p.tables e below (T4.setTop (mkF m 36 #[.val (.int p0), .val (.int p1), .val (.int sv), .val (.ref (W j)), .val (.ref (W j))] [])) _
    refine XS.aloadN X4.here hx rfl (hb hby at_36) rfl rfl ?_
    show Steps p.tables e below (T4.setTop (mkF m 37 #[.val (.int p0), .val (.int p1), .val (.int sv), .val (.ref (W j)), .val (.ref (W j))] [(.ref (W j))])) _
    refine XS.ifnullNo X4.here hx rfl (hb hby at_37) rfl ?_
    show Steps p.tables e below (T4.setTop (mkF m 40 #[.val (.int p0), .val (.int p1), .val (.int sv), .val (.ref (W j)), .val (.ref (W j))] [])) _
    refine XS.aloadN X4.here hx rfl (hb hby at_40) rfl rfl ?_
    show Steps p.tables e below (T4.setTop (mkF m 41 #[.val (.int p0), .val (.int p1), .val (.int sv), .val (.ref (W j)), .val (.ref (W j))] [(.ref (W j))])) _
    refine st5.trans ?_
    show Steps p.tables e below (T5.setTop (mkF m 44 #[.val (.int p0), .val (.int p1), .val (.int sv), .val (.ref (W j)), .val (.ref (W j))] [(.int sv)])) _
    refine XS.iloadN X5.here hx rfl (hb hby at_44) rfl ?_
    show Steps p.tables e below (T5.setTop (mkF m 45 #[.val (.int p0), .val (.int p1), .val (.int sv), .val (.ref (W j)), .val (.ref (W j))] [(.int sv), (.int sv)])) _
    refine XS.icmpNo X5.here hx rfl (hb hby at_45) rfl (teq rfl).2 ?_
    show Steps p.tables e below (T5.setTop (mkF m 48 #[.val (.int p0), .val (.int p1), .val (.int sv), .val (.ref (W j)), .val (.ref (W j))] [])) _
    refine XS.iconst X5.here hx rfl (hb hby at_48) ?_
    show Steps p.tables e below (T5.setTop (mkF m 49 #[.val (.int p0), .val (.int p1), .val (.int sv), .val (.ref (W j)), .val (.ref (W j))] [(.int (1 : Int32))])) _
    refine XS.goto X5.here hx rfl (pc0 := 49) (pc' := 53) rfl (hb hby at_49) (by decide) (by decide) ?_
    show Steps p.tables e below (T5.setTop (mkF m 53 #[.val (.int p0), .val (.int p1), .val (.int sv), .val (.ref (W j)), .val (.ref (W j))] [(.int (1 : Int32))])) _
    exact retN X5 hx (t := .boolean) Bd.returns (by simp) (hb hby at_53) hr
  · show QR (.int (1 : Int32)) h0 n0 _ T5.heap _
    rw [e5]
    exact ⟨(by first | rfl | simp []), N5, rfl⟩
theorem ef_rm0m (m : MethodId) (x0 : Int32) (x1 : Int32) : entryFrame m #[(.int x0), (.int x1)] maxLocals = mkF m 0 #[.val (.int x0), .val (.int x1), .unset, .unset, .unset] [] := by first | (simp [entryFrame, mkF, argsToLocals, Value.category, maxLocals]; done) | rfl
set_option maxRecDepth 65536 in
set_option maxHeartbeats 40000000 in
theorem rm0m (l : Launch) (Z : State) (a0 : Array Value) (hw : ∀ d ∈ tables_1, d.before a0 Z = true) (ws : List Jvm.Cond) (p0 : Int32) (p1 : Int32) (sv : Int32) (W : Nat → Addr) (aA : Addr) (kA : ClassId) (h0 : Heap) (n0 : Nat) (Z0 : n0 ≤ h0.size) (S_A : Sta Z h0 "com/example/nano_broker/nanobroker/protocol/ApiKey" "ALL" "[Lcom/example/nano_broker/nanobroker/protocol/ApiKey;" (.ref aA)) (V_A : Arv Z h0 aA kA (.object "com/example/nano_broker/nanobroker/protocol/ApiKey") (21 : Int32) [(.ref (W 0)), (.ref (W 1)), (.ref (W 2)), (.ref (W 3)), (.ref (W 4)), (.ref (W 5)), (.ref (W 6)), (.ref (W 7)), (.ref (W 8)), (.ref (W 9)), (.ref (W 10)), (.ref (W 11)), (.ref (W 12)), (.ref (W 13)), (.ref (W 14)), (.ref (W 15)), (.ref (W 16)), (.ref (W 17)), (.ref (W 18)), (.ref (W 19)), (.ref (W 20))] .null) (hF : ∀ i, i < 21 → Fld Z h0 (W i) "com/example/nano_broker/nanobroker/protocol/ApiKey" "id" "S" (.int (own_id i))) (S_PRODUCE : Sta Z h0 "com/example/nano_broker/nanobroker/protocol/ApiKey" "PRODUCE" "Lcom/example/nano_broker/nanobroker/protocol/ApiKey;" (.ref (W 0))) (S_FETCH : Sta Z h0 "com/example/nano_broker/nanobroker/protocol/ApiKey" "FETCH" "Lcom/example/nano_broker/nanobroker/protocol/ApiKey;" (.ref (W 1))) (S_LIST_OFFSETS : Sta Z h0 "com/example/nano_broker/nanobroker/protocol/ApiKey" "LIST_OFFSETS" "Lcom/example/nano_broker/nanobroker/protocol/ApiKey;" (.ref (W 2))) (S_METADATA : Sta Z h0 "com/example/nano_broker/nanobroker/protocol/ApiKey" "METADATA" "Lcom/example/nano_broker/nanobroker/protocol/ApiKey;" (.ref (W 3))) (S_OFFSET_COMMIT : Sta Z h0 "com/example/nano_broker/nanobroker/protocol/ApiKey" "OFFSET_COMMIT" "Lcom/example/nano_broker/nanobroker/protocol/ApiKey;" (.ref (W 4))) (S_OFFSET_FETCH : Sta Z h0 "com/example/nano_broker/nanobroker/protocol/ApiKey" "OFFSET_FETCH" "Lcom/example/nano_broker/nanobroker/protocol/ApiKey;" (.ref (W 5))) (S_FIND_COORDINATOR : Sta Z h0 "com/example/nano_broker/nanobroker/protocol/ApiKey" "FIND_COORDINATOR" "Lcom/example/nano_broker/nanobroker/protocol/ApiKey;" (.ref (W 6))) (S_JOIN_GROUP : Sta Z h0 "com/example/nano_broker/nanobroker/protocol/ApiKey" "JOIN_GROUP" "Lcom/example/nano_broker/nanobroker/protocol/ApiKey;" (.ref (W 7))) (S_HEARTBEAT : Sta Z h0 "com/example/nano_broker/nanobroker/protocol/ApiKey" "HEARTBEAT" "Lcom/example/nano_broker/nanobroker/protocol/ApiKey;" (.ref (W 8))) (S_LEAVE_GROUP : Sta Z h0 "com/example/nano_broker/nanobroker/protocol/ApiKey" "LEAVE_GROUP" "Lcom/example/nano_broker/nanobroker/protocol/ApiKey;" (.ref (W 9))) (S_SYNC_GROUP : Sta Z h0 "com/example/nano_broker/nanobroker/protocol/ApiKey" "SYNC_GROUP" "Lcom/example/nano_broker/nanobroker/protocol/ApiKey;" (.ref (W 10))) (S_DESCRIBE_GROUPS : Sta Z h0 "com/example/nano_broker/nanobroker/protocol/ApiKey" "DESCRIBE_GROUPS" "Lcom/example/nano_broker/nanobroker/protocol/ApiKey;" (.ref (W 11))) (S_LIST_GROUPS : Sta Z h0 "com/example/nano_broker/nanobroker/protocol/ApiKey" "LIST_GROUPS" "Lcom/example/nano_broker/nanobroker/protocol/ApiKey;" (.ref (W 12))) (S_API_VERSIONS : Sta Z h0 "com/example/nano_broker/nanobroker/protocol/ApiKey" "API_VERSIONS" "Lcom/example/nano_broker/nanobroker/protocol/ApiKey;" (.ref (W 13))) (S_CREATE_TOPICS : Sta Z h0 "com/example/nano_broker/nanobroker/protocol/ApiKey" "CREATE_TOPICS" "Lcom/example/nano_broker/nanobroker/protocol/ApiKey;" (.ref (W 14))) (S_DELETE_TOPICS : Sta Z h0 "com/example/nano_broker/nanobroker/protocol/ApiKey" "DELETE_TOPICS" "Lcom/example/nano_broker/nanobroker/protocol/ApiKey;" (.ref (W 15))) (S_INIT_PRODUCER_ID : Sta Z h0 "com/example/nano_broker/nanobroker/protocol/ApiKey" "INIT_PRODUCER_ID" "Lcom/example/nano_broker/nanobroker/protocol/ApiKey;" (.ref (W 16))) (S_DESCRIBE_CONFIGS : Sta Z h0 "com/example/nano_broker/nanobroker/protocol/ApiKey" "DESCRIBE_CONFIGS" "Lcom/example/nano_broker/nanobroker/protocol/ApiKey;" (.ref (W 17))) (S_ALTER_CONFIGS : Sta Z h0 "com/example/nano_broker/nanobroker/protocol/ApiKey" "ALTER_CONFIGS" "Lcom/example/nano_broker/nanobroker/protocol/ApiKey;" (.ref (W 18))) (S_CREATE_PARTITIONS : Sta Z h0 "com/example/nano_broker/nanobroker/protocol/ApiKey" "CREATE_PARTITIONS" "Lcom/example/nano_broker/nanobroker/protocol/ApiKey;" (.ref (W 19))) (S_DELETE_GROUPS : Sta Z h0 "com/example/nano_broker/nanobroker/protocol/ApiKey" "DELETE_GROUPS" "Lcom/example/nano_broker/nanobroker/protocol/ApiKey;" (.ref (W 20)))  (hsv : sv = if (p1 &&& (1 : Int32)) = 0 then p0.toInt16.toInt32 else (p0 % (64 : Int32)).toInt16.toInt32) (hne : ∀ i, i < 21 → ¬ own_id i = sv) :
    MetFree l x (head1 (Jvm.Cond.code x code maxLocals ret :: ws) room_1) (fun a U => a = #[(.int p0), (.int p1)] ∧ Z.Warmed39 U.vm ∧ U.heap = h0) (fun _ _ _ _ _ => True) (fun _ U o U' => ∃ v L, o = .returned v ∧ QR (.int (1 : Int32)) h0 n0 v U'.heap L ∧ FrameEnd U o U' L room_1.cells room_1.slots) := by
  refine MetFree.of_bodySF (plainFor_of_name pn_0) hisR ?_
  intro p e s m args below meth c s₁ Bd hml0 hP hK
  obtain ⟨rfl, hZ, hh⟩ := hP
  have hx := Bd.exec
  have hby := Bd.bytes
  have hml : c.maxLocals = 5 := hml0
  have hown : s.vm.findClass "com/example/nano_broker/nanobroker/protocol/ApiKeyForIdPinLaw" = some m.cls := findClass_of_methodNamed Bd.named
  have hnm := (name_of_methodNamed Bd.named Bd.method).1
  have X0 : Stand p l e room_1 s m #[(.int p0), (.int p1)] below meth c s₁ [] 0 0 := Stand.of_body Bd
  have e0 : s₁.heap = h0 := by rw [← hh, Bd.state]; rfl
  have N0 := Fr.nil n0
  have pre0 : ∀ t, Steps p.tables e below (s₁.setTop (mkF m 0 #[.val (.int p0), .val (.int p1), .unset, .unset, .unset] [])) t → Steps p.tables e below (s₁.setTop (entryFrame m #[(.int p0), (.int p1)] maxLocals)) t := fun t k => castTop (ef_rm0m m p0 p1) k
  have hl : own_look W sv = .null := own_miss W hne
  have pre1 : ∀ t, Steps p.tables e below (s₁.setTop (mkF m 16 #[.val (.int p0), .val (.int p1), .unset, .unset, .unset] [(.int sv)])) t → Steps p.tables e below (s₁.setTop (entryFrame m #[(.int p0), (.int p1)] maxLocals)) t := by
    intro t kt
    refine pre0 t ?_
    show Steps p.tables e below (s₁.setTop (mkF m 0 #[.val (.int p0), .val (.int p1), .unset, .unset, .unset] [])) _
    refine XS.iloadN X0.here hx rfl (hb hby at_0) rfl ?_
    show Steps p.tables e below (s₁.setTop (mkF m 1 #[.val (.int p0), .val (.int p1), .unset, .unset, .unset] [(.int p1)])) _
    refine XS.iconst X0.here hx rfl (hb hby at_1) ?_
    show Steps p.tables e below (s₁.setTop (mkF m 2 #[.val (.int p0), .val (.int p1), .unset, .unset, .unset] [(.int (1 : Int32)), (.int p1)])) _
    refine XS.iand X0.here hx rfl (hb hby at_2) rfl ?_
    by_cases hc2 : (p1 &&& (1 : Int32)) = (0 : Int32)
    · skip
      show Steps p.tables e below (s₁.setTop (mkF m 3 #[.val (.int p0), .val (.int p1), .unset, .unset, .unset] [(.int (p1 &&& (1 : Int32)))])) _
      refine XS.ifYes X0.here hx rfl (pc0 := 3) (pc' := 14) rfl (hb hby at_3) rfl ((if0 _ _).trans (teq hc2).1) (by decide) (by decide) ?_
      show Steps p.tables e below (s₁.setTop (mkF m 14 #[.val (.int p0), .val (.int p1), .unset, .unset, .unset] [])) _
      refine XS.iloadN X0.here hx rfl (hb hby at_14) rfl ?_
      show Steps p.tables e below (s₁.setTop (mkF m 15 #[.val (.int p0), .val (.int p1), .unset, .unset, .unset] [(.int p0)])) _
      refine XS.i2s X0.here hx rfl (hb hby at_15) rfl ?_
      rw [show sv = (p0.toInt16.toInt32) from by simp [hsv, hc2]] at kt
      exact kt
    · skip
      show Steps p.tables e below (s₁.setTop (mkF m 3 #[.val (.int p0), .val (.int p1), .unset, .unset, .unset] [(.int (p1 &&& (1 : Int32)))])) _
      refine XS.ifNo X0.here hx rfl (hb hby at_3) rfl ((if0 _ _).trans (feq hc2).1) ?_
      show Steps p.tables e below (s₁.setTop (mkF m 6 #[.val (.int p0), .val (.int p1), .unset, .unset, .unset] [])) _
      refine XS.iloadN X0.here hx rfl (hb hby at_6) rfl ?_
      show Steps p.tables e below (s₁.setTop (mkF m 7 #[.val (.int p0), .val (.int p1), .unset, .unset, .unset] [(.int p0)])) _
      refine XS.bipush X0.here hx rfl (hb hby at_7) ?_
      show Steps p.tables e below (s₁.setTop (mkF m 9 #[.val (.int p0), .val (.int p1), .unset, .unset, .unset] [(.int (64 : Int32)), (.int p0)])) _
      refine iremM (g := (mkF m 9 #[.val (.int p0), .val (.int p1), .unset, .unset, .unset] [(.int (64 : Int32)), (.int p0)])) X0 hx rfl (hb hby at_9) rfl (by decide) ?_
      show Steps p.tables e below (s₁.setTop (mkF m 10 #[.val (.int p0), .val (.int p1), .unset, .unset, .unset] [(.int (p0 % (64 : Int32)))])) _
      refine XS.i2s X0.here hx rfl (hb hby at_10) rfl ?_
      show Steps p.tables e below (s₁.setTop (mkF m 11 #[.val (.int p0), .val (.int p1), .unset, .unset, .unset] [(.int ((p0 % (64 : Int32)).toInt16.toInt32))])) _
      refine XS.goto X0.here hx rfl (pc0 := 11) (pc' := 16) rfl (hb hby at_11) (by decide) (by decide) ?_
      rw [show sv = ((p0 % (64 : Int32)).toInt16.toInt32) from by simp [hsv, hc2]] at kt
      exact kt
  obtain ⟨_, _, ⟨T3, L3, k3, n3⟩, -, X3, ⟨Lc3, hQ3, l3, y3, z3⟩, st3⟩ := Jvm.LawKit.callS X0 hx (y := (⟨"com/example/nano_broker/nanobroker/protocol/ApiKey", "forId", "(S)Lcom/example/nano_broker/nanobroker/protocol/ApiKey;"⟩ : MethodName)) hown (mvT hZ (hw _ (List.mem_of_getElem? (i := 0) rfl))) (mvT hZ (hw _ (List.mem_of_getElem? (i := 1) rfl))) (mvT hZ (hw _ (List.mem_of_getElem? (i := 2) rfl))) (mvT hZ (hw _ (List.mem_of_getElem? (i := 3) rfl))) (by decide) (backOf (W := 0) (rm1m l Z a0 hw [] sv W aA kA h0 n0 Z0 S_A V_A hF hne) hZ (hw _ (List.mem_of_getElem? (i := 3) rfl)) (hw _ (List.mem_of_getElem? (i := 2) rfl)) (by decide) (by decide)) (g := (mkF m 18 #[.val (.int p0), .val (.int p1), .val (.int sv), .unset, .unset] [(.int sv)])) rfl (by rw [hml]; rfl) (argsL := [(.int sv)]) (rest := []) (lenOf pd__S_Lcom_example_nano_broker_nanobroker_protocol_ApiKey_ rfl) rfl (by show 2 * 0 + _ ≤ _; exact Nat.le_of_eq rfl) (hb hby at_18) (fun _ _ => ⟨rfl, e0, (by decide : 0 + 0 ≤ _), (by decide : 0 + 0 ≤ _)⟩)
  dsimp only [Pt.U, Pt.locs, Pt.cells, Pt.slots] at X3 l3 y3 z3 st3 hQ3
  rw [l3, y3, z3] at X3
  obtain ⟨rfl, N3q, e3⟩ := hQ3
  have N3 := Fr.app N0 N3q
  obtain ⟨_, _, ⟨T4, L4, k4, n4⟩, -, X4, ⟨Lc4, hQ4, l4, y4, z4⟩, st4⟩ := Jvm.LawKit.callS X3 hx (y := (⟨"com/example/nano_broker/nanobroker/protocol/ApiKeyForIdPinLaw", "expected", "(I)Lcom/example/nano_broker/nanobroker/protocol/ApiKey;"⟩ : MethodName)) hown (mvT hZ (hw _ (List.mem_of_getElem? (i := 9) rfl))) (mvT hZ (hw _ (List.mem_of_getElem? (i := 10) rfl))) (mvT hZ (hw _ (List.mem_of_getElem? (i := 11) rfl))) (mvT hZ (hw _ (List.mem_of_getElem? (i := 12) rfl))) (by decide) (backOf (W := 0) (hl ▸ rm2 l Z a0 hw [] sv W h0 n0 Z0 S_PRODUCE S_FETCH S_LIST_OFFSETS S_METADATA S_OFFSET_COMMIT S_OFFSET_FETCH S_FIND_COORDINATOR S_JOIN_GROUP S_HEARTBEAT S_LEAVE_GROUP S_SYNC_GROUP S_DESCRIBE_GROUPS S_LIST_GROUPS S_API_VERSIONS S_CREATE_TOPICS S_DELETE_TOPICS S_INIT_PRODUCER_ID S_DESCRIBE_CONFIGS S_ALTER_CONFIGS S_CREATE_PARTITIONS S_DELETE_GROUPS) hZ (hw _ (List.mem_of_getElem? (i := 12) rfl)) (hw _ (List.mem_of_getElem? (i := 11) rfl)) (by decide) (by decide)) (g := (mkF m 23 #[.val (.int p0), .val (.int p1), .val (.int sv), .val .null, .unset] [(.int sv)])) rfl (by rw [hml]; rfl) (argsL := [(.int sv)]) (rest := []) (lenOf pd__I_Lcom_example_nano_broker_nanobroker_protocol_ApiKey_ rfl) rfl (by show 2 * 0 + _ ≤ _; exact Nat.le_of_eq rfl) (hb hby at_23) (fun _ _ => ⟨rfl, e3, (by decide : 0 + 0 ≤ _), (by decide : 0 + 0 ≤ _)⟩)
  dsimp only [Pt.U, Pt.locs, Pt.cells, Pt.slots] at X4 l4 y4 z4 st4 hQ4
  rw [l4, y4, z4] at X4
  obtain ⟨rfl, N4q, e4⟩ := hQ4
  have N4 := Fr.app N3 N4q
  obtain ⟨fs, hr, hrun, hended, hW, hsame⟩ := X4.leave (v := some (.int (1 : Int32))) (fun h => by rw [Bd.returns] at h; cases h)
  refine ⟨_, _, pre1 _ ?_, hrun, hended, _, _, rfl, ?_, ⟨_, rfl⟩, hW, hsame.mono (by decide) (by decide)⟩
  · skip
    show Steps p.tables e below (s₁.setTop (mkF m 16 #[.val (.int p0), .val (.int p1), .unset, .unset, .unset] [(.int sv)])) _
    refine XS.istoreN X0.here hx rfl (hb hby at_16) rfl (l' := #[.val (.int p0), .val (.int p1), .val (.int sv), .unset, .unset]) rfl ?_
    show Steps p.tables e below (s₁.setTop (mkF m 17 #[.val (.int p0), .val (.int p1), .val (.int sv), .unset, .unset] [])) _
    refine XS.iloadN X0.here hx rfl (hb hby at_17) rfl ?_
    show Steps p.tables e below (s₁.setTop (mkF m 18 #[.val (.int p0), .val (.int p1), .val (.int sv), .unset, .unset] [(.int sv)])) _
    refine st3 _ ?_
    show Steps p.tables e below (T3.setTop (mkF m 21 #[.val (.int p0), .val (.int p1), .val (.int sv), .unset, .unset] [.null])) _
    refine XS.astoreN X3.here hx rfl (hb hby at_21) rfl rfl (l' := #[.val (.int p0), .val (.int p1), .val (.int sv), .val .null, .unset]) rfl ?_
    show Steps p.tables e below (T3.setTop (mkF m 22 #[.val (.int p0), .val (.int p1), .val (.int sv), .val .null, .unset] [])) _
    refine XS.iloadN X3.here hx rfl (hb hby at_22) rfl ?_
    show Steps p.tables e below (T3.setTop (mkF m 23 #[.val (.int p0), .val (.int p1), .val (.int sv), .val .null, .unset] [(.int sv)])) _
    refine st4 _ ?_
    show Steps p.tables e below (T4.setTop (mkF m 26 #[.val (.int p0), .val (.int p1), .val (.int sv), .val .null, .unset] [.null])) _
    refine XS.astore X4.here hx rfl (hb hby at_26) rfl rfl (l' := #[.val (.int p0), .val (.int p1), .val (.int sv), .val .null, .val .null]) rfl ?_
    show Steps p.tables e below (T4.setTop (mkF m 28 #[.val (.int p0), .val (.int p1), .val (.int sv), .val .null, .val .null] [])) _
    refine XS.aloadN X4.here hx rfl (hb hby at_28) rfl rfl ?_
    show Steps p.tables e below (T4.setTop (mkF m 29 #[.val (.int p0), .val (.int p1), .val (.int sv), .val .null, .val .null] [.null])) _
    refine XS.aload X4.here hx rfl (hb hby at_29) rfl rfl ?_
    show Steps p.tables e below (T4.setTop (mkF m 31 #[.val (.int p0), .val (.int p1), .val (.int sv), .val .null, .val .null] [.null, .null])) _
    refine Jvm.RoadKit.acmp (g := (mkF m 31 #[.val (.int p0), .val (.int p1), .val (.int sv), .val .null, .val .null] [.null, .null])) X4 hx rfl rfl rfl (pc0 := 31) (pc' := 36) (same := true) rfl (hb hby at_31) rfl (decide_eq_true rfl) (by decide) (by decide) ?_
    show Steps p.tables e below (T4.setTop (mkF m 36 #[.val (.int p0), .val (.int p1), .val (.int sv), .val .null, .val .null] [])) _
    refine XS.aloadN X4.here hx rfl (hb hby at_36) rfl rfl ?_
    show Steps p.tables e below (T4.setTop (mkF m 37 #[.val (.int p0), .val (.int p1), .val (.int sv), .val .null, .val .null] [.null])) _
    refine XS.ifnullYes X4.here hx rfl (pc0 := 37) (pc' := 48) rfl (hb hby at_37) rfl (by decide) (by decide) ?_
    show Steps p.tables e below (T4.setTop (mkF m 48 #[.val (.int p0), .val (.int p1), .val (.int sv), .val .null, .val .null] [])) _
    refine XS.iconst X4.here hx rfl (hb hby at_48) ?_
    show Steps p.tables e below (T4.setTop (mkF m 49 #[.val (.int p0), .val (.int p1), .val (.int sv), .val .null, .val .null] [(.int (1 : Int32))])) _
    refine XS.goto X4.here hx rfl (pc0 := 49) (pc' := 53) rfl (hb hby at_49) (by decide) (by decide) ?_
    show Steps p.tables e below (T4.setTop (mkF m 53 #[.val (.int p0), .val (.int p1), .val (.int sv), .val .null, .val .null] [(.int (1 : Int32))])) _
    exact retN X4 hx (t := .boolean) Bd.returns (by simp) (hb hby at_53) hr
  · show QR (.int (1 : Int32)) h0 n0 _ T4.heap _
    rw [e4]
    exact ⟨(by first | rfl | simp []), N4, rfl⟩
theorem rm0 (l : Launch) (Z : State) (a0 : Array Value) (hw : ∀ d ∈ tables_1, d.before a0 Z = true) (ws : List Jvm.Cond) (p0 : Int32) (p1 : Int32) (sv : Int32) (W : Nat → Addr) (aA : Addr) (kA : ClassId) (h0 : Heap) (n0 : Nat) (Z0 : n0 ≤ h0.size) (S_A : Sta Z h0 "com/example/nano_broker/nanobroker/protocol/ApiKey" "ALL" "[Lcom/example/nano_broker/nanobroker/protocol/ApiKey;" (.ref aA)) (V_A : Arv Z h0 aA kA (.object "com/example/nano_broker/nanobroker/protocol/ApiKey") (21 : Int32) [(.ref (W 0)), (.ref (W 1)), (.ref (W 2)), (.ref (W 3)), (.ref (W 4)), (.ref (W 5)), (.ref (W 6)), (.ref (W 7)), (.ref (W 8)), (.ref (W 9)), (.ref (W 10)), (.ref (W 11)), (.ref (W 12)), (.ref (W 13)), (.ref (W 14)), (.ref (W 15)), (.ref (W 16)), (.ref (W 17)), (.ref (W 18)), (.ref (W 19)), (.ref (W 20))] .null) (hF : ∀ i, i < 21 → Fld Z h0 (W i) "com/example/nano_broker/nanobroker/protocol/ApiKey" "id" "S" (.int (own_id i))) (S_PRODUCE : Sta Z h0 "com/example/nano_broker/nanobroker/protocol/ApiKey" "PRODUCE" "Lcom/example/nano_broker/nanobroker/protocol/ApiKey;" (.ref (W 0))) (S_FETCH : Sta Z h0 "com/example/nano_broker/nanobroker/protocol/ApiKey" "FETCH" "Lcom/example/nano_broker/nanobroker/protocol/ApiKey;" (.ref (W 1))) (S_LIST_OFFSETS : Sta Z h0 "com/example/nano_broker/nanobroker/protocol/ApiKey" "LIST_OFFSETS" "Lcom/example/nano_broker/nanobroker/protocol/ApiKey;" (.ref (W 2))) (S_METADATA : Sta Z h0 "com/example/nano_broker/nanobroker/protocol/ApiKey" "METADATA" "Lcom/example/nano_broker/nanobroker/protocol/ApiKey;" (.ref (W 3))) (S_OFFSET_COMMIT : Sta Z h0 "com/example/nano_broker/nanobroker/protocol/ApiKey" "OFFSET_COMMIT" "Lcom/example/nano_broker/nanobroker/protocol/ApiKey;" (.ref (W 4))) (S_OFFSET_FETCH : Sta Z h0 "com/example/nano_broker/nanobroker/protocol/ApiKey" "OFFSET_FETCH" "Lcom/example/nano_broker/nanobroker/protocol/ApiKey;" (.ref (W 5))) (S_FIND_COORDINATOR : Sta Z h0 "com/example/nano_broker/nanobroker/protocol/ApiKey" "FIND_COORDINATOR" "Lcom/example/nano_broker/nanobroker/protocol/ApiKey;" (.ref (W 6))) (S_JOIN_GROUP : Sta Z h0 "com/example/nano_broker/nanobroker/protocol/ApiKey" "JOIN_GROUP" "Lcom/example/nano_broker/nanobroker/protocol/ApiKey;" (.ref (W 7))) (S_HEARTBEAT : Sta Z h0 "com/example/nano_broker/nanobroker/protocol/ApiKey" "HEARTBEAT" "Lcom/example/nano_broker/nanobroker/protocol/ApiKey;" (.ref (W 8))) (S_LEAVE_GROUP : Sta Z h0 "com/example/nano_broker/nanobroker/protocol/ApiKey" "LEAVE_GROUP" "Lcom/example/nano_broker/nanobroker/protocol/ApiKey;" (.ref (W 9))) (S_SYNC_GROUP : Sta Z h0 "com/example/nano_broker/nanobroker/protocol/ApiKey" "SYNC_GROUP" "Lcom/example/nano_broker/nanobroker/protocol/ApiKey;" (.ref (W 10))) (S_DESCRIBE_GROUPS : Sta Z h0 "com/example/nano_broker/nanobroker/protocol/ApiKey" "DESCRIBE_GROUPS" "Lcom/example/nano_broker/nanobroker/protocol/ApiKey;" (.ref (W 11))) (S_LIST_GROUPS : Sta Z h0 "com/example/nano_broker/nanobroker/protocol/ApiKey" "LIST_GROUPS" "Lcom/example/nano_broker/nanobroker/protocol/ApiKey;" (.ref (W 12))) (S_API_VERSIONS : Sta Z h0 "com/example/nano_broker/nanobroker/protocol/ApiKey" "API_VERSIONS" "Lcom/example/nano_broker/nanobroker/protocol/ApiKey;" (.ref (W 13))) (S_CREATE_TOPICS : Sta Z h0 "com/example/nano_broker/nanobroker/protocol/ApiKey" "CREATE_TOPICS" "Lcom/example/nano_broker/nanobroker/protocol/ApiKey;" (.ref (W 14))) (S_DELETE_TOPICS : Sta Z h0 "com/example/nano_broker/nanobroker/protocol/ApiKey" "DELETE_TOPICS" "Lcom/example/nano_broker/nanobroker/protocol/ApiKey;" (.ref (W 15))) (S_INIT_PRODUCER_ID : Sta Z h0 "com/example/nano_broker/nanobroker/protocol/ApiKey" "INIT_PRODUCER_ID" "Lcom/example/nano_broker/nanobroker/protocol/ApiKey;" (.ref (W 16))) (S_DESCRIBE_CONFIGS : Sta Z h0 "com/example/nano_broker/nanobroker/protocol/ApiKey" "DESCRIBE_CONFIGS" "Lcom/example/nano_broker/nanobroker/protocol/ApiKey;" (.ref (W 17))) (S_ALTER_CONFIGS : Sta Z h0 "com/example/nano_broker/nanobroker/protocol/ApiKey" "ALTER_CONFIGS" "Lcom/example/nano_broker/nanobroker/protocol/ApiKey;" (.ref (W 18))) (S_CREATE_PARTITIONS : Sta Z h0 "com/example/nano_broker/nanobroker/protocol/ApiKey" "CREATE_PARTITIONS" "Lcom/example/nano_broker/nanobroker/protocol/ApiKey;" (.ref (W 19))) (S_DELETE_GROUPS : Sta Z h0 "com/example/nano_broker/nanobroker/protocol/ApiKey" "DELETE_GROUPS" "Lcom/example/nano_broker/nanobroker/protocol/ApiKey;" (.ref (W 20))) (hsv : sv = if (p1 &&& (1 : Int32)) = 0 then p0.toInt16.toInt32 else (p0 % (64 : Int32)).toInt16.toInt32) (hE : ∀ i, i < 21 → Exa Z h0 (W i) "com/example/nano_broker/nanobroker/protocol/ApiKey") (hc0 : sv.toInt16.toInt32 = sv) :
    MetFree l x (head1 (Jvm.Cond.code x code maxLocals ret :: ws) room_1) (fun a U => a = #[(.int p0), (.int p1)] ∧ Z.Warmed39 U.vm ∧ U.heap = h0) (fun _ _ _ _ _ => True) (fun _ U o U' => ∃ v L, o = .returned v ∧ QR (.int (1 : Int32)) h0 n0 v U'.heap L ∧ FrameEnd U o U' L room_1.cells room_1.slots) := by
  by_cases h : ∀ j, j < 21 → ¬ own_id j = sv
  · exact rm0m l Z a0 hw ws p0 p1 sv W aA kA h0 n0 Z0 S_A V_A hF S_PRODUCE S_FETCH S_LIST_OFFSETS S_METADATA S_OFFSET_COMMIT S_OFFSET_FETCH S_FIND_COORDINATOR S_JOIN_GROUP S_HEARTBEAT S_LEAVE_GROUP S_SYNC_GROUP S_DESCRIBE_GROUPS S_LIST_GROUPS S_API_VERSIONS S_CREATE_TOPICS S_DELETE_TOPICS S_INIT_PRODUCER_ID S_DESCRIBE_CONFIGS S_ALTER_CONFIGS S_CREATE_PARTITIONS S_DELETE_GROUPS hsv h
  · obtain ⟨j, hj, heq, hne⟩ := own_first h
    exact rm0h l Z a0 hw ws p0 p1 sv W aA kA h0 n0 Z0 S_A V_A hF S_PRODUCE S_FETCH S_LIST_OFFSETS S_METADATA S_OFFSET_COMMIT S_OFFSET_FETCH S_FIND_COORDINATOR S_JOIN_GROUP S_HEARTBEAT S_LEAVE_GROUP S_SYNC_GROUP S_DESCRIBE_GROUPS S_LIST_GROUPS S_API_VERSIONS S_CREATE_TOPICS S_DELETE_TOPICS S_INIT_PRODUCER_ID S_DESCRIBE_CONFIGS S_ALTER_CONFIGS S_CREATE_PARTITIONS S_DELETE_GROUPS hsv j hj heq hne (hE j hj) hc0
set_option maxRecDepth 65536 in
set_option maxHeartbeats 40000000 in
theorem comes_1 {Post : Tables → Env → Array Value → State → Outcome → State → Prop} (hpost : ∀ tb e args s v u, (limb_1_1.after args s (.returned v) u = true ∧ limb_1_2.after args s (.returned v) u = true ∧ True) → FrameEnd s (.returned v) u (Jvm.fieldLocs frame_1_writes args s ++ Jvm.arrayLocs frame_1_arrays args s ++ Jvm.staticLocs frame_1_statics s) 0 0 → Post tb e args s (.returned v) u) :
    ArmFor flags0 classFile x code maxLocals ret World_1 tables_1 room_1 Calls_1 rest_1 Pre_1 Post := by
  intro l hfl _ _ p e ha hcas hclk s m args below hf hA hF happ hP
  obtain ⟨hcalls, hrest, hpre⟩ := hP
  obtain ⟨-, -, -, hnamed, -, -, -, hat⟩ := (Spec.applies_iff hf).mp happ
  obtain ⟨hg, hn⟩ := and_e (Cond.before_iff.mp (show (Jvm.Cond.and given_1 narrow_1).before args s = true from hpre))
  obtain ⟨g0, hg⟩ := and_e hg
  obtain ⟨g1, hg⟩ := and_e hg
  have g2 := hg
  obtain ⟨w0, w1, rfl⟩ : ∃ w0 w1 : Value, args = #[w0, w1] := by
    have hs : args.size = 2 := by simpa [Cond.value, given_1] using g0
    obtain ⟨L⟩ := args
    match L, hs with
    | [w0, w1], _ => exact ⟨w0, w1, rfl⟩
  have hw := fun d (hd : d ∈ tables_1) => atoms_spec (ws := Jvm.Cond.code x code maxLocals ret :: tables_1) hat d (List.mem_cons_of_mem _ hd)
  have hfit : Fit s := fun {y c} hc i hi => by
    obtain ⟨ha, rfl⟩ := Array.getElem?_eq_some_iff.mp hc
    have q := List.all_eq_true.mp ((Array.all_eq_true_iff_forall_mem.mp hF) _ (Array.getElem_mem ha)) i (List.mem_range.mpr hi)
    simpa [Array.getElem?_eq_getElem hi] using q
  obtain ⟨i0, ei0⟩ := is_v g1
  obtain rfl : w0 = (.int i0) := Option.some.inj ei0
  obtain ⟨i1, ei1⟩ := is_v g2
  obtain rfl : w1 = (.int i1) := Option.some.inj ei1
  obtain ⟨m0, hn⟩ := and_e hn
  obtain ⟨m1, hn⟩ := and_e hn
  obtain ⟨m2, hn⟩ := and_e hn
  obtain ⟨m3, hn⟩ := and_e hn
  obtain ⟨m4, hn⟩ := and_e hn
  obtain ⟨m5, hn⟩ := and_e hn
  obtain ⟨m6, hn⟩ := and_e hn
  obtain ⟨m7, hn⟩ := and_e hn
  obtain ⟨m8, hn⟩ := and_e hn
  obtain ⟨m9, hn⟩ := and_e hn
  obtain ⟨m10, hn⟩ := and_e hn
  obtain ⟨m11, hn⟩ := and_e hn
  obtain ⟨m12, hn⟩ := and_e hn
  obtain ⟨m13, hn⟩ := and_e hn
  obtain ⟨m14, hn⟩ := and_e hn
  obtain ⟨m15, hn⟩ := and_e hn
  obtain ⟨m16, hn⟩ := and_e hn
  obtain ⟨m17, hn⟩ := and_e hn
  obtain ⟨m18, hn⟩ := and_e hn
  obtain ⟨m19, hn⟩ := and_e hn
  obtain ⟨m20, hn⟩ := and_e hn
  obtain ⟨m21, hn⟩ := and_e hn
  obtain ⟨m22, hn⟩ := and_e hn
  obtain ⟨m23, hn⟩ := and_e hn
  obtain ⟨m24, hn⟩ := and_e hn
  obtain ⟨m25, hn⟩ := and_e hn
  obtain ⟨m26, hn⟩ := and_e hn
  obtain ⟨m27, hn⟩ := and_e hn
  obtain ⟨m28, hn⟩ := and_e hn
  obtain ⟨m29, hn⟩ := and_e hn
  obtain ⟨m30, hn⟩ := and_e hn
  obtain ⟨m31, hn⟩ := and_e hn
  obtain ⟨m32, hn⟩ := and_e hn
  obtain ⟨m33, hn⟩ := and_e hn
  obtain ⟨m34, hn⟩ := and_e hn
  obtain ⟨m35, hn⟩ := and_e hn
  obtain ⟨m36, hn⟩ := and_e hn
  obtain ⟨m37, hn⟩ := and_e hn
  obtain ⟨m38, hn⟩ := and_e hn
  obtain ⟨m39, hn⟩ := and_e hn
  obtain ⟨m40, hn⟩ := and_e hn
  obtain ⟨m41, hn⟩ := and_e hn
  obtain ⟨m42, hn⟩ := and_e hn
  obtain ⟨m43, hn⟩ := and_e hn
  obtain ⟨m44, hn⟩ := and_e hn
  obtain ⟨m45, hn⟩ := and_e hn
  obtain ⟨m46, hn⟩ := and_e hn
  obtain ⟨m47, hn⟩ := and_e hn
  obtain ⟨m48, hn⟩ := and_e hn
  obtain ⟨m49, hn⟩ := and_e hn
  obtain ⟨m50, hn⟩ := and_e hn
  obtain ⟨m51, hn⟩ := and_e hn
  obtain ⟨m52, hn⟩ := and_e hn
  obtain ⟨m53, hn⟩ := and_e hn
  obtain ⟨m54, hn⟩ := and_e hn
  obtain ⟨m55, hn⟩ := and_e hn
  obtain ⟨m56, hn⟩ := and_e hn
  obtain ⟨m57, hn⟩ := and_e hn
  obtain ⟨m58, hn⟩ := and_e hn
  obtain ⟨m59, hn⟩ := and_e hn
  obtain ⟨m60, hn⟩ := and_e hn
  obtain ⟨m61, hn⟩ := and_e hn
  obtain ⟨m62, hn⟩ := and_e hn
  obtain ⟨m63, hn⟩ := and_e hn
  have m64 := hn
  obtain ⟨w_ApiKey_PRODUCE, ev_ApiKey_PRODUCE⟩ := exa_v m2
  have E_ApiKey_PRODUCE := Exa.start ev_ApiKey_PRODUCE m2
  have S_ApiKey_PRODUCE := Sta.start ev_ApiKey_PRODUCE (Or.inr ⟨(hw _ (List.mem_of_getElem? (i := 2) rfl)), (hw _ (List.mem_of_getElem? (i := 6) rfl))⟩)
  obtain ⟨w_ApiKey_FETCH, ev_ApiKey_FETCH⟩ := exa_v m5
  have E_ApiKey_FETCH := Exa.start ev_ApiKey_FETCH m5
  have S_ApiKey_FETCH := Sta.start ev_ApiKey_FETCH (Or.inr ⟨(hw _ (List.mem_of_getElem? (i := 2) rfl)), (hw _ (List.mem_of_getElem? (i := 19) rfl))⟩)
  obtain ⟨w_ApiKey_LIST_OFFSETS, ev_ApiKey_LIST_OFFSETS⟩ := exa_v m8
  have E_ApiKey_LIST_OFFSETS := Exa.start ev_ApiKey_LIST_OFFSETS m8
  have S_ApiKey_LIST_OFFSETS := Sta.start ev_ApiKey_LIST_OFFSETS (Or.inr ⟨(hw _ (List.mem_of_getElem? (i := 2) rfl)), (hw _ (List.mem_of_getElem? (i := 20) rfl))⟩)
  obtain ⟨w_ApiKey_METADATA, ev_ApiKey_METADATA⟩ := exa_v m11
  have E_ApiKey_METADATA := Exa.start ev_ApiKey_METADATA m11
  have S_ApiKey_METADATA := Sta.start ev_ApiKey_METADATA (Or.inr ⟨(hw _ (List.mem_of_getElem? (i := 2) rfl)), (hw _ (List.mem_of_getElem? (i := 21) rfl))⟩)
  obtain ⟨w_ApiKey_OFFSET_COMMIT, ev_ApiKey_OFFSET_COMMIT⟩ := exa_v m14
  have E_ApiKey_OFFSET_COMMIT := Exa.start ev_ApiKey_OFFSET_COMMIT m14
  have S_ApiKey_OFFSET_COMMIT := Sta.start ev_ApiKey_OFFSET_COMMIT (Or.inr ⟨(hw _ (List.mem_of_getElem? (i := 2) rfl)), (hw _ (List.mem_of_getElem? (i := 22) rfl))⟩)
  obtain ⟨w_ApiKey_OFFSET_FETCH, ev_ApiKey_OFFSET_FETCH⟩ := exa_v m17
  have E_ApiKey_OFFSET_FETCH := Exa.start ev_ApiKey_OFFSET_FETCH m17
  have S_ApiKey_OFFSET_FETCH := Sta.start ev_ApiKey_OFFSET_FETCH (Or.inr ⟨(hw _ (List.mem_of_getElem? (i := 2) rfl)), (hw _ (List.mem_of_getElem? (i := 23) rfl))⟩)
  obtain ⟨w_ApiKey_FIND_COORDINATOR, ev_ApiKey_FIND_COORDINATOR⟩ := exa_v m20
  have E_ApiKey_FIND_COORDINATOR := Exa.start ev_ApiKey_FIND_COORDINATOR m20
  have S_ApiKey_FIND_COORDINATOR := Sta.start ev_ApiKey_FIND_COORDINATOR (Or.inr ⟨(hw _ (List.mem_of_getElem? (i := 2) rfl)), (hw _ (List.mem_of_getElem? (i := 24) rfl))⟩)
  obtain ⟨w_ApiKey_JOIN_GROUP, ev_ApiKey_JOIN_GROUP⟩ := exa_v m23
  have E_ApiKey_JOIN_GROUP := Exa.start ev_ApiKey_JOIN_GROUP m23
  have S_ApiKey_JOIN_GROUP := Sta.start ev_ApiKey_JOIN_GROUP (Or.inr ⟨(hw _ (List.mem_of_getElem? (i := 2) rfl)), (hw _ (List.mem_of_getElem? (i := 25) rfl))⟩)
  obtain ⟨w_ApiKey_HEARTBEAT, ev_ApiKey_HEARTBEAT⟩ := exa_v m26
  have E_ApiKey_HEARTBEAT := Exa.start ev_ApiKey_HEARTBEAT m26
  have S_ApiKey_HEARTBEAT := Sta.start ev_ApiKey_HEARTBEAT (Or.inr ⟨(hw _ (List.mem_of_getElem? (i := 2) rfl)), (hw _ (List.mem_of_getElem? (i := 26) rfl))⟩)
  obtain ⟨w_ApiKey_LEAVE_GROUP, ev_ApiKey_LEAVE_GROUP⟩ := exa_v m29
  have E_ApiKey_LEAVE_GROUP := Exa.start ev_ApiKey_LEAVE_GROUP m29
  have S_ApiKey_LEAVE_GROUP := Sta.start ev_ApiKey_LEAVE_GROUP (Or.inr ⟨(hw _ (List.mem_of_getElem? (i := 2) rfl)), (hw _ (List.mem_of_getElem? (i := 27) rfl))⟩)
  obtain ⟨w_ApiKey_SYNC_GROUP, ev_ApiKey_SYNC_GROUP⟩ := exa_v m32
  have E_ApiKey_SYNC_GROUP := Exa.start ev_ApiKey_SYNC_GROUP m32
  have S_ApiKey_SYNC_GROUP := Sta.start ev_ApiKey_SYNC_GROUP (Or.inr ⟨(hw _ (List.mem_of_getElem? (i := 2) rfl)), (hw _ (List.mem_of_getElem? (i := 28) rfl))⟩)
  obtain ⟨w_ApiKey_DESCRIBE_GROUPS, ev_ApiKey_DESCRIBE_GROUPS⟩ := exa_v m35
  have E_ApiKey_DESCRIBE_GROUPS := Exa.start ev_ApiKey_DESCRIBE_GROUPS m35
  have S_ApiKey_DESCRIBE_GROUPS := Sta.start ev_ApiKey_DESCRIBE_GROUPS (Or.inr ⟨(hw _ (List.mem_of_getElem? (i := 2) rfl)), (hw _ (List.mem_of_getElem? (i := 30) rfl))⟩)
  obtain ⟨w_ApiKey_LIST_GROUPS, ev_ApiKey_LIST_GROUPS⟩ := exa_v m38
  have E_ApiKey_LIST_GROUPS := Exa.start ev_ApiKey_LIST_GROUPS m38
  have S_ApiKey_LIST_GROUPS := Sta.start ev_ApiKey_LIST_GROUPS (Or.inr ⟨(hw _ (List.mem_of_getElem? (i := 2) rfl)), (hw _ (List.mem_of_getElem? (i := 31) rfl))⟩)
  obtain ⟨w_ApiKey_API_VERSIONS, ev_ApiKey_API_VERSIONS⟩ := exa_v m41
  have E_ApiKey_API_VERSIONS := Exa.start ev_ApiKey_API_VERSIONS m41
  have S_ApiKey_API_VERSIONS := Sta.start ev_ApiKey_API_VERSIONS (Or.inr ⟨(hw _ (List.mem_of_getElem? (i := 2) rfl)), (hw _ (List.mem_of_getElem? (i := 32) rfl))⟩)
  obtain ⟨w_ApiKey_CREATE_TOPICS, ev_ApiKey_CREATE_TOPICS⟩ := exa_v m44
  have E_ApiKey_CREATE_TOPICS := Exa.start ev_ApiKey_CREATE_TOPICS m44
  have S_ApiKey_CREATE_TOPICS := Sta.start ev_ApiKey_CREATE_TOPICS (Or.inr ⟨(hw _ (List.mem_of_getElem? (i := 2) rfl)), (hw _ (List.mem_of_getElem? (i := 33) rfl))⟩)
  obtain ⟨w_ApiKey_DELETE_TOPICS, ev_ApiKey_DELETE_TOPICS⟩ := exa_v m47
  have E_ApiKey_DELETE_TOPICS := Exa.start ev_ApiKey_DELETE_TOPICS m47
  have S_ApiKey_DELETE_TOPICS := Sta.start ev_ApiKey_DELETE_TOPICS (Or.inr ⟨(hw _ (List.mem_of_getElem? (i := 2) rfl)), (hw _ (List.mem_of_getElem? (i := 34) rfl))⟩)
  obtain ⟨w_ApiKey_INIT_PRODUCER_ID, ev_ApiKey_INIT_PRODUCER_ID⟩ := exa_v m50
  have E_ApiKey_INIT_PRODUCER_ID := Exa.start ev_ApiKey_INIT_PRODUCER_ID m50
  have S_ApiKey_INIT_PRODUCER_ID := Sta.start ev_ApiKey_INIT_PRODUCER_ID (Or.inr ⟨(hw _ (List.mem_of_getElem? (i := 2) rfl)), (hw _ (List.mem_of_getElem? (i := 35) rfl))⟩)
  obtain ⟨w_ApiKey_DESCRIBE_CONFIGS, ev_ApiKey_DESCRIBE_CONFIGS⟩ := exa_v m53
  have E_ApiKey_DESCRIBE_CONFIGS := Exa.start ev_ApiKey_DESCRIBE_CONFIGS m53
  have S_ApiKey_DESCRIBE_CONFIGS := Sta.start ev_ApiKey_DESCRIBE_CONFIGS (Or.inr ⟨(hw _ (List.mem_of_getElem? (i := 2) rfl)), (hw _ (List.mem_of_getElem? (i := 36) rfl))⟩)
  obtain ⟨w_ApiKey_ALTER_CONFIGS, ev_ApiKey_ALTER_CONFIGS⟩ := exa_v m56
  have E_ApiKey_ALTER_CONFIGS := Exa.start ev_ApiKey_ALTER_CONFIGS m56
  have S_ApiKey_ALTER_CONFIGS := Sta.start ev_ApiKey_ALTER_CONFIGS (Or.inr ⟨(hw _ (List.mem_of_getElem? (i := 2) rfl)), (hw _ (List.mem_of_getElem? (i := 37) rfl))⟩)
  obtain ⟨w_ApiKey_CREATE_PARTITIONS, ev_ApiKey_CREATE_PARTITIONS⟩ := exa_v m59
  have E_ApiKey_CREATE_PARTITIONS := Exa.start ev_ApiKey_CREATE_PARTITIONS m59
  have S_ApiKey_CREATE_PARTITIONS := Sta.start ev_ApiKey_CREATE_PARTITIONS (Or.inr ⟨(hw _ (List.mem_of_getElem? (i := 2) rfl)), (hw _ (List.mem_of_getElem? (i := 38) rfl))⟩)
  obtain ⟨w_ApiKey_DELETE_GROUPS, ev_ApiKey_DELETE_GROUPS⟩ := exa_v m62
  have E_ApiKey_DELETE_GROUPS := Exa.start ev_ApiKey_DELETE_GROUPS m62
  have S_ApiKey_DELETE_GROUPS := Sta.start ev_ApiKey_DELETE_GROUPS (Or.inr ⟨(hw _ (List.mem_of_getElem? (i := 2) rfl)), (hw _ (List.mem_of_getElem? (i := 39) rfl))⟩)
  -- m0: (Jvm.Cond.arrayOf (Jvm.Term.static "com/example/nano_broker/nanobroker/protocol/ApiKey" "ALL" "[Lcom/example/nano_broker/nanobroker/protocol/ApiKey;") (Jvm.ClassFile.FieldType.object "com/example/nano_broker/nanobroker/protocol/ApiKey"))
  -- m1: (Jvm.Cond.eq (Jvm.Term.length (Jvm.Term.static "com/example/nano_broker/nanobroker/protocol/ApiKey" "ALL" "[Lcom/example/nano_broker/nanobroker/protocol/ApiKey;")) (Jvm.Term.int (21 : Int32)))
  -- m3: (Jvm.Cond.eq (Jvm.Term.elem (Jvm.Term.static "com/example/nano_broker/nanobroker/protocol/ApiKey" "ALL" "[Lcom/example/nano_broker/nanobroker/protocol/ApiKey;") (Jvm.Term.int (0 : Int32))) (Jvm.Term.static "com/example/nano_broker/nanobroker/protocol/ApiKey" "PRODUCE" "Lcom/example/nano_broker/nanob
  have F_ApiKey_PRODUCE_id := own_fldI ev_ApiKey_PRODUCE m4
  -- m6: (Jvm.Cond.eq (Jvm.Term.elem (Jvm.Term.static "com/example/nano_broker/nanobroker/protocol/ApiKey" "ALL" "[Lcom/example/nano_broker/nanobroker/protocol/ApiKey;") (Jvm.Term.int (1 : Int32))) (Jvm.Term.static "com/example/nano_broker/nanobroker/protocol/ApiKey" "FETCH" "Lcom/example/nano_broker/nanobro
  have F_ApiKey_FETCH_id := own_fldI ev_ApiKey_FETCH m7
  -- m9: (Jvm.Cond.eq (Jvm.Term.elem (Jvm.Term.static "com/example/nano_broker/nanobroker/protocol/ApiKey" "ALL" "[Lcom/example/nano_broker/nanobroker/protocol/ApiKey;") (Jvm.Term.int (2 : Int32))) (Jvm.Term.static "com/example/nano_broker/nanobroker/protocol/ApiKey" "LIST_OFFSETS" "Lcom/example/nano_broker/
  have F_ApiKey_LIST_OFFSETS_id := own_fldI ev_ApiKey_LIST_OFFSETS m10
  -- m12: (Jvm.Cond.eq (Jvm.Term.elem (Jvm.Term.static "com/example/nano_broker/nanobroker/protocol/ApiKey" "ALL" "[Lcom/example/nano_broker/nanobroker/protocol/ApiKey;") (Jvm.Term.int (3 : Int32))) (Jvm.Term.static "com/example/nano_broker/nanobroker/protocol/ApiKey" "METADATA" "Lcom/example/nano_broker/nano
  have F_ApiKey_METADATA_id := own_fldI ev_ApiKey_METADATA m13
  -- m15: (Jvm.Cond.eq (Jvm.Term.elem (Jvm.Term.static "com/example/nano_broker/nanobroker/protocol/ApiKey" "ALL" "[Lcom/example/nano_broker/nanobroker/protocol/ApiKey;") (Jvm.Term.int (4 : Int32))) (Jvm.Term.static "com/example/nano_broker/nanobroker/protocol/ApiKey" "OFFSET_COMMIT" "Lcom/example/nano_broker
  have F_ApiKey_OFFSET_COMMIT_id := own_fldI ev_ApiKey_OFFSET_COMMIT m16
  -- m18: (Jvm.Cond.eq (Jvm.Term.elem (Jvm.Term.static "com/example/nano_broker/nanobroker/protocol/ApiKey" "ALL" "[Lcom/example/nano_broker/nanobroker/protocol/ApiKey;") (Jvm.Term.int (5 : Int32))) (Jvm.Term.static "com/example/nano_broker/nanobroker/protocol/ApiKey" "OFFSET_FETCH" "Lcom/example/nano_broker/
  have F_ApiKey_OFFSET_FETCH_id := own_fldI ev_ApiKey_OFFSET_FETCH m19
  -- m21: (Jvm.Cond.eq (Jvm.Term.elem (Jvm.Term.static "com/example/nano_broker/nanobroker/protocol/ApiKey" "ALL" "[Lcom/example/nano_broker/nanobroker/protocol/ApiKey;") (Jvm.Term.int (6 : Int32))) (Jvm.Term.static "com/example/nano_broker/nanobroker/protocol/ApiKey" "FIND_COORDINATOR" "Lcom/example/nano_bro
  have F_ApiKey_FIND_COORDINATOR_id := own_fldI ev_ApiKey_FIND_COORDINATOR m22
  -- m24: (Jvm.Cond.eq (Jvm.Term.elem (Jvm.Term.static "com/example/nano_broker/nanobroker/protocol/ApiKey" "ALL" "[Lcom/example/nano_broker/nanobroker/protocol/ApiKey;") (Jvm.Term.int (7 : Int32))) (Jvm.Term.static "com/example/nano_broker/nanobroker/protocol/ApiKey" "JOIN_GROUP" "Lcom/example/nano_broker/na
  have F_ApiKey_JOIN_GROUP_id := own_fldI ev_ApiKey_JOIN_GROUP m25
  -- m27: (Jvm.Cond.eq (Jvm.Term.elem (Jvm.Term.static "com/example/nano_broker/nanobroker/protocol/ApiKey" "ALL" "[Lcom/example/nano_broker/nanobroker/protocol/ApiKey;") (Jvm.Term.int (8 : Int32))) (Jvm.Term.static "com/example/nano_broker/nanobroker/protocol/ApiKey" "HEARTBEAT" "Lcom/example/nano_broker/nan
  have F_ApiKey_HEARTBEAT_id := own_fldI ev_ApiKey_HEARTBEAT m28
  -- m30: (Jvm.Cond.eq (Jvm.Term.elem (Jvm.Term.static "com/example/nano_broker/nanobroker/protocol/ApiKey" "ALL" "[Lcom/example/nano_broker/nanobroker/protocol/ApiKey;") (Jvm.Term.int (9 : Int32))) (Jvm.Term.static "com/example/nano_broker/nanobroker/protocol/ApiKey" "LEAVE_GROUP" "Lcom/example/nano_broker/n
  have F_ApiKey_LEAVE_GROUP_id := own_fldI ev_ApiKey_LEAVE_GROUP m31
  -- m33: (Jvm.Cond.eq (Jvm.Term.elem (Jvm.Term.static "com/example/nano_broker/nanobroker/protocol/ApiKey" "ALL" "[Lcom/example/nano_broker/nanobroker/protocol/ApiKey;") (Jvm.Term.int (10 : Int32))) (Jvm.Term.static "com/example/nano_broker/nanobroker/protocol/ApiKey" "SYNC_GROUP" "Lcom/example/nano_broker/n
  have F_ApiKey_SYNC_GROUP_id := own_fldI ev_ApiKey_SYNC_GROUP m34
  -- m36: (Jvm.Cond.eq (Jvm.Term.elem (Jvm.Term.static "com/example/nano_broker/nanobroker/protocol/ApiKey" "ALL" "[Lcom/example/nano_broker/nanobroker/protocol/ApiKey;") (Jvm.Term.int (11 : Int32))) (Jvm.Term.static "com/example/nano_broker/nanobroker/protocol/ApiKey" "DESCRIBE_GROUPS" "Lcom/example/nano_bro
  have F_ApiKey_DESCRIBE_GROUPS_id := own_fldI ev_ApiKey_DESCRIBE_GROUPS m37
  -- m39: (Jvm.Cond.eq (Jvm.Term.elem (Jvm.Term.static "com/example/nano_broker/nanobroker/protocol/ApiKey" "ALL" "[Lcom/example/nano_broker/nanobroker/protocol/ApiKey;") (Jvm.Term.int (12 : Int32))) (Jvm.Term.static "com/example/nano_broker/nanobroker/protocol/ApiKey" "LIST_GROUPS" "Lcom/example/nano_broker/
  have F_ApiKey_LIST_GROUPS_id := own_fldI ev_ApiKey_LIST_GROUPS m40
  -- m42: (Jvm.Cond.eq (Jvm.Term.elem (Jvm.Term.static "com/example/nano_broker/nanobroker/protocol/ApiKey" "ALL" "[Lcom/example/nano_broker/nanobroker/protocol/ApiKey;") (Jvm.Term.int (13 : Int32))) (Jvm.Term.static "com/example/nano_broker/nanobroker/protocol/ApiKey" "API_VERSIONS" "Lcom/example/nano_broker
  have F_ApiKey_API_VERSIONS_id := own_fldI ev_ApiKey_API_VERSIONS m43
  -- m45: (Jvm.Cond.eq (Jvm.Term.elem (Jvm.Term.static "com/example/nano_broker/nanobroker/protocol/ApiKey" "ALL" "[Lcom/example/nano_broker/nanobroker/protocol/ApiKey;") (Jvm.Term.int (14 : Int32))) (Jvm.Term.static "com/example/nano_broker/nanobroker/protocol/ApiKey" "CREATE_TOPICS" "Lcom/example/nano_broke
  have F_ApiKey_CREATE_TOPICS_id := own_fldI ev_ApiKey_CREATE_TOPICS m46
  -- m48: (Jvm.Cond.eq (Jvm.Term.elem (Jvm.Term.static "com/example/nano_broker/nanobroker/protocol/ApiKey" "ALL" "[Lcom/example/nano_broker/nanobroker/protocol/ApiKey;") (Jvm.Term.int (15 : Int32))) (Jvm.Term.static "com/example/nano_broker/nanobroker/protocol/ApiKey" "DELETE_TOPICS" "Lcom/example/nano_broke
  have F_ApiKey_DELETE_TOPICS_id := own_fldI ev_ApiKey_DELETE_TOPICS m49
  -- m51: (Jvm.Cond.eq (Jvm.Term.elem (Jvm.Term.static "com/example/nano_broker/nanobroker/protocol/ApiKey" "ALL" "[Lcom/example/nano_broker/nanobroker/protocol/ApiKey;") (Jvm.Term.int (16 : Int32))) (Jvm.Term.static "com/example/nano_broker/nanobroker/protocol/ApiKey" "INIT_PRODUCER_ID" "Lcom/example/nano_br
  have F_ApiKey_INIT_PRODUCER_ID_id := own_fldI ev_ApiKey_INIT_PRODUCER_ID m52
  -- m54: (Jvm.Cond.eq (Jvm.Term.elem (Jvm.Term.static "com/example/nano_broker/nanobroker/protocol/ApiKey" "ALL" "[Lcom/example/nano_broker/nanobroker/protocol/ApiKey;") (Jvm.Term.int (17 : Int32))) (Jvm.Term.static "com/example/nano_broker/nanobroker/protocol/ApiKey" "DESCRIBE_CONFIGS" "Lcom/example/nano_br
  have F_ApiKey_DESCRIBE_CONFIGS_id := own_fldI ev_ApiKey_DESCRIBE_CONFIGS m55
  -- m57: (Jvm.Cond.eq (Jvm.Term.elem (Jvm.Term.static "com/example/nano_broker/nanobroker/protocol/ApiKey" "ALL" "[Lcom/example/nano_broker/nanobroker/protocol/ApiKey;") (Jvm.Term.int (18 : Int32))) (Jvm.Term.static "com/example/nano_broker/nanobroker/protocol/ApiKey" "ALTER_CONFIGS" "Lcom/example/nano_broke
  have F_ApiKey_ALTER_CONFIGS_id := own_fldI ev_ApiKey_ALTER_CONFIGS m58
  -- m60: (Jvm.Cond.eq (Jvm.Term.elem (Jvm.Term.static "com/example/nano_broker/nanobroker/protocol/ApiKey" "ALL" "[Lcom/example/nano_broker/nanobroker/protocol/ApiKey;") (Jvm.Term.int (19 : Int32))) (Jvm.Term.static "com/example/nano_broker/nanobroker/protocol/ApiKey" "CREATE_PARTITIONS" "Lcom/example/nano_b
  have F_ApiKey_CREATE_PARTITIONS_id := own_fldI ev_ApiKey_CREATE_PARTITIONS m61
  -- m63: (Jvm.Cond.eq (Jvm.Term.elem (Jvm.Term.static "com/example/nano_broker/nanobroker/protocol/ApiKey" "ALL" "[Lcom/example/nano_broker/nanobroker/protocol/ApiKey;") (Jvm.Term.int (20 : Int32))) (Jvm.Term.static "com/example/nano_broker/nanobroker/protocol/ApiKey" "DELETE_GROUPS" "Lcom/example/nano_broke
  have F_ApiKey_DELETE_GROUPS_id := own_fldI ev_ApiKey_DELETE_GROUPS m64
  obtain ⟨aA, ev_A⟩ := arr_v m0
  obtain ⟨cl, Ar⟩ := Arr.start ev_A m0
  have S_A := Sta.start ev_A (Or.inr ⟨(hw _ (List.mem_of_getElem? (i := 2) rfl)), (hw _ (List.mem_of_getElem? (i := 5) rfl))⟩)
  obtain ⟨W, hW⟩ : ∃ W : Nat → Addr, W = (fun n => [w_ApiKey_PRODUCE, w_ApiKey_FETCH, w_ApiKey_LIST_OFFSETS, w_ApiKey_METADATA, w_ApiKey_OFFSET_COMMIT, w_ApiKey_OFFSET_FETCH, w_ApiKey_FIND_COORDINATOR, w_ApiKey_JOIN_GROUP, w_ApiKey_HEARTBEAT, w_ApiKey_LEAVE_GROUP, w_ApiKey_SYNC_GROUP, w_ApiKey_DESCRIBE_GROUPS, w_ApiKey_LIST_GROUPS, w_ApiKey_API_VERSIONS, w_ApiKey_CREATE_TOPICS, w_ApiKey_DELETE_TOPICS, w_ApiKey_INIT_PRODUCER_ID, w_ApiKey_DESCRIBE_CONFIGS, w_ApiKey_ALTER_CONFIGS, w_ApiKey_CREATE_PARTITIONS, w_ApiKey_DELETE_GROUPS].getD n 0) := ⟨_, rfl⟩
  have T_PRODUCE : Sta s s.heap "com/example/nano_broker/nanobroker/protocol/ApiKey" "PRODUCE" "Lcom/example/nano_broker/nanobroker/protocol/ApiKey;" (.ref (W 0)) := by rw [hW]; exact S_ApiKey_PRODUCE
  have T_FETCH : Sta s s.heap "com/example/nano_broker/nanobroker/protocol/ApiKey" "FETCH" "Lcom/example/nano_broker/nanobroker/protocol/ApiKey;" (.ref (W 1)) := by rw [hW]; exact S_ApiKey_FETCH
  have T_LIST_OFFSETS : Sta s s.heap "com/example/nano_broker/nanobroker/protocol/ApiKey" "LIST_OFFSETS" "Lcom/example/nano_broker/nanobroker/protocol/ApiKey;" (.ref (W 2)) := by rw [hW]; exact S_ApiKey_LIST_OFFSETS
  have T_METADATA : Sta s s.heap "com/example/nano_broker/nanobroker/protocol/ApiKey" "METADATA" "Lcom/example/nano_broker/nanobroker/protocol/ApiKey;" (.ref (W 3)) := by rw [hW]; exact S_ApiKey_METADATA
  have T_OFFSET_COMMIT : Sta s s.heap "com/example/nano_broker/nanobroker/protocol/ApiKey" "OFFSET_COMMIT" "Lcom/example/nano_broker/nanobroker/protocol/ApiKey;" (.ref (W 4)) := by rw [hW]; exact S_ApiKey_OFFSET_COMMIT
  have T_OFFSET_FETCH : Sta s s.heap "com/example/nano_broker/nanobroker/protocol/ApiKey" "OFFSET_FETCH" "Lcom/example/nano_broker/nanobroker/protocol/ApiKey;" (.ref (W 5)) := by rw [hW]; exact S_ApiKey_OFFSET_FETCH
  have T_FIND_COORDINATOR : Sta s s.heap "com/example/nano_broker/nanobroker/protocol/ApiKey" "FIND_COORDINATOR" "Lcom/example/nano_broker/nanobroker/protocol/ApiKey;" (.ref (W 6)) := by rw [hW]; exact S_ApiKey_FIND_COORDINATOR
  have T_JOIN_GROUP : Sta s s.heap "com/example/nano_broker/nanobroker/protocol/ApiKey" "JOIN_GROUP" "Lcom/example/nano_broker/nanobroker/protocol/ApiKey;" (.ref (W 7)) := by rw [hW]; exact S_ApiKey_JOIN_GROUP
  have T_HEARTBEAT : Sta s s.heap "com/example/nano_broker/nanobroker/protocol/ApiKey" "HEARTBEAT" "Lcom/example/nano_broker/nanobroker/protocol/ApiKey;" (.ref (W 8)) := by rw [hW]; exact S_ApiKey_HEARTBEAT
  have T_LEAVE_GROUP : Sta s s.heap "com/example/nano_broker/nanobroker/protocol/ApiKey" "LEAVE_GROUP" "Lcom/example/nano_broker/nanobroker/protocol/ApiKey;" (.ref (W 9)) := by rw [hW]; exact S_ApiKey_LEAVE_GROUP
  have T_SYNC_GROUP : Sta s s.heap "com/example/nano_broker/nanobroker/protocol/ApiKey" "SYNC_GROUP" "Lcom/example/nano_broker/nanobroker/protocol/ApiKey;" (.ref (W 10)) := by rw [hW]; exact S_ApiKey_SYNC_GROUP
  have T_DESCRIBE_GROUPS : Sta s s.heap "com/example/nano_broker/nanobroker/protocol/ApiKey" "DESCRIBE_GROUPS" "Lcom/example/nano_broker/nanobroker/protocol/ApiKey;" (.ref (W 11)) := by rw [hW]; exact S_ApiKey_DESCRIBE_GROUPS
  have T_LIST_GROUPS : Sta s s.heap "com/example/nano_broker/nanobroker/protocol/ApiKey" "LIST_GROUPS" "Lcom/example/nano_broker/nanobroker/protocol/ApiKey;" (.ref (W 12)) := by rw [hW]; exact S_ApiKey_LIST_GROUPS
  have T_API_VERSIONS : Sta s s.heap "com/example/nano_broker/nanobroker/protocol/ApiKey" "API_VERSIONS" "Lcom/example/nano_broker/nanobroker/protocol/ApiKey;" (.ref (W 13)) := by rw [hW]; exact S_ApiKey_API_VERSIONS
  have T_CREATE_TOPICS : Sta s s.heap "com/example/nano_broker/nanobroker/protocol/ApiKey" "CREATE_TOPICS" "Lcom/example/nano_broker/nanobroker/protocol/ApiKey;" (.ref (W 14)) := by rw [hW]; exact S_ApiKey_CREATE_TOPICS
  have T_DELETE_TOPICS : Sta s s.heap "com/example/nano_broker/nanobroker/protocol/ApiKey" "DELETE_TOPICS" "Lcom/example/nano_broker/nanobroker/protocol/ApiKey;" (.ref (W 15)) := by rw [hW]; exact S_ApiKey_DELETE_TOPICS
  have T_INIT_PRODUCER_ID : Sta s s.heap "com/example/nano_broker/nanobroker/protocol/ApiKey" "INIT_PRODUCER_ID" "Lcom/example/nano_broker/nanobroker/protocol/ApiKey;" (.ref (W 16)) := by rw [hW]; exact S_ApiKey_INIT_PRODUCER_ID
  have T_DESCRIBE_CONFIGS : Sta s s.heap "com/example/nano_broker/nanobroker/protocol/ApiKey" "DESCRIBE_CONFIGS" "Lcom/example/nano_broker/nanobroker/protocol/ApiKey;" (.ref (W 17)) := by rw [hW]; exact S_ApiKey_DESCRIBE_CONFIGS
  have T_ALTER_CONFIGS : Sta s s.heap "com/example/nano_broker/nanobroker/protocol/ApiKey" "ALTER_CONFIGS" "Lcom/example/nano_broker/nanobroker/protocol/ApiKey;" (.ref (W 18)) := by rw [hW]; exact S_ApiKey_ALTER_CONFIGS
  have T_CREATE_PARTITIONS : Sta s s.heap "com/example/nano_broker/nanobroker/protocol/ApiKey" "CREATE_PARTITIONS" "Lcom/example/nano_broker/nanobroker/protocol/ApiKey;" (.ref (W 19)) := by rw [hW]; exact S_ApiKey_CREATE_PARTITIONS
  have T_DELETE_GROUPS : Sta s s.heap "com/example/nano_broker/nanobroker/protocol/ApiKey" "DELETE_GROUPS" "Lcom/example/nano_broker/nanobroker/protocol/ApiKey;" (.ref (W 20)) := by rw [hW]; exact S_ApiKey_DELETE_GROUPS
  have hE : ∀ i, i < 21 → Exa s s.heap (W i) "com/example/nano_broker/nanobroker/protocol/ApiKey" := by rw [hW]; exact (fun i hi => match i, hi with | 0, _ => E_ApiKey_PRODUCE | 1, _ => E_ApiKey_FETCH | 2, _ => E_ApiKey_LIST_OFFSETS | 3, _ => E_ApiKey_METADATA | 4, _ => E_ApiKey_OFFSET_COMMIT | 5, _ => E_ApiKey_OFFSET_FETCH | 6, _ => E_ApiKey_FIND_COORDINATOR | 7, _ => E_ApiKey_JOIN_GROUP | 8, _ => E_ApiKey_HEARTBEAT | 9, _ => E_ApiKey_LEAVE_GROUP | 10, _ => E_ApiKey_SYNC_GROUP | 11, _ => E_ApiKey_DESCRIBE_GROUPS | 12, _ => E_ApiKey_LIST_GROUPS | 13, _ => E_ApiKey_API_VERSIONS | 14, _ => E_ApiKey_CREATE_TOPICS | 15, _ => E_ApiKey_DELETE_TOPICS | 16, _ => E_ApiKey_INIT_PRODUCER_ID | 17, _ => E_ApiKey_DESCRIBE_CONFIGS | 18, _ => E_ApiKey_ALTER_CONFIGS | 19, _ => E_ApiKey_CREATE_PARTITIONS | 20, _ => E_ApiKey_DELETE_GROUPS | n + 21, h => absurd h (by omega))
  have hF : ∀ i, i < 21 → Fld s s.heap (W i) "com/example/nano_broker/nanobroker/protocol/ApiKey" "id" "S" (.int (own_id i)) := by rw [hW]; exact (fun i hi => match i, hi with | 0, _ => F_ApiKey_PRODUCE_id | 1, _ => F_ApiKey_FETCH_id | 2, _ => F_ApiKey_LIST_OFFSETS_id | 3, _ => F_ApiKey_METADATA_id | 4, _ => F_ApiKey_OFFSET_COMMIT_id | 5, _ => F_ApiKey_OFFSET_FETCH_id | 6, _ => F_ApiKey_FIND_COORDINATOR_id | 7, _ => F_ApiKey_JOIN_GROUP_id | 8, _ => F_ApiKey_HEARTBEAT_id | 9, _ => F_ApiKey_LEAVE_GROUP_id | 10, _ => F_ApiKey_SYNC_GROUP_id | 11, _ => F_ApiKey_DESCRIBE_GROUPS_id | 12, _ => F_ApiKey_LIST_GROUPS_id | 13, _ => F_ApiKey_API_VERSIONS_id | 14, _ => F_ApiKey_CREATE_TOPICS_id | 15, _ => F_ApiKey_DELETE_TOPICS_id | 16, _ => F_ApiKey_INIT_PRODUCER_ID_id | 17, _ => F_ApiKey_DESCRIBE_CONFIGS_id | 18, _ => F_ApiKey_ALTER_CONFIGS_id | 19, _ => F_ApiKey_CREATE_PARTITIONS_id | 20, _ => F_ApiKey_DELETE_GROUPS_id | n + 21, h => absurd h (by omega))
  have hl := own_len ev_A Ar m1
  have V_A : Arv s s.heap aA cl.cls (.object "com/example/nano_broker/nanobroker/protocol/ApiKey") (21 : Int32) [(.ref (W 0)), (.ref (W 1)), (.ref (W 2)), (.ref (W 3)), (.ref (W 4)), (.ref (W 5)), (.ref (W 6)), (.ref (W 7)), (.ref (W 8)), (.ref (W 9)), (.ref (W 10)), (.ref (W 11)), (.ref (W 12)), (.ref (W 13)), (.ref (W 14)), (.ref (W 15)), (.ref (W 16)), (.ref (W 17)), (.ref (W 18)), (.ref (W 19)), (.ref (W 20))] .null := by rw [hW]; exact Arv.start hfit Ar hl.1 hl.2 (by decide) rfl ⟨own_elem ev_A Ar ev_ApiKey_PRODUCE m3 rfl, own_elem ev_A Ar ev_ApiKey_FETCH m6 rfl, own_elem ev_A Ar ev_ApiKey_LIST_OFFSETS m9 rfl, own_elem ev_A Ar ev_ApiKey_METADATA m12 rfl, own_elem ev_A Ar ev_ApiKey_OFFSET_COMMIT m15 rfl, own_elem ev_A Ar ev_ApiKey_OFFSET_FETCH m18 rfl, own_elem ev_A Ar ev_ApiKey_FIND_COORDINATOR m21 rfl, own_elem ev_A Ar ev_ApiKey_JOIN_GROUP m24 rfl, own_elem ev_A Ar ev_ApiKey_HEARTBEAT m27 rfl, own_elem ev_A Ar ev_ApiKey_LEAVE_GROUP m30 rfl, own_elem ev_A Ar ev_ApiKey_SYNC_GROUP m33 rfl, own_elem ev_A Ar ev_ApiKey_DESCRIBE_GROUPS m36 rfl, own_elem ev_A Ar ev_ApiKey_LIST_GROUPS m39 rfl, own_elem ev_A Ar ev_ApiKey_API_VERSIONS m42 rfl, own_elem ev_A Ar ev_ApiKey_CREATE_TOPICS m45 rfl, own_elem ev_A Ar ev_ApiKey_DELETE_TOPICS m48 rfl, own_elem ev_A Ar ev_ApiKey_INIT_PRODUCER_ID m51 rfl, own_elem ev_A Ar ev_ApiKey_DESCRIBE_CONFIGS m54 rfl, own_elem ev_A Ar ev_ApiKey_ALTER_CONFIGS m57 rfl, own_elem ev_A Ar ev_ApiKey_CREATE_PARTITIONS m60 rfl, own_elem ev_A Ar ev_ApiKey_DELETE_GROUPS m63 rfl, trivial⟩
  obtain ⟨n, o, h1, h2, h3, _, L, rfl, ⟨rfl, N, -⟩, hq⟩ := rm0 l s _ hw tables_1 i0 i1 _ W aA cl.cls s.heap s.heap.size (Nat.le_refl _) S_A V_A hF T_PRODUCE T_FETCH T_LIST_OFFSETS T_METADATA T_OFFSET_COMMIT T_OFFSET_FETCH T_FIND_COORDINATOR T_JOIN_GROUP T_HEARTBEAT T_LEAVE_GROUP T_SYNC_GROUP T_DESCRIBE_GROUPS T_LIST_GROUPS T_API_VERSIONS T_CREATE_TOPICS T_DELETE_TOPICS T_INIT_PRODUCER_ID T_DESCRIBE_CONFIGS T_ALTER_CONFIGS T_CREATE_PARTITIONS T_DELETE_GROUPS rfl hE (own_short i0 i1) p e ha hcas hclk s m _ below hf ((Spec.applies_iff_loose hf).mp happ).1 ⟨rfl, State.Warmed39.refl s, rfl⟩ trivial
  refine ⟨n, _, h1, h2, h3, hpost _ _ _ _ _ _ ⟨Cond.after_iff.mpr rfl, Cond.after_iff.mpr (eq_i res_at (Term.int_eval (1)) rfl), trivial⟩ ⟨hq.1, hq.2.1, (hq.2.2.sift fun y hy => Or.inr (N y hy)).mono (by decide) (by decide)⟩⟩
theorem main_1_1 : Claimed_1_1 := comes_1 fun _ _ _ _ _ _ h hF => ⟨h.1, hF⟩
theorem main_1_2 : Claimed_1_2 := comes_1 fun _ _ _ _ _ _ h hF => ⟨h.2.1, hF⟩
end Jvm.Pilot.@@N@@
namespace Jvm.Pilot.@@N@@
open Jvm Jvm.ClassFile Sem Op Lib Jvm.Free Jvm.Stand Jvm.Pilot.@@N@@.Jvm.D
/-! MADE BY PROGRAM (witnessworld.py) out of the Statement's table words and the real class files: 13 classes; the members and pool entries that the words name. The judged class is class 1, her method 1. -/
namespace start1
open Jvm.ClassFile
def u (s : String) : CpInfo := .utf8 (stringToUtf16 s)
/-- a pool by its gaps: so many unusable entries, then the entry; so many at the end -/
def gap : Nat → List CpInfo → List CpInfo
  | 0, r => r
  | n + 1, r => .unusable :: gap n r
def poolList (es : List (Nat × CpInfo)) (last : Nat) : List CpInfo := es.foldr (fun e r => gap e.1 (e.2 :: r)) (gap last [])
def pool (es : List (Nat × CpInfo)) (last : Nat) : Array CpInfo := ⟨poolList es last⟩
def fileOf (pool : Array CpInfo) (this : Nat) (attrs : Array Attribute := #[]) (ms : Array MethodInfo := #[]) (fl : Nat := 33) (sup : Nat := 0) (ifs : Array Nat := #[]) (fds : Array FieldInfo := #[]) : ClassFile where
  minorVersion := 0
  majorVersion := 65
  constantPool := pool
  accessFlags := fl
  thisClass := this
  superClass := sup
  interfaces := ifs
  fields := fds
  methods := ms
  attributes := attrs
def plain (name : String) (sup : Option ClassId) : Class where
  name := name
  kind := .ordinary
  loader := none
  accessFlags := 33
  super := sup
  interfaces := #[]
  cf := none
  fields := #[]
  methods := #[]
  instanceTypes := #[]
  staticTypes := #[]
  resolved := #[]
  callSites := []
  init := .initialized
  statics := none
  mirror := none

def pool0 : Array CpInfo := pool [(5, u "<init>"), (0, u "()V"), (1, .class_ 10), (1, u "java/lang/Object")] 113

def k0m0 : Method := { name := "<init>", desc := "()V", sig := { parameters := [], returnType := none }, accessFlags := 1, code := none }
/-- java/lang/Object -/
def k0 : Class := { plain "java/lang/Object" none with
  accessFlags := 33
  interfaces := #[]
  cf := some (fileOf pool0 8 #[] #[{ accessFlags := 1, nameIndex := 5, descriptorIndex := 6, attributes := #[] }] 33 0 #[] #[])
  fields := #[]
  methods := #[k0m0]
  instanceTypes := #[]
  staticTypes := #[]
  resolved := Array.replicate 124 none
  statics := none }

def pool1 : Array CpInfo := pool [(2, .class_ 4), (1, u "java/lang/Object"), (0, u "<init>"), (0, u "()V"), (0, .methodref 8 9), (0, .class_ 10), (0, .nameAndType 11 12), (0, u "com/example/nano_broker/nanobroker/protocol/ApiKey"), (0, u "forId"), (0, u "(S)Lcom/example/nano_broker/nanobroker/protocol/ApiKey;"), (0, .methodref 14 15), (0, .class_ 16), (0, .nameAndType 17 18), (0, u "com/example/nano_broker/nanobroker/protocol/ApiKeyForIdPinLaw"), (0, u "expected"), (0, u "(I)Lcom/example/nano_broker/nanobroker/protocol/ApiKey;"), (0, .methodref 8 20), (0, .nameAndType 21 22), (0, u "id"), (0, u "()S"), (0, .fieldref 8 24), (0, .nameAndType 25 26), (0, u "PRODUCE"), (0, u "Lcom/example/nano_broker/nanobroker/protocol/ApiKey;"), (0, .fieldref 8 28), (0, .nameAndType 29 26), (0, u "FETCH"), (0, .fieldref 8 31), (0, .nameAndType 32 26), (0, u "LIST_OFFSETS"), (0, .fieldref 8 34), (0, .nameAndType 35 26), (0, u "METADATA"), (0, .fieldref 8 37), (0, .nameAndType 38 26), (0, u "OFFSET_COMMIT"), (0, .fieldref 8 40), (0, .nameAndType 41 26), (0, u "OFFSET_FETCH"), (0, .fieldref 8 43), (0, .nameAndType 44 26), (0, u "FIND_COORDINATOR"), (0, .fieldref 8 46), (0, .nameAndType 47 26), (0, u "JOIN_GROUP"), (0, .fieldref 8 49), (0, .nameAndType 50 26), (0, u "HEARTBEAT"), (0, .fieldref 8 52), (0, .nameAndType 53 26), (0, u "LEAVE_GROUP"), (0, .fieldref 8 55), (0, .nameAndType 56 26), (0, u "SYNC_GROUP"), (0, .fieldref 8 58), (0, .nameAndType 59 26), (0, u "DESCRIBE_GROUPS"), (0, .fieldref 8 61), (0, .nameAndType 62 26), (0, u "LIST_GROUPS"), (0, .fieldref 8 64), (0, .nameAndType 65 26), (0, u "API_VERSIONS"), (0, .fieldref 8 67), (0, .nameAndType 68 26), (0, u "CREATE_TOPICS"), (0, .fieldref 8 70), (0, .nameAndType 71 26), (0, u "DELETE_TOPICS"), (0, .fieldref 8 73), (0, .nameAndType 74 26), (0, u "INIT_PRODUCER_ID"), (0, .fieldref 8 76), (0, .nameAndType 77 26), (0, u "DESCRIBE_CONFIGS"), (0, .fieldref 8 79), (0, .nameAndType 80 26), (0, u "ALTER_CONFIGS"), (0, .fieldref 8 82), (0, .nameAndType 83 26), (0, u "CREATE_PARTITIONS"), (0, .fieldref 8 85), (0, .nameAndType 86 26), (0, u "DELETE_GROUPS"), (2, u "law"), (0, u "(II)Z")] 3

def k1m0 : Method := { name := "<init>", desc := "()V", sig := { parameters := [], returnType := none }, accessFlags := 1, code := none }
def k1c1 : Code := { maxStack := 2, maxLocals := 5, code := code, exceptionTable := #[], attributes := #[] }
def k1m1 : Method := { name := "law", desc := "(II)Z", sig := { parameters := [.int, .int], returnType := some .boolean }, accessFlags := 9, code := some k1c1 }
def k1c2 : Code := { maxStack := 1, maxLocals := 1, code := method_3_code, exceptionTable := #[], attributes := #[] }
def k1m2 : Method := { name := "expected", desc := "(I)Lcom/example/nano_broker/nanobroker/protocol/ApiKey;", sig := { parameters := [.int], returnType := some (.object "com/example/nano_broker/nanobroker/protocol/ApiKey") }, accessFlags := 10, code := some k1c2 }
/-- com/example/nano_broker/nanobroker/protocol/ApiKeyForIdPinLaw -/
def k1 : Class := { plain "com/example/nano_broker/nanobroker/protocol/ApiKeyForIdPinLaw" (some 0) with
  accessFlags := 49
  interfaces := #[]
  cf := some (fileOf pool1 14 #[] #[{ accessFlags := 1, nameIndex := 5, descriptorIndex := 6, attributes := #[] }, { accessFlags := 9, nameIndex := 89, descriptorIndex := 90, attributes := #[] }, { accessFlags := 10, nameIndex := 17, descriptorIndex := 18, attributes := #[] }] 49 2 #[] #[])
  fields := #[]
  methods := #[k1m0, k1m1, k1m2]
  instanceTypes := #[]
  staticTypes := #[]
  resolved := Array.replicate 94 none
  statics := none }

def pool2 : Array CpInfo := pool [(1, .class_ 2), (0, u "java/lang/constant/Constable"), (0, .class_ 4), (0, u "java/lang/Object")] 6

/-- java/lang/constant/Constable -/
def k2 : Class := { plain "java/lang/constant/Constable" (some 0) with
  accessFlags := 1537
  interfaces := #[]
  cf := some (fileOf pool2 1 #[] #[] 1537 3 #[] #[])
  fields := #[]
  methods := #[]
  instanceTypes := #[]
  staticTypes := #[]
  resolved := Array.replicate 11 none
  statics := none }

def pool3 : Array CpInfo := pool [(1, .class_ 2), (0, u "java/lang/Comparable"), (0, .class_ 4), (0, u "java/lang/Object")] 7

/-- java/lang/Comparable -/
def k3 : Class := { plain "java/lang/Comparable" (some 0) with
  accessFlags := 1537
  interfaces := #[]
  cf := some (fileOf pool3 1 #[] #[] 1537 3 #[] #[])
  fields := #[]
  methods := #[]
  instanceTypes := #[]
  staticTypes := #[]
  resolved := Array.replicate 12 none
  statics := none }

def pool4 : Array CpInfo := pool [(1, .class_ 2), (0, u "java/io/Serializable"), (0, .class_ 4), (0, u "java/lang/Object")] 2

/-- java/io/Serializable -/
def k4 : Class := { plain "java/io/Serializable" (some 0) with
  accessFlags := 1537
  interfaces := #[]
  cf := some (fileOf pool4 1 #[] #[] 1537 3 #[] #[])
  fields := #[]
  methods := #[]
  instanceTypes := #[]
  staticTypes := #[]
  resolved := Array.replicate 7 none
  statics := none }

def pool5 : Array CpInfo := pool [(2, .class_ 4), (1, u "java/lang/Enum"), (0, u "name"), (0, u "Ljava/lang/String;"), (2, u "ordinal"), (0, u "I"), (1, .class_ 14), (1, u "java/lang/Object"), (4, u "hash"), (86, .class_ 108), (1, u "java/lang/Enum$EnumDesc"), (2, .class_ 112), (0, u "java/lang/constant/Constable"), (0, .class_ 114), (0, u "java/lang/Comparable"), (0, .class_ 116), (0, u "java/io/Serializable")] 87

/-- java/lang/Enum -/
def k5 : Class := { plain "java/lang/Enum" (some 0) with
  accessFlags := 1057
  interfaces := #[2, 3, 4]
  cf := some (fileOf pool5 2 #[.nestMembers #[106]] #[] 1057 12 #[111, 113, 115] #[{ accessFlags := 18, nameIndex := 5, descriptorIndex := 6, attributes := #[] }, { accessFlags := 18, nameIndex := 9, descriptorIndex := 10, attributes := #[] }, { accessFlags := 2, nameIndex := 19, descriptorIndex := 10, attributes := #[] }])
  fields := #[{ name := "name", type := (.object "java/lang/String"), accessFlags := 18, slot := 0, constantValue := 0 }, { name := "ordinal", type := .int, accessFlags := 18, slot := 1, constantValue := 0 }, { name := "hash", type := .int, accessFlags := 2, slot := 2, constantValue := 0 }]
  methods := #[]
  instanceTypes := #[(.object "java/lang/String"), .int, .int]
  staticTypes := #[]
  resolved := Array.replicate 204 none
  statics := none }

def pool6 : Array CpInfo := pool [(1, .class_ 2), (0, u "com/example/nano_broker/nanobroker/protocol/ApiKey"), (2, u "PRODUCE"), (0, u "Lcom/example/nano_broker/nanobroker/protocol/ApiKey;"), (2, u "FETCH"), (2, u "LIST_OFFSETS"), (2, u "METADATA"), (2, u "OFFSET_COMMIT"), (2, u "OFFSET_FETCH"), (2, u "FIND_COORDINATOR"), (2, u "JOIN_GROUP"), (2, u "HEARTBEAT"), (2, u "LEAVE_GROUP"), (2, u "SYNC_GROUP"), (2, u "DESCRIBE_GROUPS"), (2, u "LIST_GROUPS"), (2, u "API_VERSIONS"), (2, u "CREATE_TOPICS"), (2, u "DELETE_TOPICS"), (2, u "INIT_PRODUCER_ID"), (2, u "DESCRIBE_CONFIGS"), (2, u "ALTER_CONFIGS"), (2, u "CREATE_PARTITIONS"), (2, u "DELETE_GROUPS"), (2, u "$VALUES"), (0, u "[Lcom/example/nano_broker/nanobroker/protocol/ApiKey;"), (6, .class_ 79), (1, u "java/lang/Enum"), (6, .fieldref 1 87), (0, .nameAndType 88 89), (0, u "id"), (0, u "S"), (2, u "minVersion"), (2, u "maxVersion"), (2, u "firstFlexibleVersion"), (0, .fieldref 1 100), (0, .nameAndType 101 70), (0, u "ALL"), (37, u "forId"), (0, u "(S)Lcom/example/nano_broker/nanobroker/protocol/ApiKey;"), (1, u "()S")] 8

def k6c0 : Code := { maxStack := 2, maxLocals := 5, code := prog_27_method_4_code, exceptionTable := #[], attributes := #[] }
def k6m0 : Method := { name := "forId", desc := "(S)Lcom/example/nano_broker/nanobroker/protocol/ApiKey;", sig := { parameters := [.short], returnType := some (.object "com/example/nano_broker/nanobroker/protocol/ApiKey") }, accessFlags := 9, code := some k6c0 }
def k6c1 : Code := { maxStack := 1, maxLocals := 1, code := prog_27_method_5_code, exceptionTable := #[], attributes := #[] }
def k6m1 : Method := { name := "id", desc := "()S", sig := { parameters := [], returnType := some .short }, accessFlags := 1, code := some k6c1 }
/-- com/example/nano_broker/nanobroker/protocol/ApiKey -/
def k6 : Class := { plain "com/example/nano_broker/nanobroker/protocol/ApiKey" (some 5) with
  accessFlags := 16433
  interfaces := #[]
  cf := some (fileOf pool6 1 #[] #[{ accessFlags := 9, nameIndex := 139, descriptorIndex := 140, attributes := #[] }, { accessFlags := 1, nameIndex := 88, descriptorIndex := 142, attributes := #[] }] 16433 77 #[] #[{ accessFlags := 16409, nameIndex := 5, descriptorIndex := 6, attributes := #[] }, { accessFlags := 16409, nameIndex := 9, descriptorIndex := 6, attributes := #[] }, { accessFlags := 16409, nameIndex := 12, descriptorIndex := 6, attributes := #[] }, { accessFlags := 16409, nameIndex := 15, descriptorIndex := 6, attributes := #[] }, { accessFlags := 16409, nameIndex := 18, descriptorIndex := 6, attributes := #[] }, { accessFlags := 16409, nameIndex := 21, descriptorIndex := 6, attributes := #[] }, { accessFlags := 16409, nameIndex := 24, descriptorIndex := 6, attributes := #[] }, { accessFlags := 16409, nameIndex := 27, descriptorIndex := 6, attributes := #[] }, { accessFlags := 16409, nameIndex := 30, descriptorIndex := 6, attributes := #[] }, { accessFlags := 16409, nameIndex := 33, descriptorIndex := 6, attributes := #[] }, { accessFlags := 16409, nameIndex := 36, descriptorIndex := 6, attributes := #[] }, { accessFlags := 16409, nameIndex := 39, descriptorIndex := 6, attributes := #[] }, { accessFlags := 16409, nameIndex := 42, descriptorIndex := 6, attributes := #[] }, { accessFlags := 16409, nameIndex := 45, descriptorIndex := 6, attributes := #[] }, { accessFlags := 16409, nameIndex := 48, descriptorIndex := 6, attributes := #[] }, { accessFlags := 16409, nameIndex := 51, descriptorIndex := 6, attributes := #[] }, { accessFlags := 16409, nameIndex := 54, descriptorIndex := 6, attributes := #[] }, { accessFlags := 16409, nameIndex := 57, descriptorIndex := 6, attributes := #[] }, { accessFlags := 16409, nameIndex := 60, descriptorIndex := 6, attributes := #[] }, { accessFlags := 16409, nameIndex := 63, descriptorIndex := 6, attributes := #[] }, { accessFlags := 16409, nameIndex := 66, descriptorIndex := 6, attributes := #[] }, { accessFlags := 26, nameIndex := 101, descriptorIndex := 70, attributes := #[] }, { accessFlags := 18, nameIndex := 88, descriptorIndex := 89, attributes := #[] }, { accessFlags := 18, nameIndex := 92, descriptorIndex := 89, attributes := #[] }, { accessFlags := 18, nameIndex := 95, descriptorIndex := 89, attributes := #[] }, { accessFlags := 18, nameIndex := 98, descriptorIndex := 89, attributes := #[] }, { accessFlags := 4122, nameIndex := 69, descriptorIndex := 70, attributes := #[] }])
  fields := #[{ name := "PRODUCE", type := (.object "com/example/nano_broker/nanobroker/protocol/ApiKey"), accessFlags := 16409, slot := 0, constantValue := 0 }, { name := "FETCH", type := (.object "com/example/nano_broker/nanobroker/protocol/ApiKey"), accessFlags := 16409, slot := 1, constantValue := 0 }, { name := "LIST_OFFSETS", type := (.object "com/example/nano_broker/nanobroker/protocol/ApiKey"), accessFlags := 16409, slot := 2, constantValue := 0 }, { name := "METADATA", type := (.object "com/example/nano_broker/nanobroker/protocol/ApiKey"), accessFlags := 16409, slot := 3, constantValue := 0 }, { name := "OFFSET_COMMIT", type := (.object "com/example/nano_broker/nanobroker/protocol/ApiKey"), accessFlags := 16409, slot := 4, constantValue := 0 }, { name := "OFFSET_FETCH", type := (.object "com/example/nano_broker/nanobroker/protocol/ApiKey"), accessFlags := 16409, slot := 5, constantValue := 0 }, { name := "FIND_COORDINATOR", type := (.object "com/example/nano_broker/nanobroker/protocol/ApiKey"), accessFlags := 16409, slot := 6, constantValue := 0 }, { name := "JOIN_GROUP", type := (.object "com/example/nano_broker/nanobroker/protocol/ApiKey"), accessFlags := 16409, slot := 7, constantValue := 0 }, { name := "HEARTBEAT", type := (.object "com/example/nano_broker/nanobroker/protocol/ApiKey"), accessFlags := 16409, slot := 8, constantValue := 0 }, { name := "LEAVE_GROUP", type := (.object "com/example/nano_broker/nanobroker/protocol/ApiKey"), accessFlags := 16409, slot := 9, constantValue := 0 }, { name := "SYNC_GROUP", type := (.object "com/example/nano_broker/nanobroker/protocol/ApiKey"), accessFlags := 16409, slot := 10, constantValue := 0 }, { name := "DESCRIBE_GROUPS", type := (.object "com/example/nano_broker/nanobroker/protocol/ApiKey"), accessFlags := 16409, slot := 11, constantValue := 0 }, { name := "LIST_GROUPS", type := (.object "com/example/nano_broker/nanobroker/protocol/ApiKey"), accessFlags := 16409, slot := 12, constantValue := 0 }, { name := "API_VERSIONS", type := (.object "com/example/nano_broker/nanobroker/protocol/ApiKey"), accessFlags := 16409, slot := 13, constantValue := 0 }, { name := "CREATE_TOPICS", type := (.object "com/example/nano_broker/nanobroker/protocol/ApiKey"), accessFlags := 16409, slot := 14, constantValue := 0 }, { name := "DELETE_TOPICS", type := (.object "com/example/nano_broker/nanobroker/protocol/ApiKey"), accessFlags := 16409, slot := 15, constantValue := 0 }, { name := "INIT_PRODUCER_ID", type := (.object "com/example/nano_broker/nanobroker/protocol/ApiKey"), accessFlags := 16409, slot := 16, constantValue := 0 }, { name := "DESCRIBE_CONFIGS", type := (.object "com/example/nano_broker/nanobroker/protocol/ApiKey"), accessFlags := 16409, slot := 17, constantValue := 0 }, { name := "ALTER_CONFIGS", type := (.object "com/example/nano_broker/nanobroker/protocol/ApiKey"), accessFlags := 16409, slot := 18, constantValue := 0 }, { name := "CREATE_PARTITIONS", type := (.object "com/example/nano_broker/nanobroker/protocol/ApiKey"), accessFlags := 16409, slot := 19, constantValue := 0 }, { name := "DELETE_GROUPS", type := (.object "com/example/nano_broker/nanobroker/protocol/ApiKey"), accessFlags := 16409, slot := 20, constantValue := 0 }, { name := "ALL", type := (.array (.object "com/example/nano_broker/nanobroker/protocol/ApiKey")), accessFlags := 26, slot := 21, constantValue := 0 }, { name := "id", type := .short, accessFlags := 18, slot := 3, constantValue := 0 }, { name := "minVersion", type := .short, accessFlags := 18, slot := 4, constantValue := 0 }, { name := "maxVersion", type := .short, accessFlags := 18, slot := 5, constantValue := 0 }, { name := "firstFlexibleVersion", type := .short, accessFlags := 18, slot := 6, constantValue := 0 }, { name := "$VALUES", type := (.array (.object "com/example/nano_broker/nanobroker/protocol/ApiKey")), accessFlags := 4122, slot := 22, constantValue := 0 }]
  methods := #[k6m0, k6m1]
  instanceTypes := #[(.object "java/lang/String"), .int, .int, .short, .short, .short, .short]
  staticTypes := #[(.object "com/example/nano_broker/nanobroker/protocol/ApiKey"), (.object "com/example/nano_broker/nanobroker/protocol/ApiKey"), (.object "com/example/nano_broker/nanobroker/protocol/ApiKey"), (.object "com/example/nano_broker/nanobroker/protocol/ApiKey"), (.object "com/example/nano_broker/nanobroker/protocol/ApiKey"), (.object "com/example/nano_broker/nanobroker/protocol/ApiKey"), (.object "com/example/nano_broker/nanobroker/protocol/ApiKey"), (.object "com/example/nano_broker/nanobroker/protocol/ApiKey"), (.object "com/example/nano_broker/nanobroker/protocol/ApiKey"), (.object "com/example/nano_broker/nanobroker/protocol/ApiKey"), (.object "com/example/nano_broker/nanobroker/protocol/ApiKey"), (.object "com/example/nano_broker/nanobroker/protocol/ApiKey"), (.object "com/example/nano_broker/nanobroker/protocol/ApiKey"), (.object "com/example/nano_broker/nanobroker/protocol/ApiKey"), (.object "com/example/nano_broker/nanobroker/protocol/ApiKey"), (.object "com/example/nano_broker/nanobroker/protocol/ApiKey"), (.object "com/example/nano_broker/nanobroker/protocol/ApiKey"), (.object "com/example/nano_broker/nanobroker/protocol/ApiKey"), (.object "com/example/nano_broker/nanobroker/protocol/ApiKey"), (.object "com/example/nano_broker/nanobroker/protocol/ApiKey"), (.object "com/example/nano_broker/nanobroker/protocol/ApiKey"), (.array (.object "com/example/nano_broker/nanobroker/protocol/ApiKey")), (.array (.object "com/example/nano_broker/nanobroker/protocol/ApiKey"))]
  resolved := Array.replicate 151 none
  statics := some 0 }

def pool7 : Array CpInfo := pool [(1, u "java/lang/Cloneable"), (0, .class_ 1), (0, u "java/lang/Object"), (0, .class_ 3)] 3

/-- java/lang/Cloneable -/
def k7 : Class := { plain "java/lang/Cloneable" (some 0) with
  accessFlags := 1537
  interfaces := #[]
  cf := some (fileOf pool7 2 #[] #[] 1537 4 #[] #[])
  fields := #[]
  methods := #[]
  instanceTypes := #[]
  staticTypes := #[]
  resolved := Array.replicate 8 none
  statics := none }

/-- the primitive byte -/
def k8 : Class := { plain "byte" none with kind := .primitive 'B', accessFlags := 0x411 }
/-- [B -/
def k9 : Class := { plain "[B" (some 0) with kind := .array 8 .byte, interfaces := #[7, 4], accessFlags := 1041 }

/-- the primitive int -/
def k10 : Class := { plain "int" none with kind := .primitive 'I', accessFlags := 0x411 }
/-- [I -/
def k11 : Class := { plain "[I" (some 0) with kind := .array 10 .int, interfaces := #[7, 4], accessFlags := 1041 }

/-- [Lcom/example/nano_broker/nanobroker/protocol/ApiKey; -/
def k12 : Class := { plain "[Lcom/example/nano_broker/nanobroker/protocol/ApiKey;" (some 0) with kind := .array 6 (.object "com/example/nano_broker/nanobroker/protocol/ApiKey"), interfaces := #[7, 4], accessFlags := 1041 }

def heap : Heap := #[{ cls := 6, slots := #[.ref 2, .ref 3, .ref 4, .ref 5, .ref 6, .ref 7, .ref 8, .ref 9, .ref 10, .ref 11, .ref 12, .ref 13, .ref 14, .ref 15, .ref 16, .ref 17, .ref 18, .ref 19, .ref 20, .ref 21, .ref 22, .ref 1, .null], vm := .statics 6 },
  { cls := 12, slots := #[.ref 2, .ref 3, .ref 4, .ref 5, .ref 6, .ref 7, .ref 8, .ref 9, .ref 10, .ref 11, .ref 12, .ref 13, .ref 14, .ref 15, .ref 16, .ref 17, .ref 18, .ref 19, .ref 20, .ref 21, .ref 22], vm := .none },
  { cls := 6, slots := #[.null, .int 0, .int 0, .int 0, .int 0, .int 0, .int 0], vm := .none },
  { cls := 6, slots := #[.null, .int 0, .int 0, .int 1, .int 0, .int 0, .int 0], vm := .none },
  { cls := 6, slots := #[.null, .int 0, .int 0, .int 2, .int 0, .int 0, .int 0], vm := .none },
  { cls := 6, slots := #[.null, .int 0, .int 0, .int 3, .int 0, .int 0, .int 0], vm := .none },
  { cls := 6, slots := #[.null, .int 0, .int 0, .int 8, .int 0, .int 0, .int 0], vm := .none },
  { cls := 6, slots := #[.null, .int 0, .int 0, .int 9, .int 0, .int 0, .int 0], vm := .none },
  { cls := 6, slots := #[.null, .int 0, .int 0, .int 10, .int 0, .int 0, .int 0], vm := .none },
  { cls := 6, slots := #[.null, .int 0, .int 0, .int 11, .int 0, .int 0, .int 0], vm := .none },
  { cls := 6, slots := #[.null, .int 0, .int 0, .int 12, .int 0, .int 0, .int 0], vm := .none },
  { cls := 6, slots := #[.null, .int 0, .int 0, .int 13, .int 0, .int 0, .int 0], vm := .none },
  { cls := 6, slots := #[.null, .int 0, .int 0, .int 14, .int 0, .int 0, .int 0], vm := .none },
  { cls := 6, slots := #[.null, .int 0, .int 0, .int 15, .int 0, .int 0, .int 0], vm := .none },
  { cls := 6, slots := #[.null, .int 0, .int 0, .int 16, .int 0, .int 0, .int 0], vm := .none },
  { cls := 6, slots := #[.null, .int 0, .int 0, .int 18, .int 0, .int 0, .int 0], vm := .none },
  { cls := 6, slots := #[.null, .int 0, .int 0, .int 19, .int 0, .int 0, .int 0], vm := .none },
  { cls := 6, slots := #[.null, .int 0, .int 0, .int 20, .int 0, .int 0, .int 0], vm := .none },
  { cls := 6, slots := #[.null, .int 0, .int 0, .int 22, .int 0, .int 0, .int 0], vm := .none },
  { cls := 6, slots := #[.null, .int 0, .int 0, .int 32, .int 0, .int 0, .int 0], vm := .none },
  { cls := 6, slots := #[.null, .int 0, .int 0, .int 33, .int 0, .int 0, .int 0], vm := .none },
  { cls := 6, slots := #[.null, .int 0, .int 0, .int 37, .int 0, .int 0, .int 0], vm := .none },
  { cls := 6, slots := #[.null, .int 0, .int 0, .int 42, .int 0, .int 0, .int 0], vm := .none }]
def classes : Array Class := #[k0, k1, k2, k3, k4, k5, k6, k7, k8, k9, k10, k11, k12]
def interned : List (Array UInt16 × Addr) := []
def slotsUsed : Nat := 191
def theMethod : MethodId := ⟨1, 1⟩
def args0 : Array Value := #[.int 5, .int 7]
def aboutOver (below : List Frame) : State where
  vm := { classes := classes, interned := interned.toArray }
  heap := heap
  slotsUsed := slotsUsed
  threads := #[{ frames := .invoking theMethod args0 :: below }]
def below0 : List Frame := [.native { method := ⟨0, 0⟩, args := #[] }]
def about1 : State := aboutOver below0
def p0 : Program := .bare "" "" ""
def e0 : Env := launch0.env 0 0 0
theorem w_frames : about1.frames = Frame.invoking theMethod args0 :: below0 := rfl
set_option maxRecDepth 65536 in
theorem w_args : argsFit about1.vm theMethod args0 = true := by decide +kernel
set_option maxRecDepth 65536 in
theorem w_heap : heapFits about1 = true := by decide +kernel
set_option maxRecDepth 65536 in
theorem w_runnable : about1.curStatus? = some .runnable := by decide +kernel
set_option maxRecDepth 65536 in
theorem w_alone : about1.alone = true := by decide +kernel
set_option maxRecDepth 65536 in
theorem w_named : about1.methodNamed? x = some theMethod := by decide +kernel
set_option maxRecDepth 65536 in
theorem w_hears : about1.hears theMethod below0 = true := by decide +kernel
set_option maxRecDepth 65536 in
theorem w_ripe : about1.ripe theMethod args0 below0 = true := by decide +kernel
theorem w_running : about1.status = .running := rfl
set_option maxRecDepth 65536 in
theorem w_room : about1.hasRoom e0.platform room_1 = true :=
  launch0.hasRoom_least _ room_1 (by decide +kernel) (by decide +kernel) (by decide +kernel) (by decide +kernel) (by decide +kernel) (by decide +kernel)
theorem allAtoms_all (ts : List Jvm.Cond) (a : Array Jvm.Value) (st : Jvm.State) : (allAtoms ts).before a st = ts.all (fun c => c.before a st) := by
  induction ts with
  | nil => rfl
  | cons c t ih =>
    show (Jvm.Cond.and c (allAtoms t)).before a st = _
    rw [Jvm.Cond.before_and, ih, List.all_cons]
def words1 : List Jvm.Cond := Jvm.Cond.code x code maxLocals ret :: tables_1
/-- a 'code' word, met by the world's own term for the bytes: nothing is compared byte by byte -/
theorem code_word {y : MethodName} {bytes : ByteArray} {mx : Nat} {rt : Option FieldType} {a : Array Value} {s : State} {m : MethodId} {meth : Method} {c : Code} (h1 : s.methodNamed? y = some m) (h2 : s.vm.method? m = some meth) (h3 : meth.code = some c) (h4 : c.code = bytes)
    (h5 : (c.maxLocals == mx && c.exceptionTable.isEmpty && decide (c.maxStack ≤ mostOperands) && decide (meth.sig.returnType = rt) && !meth.locks && decide (parseMethodDescriptor y.desc = some meth.sig)) = true) : (Jvm.Cond.code y bytes mx rt).before a s = true := by
  simp only [Bool.and_eq_true, beq_iff_eq, Bool.not_eq_true', decide_eq_true_eq] at h5
  obtain ⟨⟨⟨⟨⟨g1, g2⟩, g3⟩, g4⟩, g5⟩, g6⟩ := h5
  simp [Cond.before, Cond.holds, Cond.value, h1, h2, h3, h4, g1, g2, g3, g4, g5, g6]
def isCode : Jvm.Cond → Bool
  | .code _ _ _ _ => true
  | _ => false
theorem all_split {L : List Jvm.Cond} {P : Jvm.Cond → Bool} (h1 : L.all (fun c => isCode c || P c) = true) (h2 : ∀ c ∈ L.filter isCode, P c = true) : L.all P = true := by
  refine List.all_eq_true.mpr fun c hc => ?_
  have h := List.all_eq_true.mp h1 c hc
  rcases Bool.eq_false_or_eq_true (isCode c) with hi | hi
  · exact h2 c (List.mem_filter.mpr ⟨hc, hi⟩)
  · simpa [hi] using h
set_option maxRecDepth 65536 in
theorem w_c0 : (Jvm.Cond.code x code maxLocals ret).before args0 about1 = true := code_word (m := ⟨1, 1⟩) (meth := k1m1) (c := k1c1) (by decide +kernel) rfl rfl rfl (by decide +kernel)
set_option maxRecDepth 65536 in
theorem w_c1 : (Jvm.Cond.code ({ cls := "com/example/nano_broker/nanobroker/protocol/ApiKey", name := "forId", desc := "(S)Lcom/example/nano_broker/nanobroker/protocol/ApiKey;" } : Jvm.MethodName) prog_27_method_4_code (5 : Nat) (Option.some (Jvm.ClassFile.FieldType.object "com/example/nano_broker/nanobroker/protocol/ApiKey"))).before args0 about1 = true := code_word (m := ⟨6, 0⟩) (meth := k6m0) (c := k6c0) (by decide +kernel) rfl rfl rfl (by decide +kernel)
set_option maxRecDepth 65536 in
theorem w_c2 : (Jvm.Cond.code ({ cls := "com/example/nano_broker/nanobroker/protocol/ApiKeyForIdPinLaw", name := "expected", desc := "(I)Lcom/example/nano_broker/nanobroker/protocol/ApiKey;" } : Jvm.MethodName) method_3_code (1 : Nat) (Option.some (Jvm.ClassFile.FieldType.object "com/example/nano_broker/nanobroker/protocol/ApiKey"))).before args0 about1 = true := code_word (m := ⟨1, 2⟩) (meth := k1m2) (c := k1c2) (by decide +kernel) rfl rfl rfl (by decide +kernel)
set_option maxRecDepth 65536 in
theorem w_c3 : (Jvm.Cond.code ({ cls := "com/example/nano_broker/nanobroker/protocol/ApiKey", name := "id", desc := "()S" } : Jvm.MethodName) prog_27_method_5_code (1 : Nat) (Option.some Jvm.ClassFile.FieldType.short)).before args0 about1 = true := code_word (m := ⟨6, 1⟩) (meth := k6m1) (c := k6c1) (by decide +kernel) rfl rfl rfl (by decide +kernel)
def codes1 : List Jvm.Cond := [Jvm.Cond.code x code maxLocals ret, Jvm.Cond.code ({ cls := "com/example/nano_broker/nanobroker/protocol/ApiKey", name := "forId", desc := "(S)Lcom/example/nano_broker/nanobroker/protocol/ApiKey;" } : Jvm.MethodName) prog_27_method_4_code (5 : Nat) (Option.some (Jvm.ClassFile.FieldType.object "com/example/nano_broker/nanobroker/protocol/ApiKey")), Jvm.Cond.code ({ cls := "com/example/nano_broker/nanobroker/protocol/ApiKeyForIdPinLaw", name := "expected", desc := "(I)Lcom/example/nano_broker/nanobroker/protocol/ApiKey;" } : Jvm.MethodName) method_3_code (1 : Nat) (Option.some (Jvm.ClassFile.FieldType.object "com/example/nano_broker/nanobroker/protocol/ApiKey")), Jvm.Cond.code ({ cls := "com/example/nano_broker/nanobroker/protocol/ApiKey", name := "id", desc := "()S" } : Jvm.MethodName) prog_27_method_5_code (1 : Nat) (Option.some Jvm.ClassFile.FieldType.short)]
set_option maxRecDepth 65536 in
theorem codes_eq : words1.filter isCode = codes1 := rfl
theorem w_codes : ∀ c ∈ words1.filter isCode, c.before args0 about1 = true := by
  rw [codes_eq]
  intro c hc
  simp only [codes1, List.mem_cons, List.not_mem_nil, or_false] at hc
  rcases hc with rfl | rfl | rfl | rfl
  · exact w_c0
  · exact w_c1
  · exact w_c2
  · exact w_c3
set_option maxRecDepth 65536 in
theorem w_t1 : (words1.take 24).all (fun c => isCode c || c.before args0 about1) = true := by decide +kernel
set_option maxRecDepth 65536 in
theorem w_t2 : ((words1.drop 24).take 24).all (fun c => isCode c || c.before args0 about1) = true := by decide +kernel
set_option maxRecDepth 65536 in
theorem w_t3 : ((words1.drop 24).drop 24).all (fun c => isCode c || c.before args0 about1) = true := by decide +kernel
theorem w_tables : (allAtoms (Jvm.Cond.code x code maxLocals ret :: tables_1)).before args0 about1 = true := by
  rw [allAtoms_all]
  show words1.all (fun c => c.before args0 about1) = true
  refine all_split ?_ w_codes
  rw [← List.take_append_drop 24 words1, List.all_append, w_t1, ← List.take_append_drop 24 (words1.drop 24), List.all_append, w_t2, w_t3]
  rfl
set_option maxRecDepth 65536 in
theorem w_case : (Jvm.Cond.and given_1 narrow_1).before args0 about1 = true := by decide +kernel
theorem w_applies : (headSpec (Jvm.Cond.code x code maxLocals ret :: tables_1) room_1).applies x e0.platform about1 = true :=
  (Spec.applies_iff w_frames).mpr ⟨w_running, w_runnable, w_alone, w_named, w_hears, w_ripe, w_room, w_tables⟩
theorem atStart : AtStart classFile x code maxLocals ret World_1 tables_1 room_1 Calls_1 rest_1 Pre_1 launch0 p0 e0 about1 theMethod args0 below0 :=
  ⟨lists_1, trivial, launch0.admits_env _ _ _, launch0.least_env, fairChoices_fair.cas, fairChoices_fair.clock, w_frames, w_args, w_heap, w_applies, trivial, trivial, w_case⟩
end start1
theorem witness_1 : WitnessClaimed_1 := ⟨start1.p0, start1.e0, start1.about1, start1.theMethod, start1.args0, start1.below0, start1.atStart⟩
end Jvm.Pilot.@@N@@
