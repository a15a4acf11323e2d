import JvmDerived
import JvmDerived.Pilot.@@N@@Statement
import JvmDerived.Pilot.@@N@@Code
set_option linter.unusedVariables false
set_option linter.unusedSimpArgs false
namespace Jvm.RoadKit
open Sem ClassFile Op Lib Jvm.Stand Jvm.Free Jvm.LawKit
section New
variable {p : Program} {l : Launch} {e : Env} {R : Room} {s : State} {m : MethodId} {args : Array Value} {below : List Frame} {meth : Method} {c : Code} {T : State} {locs : List Loc} {cells slots : Nat}
theorem retI (X : Stand p l e R s m args below meth c T locs cells slots) (hx : p.tables.exec = Jvm.exec) {pc : Nat} {Ls : Array Slot} {z : Int32} {rest : List Value} (hret : meth.sig.returnType = some .int) (hd : decode c.code pc = .ok (.ireturn, 1)) {fs : List Frame}
    (hl : ∀ (f : JFrame) (acts : List Action), f.method = m → f.locked = none → f.entered = [] → (doReturn e (T.setTop f) acts (some (.int z))).1 = T.setFrames fs) : Steps p.tables e below (T.setTop (mkF m pc Ls (.int z :: rest))) (T.setFrames fs) := by
  have hm' : T.vm.method? m = some meth := X.method'
  have hn : narrow .int (.int z) = .int z := rfl
  show Steps p.tables e below (T.setTop { method := m, pc := pc, locals := Ls, stack := _ :: rest, locked := none }) _
  jvm_step X.here [X.here.top, hx, hd, hm', hret, hn]
  first | (intro acts; rw [hl _ acts rfl rfl rfl]) | rw [hl _ _ rfl rfl rfl]
  exact Steps.refl _
end New
end Jvm.RoadKit
namespace Jvm.Pilot.@@N@@
open Jvm Jvm.ClassFile Sem Op Lib Jvm.Free Jvm.Stand Jvm.LawKit Jvm.RoadKit Bundle Jvm.Pilot.@@N@@.Jvm.D
def own_op (p : Int32) (aC aR aU aD : Addr) : Value := if p = (67 : Int32) then .ref aC else if p = (82 : Int32) then .ref aR else if p = (85 : Int32) then .ref aU else if p = (68 : Int32) then .ref aD else .null
theorem own_m7 (x : Int32) : ¬ (x &&& (7 : Int32)) < 0 ∧ (x &&& (7 : Int32)) < (8 : Int32) := by
  have h := c_and x 7 (by decide)
  have e : (7 : Int32).toInt = 7 := rfl
  have e0 : (0 : Int32).toInt = 0 := rfl
  have e8 : (8 : Int32).toInt = 8 := rfl
  rw [Int32.lt_iff_toInt_lt, Int32.lt_iff_toInt_lt]; omega
theorem own_getI (vs : List Int32) (i : Nat) : ∃ z, (vs.map Value.int).getD i (.int (0 : Int32)) = .int z := by
  induction vs generalizing i with
  | nil => exact ⟨0, rfl⟩
  | cons a t ih => cases i with
    | zero => exact ⟨a, rfl⟩
    | succ n => exact ih n
theorem d2_0 : decode prog_66_method_1_code 0 = .ok (.getstatic 16, 3) := by decide +kernel
theorem d2_3 : decode prog_66_method_1_code 3 = .ok (.invokevirtual 20, 3) := by decide +kernel
theorem d2_6 : decode prog_66_method_1_code 6 = .ok (.checkcast 21, 3) := by decide +kernel
theorem d2_9 : decode prog_66_method_1_code 9 = .ok (.areturn, 1) := by decide +kernel
theorem own_pn0 : plainName "com/example/ruleward/ruleward/rules/Operation" = true := by first | (simp [plainName, overriddenIn]; done) | decide +kernel
theorem rmV_ef (m : MethodId)  : entryFrame m #[] 0 = mkF m 0 #[] [] := by first | (simp [entryFrame, mkF, argsToLocals, Value.category]; done) | rfl
def QV (Z : State) (aV : Addr) (kc : ClassId) (aC : Addr) (aR : Addr) (aU : Addr) (aD : Addr) (h0 : Heap) (n0 : Nat) (v : Option Value) (h : Heap) (L : List Loc) : Prop := ∃ b : Addr, v = some (.ref b) ∧ Fr n0 L ∧ Keep h0 h [] ∧ h0.size ≤ b ∧ Arv Z h b kc (.object "com/example/ruleward/ruleward/rules/Operation") (4 : Int32) [(.ref aC), (.ref aR), (.ref aU), (.ref aD)] .null
set_option maxRecDepth 65536 in
set_option maxHeartbeats 40000000 in
theorem rmV (l : Launch) (Z : State) (a0 : Array Value) (hw : ∀ d ∈ tables_1, d.before a0 Z = true) (ws : List Jvm.Cond) (aV : Addr) (kc : ClassId) (aC : Addr) (aR : Addr) (aU : Addr) (aD : Addr) (h0 : Heap) (n0 : Nat) (Z0 : n0 ≤ h0.size) (SV : Sta Z h0 "com/example/ruleward/ruleward/rules/Operation" "$VALUES" "[Lcom/example/ruleward/ruleward/rules/Operation;" (.ref aV)) (AV : Arv Z h0 aV kc (.object "com/example/ruleward/ruleward/rules/Operation") (4 : Int32) [(.ref aC), (.ref aR), (.ref aU), (.ref aD)] .null) (EV : Exa Z h0 aV "[Lcom/example/ruleward/ruleward/rules/Operation;") :
    MetFree l (⟨"com/example/ruleward/ruleward/rules/Operation", "values", "()[Lcom/example/ruleward/ruleward/rules/Operation;"⟩ : MethodName) (head1 (Jvm.Cond.code (⟨"com/example/ruleward/ruleward/rules/Operation", "values", "()[Lcom/example/ruleward/ruleward/rules/Operation;"⟩ : MethodName) prog_66_method_1_code 0 (some (.array (.object "com/example/ruleward/ruleward/rules/Operation"))) :: ws) ({ frames := 1, cells := 1, slots := 4, locals := 14 } : Room)) (fun aA' U => aA' = #[] ∧ Z.Warmed39 U.vm ∧ U.heap = h0) (fun _ _ _ _ _ => True) (fun _ U oO' U' => ∃ vV' L, oO' = .returned vV' ∧ QV Z aV kc aC aR aU aD h0 n0 vV' U'.heap L ∧ FrameEnd U oO' U' L ({ frames := 1, cells := 1, slots := 4, locals := 14 } : Room).cells ({ frames := 1, cells := 1, slots := 4, locals := 14 } : Room).slots) := by
  refine MetFree.of_bodySF (plainFor_of_name own_pn0) hisR ?_
  intro p e s m args below meth c s₁ Bd hml0 hP hK
  obtain ⟨rfl, hZ, hh⟩ := hP
  have hx := Bd.exec
  have hby := Bd.bytes
  have hml : c.maxLocals = 0 := hml0
  have hown : s.vm.findClass "com/example/ruleward/ruleward/rules/Operation" = some m.cls := findClass_of_methodNamed Bd.named
  have hnm := (name_of_methodNamed Bd.named Bd.method).1
  have X0 : Stand p l e ({ frames := 1, cells := 1, slots := 4, locals := 14 } : Room) s m #[] below meth c s₁ [] 0 0 := Stand.of_body Bd
  have e0 : s₁.heap = h0 := by rw [← hh, Bd.state]; rfl
  have N0 := Fr.nil n0
  have K0 : Keep h0 h0 [] := Keep.refl _ _
  have k0 : ∀ t, Steps p.tables e below (s₁.setTop (mkF m 0 #[] [])) t → Steps p.tables e below (s₁.setTop (entryFrame m #[] 0)) t := fun t k => castTop (rmV_ef m ) k
  obtain ⟨T1, X1, e1, st1⟩ := getS2 X0 hx hZ hown (host := "") (Or.inl (hw _ (List.mem_of_getElem? (i := 9) rfl))) Via.refl e0 SV (g := (mkF m 0 #[] [])) rfl (hb hby d2_0)
  have k2 : ∀ t, Steps p.tables e below (T1.setTop (mkF m 3 #[] [(.ref aV)])) t → Steps p.tables e below (s₁.setTop (entryFrame m #[] 0)) t := fun t kt => k0 t (st1 t kt)
  obtain ⟨T3, h3, X3, e3, E3, A3, B3, st3⟩ := cloneH X1 hx hZ hown (hw _ (List.mem_of_getElem? (i := 11) rfl)) (hw _ (List.mem_of_getElem? (i := 12) rfl)) (hw _ (List.mem_of_getElem? (i := 16) rfl)) (hw _ (List.mem_of_getElem? (i := 14) rfl)) (hw _ (List.mem_of_getElem? (i := 15) rfl)) (hw _ (List.mem_of_getElem? (i := 17) rfl)) e1 AV.arh EV (g := (mkF m 3 #[] [(.ref aV)])) rfl (by rw [hml]; rfl) rfl (hb hby d2_3) (by decide) (W := 0) (by show 2 * 0 + _ ≤ _; exact Nat.le_of_eq rfl) (by decide) (cap := 4) (by decide) (by decide) (by decide)
  obtain ⟨b3, g3⟩ : ∃ z, z = h0.size := ⟨_, rfl⟩
  rw [← g3] at A3 B3 st3
  have g_b3 : n0 ≤ b3 := Nat.le_trans Z0 (Nat.le_of_eq g3.symm)
  have sz_b3 : h0.size ≤ b3 := Nat.le_trans K0.1 (Nat.le_of_eq g3.symm)
  have ne4 : aV ≠ b3 := Nat.ne_of_lt (Nat.lt_of_lt_of_le AV.lt (Nat.le_of_eq g3.symm))
  have F5 := SV.ext E3
  have F6 := AV.ext E3
  have F7 := EV.ext E3
  have Z3 : n0 ≤ h3.size := Nat.le_trans Z0 E3.1
  have K3 : Keep h0 h3 [] := K0.ext E3
  have V3 : Arv Z h3 b3 kc (.object "com/example/ruleward/ruleward/rules/Operation") (4 : Int32) [(.ref aC), (.ref aR), (.ref aU), (.ref aD)] .null := A3
  have k8 : ∀ t, Steps p.tables e below (T3.setTop (mkF m 6 #[] [(.ref b3)])) t → Steps p.tables e below (s₁.setTop (entryFrame m #[] 0)) t := fun t kt => k2 t (st3 t kt)
  obtain ⟨T9, X9, e9, st9⟩ := castY X3 hx hZ hown (hw _ (List.mem_of_getElem? (i := 23) rfl)) e3 (Ins.self B3) (g := (mkF m 6 #[] [(.ref b3)])) rfl rfl (hb hby d2_6)
  have k10 : ∀ t, Steps p.tables e below (T9.setTop (mkF m 9 #[] [(.ref b3)])) t → Steps p.tables e below (s₁.setTop (entryFrame m #[] 0)) t := fun t kt => k8 t (st9 t kt)
  obtain ⟨fs, hr, hrun, hended, hW, hsame⟩ := X9.leave (v := some (.ref b3)) (fun h => by rw [Bd.returns] at h; cases h)
  refine ⟨_, _, k10 _ ?_, hrun, hended, _, _, rfl, ?_, ⟨_, rfl⟩, hW, hsame.mono (by decide) (by decide)⟩
  · show Steps p.tables e below (T9.setTop (mkF m 9 #[] [(.ref b3)])) _
    jvm_step X9.here [X9.here.top, hx, (hb hby d2_9), X9.method', Bd.returns, Value.isRef, FieldType.isReference]
    first | (intro acts; rw [hr _ acts rfl rfl rfl]) | rw [hr _ _ rfl rfl rfl]
    exact Steps.refl _
  · show QV Z aV kc aC aR aU aD h0 n0 _ T9.heap _
    rw [e9]
    exact ⟨b3, rfl, N0, K3, sz_b3, V3⟩
theorem d1_0 : decode prog_66_method_5_code 0 = .ok (.aconst_null, 1) := by decide +kernel
theorem d1_1 : decode prog_66_method_5_code 1 = .ok (.astore_n 1, 1) := by decide +kernel
theorem d1_2 : decode prog_66_method_5_code 2 = .ok (.invokestatic 39, 3) := by decide +kernel
theorem d1_5 : decode prog_66_method_5_code 5 = .ok (.astore_n 2, 1) := by decide +kernel
theorem d1_6 : decode prog_66_method_5_code 6 = .ok (.aload_n 2, 1) := by decide +kernel
theorem d1_7 : decode prog_66_method_5_code 7 = .ok (.arraylength, 1) := by decide +kernel
theorem d1_8 : decode prog_66_method_5_code 8 = .ok (.istore_n 3, 1) := by decide +kernel
theorem d1_9 : decode prog_66_method_5_code 9 = .ok (.iconst 0, 1) := by decide +kernel
theorem d1_10 : decode prog_66_method_5_code 10 = .ok (.istore 4, 2) := by decide +kernel
theorem d1_12 : decode prog_66_method_5_code 12 = .ok (.iload 4, 2) := by decide +kernel
theorem d1_14 : decode prog_66_method_5_code 14 = .ok (.iload_n 3, 1) := by decide +kernel
theorem d1_15 : decode prog_66_method_5_code 15 = .ok (.if_icmp .ge 27, 3) := by decide +kernel
theorem d1_18 : decode prog_66_method_5_code 18 = .ok (.aload_n 2, 1) := by decide +kernel
theorem d1_19 : decode prog_66_method_5_code 19 = .ok (.iload 4, 2) := by decide +kernel
theorem d1_21 : decode prog_66_method_5_code 21 = .ok (.aaload, 1) := by decide +kernel
theorem d1_22 : decode prog_66_method_5_code 22 = .ok (.astore 5, 2) := by decide +kernel
theorem d1_24 : decode prog_66_method_5_code 24 = .ok (.aload 5, 2) := by decide +kernel
theorem d1_26 : decode prog_66_method_5_code 26 = .ok (.getfield 35, 3) := by decide +kernel
theorem d1_29 : decode prog_66_method_5_code 29 = .ok (.iload_n 0, 1) := by decide +kernel
theorem d1_30 : decode prog_66_method_5_code 30 = .ok (.if_icmp .ne 6, 3) := by decide +kernel
theorem d1_33 : decode prog_66_method_5_code 33 = .ok (.aload 5, 2) := by decide +kernel
theorem d1_35 : decode prog_66_method_5_code 35 = .ok (.astore_n 1, 1) := by decide +kernel
theorem d1_36 : decode prog_66_method_5_code 36 = .ok (.iinc 4 1, 3) := by decide +kernel
theorem d1_39 : decode prog_66_method_5_code 39 = .ok (.goto (-27), 3) := by decide +kernel
theorem d1_42 : decode prog_66_method_5_code 42 = .ok (.aload_n 1, 1) := by decide +kernel
theorem d1_43 : decode prog_66_method_5_code 43 = .ok (.areturn, 1) := by decide +kernel
theorem rmF_ef (m : MethodId) (x0 : Int32) : entryFrame m #[(.int x0)] 6 = mkF m 0 #[.val (.int x0), .unset, .unset, .unset, .unset, .unset] [] := by first | (simp [entryFrame, mkF, argsToLocals, Value.category]; done) | rfl
def QF (Z : State) (p1 : Int32) (aV : Addr) (kc : ClassId) (aC : Addr) (aR : Addr) (aU : Addr) (aD : Addr) (h0 : Heap) (n0 : Nat) (v : Option Value) (h : Heap) (L : List Loc) : Prop := v = some (own_op p1 aC aR aU aD) ∧ Fr n0 L ∧ Keep h0 h []
theorem own_pd0 : parseMethodDescriptor "()[Lcom/example/ruleward/ruleward/rules/Operation;" = some ⟨[], some (.array (.object "com/example/ruleward/ruleward/rules/Operation"))⟩ := by decide +kernel
set_option maxRecDepth 65536 in
set_option maxHeartbeats 40000000 in
theorem rmF (l : Launch) (Z : State) (a0 : Array Value) (hw : ∀ d ∈ tables_1, d.before a0 Z = true) (ws : List Jvm.Cond) (p1 : Int32) (aV : Addr) (kc : ClassId) (aC : Addr) (aR : Addr) (aU : Addr) (aD : Addr) (h0 : Heap) (n0 : Nat) (Z0 : n0 ≤ h0.size) (SV : Sta Z h0 "com/example/ruleward/ruleward/rules/Operation" "$VALUES" "[Lcom/example/ruleward/ruleward/rules/Operation;" (.ref aV)) (AV : Arv Z h0 aV kc (.object "com/example/ruleward/ruleward/rules/Operation") (4 : Int32) [(.ref aC), (.ref aR), (.ref aU), (.ref aD)] .null) (EV : Exa Z h0 aV "[Lcom/example/ruleward/ruleward/rules/Operation;") (F_aC : Fld Z h0 aC "com/example/ruleward/ruleward/rules/Operation" "letter" "C" (.int (67 : Int32))) (F_aR : Fld Z h0 aR "com/example/ruleward/ruleward/rules/Operation" "letter" "C" (.int (82 : Int32))) (F_aU : Fld Z h0 aU "com/example/ruleward/ruleward/rules/Operation" "letter" "C" (.int (85 : Int32))) (F_aD : Fld Z h0 aD "com/example/ruleward/ruleward/rules/Operation" "letter" "C" (.int (68 : Int32))) :
    MetFree l (⟨"com/example/ruleward/ruleward/rules/Operation", "of", "(C)Lcom/example/ruleward/ruleward/rules/Operation;"⟩ : MethodName) (head1 (Jvm.Cond.code (⟨"com/example/ruleward/ruleward/rules/Operation", "of", "(C)Lcom/example/ruleward/ruleward/rules/Operation;"⟩ : MethodName) prog_66_method_5_code 6 (some (.object "com/example/ruleward/ruleward/rules/Operation")) :: ws) ({ frames := 2, cells := 1, slots := 4, locals := 25 } : Room)) (fun aA' U => aA' = #[(.int p1)] ∧ Z.Warmed39 U.vm ∧ U.heap = h0) (fun _ _ _ _ _ => True) (fun _ U oO' U' => ∃ vV' L, oO' = .returned vV' ∧ QF Z p1 aV kc aC aR aU aD h0 n0 vV' U'.heap L ∧ FrameEnd U oO' U' L ({ frames := 2, cells := 1, slots := 4, locals := 25 } : Room).cells ({ frames := 2, cells := 1, slots := 4, locals := 25 } : Room).slots) := by
  refine MetFree.of_bodySF (plainFor_of_name own_pn0) hisR ?_
  intro p e s m args below meth c s₁ Bd hml0 hP hK
  obtain ⟨rfl, hZ, hh⟩ := hP
  have hx := Bd.exec
  have hby := Bd.bytes
  have hml : c.maxLocals = 6 := hml0
  have hown : s.vm.findClass "com/example/ruleward/ruleward/rules/Operation" = some m.cls := findClass_of_methodNamed Bd.named
  have hnm := (name_of_methodNamed Bd.named Bd.method).1
  have X0 : Stand p l e ({ frames := 2, cells := 1, slots := 4, locals := 25 } : Room) s m #[(.int p1)] below meth c s₁ [] 0 0 := Stand.of_body Bd
  have e0 : s₁.heap = h0 := by rw [← hh, Bd.state]; rfl
  have N0 := Fr.nil n0
  have K0 : Keep h0 h0 [] := Keep.refl _ _
  have k0 : ∀ t, Steps p.tables e below (s₁.setTop (mkF m 0 #[.val (.int p1), .unset, .unset, .unset, .unset, .unset] [])) t → Steps p.tables e below (s₁.setTop (entryFrame m #[(.int p1)] 6)) t := fun t k => castTop (rmF_ef m (p1)) k
  have k1 : ∀ t, Steps p.tables e below (s₁.setTop (mkF m 2 #[.val (.int p1), .val .null, .unset, .unset, .unset, .unset] [])) t → Steps p.tables e below (s₁.setTop (entryFrame m #[(.int p1)] 6)) t := by
    intro t kt
    refine k0 t ?_
    show Steps p.tables e below (s₁.setTop (mkF m 0 #[.val (.int p1), .unset, .unset, .unset, .unset, .unset] [])) t
    refine XS.aconstNull X0.here hx rfl (hb hby d1_0) ?_
    show Steps p.tables e below (s₁.setTop (mkF m 1 #[.val (.int p1), .unset, .unset, .unset, .unset, .unset] [.null])) t
    refine XS.astoreN X0.here hx rfl (hb hby d1_1) rfl rfl (l' := #[.val (.int p1), .val .null, .unset, .unset, .unset, .unset]) rfl ?_
    exact kt
  obtain ⟨_, _, ⟨T2, L2, k2c, n2⟩, -, X2, ⟨Lc2, hQ2, l2, y2, z2⟩, st2⟩ := Jvm.LawKit.callS X0 hx (y := (⟨"com/example/ruleward/ruleward/rules/Operation", "values", "()[Lcom/example/ruleward/ruleward/rules/Operation;"⟩ : MethodName)) hown (mvT hZ (hw _ (List.mem_of_getElem? (i := 6) rfl))) (mvT hZ (hw _ (List.mem_of_getElem? (i := 7) rfl))) (mvT hZ (hw _ (List.mem_of_getElem? (i := 4) rfl))) (mvT hZ (hw _ (List.mem_of_getElem? (i := 8) rfl))) (by decide) (backOf (W := 0) (rmV l Z a0 hw [] aV kc aC aR aU aD h0 n0 Z0 SV AV EV) hZ (hw _ (List.mem_of_getElem? (i := 8) rfl)) (hw _ (List.mem_of_getElem? (i := 4) rfl)) (by decide) (by decide)) (g := (mkF m 2 #[.val (.int p1), .val .null, .unset, .unset, .unset, .unset] [])) rfl (by rw [hml]; rfl) (argsL := []) (rest := []) (lenOf own_pd0 rfl) rfl (by show 2 * 0 + _ ≤ _; exact Nat.le_of_eq rfl) (hb hby d1_2) (fun _ _ => ⟨rfl, e0, (by decide : 0 + 1 ≤ _), (by decide : 0 + 4 ≤ _)⟩)
  dsimp only [Pt.U, Pt.locs, Pt.cells, Pt.slots] at X2 l2 y2 z2 st2 hQ2
  subst l2 y2 z2
  obtain ⟨b2, rfl, N2q, K2k, s2z, A2⟩ := hQ2
  have N2 := Fr.app N0 N2q
  have g_b2 : n0 ≤ b2 := Nat.le_trans Z0 s2z
  have sz_b2 : h0.size ≤ b2 := Nat.le_trans K0.1 s2z
  have ne3 : aV ≠ b2 := Nat.ne_of_lt (Nat.lt_of_lt_of_le AV.lt s2z)
  have ne4 : aC ≠ b2 := Nat.ne_of_lt (Nat.lt_of_lt_of_le F_aC.lt s2z)
  have ne5 : aR ≠ b2 := Nat.ne_of_lt (Nat.lt_of_lt_of_le F_aR.lt s2z)
  have ne6 : aU ≠ b2 := Nat.ne_of_lt (Nat.lt_of_lt_of_le F_aU.lt s2z)
  have ne7 : aD ≠ b2 := Nat.ne_of_lt (Nat.lt_of_lt_of_le F_aD.lt s2z)
  have F9 := AV.keep K2k nin0
  have F10 := EV.keep K2k
  have F11 := F_aC.keep K2k nin0
  have F12 := F_aR.keep K2k nin0
  have F13 := F_aU.keep K2k nin0
  have F14 := F_aD.keep K2k nin0
  have Z15 : n0 ≤ T2.heap.size := Nat.le_trans Z0 K2k.1
  have K15 : Keep h0 T2.heap [] := K0.trans K2k all0
  have k16 : ∀ t, Steps p.tables e below (T2.setTop (mkF m 5 #[.val (.int p1), .val .null, .unset, .unset, .unset, .unset] [(.ref b2)])) t → Steps p.tables e below (s₁.setTop (entryFrame m #[(.int p1)] 6)) t := fun t kt => k1 t (st2 t kt)
  have k17 : ∀ t, Steps p.tables e below (T2.setTop (mkF m 7 #[.val (.int p1), .val .null, .val (.ref b2), .unset, .unset, .unset] [(.ref b2)])) t → Steps p.tables e below (s₁.setTop (entryFrame m #[(.int p1)] 6)) t := by
    intro t kt
    refine k16 t ?_
    show Steps p.tables e below (T2.setTop (mkF m 5 #[.val (.int p1), .val .null, .unset, .unset, .unset, .unset] [(.ref b2)])) t
    refine XS.astoreN X2.here hx rfl (hb hby d1_5) rfl rfl (l' := #[.val (.int p1), .val .null, .val (.ref b2), .unset, .unset, .unset]) rfl ?_
    show Steps p.tables e below (T2.setTop (mkF m 6 #[.val (.int p1), .val .null, .val (.ref b2), .unset, .unset, .unset] [])) t
    refine XS.aloadN X2.here hx rfl (hb hby d1_6) rfl rfl ?_
    exact kt
  obtain ⟨cl18, Ar18, -, S18, M18, -, -⟩ := id A2
  have k19 : ∀ t, Steps p.tables e below (T2.setTop (mkF m 8 #[.val (.int p1), .val .null, .val (.ref b2), .unset, .unset, .unset] [(.int (4 : Int32))])) t → Steps p.tables e below (s₁.setTop (entryFrame m #[(.int p1)] 6)) t := fun t kt => k17 t (X2.arraylength hx Ar18.1 (State.isArrayOf_alike hZ.alike Ar18.2.1) (g := (mkF m 7 #[.val (.int p1), .val .null, .val (.ref b2), .unset, .unset, .unset] [(.ref b2)])) rfl rfl (hb hby d1_7) t (by rw [len_of S18 M18]; exact kt))
  have hc15_20 : (0 : Int32) < (4 : Int32) := by decide
  have k21 : ∀ t, Steps p.tables e below (T2.setTop (mkF m 21 #[.val (.int p1), .val .null, .val (.ref b2), .val (.int (4 : Int32)), .val (.int (0 : Int32)), .unset] [(.int (0 : Int32)), (.ref b2)])) t → Steps p.tables e below (s₁.setTop (entryFrame m #[(.int p1)] 6)) t := by
    intro t kt
    refine k19 t ?_
    show Steps p.tables e below (T2.setTop (mkF m 8 #[.val (.int p1), .val .null, .val (.ref b2), .unset, .unset, .unset] [(.int (4 : Int32))])) t
    refine XS.istoreN X2.here hx rfl (hb hby d1_8) rfl (l' := #[.val (.int p1), .val .null, .val (.ref b2), .val (.int (4 : Int32)), .unset, .unset]) rfl ?_
    show Steps p.tables e below (T2.setTop (mkF m 9 #[.val (.int p1), .val .null, .val (.ref b2), .val (.int (4 : Int32)), .unset, .unset] [])) t
    refine XS.iconst X2.here hx rfl (hb hby d1_9) ?_
    show Steps p.tables e below (T2.setTop (mkF m 10 #[.val (.int p1), .val .null, .val (.ref b2), .val (.int (4 : Int32)), .unset, .unset] [(.int (0 : Int32))])) t
    refine XS.istore X2.here hx rfl (hb hby d1_10) rfl (l' := #[.val (.int p1), .val .null, .val (.ref b2), .val (.int (4 : Int32)), .val (.int (0 : Int32)), .unset]) rfl ?_
    show Steps p.tables e below (T2.setTop (mkF m 12 #[.val (.int p1), .val .null, .val (.ref b2), .val (.int (4 : Int32)), .val (.int (0 : Int32)), .unset] [])) t
    refine XS.iload X2.here hx rfl (hb hby d1_12) rfl ?_
    show Steps p.tables e below (T2.setTop (mkF m 14 #[.val (.int p1), .val .null, .val (.ref b2), .val (.int (4 : Int32)), .val (.int (0 : Int32)), .unset] [(.int (0 : Int32))])) t
    refine XS.iloadN X2.here hx rfl (hb hby d1_14) rfl ?_
    show Steps p.tables e below (T2.setTop (mkF m 15 #[.val (.int p1), .val .null, .val (.ref b2), .val (.int (4 : Int32)), .val (.int (0 : Int32)), .unset] [(.int (4 : Int32)), (.int (0 : Int32))])) t
    refine XS.icmpNo X2.here hx rfl (hb hby d1_15) rfl (tlt hc15_20).2.1 ?_
    show Steps p.tables e below (T2.setTop (mkF m 18 #[.val (.int p1), .val .null, .val (.ref b2), .val (.int (4 : Int32)), .val (.int (0 : Int32)), .unset] [])) t
    refine XS.aloadN X2.here hx rfl (hb hby d1_18) rfl rfl ?_
    show Steps p.tables e below (T2.setTop (mkF m 19 #[.val (.int p1), .val .null, .val (.ref b2), .val (.int (4 : Int32)), .val (.int (0 : Int32)), .unset] [(.ref b2)])) t
    refine XS.iload X2.here hx rfl (hb hby d1_19) rfl ?_
    exact kt
  obtain ⟨cl22, Ar22, q22, S22, M22, H22, G22⟩ := id A2
  have hin22 : ¬ ((0 : Int32) < 0 ∨ cl22.slots.size ≤ ((0 : Int32)).toNatClampNeg) := inb_of S22 ⟨by decide, by decide⟩
  have hat22 : cl22.slots[((0 : Int32)).toNatClampNeg]? = some (.ref aC) := Has.at H22 hin22 rfl
  have k23 : ∀ t, Steps p.tables e below (T2.setTop (mkF m 22 #[.val (.int p1), .val .null, .val (.ref b2), .val (.int (4 : Int32)), .val (.int (0 : Int32)), .unset] [(.ref aC)])) t → Steps p.tables e below (s₁.setTop (entryFrame m #[(.int p1)] 6)) t := fun t kt => k21 t (X2.aaload hx (j := (0 : Int32)) (v := (.ref aC)) Ar22.1 (State.isArrayOf_alike hZ.alike Ar22.2.1) rfl Ar22.2.2 hin22 hat22 (g := (mkF m 21 #[.val (.int p1), .val .null, .val (.ref b2), .val (.int (4 : Int32)), .val (.int (0 : Int32)), .unset] [(.int (0 : Int32)), (.ref b2)])) rfl rfl (hb hby d1_21) t kt)
  have k24 : ∀ t, Steps p.tables e below (T2.setTop (mkF m 26 #[.val (.int p1), .val .null, .val (.ref b2), .val (.int (4 : Int32)), .val (.int (0 : Int32)), .val (.ref aC)] [(.ref aC)])) t → Steps p.tables e below (s₁.setTop (entryFrame m #[(.int p1)] 6)) t := by
    intro t kt
    refine k23 t ?_
    show Steps p.tables e below (T2.setTop (mkF m 22 #[.val (.int p1), .val .null, .val (.ref b2), .val (.int (4 : Int32)), .val (.int (0 : Int32)), .unset] [(.ref aC)])) t
    refine XS.astore X2.here hx rfl (hb hby d1_22) rfl rfl (l' := #[.val (.int p1), .val .null, .val (.ref b2), .val (.int (4 : Int32)), .val (.int (0 : Int32)), .val (.ref aC)]) rfl ?_
    show Steps p.tables e below (T2.setTop (mkF m 24 #[.val (.int p1), .val .null, .val (.ref b2), .val (.int (4 : Int32)), .val (.int (0 : Int32)), .val (.ref aC)] [])) t
    refine XS.aload X2.here hx rfl (hb hby d1_24) rfl rfl ?_
    exact kt
  obtain ⟨T25, X25, e25, st25⟩ := getF X2 hx hZ hown (host := "") (Or.inl (hw _ (List.mem_of_getElem? (i := 25) rfl))) Via.refl rfl F11 (g := (mkF m 26 #[.val (.int p1), .val .null, .val (.ref b2), .val (.int (4 : Int32)), .val (.int (0 : Int32)), .val (.ref aC)] [(.ref aC)])) rfl rfl (hb hby d1_26)
  have k26 : ∀ t, Steps p.tables e below (T25.setTop (mkF m 29 #[.val (.int p1), .val .null, .val (.ref b2), .val (.int (4 : Int32)), .val (.int (0 : Int32)), .val (.ref aC)] [(.int (67 : Int32))])) t → Steps p.tables e below (s₁.setTop (entryFrame m #[(.int p1)] 6)) t := fun t kt => k24 t (st25 t kt)
  have k28 : ∀ t, Steps p.tables e below (T25.setTop (mkF m 30 #[.val (.int p1), .val .null, .val (.ref b2), .val (.int (4 : Int32)), .val (.int (0 : Int32)), .val (.ref aC)] [(.int p1), (.int (67 : Int32))])) t → Steps p.tables e below (s₁.setTop (entryFrame m #[(.int p1)] 6)) t := by
    intro t kt
    refine k26 t ?_
    show Steps p.tables e below (T25.setTop (mkF m 29 #[.val (.int p1), .val .null, .val (.ref b2), .val (.int (4 : Int32)), .val (.int (0 : Int32)), .val (.ref aC)] [(.int (67 : Int32))])) t
    refine XS.iloadN X25.here hx rfl (hb hby d1_29) rfl ?_
    exact kt
  by_cases hc30_27 : (67 : Int32) = p1
  · have hc15_29 : (1 : Int32) < (4 : Int32) := by decide
    have k30 : ∀ t, Steps p.tables e below (T25.setTop (mkF m 21 #[.val (.int p1), .val (.ref aC), .val (.ref b2), .val (.int (4 : Int32)), .val (.int (1 : Int32)), .val (.ref aC)] [(.int (1 : Int32)), (.ref b2)])) t → Steps p.tables e below (s₁.setTop (entryFrame m #[(.int p1)] 6)) t := by
      intro t kt
      refine k28 t ?_
      show Steps p.tables e below (T25.setTop (mkF m 30 #[.val (.int p1), .val .null, .val (.ref b2), .val (.int (4 : Int32)), .val (.int (0 : Int32)), .val (.ref aC)] [(.int p1), (.int (67 : Int32))])) t
      refine XS.icmpNo X25.here hx rfl (hb hby d1_30) rfl (teq hc30_27).2 ?_
      show Steps p.tables e below (T25.setTop (mkF m 33 #[.val (.int p1), .val .null, .val (.ref b2), .val (.int (4 : Int32)), .val (.int (0 : Int32)), .val (.ref aC)] [])) t
      refine XS.aload X25.here hx rfl (hb hby d1_33) rfl rfl ?_
      show Steps p.tables e below (T25.setTop (mkF m 35 #[.val (.int p1), .val .null, .val (.ref b2), .val (.int (4 : Int32)), .val (.int (0 : Int32)), .val (.ref aC)] [(.ref aC)])) t
      refine XS.astoreN X25.here hx rfl (hb hby d1_35) rfl rfl (l' := #[.val (.int p1), .val (.ref aC), .val (.ref b2), .val (.int (4 : Int32)), .val (.int (0 : Int32)), .val (.ref aC)]) rfl ?_
      show Steps p.tables e below (T25.setTop (mkF m 36 #[.val (.int p1), .val (.ref aC), .val (.ref b2), .val (.int (4 : Int32)), .val (.int (0 : Int32)), .val (.ref aC)] [])) t
      refine XS.iinc X25.here hx rfl (hb hby d1_36) rfl (l' := #[.val (.int p1), .val (.ref aC), .val (.ref b2), .val (.int (4 : Int32)), .val (.int (1 : Int32)), .val (.ref aC)]) rfl ?_
      show Steps p.tables e below (T25.setTop (mkF m 39 #[.val (.int p1), .val (.ref aC), .val (.ref b2), .val (.int (4 : Int32)), .val (.int (1 : Int32)), .val (.ref aC)] [])) t
      refine XS.goto X25.here hx rfl (pc0 := 39) (pc' := 12) rfl (hb hby d1_39) (by decide) (by decide) ?_
      show Steps p.tables e below (T25.setTop (mkF m 12 #[.val (.int p1), .val (.ref aC), .val (.ref b2), .val (.int (4 : Int32)), .val (.int (1 : Int32)), .val (.ref aC)] [])) t
      refine XS.iload X25.here hx rfl (hb hby d1_12) rfl ?_
      show Steps p.tables e below (T25.setTop (mkF m 14 #[.val (.int p1), .val (.ref aC), .val (.ref b2), .val (.int (4 : Int32)), .val (.int (1 : Int32)), .val (.ref aC)] [(.int (1 : Int32))])) t
      refine XS.iloadN X25.here hx rfl (hb hby d1_14) rfl ?_
      show Steps p.tables e below (T25.setTop (mkF m 15 #[.val (.int p1), .val (.ref aC), .val (.ref b2), .val (.int (4 : Int32)), .val (.int (1 : Int32)), .val (.ref aC)] [(.int (4 : Int32)), (.int (1 : Int32))])) t
      refine XS.icmpNo X25.here hx rfl (hb hby d1_15) rfl (tlt hc15_29).2.1 ?_
      show Steps p.tables e below (T25.setTop (mkF m 18 #[.val (.int p1), .val (.ref aC), .val (.ref b2), .val (.int (4 : Int32)), .val (.int (1 : Int32)), .val (.ref aC)] [])) t
      refine XS.aloadN X25.here hx rfl (hb hby d1_18) rfl rfl ?_
      show Steps p.tables e below (T25.setTop (mkF m 19 #[.val (.int p1), .val (.ref aC), .val (.ref b2), .val (.int (4 : Int32)), .val (.int (1 : Int32)), .val (.ref aC)] [(.ref b2)])) t
      refine XS.iload X25.here hx rfl (hb hby d1_19) rfl ?_
      exact kt
    obtain ⟨cl31, Ar31, q31, S31, M31, H31, G31⟩ := id A2
    have hin31 : ¬ ((1 : Int32) < 0 ∨ cl31.slots.size ≤ ((1 : Int32)).toNatClampNeg) := inb_of S31 ⟨by decide, by decide⟩
    have hat31 : cl31.slots[((1 : Int32)).toNatClampNeg]? = some (.ref aR) := Has.at H31 hin31 rfl
    have k32 : ∀ t, Steps p.tables e below (T25.setTop (mkF m 22 #[.val (.int p1), .val (.ref aC), .val (.ref b2), .val (.int (4 : Int32)), .val (.int (1 : Int32)), .val (.ref aC)] [(.ref aR)])) t → Steps p.tables e below (s₁.setTop (entryFrame m #[(.int p1)] 6)) t := fun t kt => k30 t (X25.aaload hx (j := (1 : Int32)) (v := (.ref aR)) (by rw [e25]; exact Ar31.1) (State.isArrayOf_alike hZ.alike Ar31.2.1) rfl Ar31.2.2 hin31 hat31 (g := (mkF m 21 #[.val (.int p1), .val (.ref aC), .val (.ref b2), .val (.int (4 : Int32)), .val (.int (1 : Int32)), .val (.ref aC)] [(.int (1 : Int32)), (.ref b2)])) rfl rfl (hb hby d1_21) t kt)
    have k33 : ∀ t, Steps p.tables e below (T25.setTop (mkF m 26 #[.val (.int p1), .val (.ref aC), .val (.ref b2), .val (.int (4 : Int32)), .val (.int (1 : Int32)), .val (.ref aR)] [(.ref aR)])) t → Steps p.tables e below (s₁.setTop (entryFrame m #[(.int p1)] 6)) t := by
      intro t kt
      refine k32 t ?_
      show Steps p.tables e below (T25.setTop (mkF m 22 #[.val (.int p1), .val (.ref aC), .val (.ref b2), .val (.int (4 : Int32)), .val (.int (1 : Int32)), .val (.ref aC)] [(.ref aR)])) t
      refine XS.astore X25.here hx rfl (hb hby d1_22) rfl rfl (l' := #[.val (.int p1), .val (.ref aC), .val (.ref b2), .val (.int (4 : Int32)), .val (.int (1 : Int32)), .val (.ref aR)]) rfl ?_
      show Steps p.tables e below (T25.setTop (mkF m 24 #[.val (.int p1), .val (.ref aC), .val (.ref b2), .val (.int (4 : Int32)), .val (.int (1 : Int32)), .val (.ref aR)] [])) t
      refine XS.aload X25.here hx rfl (hb hby d1_24) rfl rfl ?_
      exact kt
    obtain ⟨T34, X34, e34, st34⟩ := getF X25 hx hZ hown (host := "") (Or.inl (hw _ (List.mem_of_getElem? (i := 25) rfl))) Via.refl e25 F12 (g := (mkF m 26 #[.val (.int p1), .val (.ref aC), .val (.ref b2), .val (.int (4 : Int32)), .val (.int (1 : Int32)), .val (.ref aR)] [(.ref aR)])) rfl rfl (hb hby d1_26)
    have k35 : ∀ t, Steps p.tables e below (T34.setTop (mkF m 29 #[.val (.int p1), .val (.ref aC), .val (.ref b2), .val (.int (4 : Int32)), .val (.int (1 : Int32)), .val (.ref aR)] [(.int (82 : Int32))])) t → Steps p.tables e below (s₁.setTop (entryFrame m #[(.int p1)] 6)) t := fun t kt => k33 t (st34 t kt)
    have k37 : ∀ t, Steps p.tables e below (T34.setTop (mkF m 30 #[.val (.int p1), .val (.ref aC), .val (.ref b2), .val (.int (4 : Int32)), .val (.int (1 : Int32)), .val (.ref aR)] [(.int p1), (.int (82 : Int32))])) t → Steps p.tables e below (s₁.setTop (entryFrame m #[(.int p1)] 6)) t := by
      intro t kt
      refine k35 t ?_
      show Steps p.tables e below (T34.setTop (mkF m 29 #[.val (.int p1), .val (.ref aC), .val (.ref b2), .val (.int (4 : Int32)), .val (.int (1 : Int32)), .val (.ref aR)] [(.int (82 : Int32))])) t
      refine XS.iloadN X34.here hx rfl (hb hby d1_29) rfl ?_
      exact kt
    have hc30_36 : ¬ ((82 : Int32) = p1) := by rw [← hc30_27]; decide
    have hc15_38 : (2 : Int32) < (4 : Int32) := by decide
    have k39 : ∀ t, Steps p.tables e below (T34.setTop (mkF m 21 #[.val (.int p1), .val (.ref aC), .val (.ref b2), .val (.int (4 : Int32)), .val (.int (2 : Int32)), .val (.ref aR)] [(.int (2 : Int32)), (.ref b2)])) t → Steps p.tables e below (s₁.setTop (entryFrame m #[(.int p1)] 6)) t := by
      intro t kt
      refine k37 t ?_
      show Steps p.tables e below (T34.setTop (mkF m 30 #[.val (.int p1), .val (.ref aC), .val (.ref b2), .val (.int (4 : Int32)), .val (.int (1 : Int32)), .val (.ref aR)] [(.int p1), (.int (82 : Int32))])) t
      refine XS.icmpYes X34.here hx rfl (pc0 := 30) (pc' := 36) rfl (hb hby d1_30) rfl (feq hc30_36).2 (by decide) (by decide) ?_
      show Steps p.tables e below (T34.setTop (mkF m 36 #[.val (.int p1), .val (.ref aC), .val (.ref b2), .val (.int (4 : Int32)), .val (.int (1 : Int32)), .val (.ref aR)] [])) t
      refine XS.iinc X34.here hx rfl (hb hby d1_36) rfl (l' := #[.val (.int p1), .val (.ref aC), .val (.ref b2), .val (.int (4 : Int32)), .val (.int (2 : Int32)), .val (.ref aR)]) rfl ?_
      show Steps p.tables e below (T34.setTop (mkF m 39 #[.val (.int p1), .val (.ref aC), .val (.ref b2), .val (.int (4 : Int32)), .val (.int (2 : Int32)), .val (.ref aR)] [])) t
      refine XS.goto X34.here hx rfl (pc0 := 39) (pc' := 12) rfl (hb hby d1_39) (by decide) (by decide) ?_
      show Steps p.tables e below (T34.setTop (mkF m 12 #[.val (.int p1), .val (.ref aC), .val (.ref b2), .val (.int (4 : Int32)), .val (.int (2 : Int32)), .val (.ref aR)] [])) t
      refine XS.iload X34.here hx rfl (hb hby d1_12) rfl ?_
      show Steps p.tables e below (T34.setTop (mkF m 14 #[.val (.int p1), .val (.ref aC), .val (.ref b2), .val (.int (4 : Int32)), .val (.int (2 : Int32)), .val (.ref aR)] [(.int (2 : Int32))])) t
      refine XS.iloadN X34.here hx rfl (hb hby d1_14) rfl ?_
      show Steps p.tables e below (T34.setTop (mkF m 15 #[.val (.int p1), .val (.ref aC), .val (.ref b2), .val (.int (4 : Int32)), .val (.int (2 : Int32)), .val (.ref aR)] [(.int (4 : Int32)), (.int (2 : Int32))])) t
      refine XS.icmpNo X34.here hx rfl (hb hby d1_15) rfl (tlt hc15_38).2.1 ?_
      show Steps p.tables e below (T34.setTop (mkF m 18 #[.val (.int p1), .val (.ref aC), .val (.ref b2), .val (.int (4 : Int32)), .val (.int (2 : Int32)), .val (.ref aR)] [])) t
      refine XS.aloadN X34.here hx rfl (hb hby d1_18) rfl rfl ?_
      show Steps p.tables e below (T34.setTop (mkF m 19 #[.val (.int p1), .val (.ref aC), .val (.ref b2), .val (.int (4 : Int32)), .val (.int (2 : Int32)), .val (.ref aR)] [(.ref b2)])) t
      refine XS.iload X34.here hx rfl (hb hby d1_19) rfl ?_
      exact kt
    obtain ⟨cl40, Ar40, q40, S40, M40, H40, G40⟩ := id A2
    have hin40 : ¬ ((2 : Int32) < 0 ∨ cl40.slots.size ≤ ((2 : Int32)).toNatClampNeg) := inb_of S40 ⟨by decide, by decide⟩
    have hat40 : cl40.slots[((2 : Int32)).toNatClampNeg]? = some (.ref aU) := Has.at H40 hin40 rfl
    have k41 : ∀ t, Steps p.tables e below (T34.setTop (mkF m 22 #[.val (.int p1), .val (.ref aC), .val (.ref b2), .val (.int (4 : Int32)), .val (.int (2 : Int32)), .val (.ref aR)] [(.ref aU)])) t → Steps p.tables e below (s₁.setTop (entryFrame m #[(.int p1)] 6)) t := fun t kt => k39 t (X34.aaload hx (j := (2 : Int32)) (v := (.ref aU)) (by rw [e34]; exact Ar40.1) (State.isArrayOf_alike hZ.alike Ar40.2.1) rfl Ar40.2.2 hin40 hat40 (g := (mkF m 21 #[.val (.int p1), .val (.ref aC), .val (.ref b2), .val (.int (4 : Int32)), .val (.int (2 : Int32)), .val (.ref aR)] [(.int (2 : Int32)), (.ref b2)])) rfl rfl (hb hby d1_21) t kt)
    have k42 : ∀ t, Steps p.tables e below (T34.setTop (mkF m 26 #[.val (.int p1), .val (.ref aC), .val (.ref b2), .val (.int (4 : Int32)), .val (.int (2 : Int32)), .val (.ref aU)] [(.ref aU)])) t → Steps p.tables e below (s₁.setTop (entryFrame m #[(.int p1)] 6)) t := by
      intro t kt
      refine k41 t ?_
      show Steps p.tables e below (T34.setTop (mkF m 22 #[.val (.int p1), .val (.ref aC), .val (.ref b2), .val (.int (4 : Int32)), .val (.int (2 : Int32)), .val (.ref aR)] [(.ref aU)])) t
      refine XS.astore X34.here hx rfl (hb hby d1_22) rfl rfl (l' := #[.val (.int p1), .val (.ref aC), .val (.ref b2), .val (.int (4 : Int32)), .val (.int (2 : Int32)), .val (.ref aU)]) rfl ?_
      show Steps p.tables e below (T34.setTop (mkF m 24 #[.val (.int p1), .val (.ref aC), .val (.ref b2), .val (.int (4 : Int32)), .val (.int (2 : Int32)), .val (.ref aU)] [])) t
      refine XS.aload X34.here hx rfl (hb hby d1_24) rfl rfl ?_
      exact kt
    obtain ⟨T43, X43, e43, st43⟩ := getF X34 hx hZ hown (host := "") (Or.inl (hw _ (List.mem_of_getElem? (i := 25) rfl))) Via.refl e34 F13 (g := (mkF m 26 #[.val (.int p1), .val (.ref aC), .val (.ref b2), .val (.int (4 : Int32)), .val (.int (2 : Int32)), .val (.ref aU)] [(.ref aU)])) rfl rfl (hb hby d1_26)
    have k44 : ∀ t, Steps p.tables e below (T43.setTop (mkF m 29 #[.val (.int p1), .val (.ref aC), .val (.ref b2), .val (.int (4 : Int32)), .val (.int (2 : Int32)), .val (.ref aU)] [(.int (85 : Int32))])) t → Steps p.tables e below (s₁.setTop (entryFrame m #[(.int p1)] 6)) t := fun t kt => k42 t (st43 t kt)
    have k46 : ∀ t, Steps p.tables e below (T43.setTop (mkF m 30 #[.val (.int p1), .val (.ref aC), .val (.ref b2), .val (.int (4 : Int32)), .val (.int (2 : Int32)), .val (.ref aU)] [(.int p1), (.int (85 : Int32))])) t → Steps p.tables e below (s₁.setTop (entryFrame m #[(.int p1)] 6)) t := by
      intro t kt
      refine k44 t ?_
      show Steps p.tables e below (T43.setTop (mkF m 29 #[.val (.int p1), .val (.ref aC), .val (.ref b2), .val (.int (4 : Int32)), .val (.int (2 : Int32)), .val (.ref aU)] [(.int (85 : Int32))])) t
      refine XS.iloadN X43.here hx rfl (hb hby d1_29) rfl ?_
      exact kt
    have hc30_45 : ¬ ((85 : Int32) = p1) := by rw [← hc30_27]; decide
    have hc15_47 : (3 : Int32) < (4 : Int32) := by decide
    have k48 : ∀ t, Steps p.tables e below (T43.setTop (mkF m 21 #[.val (.int p1), .val (.ref aC), .val (.ref b2), .val (.int (4 : Int32)), .val (.int (3 : Int32)), .val (.ref aU)] [(.int (3 : Int32)), (.ref b2)])) t → Steps p.tables e below (s₁.setTop (entryFrame m #[(.int p1)] 6)) t := by
      intro t kt
      refine k46 t ?_
      show Steps p.tables e below (T43.setTop (mkF m 30 #[.val (.int p1), .val (.ref aC), .val (.ref b2), .val (.int (4 : Int32)), .val (.int (2 : Int32)), .val (.ref aU)] [(.int p1), (.int (85 : Int32))])) t
      refine XS.icmpYes X43.here hx rfl (pc0 := 30) (pc' := 36) rfl (hb hby d1_30) rfl (feq hc30_45).2 (by decide) (by decide) ?_
      show Steps p.tables e below (T43.setTop (mkF m 36 #[.val (.int p1), .val (.ref aC), .val (.ref b2), .val (.int (4 : Int32)), .val (.int (2 : Int32)), .val (.ref aU)] [])) t
      refine XS.iinc X43.here hx rfl (hb hby d1_36) rfl (l' := #[.val (.int p1), .val (.ref aC), .val (.ref b2), .val (.int (4 : Int32)), .val (.int (3 : Int32)), .val (.ref aU)]) rfl ?_
      show Steps p.tables e below (T43.setTop (mkF m 39 #[.val (.int p1), .val (.ref aC), .val (.ref b2), .val (.int (4 : Int32)), .val (.int (3 : Int32)), .val (.ref aU)] [])) t
      refine XS.goto X43.here hx rfl (pc0 := 39) (pc' := 12) rfl (hb hby d1_39) (by decide) (by decide) ?_
      show Steps p.tables e below (T43.setTop (mkF m 12 #[.val (.int p1), .val (.ref aC), .val (.ref b2), .val (.int (4 : Int32)), .val (.int (3 : Int32)), .val (.ref aU)] [])) t
      refine XS.iload X43.here hx rfl (hb hby d1_12) rfl ?_
      show Steps p.tables e below (T43.setTop (mkF m 14 #[.val (.int p1), .val (.ref aC), .val (.ref b2), .val (.int (4 : Int32)), .val (.int (3 : Int32)), .val (.ref aU)] [(.int (3 : Int32))])) t
      refine XS.iloadN X43.here hx rfl (hb hby d1_14) rfl ?_
      show Steps p.tables e below (T43.setTop (mkF m 15 #[.val (.int p1), .val (.ref aC), .val (.ref b2), .val (.int (4 : Int32)), .val (.int (3 : Int32)), .val (.ref aU)] [(.int (4 : Int32)), (.int (3 : Int32))])) t
      refine XS.icmpNo X43.here hx rfl (hb hby d1_15) rfl (tlt hc15_47).2.1 ?_
      show Steps p.tables e below (T43.setTop (mkF m 18 #[.val (.int p1), .val (.ref aC), .val (.ref b2), .val (.int (4 : Int32)), .val (.int (3 : Int32)), .val (.ref aU)] [])) t
      refine XS.aloadN X43.here hx rfl (hb hby d1_18) rfl rfl ?_
      show Steps p.tables e below (T43.setTop (mkF m 19 #[.val (.int p1), .val (.ref aC), .val (.ref b2), .val (.int (4 : Int32)), .val (.int (3 : Int32)), .val (.ref aU)] [(.ref b2)])) t
      refine XS.iload X43.here hx rfl (hb hby d1_19) rfl ?_
      exact kt
    obtain ⟨cl49, Ar49, q49, S49, M49, H49, G49⟩ := id A2
    have hin49 : ¬ ((3 : Int32) < 0 ∨ cl49.slots.size ≤ ((3 : Int32)).toNatClampNeg) := inb_of S49 ⟨by decide, by decide⟩
    have hat49 : cl49.slots[((3 : Int32)).toNatClampNeg]? = some (.ref aD) := Has.at H49 hin49 rfl
    have k50 : ∀ t, Steps p.tables e below (T43.setTop (mkF m 22 #[.val (.int p1), .val (.ref aC), .val (.ref b2), .val (.int (4 : Int32)), .val (.int (3 : Int32)), .val (.ref aU)] [(.ref aD)])) t → Steps p.tables e below (s₁.setTop (entryFrame m #[(.int p1)] 6)) t := fun t kt => k48 t (X43.aaload hx (j := (3 : Int32)) (v := (.ref aD)) (by rw [e43]; exact Ar49.1) (State.isArrayOf_alike hZ.alike Ar49.2.1) rfl Ar49.2.2 hin49 hat49 (g := (mkF m 21 #[.val (.int p1), .val (.ref aC), .val (.ref b2), .val (.int (4 : Int32)), .val (.int (3 : Int32)), .val (.ref aU)] [(.int (3 : Int32)), (.ref b2)])) rfl rfl (hb hby d1_21) t kt)
    have k51 : ∀ t, Steps p.tables e below (T43.setTop (mkF m 26 #[.val (.int p1), .val (.ref aC), .val (.ref b2), .val (.int (4 : Int32)), .val (.int (3 : Int32)), .val (.ref aD)] [(.ref aD)])) t → Steps p.tables e below (s₁.setTop (entryFrame m #[(.int p1)] 6)) t := by
      intro t kt
      refine k50 t ?_
      show Steps p.tables e below (T43.setTop (mkF m 22 #[.val (.int p1), .val (.ref aC), .val (.ref b2), .val (.int (4 : Int32)), .val (.int (3 : Int32)), .val (.ref aU)] [(.ref aD)])) t
      refine XS.astore X43.here hx rfl (hb hby d1_22) rfl rfl (l' := #[.val (.int p1), .val (.ref aC), .val (.ref b2), .val (.int (4 : Int32)), .val (.int (3 : Int32)), .val (.ref aD)]) rfl ?_
      show Steps p.tables e below (T43.setTop (mkF m 24 #[.val (.int p1), .val (.ref aC), .val (.ref b2), .val (.int (4 : Int32)), .val (.int (3 : Int32)), .val (.ref aD)] [])) t
      refine XS.aload X43.here hx rfl (hb hby d1_24) rfl rfl ?_
      exact kt
    obtain ⟨T52, X52, e52, st52⟩ := getF X43 hx hZ hown (host := "") (Or.inl (hw _ (List.mem_of_getElem? (i := 25) rfl))) Via.refl e43 F14 (g := (mkF m 26 #[.val (.int p1), .val (.ref aC), .val (.ref b2), .val (.int (4 : Int32)), .val (.int (3 : Int32)), .val (.ref aD)] [(.ref aD)])) rfl rfl (hb hby d1_26)
    have k53 : ∀ t, Steps p.tables e below (T52.setTop (mkF m 29 #[.val (.int p1), .val (.ref aC), .val (.ref b2), .val (.int (4 : Int32)), .val (.int (3 : Int32)), .val (.ref aD)] [(.int (68 : Int32))])) t → Steps p.tables e below (s₁.setTop (entryFrame m #[(.int p1)] 6)) t := fun t kt => k51 t (st52 t kt)
    have k55 : ∀ t, Steps p.tables e below (T52.setTop (mkF m 30 #[.val (.int p1), .val (.ref aC), .val (.ref b2), .val (.int (4 : Int32)), .val (.int (3 : Int32)), .val (.ref aD)] [(.int p1), (.int (68 : Int32))])) t → Steps p.tables e below (s₁.setTop (entryFrame m #[(.int p1)] 6)) t := by
      intro t kt
      refine k53 t ?_
      show Steps p.tables e below (T52.setTop (mkF m 29 #[.val (.int p1), .val (.ref aC), .val (.ref b2), .val (.int (4 : Int32)), .val (.int (3 : Int32)), .val (.ref aD)] [(.int (68 : Int32))])) t
      refine XS.iloadN X52.here hx rfl (hb hby d1_29) rfl ?_
      exact kt
    have hc30_54 : ¬ ((68 : Int32) = p1) := by rw [← hc30_27]; decide
    have hc15_56 : ¬ ((4 : Int32) < (4 : Int32)) := by decide
    have k57 : ∀ t, Steps p.tables e below (T52.setTop (mkF m 43 #[.val (.int p1), .val (.ref aC), .val (.ref b2), .val (.int (4 : Int32)), .val (.int (4 : Int32)), .val (.ref aD)] [(.ref aC)])) t → Steps p.tables e below (s₁.setTop (entryFrame m #[(.int p1)] 6)) t := by
      intro t kt
      refine k55 t ?_
      show Steps p.tables e below (T52.setTop (mkF m 30 #[.val (.int p1), .val (.ref aC), .val (.ref b2), .val (.int (4 : Int32)), .val (.int (3 : Int32)), .val (.ref aD)] [(.int p1), (.int (68 : Int32))])) t
      refine XS.icmpYes X52.here hx rfl (pc0 := 30) (pc' := 36) rfl (hb hby d1_30) rfl (feq hc30_54).2 (by decide) (by decide) ?_
      show Steps p.tables e below (T52.setTop (mkF m 36 #[.val (.int p1), .val (.ref aC), .val (.ref b2), .val (.int (4 : Int32)), .val (.int (3 : Int32)), .val (.ref aD)] [])) t
      refine XS.iinc X52.here hx rfl (hb hby d1_36) rfl (l' := #[.val (.int p1), .val (.ref aC), .val (.ref b2), .val (.int (4 : Int32)), .val (.int (4 : Int32)), .val (.ref aD)]) rfl ?_
      show Steps p.tables e below (T52.setTop (mkF m 39 #[.val (.int p1), .val (.ref aC), .val (.ref b2), .val (.int (4 : Int32)), .val (.int (4 : Int32)), .val (.ref aD)] [])) t
      refine XS.goto X52.here hx rfl (pc0 := 39) (pc' := 12) rfl (hb hby d1_39) (by decide) (by decide) ?_
      show Steps p.tables e below (T52.setTop (mkF m 12 #[.val (.int p1), .val (.ref aC), .val (.ref b2), .val (.int (4 : Int32)), .val (.int (4 : Int32)), .val (.ref aD)] [])) t
      refine XS.iload X52.here hx rfl (hb hby d1_12) rfl ?_
      show Steps p.tables e below (T52.setTop (mkF m 14 #[.val (.int p1), .val (.ref aC), .val (.ref b2), .val (.int (4 : Int32)), .val (.int (4 : Int32)), .val (.ref aD)] [(.int (4 : Int32))])) t
      refine XS.iloadN X52.here hx rfl (hb hby d1_14) rfl ?_
      show Steps p.tables e below (T52.setTop (mkF m 15 #[.val (.int p1), .val (.ref aC), .val (.ref b2), .val (.int (4 : Int32)), .val (.int (4 : Int32)), .val (.ref aD)] [(.int (4 : Int32)), (.int (4 : Int32))])) t
      refine XS.icmpYes X52.here hx rfl (pc0 := 15) (pc' := 42) rfl (hb hby d1_15) rfl (flt hc15_56).2.1 (by decide) (by decide) ?_
      show Steps p.tables e below (T52.setTop (mkF m 42 #[.val (.int p1), .val (.ref aC), .val (.ref b2), .val (.int (4 : Int32)), .val (.int (4 : Int32)), .val (.ref aD)] [])) t
      refine XS.aloadN X52.here hx rfl (hb hby d1_42) rfl rfl ?_
      exact kt
    obtain ⟨fs, hr, hrun, hended, hW, hsame⟩ := X52.leave (v := some (.ref aC)) (fun h => by rw [Bd.returns] at h; cases h)
    refine ⟨_, _, k57 _ ?_, hrun, hended, _, _, rfl, ?_, ⟨_, rfl⟩, hW, hsame.mono (by decide) (by decide)⟩
    · show Steps p.tables e below (T52.setTop (mkF m 43 #[.val (.int p1), .val (.ref aC), .val (.ref b2), .val (.int (4 : Int32)), .val (.int (4 : Int32)), .val (.ref aD)] [(.ref aC)])) _
      jvm_step X52.here [X52.here.top, hx, (hb hby d1_43), X52.method', Bd.returns, Value.isRef, FieldType.isReference]
      first | (intro acts; rw [hr _ acts rfl rfl rfl]) | rw [hr _ _ rfl rfl rfl]
      exact Steps.refl _
    · show QF Z p1 aV kc aC aR aU aD h0 n0 _ T52.heap _
      rw [e52]
      exact ⟨congrArg some (show (.ref aC) = own_op p1 aC aR aU aD from by symm; unfold own_op; rw [if_pos hc30_27.symm]), N2, K15⟩
  · have hc15_58 : (1 : Int32) < (4 : Int32) := by decide
    have k59 : ∀ t, Steps p.tables e below (T25.setTop (mkF m 21 #[.val (.int p1), .val .null, .val (.ref b2), .val (.int (4 : Int32)), .val (.int (1 : Int32)), .val (.ref aC)] [(.int (1 : Int32)), (.ref b2)])) t → Steps p.tables e below (s₁.setTop (entryFrame m #[(.int p1)] 6)) t := by
      intro t kt
      refine k28 t ?_
      show Steps p.tables e below (T25.setTop (mkF m 30 #[.val (.int p1), .val .null, .val (.ref b2), .val (.int (4 : Int32)), .val (.int (0 : Int32)), .val (.ref aC)] [(.int p1), (.int (67 : Int32))])) t
      refine XS.icmpYes X25.here hx rfl (pc0 := 30) (pc' := 36) rfl (hb hby d1_30) rfl (feq hc30_27).2 (by decide) (by decide) ?_
      show Steps p.tables e below (T25.setTop (mkF m 36 #[.val (.int p1), .val .null, .val (.ref b2), .val (.int (4 : Int32)), .val (.int (0 : Int32)), .val (.ref aC)] [])) t
      refine XS.iinc X25.here hx rfl (hb hby d1_36) rfl (l' := #[.val (.int p1), .val .null, .val (.ref b2), .val (.int (4 : Int32)), .val (.int (1 : Int32)), .val (.ref aC)]) rfl ?_
      show Steps p.tables e below (T25.setTop (mkF m 39 #[.val (.int p1), .val .null, .val (.ref b2), .val (.int (4 : Int32)), .val (.int (1 : Int32)), .val (.ref aC)] [])) t
      refine XS.goto X25.here hx rfl (pc0 := 39) (pc' := 12) rfl (hb hby d1_39) (by decide) (by decide) ?_
      show Steps p.tables e below (T25.setTop (mkF m 12 #[.val (.int p1), .val .null, .val (.ref b2), .val (.int (4 : Int32)), .val (.int (1 : Int32)), .val (.ref aC)] [])) t
      refine XS.iload X25.here hx rfl (hb hby d1_12) rfl ?_
      show Steps p.tables e below (T25.setTop (mkF m 14 #[.val (.int p1), .val .null, .val (.ref b2), .val (.int (4 : Int32)), .val (.int (1 : Int32)), .val (.ref aC)] [(.int (1 : Int32))])) t
      refine XS.iloadN X25.here hx rfl (hb hby d1_14) rfl ?_
      show Steps p.tables e below (T25.setTop (mkF m 15 #[.val (.int p1), .val .null, .val (.ref b2), .val (.int (4 : Int32)), .val (.int (1 : Int32)), .val (.ref aC)] [(.int (4 : Int32)), (.int (1 : Int32))])) t
      refine XS.icmpNo X25.here hx rfl (hb hby d1_15) rfl (tlt hc15_58).2.1 ?_
      show Steps p.tables e below (T25.setTop (mkF m 18 #[.val (.int p1), .val .null, .val (.ref b2), .val (.int (4 : Int32)), .val (.int (1 : Int32)), .val (.ref aC)] [])) t
      refine XS.aloadN X25.here hx rfl (hb hby d1_18) rfl rfl ?_
      show Steps p.tables e below (T25.setTop (mkF m 19 #[.val (.int p1), .val .null, .val (.ref b2), .val (.int (4 : Int32)), .val (.int (1 : Int32)), .val (.ref aC)] [(.ref b2)])) t
      refine XS.iload X25.here hx rfl (hb hby d1_19) rfl ?_
      exact kt
    obtain ⟨cl60, Ar60, q60, S60, M60, H60, G60⟩ := id A2
    have hin60 : ¬ ((1 : Int32) < 0 ∨ cl60.slots.size ≤ ((1 : Int32)).toNatClampNeg) := inb_of S60 ⟨by decide, by decide⟩
    have hat60 : cl60.slots[((1 : Int32)).toNatClampNeg]? = some (.ref aR) := Has.at H60 hin60 rfl
    have k61 : ∀ t, Steps p.tables e below (T25.setTop (mkF m 22 #[.val (.int p1), .val .null, .val (.ref b2), .val (.int (4 : Int32)), .val (.int (1 : Int32)), .val (.ref aC)] [(.ref aR)])) t → Steps p.tables e below (s₁.setTop (entryFrame m #[(.int p1)] 6)) t := fun t kt => k59 t (X25.aaload hx (j := (1 : Int32)) (v := (.ref aR)) (by rw [e25]; exact Ar60.1) (State.isArrayOf_alike hZ.alike Ar60.2.1) rfl Ar60.2.2 hin60 hat60 (g := (mkF m 21 #[.val (.int p1), .val .null, .val (.ref b2), .val (.int (4 : Int32)), .val (.int (1 : Int32)), .val (.ref aC)] [(.int (1 : Int32)), (.ref b2)])) rfl rfl (hb hby d1_21) t kt)
    have k62 : ∀ t, Steps p.tables e below (T25.setTop (mkF m 26 #[.val (.int p1), .val .null, .val (.ref b2), .val (.int (4 : Int32)), .val (.int (1 : Int32)), .val (.ref aR)] [(.ref aR)])) t → Steps p.tables e below (s₁.setTop (entryFrame m #[(.int p1)] 6)) t := by
      intro t kt
      refine k61 t ?_
      show Steps p.tables e below (T25.setTop (mkF m 22 #[.val (.int p1), .val .null, .val (.ref b2), .val (.int (4 : Int32)), .val (.int (1 : Int32)), .val (.ref aC)] [(.ref aR)])) t
      refine XS.astore X25.here hx rfl (hb hby d1_22) rfl rfl (l' := #[.val (.int p1), .val .null, .val (.ref b2), .val (.int (4 : Int32)), .val (.int (1 : Int32)), .val (.ref aR)]) rfl ?_
      show Steps p.tables e below (T25.setTop (mkF m 24 #[.val (.int p1), .val .null, .val (.ref b2), .val (.int (4 : Int32)), .val (.int (1 : Int32)), .val (.ref aR)] [])) t
      refine XS.aload X25.here hx rfl (hb hby d1_24) rfl rfl ?_
      exact kt
    obtain ⟨T63, X63, e63, st63⟩ := getF X25 hx hZ hown (host := "") (Or.inl (hw _ (List.mem_of_getElem? (i := 25) rfl))) Via.refl e25 F12 (g := (mkF m 26 #[.val (.int p1), .val .null, .val (.ref b2), .val (.int (4 : Int32)), .val (.int (1 : Int32)), .val (.ref aR)] [(.ref aR)])) rfl rfl (hb hby d1_26)
    have k64 : ∀ t, Steps p.tables e below (T63.setTop (mkF m 29 #[.val (.int p1), .val .null, .val (.ref b2), .val (.int (4 : Int32)), .val (.int (1 : Int32)), .val (.ref aR)] [(.int (82 : Int32))])) t → Steps p.tables e below (s₁.setTop (entryFrame m #[(.int p1)] 6)) t := fun t kt => k62 t (st63 t kt)
    have k66 : ∀ t, Steps p.tables e below (T63.setTop (mkF m 30 #[.val (.int p1), .val .null, .val (.ref b2), .val (.int (4 : Int32)), .val (.int (1 : Int32)), .val (.ref aR)] [(.int p1), (.int (82 : Int32))])) t → Steps p.tables e below (s₁.setTop (entryFrame m #[(.int p1)] 6)) t := by
      intro t kt
      refine k64 t ?_
      show Steps p.tables e below (T63.setTop (mkF m 29 #[.val (.int p1), .val .null, .val (.ref b2), .val (.int (4 : Int32)), .val (.int (1 : Int32)), .val (.ref aR)] [(.int (82 : Int32))])) t
      refine XS.iloadN X63.here hx rfl (hb hby d1_29) rfl ?_
      exact kt
    by_cases hc30_65 : (82 : Int32) = p1
    · have hc15_67 : (2 : Int32) < (4 : Int32) := by decide
      have k68 : ∀ t, Steps p.tables e below (T63.setTop (mkF m 21 #[.val (.int p1), .val (.ref aR), .val (.ref b2), .val (.int (4 : Int32)), .val (.int (2 : Int32)), .val (.ref aR)] [(.int (2 : Int32)), (.ref b2)])) t → Steps p.tables e below (s₁.setTop (entryFrame m #[(.int p1)] 6)) t := by
        intro t kt
        refine k66 t ?_
        show Steps p.tables e below (T63.setTop (mkF m 30 #[.val (.int p1), .val .null, .val (.ref b2), .val (.int (4 : Int32)), .val (.int (1 : Int32)), .val (.ref aR)] [(.int p1), (.int (82 : Int32))])) t
        refine XS.icmpNo X63.here hx rfl (hb hby d1_30) rfl (teq hc30_65).2 ?_
        show Steps p.tables e below (T63.setTop (mkF m 33 #[.val (.int p1), .val .null, .val (.ref b2), .val (.int (4 : Int32)), .val (.int (1 : Int32)), .val (.ref aR)] [])) t
        refine XS.aload X63.here hx rfl (hb hby d1_33) rfl rfl ?_
        show Steps p.tables e below (T63.setTop (mkF m 35 #[.val (.int p1), .val .null, .val (.ref b2), .val (.int (4 : Int32)), .val (.int (1 : Int32)), .val (.ref aR)] [(.ref aR)])) t
        refine XS.astoreN X63.here hx rfl (hb hby d1_35) rfl rfl (l' := #[.val (.int p1), .val (.ref aR), .val (.ref b2), .val (.int (4 : Int32)), .val (.int (1 : Int32)), .val (.ref aR)]) rfl ?_
        show Steps p.tables e below (T63.setTop (mkF m 36 #[.val (.int p1), .val (.ref aR), .val (.ref b2), .val (.int (4 : Int32)), .val (.int (1 : Int32)), .val (.ref aR)] [])) t
        refine XS.iinc X63.here hx rfl (hb hby d1_36) rfl (l' := #[.val (.int p1), .val (.ref aR), .val (.ref b2), .val (.int (4 : Int32)), .val (.int (2 : Int32)), .val (.ref aR)]) rfl ?_
        show Steps p.tables e below (T63.setTop (mkF m 39 #[.val (.int p1), .val (.ref aR), .val (.ref b2), .val (.int (4 : Int32)), .val (.int (2 : Int32)), .val (.ref aR)] [])) t
        refine XS.goto X63.here hx rfl (pc0 := 39) (pc' := 12) rfl (hb hby d1_39) (by decide) (by decide) ?_
        show Steps p.tables e below (T63.setTop (mkF m 12 #[.val (.int p1), .val (.ref aR), .val (.ref b2), .val (.int (4 : Int32)), .val (.int (2 : Int32)), .val (.ref aR)] [])) t
        refine XS.iload X63.here hx rfl (hb hby d1_12) rfl ?_
        show Steps p.tables e below (T63.setTop (mkF m 14 #[.val (.int p1), .val (.ref aR), .val (.ref b2), .val (.int (4 : Int32)), .val (.int (2 : Int32)), .val (.ref aR)] [(.int (2 : Int32))])) t
        refine XS.iloadN X63.here hx rfl (hb hby d1_14) rfl ?_
        show Steps p.tables e below (T63.setTop (mkF m 15 #[.val (.int p1), .val (.ref aR), .val (.ref b2), .val (.int (4 : Int32)), .val (.int (2 : Int32)), .val (.ref aR)] [(.int (4 : Int32)), (.int (2 : Int32))])) t
        refine XS.icmpNo X63.here hx rfl (hb hby d1_15) rfl (tlt hc15_67).2.1 ?_
        show Steps p.tables e below (T63.setTop (mkF m 18 #[.val (.int p1), .val (.ref aR), .val (.ref b2), .val (.int (4 : Int32)), .val (.int (2 : Int32)), .val (.ref aR)] [])) t
        refine XS.aloadN X63.here hx rfl (hb hby d1_18) rfl rfl ?_
        show Steps p.tables e below (T63.setTop (mkF m 19 #[.val (.int p1), .val (.ref aR), .val (.ref b2), .val (.int (4 : Int32)), .val (.int (2 : Int32)), .val (.ref aR)] [(.ref b2)])) t
        refine XS.iload X63.here hx rfl (hb hby d1_19) rfl ?_
        exact kt
      obtain ⟨cl69, Ar69, q69, S69, M69, H69, G69⟩ := id A2
      have hin69 : ¬ ((2 : Int32) < 0 ∨ cl69.slots.size ≤ ((2 : Int32)).toNatClampNeg) := inb_of S69 ⟨by decide, by decide⟩
      have hat69 : cl69.slots[((2 : Int32)).toNatClampNeg]? = some (.ref aU) := Has.at H69 hin69 rfl
      have k70 : ∀ t, Steps p.tables e below (T63.setTop (mkF m 22 #[.val (.int p1), .val (.ref aR), .val (.ref b2), .val (.int (4 : Int32)), .val (.int (2 : Int32)), .val (.ref aR)] [(.ref aU)])) t → Steps p.tables e below (s₁.setTop (entryFrame m #[(.int p1)] 6)) t := fun t kt => k68 t (X63.aaload hx (j := (2 : Int32)) (v := (.ref aU)) (by rw [e63]; exact Ar69.1) (State.isArrayOf_alike hZ.alike Ar69.2.1) rfl Ar69.2.2 hin69 hat69 (g := (mkF m 21 #[.val (.int p1), .val (.ref aR), .val (.ref b2), .val (.int (4 : Int32)), .val (.int (2 : Int32)), .val (.ref aR)] [(.int (2 : Int32)), (.ref b2)])) rfl rfl (hb hby d1_21) t kt)
      have k71 : ∀ t, Steps p.tables e below (T63.setTop (mkF m 26 #[.val (.int p1), .val (.ref aR), .val (.ref b2), .val (.int (4 : Int32)), .val (.int (2 : Int32)), .val (.ref aU)] [(.ref aU)])) t → Steps p.tables e below (s₁.setTop (entryFrame m #[(.int p1)] 6)) t := by
        intro t kt
        refine k70 t ?_
        show Steps p.tables e below (T63.setTop (mkF m 22 #[.val (.int p1), .val (.ref aR), .val (.ref b2), .val (.int (4 : Int32)), .val (.int (2 : Int32)), .val (.ref aR)] [(.ref aU)])) t
        refine XS.astore X63.here hx rfl (hb hby d1_22) rfl rfl (l' := #[.val (.int p1), .val (.ref aR), .val (.ref b2), .val (.int (4 : Int32)), .val (.int (2 : Int32)), .val (.ref aU)]) rfl ?_
        show Steps p.tables e below (T63.setTop (mkF m 24 #[.val (.int p1), .val (.ref aR), .val (.ref b2), .val (.int (4 : Int32)), .val (.int (2 : Int32)), .val (.ref aU)] [])) t
        refine XS.aload X63.here hx rfl (hb hby d1_24) rfl rfl ?_
        exact kt
      obtain ⟨T72, X72, e72, st72⟩ := getF X63 hx hZ hown (host := "") (Or.inl (hw _ (List.mem_of_getElem? (i := 25) rfl))) Via.refl e63 F13 (g := (mkF m 26 #[.val (.int p1), .val (.ref aR), .val (.ref b2), .val (.int (4 : Int32)), .val (.int (2 : Int32)), .val (.ref aU)] [(.ref aU)])) rfl rfl (hb hby d1_26)
      have k73 : ∀ t, Steps p.tables e below (T72.setTop (mkF m 29 #[.val (.int p1), .val (.ref aR), .val (.ref b2), .val (.int (4 : Int32)), .val (.int (2 : Int32)), .val (.ref aU)] [(.int (85 : Int32))])) t → Steps p.tables e below (s₁.setTop (entryFrame m #[(.int p1)] 6)) t := fun t kt => k71 t (st72 t kt)
      have k75 : ∀ t, Steps p.tables e below (T72.setTop (mkF m 30 #[.val (.int p1), .val (.ref aR), .val (.ref b2), .val (.int (4 : Int32)), .val (.int (2 : Int32)), .val (.ref aU)] [(.int p1), (.int (85 : Int32))])) t → Steps p.tables e below (s₁.setTop (entryFrame m #[(.int p1)] 6)) t := by
        intro t kt
        refine k73 t ?_
        show Steps p.tables e below (T72.setTop (mkF m 29 #[.val (.int p1), .val (.ref aR), .val (.ref b2), .val (.int (4 : Int32)), .val (.int (2 : Int32)), .val (.ref aU)] [(.int (85 : Int32))])) t
        refine XS.iloadN X72.here hx rfl (hb hby d1_29) rfl ?_
        exact kt
      have hc30_74 : ¬ ((85 : Int32) = p1) := by rw [← hc30_65]; decide
      have hc15_76 : (3 : Int32) < (4 : Int32) := by decide
      have k77 : ∀ t, Steps p.tables e below (T72.setTop (mkF m 21 #[.val (.int p1), .val (.ref aR), .val (.ref b2), .val (.int (4 : Int32)), .val (.int (3 : Int32)), .val (.ref aU)] [(.int (3 : Int32)), (.ref b2)])) t → Steps p.tables e below (s₁.setTop (entryFrame m #[(.int p1)] 6)) t := by
        intro t kt
        refine k75 t ?_
        show Steps p.tables e below (T72.setTop (mkF m 30 #[.val (.int p1), .val (.ref aR), .val (.ref b2), .val (.int (4 : Int32)), .val (.int (2 : Int32)), .val (.ref aU)] [(.int p1), (.int (85 : Int32))])) t
        refine XS.icmpYes X72.here hx rfl (pc0 := 30) (pc' := 36) rfl (hb hby d1_30) rfl (feq hc30_74).2 (by decide) (by decide) ?_
        show Steps p.tables e below (T72.setTop (mkF m 36 #[.val (.int p1), .val (.ref aR), .val (.ref b2), .val (.int (4 : Int32)), .val (.int (2 : Int32)), .val (.ref aU)] [])) t
        refine XS.iinc X72.here hx rfl (hb hby d1_36) rfl (l' := #[.val (.int p1), .val (.ref aR), .val (.ref b2), .val (.int (4 : Int32)), .val (.int (3 : Int32)), .val (.ref aU)]) rfl ?_
        show Steps p.tables e below (T72.setTop (mkF m 39 #[.val (.int p1), .val (.ref aR), .val (.ref b2), .val (.int (4 : Int32)), .val (.int (3 : Int32)), .val (.ref aU)] [])) t
        refine XS.goto X72.here hx rfl (pc0 := 39) (pc' := 12) rfl (hb hby d1_39) (by decide) (by decide) ?_
        show Steps p.tables e below (T72.setTop (mkF m 12 #[.val (.int p1), .val (.ref aR), .val (.ref b2), .val (.int (4 : Int32)), .val (.int (3 : Int32)), .val (.ref aU)] [])) t
        refine XS.iload X72.here hx rfl (hb hby d1_12) rfl ?_
        show Steps p.tables e below (T72.setTop (mkF m 14 #[.val (.int p1), .val (.ref aR), .val (.ref b2), .val (.int (4 : Int32)), .val (.int (3 : Int32)), .val (.ref aU)] [(.int (3 : Int32))])) t
        refine XS.iloadN X72.here hx rfl (hb hby d1_14) rfl ?_
        show Steps p.tables e below (T72.setTop (mkF m 15 #[.val (.int p1), .val (.ref aR), .val (.ref b2), .val (.int (4 : Int32)), .val (.int (3 : Int32)), .val (.ref aU)] [(.int (4 : Int32)), (.int (3 : Int32))])) t
        refine XS.icmpNo X72.here hx rfl (hb hby d1_15) rfl (tlt hc15_76).2.1 ?_
        show Steps p.tables e below (T72.setTop (mkF m 18 #[.val (.int p1), .val (.ref aR), .val (.ref b2), .val (.int (4 : Int32)), .val (.int (3 : Int32)), .val (.ref aU)] [])) t
        refine XS.aloadN X72.here hx rfl (hb hby d1_18) rfl rfl ?_
        show Steps p.tables e below (T72.setTop (mkF m 19 #[.val (.int p1), .val (.ref aR), .val (.ref b2), .val (.int (4 : Int32)), .val (.int (3 : Int32)), .val (.ref aU)] [(.ref b2)])) t
        refine XS.iload X72.here hx rfl (hb hby d1_19) rfl ?_
        exact kt
      obtain ⟨cl78, Ar78, q78, S78, M78, H78, G78⟩ := id A2
      have hin78 : ¬ ((3 : Int32) < 0 ∨ cl78.slots.size ≤ ((3 : Int32)).toNatClampNeg) := inb_of S78 ⟨by decide, by decide⟩
      have hat78 : cl78.slots[((3 : Int32)).toNatClampNeg]? = some (.ref aD) := Has.at H78 hin78 rfl
      have k79 : ∀ t, Steps p.tables e below (T72.setTop (mkF m 22 #[.val (.int p1), .val (.ref aR), .val (.ref b2), .val (.int (4 : Int32)), .val (.int (3 : Int32)), .val (.ref aU)] [(.ref aD)])) t → Steps p.tables e below (s₁.setTop (entryFrame m #[(.int p1)] 6)) t := fun t kt => k77 t (X72.aaload hx (j := (3 : Int32)) (v := (.ref aD)) (by rw [e72]; exact Ar78.1) (State.isArrayOf_alike hZ.alike Ar78.2.1) rfl Ar78.2.2 hin78 hat78 (g := (mkF m 21 #[.val (.int p1), .val (.ref aR), .val (.ref b2), .val (.int (4 : Int32)), .val (.int (3 : Int32)), .val (.ref aU)] [(.int (3 : Int32)), (.ref b2)])) rfl rfl (hb hby d1_21) t kt)
      have k80 : ∀ t, Steps p.tables e below (T72.setTop (mkF m 26 #[.val (.int p1), .val (.ref aR), .val (.ref b2), .val (.int (4 : Int32)), .val (.int (3 : Int32)), .val (.ref aD)] [(.ref aD)])) t → Steps p.tables e below (s₁.setTop (entryFrame m #[(.int p1)] 6)) t := by
        intro t kt
        refine k79 t ?_
        show Steps p.tables e below (T72.setTop (mkF m 22 #[.val (.int p1), .val (.ref aR), .val (.ref b2), .val (.int (4 : Int32)), .val (.int (3 : Int32)), .val (.ref aU)] [(.ref aD)])) t
        refine XS.astore X72.here hx rfl (hb hby d1_22) rfl rfl (l' := #[.val (.int p1), .val (.ref aR), .val (.ref b2), .val (.int (4 : Int32)), .val (.int (3 : Int32)), .val (.ref aD)]) rfl ?_
        show Steps p.tables e below (T72.setTop (mkF m 24 #[.val (.int p1), .val (.ref aR), .val (.ref b2), .val (.int (4 : Int32)), .val (.int (3 : Int32)), .val (.ref aD)] [])) t
        refine XS.aload X72.here hx rfl (hb hby d1_24) rfl rfl ?_
        exact kt
      obtain ⟨T81, X81, e81, st81⟩ := getF X72 hx hZ hown (host := "") (Or.inl (hw _ (List.mem_of_getElem? (i := 25) rfl))) Via.refl e72 F14 (g := (mkF m 26 #[.val (.int p1), .val (.ref aR), .val (.ref b2), .val (.int (4 : Int32)), .val (.int (3 : Int32)), .val (.ref aD)] [(.ref aD)])) rfl rfl (hb hby d1_26)
      have k82 : ∀ t, Steps p.tables e below (T81.setTop (mkF m 29 #[.val (.int p1), .val (.ref aR), .val (.ref b2), .val (.int (4 : Int32)), .val (.int (3 : Int32)), .val (.ref aD)] [(.int (68 : Int32))])) t → Steps p.tables e below (s₁.setTop (entryFrame m #[(.int p1)] 6)) t := fun t kt => k80 t (st81 t kt)
      have k84 : ∀ t, Steps p.tables e below (T81.setTop (mkF m 30 #[.val (.int p1), .val (.ref aR), .val (.ref b2), .val (.int (4 : Int32)), .val (.int (3 : Int32)), .val (.ref aD)] [(.int p1), (.int (68 : Int32))])) t → Steps p.tables e below (s₁.setTop (entryFrame m #[(.int p1)] 6)) t := by
        intro t kt
        refine k82 t ?_
        show Steps p.tables e below (T81.setTop (mkF m 29 #[.val (.int p1), .val (.ref aR), .val (.ref b2), .val (.int (4 : Int32)), .val (.int (3 : Int32)), .val (.ref aD)] [(.int (68 : Int32))])) t
        refine XS.iloadN X81.here hx rfl (hb hby d1_29) rfl ?_
        exact kt
      have hc30_83 : ¬ ((68 : Int32) = p1) := by rw [← hc30_65]; decide
      have hc15_85 : ¬ ((4 : Int32) < (4 : Int32)) := by decide
      have k86 : ∀ t, Steps p.tables e below (T81.setTop (mkF m 43 #[.val (.int p1), .val (.ref aR), .val (.ref b2), .val (.int (4 : Int32)), .val (.int (4 : Int32)), .val (.ref aD)] [(.ref aR)])) t → Steps p.tables e below (s₁.setTop (entryFrame m #[(.int p1)] 6)) t := by
        intro t kt
        refine k84 t ?_
        show Steps p.tables e below (T81.setTop (mkF m 30 #[.val (.int p1), .val (.ref aR), .val (.ref b2), .val (.int (4 : Int32)), .val (.int (3 : Int32)), .val (.ref aD)] [(.int p1), (.int (68 : Int32))])) t
        refine XS.icmpYes X81.here hx rfl (pc0 := 30) (pc' := 36) rfl (hb hby d1_30) rfl (feq hc30_83).2 (by decide) (by decide) ?_
        show Steps p.tables e below (T81.setTop (mkF m 36 #[.val (.int p1), .val (.ref aR), .val (.ref b2), .val (.int (4 : Int32)), .val (.int (3 : Int32)), .val (.ref aD)] [])) t
        refine XS.iinc X81.here hx rfl (hb hby d1_36) rfl (l' := #[.val (.int p1), .val (.ref aR), .val (.ref b2), .val (.int (4 : Int32)), .val (.int (4 : Int32)), .val (.ref aD)]) rfl ?_
        show Steps p.tables e below (T81.setTop (mkF m 39 #[.val (.int p1), .val (.ref aR), .val (.ref b2), .val (.int (4 : Int32)), .val (.int (4 : Int32)), .val (.ref aD)] [])) t
        refine XS.goto X81.here hx rfl (pc0 := 39) (pc' := 12) rfl (hb hby d1_39) (by decide) (by decide) ?_
        show Steps p.tables e below (T81.setTop (mkF m 12 #[.val (.int p1), .val (.ref aR), .val (.ref b2), .val (.int (4 : Int32)), .val (.int (4 : Int32)), .val (.ref aD)] [])) t
        refine XS.iload X81.here hx rfl (hb hby d1_12) rfl ?_
        show Steps p.tables e below (T81.setTop (mkF m 14 #[.val (.int p1), .val (.ref aR), .val (.ref b2), .val (.int (4 : Int32)), .val (.int (4 : Int32)), .val (.ref aD)] [(.int (4 : Int32))])) t
        refine XS.iloadN X81.here hx rfl (hb hby d1_14) rfl ?_
        show Steps p.tables e below (T81.setTop (mkF m 15 #[.val (.int p1), .val (.ref aR), .val (.ref b2), .val (.int (4 : Int32)), .val (.int (4 : Int32)), .val (.ref aD)] [(.int (4 : Int32)), (.int (4 : Int32))])) t
        refine XS.icmpYes X81.here hx rfl (pc0 := 15) (pc' := 42) rfl (hb hby d1_15) rfl (flt hc15_85).2.1 (by decide) (by decide) ?_
        show Steps p.tables e below (T81.setTop (mkF m 42 #[.val (.int p1), .val (.ref aR), .val (.ref b2), .val (.int (4 : Int32)), .val (.int (4 : Int32)), .val (.ref aD)] [])) t
        refine XS.aloadN X81.here hx rfl (hb hby d1_42) rfl rfl ?_
        exact kt
      obtain ⟨fs, hr, hrun, hended, hW, hsame⟩ := X81.leave (v := some (.ref aR)) (fun h => by rw [Bd.returns] at h; cases h)
      refine ⟨_, _, k86 _ ?_, hrun, hended, _, _, rfl, ?_, ⟨_, rfl⟩, hW, hsame.mono (by decide) (by decide)⟩
      · show Steps p.tables e below (T81.setTop (mkF m 43 #[.val (.int p1), .val (.ref aR), .val (.ref b2), .val (.int (4 : Int32)), .val (.int (4 : Int32)), .val (.ref aD)] [(.ref aR)])) _
        jvm_step X81.here [X81.here.top, hx, (hb hby d1_43), X81.method', Bd.returns, Value.isRef, FieldType.isReference]
        first | (intro acts; rw [hr _ acts rfl rfl rfl]) | rw [hr _ _ rfl rfl rfl]
        exact Steps.refl _
      · show QF Z p1 aV kc aC aR aU aD h0 n0 _ T81.heap _
        rw [e81]
        exact ⟨congrArg some (show (.ref aR) = own_op p1 aC aR aU aD from by symm; unfold own_op; rw [if_neg (fun q => hc30_27 q.symm), if_pos hc30_65.symm]), N2, K15⟩
    · have hc15_87 : (2 : Int32) < (4 : Int32) := by decide
      have k88 : ∀ t, Steps p.tables e below (T63.setTop (mkF m 21 #[.val (.int p1), .val .null, .val (.ref b2), .val (.int (4 : Int32)), .val (.int (2 : Int32)), .val (.ref aR)] [(.int (2 : Int32)), (.ref b2)])) t → Steps p.tables e below (s₁.setTop (entryFrame m #[(.int p1)] 6)) t := by
        intro t kt
        refine k66 t ?_
        show Steps p.tables e below (T63.setTop (mkF m 30 #[.val (.int p1), .val .null, .val (.ref b2), .val (.int (4 : Int32)), .val (.int (1 : Int32)), .val (.ref aR)] [(.int p1), (.int (82 : Int32))])) t
        refine XS.icmpYes X63.here hx rfl (pc0 := 30) (pc' := 36) rfl (hb hby d1_30) rfl (feq hc30_65).2 (by decide) (by decide) ?_
        show Steps p.tables e below (T63.setTop (mkF m 36 #[.val (.int p1), .val .null, .val (.ref b2), .val (.int (4 : Int32)), .val (.int (1 : Int32)), .val (.ref aR)] [])) t
        refine XS.iinc X63.here hx rfl (hb hby d1_36) rfl (l' := #[.val (.int p1), .val .null, .val (.ref b2), .val (.int (4 : Int32)), .val (.int (2 : Int32)), .val (.ref aR)]) rfl ?_
        show Steps p.tables e below (T63.setTop (mkF m 39 #[.val (.int p1), .val .null, .val (.ref b2), .val (.int (4 : Int32)), .val (.int (2 : Int32)), .val (.ref aR)] [])) t
        refine XS.goto X63.here hx rfl (pc0 := 39) (pc' := 12) rfl (hb hby d1_39) (by decide) (by decide) ?_
        show Steps p.tables e below (T63.setTop (mkF m 12 #[.val (.int p1), .val .null, .val (.ref b2), .val (.int (4 : Int32)), .val (.int (2 : Int32)), .val (.ref aR)] [])) t
        refine XS.iload X63.here hx rfl (hb hby d1_12) rfl ?_
        show Steps p.tables e below (T63.setTop (mkF m 14 #[.val (.int p1), .val .null, .val (.ref b2), .val (.int (4 : Int32)), .val (.int (2 : Int32)), .val (.ref aR)] [(.int (2 : Int32))])) t
        refine XS.iloadN X63.here hx rfl (hb hby d1_14) rfl ?_
        show Steps p.tables e below (T63.setTop (mkF m 15 #[.val (.int p1), .val .null, .val (.ref b2), .val (.int (4 : Int32)), .val (.int (2 : Int32)), .val (.ref aR)] [(.int (4 : Int32)), (.int (2 : Int32))])) t
        refine XS.icmpNo X63.here hx rfl (hb hby d1_15) rfl (tlt hc15_87).2.1 ?_
        show Steps p.tables e below (T63.setTop (mkF m 18 #[.val (.int p1), .val .null, .val (.ref b2), .val (.int (4 : Int32)), .val (.int (2 : Int32)), .val (.ref aR)] [])) t
        refine XS.aloadN X63.here hx rfl (hb hby d1_18) rfl rfl ?_
        show Steps p.tables e below (T63.setTop (mkF m 19 #[.val (.int p1), .val .null, .val (.ref b2), .val (.int (4 : Int32)), .val (.int (2 : Int32)), .val (.ref aR)] [(.ref b2)])) t
        refine XS.iload X63.here hx rfl (hb hby d1_19) rfl ?_
        exact kt
      obtain ⟨cl89, Ar89, q89, S89, M89, H89, G89⟩ := id A2
      have hin89 : ¬ ((2 : Int32) < 0 ∨ cl89.slots.size ≤ ((2 : Int32)).toNatClampNeg) := inb_of S89 ⟨by decide, by decide⟩
      have hat89 : cl89.slots[((2 : Int32)).toNatClampNeg]? = some (.ref aU) := Has.at H89 hin89 rfl
      have k90 : ∀ t, Steps p.tables e below (T63.setTop (mkF m 22 #[.val (.int p1), .val .null, .val (.ref b2), .val (.int (4 : Int32)), .val (.int (2 : Int32)), .val (.ref aR)] [(.ref aU)])) t → Steps p.tables e below (s₁.setTop (entryFrame m #[(.int p1)] 6)) t := fun t kt => k88 t (X63.aaload hx (j := (2 : Int32)) (v := (.ref aU)) (by rw [e63]; exact Ar89.1) (State.isArrayOf_alike hZ.alike Ar89.2.1) rfl Ar89.2.2 hin89 hat89 (g := (mkF m 21 #[.val (.int p1), .val .null, .val (.ref b2), .val (.int (4 : Int32)), .val (.int (2 : Int32)), .val (.ref aR)] [(.int (2 : Int32)), (.ref b2)])) rfl rfl (hb hby d1_21) t kt)
      have k91 : ∀ t, Steps p.tables e below (T63.setTop (mkF m 26 #[.val (.int p1), .val .null, .val (.ref b2), .val (.int (4 : Int32)), .val (.int (2 : Int32)), .val (.ref aU)] [(.ref aU)])) t → Steps p.tables e below (s₁.setTop (entryFrame m #[(.int p1)] 6)) t := by
        intro t kt
        refine k90 t ?_
        show Steps p.tables e below (T63.setTop (mkF m 22 #[.val (.int p1), .val .null, .val (.ref b2), .val (.int (4 : Int32)), .val (.int (2 : Int32)), .val (.ref aR)] [(.ref aU)])) t
        refine XS.astore X63.here hx rfl (hb hby d1_22) rfl rfl (l' := #[.val (.int p1), .val .null, .val (.ref b2), .val (.int (4 : Int32)), .val (.int (2 : Int32)), .val (.ref aU)]) rfl ?_
        show Steps p.tables e below (T63.setTop (mkF m 24 #[.val (.int p1), .val .null, .val (.ref b2), .val (.int (4 : Int32)), .val (.int (2 : Int32)), .val (.ref aU)] [])) t
        refine XS.aload X63.here hx rfl (hb hby d1_24) rfl rfl ?_
        exact kt
      obtain ⟨T92, X92, e92, st92⟩ := getF X63 hx hZ hown (host := "") (Or.inl (hw _ (List.mem_of_getElem? (i := 25) rfl))) Via.refl e63 F13 (g := (mkF m 26 #[.val (.int p1), .val .null, .val (.ref b2), .val (.int (4 : Int32)), .val (.int (2 : Int32)), .val (.ref aU)] [(.ref aU)])) rfl rfl (hb hby d1_26)
      have k93 : ∀ t, Steps p.tables e below (T92.setTop (mkF m 29 #[.val (.int p1), .val .null, .val (.ref b2), .val (.int (4 : Int32)), .val (.int (2 : Int32)), .val (.ref aU)] [(.int (85 : Int32))])) t → Steps p.tables e below (s₁.setTop (entryFrame m #[(.int p1)] 6)) t := fun t kt => k91 t (st92 t kt)
      have k95 : ∀ t, Steps p.tables e below (T92.setTop (mkF m 30 #[.val (.int p1), .val .null, .val (.ref b2), .val (.int (4 : Int32)), .val (.int (2 : Int32)), .val (.ref aU)] [(.int p1), (.int (85 : Int32))])) t → Steps p.tables e below (s₁.setTop (entryFrame m #[(.int p1)] 6)) t := by
        intro t kt
        refine k93 t ?_
        show Steps p.tables e below (T92.setTop (mkF m 29 #[.val (.int p1), .val .null, .val (.ref b2), .val (.int (4 : Int32)), .val (.int (2 : Int32)), .val (.ref aU)] [(.int (85 : Int32))])) t
        refine XS.iloadN X92.here hx rfl (hb hby d1_29) rfl ?_
        exact kt
      by_cases hc30_94 : (85 : Int32) = p1
      · have hc15_96 : (3 : Int32) < (4 : Int32) := by decide
        have k97 : ∀ t, Steps p.tables e below (T92.setTop (mkF m 21 #[.val (.int p1), .val (.ref aU), .val (.ref b2), .val (.int (4 : Int32)), .val (.int (3 : Int32)), .val (.ref aU)] [(.int (3 : Int32)), (.ref b2)])) t → Steps p.tables e below (s₁.setTop (entryFrame m #[(.int p1)] 6)) t := by
          intro t kt
          refine k95 t ?_
          show Steps p.tables e below (T92.setTop (mkF m 30 #[.val (.int p1), .val .null, .val (.ref b2), .val (.int (4 : Int32)), .val (.int (2 : Int32)), .val (.ref aU)] [(.int p1), (.int (85 : Int32))])) t
          refine XS.icmpNo X92.here hx rfl (hb hby d1_30) rfl (teq hc30_94).2 ?_
          show Steps p.tables e below (T92.setTop (mkF m 33 #[.val (.int p1), .val .null, .val (.ref b2), .val (.int (4 : Int32)), .val (.int (2 : Int32)), .val (.ref aU)] [])) t
          refine XS.aload X92.here hx rfl (hb hby d1_33) rfl rfl ?_
          show Steps p.tables e below (T92.setTop (mkF m 35 #[.val (.int p1), .val .null, .val (.ref b2), .val (.int (4 : Int32)), .val (.int (2 : Int32)), .val (.ref aU)] [(.ref aU)])) t
          refine XS.astoreN X92.here hx rfl (hb hby d1_35) rfl rfl (l' := #[.val (.int p1), .val (.ref aU), .val (.ref b2), .val (.int (4 : Int32)), .val (.int (2 : Int32)), .val (.ref aU)]) rfl ?_
          show Steps p.tables e below (T92.setTop (mkF m 36 #[.val (.int p1), .val (.ref aU), .val (.ref b2), .val (.int (4 : Int32)), .val (.int (2 : Int32)), .val (.ref aU)] [])) t
          refine XS.iinc X92.here hx rfl (hb hby d1_36) rfl (l' := #[.val (.int p1), .val (.ref aU), .val (.ref b2), .val (.int (4 : Int32)), .val (.int (3 : Int32)), .val (.ref aU)]) rfl ?_
          show Steps p.tables e below (T92.setTop (mkF m 39 #[.val (.int p1), .val (.ref aU), .val (.ref b2), .val (.int (4 : Int32)), .val (.int (3 : Int32)), .val (.ref aU)] [])) t
          refine XS.goto X92.here hx rfl (pc0 := 39) (pc' := 12) rfl (hb hby d1_39) (by decide) (by decide) ?_
          show Steps p.tables e below (T92.setTop (mkF m 12 #[.val (.int p1), .val (.ref aU), .val (.ref b2), .val (.int (4 : Int32)), .val (.int (3 : Int32)), .val (.ref aU)] [])) t
          refine XS.iload X92.here hx rfl (hb hby d1_12) rfl ?_
          show Steps p.tables e below (T92.setTop (mkF m 14 #[.val (.int p1), .val (.ref aU), .val (.ref b2), .val (.int (4 : Int32)), .val (.int (3 : Int32)), .val (.ref aU)] [(.int (3 : Int32))])) t
          refine XS.iloadN X92.here hx rfl (hb hby d1_14) rfl ?_
          show Steps p.tables e below (T92.setTop (mkF m 15 #[.val (.int p1), .val (.ref aU), .val (.ref b2), .val (.int (4 : Int32)), .val (.int (3 : Int32)), .val (.ref aU)] [(.int (4 : Int32)), (.int (3 : Int32))])) t
          refine XS.icmpNo X92.here hx rfl (hb hby d1_15) rfl (tlt hc15_96).2.1 ?_
          show Steps p.tables e below (T92.setTop (mkF m 18 #[.val (.int p1), .val (.ref aU), .val (.ref b2), .val (.int (4 : Int32)), .val (.int (3 : Int32)), .val (.ref aU)] [])) t
          refine XS.aloadN X92.here hx rfl (hb hby d1_18) rfl rfl ?_
          show Steps p.tables e below (T92.setTop (mkF m 19 #[.val (.int p1), .val (.ref aU), .val (.ref b2), .val (.int (4 : Int32)), .val (.int (3 : Int32)), .val (.ref aU)] [(.ref b2)])) t
          refine XS.iload X92.here hx rfl (hb hby d1_19) rfl ?_
          exact kt
        obtain ⟨cl98, Ar98, q98, S98, M98, H98, G98⟩ := id A2
        have hin98 : ¬ ((3 : Int32) < 0 ∨ cl98.slots.size ≤ ((3 : Int32)).toNatClampNeg) := inb_of S98 ⟨by decide, by decide⟩
        have hat98 : cl98.slots[((3 : Int32)).toNatClampNeg]? = some (.ref aD) := Has.at H98 hin98 rfl
        have k99 : ∀ t, Steps p.tables e below (T92.setTop (mkF m 22 #[.val (.int p1), .val (.ref aU), .val (.ref b2), .val (.int (4 : Int32)), .val (.int (3 : Int32)), .val (.ref aU)] [(.ref aD)])) t → Steps p.tables e below (s₁.setTop (entryFrame m #[(.int p1)] 6)) t := fun t kt => k97 t (X92.aaload hx (j := (3 : Int32)) (v := (.ref aD)) (by rw [e92]; exact Ar98.1) (State.isArrayOf_alike hZ.alike Ar98.2.1) rfl Ar98.2.2 hin98 hat98 (g := (mkF m 21 #[.val (.int p1), .val (.ref aU), .val (.ref b2), .val (.int (4 : Int32)), .val (.int (3 : Int32)), .val (.ref aU)] [(.int (3 : Int32)), (.ref b2)])) rfl rfl (hb hby d1_21) t kt)
        have k100 : ∀ t, Steps p.tables e below (T92.setTop (mkF m 26 #[.val (.int p1), .val (.ref aU), .val (.ref b2), .val (.int (4 : Int32)), .val (.int (3 : Int32)), .val (.ref aD)] [(.ref aD)])) t → Steps p.tables e below (s₁.setTop (entryFrame m #[(.int p1)] 6)) t := by
          intro t kt
          refine k99 t ?_
          show Steps p.tables e below (T92.setTop (mkF m 22 #[.val (.int p1), .val (.ref aU), .val (.ref b2), .val (.int (4 : Int32)), .val (.int (3 : Int32)), .val (.ref aU)] [(.ref aD)])) t
          refine XS.astore X92.here hx rfl (hb hby d1_22) rfl rfl (l' := #[.val (.int p1), .val (.ref aU), .val (.ref b2), .val (.int (4 : Int32)), .val (.int (3 : Int32)), .val (.ref aD)]) rfl ?_
          show Steps p.tables e below (T92.setTop (mkF m 24 #[.val (.int p1), .val (.ref aU), .val (.ref b2), .val (.int (4 : Int32)), .val (.int (3 : Int32)), .val (.ref aD)] [])) t
          refine XS.aload X92.here hx rfl (hb hby d1_24) rfl rfl ?_
          exact kt
        obtain ⟨T101, X101, e101, st101⟩ := getF X92 hx hZ hown (host := "") (Or.inl (hw _ (List.mem_of_getElem? (i := 25) rfl))) Via.refl e92 F14 (g := (mkF m 26 #[.val (.int p1), .val (.ref aU), .val (.ref b2), .val (.int (4 : Int32)), .val (.int (3 : Int32)), .val (.ref aD)] [(.ref aD)])) rfl rfl (hb hby d1_26)
        have k102 : ∀ t, Steps p.tables e below (T101.setTop (mkF m 29 #[.val (.int p1), .val (.ref aU), .val (.ref b2), .val (.int (4 : Int32)), .val (.int (3 : Int32)), .val (.ref aD)] [(.int (68 : Int32))])) t → Steps p.tables e below (s₁.setTop (entryFrame m #[(.int p1)] 6)) t := fun t kt => k100 t (st101 t kt)
        have k104 : ∀ t, Steps p.tables e below (T101.setTop (mkF m 30 #[.val (.int p1), .val (.ref aU), .val (.ref b2), .val (.int (4 : Int32)), .val (.int (3 : Int32)), .val (.ref aD)] [(.int p1), (.int (68 : Int32))])) t → Steps p.tables e below (s₁.setTop (entryFrame m #[(.int p1)] 6)) t := by
          intro t kt
          refine k102 t ?_
          show Steps p.tables e below (T101.setTop (mkF m 29 #[.val (.int p1), .val (.ref aU), .val (.ref b2), .val (.int (4 : Int32)), .val (.int (3 : Int32)), .val (.ref aD)] [(.int (68 : Int32))])) t
          refine XS.iloadN X101.here hx rfl (hb hby d1_29) rfl ?_
          exact kt
        have hc30_103 : ¬ ((68 : Int32) = p1) := by rw [← hc30_94]; decide
        have hc15_105 : ¬ ((4 : Int32) < (4 : Int32)) := by decide
        have k106 : ∀ t, Steps p.tables e below (T101.setTop (mkF m 43 #[.val (.int p1), .val (.ref aU), .val (.ref b2), .val (.int (4 : Int32)), .val (.int (4 : Int32)), .val (.ref aD)] [(.ref aU)])) t → Steps p.tables e below (s₁.setTop (entryFrame m #[(.int p1)] 6)) t := by
          intro t kt
          refine k104 t ?_
          show Steps p.tables e below (T101.setTop (mkF m 30 #[.val (.int p1), .val (.ref aU), .val (.ref b2), .val (.int (4 : Int32)), .val (.int (3 : Int32)), .val (.ref aD)] [(.int p1), (.int (68 : Int32))])) t
          refine XS.icmpYes X101.here hx rfl (pc0 := 30) (pc' := 36) rfl (hb hby d1_30) rfl (feq hc30_103).2 (by decide) (by decide) ?_
          show Steps p.tables e below (T101.setTop (mkF m 36 #[.val (.int p1), .val (.ref aU), .val (.ref b2), .val (.int (4 : Int32)), .val (.int (3 : Int32)), .val (.ref aD)] [])) t
          refine XS.iinc X101.here hx rfl (hb hby d1_36) rfl (l' := #[.val (.int p1), .val (.ref aU), .val (.ref b2), .val (.int (4 : Int32)), .val (.int (4 : Int32)), .val (.ref aD)]) rfl ?_
          show Steps p.tables e below (T101.setTop (mkF m 39 #[.val (.int p1), .val (.ref aU), .val (.ref b2), .val (.int (4 : Int32)), .val (.int (4 : Int32)), .val (.ref aD)] [])) t
          refine XS.goto X101.here hx rfl (pc0 := 39) (pc' := 12) rfl (hb hby d1_39) (by decide) (by decide) ?_
          show Steps p.tables e below (T101.setTop (mkF m 12 #[.val (.int p1), .val (.ref aU), .val (.ref b2), .val (.int (4 : Int32)), .val (.int (4 : Int32)), .val (.ref aD)] [])) t
          refine XS.iload X101.here hx rfl (hb hby d1_12) rfl ?_
          show Steps p.tables e below (T101.setTop (mkF m 14 #[.val (.int p1), .val (.ref aU), .val (.ref b2), .val (.int (4 : Int32)), .val (.int (4 : Int32)), .val (.ref aD)] [(.int (4 : Int32))])) t
          refine XS.iloadN X101.here hx rfl (hb hby d1_14) rfl ?_
          show Steps p.tables e below (T101.setTop (mkF m 15 #[.val (.int p1), .val (.ref aU), .val (.ref b2), .val (.int (4 : Int32)), .val (.int (4 : Int32)), .val (.ref aD)] [(.int (4 : Int32)), (.int (4 : Int32))])) t
          refine XS.icmpYes X101.here hx rfl (pc0 := 15) (pc' := 42) rfl (hb hby d1_15) rfl (flt hc15_105).2.1 (by decide) (by decide) ?_
          show Steps p.tables e below (T101.setTop (mkF m 42 #[.val (.int p1), .val (.ref aU), .val (.ref b2), .val (.int (4 : Int32)), .val (.int (4 : Int32)), .val (.ref aD)] [])) t
          refine XS.aloadN X101.here hx rfl (hb hby d1_42) rfl rfl ?_
          exact kt
        obtain ⟨fs, hr, hrun, hended, hW, hsame⟩ := X101.leave (v := some (.ref aU)) (fun h => by rw [Bd.returns] at h; cases h)
        refine ⟨_, _, k106 _ ?_, hrun, hended, _, _, rfl, ?_, ⟨_, rfl⟩, hW, hsame.mono (by decide) (by decide)⟩
        · show Steps p.tables e below (T101.setTop (mkF m 43 #[.val (.int p1), .val (.ref aU), .val (.ref b2), .val (.int (4 : Int32)), .val (.int (4 : Int32)), .val (.ref aD)] [(.ref aU)])) _
          jvm_step X101.here [X101.here.top, hx, (hb hby d1_43), X101.method', Bd.returns, Value.isRef, FieldType.isReference]
          first | (intro acts; rw [hr _ acts rfl rfl rfl]) | rw [hr _ _ rfl rfl rfl]
          exact Steps.refl _
        · show QF Z p1 aV kc aC aR aU aD h0 n0 _ T101.heap _
          rw [e101]
          exact ⟨congrArg some (show (.ref aU) = own_op p1 aC aR aU aD from by symm; unfold own_op; rw [if_neg (fun q => hc30_27 q.symm), if_neg (fun q => hc30_65 q.symm), if_pos hc30_94.symm]), N2, K15⟩
      · have hc15_107 : (3 : Int32) < (4 : Int32) := by decide
        have k108 : ∀ t, Steps p.tables e below (T92.setTop (mkF m 21 #[.val (.int p1), .val .null, .val (.ref b2), .val (.int (4 : Int32)), .val (.int (3 : Int32)), .val (.ref aU)] [(.int (3 : Int32)), (.ref b2)])) t → Steps p.tables e below (s₁.setTop (entryFrame m #[(.int p1)] 6)) t := by
          intro t kt
          refine k95 t ?_
          show Steps p.tables e below (T92.setTop (mkF m 30 #[.val (.int p1), .val .null, .val (.ref b2), .val (.int (4 : Int32)), .val (.int (2 : Int32)), .val (.ref aU)] [(.int p1), (.int (85 : Int32))])) t
          refine XS.icmpYes X92.here hx rfl (pc0 := 30) (pc' := 36) rfl (hb hby d1_30) rfl (feq hc30_94).2 (by decide) (by decide) ?_
          show Steps p.tables e below (T92.setTop (mkF m 36 #[.val (.int p1), .val .null, .val (.ref b2), .val (.int (4 : Int32)), .val (.int (2 : Int32)), .val (.ref aU)] [])) t
          refine XS.iinc X92.here hx rfl (hb hby d1_36) rfl (l' := #[.val (.int p1), .val .null, .val (.ref b2), .val (.int (4 : Int32)), .val (.int (3 : Int32)), .val (.ref aU)]) rfl ?_
          show Steps p.tables e below (T92.setTop (mkF m 39 #[.val (.int p1), .val .null, .val (.ref b2), .val (.int (4 : Int32)), .val (.int (3 : Int32)), .val (.ref aU)] [])) t
          refine XS.goto X92.here hx rfl (pc0 := 39) (pc' := 12) rfl (hb hby d1_39) (by decide) (by decide) ?_
          show Steps p.tables e below (T92.setTop (mkF m 12 #[.val (.int p1), .val .null, .val (.ref b2), .val (.int (4 : Int32)), .val (.int (3 : Int32)), .val (.ref aU)] [])) t
          refine XS.iload X92.here hx rfl (hb hby d1_12) rfl ?_
          show Steps p.tables e below (T92.setTop (mkF m 14 #[.val (.int p1), .val .null, .val (.ref b2), .val (.int (4 : Int32)), .val (.int (3 : Int32)), .val (.ref aU)] [(.int (3 : Int32))])) t
          refine XS.iloadN X92.here hx rfl (hb hby d1_14) rfl ?_
          show Steps p.tables e below (T92.setTop (mkF m 15 #[.val (.int p1), .val .null, .val (.ref b2), .val (.int (4 : Int32)), .val (.int (3 : Int32)), .val (.ref aU)] [(.int (4 : Int32)), (.int (3 : Int32))])) t
          refine XS.icmpNo X92.here hx rfl (hb hby d1_15) rfl (tlt hc15_107).2.1 ?_
          show Steps p.tables e below (T92.setTop (mkF m 18 #[.val (.int p1), .val .null, .val (.ref b2), .val (.int (4 : Int32)), .val (.int (3 : Int32)), .val (.ref aU)] [])) t
          refine XS.aloadN X92.here hx rfl (hb hby d1_18) rfl rfl ?_
          show Steps p.tables e below (T92.setTop (mkF m 19 #[.val (.int p1), .val .null, .val (.ref b2), .val (.int (4 : Int32)), .val (.int (3 : Int32)), .val (.ref aU)] [(.ref b2)])) t
          refine XS.iload X92.here hx rfl (hb hby d1_19) rfl ?_
          exact kt
        obtain ⟨cl109, Ar109, q109, S109, M109, H109, G109⟩ := id A2
        have hin109 : ¬ ((3 : Int32) < 0 ∨ cl109.slots.size ≤ ((3 : Int32)).toNatClampNeg) := inb_of S109 ⟨by decide, by decide⟩
        have hat109 : cl109.slots[((3 : Int32)).toNatClampNeg]? = some (.ref aD) := Has.at H109 hin109 rfl
        have k110 : ∀ t, Steps p.tables e below (T92.setTop (mkF m 22 #[.val (.int p1), .val .null, .val (.ref b2), .val (.int (4 : Int32)), .val (.int (3 : Int32)), .val (.ref aU)] [(.ref aD)])) t → Steps p.tables e below (s₁.setTop (entryFrame m #[(.int p1)] 6)) t := fun t kt => k108 t (X92.aaload hx (j := (3 : Int32)) (v := (.ref aD)) (by rw [e92]; exact Ar109.1) (State.isArrayOf_alike hZ.alike Ar109.2.1) rfl Ar109.2.2 hin109 hat109 (g := (mkF m 21 #[.val (.int p1), .val .null, .val (.ref b2), .val (.int (4 : Int32)), .val (.int (3 : Int32)), .val (.ref aU)] [(.int (3 : Int32)), (.ref b2)])) rfl rfl (hb hby d1_21) t kt)
        have k111 : ∀ t, Steps p.tables e below (T92.setTop (mkF m 26 #[.val (.int p1), .val .null, .val (.ref b2), .val (.int (4 : Int32)), .val (.int (3 : Int32)), .val (.ref aD)] [(.ref aD)])) t → Steps p.tables e below (s₁.setTop (entryFrame m #[(.int p1)] 6)) t := by
          intro t kt
          refine k110 t ?_
          show Steps p.tables e below (T92.setTop (mkF m 22 #[.val (.int p1), .val .null, .val (.ref b2), .val (.int (4 : Int32)), .val (.int (3 : Int32)), .val (.ref aU)] [(.ref aD)])) t
          refine XS.astore X92.here hx rfl (hb hby d1_22) rfl rfl (l' := #[.val (.int p1), .val .null, .val (.ref b2), .val (.int (4 : Int32)), .val (.int (3 : Int32)), .val (.ref aD)]) rfl ?_
          show Steps p.tables e below (T92.setTop (mkF m 24 #[.val (.int p1), .val .null, .val (.ref b2), .val (.int (4 : Int32)), .val (.int (3 : Int32)), .val (.ref aD)] [])) t
          refine XS.aload X92.here hx rfl (hb hby d1_24) rfl rfl ?_
          exact kt
        obtain ⟨T112, X112, e112, st112⟩ := getF X92 hx hZ hown (host := "") (Or.inl (hw _ (List.mem_of_getElem? (i := 25) rfl))) Via.refl e92 F14 (g := (mkF m 26 #[.val (.int p1), .val .null, .val (.ref b2), .val (.int (4 : Int32)), .val (.int (3 : Int32)), .val (.ref aD)] [(.ref aD)])) rfl rfl (hb hby d1_26)
        have k113 : ∀ t, Steps p.tables e below (T112.setTop (mkF m 29 #[.val (.int p1), .val .null, .val (.ref b2), .val (.int (4 : Int32)), .val (.int (3 : Int32)), .val (.ref aD)] [(.int (68 : Int32))])) t → Steps p.tables e below (s₁.setTop (entryFrame m #[(.int p1)] 6)) t := fun t kt => k111 t (st112 t kt)
        have k115 : ∀ t, Steps p.tables e below (T112.setTop (mkF m 30 #[.val (.int p1), .val .null, .val (.ref b2), .val (.int (4 : Int32)), .val (.int (3 : Int32)), .val (.ref aD)] [(.int p1), (.int (68 : Int32))])) t → Steps p.tables e below (s₁.setTop (entryFrame m #[(.int p1)] 6)) t := by
          intro t kt
          refine k113 t ?_
          show Steps p.tables e below (T112.setTop (mkF m 29 #[.val (.int p1), .val .null, .val (.ref b2), .val (.int (4 : Int32)), .val (.int (3 : Int32)), .val (.ref aD)] [(.int (68 : Int32))])) t
          refine XS.iloadN X112.here hx rfl (hb hby d1_29) rfl ?_
          exact kt
        by_cases hc30_114 : (68 : Int32) = p1
        · have hc15_116 : ¬ ((4 : Int32) < (4 : Int32)) := by decide
          have k117 : ∀ t, Steps p.tables e below (T112.setTop (mkF m 43 #[.val (.int p1), .val (.ref aD), .val (.ref b2), .val (.int (4 : Int32)), .val (.int (4 : Int32)), .val (.ref aD)] [(.ref aD)])) t → Steps p.tables e below (s₁.setTop (entryFrame m #[(.int p1)] 6)) t := by
            intro t kt
            refine k115 t ?_
            show Steps p.tables e below (T112.setTop (mkF m 30 #[.val (.int p1), .val .null, .val (.ref b2), .val (.int (4 : Int32)), .val (.int (3 : Int32)), .val (.ref aD)] [(.int p1), (.int (68 : Int32))])) t
            refine XS.icmpNo X112.here hx rfl (hb hby d1_30) rfl (teq hc30_114).2 ?_
            show Steps p.tables e below (T112.setTop (mkF m 33 #[.val (.int p1), .val .null, .val (.ref b2), .val (.int (4 : Int32)), .val (.int (3 : Int32)), .val (.ref aD)] [])) t
            refine XS.aload X112.here hx rfl (hb hby d1_33) rfl rfl ?_
            show Steps p.tables e below (T112.setTop (mkF m 35 #[.val (.int p1), .val .null, .val (.ref b2), .val (.int (4 : Int32)), .val (.int (3 : Int32)), .val (.ref aD)] [(.ref aD)])) t
            refine XS.astoreN X112.here hx rfl (hb hby d1_35) rfl rfl (l' := #[.val (.int p1), .val (.ref aD), .val (.ref b2), .val (.int (4 : Int32)), .val (.int (3 : Int32)), .val (.ref aD)]) rfl ?_
            show Steps p.tables e below (T112.setTop (mkF m 36 #[.val (.int p1), .val (.ref aD), .val (.ref b2), .val (.int (4 : Int32)), .val (.int (3 : Int32)), .val (.ref aD)] [])) t
            refine XS.iinc X112.here hx rfl (hb hby d1_36) rfl (l' := #[.val (.int p1), .val (.ref aD), .val (.ref b2), .val (.int (4 : Int32)), .val (.int (4 : Int32)), .val (.ref aD)]) rfl ?_
            show Steps p.tables e below (T112.setTop (mkF m 39 #[.val (.int p1), .val (.ref aD), .val (.ref b2), .val (.int (4 : Int32)), .val (.int (4 : Int32)), .val (.ref aD)] [])) t
            refine XS.goto X112.here hx rfl (pc0 := 39) (pc' := 12) rfl (hb hby d1_39) (by decide) (by decide) ?_
            show Steps p.tables e below (T112.setTop (mkF m 12 #[.val (.int p1), .val (.ref aD), .val (.ref b2), .val (.int (4 : Int32)), .val (.int (4 : Int32)), .val (.ref aD)] [])) t
            refine XS.iload X112.here hx rfl (hb hby d1_12) rfl ?_
            show Steps p.tables e below (T112.setTop (mkF m 14 #[.val (.int p1), .val (.ref aD), .val (.ref b2), .val (.int (4 : Int32)), .val (.int (4 : Int32)), .val (.ref aD)] [(.int (4 : Int32))])) t
            refine XS.iloadN X112.here hx rfl (hb hby d1_14) rfl ?_
            show Steps p.tables e below (T112.setTop (mkF m 15 #[.val (.int p1), .val (.ref aD), .val (.ref b2), .val (.int (4 : Int32)), .val (.int (4 : Int32)), .val (.ref aD)] [(.int (4 : Int32)), (.int (4 : Int32))])) t
            refine XS.icmpYes X112.here hx rfl (pc0 := 15) (pc' := 42) rfl (hb hby d1_15) rfl (flt hc15_116).2.1 (by decide) (by decide) ?_
            show Steps p.tables e below (T112.setTop (mkF m 42 #[.val (.int p1), .val (.ref aD), .val (.ref b2), .val (.int (4 : Int32)), .val (.int (4 : Int32)), .val (.ref aD)] [])) t
            refine XS.aloadN X112.here hx rfl (hb hby d1_42) rfl rfl ?_
            exact kt
          obtain ⟨fs, hr, hrun, hended, hW, hsame⟩ := X112.leave (v := some (.ref aD)) (fun h => by rw [Bd.returns] at h; cases h)
          refine ⟨_, _, k117 _ ?_, hrun, hended, _, _, rfl, ?_, ⟨_, rfl⟩, hW, hsame.mono (by decide) (by decide)⟩
          · show Steps p.tables e below (T112.setTop (mkF m 43 #[.val (.int p1), .val (.ref aD), .val (.ref b2), .val (.int (4 : Int32)), .val (.int (4 : Int32)), .val (.ref aD)] [(.ref aD)])) _
            jvm_step X112.here [X112.here.top, hx, (hb hby d1_43), X112.method', Bd.returns, Value.isRef, FieldType.isReference]
            first | (intro acts; rw [hr _ acts rfl rfl rfl]) | rw [hr _ _ rfl rfl rfl]
            exact Steps.refl _
          · show QF Z p1 aV kc aC aR aU aD h0 n0 _ T112.heap _
            rw [e112]
            exact ⟨congrArg some (show (.ref aD) = own_op p1 aC aR aU aD from by symm; unfold own_op; rw [if_neg (fun q => hc30_27 q.symm), if_neg (fun q => hc30_65 q.symm), if_neg (fun q => hc30_94 q.symm), if_pos hc30_114.symm]), N2, K15⟩
        · have hc15_118 : ¬ ((4 : Int32) < (4 : Int32)) := by decide
          have k119 : ∀ t, Steps p.tables e below (T112.setTop (mkF m 43 #[.val (.int p1), .val .null, .val (.ref b2), .val (.int (4 : Int32)), .val (.int (4 : Int32)), .val (.ref aD)] [.null])) t → Steps p.tables e below (s₁.setTop (entryFrame m #[(.int p1)] 6)) t := by
            intro t kt
            refine k115 t ?_
            show Steps p.tables e below (T112.setTop (mkF m 30 #[.val (.int p1), .val .null, .val (.ref b2), .val (.int (4 : Int32)), .val (.int (3 : Int32)), .val (.ref aD)] [(.int p1), (.int (68 : Int32))])) t
            refine XS.icmpYes X112.here hx rfl (pc0 := 30) (pc' := 36) rfl (hb hby d1_30) rfl (feq hc30_114).2 (by decide) (by decide) ?_
            show Steps p.tables e below (T112.setTop (mkF m 36 #[.val (.int p1), .val .null, .val (.ref b2), .val (.int (4 : Int32)), .val (.int (3 : Int32)), .val (.ref aD)] [])) t
            refine XS.iinc X112.here hx rfl (hb hby d1_36) rfl (l' := #[.val (.int p1), .val .null, .val (.ref b2), .val (.int (4 : Int32)), .val (.int (4 : Int32)), .val (.ref aD)]) rfl ?_
            show Steps p.tables e below (T112.setTop (mkF m 39 #[.val (.int p1), .val .null, .val (.ref b2), .val (.int (4 : Int32)), .val (.int (4 : Int32)), .val (.ref aD)] [])) t
            refine XS.goto X112.here hx rfl (pc0 := 39) (pc' := 12) rfl (hb hby d1_39) (by decide) (by decide) ?_
            show Steps p.tables e below (T112.setTop (mkF m 12 #[.val (.int p1), .val .null, .val (.ref b2), .val (.int (4 : Int32)), .val (.int (4 : Int32)), .val (.ref aD)] [])) t
            refine XS.iload X112.here hx rfl (hb hby d1_12) rfl ?_
            show Steps p.tables e below (T112.setTop (mkF m 14 #[.val (.int p1), .val .null, .val (.ref b2), .val (.int (4 : Int32)), .val (.int (4 : Int32)), .val (.ref aD)] [(.int (4 : Int32))])) t
            refine XS.iloadN X112.here hx rfl (hb hby d1_14) rfl ?_
            show Steps p.tables e below (T112.setTop (mkF m 15 #[.val (.int p1), .val .null, .val (.ref b2), .val (.int (4 : Int32)), .val (.int (4 : Int32)), .val (.ref aD)] [(.int (4 : Int32)), (.int (4 : Int32))])) t
            refine XS.icmpYes X112.here hx rfl (pc0 := 15) (pc' := 42) rfl (hb hby d1_15) rfl (flt hc15_118).2.1 (by decide) (by decide) ?_
            show Steps p.tables e below (T112.setTop (mkF m 42 #[.val (.int p1), .val .null, .val (.ref b2), .val (.int (4 : Int32)), .val (.int (4 : Int32)), .val (.ref aD)] [])) t
            refine XS.aloadN X112.here hx rfl (hb hby d1_42) rfl rfl ?_
            exact kt
          obtain ⟨fs, hr, hrun, hended, hW, hsame⟩ := X112.leave (v := some .null) (fun h => by rw [Bd.returns] at h; cases h)
          refine ⟨_, _, k119 _ ?_, hrun, hended, _, _, rfl, ?_, ⟨_, rfl⟩, hW, hsame.mono (by decide) (by decide)⟩
          · show Steps p.tables e below (T112.setTop (mkF m 43 #[.val (.int p1), .val .null, .val (.ref b2), .val (.int (4 : Int32)), .val (.int (4 : Int32)), .val (.ref aD)] [.null])) _
            jvm_step X112.here [X112.here.top, hx, (hb hby d1_43), X112.method', Bd.returns, Value.isRef, FieldType.isReference]
            first | (intro acts; rw [hr _ acts rfl rfl rfl]) | rw [hr _ _ rfl rfl rfl]
            exact Steps.refl _
          · show QF Z p1 aV kc aC aR aU aD h0 n0 _ T112.heap _
            rw [e112]
            exact ⟨congrArg some (show .null = own_op p1 aC aR aU aD from by symm; unfold own_op; rw [if_neg (fun q => hc30_27 q.symm), if_neg (fun q => hc30_65 q.symm), if_neg (fun q => hc30_94 q.symm), if_neg (fun q => hc30_114 q.symm)]), N2, K15⟩
theorem d3_0 : decode method_3_code 0 = .ok (.iload_n 0, 1) := by decide +kernel
theorem d3_1 : decode method_3_code 1 = .ok (.bipush 67, 2) := by decide +kernel
theorem d3_3 : decode method_3_code 3 = .ok (.if_icmp .ne 7, 3) := by decide +kernel
theorem d3_6 : decode method_3_code 6 = .ok (.getstatic 19, 3) := by decide +kernel
theorem d3_9 : decode method_3_code 9 = .ok (.areturn, 1) := by decide +kernel
theorem d3_10 : decode method_3_code 10 = .ok (.iload_n 0, 1) := by decide +kernel
theorem d3_11 : decode method_3_code 11 = .ok (.bipush 82, 2) := by decide +kernel
theorem d3_13 : decode method_3_code 13 = .ok (.if_icmp .ne 7, 3) := by decide +kernel
theorem d3_16 : decode method_3_code 16 = .ok (.getstatic 23, 3) := by decide +kernel
theorem d3_19 : decode method_3_code 19 = .ok (.areturn, 1) := by decide +kernel
theorem d3_20 : decode method_3_code 20 = .ok (.iload_n 0, 1) := by decide +kernel
theorem d3_21 : decode method_3_code 21 = .ok (.bipush 85, 2) := by decide +kernel
theorem d3_23 : decode method_3_code 23 = .ok (.if_icmp .ne 7, 3) := by decide +kernel
theorem d3_26 : decode method_3_code 26 = .ok (.getstatic 26, 3) := by decide +kernel
theorem d3_29 : decode method_3_code 29 = .ok (.areturn, 1) := by decide +kernel
theorem d3_30 : decode method_3_code 30 = .ok (.iload_n 0, 1) := by decide +kernel
theorem d3_31 : decode method_3_code 31 = .ok (.bipush 68, 2) := by decide +kernel
theorem d3_33 : decode method_3_code 33 = .ok (.if_icmp .ne 7, 3) := by decide +kernel
theorem d3_36 : decode method_3_code 36 = .ok (.getstatic 29, 3) := by decide +kernel
theorem d3_39 : decode method_3_code 39 = .ok (.areturn, 1) := by decide +kernel
theorem d3_40 : decode method_3_code 40 = .ok (.aconst_null, 1) := by decide +kernel
theorem d3_41 : decode method_3_code 41 = .ok (.areturn, 1) := by decide +kernel
theorem own_pn1 : plainName "com/example/ruleward/ruleward/rules/OperationOfPinLaw" = true := by first | (simp [plainName, overriddenIn]; done) | decide +kernel
theorem rmE_ef (m : MethodId) (x0 : Int32) : entryFrame m #[(.int x0)] 1 = mkF m 0 #[.val (.int x0)] [] := by first | (simp [entryFrame, mkF, argsToLocals, Value.category]; done) | rfl
def QE (Z : State) (p1 : Int32) (aC : Addr) (aR : Addr) (aU : Addr) (aD : Addr) (h0 : Heap) (n0 : Nat) (v : Option Value) (h : Heap) (L : List Loc) : Prop := v = some (own_op p1 aC aR aU aD) ∧ Fr n0 L ∧ h = h0
set_option maxRecDepth 65536 in
set_option maxHeartbeats 40000000 in
theorem rmE (l : Launch) (Z : State) (a0 : Array Value) (hw : ∀ d ∈ tables_1, d.before a0 Z = true) (ws : List Jvm.Cond) (p1 : Int32) (aC : Addr) (aR : Addr) (aU : Addr) (aD : Addr) (h0 : Heap) (n0 : Nat) (Z0 : n0 ≤ h0.size) (S_aC : Sta Z h0 "com/example/ruleward/ruleward/rules/Operation" "CREATE" "Lcom/example/ruleward/ruleward/rules/Operation;" (.ref aC)) (S_aR : Sta Z h0 "com/example/ruleward/ruleward/rules/Operation" "READ" "Lcom/example/ruleward/ruleward/rules/Operation;" (.ref aR)) (S_aU : Sta Z h0 "com/example/ruleward/ruleward/rules/Operation" "UPDATE" "Lcom/example/ruleward/ruleward/rules/Operation;" (.ref aU)) (S_aD : Sta Z h0 "com/example/ruleward/ruleward/rules/Operation" "DELETE" "Lcom/example/ruleward/ruleward/rules/Operation;" (.ref aD)) :
    MetFree l (⟨"com/example/ruleward/ruleward/rules/OperationOfPinLaw", "expected", "(C)Lcom/example/ruleward/ruleward/rules/Operation;"⟩ : MethodName) (head1 (Jvm.Cond.code (⟨"com/example/ruleward/ruleward/rules/OperationOfPinLaw", "expected", "(C)Lcom/example/ruleward/ruleward/rules/Operation;"⟩ : MethodName) method_3_code 1 (some (.object "com/example/ruleward/ruleward/rules/Operation")) :: ws) ({ frames := 0, cells := 0, slots := 0, locals := 0 } : Room)) (fun aA' U => aA' = #[(.int p1)] ∧ Z.Warmed39 U.vm ∧ U.heap = h0) (fun _ _ _ _ _ => True) (fun _ U oO' U' => ∃ vV' L, oO' = .returned vV' ∧ QE Z p1 aC aR aU aD h0 n0 vV' U'.heap L ∧ FrameEnd U oO' U' L ({ frames := 0, cells := 0, slots := 0, locals := 0 } : Room).cells ({ frames := 0, cells := 0, slots := 0, locals := 0 } : Room).slots) := by
  refine MetFree.of_bodySF (plainFor_of_name own_pn1) hisR ?_
  intro p e s m args below meth c s₁ Bd hml0 hP hK
  obtain ⟨rfl, hZ, hh⟩ := hP
  have hx := Bd.exec
  have hby := Bd.bytes
  have hml : c.maxLocals = 1 := hml0
  have hown : s.vm.findClass "com/example/ruleward/ruleward/rules/OperationOfPinLaw" = some m.cls := findClass_of_methodNamed Bd.named
  have hnm := (name_of_methodNamed Bd.named Bd.method).1
  have X0 : Stand p l e ({ frames := 0, cells := 0, slots := 0, locals := 0 } : Room) s m #[(.int p1)] below meth c s₁ [] 0 0 := Stand.of_body Bd
  have e0 : s₁.heap = h0 := by rw [← hh, Bd.state]; rfl
  have N0 := Fr.nil n0
  have K0 : Keep h0 h0 [] := Keep.refl _ _
  have k0 : ∀ t, Steps p.tables e below (s₁.setTop (mkF m 0 #[.val (.int p1)] [])) t → Steps p.tables e below (s₁.setTop (entryFrame m #[(.int p1)] 1)) t := fun t k => castTop (rmE_ef m (p1)) k
  have k2 : ∀ t, Steps p.tables e below (s₁.setTop (mkF m 3 #[.val (.int p1)] [(.int (67 : Int32)), (.int p1)])) t → Steps p.tables e below (s₁.setTop (entryFrame m #[(.int p1)] 1)) t := by
    intro t kt
    refine k0 t ?_
    show Steps p.tables e below (s₁.setTop (mkF m 0 #[.val (.int p1)] [])) t
    refine XS.iloadN X0.here hx rfl (hb hby d3_0) rfl ?_
    show Steps p.tables e below (s₁.setTop (mkF m 1 #[.val (.int p1)] [(.int p1)])) t
    refine XS.bipush X0.here hx rfl (hb hby d3_1) ?_
    exact kt
  by_cases hc3_1 : p1 = (67 : Int32)
  · have k3 : ∀ t, Steps p.tables e below (s₁.setTop (mkF m 6 #[.val (.int p1)] [])) t → Steps p.tables e below (s₁.setTop (entryFrame m #[(.int p1)] 1)) t := by
      intro t kt
      refine k2 t ?_
      show Steps p.tables e below (s₁.setTop (mkF m 3 #[.val (.int p1)] [(.int (67 : Int32)), (.int p1)])) t
      refine XS.icmpNo X0.here hx rfl (hb hby d3_3) rfl (teq hc3_1).2 ?_
      exact kt
    obtain ⟨T4, X4, e4, st4⟩ := getS2 X0 hx hZ hown (host := "") (Or.inl (hw _ (List.mem_of_getElem? (i := 32) rfl))) Via.refl e0 S_aC (g := (mkF m 6 #[.val (.int p1)] [])) rfl (hb hby d3_6)
    have k5 : ∀ t, Steps p.tables e below (T4.setTop (mkF m 9 #[.val (.int p1)] [(.ref aC)])) t → Steps p.tables e below (s₁.setTop (entryFrame m #[(.int p1)] 1)) t := fun t kt => k3 t (st4 t kt)
    obtain ⟨fs, hr, hrun, hended, hW, hsame⟩ := X4.leave (v := some (.ref aC)) (fun h => by rw [Bd.returns] at h; cases h)
    refine ⟨_, _, k5 _ ?_, hrun, hended, _, _, rfl, ?_, ⟨_, rfl⟩, hW, hsame.mono (by decide) (by decide)⟩
    · show Steps p.tables e below (T4.setTop (mkF m 9 #[.val (.int p1)] [(.ref aC)])) _
      jvm_step X4.here [X4.here.top, hx, (hb hby d3_9), X4.method', Bd.returns, Value.isRef, FieldType.isReference]
      first | (intro acts; rw [hr _ acts rfl rfl rfl]) | rw [hr _ _ rfl rfl rfl]
      exact Steps.refl _
    · show QE Z p1 aC aR aU aD h0 n0 _ T4.heap _
      rw [e4]
      exact ⟨congrArg some (show (.ref aC) = own_op p1 aC aR aU aD from by symm; unfold own_op; rw [if_pos hc3_1]), N0, rfl⟩
  · have k7 : ∀ t, Steps p.tables e below (s₁.setTop (mkF m 13 #[.val (.int p1)] [(.int (82 : Int32)), (.int p1)])) t → Steps p.tables e below (s₁.setTop (entryFrame m #[(.int p1)] 1)) t := by
      intro t kt
      refine k2 t ?_
      show Steps p.tables e below (s₁.setTop (mkF m 3 #[.val (.int p1)] [(.int (67 : Int32)), (.int p1)])) t
      refine XS.icmpYes X0.here hx rfl (pc0 := 3) (pc' := 10) rfl (hb hby d3_3) rfl (feq hc3_1).2 (by decide) (by decide) ?_
      show Steps p.tables e below (s₁.setTop (mkF m 10 #[.val (.int p1)] [])) t
      refine XS.iloadN X0.here hx rfl (hb hby d3_10) rfl ?_
      show Steps p.tables e below (s₁.setTop (mkF m 11 #[.val (.int p1)] [(.int p1)])) t
      refine XS.bipush X0.here hx rfl (hb hby d3_11) ?_
      exact kt
    by_cases hc13_6 : p1 = (82 : Int32)
    · have k8 : ∀ t, Steps p.tables e below (s₁.setTop (mkF m 16 #[.val (.int p1)] [])) t → Steps p.tables e below (s₁.setTop (entryFrame m #[(.int p1)] 1)) t := by
        intro t kt
        refine k7 t ?_
        show Steps p.tables e below (s₁.setTop (mkF m 13 #[.val (.int p1)] [(.int (82 : Int32)), (.int p1)])) t
        refine XS.icmpNo X0.here hx rfl (hb hby d3_13) rfl (teq hc13_6).2 ?_
        exact kt
      obtain ⟨T9, X9, e9, st9⟩ := getS2 X0 hx hZ hown (host := "") (Or.inl (hw _ (List.mem_of_getElem? (i := 31) rfl))) Via.refl e0 S_aR (g := (mkF m 16 #[.val (.int p1)] [])) rfl (hb hby d3_16)
      have k10 : ∀ t, Steps p.tables e below (T9.setTop (mkF m 19 #[.val (.int p1)] [(.ref aR)])) t → Steps p.tables e below (s₁.setTop (entryFrame m #[(.int p1)] 1)) t := fun t kt => k8 t (st9 t kt)
      obtain ⟨fs, hr, hrun, hended, hW, hsame⟩ := X9.leave (v := some (.ref aR)) (fun h => by rw [Bd.returns] at h; cases h)
      refine ⟨_, _, k10 _ ?_, hrun, hended, _, _, rfl, ?_, ⟨_, rfl⟩, hW, hsame.mono (by decide) (by decide)⟩
      · show Steps p.tables e below (T9.setTop (mkF m 19 #[.val (.int p1)] [(.ref aR)])) _
        jvm_step X9.here [X9.here.top, hx, (hb hby d3_19), X9.method', Bd.returns, Value.isRef, FieldType.isReference]
        first | (intro acts; rw [hr _ acts rfl rfl rfl]) | rw [hr _ _ rfl rfl rfl]
        exact Steps.refl _
      · show QE Z p1 aC aR aU aD h0 n0 _ T9.heap _
        rw [e9]
        exact ⟨congrArg some (show (.ref aR) = own_op p1 aC aR aU aD from by symm; unfold own_op; rw [if_neg hc3_1, if_pos hc13_6]), N0, rfl⟩
    · have k12 : ∀ t, Steps p.tables e below (s₁.setTop (mkF m 23 #[.val (.int p1)] [(.int (85 : Int32)), (.int p1)])) t → Steps p.tables e below (s₁.setTop (entryFrame m #[(.int p1)] 1)) t := by
        intro t kt
        refine k7 t ?_
        show Steps p.tables e below (s₁.setTop (mkF m 13 #[.val (.int p1)] [(.int (82 : Int32)), (.int p1)])) t
        refine XS.icmpYes X0.here hx rfl (pc0 := 13) (pc' := 20) rfl (hb hby d3_13) rfl (feq hc13_6).2 (by decide) (by decide) ?_
        show Steps p.tables e below (s₁.setTop (mkF m 20 #[.val (.int p1)] [])) t
        refine XS.iloadN X0.here hx rfl (hb hby d3_20) rfl ?_
        show Steps p.tables e below (s₁.setTop (mkF m 21 #[.val (.int p1)] [(.int p1)])) t
        refine XS.bipush X0.here hx rfl (hb hby d3_21) ?_
        exact kt
      by_cases hc23_11 : p1 = (85 : Int32)
      · have k13 : ∀ t, Steps p.tables e below (s₁.setTop (mkF m 26 #[.val (.int p1)] [])) t → Steps p.tables e below (s₁.setTop (entryFrame m #[(.int p1)] 1)) t := by
          intro t kt
          refine k12 t ?_
          show Steps p.tables e below (s₁.setTop (mkF m 23 #[.val (.int p1)] [(.int (85 : Int32)), (.int p1)])) t
          refine XS.icmpNo X0.here hx rfl (hb hby d3_23) rfl (teq hc23_11).2 ?_
          exact kt
        obtain ⟨T14, X14, e14, st14⟩ := getS2 X0 hx hZ hown (host := "") (Or.inl (hw _ (List.mem_of_getElem? (i := 34) rfl))) Via.refl e0 S_aU (g := (mkF m 26 #[.val (.int p1)] [])) rfl (hb hby d3_26)
        have k15 : ∀ t, Steps p.tables e below (T14.setTop (mkF m 29 #[.val (.int p1)] [(.ref aU)])) t → Steps p.tables e below (s₁.setTop (entryFrame m #[(.int p1)] 1)) t := fun t kt => k13 t (st14 t kt)
        obtain ⟨fs, hr, hrun, hended, hW, hsame⟩ := X14.leave (v := some (.ref aU)) (fun h => by rw [Bd.returns] at h; cases h)
        refine ⟨_, _, k15 _ ?_, hrun, hended, _, _, rfl, ?_, ⟨_, rfl⟩, hW, hsame.mono (by decide) (by decide)⟩
        · show Steps p.tables e below (T14.setTop (mkF m 29 #[.val (.int p1)] [(.ref aU)])) _
          jvm_step X14.here [X14.here.top, hx, (hb hby d3_29), X14.method', Bd.returns, Value.isRef, FieldType.isReference]
          first | (intro acts; rw [hr _ acts rfl rfl rfl]) | rw [hr _ _ rfl rfl rfl]
          exact Steps.refl _
        · show QE Z p1 aC aR aU aD h0 n0 _ T14.heap _
          rw [e14]
          exact ⟨congrArg some (show (.ref aU) = own_op p1 aC aR aU aD from by symm; unfold own_op; rw [if_neg hc3_1, if_neg hc13_6, if_pos hc23_11]), N0, rfl⟩
      · have k17 : ∀ t, Steps p.tables e below (s₁.setTop (mkF m 33 #[.val (.int p1)] [(.int (68 : Int32)), (.int p1)])) t → Steps p.tables e below (s₁.setTop (entryFrame m #[(.int p1)] 1)) t := by
          intro t kt
          refine k12 t ?_
          show Steps p.tables e below (s₁.setTop (mkF m 23 #[.val (.int p1)] [(.int (85 : Int32)), (.int p1)])) t
          refine XS.icmpYes X0.here hx rfl (pc0 := 23) (pc' := 30) rfl (hb hby d3_23) rfl (feq hc23_11).2 (by decide) (by decide) ?_
          show Steps p.tables e below (s₁.setTop (mkF m 30 #[.val (.int p1)] [])) t
          refine XS.iloadN X0.here hx rfl (hb hby d3_30) rfl ?_
          show Steps p.tables e below (s₁.setTop (mkF m 31 #[.val (.int p1)] [(.int p1)])) t
          refine XS.bipush X0.here hx rfl (hb hby d3_31) ?_
          exact kt
        by_cases hc33_16 : p1 = (68 : Int32)
        · have k18 : ∀ t, Steps p.tables e below (s₁.setTop (mkF m 36 #[.val (.int p1)] [])) t → Steps p.tables e below (s₁.setTop (entryFrame m #[(.int p1)] 1)) t := by
            intro t kt
            refine k17 t ?_
            show Steps p.tables e below (s₁.setTop (mkF m 33 #[.val (.int p1)] [(.int (68 : Int32)), (.int p1)])) t
            refine XS.icmpNo X0.here hx rfl (hb hby d3_33) rfl (teq hc33_16).2 ?_
            exact kt
          obtain ⟨T19, X19, e19, st19⟩ := getS2 X0 hx hZ hown (host := "") (Or.inl (hw _ (List.mem_of_getElem? (i := 33) rfl))) Via.refl e0 S_aD (g := (mkF m 36 #[.val (.int p1)] [])) rfl (hb hby d3_36)
          have k20 : ∀ t, Steps p.tables e below (T19.setTop (mkF m 39 #[.val (.int p1)] [(.ref aD)])) t → Steps p.tables e below (s₁.setTop (entryFrame m #[(.int p1)] 1)) t := fun t kt => k18 t (st19 t kt)
          obtain ⟨fs, hr, hrun, hended, hW, hsame⟩ := X19.leave (v := some (.ref aD)) (fun h => by rw [Bd.returns] at h; cases h)
          refine ⟨_, _, k20 _ ?_, hrun, hended, _, _, rfl, ?_, ⟨_, rfl⟩, hW, hsame.mono (by decide) (by decide)⟩
          · show Steps p.tables e below (T19.setTop (mkF m 39 #[.val (.int p1)] [(.ref aD)])) _
            jvm_step X19.here [X19.here.top, hx, (hb hby d3_39), X19.method', Bd.returns, Value.isRef, FieldType.isReference]
            first | (intro acts; rw [hr _ acts rfl rfl rfl]) | rw [hr _ _ rfl rfl rfl]
            exact Steps.refl _
          · show QE Z p1 aC aR aU aD h0 n0 _ T19.heap _
            rw [e19]
            exact ⟨congrArg some (show (.ref aD) = own_op p1 aC aR aU aD from by symm; unfold own_op; rw [if_neg hc3_1, if_neg hc13_6, if_neg hc23_11, if_pos hc33_16]), N0, rfl⟩
        · have k21 : ∀ t, Steps p.tables e below (s₁.setTop (mkF m 41 #[.val (.int p1)] [.null])) t → Steps p.tables e below (s₁.setTop (entryFrame m #[(.int p1)] 1)) t := by
            intro t kt
            refine k17 t ?_
            show Steps p.tables e below (s₁.setTop (mkF m 33 #[.val (.int p1)] [(.int (68 : Int32)), (.int p1)])) t
            refine XS.icmpYes X0.here hx rfl (pc0 := 33) (pc' := 40) rfl (hb hby d3_33) rfl (feq hc33_16).2 (by decide) (by decide) ?_
            show Steps p.tables e below (s₁.setTop (mkF m 40 #[.val (.int p1)] [])) t
            refine XS.aconstNull X0.here hx rfl (hb hby d3_40) ?_
            exact kt
          obtain ⟨fs, hr, hrun, hended, hW, hsame⟩ := X0.leave (v := some .null) (fun h => by rw [Bd.returns] at h; cases h)
          refine ⟨_, _, k21 _ ?_, hrun, hended, _, _, rfl, ?_, ⟨_, rfl⟩, hW, hsame.mono (by decide) (by decide)⟩
          · show Steps p.tables e below (s₁.setTop (mkF m 41 #[.val (.int p1)] [.null])) _
            jvm_step X0.here [X0.here.top, hx, (hb hby d3_41), X0.method', Bd.returns, Value.isRef, FieldType.isReference]
            first | (intro acts; rw [hr _ acts rfl rfl rfl]) | rw [hr _ _ rfl rfl rfl]
            exact Steps.refl _
          · show QE Z p1 aC aR aU aD h0 n0 _ s₁.heap _
            rw [e0]
            exact ⟨congrArg some (show .null = own_op p1 aC aR aU aD from by symm; unfold own_op; rw [if_neg hc3_1, if_neg hc13_6, if_neg hc23_11, if_neg hc33_16]), N0, rfl⟩
theorem rm0_ef (m : MethodId) (x0 : Int32) (x1 : Int32) : entryFrame m #[(.int x0), (.int x1)] maxLocals = mkF m 0 #[.val (.int x0), .val (.int x1), .unset, .unset, .unset, .unset] [] := by first | (simp [entryFrame, mkF, argsToLocals, Value.category, maxLocals]; done) | rfl
def Q0 (Z : State) (p1 : Int32) (p2 : Int32) (aV : Addr) (kc : ClassId) (aC : Addr) (aR : Addr) (aU : Addr) (aD : Addr) (h0 : Heap) (n0 : Nat) (v : Option Value) (h : Heap) (L : List Loc) : Prop := v = some (.int 1) ∧ Fr n0 L
theorem own_pd1 : parseMethodDescriptor "(C)Lcom/example/ruleward/ruleward/rules/Operation;" = some ⟨[.char], some (.object "com/example/ruleward/ruleward/rules/Operation")⟩ := by decide +kernel
set_option maxRecDepth 65536 in
set_option maxHeartbeats 40000000 in
theorem rm0 (l : Launch) (Z : State) (a0 : Array Value) (hw : ∀ d ∈ tables_1, d.before a0 Z = true) (ws : List Jvm.Cond) (p1 : Int32) (p2 : Int32) (aV : Addr) (kc : ClassId) (aC : Addr) (aR : Addr) (aU : Addr) (aD : Addr) (h0 : Heap) (n0 : Nat) (Z0 : n0 ≤ h0.size) (O0 : Old Z n0 h0) (AV : Arv Z h0 aV kc (.object "com/example/ruleward/ruleward/rules/Operation") (4 : Int32) [(.ref aC), (.ref aR), (.ref aU), (.ref aD)] .null) (EV : Exa Z h0 aV "[Lcom/example/ruleward/ruleward/rules/Operation;") (F_aC : Fld Z h0 aC "com/example/ruleward/ruleward/rules/Operation" "letter" "C" (.int (67 : Int32))) (F_aR : Fld Z h0 aR "com/example/ruleward/ruleward/rules/Operation" "letter" "C" (.int (82 : Int32))) (F_aU : Fld Z h0 aU "com/example/ruleward/ruleward/rules/Operation" "letter" "C" (.int (85 : Int32))) (F_aD : Fld Z h0 aD "com/example/ruleward/ruleward/rules/Operation" "letter" "C" (.int (68 : Int32))) (R_aV : Sta Z Z.heap "com/example/ruleward/ruleward/rules/Operation" "$VALUES" "[Lcom/example/ruleward/ruleward/rules/Operation;" (.ref aV)) (R_aC : Sta Z Z.heap "com/example/ruleward/ruleward/rules/Operation" "CREATE" "Lcom/example/ruleward/ruleward/rules/Operation;" (.ref aC)) (R_aR : Sta Z Z.heap "com/example/ruleward/ruleward/rules/Operation" "READ" "Lcom/example/ruleward/ruleward/rules/Operation;" (.ref aR)) (R_aU : Sta Z Z.heap "com/example/ruleward/ruleward/rules/Operation" "UPDATE" "Lcom/example/ruleward/ruleward/rules/Operation;" (.ref aU)) (R_aD : Sta Z Z.heap "com/example/ruleward/ruleward/rules/Operation" "DELETE" "Lcom/example/ruleward/ruleward/rules/Operation;" (.ref aD)) :
    MetFree l x (head1 (Jvm.Cond.code x code maxLocals ret :: ws) room_1) (fun aA' U => aA' = #[(.int p1), (.int p2)] ∧ Z.Warmed39 U.vm ∧ U.heap = h0) (fun _ _ _ _ _ => True) (fun _ U oO' U' => ∃ vV' L, oO' = .returned vV' ∧ Q0 Z p1 p2 aV kc aC aR aU aD h0 n0 vV' U'.heap L ∧ FrameEnd U oO' U' L 16 128) := by
  refine MetFree.of_bodySF (plainFor_of_name own_pn1) hisR ?_
  intro p e s m args below meth c s₁ Bd hml0 hP hK
  obtain ⟨rfl, hZ, hh⟩ := hP
  have hx := Bd.exec
  have hby := Bd.bytes
  have hml : c.maxLocals = 6 := hml0
  have hown : s.vm.findClass "com/example/ruleward/ruleward/rules/OperationOfPinLaw" = some m.cls := findClass_of_methodNamed Bd.named
  have hnm := (name_of_methodNamed Bd.named Bd.method).1
  have X0 : Stand p l e room_1 s m #[(.int p1), (.int p2)] below meth c s₁ [] 0 0 := Stand.of_body Bd
  have e0 : s₁.heap = h0 := by rw [← hh, Bd.state]; rfl
  have N0 := Fr.nil n0
  have K0 : Keep h0 h0 [] := Keep.refl _ _
  have k0 : ∀ t, Steps p.tables e below (s₁.setTop (mkF m 0 #[.val (.int p1), .val (.int p2), .unset, .unset, .unset, .unset] [])) t → Steps p.tables e below (s₁.setTop (entryFrame m #[(.int p1), (.int p2)] maxLocals)) t := fun t k => castTop (rm0_ef m (p1) (p2)) k
  have k1 : ∀ t, Steps p.tables e below (s₁.setTop (mkF m 2 #[.val (.int p1), .val (.int p2), .unset, .unset, .unset, .unset] [(.int (8 : Int32))])) t → Steps p.tables e below (s₁.setTop (entryFrame m #[(.int p1), (.int p2)] maxLocals)) t := by
    intro t kt
    refine k0 t ?_
    show Steps p.tables e below (s₁.setTop (mkF m 0 #[.val (.int p1), .val (.int p2), .unset, .unset, .unset, .unset] [])) t
    refine XS.bipush X0.here hx rfl (hb hby at_0) ?_
    exact kt
  obtain ⟨T2, h2, c2, X2, e2, E2, A2, st2⟩ := newP X0 hx hZ (hw _ (List.mem_of_getElem? (i := 0) rfl)) e0 (g := (mkF m 2 #[.val (.int p1), .val (.int p2), .unset, .unset, .unset, .unset] [(.int (8 : Int32))])) rfl (hb hby at_2) rfl (by decide) (cap := 8) (by decide) (by decide) (by decide) (by decide)
  obtain ⟨b2, g2⟩ : ∃ z, z = h0.size := ⟨_, rfl⟩
  rw [← g2] at A2 st2
  have g_b2 : n0 ≤ b2 := Nat.le_trans Z0 (Nat.le_of_eq g2.symm)
  have sz_b2 : h0.size ≤ b2 := Nat.le_trans K0.1 (Nat.le_of_eq g2.symm)
  have ne3 : aV ≠ b2 := Nat.ne_of_lt (Nat.lt_of_lt_of_le AV.lt (Nat.le_of_eq g2.symm))
  have ne4 : aC ≠ b2 := Nat.ne_of_lt (Nat.lt_of_lt_of_le F_aC.lt (Nat.le_of_eq g2.symm))
  have ne5 : aR ≠ b2 := Nat.ne_of_lt (Nat.lt_of_lt_of_le F_aR.lt (Nat.le_of_eq g2.symm))
  have ne6 : aU ≠ b2 := Nat.ne_of_lt (Nat.lt_of_lt_of_le F_aU.lt (Nat.le_of_eq g2.symm))
  have ne7 : aD ≠ b2 := Nat.ne_of_lt (Nat.lt_of_lt_of_le F_aD.lt (Nat.le_of_eq g2.symm))
  have F8 := O0.ext E2
  have F9 := AV.ext E2
  have F10 := EV.ext E2
  have F11 := F_aC.ext E2
  have F12 := F_aR.ext E2
  have F13 := F_aU.ext E2
  have F14 := F_aD.ext E2
  have F15 := (Sta.ext O0.2 R_aV).ext E2
  have F16 := (Sta.ext O0.2 R_aC).ext E2
  have F17 := (Sta.ext O0.2 R_aR).ext E2
  have F18 := (Sta.ext O0.2 R_aU).ext E2
  have F19 := (Sta.ext O0.2 R_aD).ext E2
  have Z2 : n0 ≤ h2.size := Nat.le_trans Z0 E2.1
  have K2 : Keep h0 h2 [] := K0.ext E2
  have F20 : Arv Z h2 b2 c2 .char (8 : Int32) [(.int (0 : Int32)), (.int (0 : Int32)), (.int (0 : Int32)), (.int (0 : Int32)), (.int (0 : Int32)), (.int (0 : Int32)), (.int (0 : Int32)), (.int (0 : Int32))] (.int (0 : Int32)) := (Arv.new A2 (by decide)).pad (pad_rep [] (.int (0 : Int32)) 8)
  have k21 : ∀ t, Steps p.tables e below (T2.setTop (mkF m 4 #[.val (.int p1), .val (.int p2), .unset, .unset, .unset, .unset] [(.ref b2)])) t → Steps p.tables e below (s₁.setTop (entryFrame m #[(.int p1), (.int p2)] maxLocals)) t := fun t kt => k1 t (st2 t kt)
  have k22 : ∀ t, Steps p.tables e below (T2.setTop (mkF m 8 #[.val (.int p1), .val (.int p2), .unset, .unset, .unset, .unset] [(.int (67 : Int32)), (.int (0 : Int32)), (.ref b2), (.ref b2)])) t → Steps p.tables e below (s₁.setTop (entryFrame m #[(.int p1), (.int p2)] maxLocals)) t := by
    intro t kt
    refine k21 t ?_
    show Steps p.tables e below (T2.setTop (mkF m 4 #[.val (.int p1), .val (.int p2), .unset, .unset, .unset, .unset] [(.ref b2)])) t
    refine XS.dup X2.here hx rfl (hb hby at_4) rfl rfl ?_
    show Steps p.tables e below (T2.setTop (mkF m 5 #[.val (.int p1), .val (.int p2), .unset, .unset, .unset, .unset] [(.ref b2), (.ref b2)])) t
    refine XS.iconst X2.here hx rfl (hb hby at_5) ?_
    show Steps p.tables e below (T2.setTop (mkF m 6 #[.val (.int p1), .val (.int p2), .unset, .unset, .unset, .unset] [(.int (0 : Int32)), (.ref b2), (.ref b2)])) t
    refine XS.bipush X2.here hx rfl (hb hby at_6) ?_
    exact kt
  obtain ⟨cl23, Ar23, q23, S23, M23, H23, G23⟩ := id F20
  have hin23 : ¬ ((0 : Int32) < 0 ∨ cl23.slots.size ≤ ((0 : Int32)).toNatClampNeg) := inb_of S23 ⟨by decide, by decide⟩
  obtain ⟨T23, h23, X23, e23, W23, st23⟩ := stC X2 hx hZ e2 Ar23 (j := (0 : Int32)) hin23 (g := (mkF m 8 #[.val (.int p1), .val (.int p2), .unset, .unset, .unset, .unset] [(.int (67 : Int32)), (.int (0 : Int32)), (.ref b2), (.ref b2)])) rfl rfl (hb hby at_8)
  have F24 : Arv Z h23 b2 c2 .char (8 : Int32) [(.int ((67 : Int32).toUInt32.toUInt16.toUInt32.toInt32)), (.int (0 : Int32)), (.int (0 : Int32)), (.int (0 : Int32)), (.int (0 : Int32)), (.int (0 : Int32)), (.int (0 : Int32)), (.int (0 : Int32))] (.int (0 : Int32)) := Arv.set Ar23 q23 S23 M23 H23 G23 (fits_nar_char _) W23 0 rfl (Nat.le_of_ble_eq_true rfl)
  have F25 := F8.wr W23 g_b2
  have F26 := F9.other W23 ne3
  have F27 := F10.wr W23
  have F28 := F11.other W23 (Or.inl ne4)
  have F29 := F12.other W23 (Or.inl ne5)
  have F30 := F13.other W23 (Or.inl ne6)
  have F31 := F14.other W23 (Or.inl ne7)
  have F32 := F15.wr W23
  have F33 := F16.wr W23
  have F34 := F17.wr W23
  have F35 := F18.wr W23
  have F36 := F19.wr W23
  have Z23 : n0 ≤ h23.size := Nat.le_trans Z2 (Keep.of_wr W23).1
  have K23 : Keep h0 h23 [] := K2.wr W23 (Or.inr sz_b2)
  have N23 := Fr.snoc X23 N0 g_b2
  have k38 : ∀ t, Steps p.tables e below (T23.setTop (mkF m 9 #[.val (.int p1), .val (.int p2), .unset, .unset, .unset, .unset] [(.ref b2)])) t → Steps p.tables e below (s₁.setTop (entryFrame m #[(.int p1), (.int p2)] maxLocals)) t := fun t kt => k22 t (st23 t kt)
  have k39 : ∀ t, Steps p.tables e below (T23.setTop (mkF m 13 #[.val (.int p1), .val (.int p2), .unset, .unset, .unset, .unset] [(.int (82 : Int32)), (.int (1 : Int32)), (.ref b2), (.ref b2)])) t → Steps p.tables e below (s₁.setTop (entryFrame m #[(.int p1), (.int p2)] maxLocals)) t := by
    intro t kt
    refine k38 t ?_
    show Steps p.tables e below (T23.setTop (mkF m 9 #[.val (.int p1), .val (.int p2), .unset, .unset, .unset, .unset] [(.ref b2)])) t
    refine XS.dup X23.here hx rfl (hb hby at_9) rfl rfl ?_
    show Steps p.tables e below (T23.setTop (mkF m 10 #[.val (.int p1), .val (.int p2), .unset, .unset, .unset, .unset] [(.ref b2), (.ref b2)])) t
    refine XS.iconst X23.here hx rfl (hb hby at_10) ?_
    show Steps p.tables e below (T23.setTop (mkF m 11 #[.val (.int p1), .val (.int p2), .unset, .unset, .unset, .unset] [(.int (1 : Int32)), (.ref b2), (.ref b2)])) t
    refine XS.bipush X23.here hx rfl (hb hby at_11) ?_
    exact kt
  obtain ⟨cl40, Ar40, q40, S40, M40, H40, G40⟩ := id F24
  have hin40 : ¬ ((1 : Int32) < 0 ∨ cl40.slots.size ≤ ((1 : Int32)).toNatClampNeg) := inb_of S40 ⟨by decide, by decide⟩
  obtain ⟨T40, h40, X40, e40, W40, st40⟩ := stC X23 hx hZ e23 Ar40 (j := (1 : Int32)) hin40 (g := (mkF m 13 #[.val (.int p1), .val (.int p2), .unset, .unset, .unset, .unset] [(.int (82 : Int32)), (.int (1 : Int32)), (.ref b2), (.ref b2)])) rfl rfl (hb hby at_13)
  have F41 : Arv Z h40 b2 c2 .char (8 : Int32) [(.int ((67 : Int32).toUInt32.toUInt16.toUInt32.toInt32)), (.int ((82 : Int32).toUInt32.toUInt16.toUInt32.toInt32)), (.int (0 : Int32)), (.int (0 : Int32)), (.int (0 : Int32)), (.int (0 : Int32)), (.int (0 : Int32)), (.int (0 : Int32))] (.int (0 : Int32)) := Arv.set Ar40 q40 S40 M40 H40 G40 (fits_nar_char _) W40 1 rfl (Nat.le_of_ble_eq_true rfl)
  have F42 := F25.wr W40 g_b2
  have F43 := F26.other W40 ne3
  have F44 := F27.wr W40
  have F45 := F28.other W40 (Or.inl ne4)
  have F46 := F29.other W40 (Or.inl ne5)
  have F47 := F30.other W40 (Or.inl ne6)
  have F48 := F31.other W40 (Or.inl ne7)
  have F49 := F32.wr W40
  have F50 := F33.wr W40
  have F51 := F34.wr W40
  have F52 := F35.wr W40
  have F53 := F36.wr W40
  have Z40 : n0 ≤ h40.size := Nat.le_trans Z23 (Keep.of_wr W40).1
  have K40 : Keep h0 h40 [] := K23.wr W40 (Or.inr sz_b2)
  have N40 := Fr.snoc X40 N23 g_b2
  have k55 : ∀ t, Steps p.tables e below (T40.setTop (mkF m 14 #[.val (.int p1), .val (.int p2), .unset, .unset, .unset, .unset] [(.ref b2)])) t → Steps p.tables e below (s₁.setTop (entryFrame m #[(.int p1), (.int p2)] maxLocals)) t := fun t kt => k39 t (st40 t kt)
  have k56 : ∀ t, Steps p.tables e below (T40.setTop (mkF m 18 #[.val (.int p1), .val (.int p2), .unset, .unset, .unset, .unset] [(.int (85 : Int32)), (.int (2 : Int32)), (.ref b2), (.ref b2)])) t → Steps p.tables e below (s₁.setTop (entryFrame m #[(.int p1), (.int p2)] maxLocals)) t := by
    intro t kt
    refine k55 t ?_
    show Steps p.tables e below (T40.setTop (mkF m 14 #[.val (.int p1), .val (.int p2), .unset, .unset, .unset, .unset] [(.ref b2)])) t
    refine XS.dup X40.here hx rfl (hb hby at_14) rfl rfl ?_
    show Steps p.tables e below (T40.setTop (mkF m 15 #[.val (.int p1), .val (.int p2), .unset, .unset, .unset, .unset] [(.ref b2), (.ref b2)])) t
    refine XS.iconst X40.here hx rfl (hb hby at_15) ?_
    show Steps p.tables e below (T40.setTop (mkF m 16 #[.val (.int p1), .val (.int p2), .unset, .unset, .unset, .unset] [(.int (2 : Int32)), (.ref b2), (.ref b2)])) t
    refine XS.bipush X40.here hx rfl (hb hby at_16) ?_
    exact kt
  obtain ⟨cl57, Ar57, q57, S57, M57, H57, G57⟩ := id F41
  have hin57 : ¬ ((2 : Int32) < 0 ∨ cl57.slots.size ≤ ((2 : Int32)).toNatClampNeg) := inb_of S57 ⟨by decide, by decide⟩
  obtain ⟨T57, h57, X57, e57, W57, st57⟩ := stC X40 hx hZ e40 Ar57 (j := (2 : Int32)) hin57 (g := (mkF m 18 #[.val (.int p1), .val (.int p2), .unset, .unset, .unset, .unset] [(.int (85 : Int32)), (.int (2 : Int32)), (.ref b2), (.ref b2)])) rfl rfl (hb hby at_18)
  have F58 : Arv Z h57 b2 c2 .char (8 : Int32) [(.int ((67 : Int32).toUInt32.toUInt16.toUInt32.toInt32)), (.int ((82 : Int32).toUInt32.toUInt16.toUInt32.toInt32)), (.int ((85 : Int32).toUInt32.toUInt16.toUInt32.toInt32)), (.int (0 : Int32)), (.int (0 : Int32)), (.int (0 : Int32)), (.int (0 : Int32)), (.int (0 : Int32))] (.int (0 : Int32)) := Arv.set Ar57 q57 S57 M57 H57 G57 (fits_nar_char _) W57 2 rfl (Nat.le_of_ble_eq_true rfl)
  have F59 := F42.wr W57 g_b2
  have F60 := F43.other W57 ne3
  have F61 := F44.wr W57
  have F62 := F45.other W57 (Or.inl ne4)
  have F63 := F46.other W57 (Or.inl ne5)
  have F64 := F47.other W57 (Or.inl ne6)
  have F65 := F48.other W57 (Or.inl ne7)
  have F66 := F49.wr W57
  have F67 := F50.wr W57
  have F68 := F51.wr W57
  have F69 := F52.wr W57
  have F70 := F53.wr W57
  have Z57 : n0 ≤ h57.size := Nat.le_trans Z40 (Keep.of_wr W57).1
  have K57 : Keep h0 h57 [] := K40.wr W57 (Or.inr sz_b2)
  have N57 := Fr.snoc X57 N40 g_b2
  have k72 : ∀ t, Steps p.tables e below (T57.setTop (mkF m 19 #[.val (.int p1), .val (.int p2), .unset, .unset, .unset, .unset] [(.ref b2)])) t → Steps p.tables e below (s₁.setTop (entryFrame m #[(.int p1), (.int p2)] maxLocals)) t := fun t kt => k56 t (st57 t kt)
  have k73 : ∀ t, Steps p.tables e below (T57.setTop (mkF m 23 #[.val (.int p1), .val (.int p2), .unset, .unset, .unset, .unset] [(.int (68 : Int32)), (.int (3 : Int32)), (.ref b2), (.ref b2)])) t → Steps p.tables e below (s₁.setTop (entryFrame m #[(.int p1), (.int p2)] maxLocals)) t := by
    intro t kt
    refine k72 t ?_
    show Steps p.tables e below (T57.setTop (mkF m 19 #[.val (.int p1), .val (.int p2), .unset, .unset, .unset, .unset] [(.ref b2)])) t
    refine XS.dup X57.here hx rfl (hb hby at_19) rfl rfl ?_
    show Steps p.tables e below (T57.setTop (mkF m 20 #[.val (.int p1), .val (.int p2), .unset, .unset, .unset, .unset] [(.ref b2), (.ref b2)])) t
    refine XS.iconst X57.here hx rfl (hb hby at_20) ?_
    show Steps p.tables e below (T57.setTop (mkF m 21 #[.val (.int p1), .val (.int p2), .unset, .unset, .unset, .unset] [(.int (3 : Int32)), (.ref b2), (.ref b2)])) t
    refine XS.bipush X57.here hx rfl (hb hby at_21) ?_
    exact kt
  obtain ⟨cl74, Ar74, q74, S74, M74, H74, G74⟩ := id F58
  have hin74 : ¬ ((3 : Int32) < 0 ∨ cl74.slots.size ≤ ((3 : Int32)).toNatClampNeg) := inb_of S74 ⟨by decide, by decide⟩
  obtain ⟨T74, h74, X74, e74, W74, st74⟩ := stC X57 hx hZ e57 Ar74 (j := (3 : Int32)) hin74 (g := (mkF m 23 #[.val (.int p1), .val (.int p2), .unset, .unset, .unset, .unset] [(.int (68 : Int32)), (.int (3 : Int32)), (.ref b2), (.ref b2)])) rfl rfl (hb hby at_23)
  have F75 : Arv Z h74 b2 c2 .char (8 : Int32) [(.int ((67 : Int32).toUInt32.toUInt16.toUInt32.toInt32)), (.int ((82 : Int32).toUInt32.toUInt16.toUInt32.toInt32)), (.int ((85 : Int32).toUInt32.toUInt16.toUInt32.toInt32)), (.int ((68 : Int32).toUInt32.toUInt16.toUInt32.toInt32)), (.int (0 : Int32)), (.int (0 : Int32)), (.int (0 : Int32)), (.int (0 : Int32))] (.int (0 : Int32)) := Arv.set Ar74 q74 S74 M74 H74 G74 (fits_nar_char _) W74 3 rfl (Nat.le_of_ble_eq_true rfl)
  have F76 := F59.wr W74 g_b2
  have F77 := F60.other W74 ne3
  have F78 := F61.wr W74
  have F79 := F62.other W74 (Or.inl ne4)
  have F80 := F63.other W74 (Or.inl ne5)
  have F81 := F64.other W74 (Or.inl ne6)
  have F82 := F65.other W74 (Or.inl ne7)
  have F83 := F66.wr W74
  have F84 := F67.wr W74
  have F85 := F68.wr W74
  have F86 := F69.wr W74
  have F87 := F70.wr W74
  have Z74 : n0 ≤ h74.size := Nat.le_trans Z57 (Keep.of_wr W74).1
  have K74 : Keep h0 h74 [] := K57.wr W74 (Or.inr sz_b2)
  have N74 := Fr.snoc X74 N57 g_b2
  have k89 : ∀ t, Steps p.tables e below (T74.setTop (mkF m 24 #[.val (.int p1), .val (.int p2), .unset, .unset, .unset, .unset] [(.ref b2)])) t → Steps p.tables e below (s₁.setTop (entryFrame m #[(.int p1), (.int p2)] maxLocals)) t := fun t kt => k73 t (st74 t kt)
  have k90 : ∀ t, Steps p.tables e below (T74.setTop (mkF m 28 #[.val (.int p1), .val (.int p2), .unset, .unset, .unset, .unset] [(.int (99 : Int32)), (.int (4 : Int32)), (.ref b2), (.ref b2)])) t → Steps p.tables e below (s₁.setTop (entryFrame m #[(.int p1), (.int p2)] maxLocals)) t := by
    intro t kt
    refine k89 t ?_
    show Steps p.tables e below (T74.setTop (mkF m 24 #[.val (.int p1), .val (.int p2), .unset, .unset, .unset, .unset] [(.ref b2)])) t
    refine XS.dup X74.here hx rfl (hb hby at_24) rfl rfl ?_
    show Steps p.tables e below (T74.setTop (mkF m 25 #[.val (.int p1), .val (.int p2), .unset, .unset, .unset, .unset] [(.ref b2), (.ref b2)])) t
    refine XS.iconst X74.here hx rfl (hb hby at_25) ?_
    show Steps p.tables e below (T74.setTop (mkF m 26 #[.val (.int p1), .val (.int p2), .unset, .unset, .unset, .unset] [(.int (4 : Int32)), (.ref b2), (.ref b2)])) t
    refine XS.bipush X74.here hx rfl (hb hby at_26) ?_
    exact kt
  obtain ⟨cl91, Ar91, q91, S91, M91, H91, G91⟩ := id F75
  have hin91 : ¬ ((4 : Int32) < 0 ∨ cl91.slots.size ≤ ((4 : Int32)).toNatClampNeg) := inb_of S91 ⟨by decide, by decide⟩
  obtain ⟨T91, h91, X91, e91, W91, st91⟩ := stC X74 hx hZ e74 Ar91 (j := (4 : Int32)) hin91 (g := (mkF m 28 #[.val (.int p1), .val (.int p2), .unset, .unset, .unset, .unset] [(.int (99 : Int32)), (.int (4 : Int32)), (.ref b2), (.ref b2)])) rfl rfl (hb hby at_28)
  have F92 : Arv Z h91 b2 c2 .char (8 : Int32) [(.int ((67 : Int32).toUInt32.toUInt16.toUInt32.toInt32)), (.int ((82 : Int32).toUInt32.toUInt16.toUInt32.toInt32)), (.int ((85 : Int32).toUInt32.toUInt16.toUInt32.toInt32)), (.int ((68 : Int32).toUInt32.toUInt16.toUInt32.toInt32)), (.int ((99 : Int32).toUInt32.toUInt16.toUInt32.toInt32)), (.int (0 : Int32)), (.int (0 : Int32)), (.int (0 : Int32))] (.int (0 : Int32)) := Arv.set Ar91 q91 S91 M91 H91 G91 (fits_nar_char _) W91 4 rfl (Nat.le_of_ble_eq_true rfl)
  have F93 := F76.wr W91 g_b2
  have F94 := F77.other W91 ne3
  have F95 := F78.wr W91
  have F96 := F79.other W91 (Or.inl ne4)
  have F97 := F80.other W91 (Or.inl ne5)
  have F98 := F81.other W91 (Or.inl ne6)
  have F99 := F82.other W91 (Or.inl ne7)
  have F100 := F83.wr W91
  have F101 := F84.wr W91
  have F102 := F85.wr W91
  have F103 := F86.wr W91
  have F104 := F87.wr W91
  have Z91 : n0 ≤ h91.size := Nat.le_trans Z74 (Keep.of_wr W91).1
  have K91 : Keep h0 h91 [] := K74.wr W91 (Or.inr sz_b2)
  have N91 := Fr.snoc X91 N74 g_b2
  have k106 : ∀ t, Steps p.tables e below (T91.setTop (mkF m 29 #[.val (.int p1), .val (.int p2), .unset, .unset, .unset, .unset] [(.ref b2)])) t → Steps p.tables e below (s₁.setTop (entryFrame m #[(.int p1), (.int p2)] maxLocals)) t := fun t kt => k90 t (st91 t kt)
  have k107 : ∀ t, Steps p.tables e below (T91.setTop (mkF m 33 #[.val (.int p1), .val (.int p2), .unset, .unset, .unset, .unset] [(.int (114 : Int32)), (.int (5 : Int32)), (.ref b2), (.ref b2)])) t → Steps p.tables e below (s₁.setTop (entryFrame m #[(.int p1), (.int p2)] maxLocals)) t := by
    intro t kt
    refine k106 t ?_
    show Steps p.tables e below (T91.setTop (mkF m 29 #[.val (.int p1), .val (.int p2), .unset, .unset, .unset, .unset] [(.ref b2)])) t
    refine XS.dup X91.here hx rfl (hb hby at_29) rfl rfl ?_
    show Steps p.tables e below (T91.setTop (mkF m 30 #[.val (.int p1), .val (.int p2), .unset, .unset, .unset, .unset] [(.ref b2), (.ref b2)])) t
    refine XS.iconst X91.here hx rfl (hb hby at_30) ?_
    show Steps p.tables e below (T91.setTop (mkF m 31 #[.val (.int p1), .val (.int p2), .unset, .unset, .unset, .unset] [(.int (5 : Int32)), (.ref b2), (.ref b2)])) t
    refine XS.bipush X91.here hx rfl (hb hby at_31) ?_
    exact kt
  obtain ⟨cl108, Ar108, q108, S108, M108, H108, G108⟩ := id F92
  have hin108 : ¬ ((5 : Int32) < 0 ∨ cl108.slots.size ≤ ((5 : Int32)).toNatClampNeg) := inb_of S108 ⟨by decide, by decide⟩
  obtain ⟨T108, h108, X108, e108, W108, st108⟩ := stC X91 hx hZ e91 Ar108 (j := (5 : Int32)) hin108 (g := (mkF m 33 #[.val (.int p1), .val (.int p2), .unset, .unset, .unset, .unset] [(.int (114 : Int32)), (.int (5 : Int32)), (.ref b2), (.ref b2)])) rfl rfl (hb hby at_33)
  have F109 : Arv Z h108 b2 c2 .char (8 : Int32) [(.int ((67 : Int32).toUInt32.toUInt16.toUInt32.toInt32)), (.int ((82 : Int32).toUInt32.toUInt16.toUInt32.toInt32)), (.int ((85 : Int32).toUInt32.toUInt16.toUInt32.toInt32)), (.int ((68 : Int32).toUInt32.toUInt16.toUInt32.toInt32)), (.int ((99 : Int32).toUInt32.toUInt16.toUInt32.toInt32)), (.int ((114 : Int32).toUInt32.toUInt16.toUInt32.toInt32)), (.int (0 : Int32)), (.int (0 : Int32))] (.int (0 : Int32)) := Arv.set Ar108 q108 S108 M108 H108 G108 (fits_nar_char _) W108 5 rfl (Nat.le_of_ble_eq_true rfl)
  have F110 := F93.wr W108 g_b2
  have F111 := F94.other W108 ne3
  have F112 := F95.wr W108
  have F113 := F96.other W108 (Or.inl ne4)
  have F114 := F97.other W108 (Or.inl ne5)
  have F115 := F98.other W108 (Or.inl ne6)
  have F116 := F99.other W108 (Or.inl ne7)
  have F117 := F100.wr W108
  have F118 := F101.wr W108
  have F119 := F102.wr W108
  have F120 := F103.wr W108
  have F121 := F104.wr W108
  have Z108 : n0 ≤ h108.size := Nat.le_trans Z91 (Keep.of_wr W108).1
  have K108 : Keep h0 h108 [] := K91.wr W108 (Or.inr sz_b2)
  have N108 := Fr.snoc X108 N91 g_b2
  have k123 : ∀ t, Steps p.tables e below (T108.setTop (mkF m 34 #[.val (.int p1), .val (.int p2), .unset, .unset, .unset, .unset] [(.ref b2)])) t → Steps p.tables e below (s₁.setTop (entryFrame m #[(.int p1), (.int p2)] maxLocals)) t := fun t kt => k107 t (st108 t kt)
  have k124 : ∀ t, Steps p.tables e below (T108.setTop (mkF m 39 #[.val (.int p1), .val (.int p2), .unset, .unset, .unset, .unset] [(.int (117 : Int32)), (.int (6 : Int32)), (.ref b2), (.ref b2)])) t → Steps p.tables e below (s₁.setTop (entryFrame m #[(.int p1), (.int p2)] maxLocals)) t := by
    intro t kt
    refine k123 t ?_
    show Steps p.tables e below (T108.setTop (mkF m 34 #[.val (.int p1), .val (.int p2), .unset, .unset, .unset, .unset] [(.ref b2)])) t
    refine XS.dup X108.here hx rfl (hb hby at_34) rfl rfl ?_
    show Steps p.tables e below (T108.setTop (mkF m 35 #[.val (.int p1), .val (.int p2), .unset, .unset, .unset, .unset] [(.ref b2), (.ref b2)])) t
    refine XS.bipush X108.here hx rfl (hb hby at_35) ?_
    show Steps p.tables e below (T108.setTop (mkF m 37 #[.val (.int p1), .val (.int p2), .unset, .unset, .unset, .unset] [(.int (6 : Int32)), (.ref b2), (.ref b2)])) t
    refine XS.bipush X108.here hx rfl (hb hby at_37) ?_
    exact kt
  obtain ⟨cl125, Ar125, q125, S125, M125, H125, G125⟩ := id F109
  have hin125 : ¬ ((6 : Int32) < 0 ∨ cl125.slots.size ≤ ((6 : Int32)).toNatClampNeg) := inb_of S125 ⟨by decide, by decide⟩
  obtain ⟨T125, h125, X125, e125, W125, st125⟩ := stC X108 hx hZ e108 Ar125 (j := (6 : Int32)) hin125 (g := (mkF m 39 #[.val (.int p1), .val (.int p2), .unset, .unset, .unset, .unset] [(.int (117 : Int32)), (.int (6 : Int32)), (.ref b2), (.ref b2)])) rfl rfl (hb hby at_39)
  have F126 : Arv Z h125 b2 c2 .char (8 : Int32) [(.int ((67 : Int32).toUInt32.toUInt16.toUInt32.toInt32)), (.int ((82 : Int32).toUInt32.toUInt16.toUInt32.toInt32)), (.int ((85 : Int32).toUInt32.toUInt16.toUInt32.toInt32)), (.int ((68 : Int32).toUInt32.toUInt16.toUInt32.toInt32)), (.int ((99 : Int32).toUInt32.toUInt16.toUInt32.toInt32)), (.int ((114 : Int32).toUInt32.toUInt16.toUInt32.toInt32)), (.int ((117 : Int32).toUInt32.toUInt16.toUInt32.toInt32)), (.int (0 : Int32))] (.int (0 : Int32)) := Arv.set Ar125 q125 S125 M125 H125 G125 (fits_nar_char _) W125 6 rfl (Nat.le_of_ble_eq_true rfl)
  have F127 := F110.wr W125 g_b2
  have F128 := F111.other W125 ne3
  have F129 := F112.wr W125
  have F130 := F113.other W125 (Or.inl ne4)
  have F131 := F114.other W125 (Or.inl ne5)
  have F132 := F115.other W125 (Or.inl ne6)
  have F133 := F116.other W125 (Or.inl ne7)
  have F134 := F117.wr W125
  have F135 := F118.wr W125
  have F136 := F119.wr W125
  have F137 := F120.wr W125
  have F138 := F121.wr W125
  have Z125 : n0 ≤ h125.size := Nat.le_trans Z108 (Keep.of_wr W125).1
  have K125 : Keep h0 h125 [] := K108.wr W125 (Or.inr sz_b2)
  have N125 := Fr.snoc X125 N108 g_b2
  have k140 : ∀ t, Steps p.tables e below (T125.setTop (mkF m 40 #[.val (.int p1), .val (.int p2), .unset, .unset, .unset, .unset] [(.ref b2)])) t → Steps p.tables e below (s₁.setTop (entryFrame m #[(.int p1), (.int p2)] maxLocals)) t := fun t kt => k124 t (st125 t kt)
  have k141 : ∀ t, Steps p.tables e below (T125.setTop (mkF m 45 #[.val (.int p1), .val (.int p2), .unset, .unset, .unset, .unset] [(.int (100 : Int32)), (.int (7 : Int32)), (.ref b2), (.ref b2)])) t → Steps p.tables e below (s₁.setTop (entryFrame m #[(.int p1), (.int p2)] maxLocals)) t := by
    intro t kt
    refine k140 t ?_
    show Steps p.tables e below (T125.setTop (mkF m 40 #[.val (.int p1), .val (.int p2), .unset, .unset, .unset, .unset] [(.ref b2)])) t
    refine XS.dup X125.here hx rfl (hb hby at_40) rfl rfl ?_
    show Steps p.tables e below (T125.setTop (mkF m 41 #[.val (.int p1), .val (.int p2), .unset, .unset, .unset, .unset] [(.ref b2), (.ref b2)])) t
    refine XS.bipush X125.here hx rfl (hb hby at_41) ?_
    show Steps p.tables e below (T125.setTop (mkF m 43 #[.val (.int p1), .val (.int p2), .unset, .unset, .unset, .unset] [(.int (7 : Int32)), (.ref b2), (.ref b2)])) t
    refine XS.bipush X125.here hx rfl (hb hby at_43) ?_
    exact kt
  obtain ⟨cl142, Ar142, q142, S142, M142, H142, G142⟩ := id F126
  have hin142 : ¬ ((7 : Int32) < 0 ∨ cl142.slots.size ≤ ((7 : Int32)).toNatClampNeg) := inb_of S142 ⟨by decide, by decide⟩
  obtain ⟨T142, h142, X142, e142, W142, st142⟩ := stC X125 hx hZ e125 Ar142 (j := (7 : Int32)) hin142 (g := (mkF m 45 #[.val (.int p1), .val (.int p2), .unset, .unset, .unset, .unset] [(.int (100 : Int32)), (.int (7 : Int32)), (.ref b2), (.ref b2)])) rfl rfl (hb hby at_45)
  have F143 : Arv Z h142 b2 c2 .char (8 : Int32) [(.int ((67 : Int32).toUInt32.toUInt16.toUInt32.toInt32)), (.int ((82 : Int32).toUInt32.toUInt16.toUInt32.toInt32)), (.int ((85 : Int32).toUInt32.toUInt16.toUInt32.toInt32)), (.int ((68 : Int32).toUInt32.toUInt16.toUInt32.toInt32)), (.int ((99 : Int32).toUInt32.toUInt16.toUInt32.toInt32)), (.int ((114 : Int32).toUInt32.toUInt16.toUInt32.toInt32)), (.int ((117 : Int32).toUInt32.toUInt16.toUInt32.toInt32)), (.int ((100 : Int32).toUInt32.toUInt16.toUInt32.toInt32))] (.int (0 : Int32)) := Arv.set Ar142 q142 S142 M142 H142 G142 (fits_nar_char _) W142 7 rfl (Nat.le_of_ble_eq_true rfl)
  have F144 := F127.wr W142 g_b2
  have F145 := F128.other W142 ne3
  have F146 := F129.wr W142
  have F147 := F130.other W142 (Or.inl ne4)
  have F148 := F131.other W142 (Or.inl ne5)
  have F149 := F132.other W142 (Or.inl ne6)
  have F150 := F133.other W142 (Or.inl ne7)
  have F151 := F134.wr W142
  have F152 := F135.wr W142
  have F153 := F136.wr W142
  have F154 := F137.wr W142
  have F155 := F138.wr W142
  have Z142 : n0 ≤ h142.size := Nat.le_trans Z125 (Keep.of_wr W142).1
  have K142 : Keep h0 h142 [] := K125.wr W142 (Or.inr sz_b2)
  have N142 := Fr.snoc X142 N125 g_b2
  have k157 : ∀ t, Steps p.tables e below (T142.setTop (mkF m 46 #[.val (.int p1), .val (.int p2), .unset, .unset, .unset, .unset] [(.ref b2)])) t → Steps p.tables e below (s₁.setTop (entryFrame m #[(.int p1), (.int p2)] maxLocals)) t := fun t kt => k141 t (st142 t kt)
  have k159 : ∀ t, Steps p.tables e below (T142.setTop (mkF m 50 #[.val (.int p1), .val (.int p2), .val (.ref b2), .unset, .unset, .unset] [(.int (p1 &&& (3 : Int32)))])) t → Steps p.tables e below (s₁.setTop (entryFrame m #[(.int p1), (.int p2)] maxLocals)) t := by
    intro t kt
    refine k157 t ?_
    show Steps p.tables e below (T142.setTop (mkF m 46 #[.val (.int p1), .val (.int p2), .unset, .unset, .unset, .unset] [(.ref b2)])) t
    refine XS.astoreN X142.here hx rfl (hb hby at_46) rfl rfl (l' := #[.val (.int p1), .val (.int p2), .val (.ref b2), .unset, .unset, .unset]) rfl ?_
    show Steps p.tables e below (T142.setTop (mkF m 47 #[.val (.int p1), .val (.int p2), .val (.ref b2), .unset, .unset, .unset] [])) t
    refine XS.iloadN X142.here hx rfl (hb hby at_47) rfl ?_
    show Steps p.tables e below (T142.setTop (mkF m 48 #[.val (.int p1), .val (.int p2), .val (.ref b2), .unset, .unset, .unset] [(.int p1)])) t
    refine XS.iconst X142.here hx rfl (hb hby at_48) ?_
    show Steps p.tables e below (T142.setTop (mkF m 49 #[.val (.int p1), .val (.int p2), .val (.ref b2), .unset, .unset, .unset] [(.int (3 : Int32)), (.int p1)])) t
    refine XS.iand X142.here hx rfl (hb hby at_49) rfl ?_
    exact kt
  by_cases hc50_158 : (p1 &&& (3 : Int32)) = (0 : Int32)
  · have k160 : ∀ t, Steps p.tables e below (T142.setTop (mkF m 69 #[.val (.int p1), .val (.int p2), .val (.ref b2), .val (.int ((p2 &&& (65535 : Int32)).toUInt32.toUInt16.toUInt32.toInt32)), .unset, .unset] [])) t → Steps p.tables e below (s₁.setTop (entryFrame m #[(.int p1), (.int p2)] maxLocals)) t := by
      intro t kt
      refine k159 t ?_
      show Steps p.tables e below (T142.setTop (mkF m 50 #[.val (.int p1), .val (.int p2), .val (.ref b2), .unset, .unset, .unset] [(.int (p1 &&& (3 : Int32)))])) t
      refine XS.ifNo X142.here hx rfl (hb hby at_50) rfl ((if0 _ _).trans (teq hc50_158).2) ?_
      show Steps p.tables e below (T142.setTop (mkF m 53 #[.val (.int p1), .val (.int p2), .val (.ref b2), .unset, .unset, .unset] [])) t
      refine XS.iloadN X142.here hx rfl (hb hby at_53) rfl ?_
      show Steps p.tables e below (T142.setTop (mkF m 54 #[.val (.int p1), .val (.int p2), .val (.ref b2), .unset, .unset, .unset] [(.int p2)])) t
      refine X142.ldcInt hx hown (mvT hZ (hw _ (List.mem_of_getElem? (i := 1) rfl))) (g := (mkF m 54 #[.val (.int p1), .val (.int p2), .val (.ref b2), .unset, .unset, .unset] [(.int p2)])) rfl (hb hby at_54) _ ?_
      show Steps p.tables e below (T142.setTop (mkF m 56 #[.val (.int p1), .val (.int p2), .val (.ref b2), .unset, .unset, .unset] [(.int (65535 : Int32)), (.int p2)])) t
      refine XS.iand X142.here hx rfl (hb hby at_56) rfl ?_
      show Steps p.tables e below (T142.setTop (mkF m 57 #[.val (.int p1), .val (.int p2), .val (.ref b2), .unset, .unset, .unset] [(.int (p2 &&& (65535 : Int32)))])) t
      refine XS.i2c X142.here hx rfl (hb hby at_57) rfl ?_
      show Steps p.tables e below (T142.setTop (mkF m 58 #[.val (.int p1), .val (.int p2), .val (.ref b2), .unset, .unset, .unset] [(.int ((p2 &&& (65535 : Int32)).toUInt32.toUInt16.toUInt32.toInt32))])) t
      refine XS.istoreN X142.here hx rfl (hb hby at_58) rfl (l' := #[.val (.int p1), .val (.int p2), .val (.ref b2), .val (.int ((p2 &&& (65535 : Int32)).toUInt32.toUInt16.toUInt32.toInt32)), .unset, .unset]) rfl ?_
      show Steps p.tables e below (T142.setTop (mkF m 59 #[.val (.int p1), .val (.int p2), .val (.ref b2), .val (.int ((p2 &&& (65535 : Int32)).toUInt32.toUInt16.toUInt32.toInt32)), .unset, .unset] [])) t
      refine XS.goto X142.here hx rfl (pc0 := 59) (pc' := 69) rfl (hb hby at_59) (by decide) (by decide) ?_
      exact kt
    by_cases hk67_161 : ((p2 &&& (65535 : Int32)).toUInt32.toUInt16.toUInt32.toInt32) = (67 : Int32)
    · have k162 : ∀ t, Steps p.tables e below (T142.setTop (mkF m 70 #[.val (.int p1), .val (.int p2), .val (.ref b2), .val (.int ((p2 &&& (65535 : Int32)).toUInt32.toUInt16.toUInt32.toInt32)), .unset, .unset] [(.int ((p2 &&& (65535 : Int32)).toUInt32.toUInt16.toUInt32.toInt32))])) t → Steps p.tables e below (s₁.setTop (entryFrame m #[(.int p1), (.int p2)] maxLocals)) t := by
        intro t kt
        refine k160 t ?_
        show Steps p.tables e below (T142.setTop (mkF m 69 #[.val (.int p1), .val (.int p2), .val (.ref b2), .val (.int ((p2 &&& (65535 : Int32)).toUInt32.toUInt16.toUInt32.toInt32)), .unset, .unset] [])) t
        refine XS.iloadN X142.here hx rfl (hb hby at_69) rfl ?_
        exact kt
      obtain ⟨_, _, ⟨T163, L163, k163c, n163⟩, -, X163, ⟨Lc163, hQ163, l163, y163, z163⟩, st163⟩ := Jvm.LawKit.callS X142 hx (y := (⟨"com/example/ruleward/ruleward/rules/Operation", "of", "(C)Lcom/example/ruleward/ruleward/rules/Operation;"⟩ : MethodName)) hown (mvT hZ (hw _ (List.mem_of_getElem? (i := 2) rfl))) (mvT hZ (hw _ (List.mem_of_getElem? (i := 3) rfl))) (mvT hZ (hw _ (List.mem_of_getElem? (i := 4) rfl))) (mvT hZ (hw _ (List.mem_of_getElem? (i := 5) rfl))) (by decide) (backOf (W := 0) (rmF l Z a0 hw [] ((p2 &&& (65535 : Int32)).toUInt32.toUInt16.toUInt32.toInt32) aV kc aC aR aU aD h142 n0 Z142 F151 F145 F146 F147 F148 F149 F150) hZ (hw _ (List.mem_of_getElem? (i := 5) rfl)) (hw _ (List.mem_of_getElem? (i := 4) rfl)) (by decide) (by decide)) (g := (mkF m 70 #[.val (.int p1), .val (.int p2), .val (.ref b2), .val (.int ((p2 &&& (65535 : Int32)).toUInt32.toUInt16.toUInt32.toInt32)), .unset, .unset] [(.int ((p2 &&& (65535 : Int32)).toUInt32.toUInt16.toUInt32.toInt32))])) rfl (by rw [hml]; rfl) (argsL := [(.int ((p2 &&& (65535 : Int32)).toUInt32.toUInt16.toUInt32.toInt32))]) (rest := []) (lenOf own_pd1 rfl) rfl (by show 2 * 0 + _ ≤ _; exact Nat.le_of_eq rfl) (hb hby at_70) (fun _ _ => ⟨rfl, e142, (by decide : 1 + 1 ≤ _), (by decide : 8 + 4 ≤ _)⟩)
      dsimp only [Pt.U, Pt.locs, Pt.cells, Pt.slots] at X163 l163 y163 z163 st163 hQ163
      subst l163 y163 z163
      obtain ⟨hv163, N163q, K163k⟩ := hQ163
      have N163 := Fr.app N142 N163q
      rw [show own_op ((p2 &&& (65535 : Int32)).toUInt32.toUInt16.toUInt32.toInt32) aC aR aU aD = (.ref aC) from by unfold own_op; rw [if_pos hk67_161]] at hv163
      subst hv163
      have F164 := F144.keep K163k all0
      have F165 := F145.keep K163k nin0
      have F166 := F146.keep K163k
      have F167 := F147.keep K163k nin0
      have F168 := F148.keep K163k nin0
      have F169 := F149.keep K163k nin0
      have F170 := F150.keep K163k nin0
      have F171 := Sta.ext F164.2 R_aV
      have F172 := Sta.ext F164.2 R_aC
      have F173 := Sta.ext F164.2 R_aR
      have F174 := Sta.ext F164.2 R_aU
      have F175 := Sta.ext F164.2 R_aD
      have F176 := F143.keep K163k nin0
      have Z177 : n0 ≤ T163.heap.size := Nat.le_trans Z142 K163k.1
      have K177 : Keep h0 T163.heap [] := K142.trans K163k all0
      have k178 : ∀ t, Steps p.tables e below (T163.setTop (mkF m 73 #[.val (.int p1), .val (.int p2), .val (.ref b2), .val (.int ((p2 &&& (65535 : Int32)).toUInt32.toUInt16.toUInt32.toInt32)), .unset, .unset] [(.ref aC)])) t → Steps p.tables e below (s₁.setTop (entryFrame m #[(.int p1), (.int p2)] maxLocals)) t := fun t kt => k162 t (st163 t kt)
      have k179 : ∀ t, Steps p.tables e below (T163.setTop (mkF m 76 #[.val (.int p1), .val (.int p2), .val (.ref b2), .val (.int ((p2 &&& (65535 : Int32)).toUInt32.toUInt16.toUInt32.toInt32)), .val (.ref aC), .unset] [(.int ((p2 &&& (65535 : Int32)).toUInt32.toUInt16.toUInt32.toInt32))])) t → Steps p.tables e below (s₁.setTop (entryFrame m #[(.int p1), (.int p2)] maxLocals)) t := by
        intro t kt
        refine k178 t ?_
        show Steps p.tables e below (T163.setTop (mkF m 73 #[.val (.int p1), .val (.int p2), .val (.ref b2), .val (.int ((p2 &&& (65535 : Int32)).toUInt32.toUInt16.toUInt32.toInt32)), .unset, .unset] [(.ref aC)])) t
        refine XS.astore X163.here hx rfl (hb hby at_73) rfl rfl (l' := #[.val (.int p1), .val (.int p2), .val (.ref b2), .val (.int ((p2 &&& (65535 : Int32)).toUInt32.toUInt16.toUInt32.toInt32)), .val (.ref aC), .unset]) rfl ?_
        show Steps p.tables e below (T163.setTop (mkF m 75 #[.val (.int p1), .val (.int p2), .val (.ref b2), .val (.int ((p2 &&& (65535 : Int32)).toUInt32.toUInt16.toUInt32.toInt32)), .val (.ref aC), .unset] [])) t
        refine XS.iloadN X163.here hx rfl (hb hby at_75) rfl ?_
        exact kt
      obtain ⟨_, _, ⟨T180, L180, k180c, n180⟩, -, X180, ⟨Lc180, hQ180, l180, y180, z180⟩, st180⟩ := Jvm.LawKit.callS X163 hx (y := (⟨"com/example/ruleward/ruleward/rules/OperationOfPinLaw", "expected", "(C)Lcom/example/ruleward/ruleward/rules/Operation;"⟩ : MethodName)) hown (mvT hZ (hw _ (List.mem_of_getElem? (i := 27) rfl))) (mvT hZ (hw _ (List.mem_of_getElem? (i := 28) rfl))) (mvT hZ (hw _ (List.mem_of_getElem? (i := 29) rfl))) (mvT hZ (hw _ (List.mem_of_getElem? (i := 30) rfl))) (by decide) (backOf (W := 0) (rmE l Z a0 hw [] ((p2 &&& (65535 : Int32)).toUInt32.toUInt16.toUInt32.toInt32) aC aR aU aD T163.heap n0 Z177 F172 F173 F174 F175) hZ (hw _ (List.mem_of_getElem? (i := 30) rfl)) (hw _ (List.mem_of_getElem? (i := 29) rfl)) (by decide) (by decide)) (g := (mkF m 76 #[.val (.int p1), .val (.int p2), .val (.ref b2), .val (.int ((p2 &&& (65535 : Int32)).toUInt32.toUInt16.toUInt32.toInt32)), .val (.ref aC), .unset] [(.int ((p2 &&& (65535 : Int32)).toUInt32.toUInt16.toUInt32.toInt32))])) rfl (by rw [hml]; rfl) (argsL := [(.int ((p2 &&& (65535 : Int32)).toUInt32.toUInt16.toUInt32.toInt32))]) (rest := []) (lenOf own_pd1 rfl) rfl (by show 2 * 0 + _ ≤ _; exact Nat.le_of_eq rfl) (hb hby at_76) (fun _ _ => ⟨rfl, rfl, (by decide : 2 + 0 ≤ _), (by decide : 12 + 0 ≤ _)⟩)
      dsimp only [Pt.U, Pt.locs, Pt.cells, Pt.slots] at X180 l180 y180 z180 st180 hQ180
      subst l180 y180 z180
      obtain ⟨hv180, N180q, e180⟩ := hQ180
      have N180 := Fr.app N163 N180q
      rw [show own_op ((p2 &&& (65535 : Int32)).toUInt32.toUInt16.toUInt32.toInt32) aC aR aU aD = (.ref aC) from by unfold own_op; rw [if_pos hk67_161]] at hv180
      subst hv180
      have k181 : ∀ t, Steps p.tables e below (T180.setTop (mkF m 79 #[.val (.int p1), .val (.int p2), .val (.ref b2), .val (.int ((p2 &&& (65535 : Int32)).toUInt32.toUInt16.toUInt32.toInt32)), .val (.ref aC), .unset] [(.ref aC)])) t → Steps p.tables e below (s₁.setTop (entryFrame m #[(.int p1), (.int p2)] maxLocals)) t := fun t kt => k179 t (st180 t kt)
      have k183 : ∀ t, Steps p.tables e below (T180.setTop (mkF m 93 #[.val (.int p1), .val (.int p2), .val (.ref b2), .val (.int ((p2 &&& (65535 : Int32)).toUInt32.toUInt16.toUInt32.toInt32)), .val (.ref aC), .val (.ref aC)] [(.int (1 : Int32))])) t → Steps p.tables e below (s₁.setTop (entryFrame m #[(.int p1), (.int p2)] maxLocals)) t := by
        intro t kt
        refine k181 t ?_
        show Steps p.tables e below (T180.setTop (mkF m 79 #[.val (.int p1), .val (.int p2), .val (.ref b2), .val (.int ((p2 &&& (65535 : Int32)).toUInt32.toUInt16.toUInt32.toInt32)), .val (.ref aC), .unset] [(.ref aC)])) t
        refine XS.astore X180.here hx rfl (hb hby at_79) rfl rfl (l' := #[.val (.int p1), .val (.int p2), .val (.ref b2), .val (.int ((p2 &&& (65535 : Int32)).toUInt32.toUInt16.toUInt32.toInt32)), .val (.ref aC), .val (.ref aC)]) rfl ?_
        show Steps p.tables e below (T180.setTop (mkF m 81 #[.val (.int p1), .val (.int p2), .val (.ref b2), .val (.int ((p2 &&& (65535 : Int32)).toUInt32.toUInt16.toUInt32.toInt32)), .val (.ref aC), .val (.ref aC)] [])) t
        refine XS.aload X180.here hx rfl (hb hby at_81) rfl rfl ?_
        show Steps p.tables e below (T180.setTop (mkF m 83 #[.val (.int p1), .val (.int p2), .val (.ref b2), .val (.int ((p2 &&& (65535 : Int32)).toUInt32.toUInt16.toUInt32.toInt32)), .val (.ref aC), .val (.ref aC)] [(.ref aC)])) t
        refine XS.aload X180.here hx rfl (hb hby at_83) rfl rfl ?_
        show Steps p.tables e below (T180.setTop (mkF m 85 #[.val (.int p1), .val (.int p2), .val (.ref b2), .val (.int ((p2 &&& (65535 : Int32)).toUInt32.toUInt16.toUInt32.toInt32)), .val (.ref aC), .val (.ref aC)] [(.ref aC), (.ref aC)])) t
        refine Jvm.RoadKit.acmp (g := (mkF m 85 #[.val (.int p1), .val (.int p2), .val (.ref b2), .val (.int ((p2 &&& (65535 : Int32)).toUInt32.toUInt16.toUInt32.toInt32)), .val (.ref aC), .val (.ref aC)] [(.ref aC), (.ref aC)])) X180 hx rfl rfl rfl (pc0 := 85) (pc' := 88) (same := true) rfl (hb hby at_85) rfl (decide_eq_true rfl) (by decide) (by decide) ?_
        show Steps p.tables e below (T180.setTop (mkF m 88 #[.val (.int p1), .val (.int p2), .val (.ref b2), .val (.int ((p2 &&& (65535 : Int32)).toUInt32.toUInt16.toUInt32.toInt32)), .val (.ref aC), .val (.ref aC)] [])) t
        refine XS.iconst X180.here hx rfl (hb hby at_88) ?_
        show Steps p.tables e below (T180.setTop (mkF m 89 #[.val (.int p1), .val (.int p2), .val (.ref b2), .val (.int ((p2 &&& (65535 : Int32)).toUInt32.toUInt16.toUInt32.toInt32)), .val (.ref aC), .val (.ref aC)] [(.int (1 : Int32))])) t
        refine XS.goto X180.here hx rfl (pc0 := 89) (pc' := 93) rfl (hb hby at_89) (by decide) (by decide) ?_
        exact kt
      obtain ⟨fs, hr, hrun, hended, hW, hsame⟩ := X180.leave (v := some (.int (1 : Int32))) (fun h => by rw [Bd.returns] at h; cases h)
      refine ⟨_, _, k183 _ ?_, hrun, hended, _, _, rfl, ?_, ⟨_, rfl⟩, hW, hsame.mono (by decide) (by decide)⟩
      · show Steps p.tables e below (T180.setTop (mkF m 93 #[.val (.int p1), .val (.int p2), .val (.ref b2), .val (.int ((p2 &&& (65535 : Int32)).toUInt32.toUInt16.toUInt32.toInt32)), .val (.ref aC), .val (.ref aC)] [(.int (1 : Int32))])) _
        exact retN X180 hx (t := .boolean) Bd.returns (by simp) (hb hby at_93) hr
      · show Q0 Z p1 p2 aV kc aC aR aU aD h0 n0 _ T180.heap _
        rw [e180]
        exact ⟨rfl, N180⟩
    · by_cases hk82_184 : ((p2 &&& (65535 : Int32)).toUInt32.toUInt16.toUInt32.toInt32) = (82 : Int32)
      · have k185 : ∀ t, Steps p.tables e below (T142.setTop (mkF m 70 #[.val (.int p1), .val (.int p2), .val (.ref b2), .val (.int ((p2 &&& (65535 : Int32)).toUInt32.toUInt16.toUInt32.toInt32)), .unset, .unset] [(.int ((p2 &&& (65535 : Int32)).toUInt32.toUInt16.toUInt32.toInt32))])) t → Steps p.tables e below (s₁.setTop (entryFrame m #[(.int p1), (.int p2)] maxLocals)) t := by
          intro t kt
          refine k160 t ?_
          show Steps p.tables e below (T142.setTop (mkF m 69 #[.val (.int p1), .val (.int p2), .val (.ref b2), .val (.int ((p2 &&& (65535 : Int32)).toUInt32.toUInt16.toUInt32.toInt32)), .unset, .unset] [])) t
          refine XS.iloadN X142.here hx rfl (hb hby at_69) rfl ?_
          exact kt
        obtain ⟨_, _, ⟨T186, L186, k186c, n186⟩, -, X186, ⟨Lc186, hQ186, l186, y186, z186⟩, st186⟩ := Jvm.LawKit.callS X142 hx (y := (⟨"com/example/ruleward/ruleward/rules/Operation", "of", "(C)Lcom/example/ruleward/ruleward/rules/Operation;"⟩ : MethodName)) hown (mvT hZ (hw _ (List.mem_of_getElem? (i := 2) rfl))) (mvT hZ (hw _ (List.mem_of_getElem? (i := 3) rfl))) (mvT hZ (hw _ (List.mem_of_getElem? (i := 4) rfl))) (mvT hZ (hw _ (List.mem_of_getElem? (i := 5) rfl))) (by decide) (backOf (W := 0) (rmF l Z a0 hw [] ((p2 &&& (65535 : Int32)).toUInt32.toUInt16.toUInt32.toInt32) aV kc aC aR aU aD h142 n0 Z142 F151 F145 F146 F147 F148 F149 F150) hZ (hw _ (List.mem_of_getElem? (i := 5) rfl)) (hw _ (List.mem_of_getElem? (i := 4) rfl)) (by decide) (by decide)) (g := (mkF m 70 #[.val (.int p1), .val (.int p2), .val (.ref b2), .val (.int ((p2 &&& (65535 : Int32)).toUInt32.toUInt16.toUInt32.toInt32)), .unset, .unset] [(.int ((p2 &&& (65535 : Int32)).toUInt32.toUInt16.toUInt32.toInt32))])) rfl (by rw [hml]; rfl) (argsL := [(.int ((p2 &&& (65535 : Int32)).toUInt32.toUInt16.toUInt32.toInt32))]) (rest := []) (lenOf own_pd1 rfl) rfl (by show 2 * 0 + _ ≤ _; exact Nat.le_of_eq rfl) (hb hby at_70) (fun _ _ => ⟨rfl, e142, (by decide : 1 + 1 ≤ _), (by decide : 8 + 4 ≤ _)⟩)
        dsimp only [Pt.U, Pt.locs, Pt.cells, Pt.slots] at X186 l186 y186 z186 st186 hQ186
        subst l186 y186 z186
        obtain ⟨hv186, N186q, K186k⟩ := hQ186
        have N186 := Fr.app N142 N186q
        rw [show own_op ((p2 &&& (65535 : Int32)).toUInt32.toUInt16.toUInt32.toInt32) aC aR aU aD = (.ref aR) from by unfold own_op; rw [if_neg hk67_161, if_pos hk82_184]] at hv186
        subst hv186
        have F187 := F144.keep K186k all0
        have F188 := F145.keep K186k nin0
        have F189 := F146.keep K186k
        have F190 := F147.keep K186k nin0
        have F191 := F148.keep K186k nin0
        have F192 := F149.keep K186k nin0
        have F193 := F150.keep K186k nin0
        have F194 := Sta.ext F187.2 R_aV
        have F195 := Sta.ext F187.2 R_aC
        have F196 := Sta.ext F187.2 R_aR
        have F197 := Sta.ext F187.2 R_aU
        have F198 := Sta.ext F187.2 R_aD
        have F199 := F143.keep K186k nin0
        have Z200 : n0 ≤ T186.heap.size := Nat.le_trans Z142 K186k.1
        have K200 : Keep h0 T186.heap [] := K142.trans K186k all0
        have k201 : ∀ t, Steps p.tables e below (T186.setTop (mkF m 73 #[.val (.int p1), .val (.int p2), .val (.ref b2), .val (.int ((p2 &&& (65535 : Int32)).toUInt32.toUInt16.toUInt32.toInt32)), .unset, .unset] [(.ref aR)])) t → Steps p.tables e below (s₁.setTop (entryFrame m #[(.int p1), (.int p2)] maxLocals)) t := fun t kt => k185 t (st186 t kt)
        have k202 : ∀ t, Steps p.tables e below (T186.setTop (mkF m 76 #[.val (.int p1), .val (.int p2), .val (.ref b2), .val (.int ((p2 &&& (65535 : Int32)).toUInt32.toUInt16.toUInt32.toInt32)), .val (.ref aR), .unset] [(.int ((p2 &&& (65535 : Int32)).toUInt32.toUInt16.toUInt32.toInt32))])) t → Steps p.tables e below (s₁.setTop (entryFrame m #[(.int p1), (.int p2)] maxLocals)) t := by
          intro t kt
          refine k201 t ?_
          show Steps p.tables e below (T186.setTop (mkF m 73 #[.val (.int p1), .val (.int p2), .val (.ref b2), .val (.int ((p2 &&& (65535 : Int32)).toUInt32.toUInt16.toUInt32.toInt32)), .unset, .unset] [(.ref aR)])) t
          refine XS.astore X186.here hx rfl (hb hby at_73) rfl rfl (l' := #[.val (.int p1), .val (.int p2), .val (.ref b2), .val (.int ((p2 &&& (65535 : Int32)).toUInt32.toUInt16.toUInt32.toInt32)), .val (.ref aR), .unset]) rfl ?_
          show Steps p.tables e below (T186.setTop (mkF m 75 #[.val (.int p1), .val (.int p2), .val (.ref b2), .val (.int ((p2 &&& (65535 : Int32)).toUInt32.toUInt16.toUInt32.toInt32)), .val (.ref aR), .unset] [])) t
          refine XS.iloadN X186.here hx rfl (hb hby at_75) rfl ?_
          exact kt
        obtain ⟨_, _, ⟨T203, L203, k203c, n203⟩, -, X203, ⟨Lc203, hQ203, l203, y203, z203⟩, st203⟩ := Jvm.LawKit.callS X186 hx (y := (⟨"com/example/ruleward/ruleward/rules/OperationOfPinLaw", "expected", "(C)Lcom/example/ruleward/ruleward/rules/Operation;"⟩ : MethodName)) hown (mvT hZ (hw _ (List.mem_of_getElem? (i := 27) rfl))) (mvT hZ (hw _ (List.mem_of_getElem? (i := 28) rfl))) (mvT hZ (hw _ (List.mem_of_getElem? (i := 29) rfl))) (mvT hZ (hw _ (List.mem_of_getElem? (i := 30) rfl))) (by decide) (backOf (W := 0) (rmE l Z a0 hw [] ((p2 &&& (65535 : Int32)).toUInt32.toUInt16.toUInt32.toInt32) aC aR aU aD T186.heap n0 Z200 F195 F196 F197 F198) hZ (hw _ (List.mem_of_getElem? (i := 30) rfl)) (hw _ (List.mem_of_getElem? (i := 29) rfl)) (by decide) (by decide)) (g := (mkF m 76 #[.val (.int p1), .val (.int p2), .val (.ref b2), .val (.int ((p2 &&& (65535 : Int32)).toUInt32.toUInt16.toUInt32.toInt32)), .val (.ref aR), .unset] [(.int ((p2 &&& (65535 : Int32)).toUInt32.toUInt16.toUInt32.toInt32))])) rfl (by rw [hml]; rfl) (argsL := [(.int ((p2 &&& (65535 : Int32)).toUInt32.toUInt16.toUInt32.toInt32))]) (rest := []) (lenOf own_pd1 rfl) rfl (by show 2 * 0 + _ ≤ _; exact Nat.le_of_eq rfl) (hb hby at_76) (fun _ _ => ⟨rfl, rfl, (by decide : 2 + 0 ≤ _), (by decide : 12 + 0 ≤ _)⟩)
        dsimp only [Pt.U, Pt.locs, Pt.cells, Pt.slots] at X203 l203 y203 z203 st203 hQ203
        subst l203 y203 z203
        obtain ⟨hv203, N203q, e203⟩ := hQ203
        have N203 := Fr.app N186 N203q
        rw [show own_op ((p2 &&& (65535 : Int32)).toUInt32.toUInt16.toUInt32.toInt32) aC aR aU aD = (.ref aR) from by unfold own_op; rw [if_neg hk67_161, if_pos hk82_184]] at hv203
        subst hv203
        have k204 : ∀ t, Steps p.tables e below (T203.setTop (mkF m 79 #[.val (.int p1), .val (.int p2), .val (.ref b2), .val (.int ((p2 &&& (65535 : Int32)).toUInt32.toUInt16.toUInt32.toInt32)), .val (.ref aR), .unset] [(.ref aR)])) t → Steps p.tables e below (s₁.setTop (entryFrame m #[(.int p1), (.int p2)] maxLocals)) t := fun t kt => k202 t (st203 t kt)
        have k206 : ∀ t, Steps p.tables e below (T203.setTop (mkF m 93 #[.val (.int p1), .val (.int p2), .val (.ref b2), .val (.int ((p2 &&& (65535 : Int32)).toUInt32.toUInt16.toUInt32.toInt32)), .val (.ref aR), .val (.ref aR)] [(.int (1 : Int32))])) t → Steps p.tables e below (s₁.setTop (entryFrame m #[(.int p1), (.int p2)] maxLocals)) t := by
          intro t kt
          refine k204 t ?_
          show Steps p.tables e below (T203.setTop (mkF m 79 #[.val (.int p1), .val (.int p2), .val (.ref b2), .val (.int ((p2 &&& (65535 : Int32)).toUInt32.toUInt16.toUInt32.toInt32)), .val (.ref aR), .unset] [(.ref aR)])) t
          refine XS.astore X203.here hx rfl (hb hby at_79) rfl rfl (l' := #[.val (.int p1), .val (.int p2), .val (.ref b2), .val (.int ((p2 &&& (65535 : Int32)).toUInt32.toUInt16.toUInt32.toInt32)), .val (.ref aR), .val (.ref aR)]) rfl ?_
          show Steps p.tables e below (T203.setTop (mkF m 81 #[.val (.int p1), .val (.int p2), .val (.ref b2), .val (.int ((p2 &&& (65535 : Int32)).toUInt32.toUInt16.toUInt32.toInt32)), .val (.ref aR), .val (.ref aR)] [])) t
          refine XS.aload X203.here hx rfl (hb hby at_81) rfl rfl ?_
          show Steps p.tables e below (T203.setTop (mkF m 83 #[.val (.int p1), .val (.int p2), .val (.ref b2), .val (.int ((p2 &&& (65535 : Int32)).toUInt32.toUInt16.toUInt32.toInt32)), .val (.ref aR), .val (.ref aR)] [(.ref aR)])) t
          refine XS.aload X203.here hx rfl (hb hby at_83) rfl rfl ?_
          show Steps p.tables e below (T203.setTop (mkF m 85 #[.val (.int p1), .val (.int p2), .val (.ref b2), .val (.int ((p2 &&& (65535 : Int32)).toUInt32.toUInt16.toUInt32.toInt32)), .val (.ref aR), .val (.ref aR)] [(.ref aR), (.ref aR)])) t
          refine Jvm.RoadKit.acmp (g := (mkF m 85 #[.val (.int p1), .val (.int p2), .val (.ref b2), .val (.int ((p2 &&& (65535 : Int32)).toUInt32.toUInt16.toUInt32.toInt32)), .val (.ref aR), .val (.ref aR)] [(.ref aR), (.ref aR)])) X203 hx rfl rfl rfl (pc0 := 85) (pc' := 88) (same := true) rfl (hb hby at_85) rfl (decide_eq_true rfl) (by decide) (by decide) ?_
          show Steps p.tables e below (T203.setTop (mkF m 88 #[.val (.int p1), .val (.int p2), .val (.ref b2), .val (.int ((p2 &&& (65535 : Int32)).toUInt32.toUInt16.toUInt32.toInt32)), .val (.ref aR), .val (.ref aR)] [])) t
          refine XS.iconst X203.here hx rfl (hb hby at_88) ?_
          show Steps p.tables e below (T203.setTop (mkF m 89 #[.val (.int p1), .val (.int p2), .val (.ref b2), .val (.int ((p2 &&& (65535 : Int32)).toUInt32.toUInt16.toUInt32.toInt32)), .val (.ref aR), .val (.ref aR)] [(.int (1 : Int32))])) t
          refine XS.goto X203.here hx rfl (pc0 := 89) (pc' := 93) rfl (hb hby at_89) (by decide) (by decide) ?_
          exact kt
        obtain ⟨fs, hr, hrun, hended, hW, hsame⟩ := X203.leave (v := some (.int (1 : Int32))) (fun h => by rw [Bd.returns] at h; cases h)
        refine ⟨_, _, k206 _ ?_, hrun, hended, _, _, rfl, ?_, ⟨_, rfl⟩, hW, hsame.mono (by decide) (by decide)⟩
        · show Steps p.tables e below (T203.setTop (mkF m 93 #[.val (.int p1), .val (.int p2), .val (.ref b2), .val (.int ((p2 &&& (65535 : Int32)).toUInt32.toUInt16.toUInt32.toInt32)), .val (.ref aR), .val (.ref aR)] [(.int (1 : Int32))])) _
          exact retN X203 hx (t := .boolean) Bd.returns (by simp) (hb hby at_93) hr
        · show Q0 Z p1 p2 aV kc aC aR aU aD h0 n0 _ T203.heap _
          rw [e203]
          exact ⟨rfl, N203⟩
      · by_cases hk85_207 : ((p2 &&& (65535 : Int32)).toUInt32.toUInt16.toUInt32.toInt32) = (85 : Int32)
        · have k208 : ∀ t, Steps p.tables e below (T142.setTop (mkF m 70 #[.val (.int p1), .val (.int p2), .val (.ref b2), .val (.int ((p2 &&& (65535 : Int32)).toUInt32.toUInt16.toUInt32.toInt32)), .unset, .unset] [(.int ((p2 &&& (65535 : Int32)).toUInt32.toUInt16.toUInt32.toInt32))])) t → Steps p.tables e below (s₁.setTop (entryFrame m #[(.int p1), (.int p2)] maxLocals)) t := by
            intro t kt
            refine k160 t ?_
            show Steps p.tables e below (T142.setTop (mkF m 69 #[.val (.int p1), .val (.int p2), .val (.ref b2), .val (.int ((p2 &&& (65535 : Int32)).toUInt32.toUInt16.toUInt32.toInt32)), .unset, .unset] [])) t
            refine XS.iloadN X142.here hx rfl (hb hby at_69) rfl ?_
            exact kt
          obtain ⟨_, _, ⟨T209, L209, k209c, n209⟩, -, X209, ⟨Lc209, hQ209, l209, y209, z209⟩, st209⟩ := Jvm.LawKit.callS X142 hx (y := (⟨"com/example/ruleward/ruleward/rules/Operation", "of", "(C)Lcom/example/ruleward/ruleward/rules/Operation;"⟩ : MethodName)) hown (mvT hZ (hw _ (List.mem_of_getElem? (i := 2) rfl))) (mvT hZ (hw _ (List.mem_of_getElem? (i := 3) rfl))) (mvT hZ (hw _ (List.mem_of_getElem? (i := 4) rfl))) (mvT hZ (hw _ (List.mem_of_getElem? (i := 5) rfl))) (by decide) (backOf (W := 0) (rmF l Z a0 hw [] ((p2 &&& (65535 : Int32)).toUInt32.toUInt16.toUInt32.toInt32) aV kc aC aR aU aD h142 n0 Z142 F151 F145 F146 F147 F148 F149 F150) hZ (hw _ (List.mem_of_getElem? (i := 5) rfl)) (hw _ (List.mem_of_getElem? (i := 4) rfl)) (by decide) (by decide)) (g := (mkF m 70 #[.val (.int p1), .val (.int p2), .val (.ref b2), .val (.int ((p2 &&& (65535 : Int32)).toUInt32.toUInt16.toUInt32.toInt32)), .unset, .unset] [(.int ((p2 &&& (65535 : Int32)).toUInt32.toUInt16.toUInt32.toInt32))])) rfl (by rw [hml]; rfl) (argsL := [(.int ((p2 &&& (65535 : Int32)).toUInt32.toUInt16.toUInt32.toInt32))]) (rest := []) (lenOf own_pd1 rfl) rfl (by show 2 * 0 + _ ≤ _; exact Nat.le_of_eq rfl) (hb hby at_70) (fun _ _ => ⟨rfl, e142, (by decide : 1 + 1 ≤ _), (by decide : 8 + 4 ≤ _)⟩)
          dsimp only [Pt.U, Pt.locs, Pt.cells, Pt.slots] at X209 l209 y209 z209 st209 hQ209
          subst l209 y209 z209
          obtain ⟨hv209, N209q, K209k⟩ := hQ209
          have N209 := Fr.app N142 N209q
          rw [show own_op ((p2 &&& (65535 : Int32)).toUInt32.toUInt16.toUInt32.toInt32) aC aR aU aD = (.ref aU) from by unfold own_op; rw [if_neg hk67_161, if_neg hk82_184, if_pos hk85_207]] at hv209
          subst hv209
          have F210 := F144.keep K209k all0
          have F211 := F145.keep K209k nin0
          have F212 := F146.keep K209k
          have F213 := F147.keep K209k nin0
          have F214 := F148.keep K209k nin0
          have F215 := F149.keep K209k nin0
          have F216 := F150.keep K209k nin0
          have F217 := Sta.ext F210.2 R_aV
          have F218 := Sta.ext F210.2 R_aC
          have F219 := Sta.ext F210.2 R_aR
          have F220 := Sta.ext F210.2 R_aU
          have F221 := Sta.ext F210.2 R_aD
          have F222 := F143.keep K209k nin0
          have Z223 : n0 ≤ T209.heap.size := Nat.le_trans Z142 K209k.1
          have K223 : Keep h0 T209.heap [] := K142.trans K209k all0
          have k224 : ∀ t, Steps p.tables e below (T209.setTop (mkF m 73 #[.val (.int p1), .val (.int p2), .val (.ref b2), .val (.int ((p2 &&& (65535 : Int32)).toUInt32.toUInt16.toUInt32.toInt32)), .unset, .unset] [(.ref aU)])) t → Steps p.tables e below (s₁.setTop (entryFrame m #[(.int p1), (.int p2)] maxLocals)) t := fun t kt => k208 t (st209 t kt)
          have k225 : ∀ t, Steps p.tables e below (T209.setTop (mkF m 76 #[.val (.int p1), .val (.int p2), .val (.ref b2), .val (.int ((p2 &&& (65535 : Int32)).toUInt32.toUInt16.toUInt32.toInt32)), .val (.ref aU), .unset] [(.int ((p2 &&& (65535 : Int32)).toUInt32.toUInt16.toUInt32.toInt32))])) t → Steps p.tables e below (s₁.setTop (entryFrame m #[(.int p1), (.int p2)] maxLocals)) t := by
            intro t kt
            refine k224 t ?_
            show Steps p.tables e below (T209.setTop (mkF m 73 #[.val (.int p1), .val (.int p2), .val (.ref b2), .val (.int ((p2 &&& (65535 : Int32)).toUInt32.toUInt16.toUInt32.toInt32)), .unset, .unset] [(.ref aU)])) t
            refine XS.astore X209.here hx rfl (hb hby at_73) rfl rfl (l' := #[.val (.int p1), .val (.int p2), .val (.ref b2), .val (.int ((p2 &&& (65535 : Int32)).toUInt32.toUInt16.toUInt32.toInt32)), .val (.ref aU), .unset]) rfl ?_
            show Steps p.tables e below (T209.setTop (mkF m 75 #[.val (.int p1), .val (.int p2), .val (.ref b2), .val (.int ((p2 &&& (65535 : Int32)).toUInt32.toUInt16.toUInt32.toInt32)), .val (.ref aU), .unset] [])) t
            refine XS.iloadN X209.here hx rfl (hb hby at_75) rfl ?_
            exact kt
          obtain ⟨_, _, ⟨T226, L226, k226c, n226⟩, -, X226, ⟨Lc226, hQ226, l226, y226, z226⟩, st226⟩ := Jvm.LawKit.callS X209 hx (y := (⟨"com/example/ruleward/ruleward/rules/OperationOfPinLaw", "expected", "(C)Lcom/example/ruleward/ruleward/rules/Operation;"⟩ : MethodName)) hown (mvT hZ (hw _ (List.mem_of_getElem? (i := 27) rfl))) (mvT hZ (hw _ (List.mem_of_getElem? (i := 28) rfl))) (mvT hZ (hw _ (List.mem_of_getElem? (i := 29) rfl))) (mvT hZ (hw _ (List.mem_of_getElem? (i := 30) rfl))) (by decide) (backOf (W := 0) (rmE l Z a0 hw [] ((p2 &&& (65535 : Int32)).toUInt32.toUInt16.toUInt32.toInt32) aC aR aU aD T209.heap n0 Z223 F218 F219 F220 F221) hZ (hw _ (List.mem_of_getElem? (i := 30) rfl)) (hw _ (List.mem_of_getElem? (i := 29) rfl)) (by decide) (by decide)) (g := (mkF m 76 #[.val (.int p1), .val (.int p2), .val (.ref b2), .val (.int ((p2 &&& (65535 : Int32)).toUInt32.toUInt16.toUInt32.toInt32)), .val (.ref aU), .unset] [(.int ((p2 &&& (65535 : Int32)).toUInt32.toUInt16.toUInt32.toInt32))])) rfl (by rw [hml]; rfl) (argsL := [(.int ((p2 &&& (65535 : Int32)).toUInt32.toUInt16.toUInt32.toInt32))]) (rest := []) (lenOf own_pd1 rfl) rfl (by show 2 * 0 + _ ≤ _; exact Nat.le_of_eq rfl) (hb hby at_76) (fun _ _ => ⟨rfl, rfl, (by decide : 2 + 0 ≤ _), (by decide : 12 + 0 ≤ _)⟩)
          dsimp only [Pt.U, Pt.locs, Pt.cells, Pt.slots] at X226 l226 y226 z226 st226 hQ226
          subst l226 y226 z226
          obtain ⟨hv226, N226q, e226⟩ := hQ226
          have N226 := Fr.app N209 N226q
          rw [show own_op ((p2 &&& (65535 : Int32)).toUInt32.toUInt16.toUInt32.toInt32) aC aR aU aD = (.ref aU) from by unfold own_op; rw [if_neg hk67_161, if_neg hk82_184, if_pos hk85_207]] at hv226
          subst hv226
          have k227 : ∀ t, Steps p.tables e below (T226.setTop (mkF m 79 #[.val (.int p1), .val (.int p2), .val (.ref b2), .val (.int ((p2 &&& (65535 : Int32)).toUInt32.toUInt16.toUInt32.toInt32)), .val (.ref aU), .unset] [(.ref aU)])) t → Steps p.tables e below (s₁.setTop (entryFrame m #[(.int p1), (.int p2)] maxLocals)) t := fun t kt => k225 t (st226 t kt)
          have k229 : ∀ t, Steps p.tables e below (T226.setTop (mkF m 93 #[.val (.int p1), .val (.int p2), .val (.ref b2), .val (.int ((p2 &&& (65535 : Int32)).toUInt32.toUInt16.toUInt32.toInt32)), .val (.ref aU), .val (.ref aU)] [(.int (1 : Int32))])) t → Steps p.tables e below (s₁.setTop (entryFrame m #[(.int p1), (.int p2)] maxLocals)) t := by
            intro t kt
            refine k227 t ?_
            show Steps p.tables e below (T226.setTop (mkF m 79 #[.val (.int p1), .val (.int p2), .val (.ref b2), .val (.int ((p2 &&& (65535 : Int32)).toUInt32.toUInt16.toUInt32.toInt32)), .val (.ref aU), .unset] [(.ref aU)])) t
            refine XS.astore X226.here hx rfl (hb hby at_79) rfl rfl (l' := #[.val (.int p1), .val (.int p2), .val (.ref b2), .val (.int ((p2 &&& (65535 : Int32)).toUInt32.toUInt16.toUInt32.toInt32)), .val (.ref aU), .val (.ref aU)]) rfl ?_
            show Steps p.tables e below (T226.setTop (mkF m 81 #[.val (.int p1), .val (.int p2), .val (.ref b2), .val (.int ((p2 &&& (65535 : Int32)).toUInt32.toUInt16.toUInt32.toInt32)), .val (.ref aU), .val (.ref aU)] [])) t
            refine XS.aload X226.here hx rfl (hb hby at_81) rfl rfl ?_
            show Steps p.tables e below (T226.setTop (mkF m 83 #[.val (.int p1), .val (.int p2), .val (.ref b2), .val (.int ((p2 &&& (65535 : Int32)).toUInt32.toUInt16.toUInt32.toInt32)), .val (.ref aU), .val (.ref aU)] [(.ref aU)])) t
            refine XS.aload X226.here hx rfl (hb hby at_83) rfl rfl ?_
            show Steps p.tables e below (T226.setTop (mkF m 85 #[.val (.int p1), .val (.int p2), .val (.ref b2), .val (.int ((p2 &&& (65535 : Int32)).toUInt32.toUInt16.toUInt32.toInt32)), .val (.ref aU), .val (.ref aU)] [(.ref aU), (.ref aU)])) t
            refine Jvm.RoadKit.acmp (g := (mkF m 85 #[.val (.int p1), .val (.int p2), .val (.ref b2), .val (.int ((p2 &&& (65535 : Int32)).toUInt32.toUInt16.toUInt32.toInt32)), .val (.ref aU), .val (.ref aU)] [(.ref aU), (.ref aU)])) X226 hx rfl rfl rfl (pc0 := 85) (pc' := 88) (same := true) rfl (hb hby at_85) rfl (decide_eq_true rfl) (by decide) (by decide) ?_
            show Steps p.tables e below (T226.setTop (mkF m 88 #[.val (.int p1), .val (.int p2), .val (.ref b2), .val (.int ((p2 &&& (65535 : Int32)).toUInt32.toUInt16.toUInt32.toInt32)), .val (.ref aU), .val (.ref aU)] [])) t
            refine XS.iconst X226.here hx rfl (hb hby at_88) ?_
            show Steps p.tables e below (T226.setTop (mkF m 89 #[.val (.int p1), .val (.int p2), .val (.ref b2), .val (.int ((p2 &&& (65535 : Int32)).toUInt32.toUInt16.toUInt32.toInt32)), .val (.ref aU), .val (.ref aU)] [(.int (1 : Int32))])) t
            refine XS.goto X226.here hx rfl (pc0 := 89) (pc' := 93) rfl (hb hby at_89) (by decide) (by decide) ?_
            exact kt
          obtain ⟨fs, hr, hrun, hended, hW, hsame⟩ := X226.leave (v := some (.int (1 : Int32))) (fun h => by rw [Bd.returns] at h; cases h)
          refine ⟨_, _, k229 _ ?_, hrun, hended, _, _, rfl, ?_, ⟨_, rfl⟩, hW, hsame.mono (by decide) (by decide)⟩
          · show Steps p.tables e below (T226.setTop (mkF m 93 #[.val (.int p1), .val (.int p2), .val (.ref b2), .val (.int ((p2 &&& (65535 : Int32)).toUInt32.toUInt16.toUInt32.toInt32)), .val (.ref aU), .val (.ref aU)] [(.int (1 : Int32))])) _
            exact retN X226 hx (t := .boolean) Bd.returns (by simp) (hb hby at_93) hr
          · show Q0 Z p1 p2 aV kc aC aR aU aD h0 n0 _ T226.heap _
            rw [e226]
            exact ⟨rfl, N226⟩
        · by_cases hk68_230 : ((p2 &&& (65535 : Int32)).toUInt32.toUInt16.toUInt32.toInt32) = (68 : Int32)
          · have k231 : ∀ t, Steps p.tables e below (T142.setTop (mkF m 70 #[.val (.int p1), .val (.int p2), .val (.ref b2), .val (.int ((p2 &&& (65535 : Int32)).toUInt32.toUInt16.toUInt32.toInt32)), .unset, .unset] [(.int ((p2 &&& (65535 : Int32)).toUInt32.toUInt16.toUInt32.toInt32))])) t → Steps p.tables e below (s₁.setTop (entryFrame m #[(.int p1), (.int p2)] maxLocals)) t := by
              intro t kt
              refine k160 t ?_
              show Steps p.tables e below (T142.setTop (mkF m 69 #[.val (.int p1), .val (.int p2), .val (.ref b2), .val (.int ((p2 &&& (65535 : Int32)).toUInt32.toUInt16.toUInt32.toInt32)), .unset, .unset] [])) t
              refine XS.iloadN X142.here hx rfl (hb hby at_69) rfl ?_
              exact kt
            obtain ⟨_, _, ⟨T232, L232, k232c, n232⟩, -, X232, ⟨Lc232, hQ232, l232, y232, z232⟩, st232⟩ := Jvm.LawKit.callS X142 hx (y := (⟨"com/example/ruleward/ruleward/rules/Operation", "of", "(C)Lcom/example/ruleward/ruleward/rules/Operation;"⟩ : MethodName)) hown (mvT hZ (hw _ (List.mem_of_getElem? (i := 2) rfl))) (mvT hZ (hw _ (List.mem_of_getElem? (i := 3) rfl))) (mvT hZ (hw _ (List.mem_of_getElem? (i := 4) rfl))) (mvT hZ (hw _ (List.mem_of_getElem? (i := 5) rfl))) (by decide) (backOf (W := 0) (rmF l Z a0 hw [] ((p2 &&& (65535 : Int32)).toUInt32.toUInt16.toUInt32.toInt32) aV kc aC aR aU aD h142 n0 Z142 F151 F145 F146 F147 F148 F149 F150) hZ (hw _ (List.mem_of_getElem? (i := 5) rfl)) (hw _ (List.mem_of_getElem? (i := 4) rfl)) (by decide) (by decide)) (g := (mkF m 70 #[.val (.int p1), .val (.int p2), .val (.ref b2), .val (.int ((p2 &&& (65535 : Int32)).toUInt32.toUInt16.toUInt32.toInt32)), .unset, .unset] [(.int ((p2 &&& (65535 : Int32)).toUInt32.toUInt16.toUInt32.toInt32))])) rfl (by rw [hml]; rfl) (argsL := [(.int ((p2 &&& (65535 : Int32)).toUInt32.toUInt16.toUInt32.toInt32))]) (rest := []) (lenOf own_pd1 rfl) rfl (by show 2 * 0 + _ ≤ _; exact Nat.le_of_eq rfl) (hb hby at_70) (fun _ _ => ⟨rfl, e142, (by decide : 1 + 1 ≤ _), (by decide : 8 + 4 ≤ _)⟩)
            dsimp only [Pt.U, Pt.locs, Pt.cells, Pt.slots] at X232 l232 y232 z232 st232 hQ232
            subst l232 y232 z232
            obtain ⟨hv232, N232q, K232k⟩ := hQ232
            have N232 := Fr.app N142 N232q
            rw [show own_op ((p2 &&& (65535 : Int32)).toUInt32.toUInt16.toUInt32.toInt32) aC aR aU aD = (.ref aD) from by unfold own_op; rw [if_neg hk67_161, if_neg hk82_184, if_neg hk85_207, if_pos hk68_230]] at hv232
            subst hv232
            have F233 := F144.keep K232k all0
            have F234 := F145.keep K232k nin0
            have F235 := F146.keep K232k
            have F236 := F147.keep K232k nin0
            have F237 := F148.keep K232k nin0
            have F238 := F149.keep K232k nin0
            have F239 := F150.keep K232k nin0
            have F240 := Sta.ext F233.2 R_aV
            have F241 := Sta.ext F233.2 R_aC
            have F242 := Sta.ext F233.2 R_aR
            have F243 := Sta.ext F233.2 R_aU
            have F244 := Sta.ext F233.2 R_aD
            have F245 := F143.keep K232k nin0
            have Z246 : n0 ≤ T232.heap.size := Nat.le_trans Z142 K232k.1
            have K246 : Keep h0 T232.heap [] := K142.trans K232k all0
            have k247 : ∀ t, Steps p.tables e below (T232.setTop (mkF m 73 #[.val (.int p1), .val (.int p2), .val (.ref b2), .val (.int ((p2 &&& (65535 : Int32)).toUInt32.toUInt16.toUInt32.toInt32)), .unset, .unset] [(.ref aD)])) t → Steps p.tables e below (s₁.setTop (entryFrame m #[(.int p1), (.int p2)] maxLocals)) t := fun t kt => k231 t (st232 t kt)
            have k248 : ∀ t, Steps p.tables e below (T232.setTop (mkF m 76 #[.val (.int p1), .val (.int p2), .val (.ref b2), .val (.int ((p2 &&& (65535 : Int32)).toUInt32.toUInt16.toUInt32.toInt32)), .val (.ref aD), .unset] [(.int ((p2 &&& (65535 : Int32)).toUInt32.toUInt16.toUInt32.toInt32))])) t → Steps p.tables e below (s₁.setTop (entryFrame m #[(.int p1), (.int p2)] maxLocals)) t := by
              intro t kt
              refine k247 t ?_
              show Steps p.tables e below (T232.setTop (mkF m 73 #[.val (.int p1), .val (.int p2), .val (.ref b2), .val (.int ((p2 &&& (65535 : Int32)).toUInt32.toUInt16.toUInt32.toInt32)), .unset, .unset] [(.ref aD)])) t
              refine XS.astore X232.here hx rfl (hb hby at_73) rfl rfl (l' := #[.val (.int p1), .val (.int p2), .val (.ref b2), .val (.int ((p2 &&& (65535 : Int32)).toUInt32.toUInt16.toUInt32.toInt32)), .val (.ref aD), .unset]) rfl ?_
              show Steps p.tables e below (T232.setTop (mkF m 75 #[.val (.int p1), .val (.int p2), .val (.ref b2), .val (.int ((p2 &&& (65535 : Int32)).toUInt32.toUInt16.toUInt32.toInt32)), .val (.ref aD), .unset] [])) t
              refine XS.iloadN X232.here hx rfl (hb hby at_75) rfl ?_
              exact kt
            obtain ⟨_, _, ⟨T249, L249, k249c, n249⟩, -, X249, ⟨Lc249, hQ249, l249, y249, z249⟩, st249⟩ := Jvm.LawKit.callS X232 hx (y := (⟨"com/example/ruleward/ruleward/rules/OperationOfPinLaw", "expected", "(C)Lcom/example/ruleward/ruleward/rules/Operation;"⟩ : MethodName)) hown (mvT hZ (hw _ (List.mem_of_getElem? (i := 27) rfl))) (mvT hZ (hw _ (List.mem_of_getElem? (i := 28) rfl))) (mvT hZ (hw _ (List.mem_of_getElem? (i := 29) rfl))) (mvT hZ (hw _ (List.mem_of_getElem? (i := 30) rfl))) (by decide) (backOf (W := 0) (rmE l Z a0 hw [] ((p2 &&& (65535 : Int32)).toUInt32.toUInt16.toUInt32.toInt32) aC aR aU aD T232.heap n0 Z246 F241 F242 F243 F244) hZ (hw _ (List.mem_of_getElem? (i := 30) rfl)) (hw _ (List.mem_of_getElem? (i := 29) rfl)) (by decide) (by decide)) (g := (mkF m 76 #[.val (.int p1), .val (.int p2), .val (.ref b2), .val (.int ((p2 &&& (65535 : Int32)).toUInt32.toUInt16.toUInt32.toInt32)), .val (.ref aD), .unset] [(.int ((p2 &&& (65535 : Int32)).toUInt32.toUInt16.toUInt32.toInt32))])) rfl (by rw [hml]; rfl) (argsL := [(.int ((p2 &&& (65535 : Int32)).toUInt32.toUInt16.toUInt32.toInt32))]) (rest := []) (lenOf own_pd1 rfl) rfl (by show 2 * 0 + _ ≤ _; exact Nat.le_of_eq rfl) (hb hby at_76) (fun _ _ => ⟨rfl, rfl, (by decide : 2 + 0 ≤ _), (by decide : 12 + 0 ≤ _)⟩)
            dsimp only [Pt.U, Pt.locs, Pt.cells, Pt.slots] at X249 l249 y249 z249 st249 hQ249
            subst l249 y249 z249
            obtain ⟨hv249, N249q, e249⟩ := hQ249
            have N249 := Fr.app N232 N249q
            rw [show own_op ((p2 &&& (65535 : Int32)).toUInt32.toUInt16.toUInt32.toInt32) aC aR aU aD = (.ref aD) from by unfold own_op; rw [if_neg hk67_161, if_neg hk82_184, if_neg hk85_207, if_pos hk68_230]] at hv249
            subst hv249
            have k250 : ∀ t, Steps p.tables e below (T249.setTop (mkF m 79 #[.val (.int p1), .val (.int p2), .val (.ref b2), .val (.int ((p2 &&& (65535 : Int32)).toUInt32.toUInt16.toUInt32.toInt32)), .val (.ref aD), .unset] [(.ref aD)])) t → Steps p.tables e below (s₁.setTop (entryFrame m #[(.int p1), (.int p2)] maxLocals)) t := fun t kt => k248 t (st249 t kt)
            have k252 : ∀ t, Steps p.tables e below (T249.setTop (mkF m 93 #[.val (.int p1), .val (.int p2), .val (.ref b2), .val (.int ((p2 &&& (65535 : Int32)).toUInt32.toUInt16.toUInt32.toInt32)), .val (.ref aD), .val (.ref aD)] [(.int (1 : Int32))])) t → Steps p.tables e below (s₁.setTop (entryFrame m #[(.int p1), (.int p2)] maxLocals)) t := by
              intro t kt
              refine k250 t ?_
              show Steps p.tables e below (T249.setTop (mkF m 79 #[.val (.int p1), .val (.int p2), .val (.ref b2), .val (.int ((p2 &&& (65535 : Int32)).toUInt32.toUInt16.toUInt32.toInt32)), .val (.ref aD), .unset] [(.ref aD)])) t
              refine XS.astore X249.here hx rfl (hb hby at_79) rfl rfl (l' := #[.val (.int p1), .val (.int p2), .val (.ref b2), .val (.int ((p2 &&& (65535 : Int32)).toUInt32.toUInt16.toUInt32.toInt32)), .val (.ref aD), .val (.ref aD)]) rfl ?_
              show Steps p.tables e below (T249.setTop (mkF m 81 #[.val (.int p1), .val (.int p2), .val (.ref b2), .val (.int ((p2 &&& (65535 : Int32)).toUInt32.toUInt16.toUInt32.toInt32)), .val (.ref aD), .val (.ref aD)] [])) t
              refine XS.aload X249.here hx rfl (hb hby at_81) rfl rfl ?_
              show Steps p.tables e below (T249.setTop (mkF m 83 #[.val (.int p1), .val (.int p2), .val (.ref b2), .val (.int ((p2 &&& (65535 : Int32)).toUInt32.toUInt16.toUInt32.toInt32)), .val (.ref aD), .val (.ref aD)] [(.ref aD)])) t
              refine XS.aload X249.here hx rfl (hb hby at_83) rfl rfl ?_
              show Steps p.tables e below (T249.setTop (mkF m 85 #[.val (.int p1), .val (.int p2), .val (.ref b2), .val (.int ((p2 &&& (65535 : Int32)).toUInt32.toUInt16.toUInt32.toInt32)), .val (.ref aD), .val (.ref aD)] [(.ref aD), (.ref aD)])) t
              refine Jvm.RoadKit.acmp (g := (mkF m 85 #[.val (.int p1), .val (.int p2), .val (.ref b2), .val (.int ((p2 &&& (65535 : Int32)).toUInt32.toUInt16.toUInt32.toInt32)), .val (.ref aD), .val (.ref aD)] [(.ref aD), (.ref aD)])) X249 hx rfl rfl rfl (pc0 := 85) (pc' := 88) (same := true) rfl (hb hby at_85) rfl (decide_eq_true rfl) (by decide) (by decide) ?_
              show Steps p.tables e below (T249.setTop (mkF m 88 #[.val (.int p1), .val (.int p2), .val (.ref b2), .val (.int ((p2 &&& (65535 : Int32)).toUInt32.toUInt16.toUInt32.toInt32)), .val (.ref aD), .val (.ref aD)] [])) t
              refine XS.iconst X249.here hx rfl (hb hby at_88) ?_
              show Steps p.tables e below (T249.setTop (mkF m 89 #[.val (.int p1), .val (.int p2), .val (.ref b2), .val (.int ((p2 &&& (65535 : Int32)).toUInt32.toUInt16.toUInt32.toInt32)), .val (.ref aD), .val (.ref aD)] [(.int (1 : Int32))])) t
              refine XS.goto X249.here hx rfl (pc0 := 89) (pc' := 93) rfl (hb hby at_89) (by decide) (by decide) ?_
              exact kt
            obtain ⟨fs, hr, hrun, hended, hW, hsame⟩ := X249.leave (v := some (.int (1 : Int32))) (fun h => by rw [Bd.returns] at h; cases h)
            refine ⟨_, _, k252 _ ?_, hrun, hended, _, _, rfl, ?_, ⟨_, rfl⟩, hW, hsame.mono (by decide) (by decide)⟩
            · show Steps p.tables e below (T249.setTop (mkF m 93 #[.val (.int p1), .val (.int p2), .val (.ref b2), .val (.int ((p2 &&& (65535 : Int32)).toUInt32.toUInt16.toUInt32.toInt32)), .val (.ref aD), .val (.ref aD)] [(.int (1 : Int32))])) _
              exact retN X249 hx (t := .boolean) Bd.returns (by simp) (hb hby at_93) hr
            · show Q0 Z p1 p2 aV kc aC aR aU aD h0 n0 _ T249.heap _
              rw [e249]
              exact ⟨rfl, N249⟩
          · have k253 : ∀ t, Steps p.tables e below (T142.setTop (mkF m 70 #[.val (.int p1), .val (.int p2), .val (.ref b2), .val (.int ((p2 &&& (65535 : Int32)).toUInt32.toUInt16.toUInt32.toInt32)), .unset, .unset] [(.int ((p2 &&& (65535 : Int32)).toUInt32.toUInt16.toUInt32.toInt32))])) t → Steps p.tables e below (s₁.setTop (entryFrame m #[(.int p1), (.int p2)] maxLocals)) t := by
              intro t kt
              refine k160 t ?_
              show Steps p.tables e below (T142.setTop (mkF m 69 #[.val (.int p1), .val (.int p2), .val (.ref b2), .val (.int ((p2 &&& (65535 : Int32)).toUInt32.toUInt16.toUInt32.toInt32)), .unset, .unset] [])) t
              refine XS.iloadN X142.here hx rfl (hb hby at_69) rfl ?_
              exact kt
            obtain ⟨_, _, ⟨T254, L254, k254c, n254⟩, -, X254, ⟨Lc254, hQ254, l254, y254, z254⟩, st254⟩ := Jvm.LawKit.callS X142 hx (y := (⟨"com/example/ruleward/ruleward/rules/Operation", "of", "(C)Lcom/example/ruleward/ruleward/rules/Operation;"⟩ : MethodName)) hown (mvT hZ (hw _ (List.mem_of_getElem? (i := 2) rfl))) (mvT hZ (hw _ (List.mem_of_getElem? (i := 3) rfl))) (mvT hZ (hw _ (List.mem_of_getElem? (i := 4) rfl))) (mvT hZ (hw _ (List.mem_of_getElem? (i := 5) rfl))) (by decide) (backOf (W := 0) (rmF l Z a0 hw [] ((p2 &&& (65535 : Int32)).toUInt32.toUInt16.toUInt32.toInt32) aV kc aC aR aU aD h142 n0 Z142 F151 F145 F146 F147 F148 F149 F150) hZ (hw _ (List.mem_of_getElem? (i := 5) rfl)) (hw _ (List.mem_of_getElem? (i := 4) rfl)) (by decide) (by decide)) (g := (mkF m 70 #[.val (.int p1), .val (.int p2), .val (.ref b2), .val (.int ((p2 &&& (65535 : Int32)).toUInt32.toUInt16.toUInt32.toInt32)), .unset, .unset] [(.int ((p2 &&& (65535 : Int32)).toUInt32.toUInt16.toUInt32.toInt32))])) rfl (by rw [hml]; rfl) (argsL := [(.int ((p2 &&& (65535 : Int32)).toUInt32.toUInt16.toUInt32.toInt32))]) (rest := []) (lenOf own_pd1 rfl) rfl (by show 2 * 0 + _ ≤ _; exact Nat.le_of_eq rfl) (hb hby at_70) (fun _ _ => ⟨rfl, e142, (by decide : 1 + 1 ≤ _), (by decide : 8 + 4 ≤ _)⟩)
            dsimp only [Pt.U, Pt.locs, Pt.cells, Pt.slots] at X254 l254 y254 z254 st254 hQ254
            subst l254 y254 z254
            obtain ⟨hv254, N254q, K254k⟩ := hQ254
            have N254 := Fr.app N142 N254q
            rw [show own_op ((p2 &&& (65535 : Int32)).toUInt32.toUInt16.toUInt32.toInt32) aC aR aU aD = .null from by unfold own_op; rw [if_neg hk67_161, if_neg hk82_184, if_neg hk85_207, if_neg hk68_230]] at hv254
            subst hv254
            have F255 := F144.keep K254k all0
            have F256 := F145.keep K254k nin0
            have F257 := F146.keep K254k
            have F258 := F147.keep K254k nin0
            have F259 := F148.keep K254k nin0
            have F260 := F149.keep K254k nin0
            have F261 := F150.keep K254k nin0
            have F262 := Sta.ext F255.2 R_aV
            have F263 := Sta.ext F255.2 R_aC
            have F264 := Sta.ext F255.2 R_aR
            have F265 := Sta.ext F255.2 R_aU
            have F266 := Sta.ext F255.2 R_aD
            have F267 := F143.keep K254k nin0
            have Z268 : n0 ≤ T254.heap.size := Nat.le_trans Z142 K254k.1
            have K268 : Keep h0 T254.heap [] := K142.trans K254k all0
            have k269 : ∀ t, Steps p.tables e below (T254.setTop (mkF m 73 #[.val (.int p1), .val (.int p2), .val (.ref b2), .val (.int ((p2 &&& (65535 : Int32)).toUInt32.toUInt16.toUInt32.toInt32)), .unset, .unset] [.null])) t → Steps p.tables e below (s₁.setTop (entryFrame m #[(.int p1), (.int p2)] maxLocals)) t := fun t kt => k253 t (st254 t kt)
            have k270 : ∀ t, Steps p.tables e below (T254.setTop (mkF m 76 #[.val (.int p1), .val (.int p2), .val (.ref b2), .val (.int ((p2 &&& (65535 : Int32)).toUInt32.toUInt16.toUInt32.toInt32)), .val .null, .unset] [(.int ((p2 &&& (65535 : Int32)).toUInt32.toUInt16.toUInt32.toInt32))])) t → Steps p.tables e below (s₁.setTop (entryFrame m #[(.int p1), (.int p2)] maxLocals)) t := by
              intro t kt
              refine k269 t ?_
              show Steps p.tables e below (T254.setTop (mkF m 73 #[.val (.int p1), .val (.int p2), .val (.ref b2), .val (.int ((p2 &&& (65535 : Int32)).toUInt32.toUInt16.toUInt32.toInt32)), .unset, .unset] [.null])) t
              refine XS.astore X254.here hx rfl (hb hby at_73) rfl rfl (l' := #[.val (.int p1), .val (.int p2), .val (.ref b2), .val (.int ((p2 &&& (65535 : Int32)).toUInt32.toUInt16.toUInt32.toInt32)), .val .null, .unset]) rfl ?_
              show Steps p.tables e below (T254.setTop (mkF m 75 #[.val (.int p1), .val (.int p2), .val (.ref b2), .val (.int ((p2 &&& (65535 : Int32)).toUInt32.toUInt16.toUInt32.toInt32)), .val .null, .unset] [])) t
              refine XS.iloadN X254.here hx rfl (hb hby at_75) rfl ?_
              exact kt
            obtain ⟨_, _, ⟨T271, L271, k271c, n271⟩, -, X271, ⟨Lc271, hQ271, l271, y271, z271⟩, st271⟩ := Jvm.LawKit.callS X254 hx (y := (⟨"com/example/ruleward/ruleward/rules/OperationOfPinLaw", "expected", "(C)Lcom/example/ruleward/ruleward/rules/Operation;"⟩ : MethodName)) hown (mvT hZ (hw _ (List.mem_of_getElem? (i := 27) rfl))) (mvT hZ (hw _ (List.mem_of_getElem? (i := 28) rfl))) (mvT hZ (hw _ (List.mem_of_getElem? (i := 29) rfl))) (mvT hZ (hw _ (List.mem_of_getElem? (i := 30) rfl))) (by decide) (backOf (W := 0) (rmE l Z a0 hw [] ((p2 &&& (65535 : Int32)).toUInt32.toUInt16.toUInt32.toInt32) aC aR aU aD T254.heap n0 Z268 F263 F264 F265 F266) hZ (hw _ (List.mem_of_getElem? (i := 30) rfl)) (hw _ (List.mem_of_getElem? (i := 29) rfl)) (by decide) (by decide)) (g := (mkF m 76 #[.val (.int p1), .val (.int p2), .val (.ref b2), .val (.int ((p2 &&& (65535 : Int32)).toUInt32.toUInt16.toUInt32.toInt32)), .val .null, .unset] [(.int ((p2 &&& (65535 : Int32)).toUInt32.toUInt16.toUInt32.toInt32))])) rfl (by rw [hml]; rfl) (argsL := [(.int ((p2 &&& (65535 : Int32)).toUInt32.toUInt16.toUInt32.toInt32))]) (rest := []) (lenOf own_pd1 rfl) rfl (by show 2 * 0 + _ ≤ _; exact Nat.le_of_eq rfl) (hb hby at_76) (fun _ _ => ⟨rfl, rfl, (by decide : 2 + 0 ≤ _), (by decide : 12 + 0 ≤ _)⟩)
            dsimp only [Pt.U, Pt.locs, Pt.cells, Pt.slots] at X271 l271 y271 z271 st271 hQ271
            subst l271 y271 z271
            obtain ⟨hv271, N271q, e271⟩ := hQ271
            have N271 := Fr.app N254 N271q
            rw [show own_op ((p2 &&& (65535 : Int32)).toUInt32.toUInt16.toUInt32.toInt32) aC aR aU aD = .null from by unfold own_op; rw [if_neg hk67_161, if_neg hk82_184, if_neg hk85_207, if_neg hk68_230]] at hv271
            subst hv271
            have k272 : ∀ t, Steps p.tables e below (T271.setTop (mkF m 79 #[.val (.int p1), .val (.int p2), .val (.ref b2), .val (.int ((p2 &&& (65535 : Int32)).toUInt32.toUInt16.toUInt32.toInt32)), .val .null, .unset] [.null])) t → Steps p.tables e below (s₁.setTop (entryFrame m #[(.int p1), (.int p2)] maxLocals)) t := fun t kt => k270 t (st271 t kt)
            have k274 : ∀ t, Steps p.tables e below (T271.setTop (mkF m 93 #[.val (.int p1), .val (.int p2), .val (.ref b2), .val (.int ((p2 &&& (65535 : Int32)).toUInt32.toUInt16.toUInt32.toInt32)), .val .null, .val .null] [(.int (1 : Int32))])) t → Steps p.tables e below (s₁.setTop (entryFrame m #[(.int p1), (.int p2)] maxLocals)) t := by
              intro t kt
              refine k272 t ?_
              show Steps p.tables e below (T271.setTop (mkF m 79 #[.val (.int p1), .val (.int p2), .val (.ref b2), .val (.int ((p2 &&& (65535 : Int32)).toUInt32.toUInt16.toUInt32.toInt32)), .val .null, .unset] [.null])) t
              refine XS.astore X271.here hx rfl (hb hby at_79) rfl rfl (l' := #[.val (.int p1), .val (.int p2), .val (.ref b2), .val (.int ((p2 &&& (65535 : Int32)).toUInt32.toUInt16.toUInt32.toInt32)), .val .null, .val .null]) rfl ?_
              show Steps p.tables e below (T271.setTop (mkF m 81 #[.val (.int p1), .val (.int p2), .val (.ref b2), .val (.int ((p2 &&& (65535 : Int32)).toUInt32.toUInt16.toUInt32.toInt32)), .val .null, .val .null] [])) t
              refine XS.aload X271.here hx rfl (hb hby at_81) rfl rfl ?_
              show Steps p.tables e below (T271.setTop (mkF m 83 #[.val (.int p1), .val (.int p2), .val (.ref b2), .val (.int ((p2 &&& (65535 : Int32)).toUInt32.toUInt16.toUInt32.toInt32)), .val .null, .val .null] [.null])) t
              refine XS.aload X271.here hx rfl (hb hby at_83) rfl rfl ?_
              show Steps p.tables e below (T271.setTop (mkF m 85 #[.val (.int p1), .val (.int p2), .val (.ref b2), .val (.int ((p2 &&& (65535 : Int32)).toUInt32.toUInt16.toUInt32.toInt32)), .val .null, .val .null] [.null, .null])) t
              refine Jvm.RoadKit.acmp (g := (mkF m 85 #[.val (.int p1), .val (.int p2), .val (.ref b2), .val (.int ((p2 &&& (65535 : Int32)).toUInt32.toUInt16.toUInt32.toInt32)), .val .null, .val .null] [.null, .null])) X271 hx rfl rfl rfl (pc0 := 85) (pc' := 88) (same := true) rfl (hb hby at_85) rfl (decide_eq_true rfl) (by decide) (by decide) ?_
              show Steps p.tables e below (T271.setTop (mkF m 88 #[.val (.int p1), .val (.int p2), .val (.ref b2), .val (.int ((p2 &&& (65535 : Int32)).toUInt32.toUInt16.toUInt32.toInt32)), .val .null, .val .null] [])) t
              refine XS.iconst X271.here hx rfl (hb hby at_88) ?_
              show Steps p.tables e below (T271.setTop (mkF m 89 #[.val (.int p1), .val (.int p2), .val (.ref b2), .val (.int ((p2 &&& (65535 : Int32)).toUInt32.toUInt16.toUInt32.toInt32)), .val .null, .val .null] [(.int (1 : Int32))])) t
              refine XS.goto X271.here hx rfl (pc0 := 89) (pc' := 93) rfl (hb hby at_89) (by decide) (by decide) ?_
              exact kt
            obtain ⟨fs, hr, hrun, hended, hW, hsame⟩ := X271.leave (v := some (.int (1 : Int32))) (fun h => by rw [Bd.returns] at h; cases h)
            refine ⟨_, _, k274 _ ?_, hrun, hended, _, _, rfl, ?_, ⟨_, rfl⟩, hW, hsame.mono (by decide) (by decide)⟩
            · show Steps p.tables e below (T271.setTop (mkF m 93 #[.val (.int p1), .val (.int p2), .val (.ref b2), .val (.int ((p2 &&& (65535 : Int32)).toUInt32.toUInt16.toUInt32.toInt32)), .val .null, .val .null] [(.int (1 : Int32))])) _
              exact retN X271 hx (t := .boolean) Bd.returns (by simp) (hb hby at_93) hr
            · show Q0 Z p1 p2 aV kc aC aR aU aD h0 n0 _ T271.heap _
              rw [e271]
              exact ⟨rfl, N271⟩
  · have k275 : ∀ t, Steps p.tables e below (T142.setTop (mkF m 67 #[.val (.int p1), .val (.int p2), .val (.ref b2), .unset, .unset, .unset] [(.int (p2 &&& (7 : Int32))), (.ref b2)])) t → Steps p.tables e below (s₁.setTop (entryFrame m #[(.int p1), (.int p2)] maxLocals)) t := by
      intro t kt
      refine k159 t ?_
      show Steps p.tables e below (T142.setTop (mkF m 50 #[.val (.int p1), .val (.int p2), .val (.ref b2), .unset, .unset, .unset] [(.int (p1 &&& (3 : Int32)))])) t
      refine XS.ifYes X142.here hx rfl (pc0 := 50) (pc' := 62) rfl (hb hby at_50) rfl ((if0 _ _).trans (feq hc50_158).2) (by decide) (by decide) ?_
      show Steps p.tables e below (T142.setTop (mkF m 62 #[.val (.int p1), .val (.int p2), .val (.ref b2), .unset, .unset, .unset] [])) t
      refine XS.aloadN X142.here hx rfl (hb hby at_62) rfl rfl ?_
      show Steps p.tables e below (T142.setTop (mkF m 63 #[.val (.int p1), .val (.int p2), .val (.ref b2), .unset, .unset, .unset] [(.ref b2)])) t
      refine XS.iloadN X142.here hx rfl (hb hby at_63) rfl ?_
      show Steps p.tables e below (T142.setTop (mkF m 64 #[.val (.int p1), .val (.int p2), .val (.ref b2), .unset, .unset, .unset] [(.int p2), (.ref b2)])) t
      refine XS.bipush X142.here hx rfl (hb hby at_64) ?_
      show Steps p.tables e below (T142.setTop (mkF m 66 #[.val (.int p1), .val (.int p2), .val (.ref b2), .unset, .unset, .unset] [(.int (7 : Int32)), (.int p2), (.ref b2)])) t
      refine XS.iand X142.here hx rfl (hb hby at_66) rfl ?_
      exact kt
    obtain ⟨z277, hz277⟩ := own_getI [((67 : Int32).toUInt32.toUInt16.toUInt32.toInt32), ((82 : Int32).toUInt32.toUInt16.toUInt32.toInt32), ((85 : Int32).toUInt32.toUInt16.toUInt32.toInt32), ((68 : Int32).toUInt32.toUInt16.toUInt32.toInt32), ((99 : Int32).toUInt32.toUInt16.toUInt32.toInt32), ((114 : Int32).toUInt32.toUInt16.toUInt32.toInt32), ((117 : Int32).toUInt32.toUInt16.toUInt32.toInt32), ((100 : Int32).toUInt32.toUInt16.toUInt32.toInt32)] ((p2 &&& (7 : Int32))).toNatClampNeg
    obtain ⟨cl276, Ar276, q276, S276, M276, H276, G276⟩ := id F143
    have hin276 : ¬ ((p2 &&& (7 : Int32)) < 0 ∨ cl276.slots.size ≤ ((p2 &&& (7 : Int32))).toNatClampNeg) := inb_of S276 (own_m7 _)
    have hat276 : cl276.slots[((p2 &&& (7 : Int32))).toNatClampNeg]? = some (.int z277) := Has.at H276 hin276 hz277
    have k278 : ∀ t, Steps p.tables e below (T142.setTop (mkF m 68 #[.val (.int p1), .val (.int p2), .val (.ref b2), .unset, .unset, .unset] [(.int z277)])) t → Steps p.tables e below (s₁.setTop (entryFrame m #[(.int p1), (.int p2)] maxLocals)) t := fun t kt => k275 t (X142.caload hx (j := (p2 &&& (7 : Int32))) (v := (.int z277)) (by rw [e142]; exact Ar276.1) (State.isArrayOf_alike hZ.alike Ar276.2.1) Ar276.2.2 hin276 hat276 (g := (mkF m 67 #[.val (.int p1), .val (.int p2), .val (.ref b2), .unset, .unset, .unset] [(.int (p2 &&& (7 : Int32))), (.ref b2)])) rfl rfl (hb hby at_67) t kt)
    have k279 : ∀ t, Steps p.tables e below (T142.setTop (mkF m 69 #[.val (.int p1), .val (.int p2), .val (.ref b2), .val (.int z277), .unset, .unset] [])) t → Steps p.tables e below (s₁.setTop (entryFrame m #[(.int p1), (.int p2)] maxLocals)) t := by
      intro t kt
      refine k278 t ?_
      show Steps p.tables e below (T142.setTop (mkF m 68 #[.val (.int p1), .val (.int p2), .val (.ref b2), .unset, .unset, .unset] [(.int z277)])) t
      refine XS.istoreN X142.here hx rfl (hb hby at_68) rfl (l' := #[.val (.int p1), .val (.int p2), .val (.ref b2), .val (.int z277), .unset, .unset]) rfl ?_
      exact kt
    by_cases hk67_280 : z277 = (67 : Int32)
    · have k281 : ∀ t, Steps p.tables e below (T142.setTop (mkF m 70 #[.val (.int p1), .val (.int p2), .val (.ref b2), .val (.int z277), .unset, .unset] [(.int z277)])) t → Steps p.tables e below (s₁.setTop (entryFrame m #[(.int p1), (.int p2)] maxLocals)) t := by
        intro t kt
        refine k279 t ?_
        show Steps p.tables e below (T142.setTop (mkF m 69 #[.val (.int p1), .val (.int p2), .val (.ref b2), .val (.int z277), .unset, .unset] [])) t
        refine XS.iloadN X142.here hx rfl (hb hby at_69) rfl ?_
        exact kt
      obtain ⟨_, _, ⟨T282, L282, k282c, n282⟩, -, X282, ⟨Lc282, hQ282, l282, y282, z282⟩, st282⟩ := Jvm.LawKit.callS X142 hx (y := (⟨"com/example/ruleward/ruleward/rules/Operation", "of", "(C)Lcom/example/ruleward/ruleward/rules/Operation;"⟩ : MethodName)) hown (mvT hZ (hw _ (List.mem_of_getElem? (i := 2) rfl))) (mvT hZ (hw _ (List.mem_of_getElem? (i := 3) rfl))) (mvT hZ (hw _ (List.mem_of_getElem? (i := 4) rfl))) (mvT hZ (hw _ (List.mem_of_getElem? (i := 5) rfl))) (by decide) (backOf (W := 0) (rmF l Z a0 hw [] z277 aV kc aC aR aU aD h142 n0 Z142 F151 F145 F146 F147 F148 F149 F150) hZ (hw _ (List.mem_of_getElem? (i := 5) rfl)) (hw _ (List.mem_of_getElem? (i := 4) rfl)) (by decide) (by decide)) (g := (mkF m 70 #[.val (.int p1), .val (.int p2), .val (.ref b2), .val (.int z277), .unset, .unset] [(.int z277)])) rfl (by rw [hml]; rfl) (argsL := [(.int z277)]) (rest := []) (lenOf own_pd1 rfl) rfl (by show 2 * 0 + _ ≤ _; exact Nat.le_of_eq rfl) (hb hby at_70) (fun _ _ => ⟨rfl, e142, (by decide : 1 + 1 ≤ _), (by decide : 8 + 4 ≤ _)⟩)
      dsimp only [Pt.U, Pt.locs, Pt.cells, Pt.slots] at X282 l282 y282 z282 st282 hQ282
      subst l282 y282 z282
      obtain ⟨hv282, N282q, K282k⟩ := hQ282
      have N282 := Fr.app N142 N282q
      rw [show own_op z277 aC aR aU aD = (.ref aC) from by unfold own_op; rw [if_pos hk67_280]] at hv282
      subst hv282
      have F283 := F144.keep K282k all0
      have F284 := F145.keep K282k nin0
      have F285 := F146.keep K282k
      have F286 := F147.keep K282k nin0
      have F287 := F148.keep K282k nin0
      have F288 := F149.keep K282k nin0
      have F289 := F150.keep K282k nin0
      have F290 := Sta.ext F283.2 R_aV
      have F291 := Sta.ext F283.2 R_aC
      have F292 := Sta.ext F283.2 R_aR
      have F293 := Sta.ext F283.2 R_aU
      have F294 := Sta.ext F283.2 R_aD
      have F295 := F143.keep K282k nin0
      have Z296 : n0 ≤ T282.heap.size := Nat.le_trans Z142 K282k.1
      have K296 : Keep h0 T282.heap [] := K142.trans K282k all0
      have k297 : ∀ t, Steps p.tables e below (T282.setTop (mkF m 73 #[.val (.int p1), .val (.int p2), .val (.ref b2), .val (.int z277), .unset, .unset] [(.ref aC)])) t → Steps p.tables e below (s₁.setTop (entryFrame m #[(.int p1), (.int p2)] maxLocals)) t := fun t kt => k281 t (st282 t kt)
      have k298 : ∀ t, Steps p.tables e below (T282.setTop (mkF m 76 #[.val (.int p1), .val (.int p2), .val (.ref b2), .val (.int z277), .val (.ref aC), .unset] [(.int z277)])) t → Steps p.tables e below (s₁.setTop (entryFrame m #[(.int p1), (.int p2)] maxLocals)) t := by
        intro t kt
        refine k297 t ?_
        show Steps p.tables e below (T282.setTop (mkF m 73 #[.val (.int p1), .val (.int p2), .val (.ref b2), .val (.int z277), .unset, .unset] [(.ref aC)])) t
        refine XS.astore X282.here hx rfl (hb hby at_73) rfl rfl (l' := #[.val (.int p1), .val (.int p2), .val (.ref b2), .val (.int z277), .val (.ref aC), .unset]) rfl ?_
        show Steps p.tables e below (T282.setTop (mkF m 75 #[.val (.int p1), .val (.int p2), .val (.ref b2), .val (.int z277), .val (.ref aC), .unset] [])) t
        refine XS.iloadN X282.here hx rfl (hb hby at_75) rfl ?_
        exact kt
      obtain ⟨_, _, ⟨T299, L299, k299c, n299⟩, -, X299, ⟨Lc299, hQ299, l299, y299, z299⟩, st299⟩ := Jvm.LawKit.callS X282 hx (y := (⟨"com/example/ruleward/ruleward/rules/OperationOfPinLaw", "expected", "(C)Lcom/example/ruleward/ruleward/rules/Operation;"⟩ : MethodName)) hown (mvT hZ (hw _ (List.mem_of_getElem? (i := 27) rfl))) (mvT hZ (hw _ (List.mem_of_getElem? (i := 28) rfl))) (mvT hZ (hw _ (List.mem_of_getElem? (i := 29) rfl))) (mvT hZ (hw _ (List.mem_of_getElem? (i := 30) rfl))) (by decide) (backOf (W := 0) (rmE l Z a0 hw [] z277 aC aR aU aD T282.heap n0 Z296 F291 F292 F293 F294) hZ (hw _ (List.mem_of_getElem? (i := 30) rfl)) (hw _ (List.mem_of_getElem? (i := 29) rfl)) (by decide) (by decide)) (g := (mkF m 76 #[.val (.int p1), .val (.int p2), .val (.ref b2), .val (.int z277), .val (.ref aC), .unset] [(.int z277)])) rfl (by rw [hml]; rfl) (argsL := [(.int z277)]) (rest := []) (lenOf own_pd1 rfl) rfl (by show 2 * 0 + _ ≤ _; exact Nat.le_of_eq rfl) (hb hby at_76) (fun _ _ => ⟨rfl, rfl, (by decide : 2 + 0 ≤ _), (by decide : 12 + 0 ≤ _)⟩)
      dsimp only [Pt.U, Pt.locs, Pt.cells, Pt.slots] at X299 l299 y299 z299 st299 hQ299
      subst l299 y299 z299
      obtain ⟨hv299, N299q, e299⟩ := hQ299
      have N299 := Fr.app N282 N299q
      rw [show own_op z277 aC aR aU aD = (.ref aC) from by unfold own_op; rw [if_pos hk67_280]] at hv299
      subst hv299
      have k300 : ∀ t, Steps p.tables e below (T299.setTop (mkF m 79 #[.val (.int p1), .val (.int p2), .val (.ref b2), .val (.int z277), .val (.ref aC), .unset] [(.ref aC)])) t → Steps p.tables e below (s₁.setTop (entryFrame m #[(.int p1), (.int p2)] maxLocals)) t := fun t kt => k298 t (st299 t kt)
      have k302 : ∀ t, Steps p.tables e below (T299.setTop (mkF m 93 #[.val (.int p1), .val (.int p2), .val (.ref b2), .val (.int z277), .val (.ref aC), .val (.ref aC)] [(.int (1 : Int32))])) t → Steps p.tables e below (s₁.setTop (entryFrame m #[(.int p1), (.int p2)] maxLocals)) t := by
        intro t kt
        refine k300 t ?_
        show Steps p.tables e below (T299.setTop (mkF m 79 #[.val (.int p1), .val (.int p2), .val (.ref b2), .val (.int z277), .val (.ref aC), .unset] [(.ref aC)])) t
        refine XS.astore X299.here hx rfl (hb hby at_79) rfl rfl (l' := #[.val (.int p1), .val (.int p2), .val (.ref b2), .val (.int z277), .val (.ref aC), .val (.ref aC)]) rfl ?_
        show Steps p.tables e below (T299.setTop (mkF m 81 #[.val (.int p1), .val (.int p2), .val (.ref b2), .val (.int z277), .val (.ref aC), .val (.ref aC)] [])) t
        refine XS.aload X299.here hx rfl (hb hby at_81) rfl rfl ?_
        show Steps p.tables e below (T299.setTop (mkF m 83 #[.val (.int p1), .val (.int p2), .val (.ref b2), .val (.int z277), .val (.ref aC), .val (.ref aC)] [(.ref aC)])) t
        refine XS.aload X299.here hx rfl (hb hby at_83) rfl rfl ?_
        show Steps p.tables e below (T299.setTop (mkF m 85 #[.val (.int p1), .val (.int p2), .val (.ref b2), .val (.int z277), .val (.ref aC), .val (.ref aC)] [(.ref aC), (.ref aC)])) t
        refine Jvm.RoadKit.acmp (g := (mkF m 85 #[.val (.int p1), .val (.int p2), .val (.ref b2), .val (.int z277), .val (.ref aC), .val (.ref aC)] [(.ref aC), (.ref aC)])) X299 hx rfl rfl rfl (pc0 := 85) (pc' := 88) (same := true) rfl (hb hby at_85) rfl (decide_eq_true rfl) (by decide) (by decide) ?_
        show Steps p.tables e below (T299.setTop (mkF m 88 #[.val (.int p1), .val (.int p2), .val (.ref b2), .val (.int z277), .val (.ref aC), .val (.ref aC)] [])) t
        refine XS.iconst X299.here hx rfl (hb hby at_88) ?_
        show Steps p.tables e below (T299.setTop (mkF m 89 #[.val (.int p1), .val (.int p2), .val (.ref b2), .val (.int z277), .val (.ref aC), .val (.ref aC)] [(.int (1 : Int32))])) t
        refine XS.goto X299.here hx rfl (pc0 := 89) (pc' := 93) rfl (hb hby at_89) (by decide) (by decide) ?_
        exact kt
      obtain ⟨fs, hr, hrun, hended, hW, hsame⟩ := X299.leave (v := some (.int (1 : Int32))) (fun h => by rw [Bd.returns] at h; cases h)
      refine ⟨_, _, k302 _ ?_, hrun, hended, _, _, rfl, ?_, ⟨_, rfl⟩, hW, hsame.mono (by decide) (by decide)⟩
      · show Steps p.tables e below (T299.setTop (mkF m 93 #[.val (.int p1), .val (.int p2), .val (.ref b2), .val (.int z277), .val (.ref aC), .val (.ref aC)] [(.int (1 : Int32))])) _
        exact retN X299 hx (t := .boolean) Bd.returns (by simp) (hb hby at_93) hr
      · show Q0 Z p1 p2 aV kc aC aR aU aD h0 n0 _ T299.heap _
        rw [e299]
        exact ⟨rfl, N299⟩
    · by_cases hk82_303 : z277 = (82 : Int32)
      · have k304 : ∀ t, Steps p.tables e below (T142.setTop (mkF m 70 #[.val (.int p1), .val (.int p2), .val (.ref b2), .val (.int z277), .unset, .unset] [(.int z277)])) t → Steps p.tables e below (s₁.setTop (entryFrame m #[(.int p1), (.int p2)] maxLocals)) t := by
          intro t kt
          refine k279 t ?_
          show Steps p.tables e below (T142.setTop (mkF m 69 #[.val (.int p1), .val (.int p2), .val (.ref b2), .val (.int z277), .unset, .unset] [])) t
          refine XS.iloadN X142.here hx rfl (hb hby at_69) rfl ?_
          exact kt
        obtain ⟨_, _, ⟨T305, L305, k305c, n305⟩, -, X305, ⟨Lc305, hQ305, l305, y305, z305⟩, st305⟩ := Jvm.LawKit.callS X142 hx (y := (⟨"com/example/ruleward/ruleward/rules/Operation", "of", "(C)Lcom/example/ruleward/ruleward/rules/Operation;"⟩ : MethodName)) hown (mvT hZ (hw _ (List.mem_of_getElem? (i := 2) rfl))) (mvT hZ (hw _ (List.mem_of_getElem? (i := 3) rfl))) (mvT hZ (hw _ (List.mem_of_getElem? (i := 4) rfl))) (mvT hZ (hw _ (List.mem_of_getElem? (i := 5) rfl))) (by decide) (backOf (W := 0) (rmF l Z a0 hw [] z277 aV kc aC aR aU aD h142 n0 Z142 F151 F145 F146 F147 F148 F149 F150) hZ (hw _ (List.mem_of_getElem? (i := 5) rfl)) (hw _ (List.mem_of_getElem? (i := 4) rfl)) (by decide) (by decide)) (g := (mkF m 70 #[.val (.int p1), .val (.int p2), .val (.ref b2), .val (.int z277), .unset, .unset] [(.int z277)])) rfl (by rw [hml]; rfl) (argsL := [(.int z277)]) (rest := []) (lenOf own_pd1 rfl) rfl (by show 2 * 0 + _ ≤ _; exact Nat.le_of_eq rfl) (hb hby at_70) (fun _ _ => ⟨rfl, e142, (by decide : 1 + 1 ≤ _), (by decide : 8 + 4 ≤ _)⟩)
        dsimp only [Pt.U, Pt.locs, Pt.cells, Pt.slots] at X305 l305 y305 z305 st305 hQ305
        subst l305 y305 z305
        obtain ⟨hv305, N305q, K305k⟩ := hQ305
        have N305 := Fr.app N142 N305q
        rw [show own_op z277 aC aR aU aD = (.ref aR) from by unfold own_op; rw [if_neg hk67_280, if_pos hk82_303]] at hv305
        subst hv305
        have F306 := F144.keep K305k all0
        have F307 := F145.keep K305k nin0
        have F308 := F146.keep K305k
        have F309 := F147.keep K305k nin0
        have F310 := F148.keep K305k nin0
        have F311 := F149.keep K305k nin0
        have F312 := F150.keep K305k nin0
        have F313 := Sta.ext F306.2 R_aV
        have F314 := Sta.ext F306.2 R_aC
        have F315 := Sta.ext F306.2 R_aR
        have F316 := Sta.ext F306.2 R_aU
        have F317 := Sta.ext F306.2 R_aD
        have F318 := F143.keep K305k nin0
        have Z319 : n0 ≤ T305.heap.size := Nat.le_trans Z142 K305k.1
        have K319 : Keep h0 T305.heap [] := K142.trans K305k all0
        have k320 : ∀ t, Steps p.tables e below (T305.setTop (mkF m 73 #[.val (.int p1), .val (.int p2), .val (.ref b2), .val (.int z277), .unset, .unset] [(.ref aR)])) t → Steps p.tables e below (s₁.setTop (entryFrame m #[(.int p1), (.int p2)] maxLocals)) t := fun t kt => k304 t (st305 t kt)
        have k321 : ∀ t, Steps p.tables e below (T305.setTop (mkF m 76 #[.val (.int p1), .val (.int p2), .val (.ref b2), .val (.int z277), .val (.ref aR), .unset] [(.int z277)])) t → Steps p.tables e below (s₁.setTop (entryFrame m #[(.int p1), (.int p2)] maxLocals)) t := by
          intro t kt
          refine k320 t ?_
          show Steps p.tables e below (T305.setTop (mkF m 73 #[.val (.int p1), .val (.int p2), .val (.ref b2), .val (.int z277), .unset, .unset] [(.ref aR)])) t
          refine XS.astore X305.here hx rfl (hb hby at_73) rfl rfl (l' := #[.val (.int p1), .val (.int p2), .val (.ref b2), .val (.int z277), .val (.ref aR), .unset]) rfl ?_
          show Steps p.tables e below (T305.setTop (mkF m 75 #[.val (.int p1), .val (.int p2), .val (.ref b2), .val (.int z277), .val (.ref aR), .unset] [])) t
          refine XS.iloadN X305.here hx rfl (hb hby at_75) rfl ?_
          exact kt
        obtain ⟨_, _, ⟨T322, L322, k322c, n322⟩, -, X322, ⟨Lc322, hQ322, l322, y322, z322⟩, st322⟩ := Jvm.LawKit.callS X305 hx (y := (⟨"com/example/ruleward/ruleward/rules/OperationOfPinLaw", "expected", "(C)Lcom/example/ruleward/ruleward/rules/Operation;"⟩ : MethodName)) hown (mvT hZ (hw _ (List.mem_of_getElem? (i := 27) rfl))) (mvT hZ (hw _ (List.mem_of_getElem? (i := 28) rfl))) (mvT hZ (hw _ (List.mem_of_getElem? (i := 29) rfl))) (mvT hZ (hw _ (List.mem_of_getElem? (i := 30) rfl))) (by decide) (backOf (W := 0) (rmE l Z a0 hw [] z277 aC aR aU aD T305.heap n0 Z319 F314 F315 F316 F317) hZ (hw _ (List.mem_of_getElem? (i := 30) rfl)) (hw _ (List.mem_of_getElem? (i := 29) rfl)) (by decide) (by decide)) (g := (mkF m 76 #[.val (.int p1), .val (.int p2), .val (.ref b2), .val (.int z277), .val (.ref aR), .unset] [(.int z277)])) rfl (by rw [hml]; rfl) (argsL := [(.int z277)]) (rest := []) (lenOf own_pd1 rfl) rfl (by show 2 * 0 + _ ≤ _; exact Nat.le_of_eq rfl) (hb hby at_76) (fun _ _ => ⟨rfl, rfl, (by decide : 2 + 0 ≤ _), (by decide : 12 + 0 ≤ _)⟩)
        dsimp only [Pt.U, Pt.locs, Pt.cells, Pt.slots] at X322 l322 y322 z322 st322 hQ322
        subst l322 y322 z322
        obtain ⟨hv322, N322q, e322⟩ := hQ322
        have N322 := Fr.app N305 N322q
        rw [show own_op z277 aC aR aU aD = (.ref aR) from by unfold own_op; rw [if_neg hk67_280, if_pos hk82_303]] at hv322
        subst hv322
        have k323 : ∀ t, Steps p.tables e below (T322.setTop (mkF m 79 #[.val (.int p1), .val (.int p2), .val (.ref b2), .val (.int z277), .val (.ref aR), .unset] [(.ref aR)])) t → Steps p.tables e below (s₁.setTop (entryFrame m #[(.int p1), (.int p2)] maxLocals)) t := fun t kt => k321 t (st322 t kt)
        have k325 : ∀ t, Steps p.tables e below (T322.setTop (mkF m 93 #[.val (.int p1), .val (.int p2), .val (.ref b2), .val (.int z277), .val (.ref aR), .val (.ref aR)] [(.int (1 : Int32))])) t → Steps p.tables e below (s₁.setTop (entryFrame m #[(.int p1), (.int p2)] maxLocals)) t := by
          intro t kt
          refine k323 t ?_
          show Steps p.tables e below (T322.setTop (mkF m 79 #[.val (.int p1), .val (.int p2), .val (.ref b2), .val (.int z277), .val (.ref aR), .unset] [(.ref aR)])) t
          refine XS.astore X322.here hx rfl (hb hby at_79) rfl rfl (l' := #[.val (.int p1), .val (.int p2), .val (.ref b2), .val (.int z277), .val (.ref aR), .val (.ref aR)]) rfl ?_
          show Steps p.tables e below (T322.setTop (mkF m 81 #[.val (.int p1), .val (.int p2), .val (.ref b2), .val (.int z277), .val (.ref aR), .val (.ref aR)] [])) t
          refine XS.aload X322.here hx rfl (hb hby at_81) rfl rfl ?_
          show Steps p.tables e below (T322.setTop (mkF m 83 #[.val (.int p1), .val (.int p2), .val (.ref b2), .val (.int z277), .val (.ref aR), .val (.ref aR)] [(.ref aR)])) t
          refine XS.aload X322.here hx rfl (hb hby at_83) rfl rfl ?_
          show Steps p.tables e below (T322.setTop (mkF m 85 #[.val (.int p1), .val (.int p2), .val (.ref b2), .val (.int z277), .val (.ref aR), .val (.ref aR)] [(.ref aR), (.ref aR)])) t
          refine Jvm.RoadKit.acmp (g := (mkF m 85 #[.val (.int p1), .val (.int p2), .val (.ref b2), .val (.int z277), .val (.ref aR), .val (.ref aR)] [(.ref aR), (.ref aR)])) X322 hx rfl rfl rfl (pc0 := 85) (pc' := 88) (same := true) rfl (hb hby at_85) rfl (decide_eq_true rfl) (by decide) (by decide) ?_
          show Steps p.tables e below (T322.setTop (mkF m 88 #[.val (.int p1), .val (.int p2), .val (.ref b2), .val (.int z277), .val (.ref aR), .val (.ref aR)] [])) t
          refine XS.iconst X322.here hx rfl (hb hby at_88) ?_
          show Steps p.tables e below (T322.setTop (mkF m 89 #[.val (.int p1), .val (.int p2), .val (.ref b2), .val (.int z277), .val (.ref aR), .val (.ref aR)] [(.int (1 : Int32))])) t
          refine XS.goto X322.here hx rfl (pc0 := 89) (pc' := 93) rfl (hb hby at_89) (by decide) (by decide) ?_
          exact kt
        obtain ⟨fs, hr, hrun, hended, hW, hsame⟩ := X322.leave (v := some (.int (1 : Int32))) (fun h => by rw [Bd.returns] at h; cases h)
        refine ⟨_, _, k325 _ ?_, hrun, hended, _, _, rfl, ?_, ⟨_, rfl⟩, hW, hsame.mono (by decide) (by decide)⟩
        · show Steps p.tables e below (T322.setTop (mkF m 93 #[.val (.int p1), .val (.int p2), .val (.ref b2), .val (.int z277), .val (.ref aR), .val (.ref aR)] [(.int (1 : Int32))])) _
          exact retN X322 hx (t := .boolean) Bd.returns (by simp) (hb hby at_93) hr
        · show Q0 Z p1 p2 aV kc aC aR aU aD h0 n0 _ T322.heap _
          rw [e322]
          exact ⟨rfl, N322⟩
      · by_cases hk85_326 : z277 = (85 : Int32)
        · have k327 : ∀ t, Steps p.tables e below (T142.setTop (mkF m 70 #[.val (.int p1), .val (.int p2), .val (.ref b2), .val (.int z277), .unset, .unset] [(.int z277)])) t → Steps p.tables e below (s₁.setTop (entryFrame m #[(.int p1), (.int p2)] maxLocals)) t := by
            intro t kt
            refine k279 t ?_
            show Steps p.tables e below (T142.setTop (mkF m 69 #[.val (.int p1), .val (.int p2), .val (.ref b2), .val (.int z277), .unset, .unset] [])) t
            refine XS.iloadN X142.here hx rfl (hb hby at_69) rfl ?_
            exact kt
          obtain ⟨_, _, ⟨T328, L328, k328c, n328⟩, -, X328, ⟨Lc328, hQ328, l328, y328, z328⟩, st328⟩ := Jvm.LawKit.callS X142 hx (y := (⟨"com/example/ruleward/ruleward/rules/Operation", "of", "(C)Lcom/example/ruleward/ruleward/rules/Operation;"⟩ : MethodName)) hown (mvT hZ (hw _ (List.mem_of_getElem? (i := 2) rfl))) (mvT hZ (hw _ (List.mem_of_getElem? (i := 3) rfl))) (mvT hZ (hw _ (List.mem_of_getElem? (i := 4) rfl))) (mvT hZ (hw _ (List.mem_of_getElem? (i := 5) rfl))) (by decide) (backOf (W := 0) (rmF l Z a0 hw [] z277 aV kc aC aR aU aD h142 n0 Z142 F151 F145 F146 F147 F148 F149 F150) hZ (hw _ (List.mem_of_getElem? (i := 5) rfl)) (hw _ (List.mem_of_getElem? (i := 4) rfl)) (by decide) (by decide)) (g := (mkF m 70 #[.val (.int p1), .val (.int p2), .val (.ref b2), .val (.int z277), .unset, .unset] [(.int z277)])) rfl (by rw [hml]; rfl) (argsL := [(.int z277)]) (rest := []) (lenOf own_pd1 rfl) rfl (by show 2 * 0 + _ ≤ _; exact Nat.le_of_eq rfl) (hb hby at_70) (fun _ _ => ⟨rfl, e142, (by decide : 1 + 1 ≤ _), (by decide : 8 + 4 ≤ _)⟩)
          dsimp only [Pt.U, Pt.locs, Pt.cells, Pt.slots] at X328 l328 y328 z328 st328 hQ328
          subst l328 y328 z328
          obtain ⟨hv328, N328q, K328k⟩ := hQ328
          have N328 := Fr.app N142 N328q
          rw [show own_op z277 aC aR aU aD = (.ref aU) from by unfold own_op; rw [if_neg hk67_280, if_neg hk82_303, if_pos hk85_326]] at hv328
          subst hv328
          have F329 := F144.keep K328k all0
          have F330 := F145.keep K328k nin0
          have F331 := F146.keep K328k
          have F332 := F147.keep K328k nin0
          have F333 := F148.keep K328k nin0
          have F334 := F149.keep K328k nin0
          have F335 := F150.keep K328k nin0
          have F336 := Sta.ext F329.2 R_aV
          have F337 := Sta.ext F329.2 R_aC
          have F338 := Sta.ext F329.2 R_aR
          have F339 := Sta.ext F329.2 R_aU
          have F340 := Sta.ext F329.2 R_aD
          have F341 := F143.keep K328k nin0
          have Z342 : n0 ≤ T328.heap.size := Nat.le_trans Z142 K328k.1
          have K342 : Keep h0 T328.heap [] := K142.trans K328k all0
          have k343 : ∀ t, Steps p.tables e below (T328.setTop (mkF m 73 #[.val (.int p1), .val (.int p2), .val (.ref b2), .val (.int z277), .unset, .unset] [(.ref aU)])) t → Steps p.tables e below (s₁.setTop (entryFrame m #[(.int p1), (.int p2)] maxLocals)) t := fun t kt => k327 t (st328 t kt)
          have k344 : ∀ t, Steps p.tables e below (T328.setTop (mkF m 76 #[.val (.int p1), .val (.int p2), .val (.ref b2), .val (.int z277), .val (.ref aU), .unset] [(.int z277)])) t → Steps p.tables e below (s₁.setTop (entryFrame m #[(.int p1), (.int p2)] maxLocals)) t := by
            intro t kt
            refine k343 t ?_
            show Steps p.tables e below (T328.setTop (mkF m 73 #[.val (.int p1), .val (.int p2), .val (.ref b2), .val (.int z277), .unset, .unset] [(.ref aU)])) t
            refine XS.astore X328.here hx rfl (hb hby at_73) rfl rfl (l' := #[.val (.int p1), .val (.int p2), .val (.ref b2), .val (.int z277), .val (.ref aU), .unset]) rfl ?_
            show Steps p.tables e below (T328.setTop (mkF m 75 #[.val (.int p1), .val (.int p2), .val (.ref b2), .val (.int z277), .val (.ref aU), .unset] [])) t
            refine XS.iloadN X328.here hx rfl (hb hby at_75) rfl ?_
            exact kt
          obtain ⟨_, _, ⟨T345, L345, k345c, n345⟩, -, X345, ⟨Lc345, hQ345, l345, y345, z345⟩, st345⟩ := Jvm.LawKit.callS X328 hx (y := (⟨"com/example/ruleward/ruleward/rules/OperationOfPinLaw", "expected", "(C)Lcom/example/ruleward/ruleward/rules/Operation;"⟩ : MethodName)) hown (mvT hZ (hw _ (List.mem_of_getElem? (i := 27) rfl))) (mvT hZ (hw _ (List.mem_of_getElem? (i := 28) rfl))) (mvT hZ (hw _ (List.mem_of_getElem? (i := 29) rfl))) (mvT hZ (hw _ (List.mem_of_getElem? (i := 30) rfl))) (by decide) (backOf (W := 0) (rmE l Z a0 hw [] z277 aC aR aU aD T328.heap n0 Z342 F337 F338 F339 F340) hZ (hw _ (List.mem_of_getElem? (i := 30) rfl)) (hw _ (List.mem_of_getElem? (i := 29) rfl)) (by decide) (by decide)) (g := (mkF m 76 #[.val (.int p1), .val (.int p2), .val (.ref b2), .val (.int z277), .val (.ref aU), .unset] [(.int z277)])) rfl (by rw [hml]; rfl) (argsL := [(.int z277)]) (rest := []) (lenOf own_pd1 rfl) rfl (by show 2 * 0 + _ ≤ _; exact Nat.le_of_eq rfl) (hb hby at_76) (fun _ _ => ⟨rfl, rfl, (by decide : 2 + 0 ≤ _), (by decide : 12 + 0 ≤ _)⟩)
          dsimp only [Pt.U, Pt.locs, Pt.cells, Pt.slots] at X345 l345 y345 z345 st345 hQ345
          subst l345 y345 z345
          obtain ⟨hv345, N345q, e345⟩ := hQ345
          have N345 := Fr.app N328 N345q
          rw [show own_op z277 aC aR aU aD = (.ref aU) from by unfold own_op; rw [if_neg hk67_280, if_neg hk82_303, if_pos hk85_326]] at hv345
          subst hv345
          have k346 : ∀ t, Steps p.tables e below (T345.setTop (mkF m 79 #[.val (.int p1), .val (.int p2), .val (.ref b2), .val (.int z277), .val (.ref aU), .unset] [(.ref aU)])) t → Steps p.tables e below (s₁.setTop (entryFrame m #[(.int p1), (.int p2)] maxLocals)) t := fun t kt => k344 t (st345 t kt)
          have k348 : ∀ t, Steps p.tables e below (T345.setTop (mkF m 93 #[.val (.int p1), .val (.int p2), .val (.ref b2), .val (.int z277), .val (.ref aU), .val (.ref aU)] [(.int (1 : Int32))])) t → Steps p.tables e below (s₁.setTop (entryFrame m #[(.int p1), (.int p2)] maxLocals)) t := by
            intro t kt
            refine k346 t ?_
            show Steps p.tables e below (T345.setTop (mkF m 79 #[.val (.int p1), .val (.int p2), .val (.ref b2), .val (.int z277), .val (.ref aU), .unset] [(.ref aU)])) t
            refine XS.astore X345.here hx rfl (hb hby at_79) rfl rfl (l' := #[.val (.int p1), .val (.int p2), .val (.ref b2), .val (.int z277), .val (.ref aU), .val (.ref aU)]) rfl ?_
            show Steps p.tables e below (T345.setTop (mkF m 81 #[.val (.int p1), .val (.int p2), .val (.ref b2), .val (.int z277), .val (.ref aU), .val (.ref aU)] [])) t
            refine XS.aload X345.here hx rfl (hb hby at_81) rfl rfl ?_
            show Steps p.tables e below (T345.setTop (mkF m 83 #[.val (.int p1), .val (.int p2), .val (.ref b2), .val (.int z277), .val (.ref aU), .val (.ref aU)] [(.ref aU)])) t
            refine XS.aload X345.here hx rfl (hb hby at_83) rfl rfl ?_
            show Steps p.tables e below (T345.setTop (mkF m 85 #[.val (.int p1), .val (.int p2), .val (.ref b2), .val (.int z277), .val (.ref aU), .val (.ref aU)] [(.ref aU), (.ref aU)])) t
            refine Jvm.RoadKit.acmp (g := (mkF m 85 #[.val (.int p1), .val (.int p2), .val (.ref b2), .val (.int z277), .val (.ref aU), .val (.ref aU)] [(.ref aU), (.ref aU)])) X345 hx rfl rfl rfl (pc0 := 85) (pc' := 88) (same := true) rfl (hb hby at_85) rfl (decide_eq_true rfl) (by decide) (by decide) ?_
            show Steps p.tables e below (T345.setTop (mkF m 88 #[.val (.int p1), .val (.int p2), .val (.ref b2), .val (.int z277), .val (.ref aU), .val (.ref aU)] [])) t
            refine XS.iconst X345.here hx rfl (hb hby at_88) ?_
            show Steps p.tables e below (T345.setTop (mkF m 89 #[.val (.int p1), .val (.int p2), .val (.ref b2), .val (.int z277), .val (.ref aU), .val (.ref aU)] [(.int (1 : Int32))])) t
            refine XS.goto X345.here hx rfl (pc0 := 89) (pc' := 93) rfl (hb hby at_89) (by decide) (by decide) ?_
            exact kt
          obtain ⟨fs, hr, hrun, hended, hW, hsame⟩ := X345.leave (v := some (.int (1 : Int32))) (fun h => by rw [Bd.returns] at h; cases h)
          refine ⟨_, _, k348 _ ?_, hrun, hended, _, _, rfl, ?_, ⟨_, rfl⟩, hW, hsame.mono (by decide) (by decide)⟩
          · show Steps p.tables e below (T345.setTop (mkF m 93 #[.val (.int p1), .val (.int p2), .val (.ref b2), .val (.int z277), .val (.ref aU), .val (.ref aU)] [(.int (1 : Int32))])) _
            exact retN X345 hx (t := .boolean) Bd.returns (by simp) (hb hby at_93) hr
          · show Q0 Z p1 p2 aV kc aC aR aU aD h0 n0 _ T345.heap _
            rw [e345]
            exact ⟨rfl, N345⟩
        · by_cases hk68_349 : z277 = (68 : Int32)
          · have k350 : ∀ t, Steps p.tables e below (T142.setTop (mkF m 70 #[.val (.int p1), .val (.int p2), .val (.ref b2), .val (.int z277), .unset, .unset] [(.int z277)])) t → Steps p.tables e below (s₁.setTop (entryFrame m #[(.int p1), (.int p2)] maxLocals)) t := by
              intro t kt
              refine k279 t ?_
              show Steps p.tables e below (T142.setTop (mkF m 69 #[.val (.int p1), .val (.int p2), .val (.ref b2), .val (.int z277), .unset, .unset] [])) t
              refine XS.iloadN X142.here hx rfl (hb hby at_69) rfl ?_
              exact kt
            obtain ⟨_, _, ⟨T351, L351, k351c, n351⟩, -, X351, ⟨Lc351, hQ351, l351, y351, z351⟩, st351⟩ := Jvm.LawKit.callS X142 hx (y := (⟨"com/example/ruleward/ruleward/rules/Operation", "of", "(C)Lcom/example/ruleward/ruleward/rules/Operation;"⟩ : MethodName)) hown (mvT hZ (hw _ (List.mem_of_getElem? (i := 2) rfl))) (mvT hZ (hw _ (List.mem_of_getElem? (i := 3) rfl))) (mvT hZ (hw _ (List.mem_of_getElem? (i := 4) rfl))) (mvT hZ (hw _ (List.mem_of_getElem? (i := 5) rfl))) (by decide) (backOf (W := 0) (rmF l Z a0 hw [] z277 aV kc aC aR aU aD h142 n0 Z142 F151 F145 F146 F147 F148 F149 F150) hZ (hw _ (List.mem_of_getElem? (i := 5) rfl)) (hw _ (List.mem_of_getElem? (i := 4) rfl)) (by decide) (by decide)) (g := (mkF m 70 #[.val (.int p1), .val (.int p2), .val (.ref b2), .val (.int z277), .unset, .unset] [(.int z277)])) rfl (by rw [hml]; rfl) (argsL := [(.int z277)]) (rest := []) (lenOf own_pd1 rfl) rfl (by show 2 * 0 + _ ≤ _; exact Nat.le_of_eq rfl) (hb hby at_70) (fun _ _ => ⟨rfl, e142, (by decide : 1 + 1 ≤ _), (by decide : 8 + 4 ≤ _)⟩)
            dsimp only [Pt.U, Pt.locs, Pt.cells, Pt.slots] at X351 l351 y351 z351 st351 hQ351
            subst l351 y351 z351
            obtain ⟨hv351, N351q, K351k⟩ := hQ351
            have N351 := Fr.app N142 N351q
            rw [show own_op z277 aC aR aU aD = (.ref aD) from by unfold own_op; rw [if_neg hk67_280, if_neg hk82_303, if_neg hk85_326, if_pos hk68_349]] at hv351
            subst hv351
            have F352 := F144.keep K351k all0
            have F353 := F145.keep K351k nin0
            have F354 := F146.keep K351k
            have F355 := F147.keep K351k nin0
            have F356 := F148.keep K351k nin0
            have F357 := F149.keep K351k nin0
            have F358 := F150.keep K351k nin0
            have F359 := Sta.ext F352.2 R_aV
            have F360 := Sta.ext F352.2 R_aC
            have F361 := Sta.ext F352.2 R_aR
            have F362 := Sta.ext F352.2 R_aU
            have F363 := Sta.ext F352.2 R_aD
            have F364 := F143.keep K351k nin0
            have Z365 : n0 ≤ T351.heap.size := Nat.le_trans Z142 K351k.1
            have K365 : Keep h0 T351.heap [] := K142.trans K351k all0
            have k366 : ∀ t, Steps p.tables e below (T351.setTop (mkF m 73 #[.val (.int p1), .val (.int p2), .val (.ref b2), .val (.int z277), .unset, .unset] [(.ref aD)])) t → Steps p.tables e below (s₁.setTop (entryFrame m #[(.int p1), (.int p2)] maxLocals)) t := fun t kt => k350 t (st351 t kt)
            have k367 : ∀ t, Steps p.tables e below (T351.setTop (mkF m 76 #[.val (.int p1), .val (.int p2), .val (.ref b2), .val (.int z277), .val (.ref aD), .unset] [(.int z277)])) t → Steps p.tables e below (s₁.setTop (entryFrame m #[(.int p1), (.int p2)] maxLocals)) t := by
              intro t kt
              refine k366 t ?_
              show Steps p.tables e below (T351.setTop (mkF m 73 #[.val (.int p1), .val (.int p2), .val (.ref b2), .val (.int z277), .unset, .unset] [(.ref aD)])) t
              refine XS.astore X351.here hx rfl (hb hby at_73) rfl rfl (l' := #[.val (.int p1), .val (.int p2), .val (.ref b2), .val (.int z277), .val (.ref aD), .unset]) rfl ?_
              show Steps p.tables e below (T351.setTop (mkF m 75 #[.val (.int p1), .val (.int p2), .val (.ref b2), .val (.int z277), .val (.ref aD), .unset] [])) t
              refine XS.iloadN X351.here hx rfl (hb hby at_75) rfl ?_
              exact kt
            obtain ⟨_, _, ⟨T368, L368, k368c, n368⟩, -, X368, ⟨Lc368, hQ368, l368, y368, z368⟩, st368⟩ := Jvm.LawKit.callS X351 hx (y := (⟨"com/example/ruleward/ruleward/rules/OperationOfPinLaw", "expected", "(C)Lcom/example/ruleward/ruleward/rules/Operation;"⟩ : MethodName)) hown (mvT hZ (hw _ (List.mem_of_getElem? (i := 27) rfl))) (mvT hZ (hw _ (List.mem_of_getElem? (i := 28) rfl))) (mvT hZ (hw _ (List.mem_of_getElem? (i := 29) rfl))) (mvT hZ (hw _ (List.mem_of_getElem? (i := 30) rfl))) (by decide) (backOf (W := 0) (rmE l Z a0 hw [] z277 aC aR aU aD T351.heap n0 Z365 F360 F361 F362 F363) hZ (hw _ (List.mem_of_getElem? (i := 30) rfl)) (hw _ (List.mem_of_getElem? (i := 29) rfl)) (by decide) (by decide)) (g := (mkF m 76 #[.val (.int p1), .val (.int p2), .val (.ref b2), .val (.int z277), .val (.ref aD), .unset] [(.int z277)])) rfl (by rw [hml]; rfl) (argsL := [(.int z277)]) (rest := []) (lenOf own_pd1 rfl) rfl (by show 2 * 0 + _ ≤ _; exact Nat.le_of_eq rfl) (hb hby at_76) (fun _ _ => ⟨rfl, rfl, (by decide : 2 + 0 ≤ _), (by decide : 12 + 0 ≤ _)⟩)
            dsimp only [Pt.U, Pt.locs, Pt.cells, Pt.slots] at X368 l368 y368 z368 st368 hQ368
            subst l368 y368 z368
            obtain ⟨hv368, N368q, e368⟩ := hQ368
            have N368 := Fr.app N351 N368q
            rw [show own_op z277 aC aR aU aD = (.ref aD) from by unfold own_op; rw [if_neg hk67_280, if_neg hk82_303, if_neg hk85_326, if_pos hk68_349]] at hv368
            subst hv368
            have k369 : ∀ t, Steps p.tables e below (T368.setTop (mkF m 79 #[.val (.int p1), .val (.int p2), .val (.ref b2), .val (.int z277), .val (.ref aD), .unset] [(.ref aD)])) t → Steps p.tables e below (s₁.setTop (entryFrame m #[(.int p1), (.int p2)] maxLocals)) t := fun t kt => k367 t (st368 t kt)
            have k371 : ∀ t, Steps p.tables e below (T368.setTop (mkF m 93 #[.val (.int p1), .val (.int p2), .val (.ref b2), .val (.int z277), .val (.ref aD), .val (.ref aD)] [(.int (1 : Int32))])) t → Steps p.tables e below (s₁.setTop (entryFrame m #[(.int p1), (.int p2)] maxLocals)) t := by
              intro t kt
              refine k369 t ?_
              show Steps p.tables e below (T368.setTop (mkF m 79 #[.val (.int p1), .val (.int p2), .val (.ref b2), .val (.int z277), .val (.ref aD), .unset] [(.ref aD)])) t
              refine XS.astore X368.here hx rfl (hb hby at_79) rfl rfl (l' := #[.val (.int p1), .val (.int p2), .val (.ref b2), .val (.int z277), .val (.ref aD), .val (.ref aD)]) rfl ?_
              show Steps p.tables e below (T368.setTop (mkF m 81 #[.val (.int p1), .val (.int p2), .val (.ref b2), .val (.int z277), .val (.ref aD), .val (.ref aD)] [])) t
              refine XS.aload X368.here hx rfl (hb hby at_81) rfl rfl ?_
              show Steps p.tables e below (T368.setTop (mkF m 83 #[.val (.int p1), .val (.int p2), .val (.ref b2), .val (.int z277), .val (.ref aD), .val (.ref aD)] [(.ref aD)])) t
              refine XS.aload X368.here hx rfl (hb hby at_83) rfl rfl ?_
              show Steps p.tables e below (T368.setTop (mkF m 85 #[.val (.int p1), .val (.int p2), .val (.ref b2), .val (.int z277), .val (.ref aD), .val (.ref aD)] [(.ref aD), (.ref aD)])) t
              refine Jvm.RoadKit.acmp (g := (mkF m 85 #[.val (.int p1), .val (.int p2), .val (.ref b2), .val (.int z277), .val (.ref aD), .val (.ref aD)] [(.ref aD), (.ref aD)])) X368 hx rfl rfl rfl (pc0 := 85) (pc' := 88) (same := true) rfl (hb hby at_85) rfl (decide_eq_true rfl) (by decide) (by decide) ?_
              show Steps p.tables e below (T368.setTop (mkF m 88 #[.val (.int p1), .val (.int p2), .val (.ref b2), .val (.int z277), .val (.ref aD), .val (.ref aD)] [])) t
              refine XS.iconst X368.here hx rfl (hb hby at_88) ?_
              show Steps p.tables e below (T368.setTop (mkF m 89 #[.val (.int p1), .val (.int p2), .val (.ref b2), .val (.int z277), .val (.ref aD), .val (.ref aD)] [(.int (1 : Int32))])) t
              refine XS.goto X368.here hx rfl (pc0 := 89) (pc' := 93) rfl (hb hby at_89) (by decide) (by decide) ?_
              exact kt
            obtain ⟨fs, hr, hrun, hended, hW, hsame⟩ := X368.leave (v := some (.int (1 : Int32))) (fun h => by rw [Bd.returns] at h; cases h)
            refine ⟨_, _, k371 _ ?_, hrun, hended, _, _, rfl, ?_, ⟨_, rfl⟩, hW, hsame.mono (by decide) (by decide)⟩
            · show Steps p.tables e below (T368.setTop (mkF m 93 #[.val (.int p1), .val (.int p2), .val (.ref b2), .val (.int z277), .val (.ref aD), .val (.ref aD)] [(.int (1 : Int32))])) _
              exact retN X368 hx (t := .boolean) Bd.returns (by simp) (hb hby at_93) hr
            · show Q0 Z p1 p2 aV kc aC aR aU aD h0 n0 _ T368.heap _
              rw [e368]
              exact ⟨rfl, N368⟩
          · have k372 : ∀ t, Steps p.tables e below (T142.setTop (mkF m 70 #[.val (.int p1), .val (.int p2), .val (.ref b2), .val (.int z277), .unset, .unset] [(.int z277)])) t → Steps p.tables e below (s₁.setTop (entryFrame m #[(.int p1), (.int p2)] maxLocals)) t := by
              intro t kt
              refine k279 t ?_
              show Steps p.tables e below (T142.setTop (mkF m 69 #[.val (.int p1), .val (.int p2), .val (.ref b2), .val (.int z277), .unset, .unset] [])) t
              refine XS.iloadN X142.here hx rfl (hb hby at_69) rfl ?_
              exact kt
            obtain ⟨_, _, ⟨T373, L373, k373c, n373⟩, -, X373, ⟨Lc373, hQ373, l373, y373, z373⟩, st373⟩ := Jvm.LawKit.callS X142 hx (y := (⟨"com/example/ruleward/ruleward/rules/Operation", "of", "(C)Lcom/example/ruleward/ruleward/rules/Operation;"⟩ : MethodName)) hown (mvT hZ (hw _ (List.mem_of_getElem? (i := 2) rfl))) (mvT hZ (hw _ (List.mem_of_getElem? (i := 3) rfl))) (mvT hZ (hw _ (List.mem_of_getElem? (i := 4) rfl))) (mvT hZ (hw _ (List.mem_of_getElem? (i := 5) rfl))) (by decide) (backOf (W := 0) (rmF l Z a0 hw [] z277 aV kc aC aR aU aD h142 n0 Z142 F151 F145 F146 F147 F148 F149 F150) hZ (hw _ (List.mem_of_getElem? (i := 5) rfl)) (hw _ (List.mem_of_getElem? (i := 4) rfl)) (by decide) (by decide)) (g := (mkF m 70 #[.val (.int p1), .val (.int p2), .val (.ref b2), .val (.int z277), .unset, .unset] [(.int z277)])) rfl (by rw [hml]; rfl) (argsL := [(.int z277)]) (rest := []) (lenOf own_pd1 rfl) rfl (by show 2 * 0 + _ ≤ _; exact Nat.le_of_eq rfl) (hb hby at_70) (fun _ _ => ⟨rfl, e142, (by decide : 1 + 1 ≤ _), (by decide : 8 + 4 ≤ _)⟩)
            dsimp only [Pt.U, Pt.locs, Pt.cells, Pt.slots] at X373 l373 y373 z373 st373 hQ373
            subst l373 y373 z373
            obtain ⟨hv373, N373q, K373k⟩ := hQ373
            have N373 := Fr.app N142 N373q
            rw [show own_op z277 aC aR aU aD = .null from by unfold own_op; rw [if_neg hk67_280, if_neg hk82_303, if_neg hk85_326, if_neg hk68_349]] at hv373
            subst hv373
            have F374 := F144.keep K373k all0
            have F375 := F145.keep K373k nin0
            have F376 := F146.keep K373k
            have F377 := F147.keep K373k nin0
            have F378 := F148.keep K373k nin0
            have F379 := F149.keep K373k nin0
            have F380 := F150.keep K373k nin0
            have F381 := Sta.ext F374.2 R_aV
            have F382 := Sta.ext F374.2 R_aC
            have F383 := Sta.ext F374.2 R_aR
            have F384 := Sta.ext F374.2 R_aU
            have F385 := Sta.ext F374.2 R_aD
            have F386 := F143.keep K373k nin0
            have Z387 : n0 ≤ T373.heap.size := Nat.le_trans Z142 K373k.1
            have K387 : Keep h0 T373.heap [] := K142.trans K373k all0
            have k388 : ∀ t, Steps p.tables e below (T373.setTop (mkF m 73 #[.val (.int p1), .val (.int p2), .val (.ref b2), .val (.int z277), .unset, .unset] [.null])) t → Steps p.tables e below (s₁.setTop (entryFrame m #[(.int p1), (.int p2)] maxLocals)) t := fun t kt => k372 t (st373 t kt)
            have k389 : ∀ t, Steps p.tables e below (T373.setTop (mkF m 76 #[.val (.int p1), .val (.int p2), .val (.ref b2), .val (.int z277), .val .null, .unset] [(.int z277)])) t → Steps p.tables e below (s₁.setTop (entryFrame m #[(.int p1), (.int p2)] maxLocals)) t := by
              intro t kt
              refine k388 t ?_
              show Steps p.tables e below (T373.setTop (mkF m 73 #[.val (.int p1), .val (.int p2), .val (.ref b2), .val (.int z277), .unset, .unset] [.null])) t
              refine XS.astore X373.here hx rfl (hb hby at_73) rfl rfl (l' := #[.val (.int p1), .val (.int p2), .val (.ref b2), .val (.int z277), .val .null, .unset]) rfl ?_
              show Steps p.tables e below (T373.setTop (mkF m 75 #[.val (.int p1), .val (.int p2), .val (.ref b2), .val (.int z277), .val .null, .unset] [])) t
              refine XS.iloadN X373.here hx rfl (hb hby at_75) rfl ?_
              exact kt
            obtain ⟨_, _, ⟨T390, L390, k390c, n390⟩, -, X390, ⟨Lc390, hQ390, l390, y390, z390⟩, st390⟩ := Jvm.LawKit.callS X373 hx (y := (⟨"com/example/ruleward/ruleward/rules/OperationOfPinLaw", "expected", "(C)Lcom/example/ruleward/ruleward/rules/Operation;"⟩ : MethodName)) hown (mvT hZ (hw _ (List.mem_of_getElem? (i := 27) rfl))) (mvT hZ (hw _ (List.mem_of_getElem? (i := 28) rfl))) (mvT hZ (hw _ (List.mem_of_getElem? (i := 29) rfl))) (mvT hZ (hw _ (List.mem_of_getElem? (i := 30) rfl))) (by decide) (backOf (W := 0) (rmE l Z a0 hw [] z277 aC aR aU aD T373.heap n0 Z387 F382 F383 F384 F385) hZ (hw _ (List.mem_of_getElem? (i := 30) rfl)) (hw _ (List.mem_of_getElem? (i := 29) rfl)) (by decide) (by decide)) (g := (mkF m 76 #[.val (.int p1), .val (.int p2), .val (.ref b2), .val (.int z277), .val .null, .unset] [(.int z277)])) rfl (by rw [hml]; rfl) (argsL := [(.int z277)]) (rest := []) (lenOf own_pd1 rfl) rfl (by show 2 * 0 + _ ≤ _; exact Nat.le_of_eq rfl) (hb hby at_76) (fun _ _ => ⟨rfl, rfl, (by decide : 2 + 0 ≤ _), (by decide : 12 + 0 ≤ _)⟩)
            dsimp only [Pt.U, Pt.locs, Pt.cells, Pt.slots] at X390 l390 y390 z390 st390 hQ390
            subst l390 y390 z390
            obtain ⟨hv390, N390q, e390⟩ := hQ390
            have N390 := Fr.app N373 N390q
            rw [show own_op z277 aC aR aU aD = .null from by unfold own_op; rw [if_neg hk67_280, if_neg hk82_303, if_neg hk85_326, if_neg hk68_349]] at hv390
            subst hv390
            have k391 : ∀ t, Steps p.tables e below (T390.setTop (mkF m 79 #[.val (.int p1), .val (.int p2), .val (.ref b2), .val (.int z277), .val .null, .unset] [.null])) t → Steps p.tables e below (s₁.setTop (entryFrame m #[(.int p1), (.int p2)] maxLocals)) t := fun t kt => k389 t (st390 t kt)
            have k393 : ∀ t, Steps p.tables e below (T390.setTop (mkF m 93 #[.val (.int p1), .val (.int p2), .val (.ref b2), .val (.int z277), .val .null, .val .null] [(.int (1 : Int32))])) t → Steps p.tables e below (s₁.setTop (entryFrame m #[(.int p1), (.int p2)] maxLocals)) t := by
              intro t kt
              refine k391 t ?_
              show Steps p.tables e below (T390.setTop (mkF m 79 #[.val (.int p1), .val (.int p2), .val (.ref b2), .val (.int z277), .val .null, .unset] [.null])) t
              refine XS.astore X390.here hx rfl (hb hby at_79) rfl rfl (l' := #[.val (.int p1), .val (.int p2), .val (.ref b2), .val (.int z277), .val .null, .val .null]) rfl ?_
              show Steps p.tables e below (T390.setTop (mkF m 81 #[.val (.int p1), .val (.int p2), .val (.ref b2), .val (.int z277), .val .null, .val .null] [])) t
              refine XS.aload X390.here hx rfl (hb hby at_81) rfl rfl ?_
              show Steps p.tables e below (T390.setTop (mkF m 83 #[.val (.int p1), .val (.int p2), .val (.ref b2), .val (.int z277), .val .null, .val .null] [.null])) t
              refine XS.aload X390.here hx rfl (hb hby at_83) rfl rfl ?_
              show Steps p.tables e below (T390.setTop (mkF m 85 #[.val (.int p1), .val (.int p2), .val (.ref b2), .val (.int z277), .val .null, .val .null] [.null, .null])) t
              refine Jvm.RoadKit.acmp (g := (mkF m 85 #[.val (.int p1), .val (.int p2), .val (.ref b2), .val (.int z277), .val .null, .val .null] [.null, .null])) X390 hx rfl rfl rfl (pc0 := 85) (pc' := 88) (same := true) rfl (hb hby at_85) rfl (decide_eq_true rfl) (by decide) (by decide) ?_
              show Steps p.tables e below (T390.setTop (mkF m 88 #[.val (.int p1), .val (.int p2), .val (.ref b2), .val (.int z277), .val .null, .val .null] [])) t
              refine XS.iconst X390.here hx rfl (hb hby at_88) ?_
              show Steps p.tables e below (T390.setTop (mkF m 89 #[.val (.int p1), .val (.int p2), .val (.ref b2), .val (.int z277), .val .null, .val .null] [(.int (1 : Int32))])) t
              refine XS.goto X390.here hx rfl (pc0 := 89) (pc' := 93) rfl (hb hby at_89) (by decide) (by decide) ?_
              exact kt
            obtain ⟨fs, hr, hrun, hended, hW, hsame⟩ := X390.leave (v := some (.int (1 : Int32))) (fun h => by rw [Bd.returns] at h; cases h)
            refine ⟨_, _, k393 _ ?_, hrun, hended, _, _, rfl, ?_, ⟨_, rfl⟩, hW, hsame.mono (by decide) (by decide)⟩
            · show Steps p.tables e below (T390.setTop (mkF m 93 #[.val (.int p1), .val (.int p2), .val (.ref b2), .val (.int z277), .val .null, .val .null] [(.int (1 : Int32))])) _
              exact retN X390 hx (t := .boolean) Bd.returns (by simp) (hb hby at_93) hr
            · show Q0 Z p1 p2 aV kc aC aR aU aD h0 n0 _ T390.heap _
              rw [e390]
              exact ⟨rfl, N390⟩
theorem own_len {args : Array Value} {s : State} {t : Term} {x : Addr} {c : Cell} {n : Int32} (ht : t.eval args s none [] s = some (.ref x)) (ha : s.arrayAt? x = some c) (h : (Term.length t).eval args s none [] s = some (.int n)) : c.slots.size < 2 ^ 31 ∧ c.slots.size.toInt32 = n := by
  by_cases hl : c.slots.size < 2 ^ 31
  · rw [len_f ht ha hl] at h; exact ⟨hl, by simpa using h⟩
  · simp [Term.eval, ht, ha, hl] at h
theorem own_elem {args : Array Value} {s : State} {t u : Term} {x y : Addr} {c : Cell} {j : Int32} (ht : t.eval args s none [] s = some (.ref x)) (hu : u.eval args s none [] s = some (.ref y)) (ha : s.arrayAt? x = some c) (h : (Jvm.Cond.eq (.elem t (.int j)) u).value args s none s [] = some true) (hj : ¬ j < 0) : c.slots[j.toNatClampNeg]? = some (.ref y) := by
  have e := elem_f (a := .int j) (j := j) ht rfl ha hj
  simp only [Jvm.Cond.value, hu, e] at h
  cases hv : c.slots[j.toNatClampNeg]? with
  | none => simp [hv] at h
  | some v => rw [hv] at h; cases v <;> simp_all
set_option maxRecDepth 65536 in
set_option maxHeartbeats 40000000 in
theorem comes_1 {Post : Tables → Env → Array Value → State → Outcome → State → Prop} (hpost : ∀ tb e args s v u, (limb_1_1.after args s (.returned v) u = true ∧ limb_1_2.after args s (.returned v) u = true ∧ True) → FrameEnd s (.returned v) u (Jvm.fieldLocs frame_1_writes args s ++ Jvm.arrayLocs frame_1_arrays args s ++ Jvm.staticLocs frame_1_statics s) 16 128 → Post tb e args s (.returned v) u) :
    ArmFor flags0 classFile x code maxLocals ret World_1 tables_1 room_1 Calls_1 rest_1 Pre_1 Post := by
  intro l hfl _ _ p e ha hc hk s m args below hf hA hF happ hP
  obtain ⟨hcalls, hrest, hpre⟩ := hP
  obtain ⟨-, -, -, hnamed, -, -, -, hat⟩ := (Spec.applies_iff hf).mp happ
  obtain ⟨hg, hn⟩ := and_e (Cond.before_iff.mp (show (Jvm.Cond.and given_1 narrow_1).before args s = true from hpre))
  obtain ⟨gc, gr0⟩ := and_e hg
  obtain ⟨ga0, gr1⟩ := and_e gr0
  have ga1 := gr1
  obtain ⟨w0, w1, rfl⟩ : ∃ w0 w1 : Value, args = #[w0, w1] := by
    have hs : args.size = 2 := by simpa [Cond.value, given_1] using gc
    obtain ⟨L⟩ := args
    match L, hs with
    | [w0, w1], _ => exact ⟨w0, w1, rfl⟩
  have hw := fun d (hd : d ∈ tables_1) => atoms_spec (ws := Jvm.Cond.code x code maxLocals ret :: tables_1) hat d (List.mem_cons_of_mem _ hd)
  have hfit : Fit s := fun {y c} hc i hi => by
    obtain ⟨ha, rfl⟩ := Array.getElem?_eq_some_iff.mp hc
    have q := List.all_eq_true.mp ((Array.all_eq_true_iff_forall_mem.mp hF) _ (Array.getElem_mem ha)) i (List.mem_range.mpr hi)
    simpa [Array.getElem?_eq_getElem hi] using q
  obtain ⟨i0, ei0⟩ := is_v ga0
  obtain rfl : w0 = (.int i0) := Option.some.inj ei0
  obtain ⟨i1, ei1⟩ := is_v ga1
  obtain rfl : w1 = (.int i1) := Option.some.inj ei1
  obtain ⟨xAr, y0⟩ := and_e hn
  obtain ⟨xE, y1⟩ := and_e y0
  obtain ⟨xL, y2⟩ := and_e y1
  obtain ⟨x_aC, y3⟩ := and_e y2
  obtain ⟨el_aC, y4⟩ := and_e y3
  obtain ⟨x_aR, y5⟩ := and_e y4
  obtain ⟨el_aR, y6⟩ := and_e y5
  obtain ⟨x_aU, y7⟩ := and_e y6
  obtain ⟨el_aU, y8⟩ := and_e y7
  obtain ⟨x_aD, y9⟩ := and_e y8
  obtain ⟨el_aD, y10⟩ := and_e y9
  obtain ⟨o_aC, y11⟩ := and_e y10
  obtain ⟨o_aR, y12⟩ := and_e y11
  obtain ⟨o_aU, o_aD⟩ := and_e y12
  obtain ⟨aC, v_aC⟩ := exa_v x_aC
  have R_aC : Sta s s.heap "com/example/ruleward/ruleward/rules/Operation" "CREATE" "Lcom/example/ruleward/ruleward/rules/Operation;" (.ref aC) := Sta.start v_aC (Or.inr ⟨(hw _ (List.mem_of_getElem? (i := 4) rfl)), (hw _ (List.mem_of_getElem? (i := 18) rfl))⟩)
  have F_aC : Fld s s.heap aC "com/example/ruleward/ruleward/rules/Operation" "letter" "C" (.int (67 : Int32)) := Fld.start ((fld_at v_aC).symm.trans (Cond.eq_int (Cond.before_iff.mpr o_aC) rfl))
  obtain ⟨aR, v_aR⟩ := exa_v x_aR
  have R_aR : Sta s s.heap "com/example/ruleward/ruleward/rules/Operation" "READ" "Lcom/example/ruleward/ruleward/rules/Operation;" (.ref aR) := Sta.start v_aR (Or.inr ⟨(hw _ (List.mem_of_getElem? (i := 4) rfl)), (hw _ (List.mem_of_getElem? (i := 19) rfl))⟩)
  have F_aR : Fld s s.heap aR "com/example/ruleward/ruleward/rules/Operation" "letter" "C" (.int (82 : Int32)) := Fld.start ((fld_at v_aR).symm.trans (Cond.eq_int (Cond.before_iff.mpr o_aR) rfl))
  obtain ⟨aU, v_aU⟩ := exa_v x_aU
  have R_aU : Sta s s.heap "com/example/ruleward/ruleward/rules/Operation" "UPDATE" "Lcom/example/ruleward/ruleward/rules/Operation;" (.ref aU) := Sta.start v_aU (Or.inr ⟨(hw _ (List.mem_of_getElem? (i := 4) rfl)), (hw _ (List.mem_of_getElem? (i := 20) rfl))⟩)
  have F_aU : Fld s s.heap aU "com/example/ruleward/ruleward/rules/Operation" "letter" "C" (.int (85 : Int32)) := Fld.start ((fld_at v_aU).symm.trans (Cond.eq_int (Cond.before_iff.mpr o_aU) rfl))
  obtain ⟨aD, v_aD⟩ := exa_v x_aD
  have R_aD : Sta s s.heap "com/example/ruleward/ruleward/rules/Operation" "DELETE" "Lcom/example/ruleward/ruleward/rules/Operation;" (.ref aD) := Sta.start v_aD (Or.inr ⟨(hw _ (List.mem_of_getElem? (i := 4) rfl)), (hw _ (List.mem_of_getElem? (i := 21) rfl))⟩)
  have F_aD : Fld s s.heap aD "com/example/ruleward/ruleward/rules/Operation" "letter" "C" (.int (68 : Int32)) := Fld.start ((fld_at v_aD).symm.trans (Cond.eq_int (Cond.before_iff.mpr o_aD) rfl))
  obtain ⟨aV, v_aV⟩ := exa_v xE
  have R_aV : Sta s s.heap "com/example/ruleward/ruleward/rules/Operation" "$VALUES" "[Lcom/example/ruleward/ruleward/rules/Operation;" (.ref aV) := Sta.start v_aV (Or.inr ⟨(hw _ (List.mem_of_getElem? (i := 4) rfl)), (hw _ (List.mem_of_getElem? (i := 10) rfl))⟩)
  have EV : Exa s s.heap aV "[Lcom/example/ruleward/ruleward/rules/Operation;" := Exa.start v_aV xE
  obtain ⟨clV, ArV⟩ := Arr.start v_aV xAr
  have atV : s.arrayAt? aV = some clV := ArV.fin (Vm.Alike.refl _)
  have lenV := Cond.eq_int (Cond.before_iff.mpr xL) rfl
  obtain ⟨szV, zV⟩ : clV.slots.size < 2 ^ 31 ∧ clV.slots.size.toInt32 = (4 : Int32) := own_len v_aV atV lenV
  have h_aC : clV.slots[0]? = some (.ref aC) := own_elem (j := (0 : Int32)) v_aV v_aC atV el_aC (by decide)
  have h_aR : clV.slots[1]? = some (.ref aR) := own_elem (j := (1 : Int32)) v_aV v_aR atV el_aR (by decide)
  have h_aU : clV.slots[2]? = some (.ref aU) := own_elem (j := (2 : Int32)) v_aV v_aU atV el_aU (by decide)
  have h_aD : clV.slots[3]? = some (.ref aD) := own_elem (j := (3 : Int32)) v_aV v_aD atV el_aD (by decide)
  have AV : Arv s s.heap aV clV.cls (.object "com/example/ruleward/ruleward/rules/Operation") (4 : Int32) [(.ref aC), (.ref aR), (.ref aU), (.ref aD)] .null := Arv.start hfit ArV szV zV (by decide) rfl ⟨h_aC, h_aR, h_aU, h_aD, trivial⟩
  obtain ⟨n, o, h1, h2, h3, _, L, rfl, ⟨rfl, N⟩, hq⟩ := rm0 l s _ hw tables_1 i0 i1 aV clV.cls aC aR aU aD s.heap s.heap.size (Nat.le_refl _) (Old.start s) AV EV F_aC F_aR F_aU F_aD R_aV R_aC R_aR R_aU R_aD p e ha hc hk s m _ below hf ((Spec.applies_iff_loose hf).mp happ).1 ⟨rfl, State.Warmed39.refl s, rfl⟩ trivial
  refine ⟨n, _, h1, h2, h3, hpost _ _ _ _ _ _ ⟨Cond.after_iff.mpr rfl, Cond.after_iff.mpr (eq_i res_at (Term.int_eval (1)) rfl), trivial⟩ ⟨hq.1, hq.2.1, (hq.2.2.sift fun y hy => Or.inr (N y hy)).mono (by decide) (by decide)⟩⟩
theorem main_1_1 : Claimed_1_1 := comes_1 fun _ _ _ _ _ _ h hF => ⟨h.1, hF⟩
theorem main_1_2 : Claimed_1_2 := comes_1 fun _ _ _ _ _ _ h hF => ⟨h.2.1, hF⟩
end Jvm.Pilot.@@N@@
namespace Jvm.Pilot.@@N@@
open Jvm Jvm.ClassFile Sem Op Lib Jvm.Free Jvm.Stand Jvm.Pilot.@@N@@.Jvm.D
/-! MADE BY PROGRAM (witnessworld.py) out of the Statement's table words and the real class files: 15 classes; the members and pool entries that the words name. The judged class is class 1, her method 1. -/
namespace start1
open Jvm.ClassFile
def u (s : String) : CpInfo := .utf8 (stringToUtf16 s)
/-- a pool by its gaps: so many unusable entries, then the entry; so many at the end -/
def gap : Nat → List CpInfo → List CpInfo
  | 0, r => r
  | n + 1, r => .unusable :: gap n r
def poolList (es : List (Nat × CpInfo)) (last : Nat) : List CpInfo := es.foldr (fun e r => gap e.1 (e.2 :: r)) (gap last [])
def pool (es : List (Nat × CpInfo)) (last : Nat) : Array CpInfo := ⟨poolList es last⟩
def fileOf (pool : Array CpInfo) (this : Nat) (attrs : Array Attribute := #[]) (ms : Array MethodInfo := #[]) (fl : Nat := 33) (sup : Nat := 0) (ifs : Array Nat := #[]) (fds : Array FieldInfo := #[]) : ClassFile where
  minorVersion := 0
  majorVersion := 65
  constantPool := pool
  accessFlags := fl
  thisClass := this
  superClass := sup
  interfaces := ifs
  fields := fds
  methods := ms
  attributes := attrs
def plain (name : String) (sup : Option ClassId) : Class where
  name := name
  kind := .ordinary
  loader := none
  accessFlags := 33
  super := sup
  interfaces := #[]
  cf := none
  fields := #[]
  methods := #[]
  instanceTypes := #[]
  staticTypes := #[]
  resolved := #[]
  callSites := []
  init := .initialized
  statics := none
  mirror := none

def pool0 : Array CpInfo := pool [(5, u "<init>"), (0, u "()V"), (1, .class_ 10), (1, u "java/lang/Object"), (85, u "clone"), (0, u "()Ljava/lang/Object;")] 26

def k0m0 : Method := { name := "<init>", desc := "()V", sig := { parameters := [], returnType := none }, accessFlags := 1, code := none }
def k0m1 : Method := { name := "clone", desc := "()Ljava/lang/Object;", sig := { parameters := [], returnType := some (.object "java/lang/Object") }, accessFlags := 260, code := none }
/-- java/lang/Object -/
def k0 : Class := { plain "java/lang/Object" none with
  accessFlags := 33
  interfaces := #[]
  cf := some (fileOf pool0 8 #[] #[{ accessFlags := 1, nameIndex := 5, descriptorIndex := 6, attributes := #[] }, { accessFlags := 260, nameIndex := 96, descriptorIndex := 97, attributes := #[] }] 33 0 #[] #[])
  fields := #[]
  methods := #[k0m0, k0m1]
  instanceTypes := #[]
  staticTypes := #[]
  resolved := Array.replicate 124 none
  statics := none }

def pool1 : Array CpInfo := pool [(2, .class_ 4), (1, u "java/lang/Object"), (0, u "<init>"), (0, u "()V"), (0, .integer 65535), (0, .methodref 9 10), (0, .class_ 11), (0, .nameAndType 12 13), (0, u "com/example/ruleward/ruleward/rules/Operation"), (0, u "of"), (0, u "(C)Lcom/example/ruleward/ruleward/rules/Operation;"), (0, .methodref 15 16), (0, .class_ 17), (0, .nameAndType 18 13), (0, u "com/example/ruleward/ruleward/rules/OperationOfPinLaw"), (0, u "expected"), (0, .fieldref 9 20), (0, .nameAndType 21 22), (0, u "CREATE"), (0, u "Lcom/example/ruleward/ruleward/rules/Operation;"), (0, .fieldref 9 24), (0, .nameAndType 25 22), (0, u "READ"), (0, .fieldref 9 27), (0, .nameAndType 28 22), (0, u "UPDATE"), (0, .fieldref 9 30), (0, .nameAndType 31 22), (0, u "DELETE"), (2, u "law"), (0, u "(II)Z")] 5

def k1m0 : Method := { name := "<init>", desc := "()V", sig := { parameters := [], returnType := none }, accessFlags := 1, code := none }
def k1c1 : Code := { maxStack := 4, maxLocals := 6, code := code, exceptionTable := #[], attributes := #[] }
def k1m1 : Method := { name := "law", desc := "(II)Z", sig := { parameters := [.int, .int], returnType := some .boolean }, accessFlags := 9, code := some k1c1 }
def k1c2 : Code := { maxStack := 2, maxLocals := 1, code := method_3_code, exceptionTable := #[], attributes := #[] }
def k1m2 : Method := { name := "expected", desc := "(C)Lcom/example/ruleward/ruleward/rules/Operation;", sig := { parameters := [.char], returnType := some (.object "com/example/ruleward/ruleward/rules/Operation") }, accessFlags := 10, code := some k1c2 }
/-- com/example/ruleward/ruleward/rules/OperationOfPinLaw -/
def k1 : Class := { plain "com/example/ruleward/ruleward/rules/OperationOfPinLaw" (some 0) with
  accessFlags := 49
  interfaces := #[]
  cf := some (fileOf pool1 15 #[] #[{ accessFlags := 1, nameIndex := 5, descriptorIndex := 6, attributes := #[] }, { accessFlags := 9, nameIndex := 34, descriptorIndex := 35, attributes := #[] }, { accessFlags := 10, nameIndex := 18, descriptorIndex := 13, attributes := #[] }] 49 2 #[] #[])
  fields := #[]
  methods := #[k1m0, k1m1, k1m2]
  instanceTypes := #[]
  staticTypes := #[]
  resolved := Array.replicate 41 none
  statics := none }

def pool2 : Array CpInfo := pool [(1, .class_ 2), (0, u "java/lang/constant/Constable"), (0, .class_ 4), (0, u "java/lang/Object")] 6

/-- java/lang/constant/Constable -/
def k2 : Class := { plain "java/lang/constant/Constable" (some 0) with
  accessFlags := 1537
  interfaces := #[]
  cf := some (fileOf pool2 1 #[] #[] 1537 3 #[] #[])
  fields := #[]
  methods := #[]
  instanceTypes := #[]
  staticTypes := #[]
  resolved := Array.replicate 11 none
  statics := none }

def pool3 : Array CpInfo := pool [(1, .class_ 2), (0, u "java/lang/Comparable"), (0, .class_ 4), (0, u "java/lang/Object")] 7

/-- java/lang/Comparable -/
def k3 : Class := { plain "java/lang/Comparable" (some 0) with
  accessFlags := 1537
  interfaces := #[]
  cf := some (fileOf pool3 1 #[] #[] 1537 3 #[] #[])
  fields := #[]
  methods := #[]
  instanceTypes := #[]
  staticTypes := #[]
  resolved := Array.replicate 12 none
  statics := none }

def pool4 : Array CpInfo := pool [(1, .class_ 2), (0, u "java/io/Serializable"), (0, .class_ 4), (0, u "java/lang/Object")] 2

/-- java/io/Serializable -/
def k4 : Class := { plain "java/io/Serializable" (some 0) with
  accessFlags := 1537
  interfaces := #[]
  cf := some (fileOf pool4 1 #[] #[] 1537 3 #[] #[])
  fields := #[]
  methods := #[]
  instanceTypes := #[]
  staticTypes := #[]
  resolved := Array.replicate 7 none
  statics := none }

def pool5 : Array CpInfo := pool [(2, .class_ 4), (1, u "java/lang/Enum"), (0, u "name"), (0, u "Ljava/lang/String;"), (2, u "ordinal"), (0, u "I"), (1, .class_ 14), (1, u "java/lang/Object"), (4, u "hash"), (86, .class_ 108), (1, u "java/lang/Enum$EnumDesc"), (2, .class_ 112), (0, u "java/lang/constant/Constable"), (0, .class_ 114), (0, u "java/lang/Comparable"), (0, .class_ 116), (0, u "java/io/Serializable")] 87

/-- java/lang/Enum -/
def k5 : Class := { plain "java/lang/Enum" (some 0) with
  accessFlags := 1057
  interfaces := #[2, 3, 4]
  cf := some (fileOf pool5 2 #[.nestMembers #[106]] #[] 1057 12 #[111, 113, 115] #[{ accessFlags := 18, nameIndex := 5, descriptorIndex := 6, attributes := #[] }, { accessFlags := 18, nameIndex := 9, descriptorIndex := 10, attributes := #[] }, { accessFlags := 2, nameIndex := 19, descriptorIndex := 10, attributes := #[] }])
  fields := #[{ name := "name", type := (.object "java/lang/String"), accessFlags := 18, slot := 0, constantValue := 0 }, { name := "ordinal", type := .int, accessFlags := 18, slot := 1, constantValue := 0 }, { name := "hash", type := .int, accessFlags := 2, slot := 2, constantValue := 0 }]
  methods := #[]
  instanceTypes := #[(.object "java/lang/String"), .int, .int]
  staticTypes := #[]
  resolved := Array.replicate 204 none
  statics := none }

def pool6 : Array CpInfo := pool [(1, .class_ 2), (0, u "com/example/ruleward/ruleward/rules/Operation"), (2, u "CREATE"), (0, u "Lcom/example/ruleward/ruleward/rules/Operation;"), (2, u "READ"), (2, u "UPDATE"), (2, u "DELETE"), (0, .fieldref 1 17), (0, .nameAndType 18 19), (0, u "$VALUES"), (0, u "[Lcom/example/ruleward/ruleward/rules/Operation;"), (0, .methodref 21 22), (0, .class_ 19), (0, .nameAndType 23 24), (0, u "clone"), (0, u "()Ljava/lang/Object;"), (1, .class_ 28), (1, u "java/lang/Enum"), (6, .fieldref 1 36), (0, .nameAndType 37 38), (0, u "letter"), (0, u "C"), (0, .methodref 1 40), (0, .nameAndType 41 42), (0, u "values"), (0, u "()[Lcom/example/ruleward/ruleward/rules/Operation;"), (17, u "of"), (0, u "(C)Lcom/example/ruleward/ruleward/rules/Operation;")] 6

def k6c0 : Code := { maxStack := 1, maxLocals := 0, code := prog_66_method_1_code, exceptionTable := #[], attributes := #[] }
def k6m0 : Method := { name := "values", desc := "()[Lcom/example/ruleward/ruleward/rules/Operation;", sig := { parameters := [], returnType := some (.array (.object "com/example/ruleward/ruleward/rules/Operation")) }, accessFlags := 9, code := some k6c0 }
def k6c1 : Code := { maxStack := 2, maxLocals := 6, code := prog_66_method_5_code, exceptionTable := #[], attributes := #[] }
def k6m1 : Method := { name := "of", desc := "(C)Lcom/example/ruleward/ruleward/rules/Operation;", sig := { parameters := [.char], returnType := some (.object "com/example/ruleward/ruleward/rules/Operation") }, accessFlags := 9, code := some k6c1 }
/-- com/example/ruleward/ruleward/rules/Operation -/
def k6 : Class := { plain "com/example/ruleward/ruleward/rules/Operation" (some 5) with
  accessFlags := 16433
  interfaces := #[]
  cf := some (fileOf pool6 1 #[] #[{ accessFlags := 9, nameIndex := 41, descriptorIndex := 42, attributes := #[] }, { accessFlags := 9, nameIndex := 60, descriptorIndex := 61, attributes := #[] }] 16433 26 #[] #[{ accessFlags := 16409, nameIndex := 5, descriptorIndex := 6, attributes := #[] }, { accessFlags := 16409, nameIndex := 9, descriptorIndex := 6, attributes := #[] }, { accessFlags := 16409, nameIndex := 12, descriptorIndex := 6, attributes := #[] }, { accessFlags := 16409, nameIndex := 15, descriptorIndex := 6, attributes := #[] }, { accessFlags := 18, nameIndex := 37, descriptorIndex := 38, attributes := #[] }, { accessFlags := 4122, nameIndex := 18, descriptorIndex := 19, attributes := #[] }])
  fields := #[{ name := "CREATE", type := (.object "com/example/ruleward/ruleward/rules/Operation"), accessFlags := 16409, slot := 0, constantValue := 0 }, { name := "READ", type := (.object "com/example/ruleward/ruleward/rules/Operation"), accessFlags := 16409, slot := 1, constantValue := 0 }, { name := "UPDATE", type := (.object "com/example/ruleward/ruleward/rules/Operation"), accessFlags := 16409, slot := 2, constantValue := 0 }, { name := "DELETE", type := (.object "com/example/ruleward/ruleward/rules/Operation"), accessFlags := 16409, slot := 3, constantValue := 0 }, { name := "letter", type := .char, accessFlags := 18, slot := 3, constantValue := 0 }, { name := "$VALUES", type := (.array (.object "com/example/ruleward/ruleward/rules/Operation")), accessFlags := 4122, slot := 4, constantValue := 0 }]
  methods := #[k6m0, k6m1]
  instanceTypes := #[(.object "java/lang/String"), .int, .int, .char]
  staticTypes := #[(.object "com/example/ruleward/ruleward/rules/Operation"), (.object "com/example/ruleward/ruleward/rules/Operation"), (.object "com/example/ruleward/ruleward/rules/Operation"), (.object "com/example/ruleward/ruleward/rules/Operation"), (.array (.object "com/example/ruleward/ruleward/rules/Operation"))]
  resolved := Array.replicate 68 none
  statics := some 0 }

def pool7 : Array CpInfo := pool [(1, .class_ 2), (0, u "java/lang/Cloneable"), (0, .class_ 4), (0, u "java/lang/Object")] 2

/-- java/lang/Cloneable -/
def k7 : Class := { plain "java/lang/Cloneable" (some 0) with
  accessFlags := 1537
  interfaces := #[]
  cf := some (fileOf pool7 1 #[] #[] 1537 3 #[] #[])
  fields := #[]
  methods := #[]
  instanceTypes := #[]
  staticTypes := #[]
  resolved := Array.replicate 7 none
  statics := none }

/-- the primitive byte -/
def k8 : Class := { plain "byte" none with kind := .primitive 'B', accessFlags := 0x411 }
/-- [B -/
def k9 : Class := { plain "[B" (some 0) with kind := .array 8 .byte, interfaces := #[7, 4], accessFlags := 1041 }

/-- the primitive char -/
def k10 : Class := { plain "char" none with kind := .primitive 'C', accessFlags := 0x411 }
/-- [C -/
def k11 : Class := { plain "[C" (some 0) with kind := .array 10 .char, interfaces := #[7, 4], accessFlags := 1041 }

/-- the primitive int -/
def k12 : Class := { plain "int" none with kind := .primitive 'I', accessFlags := 0x411 }
/-- [I -/
def k13 : Class := { plain "[I" (some 0) with kind := .array 12 .int, interfaces := #[7, 4], accessFlags := 1041 }

/-- [Lcom/example/ruleward/ruleward/rules/Operation; -/
def k14 : Class := { plain "[Lcom/example/ruleward/ruleward/rules/Operation;" (some 0) with kind := .array 6 (.object "com/example/ruleward/ruleward/rules/Operation"), interfaces := #[7, 4], accessFlags := 1041 }

def heap : Heap := #[{ cls := 6, slots := #[.ref 2, .ref 3, .ref 4, .ref 5, .ref 1], vm := .statics 6 },
  { cls := 14, slots := #[.ref 2, .ref 3, .ref 4, .ref 5], vm := .none },
  { cls := 6, slots := #[.null, .int 0, .int 0, .int 67], vm := .none },
  { cls := 6, slots := #[.null, .int 1, .int 0, .int 82], vm := .none },
  { cls := 6, slots := #[.null, .int 2, .int 0, .int 85], vm := .none },
  { cls := 6, slots := #[.null, .int 3, .int 0, .int 68], vm := .none }]
def classes : Array Class := #[k0, k1, k2, k3, k4, k5, k6, k7, k8, k9, k10, k11, k12, k13, k14]
def interned : List (Array UInt16 × Addr) := []
def slotsUsed : Nat := 25
def theMethod : MethodId := ⟨1, 1⟩
def args0 : Array Value := #[.int 5, .int 1]
def aboutOver (below : List Frame) : State where
  vm := { classes := classes, interned := interned.toArray }
  heap := heap
  slotsUsed := slotsUsed
  threads := #[{ frames := .invoking theMethod args0 :: below }]
def below0 : List Frame := [.native { method := ⟨0, 0⟩, args := #[] }]
def about1 : State := aboutOver below0
def p0 : Program := .bare "" "" ""
def e0 : Env := launch0.env 0 0 0
theorem w_frames : about1.frames = Frame.invoking theMethod args0 :: below0 := rfl
set_option maxRecDepth 65536 in
theorem w_args : argsFit about1.vm theMethod args0 = true := by decide +kernel
set_option maxRecDepth 65536 in
theorem w_heap : heapFits about1 = true := by decide +kernel
set_option maxRecDepth 65536 in
theorem w_runnable : about1.curStatus? = some .runnable := by decide +kernel
set_option maxRecDepth 65536 in
theorem w_alone : about1.alone = true := by decide +kernel
set_option maxRecDepth 65536 in
theorem w_named : about1.methodNamed? x = some theMethod := by decide +kernel
set_option maxRecDepth 65536 in
theorem w_hears : about1.hears theMethod below0 = true := by decide +kernel
set_option maxRecDepth 65536 in
theorem w_ripe : about1.ripe theMethod args0 below0 = true := by decide +kernel
theorem w_running : about1.status = .running := rfl
set_option maxRecDepth 65536 in
theorem w_room : about1.hasRoom e0.platform room_1 = true :=
  launch0.hasRoom_least _ room_1 (by decide +kernel) (by decide +kernel) (by decide +kernel) (by decide +kernel) (by decide +kernel) (by decide +kernel)
theorem allAtoms_all (ts : List Jvm.Cond) (a : Array Jvm.Value) (st : Jvm.State) : (allAtoms ts).before a st = ts.all (fun c => c.before a st) := by
  induction ts with
  | nil => rfl
  | cons c t ih =>
    show (Jvm.Cond.and c (allAtoms t)).before a st = _
    rw [Jvm.Cond.before_and, ih, List.all_cons]
def words1 : List Jvm.Cond := Jvm.Cond.code x code maxLocals ret :: tables_1
/-- a 'code' word, met by the world's own term for the bytes: nothing is compared byte by byte -/
theorem code_word {y : MethodName} {bytes : ByteArray} {mx : Nat} {rt : Option FieldType} {a : Array Value} {s : State} {m : MethodId} {meth : Method} {c : Code} (h1 : s.methodNamed? y = some m) (h2 : s.vm.method? m = some meth) (h3 : meth.code = some c) (h4 : c.code = bytes)
    (h5 : (c.maxLocals == mx && c.exceptionTable.isEmpty && decide (c.maxStack ≤ mostOperands) && decide (meth.sig.returnType = rt) && !meth.locks && decide (parseMethodDescriptor y.desc = some meth.sig)) = true) : (Jvm.Cond.code y bytes mx rt).before a s = true := by
  simp only [Bool.and_eq_true, beq_iff_eq, Bool.not_eq_true', decide_eq_true_eq] at h5
  obtain ⟨⟨⟨⟨⟨g1, g2⟩, g3⟩, g4⟩, g5⟩, g6⟩ := h5
  simp [Cond.before, Cond.holds, Cond.value, h1, h2, h3, h4, g1, g2, g3, g4, g5, g6]
def isCode : Jvm.Cond → Bool
  | .code _ _ _ _ => true
  | _ => false
theorem all_split {L : List Jvm.Cond} {P : Jvm.Cond → Bool} (h1 : L.all (fun c => isCode c || P c) = true) (h2 : ∀ c ∈ L.filter isCode, P c = true) : L.all P = true := by
  refine List.all_eq_true.mpr fun c hc => ?_
  have h := List.all_eq_true.mp h1 c hc
  rcases Bool.eq_false_or_eq_true (isCode c) with hi | hi
  · exact h2 c (List.mem_filter.mpr ⟨hc, hi⟩)
  · simpa [hi] using h
set_option maxRecDepth 65536 in
theorem w_c0 : (Jvm.Cond.code x code maxLocals ret).before args0 about1 = true := code_word (m := ⟨1, 1⟩) (meth := k1m1) (c := k1c1) (by decide +kernel) rfl rfl rfl (by decide +kernel)
set_option maxRecDepth 65536 in
theorem w_c1 : (Jvm.Cond.code ({ cls := "com/example/ruleward/ruleward/rules/Operation", name := "of", desc := "(C)Lcom/example/ruleward/ruleward/rules/Operation;" } : Jvm.MethodName) prog_66_method_5_code (6 : Nat) (Option.some (Jvm.ClassFile.FieldType.object "com/example/ruleward/ruleward/rules/Operation"))).before args0 about1 = true := code_word (m := ⟨6, 1⟩) (meth := k6m1) (c := k6c1) (by decide +kernel) rfl rfl rfl (by decide +kernel)
set_option maxRecDepth 65536 in
theorem w_c2 : (Jvm.Cond.code ({ cls := "com/example/ruleward/ruleward/rules/Operation", name := "values", desc := "()[Lcom/example/ruleward/ruleward/rules/Operation;" } : Jvm.MethodName) prog_66_method_1_code (0 : Nat) (Option.some (Jvm.ClassFile.FieldType.array (Jvm.ClassFile.FieldType.object "com/example/ruleward/ruleward/rules/Operation")))).before args0 about1 = true := code_word (m := ⟨6, 0⟩) (meth := k6m0) (c := k6c0) (by decide +kernel) rfl rfl rfl (by decide +kernel)
set_option maxRecDepth 65536 in
theorem w_c3 : (Jvm.Cond.code ({ cls := "com/example/ruleward/ruleward/rules/OperationOfPinLaw", name := "expected", desc := "(C)Lcom/example/ruleward/ruleward/rules/Operation;" } : Jvm.MethodName) method_3_code (1 : Nat) (Option.some (Jvm.ClassFile.FieldType.object "com/example/ruleward/ruleward/rules/Operation"))).before args0 about1 = true := code_word (m := ⟨1, 2⟩) (meth := k1m2) (c := k1c2) (by decide +kernel) rfl rfl rfl (by decide +kernel)
def codes1 : List Jvm.Cond := [Jvm.Cond.code x code maxLocals ret, Jvm.Cond.code ({ cls := "com/example/ruleward/ruleward/rules/Operation", name := "of", desc := "(C)Lcom/example/ruleward/ruleward/rules/Operation;" } : Jvm.MethodName) prog_66_method_5_code (6 : Nat) (Option.some (Jvm.ClassFile.FieldType.object "com/example/ruleward/ruleward/rules/Operation")), Jvm.Cond.code ({ cls := "com/example/ruleward/ruleward/rules/Operation", name := "values", desc := "()[Lcom/example/ruleward/ruleward/rules/Operation;" } : Jvm.MethodName) prog_66_method_1_code (0 : Nat) (Option.some (Jvm.ClassFile.FieldType.array (Jvm.ClassFile.FieldType.object "com/example/ruleward/ruleward/rules/Operation"))), Jvm.Cond.code ({ cls := "com/example/ruleward/ruleward/rules/OperationOfPinLaw", name := "expected", desc := "(C)Lcom/example/ruleward/ruleward/rules/Operation;" } : Jvm.MethodName) method_3_code (1 : Nat) (Option.some (Jvm.ClassFile.FieldType.object "com/example/ruleward/ruleward/rules/Operation"))]
set_option maxRecDepth 65536 in
theorem codes_eq : words1.filter isCode = codes1 := rfl
theorem w_codes : ∀ c ∈ words1.filter isCode, c.before args0 about1 = true := by
  rw [codes_eq]
  intro c hc
  simp only [codes1, List.mem_cons, List.not_mem_nil, or_false] at hc
  rcases hc with rfl | rfl | rfl | rfl
  · exact w_c0
  · exact w_c1
  · exact w_c2
  · exact w_c3
set_option maxRecDepth 65536 in
theorem w_t1 : (words1.take 24).all (fun c => isCode c || c.before args0 about1) = true := by decide +kernel
set_option maxRecDepth 65536 in
theorem w_t2 : (words1.drop 24).all (fun c => isCode c || c.before args0 about1) = true := by decide +kernel
theorem w_tables : (allAtoms (Jvm.Cond.code x code maxLocals ret :: tables_1)).before args0 about1 = true := by
  rw [allAtoms_all]
  show words1.all (fun c => c.before args0 about1) = true
  refine all_split ?_ w_codes
  rw [← List.take_append_drop 24 words1, List.all_append, w_t1, w_t2]
  rfl
set_option maxRecDepth 65536 in
theorem w_case : (Jvm.Cond.and given_1 narrow_1).before args0 about1 = true := by decide +kernel
theorem w_applies : (headSpec (Jvm.Cond.code x code maxLocals ret :: tables_1) room_1).applies x e0.platform about1 = true :=
  (Spec.applies_iff w_frames).mpr ⟨w_running, w_runnable, w_alone, w_named, w_hears, w_ripe, w_room, w_tables⟩
theorem atStart : AtStart classFile x code maxLocals ret World_1 tables_1 room_1 Calls_1 rest_1 Pre_1 launch0 p0 e0 about1 theMethod args0 below0 :=
  ⟨lists_1, trivial, launch0.admits_env _ _ _, launch0.least_env, fairChoices_fair.cas, fairChoices_fair.clock, w_frames, w_args, w_heap, w_applies, trivial, trivial, w_case⟩
end start1
theorem witness_1 : WitnessClaimed_1 := ⟨start1.p0, start1.e0, start1.about1, start1.theMethod, start1.args0, start1.below0, start1.atStart⟩
end Jvm.Pilot.@@N@@
