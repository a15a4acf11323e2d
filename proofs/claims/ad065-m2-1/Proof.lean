import JvmDerived
import JvmDerived.Pilot.@@N@@Statement
import JvmDerived.Pilot.@@N@@Code
set_option linter.unusedVariables false
set_option linter.unusedSimpArgs false
namespace Jvm.RoadKit
open Sem ClassFile Op Lib Jvm.Stand Jvm.Free Jvm.LawKit
section New
variable {p : Program} {l : Launch} {e : Env} {R : Room} {s : State} {m : MethodId} {args : Array Value} {below : List Frame} {meth : Method} {c : Code} {T : State} {locs : List Loc} {cells slots : Nat}
theorem retI (X : Stand p l e R s m args below meth c T locs cells slots) (hx : p.tables.exec = Jvm.exec) {pc : Nat} {Ls : Array Slot} {z : Int32} {rest : List Value} (hret : meth.sig.returnType = some .int) (hd : decode c.code pc = .ok (.ireturn, 1)) {fs : List Frame}
    (hl : ∀ (f : JFrame) (acts : List Action), f.method = m → f.locked = none → f.entered = [] → (doReturn e (T.setTop f) acts (some (.int z))).1 = T.setFrames fs) : Steps p.tables e below (T.setTop (mkF m pc Ls (.int z :: rest))) (T.setFrames fs) := by
  have hm' : T.vm.method? m = some meth := X.method'
  have hn : narrow .int (.int z) = .int z := rfl
  show Steps p.tables e below (T.setTop { method := m, pc := pc, locals := Ls, stack := _ :: rest, locked := none }) _
  jvm_step X.here [X.here.top, hx, hd, hm', hret, hn]
  first | (intro acts; rw [hl _ acts rfl rfl rfl]) | rw [hl _ _ rfl rfl rfl]
  exact Steps.refl _
end New
end Jvm.RoadKit
namespace Jvm.Pilot.@@N@@
open Jvm Jvm.ClassFile Sem Op Lib Jvm.Free Jvm.Stand Jvm.LawKit Jvm.RoadKit Bundle Jvm.Pilot.@@N@@.Jvm.D
def own_cov (a aA aP aD : Addr) (p : Int32) : Int32 := if a = aA then 1 else if p = 0 then (if a = aD then 1 else 0) else (if a = aP then 1 else 0)
theorem d1_0 : decode prog_160_method_5_code 0 = .ok (.aload_n 0, 1) := by decide +kernel
theorem d1_1 : decode prog_160_method_5_code 1 = .ok (.getstatic 13, 3) := by decide +kernel
theorem d1_4 : decode prog_160_method_5_code 4 = .ok (.if_acmp .eq 20, 3) := by decide +kernel
theorem d1_7 : decode prog_160_method_5_code 7 = .ok (.aload_n 0, 1) := by decide +kernel
theorem d1_8 : decode prog_160_method_5_code 8 = .ok (.iload_n 1, 1) := by decide +kernel
theorem d1_9 : decode prog_160_method_5_code 9 = .ok (.ifCond .eq 9, 3) := by decide +kernel
theorem d1_12 : decode prog_160_method_5_code 12 = .ok (.getstatic 7, 3) := by decide +kernel
theorem d1_15 : decode prog_160_method_5_code 15 = .ok (.goto 6, 3) := by decide +kernel
theorem d1_18 : decode prog_160_method_5_code 18 = .ok (.getstatic 10, 3) := by decide +kernel
theorem d1_21 : decode prog_160_method_5_code 21 = .ok (.if_acmp .ne 7, 3) := by decide +kernel
theorem d1_24 : decode prog_160_method_5_code 24 = .ok (.iconst 1, 1) := by decide +kernel
theorem d1_25 : decode prog_160_method_5_code 25 = .ok (.goto 4, 3) := by decide +kernel
theorem d1_28 : decode prog_160_method_5_code 28 = .ok (.iconst 0, 1) := by decide +kernel
theorem d1_29 : decode prog_160_method_5_code 29 = .ok (.ireturn, 1) := by decide +kernel
theorem own_pn0 : plainName "com/example/orthrus/orthrus/model/ProtectedObjectPolicy$Audit" = true := by first | (simp [plainName, overriddenIn]; done) | decide +kernel
theorem rmC_ef (m : MethodId) (x0 : Addr) (x1 : Int32) : entryFrame m #[(.ref x0), (.int x1)] 2 = mkF m 0 #[.val (.ref x0), .val (.int x1)] [] := by first | (simp [entryFrame, mkF, argsToLocals, Value.category]; done) | rfl
def QC (Z : State) (a : Addr) (p2 : Int32) (aA : Addr) (aP : Addr) (aD : Addr) (h0 : Heap) (n0 : Nat) (v : Option Value) (h : Heap) (L : List Loc) : Prop := v = some (.int (own_cov a aA aP aD p2)) ∧ Fr n0 L ∧ h = h0
set_option maxRecDepth 65536 in
set_option maxHeartbeats 40000000 in
theorem rmC (l : Launch) (Z : State) (a0 : Array Value) (hw : ∀ d ∈ tables_1, d.before a0 Z = true) (ws : List Jvm.Cond) (a : Addr) (p2 : Int32) (aA : Addr) (aP : Addr) (aD : Addr) (h0 : Heap) (n0 : Nat) (Z0 : n0 ≤ h0.size) (S_aA : Sta Z h0 "com/example/orthrus/orthrus/model/ProtectedObjectPolicy$Audit" "ALL" "Lcom/example/orthrus/orthrus/model/ProtectedObjectPolicy$Audit;" (.ref aA)) (S_aP : Sta Z h0 "com/example/orthrus/orthrus/model/ProtectedObjectPolicy$Audit" "PERMIT" "Lcom/example/orthrus/orthrus/model/ProtectedObjectPolicy$Audit;" (.ref aP)) (S_aD : Sta Z h0 "com/example/orthrus/orthrus/model/ProtectedObjectPolicy$Audit" "DENY" "Lcom/example/orthrus/orthrus/model/ProtectedObjectPolicy$Audit;" (.ref aD)) :
    MetFree l (⟨"com/example/orthrus/orthrus/model/ProtectedObjectPolicy$Audit", "covers", "(Z)Z"⟩ : MethodName) (head1 (Jvm.Cond.code (⟨"com/example/orthrus/orthrus/model/ProtectedObjectPolicy$Audit", "covers", "(Z)Z"⟩ : MethodName) prog_160_method_5_code 2 (some .boolean) :: ws) ({ frames := 0, cells := 0, slots := 0, locals := 0 } : Room)) (fun aA' U => aA' = #[(.ref a), (.int p2)] ∧ Z.Warmed39 U.vm ∧ U.heap = h0) (fun _ _ _ _ _ => True) (fun _ U oO' U' => ∃ vV' L, oO' = .returned vV' ∧ QC Z a p2 aA aP aD h0 n0 vV' U'.heap L ∧ FrameEnd U oO' U' L ({ frames := 0, cells := 0, slots := 0, locals := 0 } : Room).cells ({ frames := 0, cells := 0, slots := 0, locals := 0 } : Room).slots) := by
  refine MetFree.of_bodySF (plainFor_of_name own_pn0) hisR ?_
  intro p e s m args below meth c s₁ Bd hml0 hP hK
  obtain ⟨rfl, hZ, hh⟩ := hP
  have hx := Bd.exec
  have hby := Bd.bytes
  have hml : c.maxLocals = 2 := hml0
  have hown : s.vm.findClass "com/example/orthrus/orthrus/model/ProtectedObjectPolicy$Audit" = some m.cls := findClass_of_methodNamed Bd.named
  have hnm := (name_of_methodNamed Bd.named Bd.method).1
  have X0 : Stand p l e ({ frames := 0, cells := 0, slots := 0, locals := 0 } : Room) s m #[(.ref a), (.int p2)] below meth c s₁ [] 0 0 := Stand.of_body Bd
  have e0 : s₁.heap = h0 := by rw [← hh, Bd.state]; rfl
  have N0 := Fr.nil n0
  have K0 : Keep h0 h0 [] := Keep.refl _ _
  have k0 : ∀ t, Steps p.tables e below (s₁.setTop (mkF m 0 #[.val (.ref a), .val (.int p2)] [])) t → Steps p.tables e below (s₁.setTop (entryFrame m #[(.ref a), (.int p2)] 2)) t := fun t k => castTop (rmC_ef m (a) (p2)) k
  have k1 : ∀ t, Steps p.tables e below (s₁.setTop (mkF m 1 #[.val (.ref a), .val (.int p2)] [(.ref a)])) t → Steps p.tables e below (s₁.setTop (entryFrame m #[(.ref a), (.int p2)] 2)) t := by
    intro t kt
    refine k0 t ?_
    show Steps p.tables e below (s₁.setTop (mkF m 0 #[.val (.ref a), .val (.int p2)] [])) t
    refine XS.aloadN X0.here hx rfl (hb hby d1_0) rfl rfl ?_
    exact kt
  obtain ⟨T2, X2, e2, st2⟩ := getS2 X0 hx hZ hown (host := "") (Or.inl (hw _ (List.mem_of_getElem? (i := 8) rfl))) Via.refl e0 S_aA (g := (mkF m 1 #[.val (.ref a), .val (.int p2)] [(.ref a)])) rfl (hb hby d1_1)
  have k3 : ∀ t, Steps p.tables e below (T2.setTop (mkF m 4 #[.val (.ref a), .val (.int p2)] [(.ref aA), (.ref a)])) t → Steps p.tables e below (s₁.setTop (entryFrame m #[(.ref a), (.int p2)] 2)) t := fun t kt => k1 t (st2 t kt)
  by_cases ha4_4 : a = aA
  · have k5 : ∀ t, Steps p.tables e below (T2.setTop (mkF m 29 #[.val (.ref a), .val (.int p2)] [(.int (1 : Int32))])) t → Steps p.tables e below (s₁.setTop (entryFrame m #[(.ref a), (.int p2)] 2)) t := by
      intro t kt
      refine k3 t ?_
      show Steps p.tables e below (T2.setTop (mkF m 4 #[.val (.ref a), .val (.int p2)] [(.ref aA), (.ref a)])) t
      refine Jvm.RoadKit.acmp (g := (mkF m 4 #[.val (.ref a), .val (.int p2)] [(.ref aA), (.ref a)])) X2 hx rfl rfl rfl (pc0 := 4) (pc' := 24) (same := true) rfl (hb hby d1_4) rfl (decide_eq_true (congrArg Value.ref ha4_4)) (by decide) (by decide) ?_
      show Steps p.tables e below (T2.setTop (mkF m 24 #[.val (.ref a), .val (.int p2)] [])) t
      refine XS.iconst X2.here hx rfl (hb hby d1_24) ?_
      show Steps p.tables e below (T2.setTop (mkF m 25 #[.val (.ref a), .val (.int p2)] [(.int (1 : Int32))])) t
      refine XS.goto X2.here hx rfl (pc0 := 25) (pc' := 29) rfl (hb hby d1_25) (by decide) (by decide) ?_
      exact kt
    obtain ⟨fs, hr, hrun, hended, hW, hsame⟩ := X2.leave (v := some (.int (1 : Int32))) (fun h => by rw [Bd.returns] at h; cases h)
    refine ⟨_, _, k5 _ ?_, hrun, hended, _, _, rfl, ?_, ⟨_, rfl⟩, hW, hsame.mono (by decide) (by decide)⟩
    · show Steps p.tables e below (T2.setTop (mkF m 29 #[.val (.ref a), .val (.int p2)] [(.int (1 : Int32))])) _
      exact retN X2 hx (t := .boolean) Bd.returns (by simp) (hb hby d1_29) hr
    · show QC Z a p2 aA aP aD h0 n0 _ T2.heap _
      rw [e2]
      refine ⟨congrArg (fun z => some (Value.int z)) ?_, N0, rfl⟩
      simp [own_cov, ha4_4]
  · have k7 : ∀ t, Steps p.tables e below (T2.setTop (mkF m 9 #[.val (.ref a), .val (.int p2)] [(.int p2), (.ref a)])) t → Steps p.tables e below (s₁.setTop (entryFrame m #[(.ref a), (.int p2)] 2)) t := by
      intro t kt
      refine k3 t ?_
      show Steps p.tables e below (T2.setTop (mkF m 4 #[.val (.ref a), .val (.int p2)] [(.ref aA), (.ref a)])) t
      refine Jvm.RoadKit.acmp (g := (mkF m 4 #[.val (.ref a), .val (.int p2)] [(.ref aA), (.ref a)])) X2 hx rfl rfl rfl (pc0 := 4) (pc' := 7) (same := false) rfl (hb hby d1_4) rfl (decide_eq_false fun q => ha4_4 (Value.ref.inj q)) (by decide) (by decide) ?_
      show Steps p.tables e below (T2.setTop (mkF m 7 #[.val (.ref a), .val (.int p2)] [])) t
      refine XS.aloadN X2.here hx rfl (hb hby d1_7) rfl rfl ?_
      show Steps p.tables e below (T2.setTop (mkF m 8 #[.val (.ref a), .val (.int p2)] [(.ref a)])) t
      refine XS.iloadN X2.here hx rfl (hb hby d1_8) rfl ?_
      exact kt
    by_cases hc9_6 : p2 = (0 : Int32)
    · have k8 : ∀ t, Steps p.tables e below (T2.setTop (mkF m 18 #[.val (.ref a), .val (.int p2)] [(.ref a)])) t → Steps p.tables e below (s₁.setTop (entryFrame m #[(.ref a), (.int p2)] 2)) t := by
        intro t kt
        refine k7 t ?_
        show Steps p.tables e below (T2.setTop (mkF m 9 #[.val (.ref a), .val (.int p2)] [(.int p2), (.ref a)])) t
        refine XS.ifYes X2.here hx rfl (pc0 := 9) (pc' := 18) rfl (hb hby d1_9) rfl ((if0 _ _).trans (teq hc9_6).1) (by decide) (by decide) ?_
        exact kt
      obtain ⟨T9, X9, e9, st9⟩ := getS2 X2 hx hZ hown (host := "") (Or.inl (hw _ (List.mem_of_getElem? (i := 14) rfl))) Via.refl e2 S_aD (g := (mkF m 18 #[.val (.ref a), .val (.int p2)] [(.ref a)])) rfl (hb hby d1_18)
      have k10 : ∀ t, Steps p.tables e below (T9.setTop (mkF m 21 #[.val (.ref a), .val (.int p2)] [(.ref aD), (.ref a)])) t → Steps p.tables e below (s₁.setTop (entryFrame m #[(.ref a), (.int p2)] 2)) t := fun t kt => k8 t (st9 t kt)
      by_cases ha21_11 : a = aD
      · have k12 : ∀ t, Steps p.tables e below (T9.setTop (mkF m 29 #[.val (.ref a), .val (.int p2)] [(.int (1 : Int32))])) t → Steps p.tables e below (s₁.setTop (entryFrame m #[(.ref a), (.int p2)] 2)) t := by
          intro t kt
          refine k10 t ?_
          show Steps p.tables e below (T9.setTop (mkF m 21 #[.val (.ref a), .val (.int p2)] [(.ref aD), (.ref a)])) t
          refine Jvm.RoadKit.acmp (g := (mkF m 21 #[.val (.ref a), .val (.int p2)] [(.ref aD), (.ref a)])) X9 hx rfl rfl rfl (pc0 := 21) (pc' := 24) (same := true) rfl (hb hby d1_21) rfl (decide_eq_true (congrArg Value.ref ha21_11)) (by decide) (by decide) ?_
          show Steps p.tables e below (T9.setTop (mkF m 24 #[.val (.ref a), .val (.int p2)] [])) t
          refine XS.iconst X9.here hx rfl (hb hby d1_24) ?_
          show Steps p.tables e below (T9.setTop (mkF m 25 #[.val (.ref a), .val (.int p2)] [(.int (1 : Int32))])) t
          refine XS.goto X9.here hx rfl (pc0 := 25) (pc' := 29) rfl (hb hby d1_25) (by decide) (by decide) ?_
          exact kt
        obtain ⟨fs, hr, hrun, hended, hW, hsame⟩ := X9.leave (v := some (.int (1 : Int32))) (fun h => by rw [Bd.returns] at h; cases h)
        refine ⟨_, _, k12 _ ?_, hrun, hended, _, _, rfl, ?_, ⟨_, rfl⟩, hW, hsame.mono (by decide) (by decide)⟩
        · show Steps p.tables e below (T9.setTop (mkF m 29 #[.val (.ref a), .val (.int p2)] [(.int (1 : Int32))])) _
          exact retN X9 hx (t := .boolean) Bd.returns (by simp) (hb hby d1_29) hr
        · show QC Z a p2 aA aP aD h0 n0 _ T9.heap _
          rw [e9]
          refine ⟨congrArg (fun z => some (Value.int z)) ?_, N0, rfl⟩
          simp [own_cov, ha4_4, hc9_6, ha21_11]
      · have k13 : ∀ t, Steps p.tables e below (T9.setTop (mkF m 29 #[.val (.ref a), .val (.int p2)] [(.int (0 : Int32))])) t → Steps p.tables e below (s₁.setTop (entryFrame m #[(.ref a), (.int p2)] 2)) t := by
          intro t kt
          refine k10 t ?_
          show Steps p.tables e below (T9.setTop (mkF m 21 #[.val (.ref a), .val (.int p2)] [(.ref aD), (.ref a)])) t
          refine Jvm.RoadKit.acmp (g := (mkF m 21 #[.val (.ref a), .val (.int p2)] [(.ref aD), (.ref a)])) X9 hx rfl rfl rfl (pc0 := 21) (pc' := 28) (same := false) rfl (hb hby d1_21) rfl (decide_eq_false fun q => ha21_11 (Value.ref.inj q)) (by decide) (by decide) ?_
          show Steps p.tables e below (T9.setTop (mkF m 28 #[.val (.ref a), .val (.int p2)] [])) t
          refine XS.iconst X9.here hx rfl (hb hby d1_28) ?_
          exact kt
        obtain ⟨fs, hr, hrun, hended, hW, hsame⟩ := X9.leave (v := some (.int (0 : Int32))) (fun h => by rw [Bd.returns] at h; cases h)
        refine ⟨_, _, k13 _ ?_, hrun, hended, _, _, rfl, ?_, ⟨_, rfl⟩, hW, hsame.mono (by decide) (by decide)⟩
        · show Steps p.tables e below (T9.setTop (mkF m 29 #[.val (.ref a), .val (.int p2)] [(.int (0 : Int32))])) _
          exact retN X9 hx (t := .boolean) Bd.returns (by simp) (hb hby d1_29) hr
        · show QC Z a p2 aA aP aD h0 n0 _ T9.heap _
          rw [e9]
          refine ⟨congrArg (fun z => some (Value.int z)) ?_, N0, rfl⟩
          simp [own_cov, ha4_4, hc9_6, ha21_11]
    · have k14 : ∀ t, Steps p.tables e below (T2.setTop (mkF m 12 #[.val (.ref a), .val (.int p2)] [(.ref a)])) t → Steps p.tables e below (s₁.setTop (entryFrame m #[(.ref a), (.int p2)] 2)) t := by
        intro t kt
        refine k7 t ?_
        show Steps p.tables e below (T2.setTop (mkF m 9 #[.val (.ref a), .val (.int p2)] [(.int p2), (.ref a)])) t
        refine XS.ifNo X2.here hx rfl (hb hby d1_9) rfl ((if0 _ _).trans (feq hc9_6).1) ?_
        exact kt
      obtain ⟨T15, X15, e15, st15⟩ := getS2 X2 hx hZ hown (host := "") (Or.inl (hw _ (List.mem_of_getElem? (i := 10) rfl))) Via.refl e2 S_aP (g := (mkF m 12 #[.val (.ref a), .val (.int p2)] [(.ref a)])) rfl (hb hby d1_12)
      have k16 : ∀ t, Steps p.tables e below (T15.setTop (mkF m 15 #[.val (.ref a), .val (.int p2)] [(.ref aP), (.ref a)])) t → Steps p.tables e below (s₁.setTop (entryFrame m #[(.ref a), (.int p2)] 2)) t := fun t kt => k14 t (st15 t kt)
      have k18 : ∀ t, Steps p.tables e below (T15.setTop (mkF m 21 #[.val (.ref a), .val (.int p2)] [(.ref aP), (.ref a)])) t → Steps p.tables e below (s₁.setTop (entryFrame m #[(.ref a), (.int p2)] 2)) t := by
        intro t kt
        refine k16 t ?_
        show Steps p.tables e below (T15.setTop (mkF m 15 #[.val (.ref a), .val (.int p2)] [(.ref aP), (.ref a)])) t
        refine XS.goto X15.here hx rfl (pc0 := 15) (pc' := 21) rfl (hb hby d1_15) (by decide) (by decide) ?_
        exact kt
      by_cases ha21_17 : a = aP
      · have k19 : ∀ t, Steps p.tables e below (T15.setTop (mkF m 29 #[.val (.ref a), .val (.int p2)] [(.int (1 : Int32))])) t → Steps p.tables e below (s₁.setTop (entryFrame m #[(.ref a), (.int p2)] 2)) t := by
          intro t kt
          refine k18 t ?_
          show Steps p.tables e below (T15.setTop (mkF m 21 #[.val (.ref a), .val (.int p2)] [(.ref aP), (.ref a)])) t
          refine Jvm.RoadKit.acmp (g := (mkF m 21 #[.val (.ref a), .val (.int p2)] [(.ref aP), (.ref a)])) X15 hx rfl rfl rfl (pc0 := 21) (pc' := 24) (same := true) rfl (hb hby d1_21) rfl (decide_eq_true (congrArg Value.ref ha21_17)) (by decide) (by decide) ?_
          show Steps p.tables e below (T15.setTop (mkF m 24 #[.val (.ref a), .val (.int p2)] [])) t
          refine XS.iconst X15.here hx rfl (hb hby d1_24) ?_
          show Steps p.tables e below (T15.setTop (mkF m 25 #[.val (.ref a), .val (.int p2)] [(.int (1 : Int32))])) t
          refine XS.goto X15.here hx rfl (pc0 := 25) (pc' := 29) rfl (hb hby d1_25) (by decide) (by decide) ?_
          exact kt
        obtain ⟨fs, hr, hrun, hended, hW, hsame⟩ := X15.leave (v := some (.int (1 : Int32))) (fun h => by rw [Bd.returns] at h; cases h)
        refine ⟨_, _, k19 _ ?_, hrun, hended, _, _, rfl, ?_, ⟨_, rfl⟩, hW, hsame.mono (by decide) (by decide)⟩
        · show Steps p.tables e below (T15.setTop (mkF m 29 #[.val (.ref a), .val (.int p2)] [(.int (1 : Int32))])) _
          exact retN X15 hx (t := .boolean) Bd.returns (by simp) (hb hby d1_29) hr
        · show QC Z a p2 aA aP aD h0 n0 _ T15.heap _
          rw [e15]
          refine ⟨congrArg (fun z => some (Value.int z)) ?_, N0, rfl⟩
          simp [own_cov, ha4_4, hc9_6, ha21_17]
      · have k20 : ∀ t, Steps p.tables e below (T15.setTop (mkF m 29 #[.val (.ref a), .val (.int p2)] [(.int (0 : Int32))])) t → Steps p.tables e below (s₁.setTop (entryFrame m #[(.ref a), (.int p2)] 2)) t := by
          intro t kt
          refine k18 t ?_
          show Steps p.tables e below (T15.setTop (mkF m 21 #[.val (.ref a), .val (.int p2)] [(.ref aP), (.ref a)])) t
          refine Jvm.RoadKit.acmp (g := (mkF m 21 #[.val (.ref a), .val (.int p2)] [(.ref aP), (.ref a)])) X15 hx rfl rfl rfl (pc0 := 21) (pc' := 28) (same := false) rfl (hb hby d1_21) rfl (decide_eq_false fun q => ha21_17 (Value.ref.inj q)) (by decide) (by decide) ?_
          show Steps p.tables e below (T15.setTop (mkF m 28 #[.val (.ref a), .val (.int p2)] [])) t
          refine XS.iconst X15.here hx rfl (hb hby d1_28) ?_
          exact kt
        obtain ⟨fs, hr, hrun, hended, hW, hsame⟩ := X15.leave (v := some (.int (0 : Int32))) (fun h => by rw [Bd.returns] at h; cases h)
        refine ⟨_, _, k20 _ ?_, hrun, hended, _, _, rfl, ?_, ⟨_, rfl⟩, hW, hsame.mono (by decide) (by decide)⟩
        · show Steps p.tables e below (T15.setTop (mkF m 29 #[.val (.ref a), .val (.int p2)] [(.int (0 : Int32))])) _
          exact retN X15 hx (t := .boolean) Bd.returns (by simp) (hb hby d1_29) hr
        · show QC Z a p2 aA aP aD h0 n0 _ T15.heap _
          rw [e15]
          refine ⟨congrArg (fun z => some (Value.int z)) ?_, N0, rfl⟩
          simp [own_cov, ha4_4, hc9_6, ha21_17]
theorem own_pn1 : plainName "com/example/orthrus/orthrus/model/AuditCoversPinLaw" = true := by first | (simp [plainName, overriddenIn]; done) | decide +kernel
theorem rm0_ef (m : MethodId) (x0 : Int32) (x1 : Int32) : entryFrame m #[(.int x0), (.int x1)] maxLocals = mkF m 0 #[.val (.int x0), .val (.int x1), .unset, .unset, .unset, .unset] [] := by first | (simp [entryFrame, mkF, argsToLocals, Value.category, maxLocals]; done) | rfl
def Q0 (Z : State) (p1 : Int32) (p2 : Int32) (aN : Addr) (aA : Addr) (aP : Addr) (aD : Addr) (h0 : Heap) (n0 : Nat) (v : Option Value) (h : Heap) (L : List Loc) : Prop := v = some (.int 1) ∧ Fr n0 L
theorem own_pd0 : parseMethodDescriptor "(Z)Z" = some ⟨[.boolean], some .boolean⟩ := by decide +kernel
set_option maxRecDepth 65536 in
set_option maxHeartbeats 40000000 in
theorem rm0 (l : Launch) (Z : State) (a0 : Array Value) (hw : ∀ d ∈ tables_1, d.before a0 Z = true) (ws : List Jvm.Cond) (p1 : Int32) (p2 : Int32) (aN : Addr) (aA : Addr) (aP : Addr) (aD : Addr) (h0 : Heap) (n0 : Nat) (Z0 : n0 ≤ h0.size) (S_aN : Sta Z h0 "com/example/orthrus/orthrus/model/ProtectedObjectPolicy$Audit" "NONE" "Lcom/example/orthrus/orthrus/model/ProtectedObjectPolicy$Audit;" (.ref aN)) (S_aA : Sta Z h0 "com/example/orthrus/orthrus/model/ProtectedObjectPolicy$Audit" "ALL" "Lcom/example/orthrus/orthrus/model/ProtectedObjectPolicy$Audit;" (.ref aA)) (S_aP : Sta Z h0 "com/example/orthrus/orthrus/model/ProtectedObjectPolicy$Audit" "PERMIT" "Lcom/example/orthrus/orthrus/model/ProtectedObjectPolicy$Audit;" (.ref aP)) (S_aD : Sta Z h0 "com/example/orthrus/orthrus/model/ProtectedObjectPolicy$Audit" "DENY" "Lcom/example/orthrus/orthrus/model/ProtectedObjectPolicy$Audit;" (.ref aD)) (E_aN : Exa Z h0 aN "com/example/orthrus/orthrus/model/ProtectedObjectPolicy$Audit") (E_aA : Exa Z h0 aA "com/example/orthrus/orthrus/model/ProtectedObjectPolicy$Audit") (E_aP : Exa Z h0 aP "com/example/orthrus/orthrus/model/ProtectedObjectPolicy$Audit") (E_aD : Exa Z h0 aD "com/example/orthrus/orthrus/model/ProtectedObjectPolicy$Audit") (nNA : aN ≠ aA) (nNP : aN ≠ aP) (nND : aN ≠ aD) (nPA : aP ≠ aA) (nDA : aD ≠ aA) (nPD : aP ≠ aD) :
    MetFree l x (head1 (Jvm.Cond.code x code maxLocals ret :: ws) room_1) (fun aA' U => aA' = #[(.int p1), (.int p2)] ∧ Z.Warmed39 U.vm ∧ U.heap = h0) (fun _ _ _ _ _ => True) (fun _ U oO' U' => ∃ vV' L, oO' = .returned vV' ∧ Q0 Z p1 p2 aN aA aP aD h0 n0 vV' U'.heap L ∧ FrameEnd U oO' U' L 0 0) := by
  refine MetFree.of_bodySF (plainFor_of_name own_pn1) hisR ?_
  intro p e s m args below meth c s₁ Bd hml0 hP hK
  obtain ⟨rfl, hZ, hh⟩ := hP
  have hx := Bd.exec
  have hby := Bd.bytes
  have hml : c.maxLocals = 6 := hml0
  have hown : s.vm.findClass "com/example/orthrus/orthrus/model/AuditCoversPinLaw" = some m.cls := findClass_of_methodNamed Bd.named
  have hnm := (name_of_methodNamed Bd.named Bd.method).1
  have X0 : Stand p l e room_1 s m #[(.int p1), (.int p2)] below meth c s₁ [] 0 0 := Stand.of_body Bd
  have e0 : s₁.heap = h0 := by rw [← hh, Bd.state]; rfl
  have N0 := Fr.nil n0
  have K0 : Keep h0 h0 [] := Keep.refl _ _
  have k0 : ∀ t, Steps p.tables e below (s₁.setTop (mkF m 0 #[.val (.int p1), .val (.int p2), .unset, .unset, .unset, .unset] [])) t → Steps p.tables e below (s₁.setTop (entryFrame m #[(.int p1), (.int p2)] maxLocals)) t := fun t k => castTop (rm0_ef m (p1) (p2)) k
  have k2 : ∀ t, Steps p.tables e below (s₁.setTop (mkF m 7 #[.val (.int p1), .val (.int p2), .val (.int (p1 &&& (3 : Int32))), .unset, .unset, .unset] [(.int (p2 &&& (1 : Int32)))])) t → Steps p.tables e below (s₁.setTop (entryFrame m #[(.int p1), (.int p2)] maxLocals)) t := by
    intro t kt
    refine k0 t ?_
    show Steps p.tables e below (s₁.setTop (mkF m 0 #[.val (.int p1), .val (.int p2), .unset, .unset, .unset, .unset] [])) t
    refine XS.iloadN X0.here hx rfl (hb hby at_0) rfl ?_
    show Steps p.tables e below (s₁.setTop (mkF m 1 #[.val (.int p1), .val (.int p2), .unset, .unset, .unset, .unset] [(.int p1)])) t
    refine XS.iconst X0.here hx rfl (hb hby at_1) ?_
    show Steps p.tables e below (s₁.setTop (mkF m 2 #[.val (.int p1), .val (.int p2), .unset, .unset, .unset, .unset] [(.int (3 : Int32)), (.int p1)])) t
    refine XS.iand X0.here hx rfl (hb hby at_2) rfl ?_
    show Steps p.tables e below (s₁.setTop (mkF m 3 #[.val (.int p1), .val (.int p2), .unset, .unset, .unset, .unset] [(.int (p1 &&& (3 : Int32)))])) t
    refine XS.istoreN X0.here hx rfl (hb hby at_3) rfl (l' := #[.val (.int p1), .val (.int p2), .val (.int (p1 &&& (3 : Int32))), .unset, .unset, .unset]) rfl ?_
    show Steps p.tables e below (s₁.setTop (mkF m 4 #[.val (.int p1), .val (.int p2), .val (.int (p1 &&& (3 : Int32))), .unset, .unset, .unset] [])) t
    refine XS.iloadN X0.here hx rfl (hb hby at_4) rfl ?_
    show Steps p.tables e below (s₁.setTop (mkF m 5 #[.val (.int p1), .val (.int p2), .val (.int (p1 &&& (3 : Int32))), .unset, .unset, .unset] [(.int p2)])) t
    refine XS.iconst X0.here hx rfl (hb hby at_5) ?_
    show Steps p.tables e below (s₁.setTop (mkF m 6 #[.val (.int p1), .val (.int p2), .val (.int (p1 &&& (3 : Int32))), .unset, .unset, .unset] [(.int (1 : Int32)), (.int p2)])) t
    refine XS.iand X0.here hx rfl (hb hby at_6) rfl ?_
    exact kt
  by_cases hc7_1 : (p2 &&& (1 : Int32)) = (0 : Int32)
  · have k4 : ∀ t, Steps p.tables e below (s₁.setTop (mkF m 17 #[.val (.int p1), .val (.int p2), .val (.int (p1 &&& (3 : Int32))), .val (.int (0 : Int32)), .unset, .unset] [(.int (p1 &&& (3 : Int32)))])) t → Steps p.tables e below (s₁.setTop (entryFrame m #[(.int p1), (.int p2)] maxLocals)) t := by
      intro t kt
      refine k2 t ?_
      show Steps p.tables e below (s₁.setTop (mkF m 7 #[.val (.int p1), .val (.int p2), .val (.int (p1 &&& (3 : Int32))), .unset, .unset, .unset] [(.int (p2 &&& (1 : Int32)))])) t
      refine XS.ifYes X0.here hx rfl (pc0 := 7) (pc' := 14) rfl (hb hby at_7) rfl ((if0 _ _).trans (teq hc7_1).1) (by decide) (by decide) ?_
      show Steps p.tables e below (s₁.setTop (mkF m 14 #[.val (.int p1), .val (.int p2), .val (.int (p1 &&& (3 : Int32))), .unset, .unset, .unset] [])) t
      refine XS.iconst X0.here hx rfl (hb hby at_14) ?_
      show Steps p.tables e below (s₁.setTop (mkF m 15 #[.val (.int p1), .val (.int p2), .val (.int (p1 &&& (3 : Int32))), .unset, .unset, .unset] [(.int (0 : Int32))])) t
      refine XS.istoreN X0.here hx rfl (hb hby at_15) rfl (l' := #[.val (.int p1), .val (.int p2), .val (.int (p1 &&& (3 : Int32))), .val (.int (0 : Int32)), .unset, .unset]) rfl ?_
      show Steps p.tables e below (s₁.setTop (mkF m 16 #[.val (.int p1), .val (.int p2), .val (.int (p1 &&& (3 : Int32))), .val (.int (0 : Int32)), .unset, .unset] [])) t
      refine XS.iloadN X0.here hx rfl (hb hby at_16) rfl ?_
      exact kt
    by_cases hc17_3 : (p1 &&& (3 : Int32)) = (0 : Int32)
    · have k5 : ∀ t, Steps p.tables e below (s₁.setTop (mkF m 20 #[.val (.int p1), .val (.int p2), .val (.int (p1 &&& (3 : Int32))), .val (.int (0 : Int32)), .unset, .unset] [])) t → Steps p.tables e below (s₁.setTop (entryFrame m #[(.int p1), (.int p2)] maxLocals)) t := by
        intro t kt
        refine k4 t ?_
        show Steps p.tables e below (s₁.setTop (mkF m 17 #[.val (.int p1), .val (.int p2), .val (.int (p1 &&& (3 : Int32))), .val (.int (0 : Int32)), .unset, .unset] [(.int (p1 &&& (3 : Int32)))])) t
        refine XS.ifNo X0.here hx rfl (hb hby at_17) rfl ((if0 _ _).trans (teq hc17_3).2) ?_
        exact kt
      obtain ⟨T6, X6, e6, st6⟩ := getS2 X0 hx hZ hown (host := "") (Or.inl (hw _ (List.mem_of_getElem? (i := 0) rfl))) Via.refl e0 S_aN (g := (mkF m 20 #[.val (.int p1), .val (.int p2), .val (.int (p1 &&& (3 : Int32))), .val (.int (0 : Int32)), .unset, .unset] [])) rfl (hb hby at_20)
      have k7 : ∀ t, Steps p.tables e below (T6.setTop (mkF m 23 #[.val (.int p1), .val (.int p2), .val (.int (p1 &&& (3 : Int32))), .val (.int (0 : Int32)), .unset, .unset] [(.ref aN)])) t → Steps p.tables e below (s₁.setTop (entryFrame m #[(.int p1), (.int p2)] maxLocals)) t := fun t kt => k5 t (st6 t kt)
      have k8 : ∀ t, Steps p.tables e below (T6.setTop (mkF m 82 #[.val (.int p1), .val (.int p2), .val (.int (p1 &&& (3 : Int32))), .val (.int (0 : Int32)), .val (.ref aN), .val (.int (0 : Int32))] [(.int (0 : Int32)), (.ref aN)])) t → Steps p.tables e below (s₁.setTop (entryFrame m #[(.int p1), (.int p2)] maxLocals)) t := by
        intro t kt
        refine k7 t ?_
        show Steps p.tables e below (T6.setTop (mkF m 23 #[.val (.int p1), .val (.int p2), .val (.int (p1 &&& (3 : Int32))), .val (.int (0 : Int32)), .unset, .unset] [(.ref aN)])) t
        refine XS.astore X6.here hx rfl (hb hby at_23) rfl rfl (l' := #[.val (.int p1), .val (.int p2), .val (.int (p1 &&& (3 : Int32))), .val (.int (0 : Int32)), .val (.ref aN), .unset]) rfl ?_
        show Steps p.tables e below (T6.setTop (mkF m 25 #[.val (.int p1), .val (.int p2), .val (.int (p1 &&& (3 : Int32))), .val (.int (0 : Int32)), .val (.ref aN), .unset] [])) t
        refine XS.iconst X6.here hx rfl (hb hby at_25) ?_
        show Steps p.tables e below (T6.setTop (mkF m 26 #[.val (.int p1), .val (.int p2), .val (.int (p1 &&& (3 : Int32))), .val (.int (0 : Int32)), .val (.ref aN), .unset] [(.int (0 : Int32))])) t
        refine XS.istore X6.here hx rfl (hb hby at_26) rfl (l' := #[.val (.int p1), .val (.int p2), .val (.int (p1 &&& (3 : Int32))), .val (.int (0 : Int32)), .val (.ref aN), .val (.int (0 : Int32))]) rfl ?_
        show Steps p.tables e below (T6.setTop (mkF m 28 #[.val (.int p1), .val (.int p2), .val (.int (p1 &&& (3 : Int32))), .val (.int (0 : Int32)), .val (.ref aN), .val (.int (0 : Int32))] [])) t
        refine XS.goto X6.here hx rfl (pc0 := 28) (pc' := 79) rfl (hb hby at_28) (by decide) (by decide) ?_
        show Steps p.tables e below (T6.setTop (mkF m 79 #[.val (.int p1), .val (.int p2), .val (.int (p1 &&& (3 : Int32))), .val (.int (0 : Int32)), .val (.ref aN), .val (.int (0 : Int32))] [])) t
        refine XS.aload X6.here hx rfl (hb hby at_79) rfl rfl ?_
        show Steps p.tables e below (T6.setTop (mkF m 81 #[.val (.int p1), .val (.int p2), .val (.int (p1 &&& (3 : Int32))), .val (.int (0 : Int32)), .val (.ref aN), .val (.int (0 : Int32))] [(.ref aN)])) t
        refine XS.iloadN X6.here hx rfl (hb hby at_81) rfl ?_
        exact kt
      obtain ⟨cq9, kq9, q9a, q9b, q9c⟩ := isOf hZ e6 E_aN
      obtain ⟨_, _, ⟨T9, L9, k9c, n9⟩, -, X9, ⟨Lc9, hQ9, l9, y9, z9⟩, st9⟩ := X6.virtualBack hx (y := (⟨"com/example/orthrus/orthrus/model/ProtectedObjectPolicy$Audit", "covers", "(Z)Z"⟩ : MethodName)) (z := (⟨"com/example/orthrus/orthrus/model/ProtectedObjectPolicy$Audit", "covers", "(Z)Z"⟩ : MethodName)) hown (mvT hZ (hw _ (List.mem_of_getElem? (i := 3) rfl))) (mvT hZ (hw _ (List.mem_of_getElem? (i := 4) rfl))) (notFace_of_selects (args := #[]) (mvT hZ (hw _ (List.mem_of_getElem? (i := 6) rfl)))) (mvT hZ (hw _ (List.mem_of_getElem? (i := 6) rfl))) (mvT hZ (hw _ (List.mem_of_getElem? (i := 5) rfl))) (by decide) (backOf (W := 0) (rmC l Z a0 hw [] aN (0 : Int32) aA aP aD h0 n0 Z0 S_aA S_aP S_aD) hZ (hw _ (List.mem_of_getElem? (i := 7) rfl)) (hw _ (List.mem_of_getElem? (i := 1) rfl)) (by decide) (by decide)) q9a q9c (g := (mkF m 82 #[.val (.int p1), .val (.int p2), .val (.int (p1 &&& (3 : Int32))), .val (.int (0 : Int32)), .val (.ref aN), .val (.int (0 : Int32))] [(.int (0 : Int32)), (.ref aN)])) rfl (by rw [hml]; rfl) (Steps.refl _) (argsL := [(.int (0 : Int32))]) (rest := []) (lenOf own_pd0 rfl) rfl (by show 2 * 0 + _ ≤ _; exact Nat.le_of_eq rfl) (hb hby at_82) (fun _ _ => ⟨rfl, e6, (by decide : 0 + 0 ≤ _), (by decide : 0 + 0 ≤ _)⟩)
      dsimp only [Pt.U, Pt.locs, Pt.cells, Pt.slots] at X9 l9 y9 z9 st9 hQ9
      subst l9 y9 z9
      obtain ⟨rfl, N9q, e9⟩ := hQ9
      have N9 := Fr.app N0 N9q
      have k10 : ∀ t, Steps p.tables e below (T9.setTop (mkF m 85 #[.val (.int p1), .val (.int p2), .val (.int (p1 &&& (3 : Int32))), .val (.int (0 : Int32)), .val (.ref aN), .val (.int (0 : Int32))] [(.int (own_cov aN aA aP aD (0 : Int32)))])) t → Steps p.tables e below (s₁.setTop (entryFrame m #[(.int p1), (.int p2)] maxLocals)) t := fun t kt => k8 t (st9.trans kt)
      have k12 : ∀ t, Steps p.tables e below (T9.setTop (mkF m 87 #[.val (.int p1), .val (.int p2), .val (.int (p1 &&& (3 : Int32))), .val (.int (0 : Int32)), .val (.ref aN), .val (.int (0 : Int32))] [(.int (0 : Int32)), (.int (own_cov aN aA aP aD (0 : Int32)))])) t → Steps p.tables e below (s₁.setTop (entryFrame m #[(.int p1), (.int p2)] maxLocals)) t := by
        intro t kt
        refine k10 t ?_
        show Steps p.tables e below (T9.setTop (mkF m 85 #[.val (.int p1), .val (.int p2), .val (.int (p1 &&& (3 : Int32))), .val (.int (0 : Int32)), .val (.ref aN), .val (.int (0 : Int32))] [(.int (own_cov aN aA aP aD (0 : Int32)))])) t
        refine XS.iload X9.here hx rfl (hb hby at_85) rfl ?_
        exact kt
      have hc87_11 : (own_cov aN aA aP aD (0 : Int32)) = (0 : Int32) := by simp [own_cov, nNA, nNP, nND, nPA, nDA, nPD, Ne.symm nPD]
      have k13 : ∀ t, Steps p.tables e below (T9.setTop (mkF m 95 #[.val (.int p1), .val (.int p2), .val (.int (p1 &&& (3 : Int32))), .val (.int (0 : Int32)), .val (.ref aN), .val (.int (0 : Int32))] [(.int (1 : Int32))])) t → Steps p.tables e below (s₁.setTop (entryFrame m #[(.int p1), (.int p2)] maxLocals)) t := by
        intro t kt
        refine k12 t ?_
        show Steps p.tables e below (T9.setTop (mkF m 87 #[.val (.int p1), .val (.int p2), .val (.int (p1 &&& (3 : Int32))), .val (.int (0 : Int32)), .val (.ref aN), .val (.int (0 : Int32))] [(.int (0 : Int32)), (.int (own_cov aN aA aP aD (0 : Int32)))])) t
        refine XS.icmpNo X9.here hx rfl (hb hby at_87) rfl (teq hc87_11).2 ?_
        show Steps p.tables e below (T9.setTop (mkF m 90 #[.val (.int p1), .val (.int p2), .val (.int (p1 &&& (3 : Int32))), .val (.int (0 : Int32)), .val (.ref aN), .val (.int (0 : Int32))] [])) t
        refine XS.iconst X9.here hx rfl (hb hby at_90) ?_
        show Steps p.tables e below (T9.setTop (mkF m 91 #[.val (.int p1), .val (.int p2), .val (.int (p1 &&& (3 : Int32))), .val (.int (0 : Int32)), .val (.ref aN), .val (.int (0 : Int32))] [(.int (1 : Int32))])) t
        refine XS.goto X9.here hx rfl (pc0 := 91) (pc' := 95) rfl (hb hby at_91) (by decide) (by decide) ?_
        exact kt
      obtain ⟨fs, hr, hrun, hended, hW, hsame⟩ := X9.leave (v := some (.int (1 : Int32))) (fun h => by rw [Bd.returns] at h; cases h)
      refine ⟨_, _, k13 _ ?_, hrun, hended, _, _, rfl, ?_, ⟨_, rfl⟩, hW, hsame.mono (by decide) (by decide)⟩
      · show Steps p.tables e below (T9.setTop (mkF m 95 #[.val (.int p1), .val (.int p2), .val (.int (p1 &&& (3 : Int32))), .val (.int (0 : Int32)), .val (.ref aN), .val (.int (0 : Int32))] [(.int (1 : Int32))])) _
        exact retN X9 hx (t := .boolean) Bd.returns (by simp) (hb hby at_95) hr
      · show Q0 Z p1 p2 aN aA aP aD h0 n0 _ T9.heap _
        rw [e9]
        exact ⟨rfl, N9⟩
    · have k15 : ∀ t, Steps p.tables e below (s₁.setTop (mkF m 33 #[.val (.int p1), .val (.int p2), .val (.int (p1 &&& (3 : Int32))), .val (.int (0 : Int32)), .unset, .unset] [(.int (1 : Int32)), (.int (p1 &&& (3 : Int32)))])) t → Steps p.tables e below (s₁.setTop (entryFrame m #[(.int p1), (.int p2)] maxLocals)) t := by
        intro t kt
        refine k4 t ?_
        show Steps p.tables e below (s₁.setTop (mkF m 17 #[.val (.int p1), .val (.int p2), .val (.int (p1 &&& (3 : Int32))), .val (.int (0 : Int32)), .unset, .unset] [(.int (p1 &&& (3 : Int32)))])) t
        refine XS.ifYes X0.here hx rfl (pc0 := 17) (pc' := 31) rfl (hb hby at_17) rfl ((if0 _ _).trans (feq hc17_3).2) (by decide) (by decide) ?_
        show Steps p.tables e below (s₁.setTop (mkF m 31 #[.val (.int p1), .val (.int p2), .val (.int (p1 &&& (3 : Int32))), .val (.int (0 : Int32)), .unset, .unset] [])) t
        refine XS.iloadN X0.here hx rfl (hb hby at_31) rfl ?_
        show Steps p.tables e below (s₁.setTop (mkF m 32 #[.val (.int p1), .val (.int p2), .val (.int (p1 &&& (3 : Int32))), .val (.int (0 : Int32)), .unset, .unset] [(.int (p1 &&& (3 : Int32)))])) t
        refine XS.iconst X0.here hx rfl (hb hby at_32) ?_
        exact kt
      by_cases hc33_14 : (p1 &&& (3 : Int32)) = (1 : Int32)
      · have k16 : ∀ t, Steps p.tables e below (s₁.setTop (mkF m 36 #[.val (.int p1), .val (.int p2), .val (.int (p1 &&& (3 : Int32))), .val (.int (0 : Int32)), .unset, .unset] [])) t → Steps p.tables e below (s₁.setTop (entryFrame m #[(.int p1), (.int p2)] maxLocals)) t := by
          intro t kt
          refine k15 t ?_
          show Steps p.tables e below (s₁.setTop (mkF m 33 #[.val (.int p1), .val (.int p2), .val (.int (p1 &&& (3 : Int32))), .val (.int (0 : Int32)), .unset, .unset] [(.int (1 : Int32)), (.int (p1 &&& (3 : Int32)))])) t
          refine XS.icmpNo X0.here hx rfl (hb hby at_33) rfl (teq hc33_14).2 ?_
          exact kt
        obtain ⟨T17, X17, e17, st17⟩ := getS2 X0 hx hZ hown (host := "") (Or.inl (hw _ (List.mem_of_getElem? (i := 15) rfl))) Via.refl e0 S_aP (g := (mkF m 36 #[.val (.int p1), .val (.int p2), .val (.int (p1 &&& (3 : Int32))), .val (.int (0 : Int32)), .unset, .unset] [])) rfl (hb hby at_36)
        have k18 : ∀ t, Steps p.tables e below (T17.setTop (mkF m 39 #[.val (.int p1), .val (.int p2), .val (.int (p1 &&& (3 : Int32))), .val (.int (0 : Int32)), .unset, .unset] [(.ref aP)])) t → Steps p.tables e below (s₁.setTop (entryFrame m #[(.int p1), (.int p2)] maxLocals)) t := fun t kt => k16 t (st17 t kt)
        have k19 : ∀ t, Steps p.tables e below (T17.setTop (mkF m 82 #[.val (.int p1), .val (.int p2), .val (.int (p1 &&& (3 : Int32))), .val (.int (0 : Int32)), .val (.ref aP), .val (.int (0 : Int32))] [(.int (0 : Int32)), (.ref aP)])) t → Steps p.tables e below (s₁.setTop (entryFrame m #[(.int p1), (.int p2)] maxLocals)) t := by
          intro t kt
          refine k18 t ?_
          show Steps p.tables e below (T17.setTop (mkF m 39 #[.val (.int p1), .val (.int p2), .val (.int (p1 &&& (3 : Int32))), .val (.int (0 : Int32)), .unset, .unset] [(.ref aP)])) t
          refine XS.astore X17.here hx rfl (hb hby at_39) rfl rfl (l' := #[.val (.int p1), .val (.int p2), .val (.int (p1 &&& (3 : Int32))), .val (.int (0 : Int32)), .val (.ref aP), .unset]) rfl ?_
          show Steps p.tables e below (T17.setTop (mkF m 41 #[.val (.int p1), .val (.int p2), .val (.int (p1 &&& (3 : Int32))), .val (.int (0 : Int32)), .val (.ref aP), .unset] [])) t
          refine XS.iloadN X17.here hx rfl (hb hby at_41) rfl ?_
          show Steps p.tables e below (T17.setTop (mkF m 42 #[.val (.int p1), .val (.int p2), .val (.int (p1 &&& (3 : Int32))), .val (.int (0 : Int32)), .val (.ref aP), .unset] [(.int (0 : Int32))])) t
          refine XS.istore X17.here hx rfl (hb hby at_42) rfl (l' := #[.val (.int p1), .val (.int p2), .val (.int (p1 &&& (3 : Int32))), .val (.int (0 : Int32)), .val (.ref aP), .val (.int (0 : Int32))]) rfl ?_
          show Steps p.tables e below (T17.setTop (mkF m 44 #[.val (.int p1), .val (.int p2), .val (.int (p1 &&& (3 : Int32))), .val (.int (0 : Int32)), .val (.ref aP), .val (.int (0 : Int32))] [])) t
          refine XS.goto X17.here hx rfl (pc0 := 44) (pc' := 79) rfl (hb hby at_44) (by decide) (by decide) ?_
          show Steps p.tables e below (T17.setTop (mkF m 79 #[.val (.int p1), .val (.int p2), .val (.int (p1 &&& (3 : Int32))), .val (.int (0 : Int32)), .val (.ref aP), .val (.int (0 : Int32))] [])) t
          refine XS.aload X17.here hx rfl (hb hby at_79) rfl rfl ?_
          show Steps p.tables e below (T17.setTop (mkF m 81 #[.val (.int p1), .val (.int p2), .val (.int (p1 &&& (3 : Int32))), .val (.int (0 : Int32)), .val (.ref aP), .val (.int (0 : Int32))] [(.ref aP)])) t
          refine XS.iloadN X17.here hx rfl (hb hby at_81) rfl ?_
          exact kt
        obtain ⟨cq20, kq20, q20a, q20b, q20c⟩ := isOf hZ e17 E_aP
        obtain ⟨_, _, ⟨T20, L20, k20c, n20⟩, -, X20, ⟨Lc20, hQ20, l20, y20, z20⟩, st20⟩ := X17.virtualBack hx (y := (⟨"com/example/orthrus/orthrus/model/ProtectedObjectPolicy$Audit", "covers", "(Z)Z"⟩ : MethodName)) (z := (⟨"com/example/orthrus/orthrus/model/ProtectedObjectPolicy$Audit", "covers", "(Z)Z"⟩ : MethodName)) hown (mvT hZ (hw _ (List.mem_of_getElem? (i := 3) rfl))) (mvT hZ (hw _ (List.mem_of_getElem? (i := 4) rfl))) (notFace_of_selects (args := #[]) (mvT hZ (hw _ (List.mem_of_getElem? (i := 6) rfl)))) (mvT hZ (hw _ (List.mem_of_getElem? (i := 6) rfl))) (mvT hZ (hw _ (List.mem_of_getElem? (i := 5) rfl))) (by decide) (backOf (W := 0) (rmC l Z a0 hw [] aP (0 : Int32) aA aP aD h0 n0 Z0 S_aA S_aP S_aD) hZ (hw _ (List.mem_of_getElem? (i := 7) rfl)) (hw _ (List.mem_of_getElem? (i := 1) rfl)) (by decide) (by decide)) q20a q20c (g := (mkF m 82 #[.val (.int p1), .val (.int p2), .val (.int (p1 &&& (3 : Int32))), .val (.int (0 : Int32)), .val (.ref aP), .val (.int (0 : Int32))] [(.int (0 : Int32)), (.ref aP)])) rfl (by rw [hml]; rfl) (Steps.refl _) (argsL := [(.int (0 : Int32))]) (rest := []) (lenOf own_pd0 rfl) rfl (by show 2 * 0 + _ ≤ _; exact Nat.le_of_eq rfl) (hb hby at_82) (fun _ _ => ⟨rfl, e17, (by decide : 0 + 0 ≤ _), (by decide : 0 + 0 ≤ _)⟩)
        dsimp only [Pt.U, Pt.locs, Pt.cells, Pt.slots] at X20 l20 y20 z20 st20 hQ20
        subst l20 y20 z20
        obtain ⟨rfl, N20q, e20⟩ := hQ20
        have N20 := Fr.app N0 N20q
        have k21 : ∀ t, Steps p.tables e below (T20.setTop (mkF m 85 #[.val (.int p1), .val (.int p2), .val (.int (p1 &&& (3 : Int32))), .val (.int (0 : Int32)), .val (.ref aP), .val (.int (0 : Int32))] [(.int (own_cov aP aA aP aD (0 : Int32)))])) t → Steps p.tables e below (s₁.setTop (entryFrame m #[(.int p1), (.int p2)] maxLocals)) t := fun t kt => k19 t (st20.trans kt)
        have k23 : ∀ t, Steps p.tables e below (T20.setTop (mkF m 87 #[.val (.int p1), .val (.int p2), .val (.int (p1 &&& (3 : Int32))), .val (.int (0 : Int32)), .val (.ref aP), .val (.int (0 : Int32))] [(.int (0 : Int32)), (.int (own_cov aP aA aP aD (0 : Int32)))])) t → Steps p.tables e below (s₁.setTop (entryFrame m #[(.int p1), (.int p2)] maxLocals)) t := by
          intro t kt
          refine k21 t ?_
          show Steps p.tables e below (T20.setTop (mkF m 85 #[.val (.int p1), .val (.int p2), .val (.int (p1 &&& (3 : Int32))), .val (.int (0 : Int32)), .val (.ref aP), .val (.int (0 : Int32))] [(.int (own_cov aP aA aP aD (0 : Int32)))])) t
          refine XS.iload X20.here hx rfl (hb hby at_85) rfl ?_
          exact kt
        have hc87_22 : (own_cov aP aA aP aD (0 : Int32)) = (0 : Int32) := by simp [own_cov, nNA, nNP, nND, nPA, nDA, nPD, Ne.symm nPD]
        have k24 : ∀ t, Steps p.tables e below (T20.setTop (mkF m 95 #[.val (.int p1), .val (.int p2), .val (.int (p1 &&& (3 : Int32))), .val (.int (0 : Int32)), .val (.ref aP), .val (.int (0 : Int32))] [(.int (1 : Int32))])) t → Steps p.tables e below (s₁.setTop (entryFrame m #[(.int p1), (.int p2)] maxLocals)) t := by
          intro t kt
          refine k23 t ?_
          show Steps p.tables e below (T20.setTop (mkF m 87 #[.val (.int p1), .val (.int p2), .val (.int (p1 &&& (3 : Int32))), .val (.int (0 : Int32)), .val (.ref aP), .val (.int (0 : Int32))] [(.int (0 : Int32)), (.int (own_cov aP aA aP aD (0 : Int32)))])) t
          refine XS.icmpNo X20.here hx rfl (hb hby at_87) rfl (teq hc87_22).2 ?_
          show Steps p.tables e below (T20.setTop (mkF m 90 #[.val (.int p1), .val (.int p2), .val (.int (p1 &&& (3 : Int32))), .val (.int (0 : Int32)), .val (.ref aP), .val (.int (0 : Int32))] [])) t
          refine XS.iconst X20.here hx rfl (hb hby at_90) ?_
          show Steps p.tables e below (T20.setTop (mkF m 91 #[.val (.int p1), .val (.int p2), .val (.int (p1 &&& (3 : Int32))), .val (.int (0 : Int32)), .val (.ref aP), .val (.int (0 : Int32))] [(.int (1 : Int32))])) t
          refine XS.goto X20.here hx rfl (pc0 := 91) (pc' := 95) rfl (hb hby at_91) (by decide) (by decide) ?_
          exact kt
        obtain ⟨fs, hr, hrun, hended, hW, hsame⟩ := X20.leave (v := some (.int (1 : Int32))) (fun h => by rw [Bd.returns] at h; cases h)
        refine ⟨_, _, k24 _ ?_, hrun, hended, _, _, rfl, ?_, ⟨_, rfl⟩, hW, hsame.mono (by decide) (by decide)⟩
        · show Steps p.tables e below (T20.setTop (mkF m 95 #[.val (.int p1), .val (.int p2), .val (.int (p1 &&& (3 : Int32))), .val (.int (0 : Int32)), .val (.ref aP), .val (.int (0 : Int32))] [(.int (1 : Int32))])) _
          exact retN X20 hx (t := .boolean) Bd.returns (by simp) (hb hby at_95) hr
        · show Q0 Z p1 p2 aN aA aP aD h0 n0 _ T20.heap _
          rw [e20]
          exact ⟨rfl, N20⟩
      · have k26 : ∀ t, Steps p.tables e below (s₁.setTop (mkF m 49 #[.val (.int p1), .val (.int p2), .val (.int (p1 &&& (3 : Int32))), .val (.int (0 : Int32)), .unset, .unset] [(.int (2 : Int32)), (.int (p1 &&& (3 : Int32)))])) t → Steps p.tables e below (s₁.setTop (entryFrame m #[(.int p1), (.int p2)] maxLocals)) t := by
          intro t kt
          refine k15 t ?_
          show Steps p.tables e below (s₁.setTop (mkF m 33 #[.val (.int p1), .val (.int p2), .val (.int (p1 &&& (3 : Int32))), .val (.int (0 : Int32)), .unset, .unset] [(.int (1 : Int32)), (.int (p1 &&& (3 : Int32)))])) t
          refine XS.icmpYes X0.here hx rfl (pc0 := 33) (pc' := 47) rfl (hb hby at_33) rfl (feq hc33_14).2 (by decide) (by decide) ?_
          show Steps p.tables e below (s₁.setTop (mkF m 47 #[.val (.int p1), .val (.int p2), .val (.int (p1 &&& (3 : Int32))), .val (.int (0 : Int32)), .unset, .unset] [])) t
          refine XS.iloadN X0.here hx rfl (hb hby at_47) rfl ?_
          show Steps p.tables e below (s₁.setTop (mkF m 48 #[.val (.int p1), .val (.int p2), .val (.int (p1 &&& (3 : Int32))), .val (.int (0 : Int32)), .unset, .unset] [(.int (p1 &&& (3 : Int32)))])) t
          refine XS.iconst X0.here hx rfl (hb hby at_48) ?_
          exact kt
        by_cases hc49_25 : (p1 &&& (3 : Int32)) = (2 : Int32)
        · have k27 : ∀ t, Steps p.tables e below (s₁.setTop (mkF m 52 #[.val (.int p1), .val (.int p2), .val (.int (p1 &&& (3 : Int32))), .val (.int (0 : Int32)), .unset, .unset] [])) t → Steps p.tables e below (s₁.setTop (entryFrame m #[(.int p1), (.int p2)] maxLocals)) t := by
            intro t kt
            refine k26 t ?_
            show Steps p.tables e below (s₁.setTop (mkF m 49 #[.val (.int p1), .val (.int p2), .val (.int (p1 &&& (3 : Int32))), .val (.int (0 : Int32)), .unset, .unset] [(.int (2 : Int32)), (.int (p1 &&& (3 : Int32)))])) t
            refine XS.icmpNo X0.here hx rfl (hb hby at_49) rfl (teq hc49_25).2 ?_
            exact kt
          obtain ⟨T28, X28, e28, st28⟩ := getS2 X0 hx hZ hown (host := "") (Or.inl (hw _ (List.mem_of_getElem? (i := 12) rfl))) Via.refl e0 S_aD (g := (mkF m 52 #[.val (.int p1), .val (.int p2), .val (.int (p1 &&& (3 : Int32))), .val (.int (0 : Int32)), .unset, .unset] [])) rfl (hb hby at_52)
          have k29 : ∀ t, Steps p.tables e below (T28.setTop (mkF m 55 #[.val (.int p1), .val (.int p2), .val (.int (p1 &&& (3 : Int32))), .val (.int (0 : Int32)), .unset, .unset] [(.ref aD)])) t → Steps p.tables e below (s₁.setTop (entryFrame m #[(.int p1), (.int p2)] maxLocals)) t := fun t kt => k27 t (st28 t kt)
          have k31 : ∀ t, Steps p.tables e below (T28.setTop (mkF m 58 #[.val (.int p1), .val (.int p2), .val (.int (p1 &&& (3 : Int32))), .val (.int (0 : Int32)), .val (.ref aD), .unset] [(.int (0 : Int32))])) t → Steps p.tables e below (s₁.setTop (entryFrame m #[(.int p1), (.int p2)] maxLocals)) t := by
            intro t kt
            refine k29 t ?_
            show Steps p.tables e below (T28.setTop (mkF m 55 #[.val (.int p1), .val (.int p2), .val (.int (p1 &&& (3 : Int32))), .val (.int (0 : Int32)), .unset, .unset] [(.ref aD)])) t
            refine XS.astore X28.here hx rfl (hb hby at_55) rfl rfl (l' := #[.val (.int p1), .val (.int p2), .val (.int (p1 &&& (3 : Int32))), .val (.int (0 : Int32)), .val (.ref aD), .unset]) rfl ?_
            show Steps p.tables e below (T28.setTop (mkF m 57 #[.val (.int p1), .val (.int p2), .val (.int (p1 &&& (3 : Int32))), .val (.int (0 : Int32)), .val (.ref aD), .unset] [])) t
            refine XS.iloadN X28.here hx rfl (hb hby at_57) rfl ?_
            exact kt
          have hc58_30 : (0 : Int32) = (0 : Int32) := rfl
          have k32 : ∀ t, Steps p.tables e below (T28.setTop (mkF m 82 #[.val (.int p1), .val (.int p2), .val (.int (p1 &&& (3 : Int32))), .val (.int (0 : Int32)), .val (.ref aD), .val (.int (1 : Int32))] [(.int (0 : Int32)), (.ref aD)])) t → Steps p.tables e below (s₁.setTop (entryFrame m #[(.int p1), (.int p2)] maxLocals)) t := by
            intro t kt
            refine k31 t ?_
            show Steps p.tables e below (T28.setTop (mkF m 58 #[.val (.int p1), .val (.int p2), .val (.int (p1 &&& (3 : Int32))), .val (.int (0 : Int32)), .val (.ref aD), .unset] [(.int (0 : Int32))])) t
            refine XS.ifNo X28.here hx rfl (hb hby at_58) rfl ((if0 _ _).trans (teq hc58_30).2) ?_
            show Steps p.tables e below (T28.setTop (mkF m 61 #[.val (.int p1), .val (.int p2), .val (.int (p1 &&& (3 : Int32))), .val (.int (0 : Int32)), .val (.ref aD), .unset] [])) t
            refine XS.iconst X28.here hx rfl (hb hby at_61) ?_
            show Steps p.tables e below (T28.setTop (mkF m 62 #[.val (.int p1), .val (.int p2), .val (.int (p1 &&& (3 : Int32))), .val (.int (0 : Int32)), .val (.ref aD), .unset] [(.int (1 : Int32))])) t
            refine XS.goto X28.here hx rfl (pc0 := 62) (pc' := 66) rfl (hb hby at_62) (by decide) (by decide) ?_
            show Steps p.tables e below (T28.setTop (mkF m 66 #[.val (.int p1), .val (.int p2), .val (.int (p1 &&& (3 : Int32))), .val (.int (0 : Int32)), .val (.ref aD), .unset] [(.int (1 : Int32))])) t
            refine XS.istore X28.here hx rfl (hb hby at_66) rfl (l' := #[.val (.int p1), .val (.int p2), .val (.int (p1 &&& (3 : Int32))), .val (.int (0 : Int32)), .val (.ref aD), .val (.int (1 : Int32))]) rfl ?_
            show Steps p.tables e below (T28.setTop (mkF m 68 #[.val (.int p1), .val (.int p2), .val (.int (p1 &&& (3 : Int32))), .val (.int (0 : Int32)), .val (.ref aD), .val (.int (1 : Int32))] [])) t
            refine XS.goto X28.here hx rfl (pc0 := 68) (pc' := 79) rfl (hb hby at_68) (by decide) (by decide) ?_
            show Steps p.tables e below (T28.setTop (mkF m 79 #[.val (.int p1), .val (.int p2), .val (.int (p1 &&& (3 : Int32))), .val (.int (0 : Int32)), .val (.ref aD), .val (.int (1 : Int32))] [])) t
            refine XS.aload X28.here hx rfl (hb hby at_79) rfl rfl ?_
            show Steps p.tables e below (T28.setTop (mkF m 81 #[.val (.int p1), .val (.int p2), .val (.int (p1 &&& (3 : Int32))), .val (.int (0 : Int32)), .val (.ref aD), .val (.int (1 : Int32))] [(.ref aD)])) t
            refine XS.iloadN X28.here hx rfl (hb hby at_81) rfl ?_
            exact kt
          obtain ⟨cq33, kq33, q33a, q33b, q33c⟩ := isOf hZ e28 E_aD
          obtain ⟨_, _, ⟨T33, L33, k33c, n33⟩, -, X33, ⟨Lc33, hQ33, l33, y33, z33⟩, st33⟩ := X28.virtualBack hx (y := (⟨"com/example/orthrus/orthrus/model/ProtectedObjectPolicy$Audit", "covers", "(Z)Z"⟩ : MethodName)) (z := (⟨"com/example/orthrus/orthrus/model/ProtectedObjectPolicy$Audit", "covers", "(Z)Z"⟩ : MethodName)) hown (mvT hZ (hw _ (List.mem_of_getElem? (i := 3) rfl))) (mvT hZ (hw _ (List.mem_of_getElem? (i := 4) rfl))) (notFace_of_selects (args := #[]) (mvT hZ (hw _ (List.mem_of_getElem? (i := 6) rfl)))) (mvT hZ (hw _ (List.mem_of_getElem? (i := 6) rfl))) (mvT hZ (hw _ (List.mem_of_getElem? (i := 5) rfl))) (by decide) (backOf (W := 0) (rmC l Z a0 hw [] aD (0 : Int32) aA aP aD h0 n0 Z0 S_aA S_aP S_aD) hZ (hw _ (List.mem_of_getElem? (i := 7) rfl)) (hw _ (List.mem_of_getElem? (i := 1) rfl)) (by decide) (by decide)) q33a q33c (g := (mkF m 82 #[.val (.int p1), .val (.int p2), .val (.int (p1 &&& (3 : Int32))), .val (.int (0 : Int32)), .val (.ref aD), .val (.int (1 : Int32))] [(.int (0 : Int32)), (.ref aD)])) rfl (by rw [hml]; rfl) (Steps.refl _) (argsL := [(.int (0 : Int32))]) (rest := []) (lenOf own_pd0 rfl) rfl (by show 2 * 0 + _ ≤ _; exact Nat.le_of_eq rfl) (hb hby at_82) (fun _ _ => ⟨rfl, e28, (by decide : 0 + 0 ≤ _), (by decide : 0 + 0 ≤ _)⟩)
          dsimp only [Pt.U, Pt.locs, Pt.cells, Pt.slots] at X33 l33 y33 z33 st33 hQ33
          subst l33 y33 z33
          obtain ⟨rfl, N33q, e33⟩ := hQ33
          have N33 := Fr.app N0 N33q
          have k34 : ∀ t, Steps p.tables e below (T33.setTop (mkF m 85 #[.val (.int p1), .val (.int p2), .val (.int (p1 &&& (3 : Int32))), .val (.int (0 : Int32)), .val (.ref aD), .val (.int (1 : Int32))] [(.int (own_cov aD aA aP aD (0 : Int32)))])) t → Steps p.tables e below (s₁.setTop (entryFrame m #[(.int p1), (.int p2)] maxLocals)) t := fun t kt => k32 t (st33.trans kt)
          have k36 : ∀ t, Steps p.tables e below (T33.setTop (mkF m 87 #[.val (.int p1), .val (.int p2), .val (.int (p1 &&& (3 : Int32))), .val (.int (0 : Int32)), .val (.ref aD), .val (.int (1 : Int32))] [(.int (1 : Int32)), (.int (own_cov aD aA aP aD (0 : Int32)))])) t → Steps p.tables e below (s₁.setTop (entryFrame m #[(.int p1), (.int p2)] maxLocals)) t := by
            intro t kt
            refine k34 t ?_
            show Steps p.tables e below (T33.setTop (mkF m 85 #[.val (.int p1), .val (.int p2), .val (.int (p1 &&& (3 : Int32))), .val (.int (0 : Int32)), .val (.ref aD), .val (.int (1 : Int32))] [(.int (own_cov aD aA aP aD (0 : Int32)))])) t
            refine XS.iload X33.here hx rfl (hb hby at_85) rfl ?_
            exact kt
          have hc87_35 : (own_cov aD aA aP aD (0 : Int32)) = (1 : Int32) := by simp [own_cov, nNA, nNP, nND, nPA, nDA, nPD, Ne.symm nPD]
          have k37 : ∀ t, Steps p.tables e below (T33.setTop (mkF m 95 #[.val (.int p1), .val (.int p2), .val (.int (p1 &&& (3 : Int32))), .val (.int (0 : Int32)), .val (.ref aD), .val (.int (1 : Int32))] [(.int (1 : Int32))])) t → Steps p.tables e below (s₁.setTop (entryFrame m #[(.int p1), (.int p2)] maxLocals)) t := by
            intro t kt
            refine k36 t ?_
            show Steps p.tables e below (T33.setTop (mkF m 87 #[.val (.int p1), .val (.int p2), .val (.int (p1 &&& (3 : Int32))), .val (.int (0 : Int32)), .val (.ref aD), .val (.int (1 : Int32))] [(.int (1 : Int32)), (.int (own_cov aD aA aP aD (0 : Int32)))])) t
            refine XS.icmpNo X33.here hx rfl (hb hby at_87) rfl (teq hc87_35).2 ?_
            show Steps p.tables e below (T33.setTop (mkF m 90 #[.val (.int p1), .val (.int p2), .val (.int (p1 &&& (3 : Int32))), .val (.int (0 : Int32)), .val (.ref aD), .val (.int (1 : Int32))] [])) t
            refine XS.iconst X33.here hx rfl (hb hby at_90) ?_
            show Steps p.tables e below (T33.setTop (mkF m 91 #[.val (.int p1), .val (.int p2), .val (.int (p1 &&& (3 : Int32))), .val (.int (0 : Int32)), .val (.ref aD), .val (.int (1 : Int32))] [(.int (1 : Int32))])) t
            refine XS.goto X33.here hx rfl (pc0 := 91) (pc' := 95) rfl (hb hby at_91) (by decide) (by decide) ?_
            exact kt
          obtain ⟨fs, hr, hrun, hended, hW, hsame⟩ := X33.leave (v := some (.int (1 : Int32))) (fun h => by rw [Bd.returns] at h; cases h)
          refine ⟨_, _, k37 _ ?_, hrun, hended, _, _, rfl, ?_, ⟨_, rfl⟩, hW, hsame.mono (by decide) (by decide)⟩
          · show Steps p.tables e below (T33.setTop (mkF m 95 #[.val (.int p1), .val (.int p2), .val (.int (p1 &&& (3 : Int32))), .val (.int (0 : Int32)), .val (.ref aD), .val (.int (1 : Int32))] [(.int (1 : Int32))])) _
            exact retN X33 hx (t := .boolean) Bd.returns (by simp) (hb hby at_95) hr
          · show Q0 Z p1 p2 aN aA aP aD h0 n0 _ T33.heap _
            rw [e33]
            exact ⟨rfl, N33⟩
        · have k38 : ∀ t, Steps p.tables e below (s₁.setTop (mkF m 71 #[.val (.int p1), .val (.int p2), .val (.int (p1 &&& (3 : Int32))), .val (.int (0 : Int32)), .unset, .unset] [])) t → Steps p.tables e below (s₁.setTop (entryFrame m #[(.int p1), (.int p2)] maxLocals)) t := by
            intro t kt
            refine k26 t ?_
            show Steps p.tables e below (s₁.setTop (mkF m 49 #[.val (.int p1), .val (.int p2), .val (.int (p1 &&& (3 : Int32))), .val (.int (0 : Int32)), .unset, .unset] [(.int (2 : Int32)), (.int (p1 &&& (3 : Int32)))])) t
            refine XS.icmpYes X0.here hx rfl (pc0 := 49) (pc' := 71) rfl (hb hby at_49) rfl (feq hc49_25).2 (by decide) (by decide) ?_
            exact kt
          obtain ⟨T39, X39, e39, st39⟩ := getS2 X0 hx hZ hown (host := "") (Or.inl (hw _ (List.mem_of_getElem? (i := 16) rfl))) Via.refl e0 S_aA (g := (mkF m 71 #[.val (.int p1), .val (.int p2), .val (.int (p1 &&& (3 : Int32))), .val (.int (0 : Int32)), .unset, .unset] [])) rfl (hb hby at_71)
          have k40 : ∀ t, Steps p.tables e below (T39.setTop (mkF m 74 #[.val (.int p1), .val (.int p2), .val (.int (p1 &&& (3 : Int32))), .val (.int (0 : Int32)), .unset, .unset] [(.ref aA)])) t → Steps p.tables e below (s₁.setTop (entryFrame m #[(.int p1), (.int p2)] maxLocals)) t := fun t kt => k38 t (st39 t kt)
          have k41 : ∀ t, Steps p.tables e below (T39.setTop (mkF m 82 #[.val (.int p1), .val (.int p2), .val (.int (p1 &&& (3 : Int32))), .val (.int (0 : Int32)), .val (.ref aA), .val (.int (1 : Int32))] [(.int (0 : Int32)), (.ref aA)])) t → Steps p.tables e below (s₁.setTop (entryFrame m #[(.int p1), (.int p2)] maxLocals)) t := by
            intro t kt
            refine k40 t ?_
            show Steps p.tables e below (T39.setTop (mkF m 74 #[.val (.int p1), .val (.int p2), .val (.int (p1 &&& (3 : Int32))), .val (.int (0 : Int32)), .unset, .unset] [(.ref aA)])) t
            refine XS.astore X39.here hx rfl (hb hby at_74) rfl rfl (l' := #[.val (.int p1), .val (.int p2), .val (.int (p1 &&& (3 : Int32))), .val (.int (0 : Int32)), .val (.ref aA), .unset]) rfl ?_
            show Steps p.tables e below (T39.setTop (mkF m 76 #[.val (.int p1), .val (.int p2), .val (.int (p1 &&& (3 : Int32))), .val (.int (0 : Int32)), .val (.ref aA), .unset] [])) t
            refine XS.iconst X39.here hx rfl (hb hby at_76) ?_
            show Steps p.tables e below (T39.setTop (mkF m 77 #[.val (.int p1), .val (.int p2), .val (.int (p1 &&& (3 : Int32))), .val (.int (0 : Int32)), .val (.ref aA), .unset] [(.int (1 : Int32))])) t
            refine XS.istore X39.here hx rfl (hb hby at_77) rfl (l' := #[.val (.int p1), .val (.int p2), .val (.int (p1 &&& (3 : Int32))), .val (.int (0 : Int32)), .val (.ref aA), .val (.int (1 : Int32))]) rfl ?_
            show Steps p.tables e below (T39.setTop (mkF m 79 #[.val (.int p1), .val (.int p2), .val (.int (p1 &&& (3 : Int32))), .val (.int (0 : Int32)), .val (.ref aA), .val (.int (1 : Int32))] [])) t
            refine XS.aload X39.here hx rfl (hb hby at_79) rfl rfl ?_
            show Steps p.tables e below (T39.setTop (mkF m 81 #[.val (.int p1), .val (.int p2), .val (.int (p1 &&& (3 : Int32))), .val (.int (0 : Int32)), .val (.ref aA), .val (.int (1 : Int32))] [(.ref aA)])) t
            refine XS.iloadN X39.here hx rfl (hb hby at_81) rfl ?_
            exact kt
          obtain ⟨cq42, kq42, q42a, q42b, q42c⟩ := isOf hZ e39 E_aA
          obtain ⟨_, _, ⟨T42, L42, k42c, n42⟩, -, X42, ⟨Lc42, hQ42, l42, y42, z42⟩, st42⟩ := X39.virtualBack hx (y := (⟨"com/example/orthrus/orthrus/model/ProtectedObjectPolicy$Audit", "covers", "(Z)Z"⟩ : MethodName)) (z := (⟨"com/example/orthrus/orthrus/model/ProtectedObjectPolicy$Audit", "covers", "(Z)Z"⟩ : MethodName)) hown (mvT hZ (hw _ (List.mem_of_getElem? (i := 3) rfl))) (mvT hZ (hw _ (List.mem_of_getElem? (i := 4) rfl))) (notFace_of_selects (args := #[]) (mvT hZ (hw _ (List.mem_of_getElem? (i := 6) rfl)))) (mvT hZ (hw _ (List.mem_of_getElem? (i := 6) rfl))) (mvT hZ (hw _ (List.mem_of_getElem? (i := 5) rfl))) (by decide) (backOf (W := 0) (rmC l Z a0 hw [] aA (0 : Int32) aA aP aD h0 n0 Z0 S_aA S_aP S_aD) hZ (hw _ (List.mem_of_getElem? (i := 7) rfl)) (hw _ (List.mem_of_getElem? (i := 1) rfl)) (by decide) (by decide)) q42a q42c (g := (mkF m 82 #[.val (.int p1), .val (.int p2), .val (.int (p1 &&& (3 : Int32))), .val (.int (0 : Int32)), .val (.ref aA), .val (.int (1 : Int32))] [(.int (0 : Int32)), (.ref aA)])) rfl (by rw [hml]; rfl) (Steps.refl _) (argsL := [(.int (0 : Int32))]) (rest := []) (lenOf own_pd0 rfl) rfl (by show 2 * 0 + _ ≤ _; exact Nat.le_of_eq rfl) (hb hby at_82) (fun _ _ => ⟨rfl, e39, (by decide : 0 + 0 ≤ _), (by decide : 0 + 0 ≤ _)⟩)
          dsimp only [Pt.U, Pt.locs, Pt.cells, Pt.slots] at X42 l42 y42 z42 st42 hQ42
          subst l42 y42 z42
          obtain ⟨rfl, N42q, e42⟩ := hQ42
          have N42 := Fr.app N0 N42q
          have k43 : ∀ t, Steps p.tables e below (T42.setTop (mkF m 85 #[.val (.int p1), .val (.int p2), .val (.int (p1 &&& (3 : Int32))), .val (.int (0 : Int32)), .val (.ref aA), .val (.int (1 : Int32))] [(.int (own_cov aA aA aP aD (0 : Int32)))])) t → Steps p.tables e below (s₁.setTop (entryFrame m #[(.int p1), (.int p2)] maxLocals)) t := fun t kt => k41 t (st42.trans kt)
          have k45 : ∀ t, Steps p.tables e below (T42.setTop (mkF m 87 #[.val (.int p1), .val (.int p2), .val (.int (p1 &&& (3 : Int32))), .val (.int (0 : Int32)), .val (.ref aA), .val (.int (1 : Int32))] [(.int (1 : Int32)), (.int (own_cov aA aA aP aD (0 : Int32)))])) t → Steps p.tables e below (s₁.setTop (entryFrame m #[(.int p1), (.int p2)] maxLocals)) t := by
            intro t kt
            refine k43 t ?_
            show Steps p.tables e below (T42.setTop (mkF m 85 #[.val (.int p1), .val (.int p2), .val (.int (p1 &&& (3 : Int32))), .val (.int (0 : Int32)), .val (.ref aA), .val (.int (1 : Int32))] [(.int (own_cov aA aA aP aD (0 : Int32)))])) t
            refine XS.iload X42.here hx rfl (hb hby at_85) rfl ?_
            exact kt
          have hc87_44 : (own_cov aA aA aP aD (0 : Int32)) = (1 : Int32) := by simp [own_cov, nNA, nNP, nND, nPA, nDA, nPD, Ne.symm nPD]
          have k46 : ∀ t, Steps p.tables e below (T42.setTop (mkF m 95 #[.val (.int p1), .val (.int p2), .val (.int (p1 &&& (3 : Int32))), .val (.int (0 : Int32)), .val (.ref aA), .val (.int (1 : Int32))] [(.int (1 : Int32))])) t → Steps p.tables e below (s₁.setTop (entryFrame m #[(.int p1), (.int p2)] maxLocals)) t := by
            intro t kt
            refine k45 t ?_
            show Steps p.tables e below (T42.setTop (mkF m 87 #[.val (.int p1), .val (.int p2), .val (.int (p1 &&& (3 : Int32))), .val (.int (0 : Int32)), .val (.ref aA), .val (.int (1 : Int32))] [(.int (1 : Int32)), (.int (own_cov aA aA aP aD (0 : Int32)))])) t
            refine XS.icmpNo X42.here hx rfl (hb hby at_87) rfl (teq hc87_44).2 ?_
            show Steps p.tables e below (T42.setTop (mkF m 90 #[.val (.int p1), .val (.int p2), .val (.int (p1 &&& (3 : Int32))), .val (.int (0 : Int32)), .val (.ref aA), .val (.int (1 : Int32))] [])) t
            refine XS.iconst X42.here hx rfl (hb hby at_90) ?_
            show Steps p.tables e below (T42.setTop (mkF m 91 #[.val (.int p1), .val (.int p2), .val (.int (p1 &&& (3 : Int32))), .val (.int (0 : Int32)), .val (.ref aA), .val (.int (1 : Int32))] [(.int (1 : Int32))])) t
            refine XS.goto X42.here hx rfl (pc0 := 91) (pc' := 95) rfl (hb hby at_91) (by decide) (by decide) ?_
            exact kt
          obtain ⟨fs, hr, hrun, hended, hW, hsame⟩ := X42.leave (v := some (.int (1 : Int32))) (fun h => by rw [Bd.returns] at h; cases h)
          refine ⟨_, _, k46 _ ?_, hrun, hended, _, _, rfl, ?_, ⟨_, rfl⟩, hW, hsame.mono (by decide) (by decide)⟩
          · show Steps p.tables e below (T42.setTop (mkF m 95 #[.val (.int p1), .val (.int p2), .val (.int (p1 &&& (3 : Int32))), .val (.int (0 : Int32)), .val (.ref aA), .val (.int (1 : Int32))] [(.int (1 : Int32))])) _
            exact retN X42 hx (t := .boolean) Bd.returns (by simp) (hb hby at_95) hr
          · show Q0 Z p1 p2 aN aA aP aD h0 n0 _ T42.heap _
            rw [e42]
            exact ⟨rfl, N42⟩
  · have k48 : ∀ t, Steps p.tables e below (s₁.setTop (mkF m 17 #[.val (.int p1), .val (.int p2), .val (.int (p1 &&& (3 : Int32))), .val (.int (1 : Int32)), .unset, .unset] [(.int (p1 &&& (3 : Int32)))])) t → Steps p.tables e below (s₁.setTop (entryFrame m #[(.int p1), (.int p2)] maxLocals)) t := by
      intro t kt
      refine k2 t ?_
      show Steps p.tables e below (s₁.setTop (mkF m 7 #[.val (.int p1), .val (.int p2), .val (.int (p1 &&& (3 : Int32))), .unset, .unset, .unset] [(.int (p2 &&& (1 : Int32)))])) t
      refine XS.ifNo X0.here hx rfl (hb hby at_7) rfl ((if0 _ _).trans (feq hc7_1).1) ?_
      show Steps p.tables e below (s₁.setTop (mkF m 10 #[.val (.int p1), .val (.int p2), .val (.int (p1 &&& (3 : Int32))), .unset, .unset, .unset] [])) t
      refine XS.iconst X0.here hx rfl (hb hby at_10) ?_
      show Steps p.tables e below (s₁.setTop (mkF m 11 #[.val (.int p1), .val (.int p2), .val (.int (p1 &&& (3 : Int32))), .unset, .unset, .unset] [(.int (1 : Int32))])) t
      refine XS.goto X0.here hx rfl (pc0 := 11) (pc' := 15) rfl (hb hby at_11) (by decide) (by decide) ?_
      show Steps p.tables e below (s₁.setTop (mkF m 15 #[.val (.int p1), .val (.int p2), .val (.int (p1 &&& (3 : Int32))), .unset, .unset, .unset] [(.int (1 : Int32))])) t
      refine XS.istoreN X0.here hx rfl (hb hby at_15) rfl (l' := #[.val (.int p1), .val (.int p2), .val (.int (p1 &&& (3 : Int32))), .val (.int (1 : Int32)), .unset, .unset]) rfl ?_
      show Steps p.tables e below (s₁.setTop (mkF m 16 #[.val (.int p1), .val (.int p2), .val (.int (p1 &&& (3 : Int32))), .val (.int (1 : Int32)), .unset, .unset] [])) t
      refine XS.iloadN X0.here hx rfl (hb hby at_16) rfl ?_
      exact kt
    by_cases hc17_47 : (p1 &&& (3 : Int32)) = (0 : Int32)
    · have k49 : ∀ t, Steps p.tables e below (s₁.setTop (mkF m 20 #[.val (.int p1), .val (.int p2), .val (.int (p1 &&& (3 : Int32))), .val (.int (1 : Int32)), .unset, .unset] [])) t → Steps p.tables e below (s₁.setTop (entryFrame m #[(.int p1), (.int p2)] maxLocals)) t := by
        intro t kt
        refine k48 t ?_
        show Steps p.tables e below (s₁.setTop (mkF m 17 #[.val (.int p1), .val (.int p2), .val (.int (p1 &&& (3 : Int32))), .val (.int (1 : Int32)), .unset, .unset] [(.int (p1 &&& (3 : Int32)))])) t
        refine XS.ifNo X0.here hx rfl (hb hby at_17) rfl ((if0 _ _).trans (teq hc17_47).2) ?_
        exact kt
      obtain ⟨T50, X50, e50, st50⟩ := getS2 X0 hx hZ hown (host := "") (Or.inl (hw _ (List.mem_of_getElem? (i := 0) rfl))) Via.refl e0 S_aN (g := (mkF m 20 #[.val (.int p1), .val (.int p2), .val (.int (p1 &&& (3 : Int32))), .val (.int (1 : Int32)), .unset, .unset] [])) rfl (hb hby at_20)
      have k51 : ∀ t, Steps p.tables e below (T50.setTop (mkF m 23 #[.val (.int p1), .val (.int p2), .val (.int (p1 &&& (3 : Int32))), .val (.int (1 : Int32)), .unset, .unset] [(.ref aN)])) t → Steps p.tables e below (s₁.setTop (entryFrame m #[(.int p1), (.int p2)] maxLocals)) t := fun t kt => k49 t (st50 t kt)
      have k52 : ∀ t, Steps p.tables e below (T50.setTop (mkF m 82 #[.val (.int p1), .val (.int p2), .val (.int (p1 &&& (3 : Int32))), .val (.int (1 : Int32)), .val (.ref aN), .val (.int (0 : Int32))] [(.int (1 : Int32)), (.ref aN)])) t → Steps p.tables e below (s₁.setTop (entryFrame m #[(.int p1), (.int p2)] maxLocals)) t := by
        intro t kt
        refine k51 t ?_
        show Steps p.tables e below (T50.setTop (mkF m 23 #[.val (.int p1), .val (.int p2), .val (.int (p1 &&& (3 : Int32))), .val (.int (1 : Int32)), .unset, .unset] [(.ref aN)])) t
        refine XS.astore X50.here hx rfl (hb hby at_23) rfl rfl (l' := #[.val (.int p1), .val (.int p2), .val (.int (p1 &&& (3 : Int32))), .val (.int (1 : Int32)), .val (.ref aN), .unset]) rfl ?_
        show Steps p.tables e below (T50.setTop (mkF m 25 #[.val (.int p1), .val (.int p2), .val (.int (p1 &&& (3 : Int32))), .val (.int (1 : Int32)), .val (.ref aN), .unset] [])) t
        refine XS.iconst X50.here hx rfl (hb hby at_25) ?_
        show Steps p.tables e below (T50.setTop (mkF m 26 #[.val (.int p1), .val (.int p2), .val (.int (p1 &&& (3 : Int32))), .val (.int (1 : Int32)), .val (.ref aN), .unset] [(.int (0 : Int32))])) t
        refine XS.istore X50.here hx rfl (hb hby at_26) rfl (l' := #[.val (.int p1), .val (.int p2), .val (.int (p1 &&& (3 : Int32))), .val (.int (1 : Int32)), .val (.ref aN), .val (.int (0 : Int32))]) rfl ?_
        show Steps p.tables e below (T50.setTop (mkF m 28 #[.val (.int p1), .val (.int p2), .val (.int (p1 &&& (3 : Int32))), .val (.int (1 : Int32)), .val (.ref aN), .val (.int (0 : Int32))] [])) t
        refine XS.goto X50.here hx rfl (pc0 := 28) (pc' := 79) rfl (hb hby at_28) (by decide) (by decide) ?_
        show Steps p.tables e below (T50.setTop (mkF m 79 #[.val (.int p1), .val (.int p2), .val (.int (p1 &&& (3 : Int32))), .val (.int (1 : Int32)), .val (.ref aN), .val (.int (0 : Int32))] [])) t
        refine XS.aload X50.here hx rfl (hb hby at_79) rfl rfl ?_
        show Steps p.tables e below (T50.setTop (mkF m 81 #[.val (.int p1), .val (.int p2), .val (.int (p1 &&& (3 : Int32))), .val (.int (1 : Int32)), .val (.ref aN), .val (.int (0 : Int32))] [(.ref aN)])) t
        refine XS.iloadN X50.here hx rfl (hb hby at_81) rfl ?_
        exact kt
      obtain ⟨cq53, kq53, q53a, q53b, q53c⟩ := isOf hZ e50 E_aN
      obtain ⟨_, _, ⟨T53, L53, k53c, n53⟩, -, X53, ⟨Lc53, hQ53, l53, y53, z53⟩, st53⟩ := X50.virtualBack hx (y := (⟨"com/example/orthrus/orthrus/model/ProtectedObjectPolicy$Audit", "covers", "(Z)Z"⟩ : MethodName)) (z := (⟨"com/example/orthrus/orthrus/model/ProtectedObjectPolicy$Audit", "covers", "(Z)Z"⟩ : MethodName)) hown (mvT hZ (hw _ (List.mem_of_getElem? (i := 3) rfl))) (mvT hZ (hw _ (List.mem_of_getElem? (i := 4) rfl))) (notFace_of_selects (args := #[]) (mvT hZ (hw _ (List.mem_of_getElem? (i := 6) rfl)))) (mvT hZ (hw _ (List.mem_of_getElem? (i := 6) rfl))) (mvT hZ (hw _ (List.mem_of_getElem? (i := 5) rfl))) (by decide) (backOf (W := 0) (rmC l Z a0 hw [] aN (1 : Int32) aA aP aD h0 n0 Z0 S_aA S_aP S_aD) hZ (hw _ (List.mem_of_getElem? (i := 7) rfl)) (hw _ (List.mem_of_getElem? (i := 1) rfl)) (by decide) (by decide)) q53a q53c (g := (mkF m 82 #[.val (.int p1), .val (.int p2), .val (.int (p1 &&& (3 : Int32))), .val (.int (1 : Int32)), .val (.ref aN), .val (.int (0 : Int32))] [(.int (1 : Int32)), (.ref aN)])) rfl (by rw [hml]; rfl) (Steps.refl _) (argsL := [(.int (1 : Int32))]) (rest := []) (lenOf own_pd0 rfl) rfl (by show 2 * 0 + _ ≤ _; exact Nat.le_of_eq rfl) (hb hby at_82) (fun _ _ => ⟨rfl, e50, (by decide : 0 + 0 ≤ _), (by decide : 0 + 0 ≤ _)⟩)
      dsimp only [Pt.U, Pt.locs, Pt.cells, Pt.slots] at X53 l53 y53 z53 st53 hQ53
      subst l53 y53 z53
      obtain ⟨rfl, N53q, e53⟩ := hQ53
      have N53 := Fr.app N0 N53q
      have k54 : ∀ t, Steps p.tables e below (T53.setTop (mkF m 85 #[.val (.int p1), .val (.int p2), .val (.int (p1 &&& (3 : Int32))), .val (.int (1 : Int32)), .val (.ref aN), .val (.int (0 : Int32))] [(.int (own_cov aN aA aP aD (1 : Int32)))])) t → Steps p.tables e below (s₁.setTop (entryFrame m #[(.int p1), (.int p2)] maxLocals)) t := fun t kt => k52 t (st53.trans kt)
      have k56 : ∀ t, Steps p.tables e below (T53.setTop (mkF m 87 #[.val (.int p1), .val (.int p2), .val (.int (p1 &&& (3 : Int32))), .val (.int (1 : Int32)), .val (.ref aN), .val (.int (0 : Int32))] [(.int (0 : Int32)), (.int (own_cov aN aA aP aD (1 : Int32)))])) t → Steps p.tables e below (s₁.setTop (entryFrame m #[(.int p1), (.int p2)] maxLocals)) t := by
        intro t kt
        refine k54 t ?_
        show Steps p.tables e below (T53.setTop (mkF m 85 #[.val (.int p1), .val (.int p2), .val (.int (p1 &&& (3 : Int32))), .val (.int (1 : Int32)), .val (.ref aN), .val (.int (0 : Int32))] [(.int (own_cov aN aA aP aD (1 : Int32)))])) t
        refine XS.iload X53.here hx rfl (hb hby at_85) rfl ?_
        exact kt
      have hc87_55 : (own_cov aN aA aP aD (1 : Int32)) = (0 : Int32) := by simp [own_cov, nNA, nNP, nND, nPA, nDA, nPD, Ne.symm nPD]
      have k57 : ∀ t, Steps p.tables e below (T53.setTop (mkF m 95 #[.val (.int p1), .val (.int p2), .val (.int (p1 &&& (3 : Int32))), .val (.int (1 : Int32)), .val (.ref aN), .val (.int (0 : Int32))] [(.int (1 : Int32))])) t → Steps p.tables e below (s₁.setTop (entryFrame m #[(.int p1), (.int p2)] maxLocals)) t := by
        intro t kt
        refine k56 t ?_
        show Steps p.tables e below (T53.setTop (mkF m 87 #[.val (.int p1), .val (.int p2), .val (.int (p1 &&& (3 : Int32))), .val (.int (1 : Int32)), .val (.ref aN), .val (.int (0 : Int32))] [(.int (0 : Int32)), (.int (own_cov aN aA aP aD (1 : Int32)))])) t
        refine XS.icmpNo X53.here hx rfl (hb hby at_87) rfl (teq hc87_55).2 ?_
        show Steps p.tables e below (T53.setTop (mkF m 90 #[.val (.int p1), .val (.int p2), .val (.int (p1 &&& (3 : Int32))), .val (.int (1 : Int32)), .val (.ref aN), .val (.int (0 : Int32))] [])) t
        refine XS.iconst X53.here hx rfl (hb hby at_90) ?_
        show Steps p.tables e below (T53.setTop (mkF m 91 #[.val (.int p1), .val (.int p2), .val (.int (p1 &&& (3 : Int32))), .val (.int (1 : Int32)), .val (.ref aN), .val (.int (0 : Int32))] [(.int (1 : Int32))])) t
        refine XS.goto X53.here hx rfl (pc0 := 91) (pc' := 95) rfl (hb hby at_91) (by decide) (by decide) ?_
        exact kt
      obtain ⟨fs, hr, hrun, hended, hW, hsame⟩ := X53.leave (v := some (.int (1 : Int32))) (fun h => by rw [Bd.returns] at h; cases h)
      refine ⟨_, _, k57 _ ?_, hrun, hended, _, _, rfl, ?_, ⟨_, rfl⟩, hW, hsame.mono (by decide) (by decide)⟩
      · show Steps p.tables e below (T53.setTop (mkF m 95 #[.val (.int p1), .val (.int p2), .val (.int (p1 &&& (3 : Int32))), .val (.int (1 : Int32)), .val (.ref aN), .val (.int (0 : Int32))] [(.int (1 : Int32))])) _
        exact retN X53 hx (t := .boolean) Bd.returns (by simp) (hb hby at_95) hr
      · show Q0 Z p1 p2 aN aA aP aD h0 n0 _ T53.heap _
        rw [e53]
        exact ⟨rfl, N53⟩
    · have k59 : ∀ t, Steps p.tables e below (s₁.setTop (mkF m 33 #[.val (.int p1), .val (.int p2), .val (.int (p1 &&& (3 : Int32))), .val (.int (1 : Int32)), .unset, .unset] [(.int (1 : Int32)), (.int (p1 &&& (3 : Int32)))])) t → Steps p.tables e below (s₁.setTop (entryFrame m #[(.int p1), (.int p2)] maxLocals)) t := by
        intro t kt
        refine k48 t ?_
        show Steps p.tables e below (s₁.setTop (mkF m 17 #[.val (.int p1), .val (.int p2), .val (.int (p1 &&& (3 : Int32))), .val (.int (1 : Int32)), .unset, .unset] [(.int (p1 &&& (3 : Int32)))])) t
        refine XS.ifYes X0.here hx rfl (pc0 := 17) (pc' := 31) rfl (hb hby at_17) rfl ((if0 _ _).trans (feq hc17_47).2) (by decide) (by decide) ?_
        show Steps p.tables e below (s₁.setTop (mkF m 31 #[.val (.int p1), .val (.int p2), .val (.int (p1 &&& (3 : Int32))), .val (.int (1 : Int32)), .unset, .unset] [])) t
        refine XS.iloadN X0.here hx rfl (hb hby at_31) rfl ?_
        show Steps p.tables e below (s₁.setTop (mkF m 32 #[.val (.int p1), .val (.int p2), .val (.int (p1 &&& (3 : Int32))), .val (.int (1 : Int32)), .unset, .unset] [(.int (p1 &&& (3 : Int32)))])) t
        refine XS.iconst X0.here hx rfl (hb hby at_32) ?_
        exact kt
      by_cases hc33_58 : (p1 &&& (3 : Int32)) = (1 : Int32)
      · have k60 : ∀ t, Steps p.tables e below (s₁.setTop (mkF m 36 #[.val (.int p1), .val (.int p2), .val (.int (p1 &&& (3 : Int32))), .val (.int (1 : Int32)), .unset, .unset] [])) t → Steps p.tables e below (s₁.setTop (entryFrame m #[(.int p1), (.int p2)] maxLocals)) t := by
          intro t kt
          refine k59 t ?_
          show Steps p.tables e below (s₁.setTop (mkF m 33 #[.val (.int p1), .val (.int p2), .val (.int (p1 &&& (3 : Int32))), .val (.int (1 : Int32)), .unset, .unset] [(.int (1 : Int32)), (.int (p1 &&& (3 : Int32)))])) t
          refine XS.icmpNo X0.here hx rfl (hb hby at_33) rfl (teq hc33_58).2 ?_
          exact kt
        obtain ⟨T61, X61, e61, st61⟩ := getS2 X0 hx hZ hown (host := "") (Or.inl (hw _ (List.mem_of_getElem? (i := 15) rfl))) Via.refl e0 S_aP (g := (mkF m 36 #[.val (.int p1), .val (.int p2), .val (.int (p1 &&& (3 : Int32))), .val (.int (1 : Int32)), .unset, .unset] [])) rfl (hb hby at_36)
        have k62 : ∀ t, Steps p.tables e below (T61.setTop (mkF m 39 #[.val (.int p1), .val (.int p2), .val (.int (p1 &&& (3 : Int32))), .val (.int (1 : Int32)), .unset, .unset] [(.ref aP)])) t → Steps p.tables e below (s₁.setTop (entryFrame m #[(.int p1), (.int p2)] maxLocals)) t := fun t kt => k60 t (st61 t kt)
        have k63 : ∀ t, Steps p.tables e below (T61.setTop (mkF m 82 #[.val (.int p1), .val (.int p2), .val (.int (p1 &&& (3 : Int32))), .val (.int (1 : Int32)), .val (.ref aP), .val (.int (1 : Int32))] [(.int (1 : Int32)), (.ref aP)])) t → Steps p.tables e below (s₁.setTop (entryFrame m #[(.int p1), (.int p2)] maxLocals)) t := by
          intro t kt
          refine k62 t ?_
          show Steps p.tables e below (T61.setTop (mkF m 39 #[.val (.int p1), .val (.int p2), .val (.int (p1 &&& (3 : Int32))), .val (.int (1 : Int32)), .unset, .unset] [(.ref aP)])) t
          refine XS.astore X61.here hx rfl (hb hby at_39) rfl rfl (l' := #[.val (.int p1), .val (.int p2), .val (.int (p1 &&& (3 : Int32))), .val (.int (1 : Int32)), .val (.ref aP), .unset]) rfl ?_
          show Steps p.tables e below (T61.setTop (mkF m 41 #[.val (.int p1), .val (.int p2), .val (.int (p1 &&& (3 : Int32))), .val (.int (1 : Int32)), .val (.ref aP), .unset] [])) t
          refine XS.iloadN X61.here hx rfl (hb hby at_41) rfl ?_
          show Steps p.tables e below (T61.setTop (mkF m 42 #[.val (.int p1), .val (.int p2), .val (.int (p1 &&& (3 : Int32))), .val (.int (1 : Int32)), .val (.ref aP), .unset] [(.int (1 : Int32))])) t
          refine XS.istore X61.here hx rfl (hb hby at_42) rfl (l' := #[.val (.int p1), .val (.int p2), .val (.int (p1 &&& (3 : Int32))), .val (.int (1 : Int32)), .val (.ref aP), .val (.int (1 : Int32))]) rfl ?_
          show Steps p.tables e below (T61.setTop (mkF m 44 #[.val (.int p1), .val (.int p2), .val (.int (p1 &&& (3 : Int32))), .val (.int (1 : Int32)), .val (.ref aP), .val (.int (1 : Int32))] [])) t
          refine XS.goto X61.here hx rfl (pc0 := 44) (pc' := 79) rfl (hb hby at_44) (by decide) (by decide) ?_
          show Steps p.tables e below (T61.setTop (mkF m 79 #[.val (.int p1), .val (.int p2), .val (.int (p1 &&& (3 : Int32))), .val (.int (1 : Int32)), .val (.ref aP), .val (.int (1 : Int32))] [])) t
          refine XS.aload X61.here hx rfl (hb hby at_79) rfl rfl ?_
          show Steps p.tables e below (T61.setTop (mkF m 81 #[.val (.int p1), .val (.int p2), .val (.int (p1 &&& (3 : Int32))), .val (.int (1 : Int32)), .val (.ref aP), .val (.int (1 : Int32))] [(.ref aP)])) t
          refine XS.iloadN X61.here hx rfl (hb hby at_81) rfl ?_
          exact kt
        obtain ⟨cq64, kq64, q64a, q64b, q64c⟩ := isOf hZ e61 E_aP
        obtain ⟨_, _, ⟨T64, L64, k64c, n64⟩, -, X64, ⟨Lc64, hQ64, l64, y64, z64⟩, st64⟩ := X61.virtualBack hx (y := (⟨"com/example/orthrus/orthrus/model/ProtectedObjectPolicy$Audit", "covers", "(Z)Z"⟩ : MethodName)) (z := (⟨"com/example/orthrus/orthrus/model/ProtectedObjectPolicy$Audit", "covers", "(Z)Z"⟩ : MethodName)) hown (mvT hZ (hw _ (List.mem_of_getElem? (i := 3) rfl))) (mvT hZ (hw _ (List.mem_of_getElem? (i := 4) rfl))) (notFace_of_selects (args := #[]) (mvT hZ (hw _ (List.mem_of_getElem? (i := 6) rfl)))) (mvT hZ (hw _ (List.mem_of_getElem? (i := 6) rfl))) (mvT hZ (hw _ (List.mem_of_getElem? (i := 5) rfl))) (by decide) (backOf (W := 0) (rmC l Z a0 hw [] aP (1 : Int32) aA aP aD h0 n0 Z0 S_aA S_aP S_aD) hZ (hw _ (List.mem_of_getElem? (i := 7) rfl)) (hw _ (List.mem_of_getElem? (i := 1) rfl)) (by decide) (by decide)) q64a q64c (g := (mkF m 82 #[.val (.int p1), .val (.int p2), .val (.int (p1 &&& (3 : Int32))), .val (.int (1 : Int32)), .val (.ref aP), .val (.int (1 : Int32))] [(.int (1 : Int32)), (.ref aP)])) rfl (by rw [hml]; rfl) (Steps.refl _) (argsL := [(.int (1 : Int32))]) (rest := []) (lenOf own_pd0 rfl) rfl (by show 2 * 0 + _ ≤ _; exact Nat.le_of_eq rfl) (hb hby at_82) (fun _ _ => ⟨rfl, e61, (by decide : 0 + 0 ≤ _), (by decide : 0 + 0 ≤ _)⟩)
        dsimp only [Pt.U, Pt.locs, Pt.cells, Pt.slots] at X64 l64 y64 z64 st64 hQ64
        subst l64 y64 z64
        obtain ⟨rfl, N64q, e64⟩ := hQ64
        have N64 := Fr.app N0 N64q
        have k65 : ∀ t, Steps p.tables e below (T64.setTop (mkF m 85 #[.val (.int p1), .val (.int p2), .val (.int (p1 &&& (3 : Int32))), .val (.int (1 : Int32)), .val (.ref aP), .val (.int (1 : Int32))] [(.int (own_cov aP aA aP aD (1 : Int32)))])) t → Steps p.tables e below (s₁.setTop (entryFrame m #[(.int p1), (.int p2)] maxLocals)) t := fun t kt => k63 t (st64.trans kt)
        have k67 : ∀ t, Steps p.tables e below (T64.setTop (mkF m 87 #[.val (.int p1), .val (.int p2), .val (.int (p1 &&& (3 : Int32))), .val (.int (1 : Int32)), .val (.ref aP), .val (.int (1 : Int32))] [(.int (1 : Int32)), (.int (own_cov aP aA aP aD (1 : Int32)))])) t → Steps p.tables e below (s₁.setTop (entryFrame m #[(.int p1), (.int p2)] maxLocals)) t := by
          intro t kt
          refine k65 t ?_
          show Steps p.tables e below (T64.setTop (mkF m 85 #[.val (.int p1), .val (.int p2), .val (.int (p1 &&& (3 : Int32))), .val (.int (1 : Int32)), .val (.ref aP), .val (.int (1 : Int32))] [(.int (own_cov aP aA aP aD (1 : Int32)))])) t
          refine XS.iload X64.here hx rfl (hb hby at_85) rfl ?_
          exact kt
        have hc87_66 : (own_cov aP aA aP aD (1 : Int32)) = (1 : Int32) := by simp [own_cov, nNA, nNP, nND, nPA, nDA, nPD, Ne.symm nPD]
        have k68 : ∀ t, Steps p.tables e below (T64.setTop (mkF m 95 #[.val (.int p1), .val (.int p2), .val (.int (p1 &&& (3 : Int32))), .val (.int (1 : Int32)), .val (.ref aP), .val (.int (1 : Int32))] [(.int (1 : Int32))])) t → Steps p.tables e below (s₁.setTop (entryFrame m #[(.int p1), (.int p2)] maxLocals)) t := by
          intro t kt
          refine k67 t ?_
          show Steps p.tables e below (T64.setTop (mkF m 87 #[.val (.int p1), .val (.int p2), .val (.int (p1 &&& (3 : Int32))), .val (.int (1 : Int32)), .val (.ref aP), .val (.int (1 : Int32))] [(.int (1 : Int32)), (.int (own_cov aP aA aP aD (1 : Int32)))])) t
          refine XS.icmpNo X64.here hx rfl (hb hby at_87) rfl (teq hc87_66).2 ?_
          show Steps p.tables e below (T64.setTop (mkF m 90 #[.val (.int p1), .val (.int p2), .val (.int (p1 &&& (3 : Int32))), .val (.int (1 : Int32)), .val (.ref aP), .val (.int (1 : Int32))] [])) t
          refine XS.iconst X64.here hx rfl (hb hby at_90) ?_
          show Steps p.tables e below (T64.setTop (mkF m 91 #[.val (.int p1), .val (.int p2), .val (.int (p1 &&& (3 : Int32))), .val (.int (1 : Int32)), .val (.ref aP), .val (.int (1 : Int32))] [(.int (1 : Int32))])) t
          refine XS.goto X64.here hx rfl (pc0 := 91) (pc' := 95) rfl (hb hby at_91) (by decide) (by decide) ?_
          exact kt
        obtain ⟨fs, hr, hrun, hended, hW, hsame⟩ := X64.leave (v := some (.int (1 : Int32))) (fun h => by rw [Bd.returns] at h; cases h)
        refine ⟨_, _, k68 _ ?_, hrun, hended, _, _, rfl, ?_, ⟨_, rfl⟩, hW, hsame.mono (by decide) (by decide)⟩
        · show Steps p.tables e below (T64.setTop (mkF m 95 #[.val (.int p1), .val (.int p2), .val (.int (p1 &&& (3 : Int32))), .val (.int (1 : Int32)), .val (.ref aP), .val (.int (1 : Int32))] [(.int (1 : Int32))])) _
          exact retN X64 hx (t := .boolean) Bd.returns (by simp) (hb hby at_95) hr
        · show Q0 Z p1 p2 aN aA aP aD h0 n0 _ T64.heap _
          rw [e64]
          exact ⟨rfl, N64⟩
      · have k70 : ∀ t, Steps p.tables e below (s₁.setTop (mkF m 49 #[.val (.int p1), .val (.int p2), .val (.int (p1 &&& (3 : Int32))), .val (.int (1 : Int32)), .unset, .unset] [(.int (2 : Int32)), (.int (p1 &&& (3 : Int32)))])) t → Steps p.tables e below (s₁.setTop (entryFrame m #[(.int p1), (.int p2)] maxLocals)) t := by
          intro t kt
          refine k59 t ?_
          show Steps p.tables e below (s₁.setTop (mkF m 33 #[.val (.int p1), .val (.int p2), .val (.int (p1 &&& (3 : Int32))), .val (.int (1 : Int32)), .unset, .unset] [(.int (1 : Int32)), (.int (p1 &&& (3 : Int32)))])) t
          refine XS.icmpYes X0.here hx rfl (pc0 := 33) (pc' := 47) rfl (hb hby at_33) rfl (feq hc33_58).2 (by decide) (by decide) ?_
          show Steps p.tables e below (s₁.setTop (mkF m 47 #[.val (.int p1), .val (.int p2), .val (.int (p1 &&& (3 : Int32))), .val (.int (1 : Int32)), .unset, .unset] [])) t
          refine XS.iloadN X0.here hx rfl (hb hby at_47) rfl ?_
          show Steps p.tables e below (s₁.setTop (mkF m 48 #[.val (.int p1), .val (.int p2), .val (.int (p1 &&& (3 : Int32))), .val (.int (1 : Int32)), .unset, .unset] [(.int (p1 &&& (3 : Int32)))])) t
          refine XS.iconst X0.here hx rfl (hb hby at_48) ?_
          exact kt
        by_cases hc49_69 : (p1 &&& (3 : Int32)) = (2 : Int32)
        · have k71 : ∀ t, Steps p.tables e below (s₁.setTop (mkF m 52 #[.val (.int p1), .val (.int p2), .val (.int (p1 &&& (3 : Int32))), .val (.int (1 : Int32)), .unset, .unset] [])) t → Steps p.tables e below (s₁.setTop (entryFrame m #[(.int p1), (.int p2)] maxLocals)) t := by
            intro t kt
            refine k70 t ?_
            show Steps p.tables e below (s₁.setTop (mkF m 49 #[.val (.int p1), .val (.int p2), .val (.int (p1 &&& (3 : Int32))), .val (.int (1 : Int32)), .unset, .unset] [(.int (2 : Int32)), (.int (p1 &&& (3 : Int32)))])) t
            refine XS.icmpNo X0.here hx rfl (hb hby at_49) rfl (teq hc49_69).2 ?_
            exact kt
          obtain ⟨T72, X72, e72, st72⟩ := getS2 X0 hx hZ hown (host := "") (Or.inl (hw _ (List.mem_of_getElem? (i := 12) rfl))) Via.refl e0 S_aD (g := (mkF m 52 #[.val (.int p1), .val (.int p2), .val (.int (p1 &&& (3 : Int32))), .val (.int (1 : Int32)), .unset, .unset] [])) rfl (hb hby at_52)
          have k73 : ∀ t, Steps p.tables e below (T72.setTop (mkF m 55 #[.val (.int p1), .val (.int p2), .val (.int (p1 &&& (3 : Int32))), .val (.int (1 : Int32)), .unset, .unset] [(.ref aD)])) t → Steps p.tables e below (s₁.setTop (entryFrame m #[(.int p1), (.int p2)] maxLocals)) t := fun t kt => k71 t (st72 t kt)
          have hc58_74 : ¬ ((1 : Int32) = (0 : Int32)) := by decide
          have k75 : ∀ t, Steps p.tables e below (T72.setTop (mkF m 82 #[.val (.int p1), .val (.int p2), .val (.int (p1 &&& (3 : Int32))), .val (.int (1 : Int32)), .val (.ref aD), .val (.int (0 : Int32))] [(.int (1 : Int32)), (.ref aD)])) t → Steps p.tables e below (s₁.setTop (entryFrame m #[(.int p1), (.int p2)] maxLocals)) t := by
            intro t kt
            refine k73 t ?_
            show Steps p.tables e below (T72.setTop (mkF m 55 #[.val (.int p1), .val (.int p2), .val (.int (p1 &&& (3 : Int32))), .val (.int (1 : Int32)), .unset, .unset] [(.ref aD)])) t
            refine XS.astore X72.here hx rfl (hb hby at_55) rfl rfl (l' := #[.val (.int p1), .val (.int p2), .val (.int (p1 &&& (3 : Int32))), .val (.int (1 : Int32)), .val (.ref aD), .unset]) rfl ?_
            show Steps p.tables e below (T72.setTop (mkF m 57 #[.val (.int p1), .val (.int p2), .val (.int (p1 &&& (3 : Int32))), .val (.int (1 : Int32)), .val (.ref aD), .unset] [])) t
            refine XS.iloadN X72.here hx rfl (hb hby at_57) rfl ?_
            show Steps p.tables e below (T72.setTop (mkF m 58 #[.val (.int p1), .val (.int p2), .val (.int (p1 &&& (3 : Int32))), .val (.int (1 : Int32)), .val (.ref aD), .unset] [(.int (1 : Int32))])) t
            refine XS.ifYes X72.here hx rfl (pc0 := 58) (pc' := 65) rfl (hb hby at_58) rfl ((if0 _ _).trans (feq hc58_74).2) (by decide) (by decide) ?_
            show Steps p.tables e below (T72.setTop (mkF m 65 #[.val (.int p1), .val (.int p2), .val (.int (p1 &&& (3 : Int32))), .val (.int (1 : Int32)), .val (.ref aD), .unset] [])) t
            refine XS.iconst X72.here hx rfl (hb hby at_65) ?_
            show Steps p.tables e below (T72.setTop (mkF m 66 #[.val (.int p1), .val (.int p2), .val (.int (p1 &&& (3 : Int32))), .val (.int (1 : Int32)), .val (.ref aD), .unset] [(.int (0 : Int32))])) t
            refine XS.istore X72.here hx rfl (hb hby at_66) rfl (l' := #[.val (.int p1), .val (.int p2), .val (.int (p1 &&& (3 : Int32))), .val (.int (1 : Int32)), .val (.ref aD), .val (.int (0 : Int32))]) rfl ?_
            show Steps p.tables e below (T72.setTop (mkF m 68 #[.val (.int p1), .val (.int p2), .val (.int (p1 &&& (3 : Int32))), .val (.int (1 : Int32)), .val (.ref aD), .val (.int (0 : Int32))] [])) t
            refine XS.goto X72.here hx rfl (pc0 := 68) (pc' := 79) rfl (hb hby at_68) (by decide) (by decide) ?_
            show Steps p.tables e below (T72.setTop (mkF m 79 #[.val (.int p1), .val (.int p2), .val (.int (p1 &&& (3 : Int32))), .val (.int (1 : Int32)), .val (.ref aD), .val (.int (0 : Int32))] [])) t
            refine XS.aload X72.here hx rfl (hb hby at_79) rfl rfl ?_
            show Steps p.tables e below (T72.setTop (mkF m 81 #[.val (.int p1), .val (.int p2), .val (.int (p1 &&& (3 : Int32))), .val (.int (1 : Int32)), .val (.ref aD), .val (.int (0 : Int32))] [(.ref aD)])) t
            refine XS.iloadN X72.here hx rfl (hb hby at_81) rfl ?_
            exact kt
          obtain ⟨cq76, kq76, q76a, q76b, q76c⟩ := isOf hZ e72 E_aD
          obtain ⟨_, _, ⟨T76, L76, k76c, n76⟩, -, X76, ⟨Lc76, hQ76, l76, y76, z76⟩, st76⟩ := X72.virtualBack hx (y := (⟨"com/example/orthrus/orthrus/model/ProtectedObjectPolicy$Audit", "covers", "(Z)Z"⟩ : MethodName)) (z := (⟨"com/example/orthrus/orthrus/model/ProtectedObjectPolicy$Audit", "covers", "(Z)Z"⟩ : MethodName)) hown (mvT hZ (hw _ (List.mem_of_getElem? (i := 3) rfl))) (mvT hZ (hw _ (List.mem_of_getElem? (i := 4) rfl))) (notFace_of_selects (args := #[]) (mvT hZ (hw _ (List.mem_of_getElem? (i := 6) rfl)))) (mvT hZ (hw _ (List.mem_of_getElem? (i := 6) rfl))) (mvT hZ (hw _ (List.mem_of_getElem? (i := 5) rfl))) (by decide) (backOf (W := 0) (rmC l Z a0 hw [] aD (1 : Int32) aA aP aD h0 n0 Z0 S_aA S_aP S_aD) hZ (hw _ (List.mem_of_getElem? (i := 7) rfl)) (hw _ (List.mem_of_getElem? (i := 1) rfl)) (by decide) (by decide)) q76a q76c (g := (mkF m 82 #[.val (.int p1), .val (.int p2), .val (.int (p1 &&& (3 : Int32))), .val (.int (1 : Int32)), .val (.ref aD), .val (.int (0 : Int32))] [(.int (1 : Int32)), (.ref aD)])) rfl (by rw [hml]; rfl) (Steps.refl _) (argsL := [(.int (1 : Int32))]) (rest := []) (lenOf own_pd0 rfl) rfl (by show 2 * 0 + _ ≤ _; exact Nat.le_of_eq rfl) (hb hby at_82) (fun _ _ => ⟨rfl, e72, (by decide : 0 + 0 ≤ _), (by decide : 0 + 0 ≤ _)⟩)
          dsimp only [Pt.U, Pt.locs, Pt.cells, Pt.slots] at X76 l76 y76 z76 st76 hQ76
          subst l76 y76 z76
          obtain ⟨rfl, N76q, e76⟩ := hQ76
          have N76 := Fr.app N0 N76q
          have k77 : ∀ t, Steps p.tables e below (T76.setTop (mkF m 85 #[.val (.int p1), .val (.int p2), .val (.int (p1 &&& (3 : Int32))), .val (.int (1 : Int32)), .val (.ref aD), .val (.int (0 : Int32))] [(.int (own_cov aD aA aP aD (1 : Int32)))])) t → Steps p.tables e below (s₁.setTop (entryFrame m #[(.int p1), (.int p2)] maxLocals)) t := fun t kt => k75 t (st76.trans kt)
          have k79 : ∀ t, Steps p.tables e below (T76.setTop (mkF m 87 #[.val (.int p1), .val (.int p2), .val (.int (p1 &&& (3 : Int32))), .val (.int (1 : Int32)), .val (.ref aD), .val (.int (0 : Int32))] [(.int (0 : Int32)), (.int (own_cov aD aA aP aD (1 : Int32)))])) t → Steps p.tables e below (s₁.setTop (entryFrame m #[(.int p1), (.int p2)] maxLocals)) t := by
            intro t kt
            refine k77 t ?_
            show Steps p.tables e below (T76.setTop (mkF m 85 #[.val (.int p1), .val (.int p2), .val (.int (p1 &&& (3 : Int32))), .val (.int (1 : Int32)), .val (.ref aD), .val (.int (0 : Int32))] [(.int (own_cov aD aA aP aD (1 : Int32)))])) t
            refine XS.iload X76.here hx rfl (hb hby at_85) rfl ?_
            exact kt
          have hc87_78 : (own_cov aD aA aP aD (1 : Int32)) = (0 : Int32) := by simp [own_cov, nNA, nNP, nND, nPA, nDA, nPD, Ne.symm nPD]
          have k80 : ∀ t, Steps p.tables e below (T76.setTop (mkF m 95 #[.val (.int p1), .val (.int p2), .val (.int (p1 &&& (3 : Int32))), .val (.int (1 : Int32)), .val (.ref aD), .val (.int (0 : Int32))] [(.int (1 : Int32))])) t → Steps p.tables e below (s₁.setTop (entryFrame m #[(.int p1), (.int p2)] maxLocals)) t := by
            intro t kt
            refine k79 t ?_
            show Steps p.tables e below (T76.setTop (mkF m 87 #[.val (.int p1), .val (.int p2), .val (.int (p1 &&& (3 : Int32))), .val (.int (1 : Int32)), .val (.ref aD), .val (.int (0 : Int32))] [(.int (0 : Int32)), (.int (own_cov aD aA aP aD (1 : Int32)))])) t
            refine XS.icmpNo X76.here hx rfl (hb hby at_87) rfl (teq hc87_78).2 ?_
            show Steps p.tables e below (T76.setTop (mkF m 90 #[.val (.int p1), .val (.int p2), .val (.int (p1 &&& (3 : Int32))), .val (.int (1 : Int32)), .val (.ref aD), .val (.int (0 : Int32))] [])) t
            refine XS.iconst X76.here hx rfl (hb hby at_90) ?_
            show Steps p.tables e below (T76.setTop (mkF m 91 #[.val (.int p1), .val (.int p2), .val (.int (p1 &&& (3 : Int32))), .val (.int (1 : Int32)), .val (.ref aD), .val (.int (0 : Int32))] [(.int (1 : Int32))])) t
            refine XS.goto X76.here hx rfl (pc0 := 91) (pc' := 95) rfl (hb hby at_91) (by decide) (by decide) ?_
            exact kt
          obtain ⟨fs, hr, hrun, hended, hW, hsame⟩ := X76.leave (v := some (.int (1 : Int32))) (fun h => by rw [Bd.returns] at h; cases h)
          refine ⟨_, _, k80 _ ?_, hrun, hended, _, _, rfl, ?_, ⟨_, rfl⟩, hW, hsame.mono (by decide) (by decide)⟩
          · show Steps p.tables e below (T76.setTop (mkF m 95 #[.val (.int p1), .val (.int p2), .val (.int (p1 &&& (3 : Int32))), .val (.int (1 : Int32)), .val (.ref aD), .val (.int (0 : Int32))] [(.int (1 : Int32))])) _
            exact retN X76 hx (t := .boolean) Bd.returns (by simp) (hb hby at_95) hr
          · show Q0 Z p1 p2 aN aA aP aD h0 n0 _ T76.heap _
            rw [e76]
            exact ⟨rfl, N76⟩
        · have k81 : ∀ t, Steps p.tables e below (s₁.setTop (mkF m 71 #[.val (.int p1), .val (.int p2), .val (.int (p1 &&& (3 : Int32))), .val (.int (1 : Int32)), .unset, .unset] [])) t → Steps p.tables e below (s₁.setTop (entryFrame m #[(.int p1), (.int p2)] maxLocals)) t := by
            intro t kt
            refine k70 t ?_
            show Steps p.tables e below (s₁.setTop (mkF m 49 #[.val (.int p1), .val (.int p2), .val (.int (p1 &&& (3 : Int32))), .val (.int (1 : Int32)), .unset, .unset] [(.int (2 : Int32)), (.int (p1 &&& (3 : Int32)))])) t
            refine XS.icmpYes X0.here hx rfl (pc0 := 49) (pc' := 71) rfl (hb hby at_49) rfl (feq hc49_69).2 (by decide) (by decide) ?_
            exact kt
          obtain ⟨T82, X82, e82, st82⟩ := getS2 X0 hx hZ hown (host := "") (Or.inl (hw _ (List.mem_of_getElem? (i := 16) rfl))) Via.refl e0 S_aA (g := (mkF m 71 #[.val (.int p1), .val (.int p2), .val (.int (p1 &&& (3 : Int32))), .val (.int (1 : Int32)), .unset, .unset] [])) rfl (hb hby at_71)
          have k83 : ∀ t, Steps p.tables e below (T82.setTop (mkF m 74 #[.val (.int p1), .val (.int p2), .val (.int (p1 &&& (3 : Int32))), .val (.int (1 : Int32)), .unset, .unset] [(.ref aA)])) t → Steps p.tables e below (s₁.setTop (entryFrame m #[(.int p1), (.int p2)] maxLocals)) t := fun t kt => k81 t (st82 t kt)
          have k84 : ∀ t, Steps p.tables e below (T82.setTop (mkF m 82 #[.val (.int p1), .val (.int p2), .val (.int (p1 &&& (3 : Int32))), .val (.int (1 : Int32)), .val (.ref aA), .val (.int (1 : Int32))] [(.int (1 : Int32)), (.ref aA)])) t → Steps p.tables e below (s₁.setTop (entryFrame m #[(.int p1), (.int p2)] maxLocals)) t := by
            intro t kt
            refine k83 t ?_
            show Steps p.tables e below (T82.setTop (mkF m 74 #[.val (.int p1), .val (.int p2), .val (.int (p1 &&& (3 : Int32))), .val (.int (1 : Int32)), .unset, .unset] [(.ref aA)])) t
            refine XS.astore X82.here hx rfl (hb hby at_74) rfl rfl (l' := #[.val (.int p1), .val (.int p2), .val (.int (p1 &&& (3 : Int32))), .val (.int (1 : Int32)), .val (.ref aA), .unset]) rfl ?_
            show Steps p.tables e below (T82.setTop (mkF m 76 #[.val (.int p1), .val (.int p2), .val (.int (p1 &&& (3 : Int32))), .val (.int (1 : Int32)), .val (.ref aA), .unset] [])) t
            refine XS.iconst X82.here hx rfl (hb hby at_76) ?_
            show Steps p.tables e below (T82.setTop (mkF m 77 #[.val (.int p1), .val (.int p2), .val (.int (p1 &&& (3 : Int32))), .val (.int (1 : Int32)), .val (.ref aA), .unset] [(.int (1 : Int32))])) t
            refine XS.istore X82.here hx rfl (hb hby at_77) rfl (l' := #[.val (.int p1), .val (.int p2), .val (.int (p1 &&& (3 : Int32))), .val (.int (1 : Int32)), .val (.ref aA), .val (.int (1 : Int32))]) rfl ?_
            show Steps p.tables e below (T82.setTop (mkF m 79 #[.val (.int p1), .val (.int p2), .val (.int (p1 &&& (3 : Int32))), .val (.int (1 : Int32)), .val (.ref aA), .val (.int (1 : Int32))] [])) t
            refine XS.aload X82.here hx rfl (hb hby at_79) rfl rfl ?_
            show Steps p.tables e below (T82.setTop (mkF m 81 #[.val (.int p1), .val (.int p2), .val (.int (p1 &&& (3 : Int32))), .val (.int (1 : Int32)), .val (.ref aA), .val (.int (1 : Int32))] [(.ref aA)])) t
            refine XS.iloadN X82.here hx rfl (hb hby at_81) rfl ?_
            exact kt
          obtain ⟨cq85, kq85, q85a, q85b, q85c⟩ := isOf hZ e82 E_aA
          obtain ⟨_, _, ⟨T85, L85, k85c, n85⟩, -, X85, ⟨Lc85, hQ85, l85, y85, z85⟩, st85⟩ := X82.virtualBack hx (y := (⟨"com/example/orthrus/orthrus/model/ProtectedObjectPolicy$Audit", "covers", "(Z)Z"⟩ : MethodName)) (z := (⟨"com/example/orthrus/orthrus/model/ProtectedObjectPolicy$Audit", "covers", "(Z)Z"⟩ : MethodName)) hown (mvT hZ (hw _ (List.mem_of_getElem? (i := 3) rfl))) (mvT hZ (hw _ (List.mem_of_getElem? (i := 4) rfl))) (notFace_of_selects (args := #[]) (mvT hZ (hw _ (List.mem_of_getElem? (i := 6) rfl)))) (mvT hZ (hw _ (List.mem_of_getElem? (i := 6) rfl))) (mvT hZ (hw _ (List.mem_of_getElem? (i := 5) rfl))) (by decide) (backOf (W := 0) (rmC l Z a0 hw [] aA (1 : Int32) aA aP aD h0 n0 Z0 S_aA S_aP S_aD) hZ (hw _ (List.mem_of_getElem? (i := 7) rfl)) (hw _ (List.mem_of_getElem? (i := 1) rfl)) (by decide) (by decide)) q85a q85c (g := (mkF m 82 #[.val (.int p1), .val (.int p2), .val (.int (p1 &&& (3 : Int32))), .val (.int (1 : Int32)), .val (.ref aA), .val (.int (1 : Int32))] [(.int (1 : Int32)), (.ref aA)])) rfl (by rw [hml]; rfl) (Steps.refl _) (argsL := [(.int (1 : Int32))]) (rest := []) (lenOf own_pd0 rfl) rfl (by show 2 * 0 + _ ≤ _; exact Nat.le_of_eq rfl) (hb hby at_82) (fun _ _ => ⟨rfl, e82, (by decide : 0 + 0 ≤ _), (by decide : 0 + 0 ≤ _)⟩)
          dsimp only [Pt.U, Pt.locs, Pt.cells, Pt.slots] at X85 l85 y85 z85 st85 hQ85
          subst l85 y85 z85
          obtain ⟨rfl, N85q, e85⟩ := hQ85
          have N85 := Fr.app N0 N85q
          have k86 : ∀ t, Steps p.tables e below (T85.setTop (mkF m 85 #[.val (.int p1), .val (.int p2), .val (.int (p1 &&& (3 : Int32))), .val (.int (1 : Int32)), .val (.ref aA), .val (.int (1 : Int32))] [(.int (own_cov aA aA aP aD (1 : Int32)))])) t → Steps p.tables e below (s₁.setTop (entryFrame m #[(.int p1), (.int p2)] maxLocals)) t := fun t kt => k84 t (st85.trans kt)
          have k88 : ∀ t, Steps p.tables e below (T85.setTop (mkF m 87 #[.val (.int p1), .val (.int p2), .val (.int (p1 &&& (3 : Int32))), .val (.int (1 : Int32)), .val (.ref aA), .val (.int (1 : Int32))] [(.int (1 : Int32)), (.int (own_cov aA aA aP aD (1 : Int32)))])) t → Steps p.tables e below (s₁.setTop (entryFrame m #[(.int p1), (.int p2)] maxLocals)) t := by
            intro t kt
            refine k86 t ?_
            show Steps p.tables e below (T85.setTop (mkF m 85 #[.val (.int p1), .val (.int p2), .val (.int (p1 &&& (3 : Int32))), .val (.int (1 : Int32)), .val (.ref aA), .val (.int (1 : Int32))] [(.int (own_cov aA aA aP aD (1 : Int32)))])) t
            refine XS.iload X85.here hx rfl (hb hby at_85) rfl ?_
            exact kt
          have hc87_87 : (own_cov aA aA aP aD (1 : Int32)) = (1 : Int32) := by simp [own_cov, nNA, nNP, nND, nPA, nDA, nPD, Ne.symm nPD]
          have k89 : ∀ t, Steps p.tables e below (T85.setTop (mkF m 95 #[.val (.int p1), .val (.int p2), .val (.int (p1 &&& (3 : Int32))), .val (.int (1 : Int32)), .val (.ref aA), .val (.int (1 : Int32))] [(.int (1 : Int32))])) t → Steps p.tables e below (s₁.setTop (entryFrame m #[(.int p1), (.int p2)] maxLocals)) t := by
            intro t kt
            refine k88 t ?_
            show Steps p.tables e below (T85.setTop (mkF m 87 #[.val (.int p1), .val (.int p2), .val (.int (p1 &&& (3 : Int32))), .val (.int (1 : Int32)), .val (.ref aA), .val (.int (1 : Int32))] [(.int (1 : Int32)), (.int (own_cov aA aA aP aD (1 : Int32)))])) t
            refine XS.icmpNo X85.here hx rfl (hb hby at_87) rfl (teq hc87_87).2 ?_
            show Steps p.tables e below (T85.setTop (mkF m 90 #[.val (.int p1), .val (.int p2), .val (.int (p1 &&& (3 : Int32))), .val (.int (1 : Int32)), .val (.ref aA), .val (.int (1 : Int32))] [])) t
            refine XS.iconst X85.here hx rfl (hb hby at_90) ?_
            show Steps p.tables e below (T85.setTop (mkF m 91 #[.val (.int p1), .val (.int p2), .val (.int (p1 &&& (3 : Int32))), .val (.int (1 : Int32)), .val (.ref aA), .val (.int (1 : Int32))] [(.int (1 : Int32))])) t
            refine XS.goto X85.here hx rfl (pc0 := 91) (pc' := 95) rfl (hb hby at_91) (by decide) (by decide) ?_
            exact kt
          obtain ⟨fs, hr, hrun, hended, hW, hsame⟩ := X85.leave (v := some (.int (1 : Int32))) (fun h => by rw [Bd.returns] at h; cases h)
          refine ⟨_, _, k89 _ ?_, hrun, hended, _, _, rfl, ?_, ⟨_, rfl⟩, hW, hsame.mono (by decide) (by decide)⟩
          · show Steps p.tables e below (T85.setTop (mkF m 95 #[.val (.int p1), .val (.int p2), .val (.int (p1 &&& (3 : Int32))), .val (.int (1 : Int32)), .val (.ref aA), .val (.int (1 : Int32))] [(.int (1 : Int32))])) _
            exact retN X85 hx (t := .boolean) Bd.returns (by simp) (hb hby at_95) hr
          · show Q0 Z p1 p2 aN aA aP aD h0 n0 _ T85.heap _
            rw [e85]
            exact ⟨rfl, N85⟩
set_option maxRecDepth 65536 in
set_option maxHeartbeats 40000000 in
theorem comes_1 {Post : Tables → Env → Array Value → State → Outcome → State → Prop} (hpost : ∀ tb e args s v u, (limb_1_1.after args s (.returned v) u = true ∧ limb_1_2.after args s (.returned v) u = true ∧ True) → FrameEnd s (.returned v) u (Jvm.fieldLocs frame_1_writes args s ++ Jvm.arrayLocs frame_1_arrays args s ++ Jvm.staticLocs frame_1_statics s) 0 0 → Post tb e args s (.returned v) u) :
    ArmFor flags0 classFile x code maxLocals ret World_1 tables_1 room_1 Calls_1 rest_1 Pre_1 Post := by
  intro l hfl _ _ p e ha hc hk s m args below hf hA hF happ hP
  obtain ⟨hcalls, hrest, hpre⟩ := hP
  obtain ⟨-, -, -, hnamed, -, -, -, hat⟩ := (Spec.applies_iff hf).mp happ
  obtain ⟨hg, hn⟩ := and_e (Cond.before_iff.mp (show (Jvm.Cond.and given_1 narrow_1).before args s = true from hpre))
  obtain ⟨gc, gr0⟩ := and_e hg
  obtain ⟨ga0, gr1⟩ := and_e gr0
  have ga1 := gr1
  obtain ⟨w0, w1, rfl⟩ : ∃ w0 w1 : Value, args = #[w0, w1] := by
    have hs : args.size = 2 := by simpa [Cond.value, given_1] using gc
    obtain ⟨L⟩ := args
    match L, hs with
    | [w0, w1], _ => exact ⟨w0, w1, rfl⟩
  have hw := fun d (hd : d ∈ tables_1) => atoms_spec (ws := Jvm.Cond.code x code maxLocals ret :: tables_1) hat d (List.mem_cons_of_mem _ hd)
  have hfit : Fit s := fun {y c} hc i hi => by
    obtain ⟨ha, rfl⟩ := Array.getElem?_eq_some_iff.mp hc
    have q := List.all_eq_true.mp ((Array.all_eq_true_iff_forall_mem.mp hF) _ (Array.getElem_mem ha)) i (List.mem_range.mpr hi)
    simpa [Array.getElem?_eq_getElem hi] using q
  obtain ⟨i0, ei0⟩ := is_v ga0
  obtain rfl : w0 = (.int i0) := Option.some.inj ei0
  obtain ⟨i1, ei1⟩ := is_v ga1
  obtain rfl : w1 = (.int i1) := Option.some.inj ei1
  obtain ⟨x_aN, y1⟩ := and_e hn
  obtain ⟨x_aA, y2⟩ := and_e y1
  obtain ⟨o_aN, y3⟩ := and_e y2
  obtain ⟨o_aA, y4⟩ := and_e y3
  obtain ⟨x_aP, y5⟩ := and_e y4
  obtain ⟨o_aP, y6⟩ := and_e y5
  obtain ⟨x_aD, o_aD⟩ := and_e y6
  obtain ⟨aN, v_aN⟩ := exa_v x_aN
  have S_aN : Sta s s.heap "com/example/orthrus/orthrus/model/ProtectedObjectPolicy$Audit" "NONE" "Lcom/example/orthrus/orthrus/model/ProtectedObjectPolicy$Audit;" (.ref aN) := Sta.start v_aN (Or.inr ⟨(hw _ (List.mem_of_getElem? (i := 1) rfl)), (hw _ (List.mem_of_getElem? (i := 2) rfl))⟩)
  have E_aN : Exa s s.heap aN "com/example/orthrus/orthrus/model/ProtectedObjectPolicy$Audit" := Exa.start v_aN x_aN
  have O_aN : Fld s s.heap aN "java/lang/Enum" "ordinal" "I" (.int (0 : Int32)) := Fld.start ((fld_at v_aN).symm.trans (Cond.eq_int (Cond.before_iff.mpr o_aN) rfl))
  obtain ⟨aA, v_aA⟩ := exa_v x_aA
  have S_aA : Sta s s.heap "com/example/orthrus/orthrus/model/ProtectedObjectPolicy$Audit" "ALL" "Lcom/example/orthrus/orthrus/model/ProtectedObjectPolicy$Audit;" (.ref aA) := Sta.start v_aA (Or.inr ⟨(hw _ (List.mem_of_getElem? (i := 1) rfl)), (hw _ (List.mem_of_getElem? (i := 9) rfl))⟩)
  have E_aA : Exa s s.heap aA "com/example/orthrus/orthrus/model/ProtectedObjectPolicy$Audit" := Exa.start v_aA x_aA
  have O_aA : Fld s s.heap aA "java/lang/Enum" "ordinal" "I" (.int (3 : Int32)) := Fld.start ((fld_at v_aA).symm.trans (Cond.eq_int (Cond.before_iff.mpr o_aA) rfl))
  obtain ⟨aP, v_aP⟩ := exa_v x_aP
  have S_aP : Sta s s.heap "com/example/orthrus/orthrus/model/ProtectedObjectPolicy$Audit" "PERMIT" "Lcom/example/orthrus/orthrus/model/ProtectedObjectPolicy$Audit;" (.ref aP) := Sta.start v_aP (Or.inr ⟨(hw _ (List.mem_of_getElem? (i := 1) rfl)), (hw _ (List.mem_of_getElem? (i := 11) rfl))⟩)
  have E_aP : Exa s s.heap aP "com/example/orthrus/orthrus/model/ProtectedObjectPolicy$Audit" := Exa.start v_aP x_aP
  have O_aP : Fld s s.heap aP "java/lang/Enum" "ordinal" "I" (.int (1 : Int32)) := Fld.start ((fld_at v_aP).symm.trans (Cond.eq_int (Cond.before_iff.mpr o_aP) rfl))
  obtain ⟨aD, v_aD⟩ := exa_v x_aD
  have S_aD : Sta s s.heap "com/example/orthrus/orthrus/model/ProtectedObjectPolicy$Audit" "DENY" "Lcom/example/orthrus/orthrus/model/ProtectedObjectPolicy$Audit;" (.ref aD) := Sta.start v_aD (Or.inr ⟨(hw _ (List.mem_of_getElem? (i := 1) rfl)), (hw _ (List.mem_of_getElem? (i := 13) rfl))⟩)
  have E_aD : Exa s s.heap aD "com/example/orthrus/orthrus/model/ProtectedObjectPolicy$Audit" := Exa.start v_aD x_aD
  have O_aD : Fld s s.heap aD "java/lang/Enum" "ordinal" "I" (.int (2 : Int32)) := Fld.start ((fld_at v_aD).symm.trans (Cond.eq_int (Cond.before_iff.mpr o_aD) rfl))
  obtain ⟨n, o, h1, h2, h3, _, L, rfl, ⟨rfl, N⟩, hq⟩ := rm0 l s _ hw tables_1 i0 i1 aN aA aP aD s.heap s.heap.size (Nat.le_refl _) S_aN S_aA S_aP S_aD E_aN E_aA E_aP E_aD (Fld.ne O_aN O_aA (by simp)) (Fld.ne O_aN O_aP (by simp)) (Fld.ne O_aN O_aD (by simp)) (Fld.ne O_aP O_aA (by simp)) (Fld.ne O_aD O_aA (by simp)) (Fld.ne O_aP O_aD (by simp)) p e ha hc hk s m _ below hf ((Spec.applies_iff_loose hf).mp happ).1 ⟨rfl, State.Warmed39.refl s, rfl⟩ trivial
  refine ⟨n, _, h1, h2, h3, hpost _ _ _ _ _ _ ⟨Cond.after_iff.mpr rfl, Cond.after_iff.mpr (eq_i res_at (Term.int_eval (1)) rfl), trivial⟩ ⟨hq.1, hq.2.1, (hq.2.2.sift fun y hy => Or.inr (N y hy)).mono (by decide) (by decide)⟩⟩
theorem main_1_1 : Claimed_1_1 := comes_1 fun _ _ _ _ _ _ h hF => ⟨h.1, hF⟩
theorem main_1_2 : Claimed_1_2 := comes_1 fun _ _ _ _ _ _ h hF => ⟨h.2.1, hF⟩
end Jvm.Pilot.@@N@@
namespace Jvm.Pilot.@@N@@
open Jvm Jvm.ClassFile Sem Op Lib Jvm.Free Jvm.Stand Jvm.Pilot.@@N@@.Jvm.D
/-! MADE BY PROGRAM (witnessworld.py) out of the Statement's table words and the real class files: 12 classes; the members and pool entries that the words name. The judged class is class 1, her method 1. -/
namespace start1
open Jvm.ClassFile
def u (s : String) : CpInfo := .utf8 (stringToUtf16 s)
/-- a pool by its gaps: so many unusable entries, then the entry; so many at the end -/
def gap : Nat → List CpInfo → List CpInfo
  | 0, r => r
  | n + 1, r => .unusable :: gap n r
def poolList (es : List (Nat × CpInfo)) (last : Nat) : List CpInfo := es.foldr (fun e r => gap e.1 (e.2 :: r)) (gap last [])
def pool (es : List (Nat × CpInfo)) (last : Nat) : Array CpInfo := ⟨poolList es last⟩
def fileOf (pool : Array CpInfo) (this : Nat) (attrs : Array Attribute := #[]) (ms : Array MethodInfo := #[]) (fl : Nat := 33) (sup : Nat := 0) (ifs : Array Nat := #[]) (fds : Array FieldInfo := #[]) : ClassFile where
  minorVersion := 0
  majorVersion := 65
  constantPool := pool
  accessFlags := fl
  thisClass := this
  superClass := sup
  interfaces := ifs
  fields := fds
  methods := ms
  attributes := attrs
def plain (name : String) (sup : Option ClassId) : Class where
  name := name
  kind := .ordinary
  loader := none
  accessFlags := 33
  super := sup
  interfaces := #[]
  cf := none
  fields := #[]
  methods := #[]
  instanceTypes := #[]
  staticTypes := #[]
  resolved := #[]
  callSites := []
  init := .initialized
  statics := none
  mirror := none

def pool0 : Array CpInfo := pool [(5, u "<init>"), (0, u "()V"), (1, .class_ 10), (1, u "java/lang/Object")] 113

def k0m0 : Method := { name := "<init>", desc := "()V", sig := { parameters := [], returnType := none }, accessFlags := 1, code := none }
/-- java/lang/Object -/
def k0 : Class := { plain "java/lang/Object" none with
  accessFlags := 33
  interfaces := #[]
  cf := some (fileOf pool0 8 #[] #[{ accessFlags := 1, nameIndex := 5, descriptorIndex := 6, attributes := #[] }] 33 0 #[] #[])
  fields := #[]
  methods := #[k0m0]
  instanceTypes := #[]
  staticTypes := #[]
  resolved := Array.replicate 124 none
  statics := none }

def pool1 : Array CpInfo := pool [(2, .class_ 4), (1, u "java/lang/Object"), (0, u "<init>"), (0, u "()V"), (0, .fieldref 8 9), (0, .class_ 10), (0, .nameAndType 11 12), (0, u "com/example/orthrus/orthrus/model/ProtectedObjectPolicy$Audit"), (0, u "NONE"), (0, u "Lcom/example/orthrus/orthrus/model/ProtectedObjectPolicy$Audit;"), (0, .fieldref 8 14), (0, .nameAndType 15 12), (0, u "PERMIT"), (0, .fieldref 8 17), (0, .nameAndType 18 12), (0, u "DENY"), (0, .fieldref 8 20), (0, .nameAndType 21 12), (0, u "ALL"), (0, .methodref 8 23), (0, .nameAndType 24 25), (0, u "covers"), (0, u "(Z)Z"), (0, .class_ 27), (0, u "com/example/orthrus/orthrus/model/AuditCoversPinLaw"), (2, u "law"), (0, u "(II)Z")] 7

def k1m0 : Method := { name := "<init>", desc := "()V", sig := { parameters := [], returnType := none }, accessFlags := 1, code := none }
def k1c1 : Code := { maxStack := 2, maxLocals := 6, code := code, exceptionTable := #[], attributes := #[] }
def k1m1 : Method := { name := "law", desc := "(II)Z", sig := { parameters := [.int, .int], returnType := some .boolean }, accessFlags := 9, code := some k1c1 }
/-- com/example/orthrus/orthrus/model/AuditCoversPinLaw -/
def k1 : Class := { plain "com/example/orthrus/orthrus/model/AuditCoversPinLaw" (some 0) with
  accessFlags := 49
  interfaces := #[]
  cf := some (fileOf pool1 26 #[] #[{ accessFlags := 1, nameIndex := 5, descriptorIndex := 6, attributes := #[] }, { accessFlags := 9, nameIndex := 30, descriptorIndex := 31, attributes := #[] }] 49 2 #[] #[])
  fields := #[]
  methods := #[k1m0, k1m1]
  instanceTypes := #[]
  staticTypes := #[]
  resolved := Array.replicate 39 none
  statics := none }

def pool2 : Array CpInfo := pool [(1, .class_ 2), (0, u "java/lang/constant/Constable"), (0, .class_ 4), (0, u "java/lang/Object")] 6

/-- java/lang/constant/Constable -/
def k2 : Class := { plain "java/lang/constant/Constable" (some 0) with
  accessFlags := 1537
  interfaces := #[]
  cf := some (fileOf pool2 1 #[] #[] 1537 3 #[] #[])
  fields := #[]
  methods := #[]
  instanceTypes := #[]
  staticTypes := #[]
  resolved := Array.replicate 11 none
  statics := none }

def pool3 : Array CpInfo := pool [(1, .class_ 2), (0, u "java/lang/Comparable"), (0, .class_ 4), (0, u "java/lang/Object")] 7

/-- java/lang/Comparable -/
def k3 : Class := { plain "java/lang/Comparable" (some 0) with
  accessFlags := 1537
  interfaces := #[]
  cf := some (fileOf pool3 1 #[] #[] 1537 3 #[] #[])
  fields := #[]
  methods := #[]
  instanceTypes := #[]
  staticTypes := #[]
  resolved := Array.replicate 12 none
  statics := none }

def pool4 : Array CpInfo := pool [(1, .class_ 2), (0, u "java/io/Serializable"), (0, .class_ 4), (0, u "java/lang/Object")] 2

/-- java/io/Serializable -/
def k4 : Class := { plain "java/io/Serializable" (some 0) with
  accessFlags := 1537
  interfaces := #[]
  cf := some (fileOf pool4 1 #[] #[] 1537 3 #[] #[])
  fields := #[]
  methods := #[]
  instanceTypes := #[]
  staticTypes := #[]
  resolved := Array.replicate 7 none
  statics := none }

def pool5 : Array CpInfo := pool [(2, .class_ 4), (1, u "java/lang/Enum"), (0, u "name"), (0, u "Ljava/lang/String;"), (2, u "ordinal"), (0, u "I"), (1, .class_ 14), (1, u "java/lang/Object"), (4, u "hash"), (86, .class_ 108), (1, u "java/lang/Enum$EnumDesc"), (2, .class_ 112), (0, u "java/lang/constant/Constable"), (0, .class_ 114), (0, u "java/lang/Comparable"), (0, .class_ 116), (0, u "java/io/Serializable")] 87

/-- java/lang/Enum -/
def k5 : Class := { plain "java/lang/Enum" (some 0) with
  accessFlags := 1057
  interfaces := #[2, 3, 4]
  cf := some (fileOf pool5 2 #[.nestMembers #[106]] #[] 1057 12 #[111, 113, 115] #[{ accessFlags := 18, nameIndex := 5, descriptorIndex := 6, attributes := #[] }, { accessFlags := 18, nameIndex := 9, descriptorIndex := 10, attributes := #[] }, { accessFlags := 2, nameIndex := 19, descriptorIndex := 10, attributes := #[] }])
  fields := #[{ name := "name", type := (.object "java/lang/String"), accessFlags := 18, slot := 0, constantValue := 0 }, { name := "ordinal", type := .int, accessFlags := 18, slot := 1, constantValue := 0 }, { name := "hash", type := .int, accessFlags := 2, slot := 2, constantValue := 0 }]
  methods := #[]
  instanceTypes := #[(.object "java/lang/String"), .int, .int]
  staticTypes := #[]
  resolved := Array.replicate 204 none
  statics := none }

def pool6 : Array CpInfo := pool [(1, .class_ 2), (0, u "com/example/orthrus/orthrus/model/ProtectedObjectPolicy$Audit"), (2, u "NONE"), (0, u "Lcom/example/orthrus/orthrus/model/ProtectedObjectPolicy$Audit;"), (0, .fieldref 1 8), (0, .nameAndType 9 6), (0, u "PERMIT"), (0, .fieldref 1 11), (0, .nameAndType 12 6), (0, u "DENY"), (0, .fieldref 1 14), (0, .nameAndType 15 6), (0, u "ALL"), (2, u "$VALUES"), (0, u "[Lcom/example/orthrus/orthrus/model/ProtectedObjectPolicy$Audit;"), (6, .class_ 28), (1, u "java/lang/Enum"), (93, u "covers"), (0, u "(Z)Z"), (5, .class_ 130), (0, u "com/example/orthrus/orthrus/model/ProtectedObjectPolicy")] 16

def k6c0 : Code := { maxStack := 2, maxLocals := 2, code := prog_160_method_5_code, exceptionTable := #[], attributes := #[] }
def k6m0 : Method := { name := "covers", desc := "(Z)Z", sig := { parameters := [.boolean], returnType := some .boolean }, accessFlags := 1, code := some k6c0 }
/-- com/example/orthrus/orthrus/model/ProtectedObjectPolicy$Audit -/
def k6 : Class := { plain "com/example/orthrus/orthrus/model/ProtectedObjectPolicy$Audit" (some 5) with
  accessFlags := 16433
  interfaces := #[]
  cf := some (fileOf pool6 1 #[.nestHost 129] #[{ accessFlags := 1, nameIndex := 122, descriptorIndex := 123, attributes := #[] }] 16433 26 #[] #[{ accessFlags := 16409, nameIndex := 5, descriptorIndex := 6, attributes := #[] }, { accessFlags := 16409, nameIndex := 9, descriptorIndex := 6, attributes := #[] }, { accessFlags := 16409, nameIndex := 12, descriptorIndex := 6, attributes := #[] }, { accessFlags := 16409, nameIndex := 15, descriptorIndex := 6, attributes := #[] }, { accessFlags := 4122, nameIndex := 18, descriptorIndex := 19, attributes := #[] }])
  fields := #[{ name := "NONE", type := (.object "com/example/orthrus/orthrus/model/ProtectedObjectPolicy$Audit"), accessFlags := 16409, slot := 0, constantValue := 0 }, { name := "PERMIT", type := (.object "com/example/orthrus/orthrus/model/ProtectedObjectPolicy$Audit"), accessFlags := 16409, slot := 1, constantValue := 0 }, { name := "DENY", type := (.object "com/example/orthrus/orthrus/model/ProtectedObjectPolicy$Audit"), accessFlags := 16409, slot := 2, constantValue := 0 }, { name := "ALL", type := (.object "com/example/orthrus/orthrus/model/ProtectedObjectPolicy$Audit"), accessFlags := 16409, slot := 3, constantValue := 0 }, { name := "$VALUES", type := (.array (.object "com/example/orthrus/orthrus/model/ProtectedObjectPolicy$Audit")), accessFlags := 4122, slot := 4, constantValue := 0 }]
  methods := #[k6m0]
  instanceTypes := #[(.object "java/lang/String"), .int, .int]
  staticTypes := #[(.object "com/example/orthrus/orthrus/model/ProtectedObjectPolicy$Audit"), (.object "com/example/orthrus/orthrus/model/ProtectedObjectPolicy$Audit"), (.object "com/example/orthrus/orthrus/model/ProtectedObjectPolicy$Audit"), (.object "com/example/orthrus/orthrus/model/ProtectedObjectPolicy$Audit"), (.array (.object "com/example/orthrus/orthrus/model/ProtectedObjectPolicy$Audit"))]
  resolved := Array.replicate 147 none
  statics := some 0 }

def pool7 : Array CpInfo := pool [(1, u "java/lang/Cloneable"), (0, .class_ 1), (0, u "java/lang/Object"), (0, .class_ 3)] 3

/-- java/lang/Cloneable -/
def k7 : Class := { plain "java/lang/Cloneable" (some 0) with
  accessFlags := 1537
  interfaces := #[]
  cf := some (fileOf pool7 2 #[] #[] 1537 4 #[] #[])
  fields := #[]
  methods := #[]
  instanceTypes := #[]
  staticTypes := #[]
  resolved := Array.replicate 8 none
  statics := none }

/-- the primitive byte -/
def k8 : Class := { plain "byte" none with kind := .primitive 'B', accessFlags := 0x411 }
/-- [B -/
def k9 : Class := { plain "[B" (some 0) with kind := .array 8 .byte, interfaces := #[7, 4], accessFlags := 1041 }

/-- the primitive int -/
def k10 : Class := { plain "int" none with kind := .primitive 'I', accessFlags := 0x411 }
/-- [I -/
def k11 : Class := { plain "[I" (some 0) with kind := .array 10 .int, interfaces := #[7, 4], accessFlags := 1041 }

def heap : Heap := #[{ cls := 6, slots := #[.ref 1, .ref 3, .ref 4, .ref 2, .null], vm := .statics 6 },
  { cls := 6, slots := #[.null, .int 0, .int 0], vm := .none },
  { cls := 6, slots := #[.null, .int 3, .int 0], vm := .none },
  { cls := 6, slots := #[.null, .int 1, .int 0], vm := .none },
  { cls := 6, slots := #[.null, .int 2, .int 0], vm := .none }]
def classes : Array Class := #[k0, k1, k2, k3, k4, k5, k6, k7, k8, k9, k10, k11]
def interned : List (Array UInt16 × Addr) := []
def slotsUsed : Nat := 17
def theMethod : MethodId := ⟨1, 1⟩
def args0 : Array Value := #[.int 5, .int 1]
def aboutOver (below : List Frame) : State where
  vm := { classes := classes, interned := interned.toArray }
  heap := heap
  slotsUsed := slotsUsed
  threads := #[{ frames := .invoking theMethod args0 :: below }]
def below0 : List Frame := [.native { method := ⟨0, 0⟩, args := #[] }]
def about1 : State := aboutOver below0
def p0 : Program := .bare "" "" ""
def e0 : Env := launch0.env 0 0 0
theorem w_frames : about1.frames = Frame.invoking theMethod args0 :: below0 := rfl
set_option maxRecDepth 65536 in
theorem w_args : argsFit about1.vm theMethod args0 = true := by decide +kernel
set_option maxRecDepth 65536 in
theorem w_heap : heapFits about1 = true := by decide +kernel
set_option maxRecDepth 65536 in
theorem w_runnable : about1.curStatus? = some .runnable := by decide +kernel
set_option maxRecDepth 65536 in
theorem w_alone : about1.alone = true := by decide +kernel
set_option maxRecDepth 65536 in
theorem w_named : about1.methodNamed? x = some theMethod := by decide +kernel
set_option maxRecDepth 65536 in
theorem w_hears : about1.hears theMethod below0 = true := by decide +kernel
set_option maxRecDepth 65536 in
theorem w_ripe : about1.ripe theMethod args0 below0 = true := by decide +kernel
theorem w_running : about1.status = .running := rfl
set_option maxRecDepth 65536 in
theorem w_room : about1.hasRoom e0.platform room_1 = true :=
  launch0.hasRoom_least _ room_1 (by decide +kernel) (by decide +kernel) (by decide +kernel) (by decide +kernel) (by decide +kernel) (by decide +kernel)
theorem allAtoms_all (ts : List Jvm.Cond) (a : Array Jvm.Value) (st : Jvm.State) : (allAtoms ts).before a st = ts.all (fun c => c.before a st) := by
  induction ts with
  | nil => rfl
  | cons c t ih =>
    show (Jvm.Cond.and c (allAtoms t)).before a st = _
    rw [Jvm.Cond.before_and, ih, List.all_cons]
def words1 : List Jvm.Cond := Jvm.Cond.code x code maxLocals ret :: tables_1
/-- a 'code' word, met by the world's own term for the bytes: nothing is compared byte by byte -/
theorem code_word {y : MethodName} {bytes : ByteArray} {mx : Nat} {rt : Option FieldType} {a : Array Value} {s : State} {m : MethodId} {meth : Method} {c : Code} (h1 : s.methodNamed? y = some m) (h2 : s.vm.method? m = some meth) (h3 : meth.code = some c) (h4 : c.code = bytes)
    (h5 : (c.maxLocals == mx && c.exceptionTable.isEmpty && decide (c.maxStack ≤ mostOperands) && decide (meth.sig.returnType = rt) && !meth.locks && decide (parseMethodDescriptor y.desc = some meth.sig)) = true) : (Jvm.Cond.code y bytes mx rt).before a s = true := by
  simp only [Bool.and_eq_true, beq_iff_eq, Bool.not_eq_true', decide_eq_true_eq] at h5
  obtain ⟨⟨⟨⟨⟨g1, g2⟩, g3⟩, g4⟩, g5⟩, g6⟩ := h5
  simp [Cond.before, Cond.holds, Cond.value, h1, h2, h3, h4, g1, g2, g3, g4, g5, g6]
def isCode : Jvm.Cond → Bool
  | .code _ _ _ _ => true
  | _ => false
theorem all_split {L : List Jvm.Cond} {P : Jvm.Cond → Bool} (h1 : L.all (fun c => isCode c || P c) = true) (h2 : ∀ c ∈ L.filter isCode, P c = true) : L.all P = true := by
  refine List.all_eq_true.mpr fun c hc => ?_
  have h := List.all_eq_true.mp h1 c hc
  rcases Bool.eq_false_or_eq_true (isCode c) with hi | hi
  · exact h2 c (List.mem_filter.mpr ⟨hc, hi⟩)
  · simpa [hi] using h
set_option maxRecDepth 65536 in
theorem w_c0 : (Jvm.Cond.code x code maxLocals ret).before args0 about1 = true := code_word (m := ⟨1, 1⟩) (meth := k1m1) (c := k1c1) (by decide +kernel) rfl rfl rfl (by decide +kernel)
set_option maxRecDepth 65536 in
theorem w_c1 : (Jvm.Cond.code ({ cls := "com/example/orthrus/orthrus/model/ProtectedObjectPolicy$Audit", name := "covers", desc := "(Z)Z" } : Jvm.MethodName) prog_160_method_5_code (2 : Nat) (Option.some Jvm.ClassFile.FieldType.boolean)).before args0 about1 = true := code_word (m := ⟨6, 0⟩) (meth := k6m0) (c := k6c0) (by decide +kernel) rfl rfl rfl (by decide +kernel)
def codes1 : List Jvm.Cond := [Jvm.Cond.code x code maxLocals ret, Jvm.Cond.code ({ cls := "com/example/orthrus/orthrus/model/ProtectedObjectPolicy$Audit", name := "covers", desc := "(Z)Z" } : Jvm.MethodName) prog_160_method_5_code (2 : Nat) (Option.some Jvm.ClassFile.FieldType.boolean)]
set_option maxRecDepth 65536 in
theorem codes_eq : words1.filter isCode = codes1 := rfl
theorem w_codes : ∀ c ∈ words1.filter isCode, c.before args0 about1 = true := by
  rw [codes_eq]
  intro c hc
  simp only [codes1, List.mem_cons, List.not_mem_nil, or_false] at hc
  rcases hc with rfl | rfl
  · exact w_c0
  · exact w_c1
set_option maxRecDepth 65536 in
theorem w_t1 : words1.all (fun c => isCode c || c.before args0 about1) = true := by decide +kernel
theorem w_tables : (allAtoms (Jvm.Cond.code x code maxLocals ret :: tables_1)).before args0 about1 = true := by
  rw [allAtoms_all]
  show words1.all (fun c => c.before args0 about1) = true
  refine all_split ?_ w_codes
  rw [w_t1]
set_option maxRecDepth 65536 in
theorem w_case : (Jvm.Cond.and given_1 narrow_1).before args0 about1 = true := by decide +kernel
theorem w_applies : (headSpec (Jvm.Cond.code x code maxLocals ret :: tables_1) room_1).applies x e0.platform about1 = true :=
  (Spec.applies_iff w_frames).mpr ⟨w_running, w_runnable, w_alone, w_named, w_hears, w_ripe, w_room, w_tables⟩
theorem atStart : AtStart classFile x code maxLocals ret World_1 tables_1 room_1 Calls_1 rest_1 Pre_1 launch0 p0 e0 about1 theMethod args0 below0 :=
  ⟨lists_1, trivial, launch0.admits_env _ _ _, launch0.least_env, fairChoices_fair.cas, fairChoices_fair.clock, w_frames, w_args, w_heap, w_applies, trivial, trivial, w_case⟩
end start1
theorem witness_1 : WitnessClaimed_1 := ⟨start1.p0, start1.e0, start1.about1, start1.theMethod, start1.args0, start1.below0, start1.atStart⟩
end Jvm.Pilot.@@N@@
