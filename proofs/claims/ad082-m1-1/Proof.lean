import JvmDerived
import JvmDerived.Pilot.@@N@@Statement
import JvmDerived.Pilot.@@N@@Code
set_option linter.unusedVariables false
set_option linter.unusedSimpArgs false
namespace Jvm.RoadKit
open Sem ClassFile Op Lib Jvm.Stand Jvm.Free Jvm.LawKit
section New
variable {p : Program} {l : Launch} {e : Env} {R : Room} {s : State} {m : MethodId} {args : Array Value} {below : List Frame} {meth : Method} {c : Code} {T : State} {locs : List Loc} {cells slots : Nat}
theorem retI (X : Stand p l e R s m args below meth c T locs cells slots) (hx : p.tables.exec = Jvm.exec) {pc : Nat} {Ls : Array Slot} {z : Int32} {rest : List Value} (hret : meth.sig.returnType = some .int) (hd : decode c.code pc = .ok (.ireturn, 1)) {fs : List Frame}
    (hl : ∀ (f : JFrame) (acts : List Action), f.method = m → f.locked = none → f.entered = [] → (doReturn e (T.setTop f) acts (some (.int z))).1 = T.setFrames fs) : Steps p.tables e below (T.setTop (mkF m pc Ls (.int z :: rest))) (T.setFrames fs) := by
  have hm' : T.vm.method? m = some meth := X.method'
  have hn : narrow .int (.int z) = .int z := rfl
  show Steps p.tables e below (T.setTop { method := m, pc := pc, locals := Ls, stack := _ :: rest, locked := none }) _
  jvm_step X.here [X.here.top, hx, hd, hm', hret, hn]
  first | (intro acts; rw [hl _ acts rfl rfl rfl]) | rw [hl _ _ rfl rfl rfl]
  exact Steps.refl _
end New
end Jvm.RoadKit
namespace Jvm.Pilot.@@N@@
open Jvm Jvm.ClassFile Sem Op Lib Jvm.Free Jvm.Stand Jvm.LawKit Jvm.RoadKit Bundle Jvm.Pilot.@@N@@.Jvm.D
def own_add (n f : Int32) : Int64 := if 0 < n then (n + f).toInt64 else (n + 0).toInt64
def own_len (x : Int32) : Int32 := if (x &&& (3 : Int32)) = (0 : Int32) then 0 else if (x &&& (3 : Int32)) = (1 : Int32) then 1 else 2
def own_b (x : Int32) : Int32 := (x >>> ((2 : Int32) &&& 31)).toInt8.toInt32
def own_w (x : Int32) : Int64 := if (x &&& (3 : Int32)) = (0 : Int32) then 0 else if (x &&& (3 : Int32)) = (1 : Int32) then (1 : Int64) + (own_b x).toInt64 else (2 : Int64) + (own_b x).toInt64
def own_eq (c1 s1 c2 s2 : Int64) : Int32 := if c2 = c1 ∧ s2 = s1 then 1 else 0
theorem own_sum (n f : Int32) (h1 : 1 ≤ n.toInt) (h3 : n.toInt ≤ 3) (b : -128 ≤ f.toInt ∧ f.toInt < 128) : own_add n f = n.toInt64 + f.toInt64 := by
  unfold own_add
  have e0 : (0 : Int32).toInt = 0 := rfl
  have hp : 0 < n := by rw [Int32.lt_iff_toInt_lt, e0]; omega
  rw [if_pos hp, ← Int64.toInt_inj, c_i2l]
  have h1 := c_iadd n f; have h2 := c_ladd n.toInt64 f.toInt64; rw [c_i2l, c_i2l] at h2
  have r1 := rng32 (n + f); have r2 := rng64 (n.toInt64 + f.toInt64)
  omega
theorem own_aw (x : Int32) : own_add (own_len x) (own_b x) = own_w x := by
  have b : -128 ≤ (own_b x).toInt ∧ (own_b x).toInt < 128 := (c_i2b _).2
  unfold own_len own_w
  by_cases h0 : (x &&& (3 : Int32)) = (0 : Int32)
  · rw [if_pos h0, if_pos h0]; unfold own_add; rw [if_neg (by decide)]; decide
  · rw [if_neg h0, if_neg h0]
    by_cases h1 : (x &&& (3 : Int32)) = (1 : Int32)
    · rw [if_pos h1, if_pos h1, own_sum _ _ (by decide) (by decide) b]; rfl
    · rw [if_neg h1, if_neg h1, own_sum _ _ (by decide) (by decide) b]; rfl
theorem own_no {Z : State} {a0 : Array Value} {n : Nat} {C S P K : String} (w1 : (Jvm.Cond.superclass C S).before a0 Z = true) (w2 : (Jvm.Cond.superclass S P).before a0 Z = true) (w3 : (Jvm.Cond.noSuperclass P).before a0 Z = true) (wk : (Jvm.Cond.instantiable K n).before a0 Z = true) (h1 : C ≠ K) (h2 : S ≠ K) (h3 : P ≠ K) :
    ∃ c t, Z.vm.findClass C = some c ∧ Z.vm.findClass K = some t ∧ Z.vm.assignable c t = false := by
  obtain ⟨t, k, g1, g2, g3, g4, -⟩ := Cond.instantiable_spec wk
  obtain ⟨c3, k3, f1, f2, f3, -⟩ := Cond.noSuperclass_spec w3
  have n3 : NS Z P K := ⟨c3, t, f1, g1, fun fuel => by cases fuel <;> simp [Vm.isSubclassAux, ids_ne f1 g1 h3, f2, f3]⟩
  obtain ⟨c, t', e1, e2, e3⟩ := NS.step w1 (NS.step w2 n3 h2) h1
  cases g1.symm.trans e2
  obtain ⟨p, k', kp, -, q2, -, -, q5, -⟩ := Cond.superclass_spec e1 w1
  refine ⟨c, t, e1, g1, ?_⟩
  have gi : k.isInterface = false := by cases hi : k.isInterface <;> simp_all
  show Z.vm.assignableAux (255 + 1) c t = false
  simp [Vm.assignableAux, ids_ne e1 g1 h1, q2, g2, q5, g3, gi, Vm.isSubclass, e3]
theorem d4_0 : decode method_2_code 0 = .ok (.iload_n 0, 1) := by decide +kernel
theorem d4_1 : decode method_2_code 1 = .ok (.iconst 3, 1) := by decide +kernel
theorem d4_2 : decode method_2_code 2 = .ok (.iand, 1) := by decide +kernel
theorem d4_3 : decode method_2_code 3 = .ok (.istore_n 1, 1) := by decide +kernel
theorem d4_4 : decode method_2_code 4 = .ok (.iload_n 1, 1) := by decide +kernel
theorem d4_5 : decode method_2_code 5 = .ok (.ifCond .ne 10, 3) := by decide +kernel
theorem d4_8 : decode method_2_code 8 = .ok (.iconst 0, 1) := by decide +kernel
theorem d4_9 : decode method_2_code 9 = .ok (.newarray .byte, 2) := by decide +kernel
theorem d4_11 : decode method_2_code 11 = .ok (.astore_n 2, 1) := by decide +kernel
theorem d4_12 : decode method_2_code 12 = .ok (.goto 19, 3) := by decide +kernel
theorem d4_15 : decode method_2_code 15 = .ok (.iload_n 1, 1) := by decide +kernel
theorem d4_16 : decode method_2_code 16 = .ok (.iconst 1, 1) := by decide +kernel
theorem d4_17 : decode method_2_code 17 = .ok (.if_icmp .ne 10, 3) := by decide +kernel
theorem d4_20 : decode method_2_code 20 = .ok (.iconst 1, 1) := by decide +kernel
theorem d4_21 : decode method_2_code 21 = .ok (.newarray .byte, 2) := by decide +kernel
theorem d4_23 : decode method_2_code 23 = .ok (.astore_n 2, 1) := by decide +kernel
theorem d4_24 : decode method_2_code 24 = .ok (.goto 7, 3) := by decide +kernel
theorem d4_27 : decode method_2_code 27 = .ok (.iconst 2, 1) := by decide +kernel
theorem d4_28 : decode method_2_code 28 = .ok (.newarray .byte, 2) := by decide +kernel
theorem d4_30 : decode method_2_code 30 = .ok (.astore_n 2, 1) := by decide +kernel
theorem d4_31 : decode method_2_code 31 = .ok (.iload_n 1, 1) := by decide +kernel
theorem d4_32 : decode method_2_code 32 = .ok (.ifCond .eq 10, 3) := by decide +kernel
theorem d4_35 : decode method_2_code 35 = .ok (.aload_n 2, 1) := by decide +kernel
theorem d4_36 : decode method_2_code 36 = .ok (.iconst 0, 1) := by decide +kernel
theorem d4_37 : decode method_2_code 37 = .ok (.iload_n 0, 1) := by decide +kernel
theorem d4_38 : decode method_2_code 38 = .ok (.iconst 2, 1) := by decide +kernel
theorem d4_39 : decode method_2_code 39 = .ok (.ishr, 1) := by decide +kernel
theorem d4_40 : decode method_2_code 40 = .ok (.i2b, 1) := by decide +kernel
theorem d4_41 : decode method_2_code 41 = .ok (.bastore, 1) := by decide +kernel
theorem d4_42 : decode method_2_code 42 = .ok (.aload_n 2, 1) := by decide +kernel
theorem d4_43 : decode method_2_code 43 = .ok (.areturn, 1) := by decide +kernel
theorem own_pn0 : plainName "com/example/disk_to_queue/disktoqueue/bench/BodySumEqualsPinLaw" = true := by first | (simp [plainName, overriddenIn]; done) | decide +kernel
theorem rmB_ef (m : MethodId) (x0 : Int32) : entryFrame m #[(.int x0)] 3 = mkF m 0 #[.val (.int x0), .unset, .unset] [] := by first | (simp [entryFrame, mkF, argsToLocals, Value.category]; done) | rfl
def QB (Z : State) (p1 : Int32) (h0 : Heap) (n0 : Nat) (v : Option Value) (h : Heap) (L : List Loc) : Prop := ∃ (b : Addr) (k : ClassId) (vs : List Value), v = some (.ref b) ∧ Fr n0 L ∧ Keep h0 h [] ∧ h0.size ≤ b ∧ Arv Z h b k .byte (own_len p1) vs (.int (0 : Int32)) ∧ (0 < (own_len p1) → vs.getD 0 (.int (0 : Int32)) = .int (own_b p1))
set_option maxRecDepth 65536 in
set_option maxHeartbeats 40000000 in
theorem rmB (l : Launch) (Z : State) (a0 : Array Value) (hw : ∀ d ∈ tables_1, d.before a0 Z = true) (ws : List Jvm.Cond) (p1 : Int32) (h0 : Heap) (n0 : Nat) (Z0 : n0 ≤ h0.size) :
    MetFree l (⟨"com/example/disk_to_queue/disktoqueue/bench/BodySumEqualsPinLaw", "body", "(I)[B"⟩ : MethodName) (head1 (Jvm.Cond.code (⟨"com/example/disk_to_queue/disktoqueue/bench/BodySumEqualsPinLaw", "body", "(I)[B"⟩ : MethodName) method_2_code 3 (some (.array .byte)) :: ws) ({ frames := 0, cells := 1, slots := 2, locals := 0 } : Room)) (fun aA' U => aA' = #[(.int p1)] ∧ Z.Warmed39 U.vm ∧ U.heap = h0) (fun _ _ _ _ _ => True) (fun _ U oO' U' => ∃ vV' L, oO' = .returned vV' ∧ QB Z p1 h0 n0 vV' U'.heap L ∧ FrameEnd U oO' U' L ({ frames := 0, cells := 1, slots := 2, locals := 0 } : Room).cells ({ frames := 0, cells := 1, slots := 2, locals := 0 } : Room).slots) := by
  refine MetFree.of_bodySF (plainFor_of_name own_pn0) hisR ?_
  intro p e s m args below meth c s₁ Bd hml0 hP hK
  obtain ⟨rfl, hZ, hh⟩ := hP
  have hx := Bd.exec
  have hby := Bd.bytes
  have hml : c.maxLocals = 3 := hml0
  have hown : s.vm.findClass "com/example/disk_to_queue/disktoqueue/bench/BodySumEqualsPinLaw" = some m.cls := findClass_of_methodNamed Bd.named
  have hnm := (name_of_methodNamed Bd.named Bd.method).1
  have X0 : Stand p l e ({ frames := 0, cells := 1, slots := 2, locals := 0 } : Room) s m #[(.int p1)] below meth c s₁ [] 0 0 := Stand.of_body Bd
  have e0 : s₁.heap = h0 := by rw [← hh, Bd.state]; rfl
  have N0 := Fr.nil n0
  have K0 : Keep h0 h0 [] := Keep.refl _ _
  have k0 : ∀ t, Steps p.tables e below (s₁.setTop (mkF m 0 #[.val (.int p1), .unset, .unset] [])) t → Steps p.tables e below (s₁.setTop (entryFrame m #[(.int p1)] 3)) t := fun t k => castTop (rmB_ef m (p1)) k
  have k2 : ∀ t, Steps p.tables e below (s₁.setTop (mkF m 5 #[.val (.int p1), .val (.int (p1 &&& (3 : Int32))), .unset] [(.int (p1 &&& (3 : Int32)))])) t → Steps p.tables e below (s₁.setTop (entryFrame m #[(.int p1)] 3)) t := by
    intro t kt
    refine k0 t ?_
    show Steps p.tables e below (s₁.setTop (mkF m 0 #[.val (.int p1), .unset, .unset] [])) t
    refine XS.iloadN X0.here hx rfl (hb hby d4_0) rfl ?_
    show Steps p.tables e below (s₁.setTop (mkF m 1 #[.val (.int p1), .unset, .unset] [(.int p1)])) t
    refine XS.iconst X0.here hx rfl (hb hby d4_1) ?_
    show Steps p.tables e below (s₁.setTop (mkF m 2 #[.val (.int p1), .unset, .unset] [(.int (3 : Int32)), (.int p1)])) t
    refine XS.iand X0.here hx rfl (hb hby d4_2) rfl ?_
    show Steps p.tables e below (s₁.setTop (mkF m 3 #[.val (.int p1), .unset, .unset] [(.int (p1 &&& (3 : Int32)))])) t
    refine XS.istoreN X0.here hx rfl (hb hby d4_3) rfl (l' := #[.val (.int p1), .val (.int (p1 &&& (3 : Int32))), .unset]) rfl ?_
    show Steps p.tables e below (s₁.setTop (mkF m 4 #[.val (.int p1), .val (.int (p1 &&& (3 : Int32))), .unset] [])) t
    refine XS.iloadN X0.here hx rfl (hb hby d4_4) rfl ?_
    exact kt
  by_cases hc5_1 : (p1 &&& (3 : Int32)) = (0 : Int32)
  · have k3 : ∀ t, Steps p.tables e below (s₁.setTop (mkF m 9 #[.val (.int p1), .val (.int (p1 &&& (3 : Int32))), .unset] [(.int (0 : Int32))])) t → Steps p.tables e below (s₁.setTop (entryFrame m #[(.int p1)] 3)) t := by
      intro t kt
      refine k2 t ?_
      show Steps p.tables e below (s₁.setTop (mkF m 5 #[.val (.int p1), .val (.int (p1 &&& (3 : Int32))), .unset] [(.int (p1 &&& (3 : Int32)))])) t
      refine XS.ifNo X0.here hx rfl (hb hby d4_5) rfl ((if0 _ _).trans (teq hc5_1).2) ?_
      show Steps p.tables e below (s₁.setTop (mkF m 8 #[.val (.int p1), .val (.int (p1 &&& (3 : Int32))), .unset] [])) t
      refine XS.iconst X0.here hx rfl (hb hby d4_8) ?_
      exact kt
    obtain ⟨T4, h4, c4, X4, e4, E4, A4, st4⟩ := newP X0 hx hZ (hw _ (List.mem_of_getElem? (i := 24) rfl)) e0 (g := (mkF m 9 #[.val (.int p1), .val (.int (p1 &&& (3 : Int32))), .unset] [(.int (0 : Int32))])) rfl (hb hby d4_9) rfl (by decide) (cap := 0) (by decide) (by decide) (by decide) (by decide)
    obtain ⟨b4, g4⟩ : ∃ z, z = h0.size := ⟨_, rfl⟩
    rw [← g4] at A4 st4
    have g_b4 : n0 ≤ b4 := Nat.le_trans Z0 (Nat.le_of_eq g4.symm)
    have sz_b4 : h0.size ≤ b4 := Nat.le_trans K0.1 (Nat.le_of_eq g4.symm)
    have Z4 : n0 ≤ h4.size := Nat.le_trans Z0 E4.1
    have K4 : Keep h0 h4 [] := K0.ext E4
    have F5 : Arv Z h4 b4 c4 .byte (0 : Int32) [] (.int (0 : Int32)) := Arv.new A4 (by decide)
    have k6 : ∀ t, Steps p.tables e below (T4.setTop (mkF m 11 #[.val (.int p1), .val (.int (p1 &&& (3 : Int32))), .unset] [(.ref b4)])) t → Steps p.tables e below (s₁.setTop (entryFrame m #[(.int p1)] 3)) t := fun t kt => k3 t (st4 t kt)
    have k8 : ∀ t, Steps p.tables e below (T4.setTop (mkF m 43 #[.val (.int p1), .val (.int (p1 &&& (3 : Int32))), .val (.ref b4)] [(.ref b4)])) t → Steps p.tables e below (s₁.setTop (entryFrame m #[(.int p1)] 3)) t := by
      intro t kt
      refine k6 t ?_
      show Steps p.tables e below (T4.setTop (mkF m 11 #[.val (.int p1), .val (.int (p1 &&& (3 : Int32))), .unset] [(.ref b4)])) t
      refine XS.astoreN X4.here hx rfl (hb hby d4_11) rfl rfl (l' := #[.val (.int p1), .val (.int (p1 &&& (3 : Int32))), .val (.ref b4)]) rfl ?_
      show Steps p.tables e below (T4.setTop (mkF m 12 #[.val (.int p1), .val (.int (p1 &&& (3 : Int32))), .val (.ref b4)] [])) t
      refine XS.goto X4.here hx rfl (pc0 := 12) (pc' := 31) rfl (hb hby d4_12) (by decide) (by decide) ?_
      show Steps p.tables e below (T4.setTop (mkF m 31 #[.val (.int p1), .val (.int (p1 &&& (3 : Int32))), .val (.ref b4)] [])) t
      refine XS.iloadN X4.here hx rfl (hb hby d4_31) rfl ?_
      show Steps p.tables e below (T4.setTop (mkF m 32 #[.val (.int p1), .val (.int (p1 &&& (3 : Int32))), .val (.ref b4)] [(.int (p1 &&& (3 : Int32)))])) t
      refine XS.ifYes X4.here hx rfl (pc0 := 32) (pc' := 42) rfl (hb hby d4_32) rfl ((if0 _ _).trans (teq hc5_1).1) (by decide) (by decide) ?_
      show Steps p.tables e below (T4.setTop (mkF m 42 #[.val (.int p1), .val (.int (p1 &&& (3 : Int32))), .val (.ref b4)] [])) t
      refine XS.aloadN X4.here hx rfl (hb hby d4_42) rfl rfl ?_
      exact kt
    obtain ⟨fs, hr, hrun, hended, hW, hsame⟩ := X4.leave (v := some (.ref b4)) (fun h => by rw [Bd.returns] at h; cases h)
    refine ⟨_, _, k8 _ ?_, hrun, hended, _, _, rfl, ?_, ⟨_, rfl⟩, hW, hsame.mono (by decide) (by decide)⟩
    · show Steps p.tables e below (T4.setTop (mkF m 43 #[.val (.int p1), .val (.int (p1 &&& (3 : Int32))), .val (.ref b4)] [(.ref b4)])) _
      jvm_step X4.here [X4.here.top, hx, (hb hby d4_43), X4.method', Bd.returns, Value.isRef, FieldType.isReference]
      first | (intro acts; rw [hr _ acts rfl rfl rfl]) | rw [hr _ _ rfl rfl rfl]
      exact Steps.refl _
    · show QB Z p1 h0 n0 _ T4.heap _
      rw [e4]
      refine ⟨b4, c4, _, rfl, N0, K4, sz_b4, by rw [(show own_len p1 = (0 : Int32) from by unfold own_len; rw [if_pos hc5_1])]; exact F5, ?_⟩
      rw [(show own_len p1 = (0 : Int32) from by unfold own_len; rw [if_pos hc5_1])]
      exact fun q => absurd q (by decide)
  · have k10 : ∀ t, Steps p.tables e below (s₁.setTop (mkF m 17 #[.val (.int p1), .val (.int (p1 &&& (3 : Int32))), .unset] [(.int (1 : Int32)), (.int (p1 &&& (3 : Int32)))])) t → Steps p.tables e below (s₁.setTop (entryFrame m #[(.int p1)] 3)) t := by
      intro t kt
      refine k2 t ?_
      show Steps p.tables e below (s₁.setTop (mkF m 5 #[.val (.int p1), .val (.int (p1 &&& (3 : Int32))), .unset] [(.int (p1 &&& (3 : Int32)))])) t
      refine XS.ifYes X0.here hx rfl (pc0 := 5) (pc' := 15) rfl (hb hby d4_5) rfl ((if0 _ _).trans (feq hc5_1).2) (by decide) (by decide) ?_
      show Steps p.tables e below (s₁.setTop (mkF m 15 #[.val (.int p1), .val (.int (p1 &&& (3 : Int32))), .unset] [])) t
      refine XS.iloadN X0.here hx rfl (hb hby d4_15) rfl ?_
      show Steps p.tables e below (s₁.setTop (mkF m 16 #[.val (.int p1), .val (.int (p1 &&& (3 : Int32))), .unset] [(.int (p1 &&& (3 : Int32)))])) t
      refine XS.iconst X0.here hx rfl (hb hby d4_16) ?_
      exact kt
    by_cases hc17_9 : (p1 &&& (3 : Int32)) = (1 : Int32)
    · have k11 : ∀ t, Steps p.tables e below (s₁.setTop (mkF m 21 #[.val (.int p1), .val (.int (p1 &&& (3 : Int32))), .unset] [(.int (1 : Int32))])) t → Steps p.tables e below (s₁.setTop (entryFrame m #[(.int p1)] 3)) t := by
        intro t kt
        refine k10 t ?_
        show Steps p.tables e below (s₁.setTop (mkF m 17 #[.val (.int p1), .val (.int (p1 &&& (3 : Int32))), .unset] [(.int (1 : Int32)), (.int (p1 &&& (3 : Int32)))])) t
        refine XS.icmpNo X0.here hx rfl (hb hby d4_17) rfl (teq hc17_9).2 ?_
        show Steps p.tables e below (s₁.setTop (mkF m 20 #[.val (.int p1), .val (.int (p1 &&& (3 : Int32))), .unset] [])) t
        refine XS.iconst X0.here hx rfl (hb hby d4_20) ?_
        exact kt
      obtain ⟨T12, h12, c12, X12, e12, E12, A12, st12⟩ := newP X0 hx hZ (hw _ (List.mem_of_getElem? (i := 24) rfl)) e0 (g := (mkF m 21 #[.val (.int p1), .val (.int (p1 &&& (3 : Int32))), .unset] [(.int (1 : Int32))])) rfl (hb hby d4_21) rfl (by decide) (cap := 1) (by decide) (by decide) (by decide) (by decide)
      obtain ⟨b12, g12⟩ : ∃ z, z = h0.size := ⟨_, rfl⟩
      rw [← g12] at A12 st12
      have g_b12 : n0 ≤ b12 := Nat.le_trans Z0 (Nat.le_of_eq g12.symm)
      have sz_b12 : h0.size ≤ b12 := Nat.le_trans K0.1 (Nat.le_of_eq g12.symm)
      have Z12 : n0 ≤ h12.size := Nat.le_trans Z0 E12.1
      have K12 : Keep h0 h12 [] := K0.ext E12
      have F13 : Arv Z h12 b12 c12 .byte (1 : Int32) [(.int (0 : Int32))] (.int (0 : Int32)) := (Arv.new A12 (by decide)).pad (pad_rep [] (.int (0 : Int32)) 1)
      have k14 : ∀ t, Steps p.tables e below (T12.setTop (mkF m 23 #[.val (.int p1), .val (.int (p1 &&& (3 : Int32))), .unset] [(.ref b12)])) t → Steps p.tables e below (s₁.setTop (entryFrame m #[(.int p1)] 3)) t := fun t kt => k11 t (st12 t kt)
      have k16 : ∀ t, Steps p.tables e below (T12.setTop (mkF m 41 #[.val (.int p1), .val (.int (p1 &&& (3 : Int32))), .val (.ref b12)] [(.int ((p1 >>> ((2 : Int32) &&& 31)).toInt8.toInt32)), (.int (0 : Int32)), (.ref b12)])) t → Steps p.tables e below (s₁.setTop (entryFrame m #[(.int p1)] 3)) t := by
        intro t kt
        refine k14 t ?_
        show Steps p.tables e below (T12.setTop (mkF m 23 #[.val (.int p1), .val (.int (p1 &&& (3 : Int32))), .unset] [(.ref b12)])) t
        refine XS.astoreN X12.here hx rfl (hb hby d4_23) rfl rfl (l' := #[.val (.int p1), .val (.int (p1 &&& (3 : Int32))), .val (.ref b12)]) rfl ?_
        show Steps p.tables e below (T12.setTop (mkF m 24 #[.val (.int p1), .val (.int (p1 &&& (3 : Int32))), .val (.ref b12)] [])) t
        refine XS.goto X12.here hx rfl (pc0 := 24) (pc' := 31) rfl (hb hby d4_24) (by decide) (by decide) ?_
        show Steps p.tables e below (T12.setTop (mkF m 31 #[.val (.int p1), .val (.int (p1 &&& (3 : Int32))), .val (.ref b12)] [])) t
        refine XS.iloadN X12.here hx rfl (hb hby d4_31) rfl ?_
        show Steps p.tables e below (T12.setTop (mkF m 32 #[.val (.int p1), .val (.int (p1 &&& (3 : Int32))), .val (.ref b12)] [(.int (p1 &&& (3 : Int32)))])) t
        refine XS.ifNo X12.here hx rfl (hb hby d4_32) rfl ((if0 _ _).trans (feq hc5_1).1) ?_
        show Steps p.tables e below (T12.setTop (mkF m 35 #[.val (.int p1), .val (.int (p1 &&& (3 : Int32))), .val (.ref b12)] [])) t
        refine XS.aloadN X12.here hx rfl (hb hby d4_35) rfl rfl ?_
        show Steps p.tables e below (T12.setTop (mkF m 36 #[.val (.int p1), .val (.int (p1 &&& (3 : Int32))), .val (.ref b12)] [(.ref b12)])) t
        refine XS.iconst X12.here hx rfl (hb hby d4_36) ?_
        show Steps p.tables e below (T12.setTop (mkF m 37 #[.val (.int p1), .val (.int (p1 &&& (3 : Int32))), .val (.ref b12)] [(.int (0 : Int32)), (.ref b12)])) t
        refine XS.iloadN X12.here hx rfl (hb hby d4_37) rfl ?_
        show Steps p.tables e below (T12.setTop (mkF m 38 #[.val (.int p1), .val (.int (p1 &&& (3 : Int32))), .val (.ref b12)] [(.int p1), (.int (0 : Int32)), (.ref b12)])) t
        refine XS.iconst X12.here hx rfl (hb hby d4_38) ?_
        show Steps p.tables e below (T12.setTop (mkF m 39 #[.val (.int p1), .val (.int (p1 &&& (3 : Int32))), .val (.ref b12)] [(.int (2 : Int32)), (.int p1), (.int (0 : Int32)), (.ref b12)])) t
        refine XS.ishr X12.here hx rfl (hb hby d4_39) rfl ?_
        show Steps p.tables e below (T12.setTop (mkF m 40 #[.val (.int p1), .val (.int (p1 &&& (3 : Int32))), .val (.ref b12)] [(.int (p1 >>> ((2 : Int32) &&& 31))), (.int (0 : Int32)), (.ref b12)])) t
        refine XS.i2b X12.here hx rfl (hb hby d4_40) rfl ?_
        exact kt
      obtain ⟨cl17, Ar17, q17, S17, M17, H17, G17⟩ := id F13
      have hin17 : ¬ ((0 : Int32) < 0 ∨ cl17.slots.size ≤ ((0 : Int32)).toNatClampNeg) := inb_of S17 ⟨by decide, by decide⟩
      obtain ⟨T17, h17, X17, e17, W17, st17⟩ := stB X12 hx hZ e12 Ar17 (j := (0 : Int32)) hin17 (g := (mkF m 41 #[.val (.int p1), .val (.int (p1 &&& (3 : Int32))), .val (.ref b12)] [(.int ((p1 >>> ((2 : Int32) &&& 31)).toInt8.toInt32)), (.int (0 : Int32)), (.ref b12)])) rfl rfl (hb hby d4_41)
      have F18 : Arv Z h17 b12 c12 .byte (1 : Int32) [(.int (((p1 >>> ((2 : Int32) &&& 31)).toInt8.toInt32).toInt8.toInt32))] (.int (0 : Int32)) := Arv.set Ar17 q17 S17 M17 H17 G17 (fits_nar_byte _) W17 0 rfl (Nat.le_of_ble_eq_true rfl)
      have Z17 : n0 ≤ h17.size := Nat.le_trans Z12 (Keep.of_wr W17).1
      have K17 : Keep h0 h17 [] := K12.wr W17 (Or.inr sz_b12)
      have N17 := Fr.snoc X17 N0 g_b12
      have k20 : ∀ t, Steps p.tables e below (T17.setTop (mkF m 42 #[.val (.int p1), .val (.int (p1 &&& (3 : Int32))), .val (.ref b12)] [])) t → Steps p.tables e below (s₁.setTop (entryFrame m #[(.int p1)] 3)) t := fun t kt => k16 t (st17 t kt)
      have k21 : ∀ t, Steps p.tables e below (T17.setTop (mkF m 43 #[.val (.int p1), .val (.int (p1 &&& (3 : Int32))), .val (.ref b12)] [(.ref b12)])) t → Steps p.tables e below (s₁.setTop (entryFrame m #[(.int p1)] 3)) t := by
        intro t kt
        refine k20 t ?_
        show Steps p.tables e below (T17.setTop (mkF m 42 #[.val (.int p1), .val (.int (p1 &&& (3 : Int32))), .val (.ref b12)] [])) t
        refine XS.aloadN X17.here hx rfl (hb hby d4_42) rfl rfl ?_
        exact kt
      obtain ⟨fs, hr, hrun, hended, hW, hsame⟩ := X17.leave (v := some (.ref b12)) (fun h => by rw [Bd.returns] at h; cases h)
      refine ⟨_, _, k21 _ ?_, hrun, hended, _, _, rfl, ?_, ⟨_, rfl⟩, hW, hsame.mono (by decide) (by decide)⟩
      · show Steps p.tables e below (T17.setTop (mkF m 43 #[.val (.int p1), .val (.int (p1 &&& (3 : Int32))), .val (.ref b12)] [(.ref b12)])) _
        jvm_step X17.here [X17.here.top, hx, (hb hby d4_43), X17.method', Bd.returns, Value.isRef, FieldType.isReference]
        first | (intro acts; rw [hr _ acts rfl rfl rfl]) | rw [hr _ _ rfl rfl rfl]
        exact Steps.refl _
      · show QB Z p1 h0 n0 _ T17.heap _
        rw [e17]
        refine ⟨b12, c12, _, rfl, N17, K17, sz_b12, by rw [(show own_len p1 = (1 : Int32) from by unfold own_len; rw [if_neg hc5_1, if_pos hc17_9])]; exact F18, ?_⟩
        rw [(show own_len p1 = (1 : Int32) from by unfold own_len; rw [if_neg hc5_1, if_pos hc17_9])]
        exact fun _ => by simp [own_b]
    · have k22 : ∀ t, Steps p.tables e below (s₁.setTop (mkF m 28 #[.val (.int p1), .val (.int (p1 &&& (3 : Int32))), .unset] [(.int (2 : Int32))])) t → Steps p.tables e below (s₁.setTop (entryFrame m #[(.int p1)] 3)) t := by
        intro t kt
        refine k10 t ?_
        show Steps p.tables e below (s₁.setTop (mkF m 17 #[.val (.int p1), .val (.int (p1 &&& (3 : Int32))), .unset] [(.int (1 : Int32)), (.int (p1 &&& (3 : Int32)))])) t
        refine XS.icmpYes X0.here hx rfl (pc0 := 17) (pc' := 27) rfl (hb hby d4_17) rfl (feq hc17_9).2 (by decide) (by decide) ?_
        show Steps p.tables e below (s₁.setTop (mkF m 27 #[.val (.int p1), .val (.int (p1 &&& (3 : Int32))), .unset] [])) t
        refine XS.iconst X0.here hx rfl (hb hby d4_27) ?_
        exact kt
      obtain ⟨T23, h23, c23, X23, e23, E23, A23, st23⟩ := newP X0 hx hZ (hw _ (List.mem_of_getElem? (i := 24) rfl)) e0 (g := (mkF m 28 #[.val (.int p1), .val (.int (p1 &&& (3 : Int32))), .unset] [(.int (2 : Int32))])) rfl (hb hby d4_28) rfl (by decide) (cap := 2) (by decide) (by decide) (by decide) (by decide)
      obtain ⟨b23, g23⟩ : ∃ z, z = h0.size := ⟨_, rfl⟩
      rw [← g23] at A23 st23
      have g_b23 : n0 ≤ b23 := Nat.le_trans Z0 (Nat.le_of_eq g23.symm)
      have sz_b23 : h0.size ≤ b23 := Nat.le_trans K0.1 (Nat.le_of_eq g23.symm)
      have Z23 : n0 ≤ h23.size := Nat.le_trans Z0 E23.1
      have K23 : Keep h0 h23 [] := K0.ext E23
      have F24 : Arv Z h23 b23 c23 .byte (2 : Int32) [(.int (0 : Int32)), (.int (0 : Int32))] (.int (0 : Int32)) := (Arv.new A23 (by decide)).pad (pad_rep [] (.int (0 : Int32)) 2)
      have k25 : ∀ t, Steps p.tables e below (T23.setTop (mkF m 30 #[.val (.int p1), .val (.int (p1 &&& (3 : Int32))), .unset] [(.ref b23)])) t → Steps p.tables e below (s₁.setTop (entryFrame m #[(.int p1)] 3)) t := fun t kt => k22 t (st23 t kt)
      have k27 : ∀ t, Steps p.tables e below (T23.setTop (mkF m 41 #[.val (.int p1), .val (.int (p1 &&& (3 : Int32))), .val (.ref b23)] [(.int ((p1 >>> ((2 : Int32) &&& 31)).toInt8.toInt32)), (.int (0 : Int32)), (.ref b23)])) t → Steps p.tables e below (s₁.setTop (entryFrame m #[(.int p1)] 3)) t := by
        intro t kt
        refine k25 t ?_
        show Steps p.tables e below (T23.setTop (mkF m 30 #[.val (.int p1), .val (.int (p1 &&& (3 : Int32))), .unset] [(.ref b23)])) t
        refine XS.astoreN X23.here hx rfl (hb hby d4_30) rfl rfl (l' := #[.val (.int p1), .val (.int (p1 &&& (3 : Int32))), .val (.ref b23)]) rfl ?_
        show Steps p.tables e below (T23.setTop (mkF m 31 #[.val (.int p1), .val (.int (p1 &&& (3 : Int32))), .val (.ref b23)] [])) t
        refine XS.iloadN X23.here hx rfl (hb hby d4_31) rfl ?_
        show Steps p.tables e below (T23.setTop (mkF m 32 #[.val (.int p1), .val (.int (p1 &&& (3 : Int32))), .val (.ref b23)] [(.int (p1 &&& (3 : Int32)))])) t
        refine XS.ifNo X23.here hx rfl (hb hby d4_32) rfl ((if0 _ _).trans (feq hc5_1).1) ?_
        show Steps p.tables e below (T23.setTop (mkF m 35 #[.val (.int p1), .val (.int (p1 &&& (3 : Int32))), .val (.ref b23)] [])) t
        refine XS.aloadN X23.here hx rfl (hb hby d4_35) rfl rfl ?_
        show Steps p.tables e below (T23.setTop (mkF m 36 #[.val (.int p1), .val (.int (p1 &&& (3 : Int32))), .val (.ref b23)] [(.ref b23)])) t
        refine XS.iconst X23.here hx rfl (hb hby d4_36) ?_
        show Steps p.tables e below (T23.setTop (mkF m 37 #[.val (.int p1), .val (.int (p1 &&& (3 : Int32))), .val (.ref b23)] [(.int (0 : Int32)), (.ref b23)])) t
        refine XS.iloadN X23.here hx rfl (hb hby d4_37) rfl ?_
        show Steps p.tables e below (T23.setTop (mkF m 38 #[.val (.int p1), .val (.int (p1 &&& (3 : Int32))), .val (.ref b23)] [(.int p1), (.int (0 : Int32)), (.ref b23)])) t
        refine XS.iconst X23.here hx rfl (hb hby d4_38) ?_
        show Steps p.tables e below (T23.setTop (mkF m 39 #[.val (.int p1), .val (.int (p1 &&& (3 : Int32))), .val (.ref b23)] [(.int (2 : Int32)), (.int p1), (.int (0 : Int32)), (.ref b23)])) t
        refine XS.ishr X23.here hx rfl (hb hby d4_39) rfl ?_
        show Steps p.tables e below (T23.setTop (mkF m 40 #[.val (.int p1), .val (.int (p1 &&& (3 : Int32))), .val (.ref b23)] [(.int (p1 >>> ((2 : Int32) &&& 31))), (.int (0 : Int32)), (.ref b23)])) t
        refine XS.i2b X23.here hx rfl (hb hby d4_40) rfl ?_
        exact kt
      obtain ⟨cl28, Ar28, q28, S28, M28, H28, G28⟩ := id F24
      have hin28 : ¬ ((0 : Int32) < 0 ∨ cl28.slots.size ≤ ((0 : Int32)).toNatClampNeg) := inb_of S28 ⟨by decide, by decide⟩
      obtain ⟨T28, h28, X28, e28, W28, st28⟩ := stB X23 hx hZ e23 Ar28 (j := (0 : Int32)) hin28 (g := (mkF m 41 #[.val (.int p1), .val (.int (p1 &&& (3 : Int32))), .val (.ref b23)] [(.int ((p1 >>> ((2 : Int32) &&& 31)).toInt8.toInt32)), (.int (0 : Int32)), (.ref b23)])) rfl rfl (hb hby d4_41)
      have F29 : Arv Z h28 b23 c23 .byte (2 : Int32) [(.int (((p1 >>> ((2 : Int32) &&& 31)).toInt8.toInt32).toInt8.toInt32)), (.int (0 : Int32))] (.int (0 : Int32)) := Arv.set Ar28 q28 S28 M28 H28 G28 (fits_nar_byte _) W28 0 rfl (Nat.le_of_ble_eq_true rfl)
      have Z28 : n0 ≤ h28.size := Nat.le_trans Z23 (Keep.of_wr W28).1
      have K28 : Keep h0 h28 [] := K23.wr W28 (Or.inr sz_b23)
      have N28 := Fr.snoc X28 N0 g_b23
      have k31 : ∀ t, Steps p.tables e below (T28.setTop (mkF m 42 #[.val (.int p1), .val (.int (p1 &&& (3 : Int32))), .val (.ref b23)] [])) t → Steps p.tables e below (s₁.setTop (entryFrame m #[(.int p1)] 3)) t := fun t kt => k27 t (st28 t kt)
      have k32 : ∀ t, Steps p.tables e below (T28.setTop (mkF m 43 #[.val (.int p1), .val (.int (p1 &&& (3 : Int32))), .val (.ref b23)] [(.ref b23)])) t → Steps p.tables e below (s₁.setTop (entryFrame m #[(.int p1)] 3)) t := by
        intro t kt
        refine k31 t ?_
        show Steps p.tables e below (T28.setTop (mkF m 42 #[.val (.int p1), .val (.int (p1 &&& (3 : Int32))), .val (.ref b23)] [])) t
        refine XS.aloadN X28.here hx rfl (hb hby d4_42) rfl rfl ?_
        exact kt
      obtain ⟨fs, hr, hrun, hended, hW, hsame⟩ := X28.leave (v := some (.ref b23)) (fun h => by rw [Bd.returns] at h; cases h)
      refine ⟨_, _, k32 _ ?_, hrun, hended, _, _, rfl, ?_, ⟨_, rfl⟩, hW, hsame.mono (by decide) (by decide)⟩
      · show Steps p.tables e below (T28.setTop (mkF m 43 #[.val (.int p1), .val (.int (p1 &&& (3 : Int32))), .val (.ref b23)] [(.ref b23)])) _
        jvm_step X28.here [X28.here.top, hx, (hb hby d4_43), X28.method', Bd.returns, Value.isRef, FieldType.isReference]
        first | (intro acts; rw [hr _ acts rfl rfl rfl]) | rw [hr _ _ rfl rfl rfl]
        exact Steps.refl _
      · show QB Z p1 h0 n0 _ T28.heap _
        rw [e28]
        refine ⟨b23, c23, _, rfl, N28, K28, sz_b23, by rw [(show own_len p1 = (2 : Int32) from by unfold own_len; rw [if_neg hc5_1, if_neg hc17_9])]; exact F29, ?_⟩
        rw [(show own_len p1 = (2 : Int32) from by unfold own_len; rw [if_neg hc5_1, if_neg hc17_9])]
        exact fun _ => by simp [own_b]
theorem d6_0 : decode method_3_code 0 = .ok (.iload_n 0, 1) := by decide +kernel
theorem d6_1 : decode method_3_code 1 = .ok (.iconst 3, 1) := by decide +kernel
theorem d6_2 : decode method_3_code 2 = .ok (.iand, 1) := by decide +kernel
theorem d6_3 : decode method_3_code 3 = .ok (.istore_n 1, 1) := by decide +kernel
theorem d6_4 : decode method_3_code 4 = .ok (.iload_n 1, 1) := by decide +kernel
theorem d6_5 : decode method_3_code 5 = .ok (.ifCond .ne 5, 3) := by decide +kernel
theorem d6_8 : decode method_3_code 8 = .ok (.lconst 0, 1) := by decide +kernel
theorem d6_9 : decode method_3_code 9 = .ok (.lreturn, 1) := by decide +kernel
theorem d6_10 : decode method_3_code 10 = .ok (.iload_n 1, 1) := by decide +kernel
theorem d6_11 : decode method_3_code 11 = .ok (.iconst 1, 1) := by decide +kernel
theorem d6_12 : decode method_3_code 12 = .ok (.if_icmp .ne 7, 3) := by decide +kernel
theorem d6_15 : decode method_3_code 15 = .ok (.lconst 1, 1) := by decide +kernel
theorem d6_16 : decode method_3_code 16 = .ok (.goto 6, 3) := by decide +kernel
theorem d6_19 : decode method_3_code 19 = .ok (.ldc2_w 7, 3) := by decide +kernel
theorem d6_22 : decode method_3_code 22 = .ok (.lstore_n 2, 1) := by decide +kernel
theorem d6_23 : decode method_3_code 23 = .ok (.lload_n 2, 1) := by decide +kernel
theorem d6_24 : decode method_3_code 24 = .ok (.iload_n 0, 1) := by decide +kernel
theorem d6_25 : decode method_3_code 25 = .ok (.iconst 2, 1) := by decide +kernel
theorem d6_26 : decode method_3_code 26 = .ok (.ishr, 1) := by decide +kernel
theorem d6_27 : decode method_3_code 27 = .ok (.i2b, 1) := by decide +kernel
theorem d6_28 : decode method_3_code 28 = .ok (.i2l, 1) := by decide +kernel
theorem d6_29 : decode method_3_code 29 = .ok (.ladd, 1) := by decide +kernel
theorem d6_30 : decode method_3_code 30 = .ok (.lreturn, 1) := by decide +kernel
theorem rmW_ef (m : MethodId) (x0 : Int32) : entryFrame m #[(.int x0)] 4 = mkF m 0 #[.val (.int x0), .unset, .unset, .unset] [] := by first | (simp [entryFrame, mkF, argsToLocals, Value.category]; done) | rfl
def QW (Z : State) (p1 : Int32) (h0 : Heap) (n0 : Nat) (v : Option Value) (h : Heap) (L : List Loc) : Prop := v = some (.long (own_w p1)) ∧ Fr n0 L ∧ h = h0
set_option maxRecDepth 65536 in
set_option maxHeartbeats 40000000 in
theorem rmW (l : Launch) (Z : State) (a0 : Array Value) (hw : ∀ d ∈ tables_1, d.before a0 Z = true) (ws : List Jvm.Cond) (p1 : Int32) (h0 : Heap) (n0 : Nat) (Z0 : n0 ≤ h0.size) :
    MetFree l (⟨"com/example/disk_to_queue/disktoqueue/bench/BodySumEqualsPinLaw", "weight", "(I)J"⟩ : MethodName) (head1 (Jvm.Cond.code (⟨"com/example/disk_to_queue/disktoqueue/bench/BodySumEqualsPinLaw", "weight", "(I)J"⟩ : MethodName) method_3_code 4 (some .long) :: ws) ({ frames := 0, cells := 0, slots := 0, locals := 0 } : Room)) (fun aA' U => aA' = #[(.int p1)] ∧ Z.Warmed39 U.vm ∧ U.heap = h0) (fun _ _ _ _ _ => True) (fun _ U oO' U' => ∃ vV' L, oO' = .returned vV' ∧ QW Z p1 h0 n0 vV' U'.heap L ∧ FrameEnd U oO' U' L ({ frames := 0, cells := 0, slots := 0, locals := 0 } : Room).cells ({ frames := 0, cells := 0, slots := 0, locals := 0 } : Room).slots) := by
  refine MetFree.of_bodySF (plainFor_of_name own_pn0) hisR ?_
  intro p e s m args below meth c s₁ Bd hml0 hP hK
  obtain ⟨rfl, hZ, hh⟩ := hP
  have hx := Bd.exec
  have hby := Bd.bytes
  have hml : c.maxLocals = 4 := hml0
  have hown : s.vm.findClass "com/example/disk_to_queue/disktoqueue/bench/BodySumEqualsPinLaw" = some m.cls := findClass_of_methodNamed Bd.named
  have hnm := (name_of_methodNamed Bd.named Bd.method).1
  have X0 : Stand p l e ({ frames := 0, cells := 0, slots := 0, locals := 0 } : Room) s m #[(.int p1)] below meth c s₁ [] 0 0 := Stand.of_body Bd
  have e0 : s₁.heap = h0 := by rw [← hh, Bd.state]; rfl
  have N0 := Fr.nil n0
  have K0 : Keep h0 h0 [] := Keep.refl _ _
  have k0 : ∀ t, Steps p.tables e below (s₁.setTop (mkF m 0 #[.val (.int p1), .unset, .unset, .unset] [])) t → Steps p.tables e below (s₁.setTop (entryFrame m #[(.int p1)] 4)) t := fun t k => castTop (rmW_ef m (p1)) k
  have k2 : ∀ t, Steps p.tables e below (s₁.setTop (mkF m 5 #[.val (.int p1), .val (.int (p1 &&& (3 : Int32))), .unset, .unset] [(.int (p1 &&& (3 : Int32)))])) t → Steps p.tables e below (s₁.setTop (entryFrame m #[(.int p1)] 4)) t := by
    intro t kt
    refine k0 t ?_
    show Steps p.tables e below (s₁.setTop (mkF m 0 #[.val (.int p1), .unset, .unset, .unset] [])) t
    refine XS.iloadN X0.here hx rfl (hb hby d6_0) rfl ?_
    show Steps p.tables e below (s₁.setTop (mkF m 1 #[.val (.int p1), .unset, .unset, .unset] [(.int p1)])) t
    refine XS.iconst X0.here hx rfl (hb hby d6_1) ?_
    show Steps p.tables e below (s₁.setTop (mkF m 2 #[.val (.int p1), .unset, .unset, .unset] [(.int (3 : Int32)), (.int p1)])) t
    refine XS.iand X0.here hx rfl (hb hby d6_2) rfl ?_
    show Steps p.tables e below (s₁.setTop (mkF m 3 #[.val (.int p1), .unset, .unset, .unset] [(.int (p1 &&& (3 : Int32)))])) t
    refine XS.istoreN X0.here hx rfl (hb hby d6_3) rfl (l' := #[.val (.int p1), .val (.int (p1 &&& (3 : Int32))), .unset, .unset]) rfl ?_
    show Steps p.tables e below (s₁.setTop (mkF m 4 #[.val (.int p1), .val (.int (p1 &&& (3 : Int32))), .unset, .unset] [])) t
    refine XS.iloadN X0.here hx rfl (hb hby d6_4) rfl ?_
    exact kt
  by_cases hc5_1 : (p1 &&& (3 : Int32)) = (0 : Int32)
  · have k3 : ∀ t, Steps p.tables e below (s₁.setTop (mkF m 9 #[.val (.int p1), .val (.int (p1 &&& (3 : Int32))), .unset, .unset] [(.long (0 : Int64))])) t → Steps p.tables e below (s₁.setTop (entryFrame m #[(.int p1)] 4)) t := by
      intro t kt
      refine k2 t ?_
      show Steps p.tables e below (s₁.setTop (mkF m 5 #[.val (.int p1), .val (.int (p1 &&& (3 : Int32))), .unset, .unset] [(.int (p1 &&& (3 : Int32)))])) t
      refine XS.ifNo X0.here hx rfl (hb hby d6_5) rfl ((if0 _ _).trans (teq hc5_1).2) ?_
      show Steps p.tables e below (s₁.setTop (mkF m 8 #[.val (.int p1), .val (.int (p1 &&& (3 : Int32))), .unset, .unset] [])) t
      refine XS.lconst X0.here hx rfl (hb hby d6_8) ?_
      exact kt
    obtain ⟨fs, hr, hrun, hended, hW, hsame⟩ := X0.leave (v := some (.long (0 : Int64))) (fun h => by rw [Bd.returns] at h; cases h)
    refine ⟨_, _, k3 _ ?_, hrun, hended, _, _, rfl, ?_, ⟨_, rfl⟩, hW, hsame.mono (by decide) (by decide)⟩
    · show Steps p.tables e below (s₁.setTop (mkF m 9 #[.val (.int p1), .val (.int (p1 &&& (3 : Int32))), .unset, .unset] [(.long (0 : Int64))])) _
      exact X0.lreturnOut hx Bd.returns (hb hby d6_9) hr
    · show QW Z p1 h0 n0 _ s₁.heap _
      rw [e0]
      refine ⟨congrArg (fun z => some (Value.long z)) ?_, N0, rfl⟩
      simp [own_w, own_b, hc5_1]
  · have k5 : ∀ t, Steps p.tables e below (s₁.setTop (mkF m 12 #[.val (.int p1), .val (.int (p1 &&& (3 : Int32))), .unset, .unset] [(.int (1 : Int32)), (.int (p1 &&& (3 : Int32)))])) t → Steps p.tables e below (s₁.setTop (entryFrame m #[(.int p1)] 4)) t := by
      intro t kt
      refine k2 t ?_
      show Steps p.tables e below (s₁.setTop (mkF m 5 #[.val (.int p1), .val (.int (p1 &&& (3 : Int32))), .unset, .unset] [(.int (p1 &&& (3 : Int32)))])) t
      refine XS.ifYes X0.here hx rfl (pc0 := 5) (pc' := 10) rfl (hb hby d6_5) rfl ((if0 _ _).trans (feq hc5_1).2) (by decide) (by decide) ?_
      show Steps p.tables e below (s₁.setTop (mkF m 10 #[.val (.int p1), .val (.int (p1 &&& (3 : Int32))), .unset, .unset] [])) t
      refine XS.iloadN X0.here hx rfl (hb hby d6_10) rfl ?_
      show Steps p.tables e below (s₁.setTop (mkF m 11 #[.val (.int p1), .val (.int (p1 &&& (3 : Int32))), .unset, .unset] [(.int (p1 &&& (3 : Int32)))])) t
      refine XS.iconst X0.here hx rfl (hb hby d6_11) ?_
      exact kt
    by_cases hc12_4 : (p1 &&& (3 : Int32)) = (1 : Int32)
    · have k6 : ∀ t, Steps p.tables e below (s₁.setTop (mkF m 30 #[.val (.int p1), .val (.int (p1 &&& (3 : Int32))), .val (.long (1 : Int64)), .second] [(.long ((1 : Int64) + (((p1 >>> ((2 : Int32) &&& 31)).toInt8.toInt32).toInt64)))])) t → Steps p.tables e below (s₁.setTop (entryFrame m #[(.int p1)] 4)) t := by
        intro t kt
        refine k5 t ?_
        show Steps p.tables e below (s₁.setTop (mkF m 12 #[.val (.int p1), .val (.int (p1 &&& (3 : Int32))), .unset, .unset] [(.int (1 : Int32)), (.int (p1 &&& (3 : Int32)))])) t
        refine XS.icmpNo X0.here hx rfl (hb hby d6_12) rfl (teq hc12_4).2 ?_
        show Steps p.tables e below (s₁.setTop (mkF m 15 #[.val (.int p1), .val (.int (p1 &&& (3 : Int32))), .unset, .unset] [])) t
        refine XS.lconst X0.here hx rfl (hb hby d6_15) ?_
        show Steps p.tables e below (s₁.setTop (mkF m 16 #[.val (.int p1), .val (.int (p1 &&& (3 : Int32))), .unset, .unset] [(.long (1 : Int64))])) t
        refine XS.goto X0.here hx rfl (pc0 := 16) (pc' := 22) rfl (hb hby d6_16) (by decide) (by decide) ?_
        show Steps p.tables e below (s₁.setTop (mkF m 22 #[.val (.int p1), .val (.int (p1 &&& (3 : Int32))), .unset, .unset] [(.long (1 : Int64))])) t
        refine XS.lstoreN X0.here hx rfl (hb hby d6_22) rfl (l' := #[.val (.int p1), .val (.int (p1 &&& (3 : Int32))), .val (.long (1 : Int64)), .second]) rfl ?_
        show Steps p.tables e below (s₁.setTop (mkF m 23 #[.val (.int p1), .val (.int (p1 &&& (3 : Int32))), .val (.long (1 : Int64)), .second] [])) t
        refine XS.lloadN X0.here hx rfl (hb hby d6_23) rfl ?_
        show Steps p.tables e below (s₁.setTop (mkF m 24 #[.val (.int p1), .val (.int (p1 &&& (3 : Int32))), .val (.long (1 : Int64)), .second] [(.long (1 : Int64))])) t
        refine XS.iloadN X0.here hx rfl (hb hby d6_24) rfl ?_
        show Steps p.tables e below (s₁.setTop (mkF m 25 #[.val (.int p1), .val (.int (p1 &&& (3 : Int32))), .val (.long (1 : Int64)), .second] [(.int p1), (.long (1 : Int64))])) t
        refine XS.iconst X0.here hx rfl (hb hby d6_25) ?_
        show Steps p.tables e below (s₁.setTop (mkF m 26 #[.val (.int p1), .val (.int (p1 &&& (3 : Int32))), .val (.long (1 : Int64)), .second] [(.int (2 : Int32)), (.int p1), (.long (1 : Int64))])) t
        refine XS.ishr X0.here hx rfl (hb hby d6_26) rfl ?_
        show Steps p.tables e below (s₁.setTop (mkF m 27 #[.val (.int p1), .val (.int (p1 &&& (3 : Int32))), .val (.long (1 : Int64)), .second] [(.int (p1 >>> ((2 : Int32) &&& 31))), (.long (1 : Int64))])) t
        refine XS.i2b X0.here hx rfl (hb hby d6_27) rfl ?_
        show Steps p.tables e below (s₁.setTop (mkF m 28 #[.val (.int p1), .val (.int (p1 &&& (3 : Int32))), .val (.long (1 : Int64)), .second] [(.int ((p1 >>> ((2 : Int32) &&& 31)).toInt8.toInt32)), (.long (1 : Int64))])) t
        refine XS.i2l X0.here hx rfl (hb hby d6_28) rfl ?_
        show Steps p.tables e below (s₁.setTop (mkF m 29 #[.val (.int p1), .val (.int (p1 &&& (3 : Int32))), .val (.long (1 : Int64)), .second] [(.long (((p1 >>> ((2 : Int32) &&& 31)).toInt8.toInt32).toInt64)), (.long (1 : Int64))])) t
        refine XS.ladd X0.here hx rfl (hb hby d6_29) rfl ?_
        exact kt
      obtain ⟨fs, hr, hrun, hended, hW, hsame⟩ := X0.leave (v := some (.long ((1 : Int64) + (((p1 >>> ((2 : Int32) &&& 31)).toInt8.toInt32).toInt64)))) (fun h => by rw [Bd.returns] at h; cases h)
      refine ⟨_, _, k6 _ ?_, hrun, hended, _, _, rfl, ?_, ⟨_, rfl⟩, hW, hsame.mono (by decide) (by decide)⟩
      · show Steps p.tables e below (s₁.setTop (mkF m 30 #[.val (.int p1), .val (.int (p1 &&& (3 : Int32))), .val (.long (1 : Int64)), .second] [(.long ((1 : Int64) + (((p1 >>> ((2 : Int32) &&& 31)).toInt8.toInt32).toInt64)))])) _
        exact X0.lreturnOut hx Bd.returns (hb hby d6_30) hr
      · show QW Z p1 h0 n0 _ s₁.heap _
        rw [e0]
        refine ⟨congrArg (fun z => some (Value.long z)) ?_, N0, rfl⟩
        simp [own_w, own_b, hc5_1, hc12_4]
    · have k7 : ∀ t, Steps p.tables e below (s₁.setTop (mkF m 30 #[.val (.int p1), .val (.int (p1 &&& (3 : Int32))), .val (.long (2 : Int64)), .second] [(.long ((2 : Int64) + (((p1 >>> ((2 : Int32) &&& 31)).toInt8.toInt32).toInt64)))])) t → Steps p.tables e below (s₁.setTop (entryFrame m #[(.int p1)] 4)) t := by
        intro t kt
        refine k5 t ?_
        show Steps p.tables e below (s₁.setTop (mkF m 12 #[.val (.int p1), .val (.int (p1 &&& (3 : Int32))), .unset, .unset] [(.int (1 : Int32)), (.int (p1 &&& (3 : Int32)))])) t
        refine XS.icmpYes X0.here hx rfl (pc0 := 12) (pc' := 19) rfl (hb hby d6_12) rfl (feq hc12_4).2 (by decide) (by decide) ?_
        show Steps p.tables e below (s₁.setTop (mkF m 19 #[.val (.int p1), .val (.int (p1 &&& (3 : Int32))), .unset, .unset] [])) t
        refine X0.ldc2Long hx hown (mvT hZ (hw _ (List.mem_of_getElem? (i := 33) rfl))) (g := (mkF m 19 #[.val (.int p1), .val (.int (p1 &&& (3 : Int32))), .unset, .unset] [])) rfl (hb hby d6_19) _ ?_
        show Steps p.tables e below (s₁.setTop (mkF m 22 #[.val (.int p1), .val (.int (p1 &&& (3 : Int32))), .unset, .unset] [(.long (2 : Int64))])) t
        refine XS.lstoreN X0.here hx rfl (hb hby d6_22) rfl (l' := #[.val (.int p1), .val (.int (p1 &&& (3 : Int32))), .val (.long (2 : Int64)), .second]) rfl ?_
        show Steps p.tables e below (s₁.setTop (mkF m 23 #[.val (.int p1), .val (.int (p1 &&& (3 : Int32))), .val (.long (2 : Int64)), .second] [])) t
        refine XS.lloadN X0.here hx rfl (hb hby d6_23) rfl ?_
        show Steps p.tables e below (s₁.setTop (mkF m 24 #[.val (.int p1), .val (.int (p1 &&& (3 : Int32))), .val (.long (2 : Int64)), .second] [(.long (2 : Int64))])) t
        refine XS.iloadN X0.here hx rfl (hb hby d6_24) rfl ?_
        show Steps p.tables e below (s₁.setTop (mkF m 25 #[.val (.int p1), .val (.int (p1 &&& (3 : Int32))), .val (.long (2 : Int64)), .second] [(.int p1), (.long (2 : Int64))])) t
        refine XS.iconst X0.here hx rfl (hb hby d6_25) ?_
        show Steps p.tables e below (s₁.setTop (mkF m 26 #[.val (.int p1), .val (.int (p1 &&& (3 : Int32))), .val (.long (2 : Int64)), .second] [(.int (2 : Int32)), (.int p1), (.long (2 : Int64))])) t
        refine XS.ishr X0.here hx rfl (hb hby d6_26) rfl ?_
        show Steps p.tables e below (s₁.setTop (mkF m 27 #[.val (.int p1), .val (.int (p1 &&& (3 : Int32))), .val (.long (2 : Int64)), .second] [(.int (p1 >>> ((2 : Int32) &&& 31))), (.long (2 : Int64))])) t
        refine XS.i2b X0.here hx rfl (hb hby d6_27) rfl ?_
        show Steps p.tables e below (s₁.setTop (mkF m 28 #[.val (.int p1), .val (.int (p1 &&& (3 : Int32))), .val (.long (2 : Int64)), .second] [(.int ((p1 >>> ((2 : Int32) &&& 31)).toInt8.toInt32)), (.long (2 : Int64))])) t
        refine XS.i2l X0.here hx rfl (hb hby d6_28) rfl ?_
        show Steps p.tables e below (s₁.setTop (mkF m 29 #[.val (.int p1), .val (.int (p1 &&& (3 : Int32))), .val (.long (2 : Int64)), .second] [(.long (((p1 >>> ((2 : Int32) &&& 31)).toInt8.toInt32).toInt64)), (.long (2 : Int64))])) t
        refine XS.ladd X0.here hx rfl (hb hby d6_29) rfl ?_
        exact kt
      obtain ⟨fs, hr, hrun, hended, hW, hsame⟩ := X0.leave (v := some (.long ((2 : Int64) + (((p1 >>> ((2 : Int32) &&& 31)).toInt8.toInt32).toInt64)))) (fun h => by rw [Bd.returns] at h; cases h)
      refine ⟨_, _, k7 _ ?_, hrun, hended, _, _, rfl, ?_, ⟨_, rfl⟩, hW, hsame.mono (by decide) (by decide)⟩
      · show Steps p.tables e below (s₁.setTop (mkF m 30 #[.val (.int p1), .val (.int (p1 &&& (3 : Int32))), .val (.long (2 : Int64)), .second] [(.long ((2 : Int64) + (((p1 >>> ((2 : Int32) &&& 31)).toInt8.toInt32).toInt64)))])) _
        exact X0.lreturnOut hx Bd.returns (hb hby d6_30) hr
      · show QW Z p1 h0 n0 _ s₁.heap _
        rw [e0]
        refine ⟨congrArg (fun z => some (Value.long z)) ?_, N0, rfl⟩
        simp [own_w, own_b, hc5_1, hc12_4]
theorem d1_0 : decode prog_1_method_1_code 0 = .ok (.aload_n 0, 1) := by decide +kernel
theorem d1_1 : decode prog_1_method_1_code 1 = .ok (.invokespecial 1, 3) := by decide +kernel
theorem d1_4 : decode prog_1_method_1_code 4 = .ok (.return_, 1) := by decide +kernel
theorem own_pn1 : plainName "com/example/disk_to_queue/disktoqueue/bench/BodySum" = true := by first | (simp [plainName, overriddenIn]; done) | decide +kernel
theorem rmI_ef (m : MethodId) (x0 : Addr) : entryFrame m #[(.ref x0)] 1 = mkF m 0 #[.val (.ref x0)] [] := by first | (simp [entryFrame, mkF, argsToLocals, Value.category]; done) | rfl
def QI (Z : State) (a : Addr) (h0 : Heap) (n0 : Nat) (v : Option Value) (h : Heap) (L : List Loc) : Prop := v = none ∧ Fr n0 L ∧ h = h0
set_option maxRecDepth 65536 in
set_option maxHeartbeats 40000000 in
theorem rmI (l : Launch) (Z : State) (a0 : Array Value) (hw : ∀ d ∈ tables_1, d.before a0 Z = true) (ws : List Jvm.Cond) (a : Addr) (h0 : Heap) (n0 : Nat) (Z0 : n0 ≤ h0.size) :
    MetFree l (⟨"com/example/disk_to_queue/disktoqueue/bench/BodySum", "<init>", "()V"⟩ : MethodName) (head1 (Jvm.Cond.code (⟨"com/example/disk_to_queue/disktoqueue/bench/BodySum", "<init>", "()V"⟩ : MethodName) prog_1_method_1_code 1 none :: ws) ({ frames := 1, cells := 0, slots := 0, locals := 12 } : Room)) (fun aA' U => aA' = #[(.ref a)] ∧ Z.Warmed39 U.vm ∧ U.heap = h0) (fun _ _ _ _ _ => True) (fun _ U oO' U' => ∃ vV' L, oO' = .returned vV' ∧ QI Z a h0 n0 vV' U'.heap L ∧ FrameEnd U oO' U' L ({ frames := 1, cells := 0, slots := 0, locals := 12 } : Room).cells ({ frames := 1, cells := 0, slots := 0, locals := 12 } : Room).slots) := by
  refine MetFree.of_bodySF (plainFor_of_name own_pn1) hisR ?_
  intro p e s m args below meth c s₁ Bd hml0 hP hK
  obtain ⟨rfl, hZ, hh⟩ := hP
  have hx := Bd.exec
  have hby := Bd.bytes
  have hml : c.maxLocals = 1 := hml0
  have hown : s.vm.findClass "com/example/disk_to_queue/disktoqueue/bench/BodySum" = some m.cls := findClass_of_methodNamed Bd.named
  have hnm := (name_of_methodNamed Bd.named Bd.method).1
  have X0 : Stand p l e ({ frames := 1, cells := 0, slots := 0, locals := 12 } : Room) s m #[(.ref a)] below meth c s₁ [] 0 0 := Stand.of_body Bd
  have e0 : s₁.heap = h0 := by rw [← hh, Bd.state]; rfl
  have N0 := Fr.nil n0
  have K0 : Keep h0 h0 [] := Keep.refl _ _
  have k0 : ∀ t, Steps p.tables e below (s₁.setTop (mkF m 0 #[.val (.ref a)] [])) t → Steps p.tables e below (s₁.setTop (entryFrame m #[(.ref a)] 1)) t := fun t k => castTop (rmI_ef m (a)) k
  have k1 : ∀ t, Steps p.tables e below (s₁.setTop (mkF m 1 #[.val (.ref a)] [(.ref a)])) t → Steps p.tables e below (s₁.setTop (entryFrame m #[(.ref a)] 1)) t := by
    intro t kt
    refine k0 t ?_
    show Steps p.tables e below (s₁.setTop (mkF m 0 #[.val (.ref a)] [])) t
    refine XS.aloadN X0.here hx rfl (hb hby d1_0) rfl rfl ?_
    exact kt
  obtain ⟨T2, X2, e2, st2⟩ := initO X0 hx hZ hown (hw _ (List.mem_of_getElem? (i := 6) rfl)) (hw _ (List.mem_of_getElem? (i := 7) rfl)) (hw _ (List.mem_of_getElem? (i := 8) rfl)) e0 (g := (mkF m 1 #[.val (.ref a)] [(.ref a)])) rfl (by rw [hml]; rfl) rfl (hb hby d1_1) (by decide) (W := 0) (by show 2 * 0 + _ ≤ _; exact Nat.le_of_eq rfl) (by decide)
  have k3 : ∀ t, Steps p.tables e below (T2.setTop (mkF m 4 #[.val (.ref a)] [])) t → Steps p.tables e below (s₁.setTop (entryFrame m #[(.ref a)] 1)) t := fun t kt => k1 t (st2 t kt)
  obtain ⟨fs, hr, hrun, hended, hW, hsame⟩ := X2.leave (v := none) (fun _ => rfl)
  refine ⟨_, _, k3 _ ?_, hrun, hended, _, _, rfl, ?_, ⟨_, rfl⟩, hW, hsame.mono (by decide) (by decide)⟩
  · show Steps p.tables e below (T2.setTop (mkF m 4 #[.val (.ref a)] [])) _
    exact X2.returnOut hx Bd.returns (hb hby d1_4) hr
  · show QI Z a h0 n0 _ T2.heap _
    rw [e2]
    exact ⟨rfl, N0, rfl⟩
theorem d5_0 : decode prog_1_method_3_code 0 = .ok (.aload_n 0, 1) := by decide +kernel
theorem d5_1 : decode prog_1_method_3_code 1 = .ok (.dup, 1) := by decide +kernel
theorem d5_2 : decode prog_1_method_3_code 2 = .ok (.getfield 14, 3) := by decide +kernel
theorem d5_5 : decode prog_1_method_3_code 5 = .ok (.lconst 1, 1) := by decide +kernel
theorem d5_6 : decode prog_1_method_3_code 6 = .ok (.ladd, 1) := by decide +kernel
theorem d5_7 : decode prog_1_method_3_code 7 = .ok (.putfield 14, 3) := by decide +kernel
theorem d5_10 : decode prog_1_method_3_code 10 = .ok (.aload_n 0, 1) := by decide +kernel
theorem d5_11 : decode prog_1_method_3_code 11 = .ok (.dup, 1) := by decide +kernel
theorem d5_12 : decode prog_1_method_3_code 12 = .ok (.getfield 18, 3) := by decide +kernel
theorem d5_15 : decode prog_1_method_3_code 15 = .ok (.aload_n 1, 1) := by decide +kernel
theorem d5_16 : decode prog_1_method_3_code 16 = .ok (.arraylength, 1) := by decide +kernel
theorem d5_17 : decode prog_1_method_3_code 17 = .ok (.aload_n 1, 1) := by decide +kernel
theorem d5_18 : decode prog_1_method_3_code 18 = .ok (.arraylength, 1) := by decide +kernel
theorem d5_19 : decode prog_1_method_3_code 19 = .ok (.ifCond .le 9, 3) := by decide +kernel
theorem d5_22 : decode prog_1_method_3_code 22 = .ok (.aload_n 1, 1) := by decide +kernel
theorem d5_23 : decode prog_1_method_3_code 23 = .ok (.iconst 0, 1) := by decide +kernel
theorem d5_24 : decode prog_1_method_3_code 24 = .ok (.baload, 1) := by decide +kernel
theorem d5_25 : decode prog_1_method_3_code 25 = .ok (.goto 4, 3) := by decide +kernel
theorem d5_28 : decode prog_1_method_3_code 28 = .ok (.iconst 0, 1) := by decide +kernel
theorem d5_29 : decode prog_1_method_3_code 29 = .ok (.iadd, 1) := by decide +kernel
theorem d5_30 : decode prog_1_method_3_code 30 = .ok (.i2l, 1) := by decide +kernel
theorem d5_31 : decode prog_1_method_3_code 31 = .ok (.ladd, 1) := by decide +kernel
theorem d5_32 : decode prog_1_method_3_code 32 = .ok (.putfield 18, 3) := by decide +kernel
theorem d5_35 : decode prog_1_method_3_code 35 = .ok (.return_, 1) := by decide +kernel
theorem rmA_ef (m : MethodId) (x0 : Addr) (x1 : Addr) : entryFrame m #[(.ref x0), (.ref x1)] 2 = mkF m 0 #[.val (.ref x0), .val (.ref x1)] [] := by first | (simp [entryFrame, mkF, argsToLocals, Value.category]; done) | rfl
def QA (Z : State) (a : Addr) (ar : Addr) (cnt : Int64) (sm : Int64) (n : Int32) (f : Int32) (kc : ClassId) (vs : List Value) (h0 : Heap) (n0 : Nat) (v : Option Value) (h : Heap) (L : List Loc) : Prop := v = none ∧ Fr n0 L ∧ Keep h0 h [a] ∧ Exa Z h a "com/example/disk_to_queue/disktoqueue/bench/BodySum" ∧ Fld Z h a "com/example/disk_to_queue/disktoqueue/bench/BodySum" "count" "J" (.long (cnt + (1 : Int64))) ∧ Fld Z h a "com/example/disk_to_queue/disktoqueue/bench/BodySum" "sum" "J" (.long (sm + (own_add n f)))
set_option maxRecDepth 65536 in
set_option maxHeartbeats 40000000 in
theorem rmA (l : Launch) (Z : State) (a0 : Array Value) (hw : ∀ d ∈ tables_1, d.before a0 Z = true) (ws : List Jvm.Cond) (a : Addr) (ar : Addr) (cnt : Int64) (sm : Int64) (n : Int32) (f : Int32) (kc : ClassId) (vs : List Value) (h0 : Heap) (n0 : Nat) (Z0 : n0 ≤ h0.size) (Fc : Fld Z h0 a "com/example/disk_to_queue/disktoqueue/bench/BodySum" "count" "J" (.long cnt)) (Fs : Fld Z h0 a "com/example/disk_to_queue/disktoqueue/bench/BodySum" "sum" "J" (.long sm)) (Ea : Exa Z h0 a "com/example/disk_to_queue/disktoqueue/bench/BodySum") (Av : Arv Z h0 ar kc .byte n vs (.int (0 : Int32))) (hv : 0 < n → vs.getD 0 (.int (0 : Int32)) = .int f) (g_a : n0 ≤ a) (ne : ar ≠ a) :
    MetFree l (⟨"com/example/disk_to_queue/disktoqueue/bench/BodySum", "add", "([B)V"⟩ : MethodName) (head1 (Jvm.Cond.code (⟨"com/example/disk_to_queue/disktoqueue/bench/BodySum", "add", "([B)V"⟩ : MethodName) prog_1_method_3_code 2 none :: ws) ({ frames := 0, cells := 0, slots := 0, locals := 0 } : Room)) (fun aA' U => aA' = #[(.ref a), (.ref ar)] ∧ Z.Warmed39 U.vm ∧ U.heap = h0) (fun _ _ _ _ _ => True) (fun _ U oO' U' => ∃ vV' L, oO' = .returned vV' ∧ QA Z a ar cnt sm n f kc vs h0 n0 vV' U'.heap L ∧ FrameEnd U oO' U' L ({ frames := 0, cells := 0, slots := 0, locals := 0 } : Room).cells ({ frames := 0, cells := 0, slots := 0, locals := 0 } : Room).slots) := by
  refine MetFree.of_bodySF (plainFor_of_name own_pn1) hisR ?_
  intro p e s m args below meth c s₁ Bd hml0 hP hK
  obtain ⟨rfl, hZ, hh⟩ := hP
  have hx := Bd.exec
  have hby := Bd.bytes
  have hml : c.maxLocals = 2 := hml0
  have hown : s.vm.findClass "com/example/disk_to_queue/disktoqueue/bench/BodySum" = some m.cls := findClass_of_methodNamed Bd.named
  have hnm := (name_of_methodNamed Bd.named Bd.method).1
  have X0 : Stand p l e ({ frames := 0, cells := 0, slots := 0, locals := 0 } : Room) s m #[(.ref a), (.ref ar)] below meth c s₁ [] 0 0 := Stand.of_body Bd
  have e0 : s₁.heap = h0 := by rw [← hh, Bd.state]; rfl
  have N0 := Fr.nil n0
  have K0 : Keep h0 h0 [a] := Keep.refl _ _
  have k0 : ∀ t, Steps p.tables e below (s₁.setTop (mkF m 0 #[.val (.ref a), .val (.ref ar)] [])) t → Steps p.tables e below (s₁.setTop (entryFrame m #[(.ref a), (.ref ar)] 2)) t := fun t k => castTop (rmA_ef m (a) (ar)) k
  have k1 : ∀ t, Steps p.tables e below (s₁.setTop (mkF m 2 #[.val (.ref a), .val (.ref ar)] [(.ref a), (.ref a)])) t → Steps p.tables e below (s₁.setTop (entryFrame m #[(.ref a), (.ref ar)] 2)) t := by
    intro t kt
    refine k0 t ?_
    show Steps p.tables e below (s₁.setTop (mkF m 0 #[.val (.ref a), .val (.ref ar)] [])) t
    refine XS.aloadN X0.here hx rfl (hb hby d5_0) rfl rfl ?_
    show Steps p.tables e below (s₁.setTop (mkF m 1 #[.val (.ref a), .val (.ref ar)] [(.ref a)])) t
    refine XS.dup X0.here hx rfl (hb hby d5_1) rfl rfl ?_
    exact kt
  obtain ⟨T2, X2, e2, st2⟩ := getF X0 hx hZ hown (host := "") (Or.inl (hw _ (List.mem_of_getElem? (i := 16) rfl))) Via.refl e0 Fc (g := (mkF m 2 #[.val (.ref a), .val (.ref ar)] [(.ref a), (.ref a)])) rfl rfl (hb hby d5_2)
  have k3 : ∀ t, Steps p.tables e below (T2.setTop (mkF m 5 #[.val (.ref a), .val (.ref ar)] [(.long cnt), (.ref a)])) t → Steps p.tables e below (s₁.setTop (entryFrame m #[(.ref a), (.ref ar)] 2)) t := fun t kt => k1 t (st2 t kt)
  have k4 : ∀ t, Steps p.tables e below (T2.setTop (mkF m 7 #[.val (.ref a), .val (.ref ar)] [(.long (cnt + (1 : Int64))), (.ref a)])) t → Steps p.tables e below (s₁.setTop (entryFrame m #[(.ref a), (.ref ar)] 2)) t := by
    intro t kt
    refine k3 t ?_
    show Steps p.tables e below (T2.setTop (mkF m 5 #[.val (.ref a), .val (.ref ar)] [(.long cnt), (.ref a)])) t
    refine XS.lconst X2.here hx rfl (hb hby d5_5) ?_
    show Steps p.tables e below (T2.setTop (mkF m 6 #[.val (.ref a), .val (.ref ar)] [(.long (1 : Int64)), (.long cnt), (.ref a)])) t
    refine XS.ladd X2.here hx rfl (hb hby d5_6) rfl ?_
    exact kt
  obtain ⟨T5, h5, X5, e5, W5, st5⟩ := putF X2 hx hZ hown (host := "") (Or.inl (hw _ (List.mem_of_getElem? (i := 16) rfl))) Via.refl e2 Fc Ea (Or.inl (hw _ (List.mem_of_getElem? (i := 17) rfl))) (hw _ (List.mem_of_getElem? (i := 1) rfl)) (ty := .long) (by decide) rfl rfl (g := (mkF m 7 #[.val (.ref a), .val (.ref ar)] [(.long (cnt + (1 : Int64))), (.ref a)])) rfl rfl (hb hby d5_7)
  have F6 := Fc.same W5
  have F7 := Fs.other W5 (Or.inr (slot_ne (Or.inl (hw _ (List.mem_of_getElem? (i := 19) rfl))) (Or.inl (hw _ (List.mem_of_getElem? (i := 17) rfl))) (by decide) (t := .long) (t' := .long) (by decide) (by decide)))
  have F8 := Ea.wr W5
  have F9 := Av.other W5 ne
  have Z5 : n0 ≤ h5.size := Nat.le_trans Z0 (Keep.of_wr W5).1
  have K5 : Keep h0 h5 [a] := K0.wr W5 (Or.inl (List.mem_of_getElem? (i := 0) rfl))
  have N5 := Fr.snoc X5 N0 g_a
  have k10 : ∀ t, Steps p.tables e below (T5.setTop (mkF m 10 #[.val (.ref a), .val (.ref ar)] [])) t → Steps p.tables e below (s₁.setTop (entryFrame m #[(.ref a), (.ref ar)] 2)) t := fun t kt => k4 t (st5 t kt)
  have k11 : ∀ t, Steps p.tables e below (T5.setTop (mkF m 12 #[.val (.ref a), .val (.ref ar)] [(.ref a), (.ref a)])) t → Steps p.tables e below (s₁.setTop (entryFrame m #[(.ref a), (.ref ar)] 2)) t := by
    intro t kt
    refine k10 t ?_
    show Steps p.tables e below (T5.setTop (mkF m 10 #[.val (.ref a), .val (.ref ar)] [])) t
    refine XS.aloadN X5.here hx rfl (hb hby d5_10) rfl rfl ?_
    show Steps p.tables e below (T5.setTop (mkF m 11 #[.val (.ref a), .val (.ref ar)] [(.ref a)])) t
    refine XS.dup X5.here hx rfl (hb hby d5_11) rfl rfl ?_
    exact kt
  obtain ⟨T12, X12, e12, st12⟩ := getF X5 hx hZ hown (host := "") (Or.inl (hw _ (List.mem_of_getElem? (i := 18) rfl))) Via.refl e5 F7 (g := (mkF m 12 #[.val (.ref a), .val (.ref ar)] [(.ref a), (.ref a)])) rfl rfl (hb hby d5_12)
  have k13 : ∀ t, Steps p.tables e below (T12.setTop (mkF m 15 #[.val (.ref a), .val (.ref ar)] [(.long sm), (.ref a)])) t → Steps p.tables e below (s₁.setTop (entryFrame m #[(.ref a), (.ref ar)] 2)) t := fun t kt => k11 t (st12 t kt)
  have k14 : ∀ t, Steps p.tables e below (T12.setTop (mkF m 16 #[.val (.ref a), .val (.ref ar)] [(.ref ar), (.long sm), (.ref a)])) t → Steps p.tables e below (s₁.setTop (entryFrame m #[(.ref a), (.ref ar)] 2)) t := by
    intro t kt
    refine k13 t ?_
    show Steps p.tables e below (T12.setTop (mkF m 15 #[.val (.ref a), .val (.ref ar)] [(.long sm), (.ref a)])) t
    refine XS.aloadN X12.here hx rfl (hb hby d5_15) rfl rfl ?_
    exact kt
  obtain ⟨cl15, Ar15, -, S15, M15, -, -⟩ := id F9
  have k16 : ∀ t, Steps p.tables e below (T12.setTop (mkF m 17 #[.val (.ref a), .val (.ref ar)] [(.int n), (.long sm), (.ref a)])) t → Steps p.tables e below (s₁.setTop (entryFrame m #[(.ref a), (.ref ar)] 2)) t := fun t kt => k14 t (X12.arraylength hx (by rw [e12]; exact Ar15.1) (State.isArrayOf_alike hZ.alike Ar15.2.1) (g := (mkF m 16 #[.val (.ref a), .val (.ref ar)] [(.ref ar), (.long sm), (.ref a)])) rfl rfl (hb hby d5_16) t (by rw [len_of S15 M15]; exact kt))
  have k17 : ∀ t, Steps p.tables e below (T12.setTop (mkF m 18 #[.val (.ref a), .val (.ref ar)] [(.ref ar), (.int n), (.long sm), (.ref a)])) t → Steps p.tables e below (s₁.setTop (entryFrame m #[(.ref a), (.ref ar)] 2)) t := by
    intro t kt
    refine k16 t ?_
    show Steps p.tables e below (T12.setTop (mkF m 17 #[.val (.ref a), .val (.ref ar)] [(.int n), (.long sm), (.ref a)])) t
    refine XS.aloadN X12.here hx rfl (hb hby d5_17) rfl rfl ?_
    exact kt
  obtain ⟨cl18, Ar18, -, S18, M18, -, -⟩ := id F9
  have k19 : ∀ t, Steps p.tables e below (T12.setTop (mkF m 19 #[.val (.ref a), .val (.ref ar)] [(.int n), (.int n), (.long sm), (.ref a)])) t → Steps p.tables e below (s₁.setTop (entryFrame m #[(.ref a), (.ref ar)] 2)) t := fun t kt => k17 t (X12.arraylength hx (by rw [e12]; exact Ar18.1) (State.isArrayOf_alike hZ.alike Ar18.2.1) (g := (mkF m 18 #[.val (.ref a), .val (.ref ar)] [(.ref ar), (.int n), (.long sm), (.ref a)])) rfl rfl (hb hby d5_18) t (by rw [len_of S18 M18]; exact kt))
  by_cases hc19_20 : (0 : Int32) < n
  · have k21 : ∀ t, Steps p.tables e below (T12.setTop (mkF m 24 #[.val (.ref a), .val (.ref ar)] [(.int (0 : Int32)), (.ref ar), (.int n), (.long sm), (.ref a)])) t → Steps p.tables e below (s₁.setTop (entryFrame m #[(.ref a), (.ref ar)] 2)) t := by
      intro t kt
      refine k19 t ?_
      show Steps p.tables e below (T12.setTop (mkF m 19 #[.val (.ref a), .val (.ref ar)] [(.int n), (.int n), (.long sm), (.ref a)])) t
      refine XS.ifNo X12.here hx rfl (hb hby d5_19) rfl ((if0 _ _).trans (tlt hc19_20).2.2.2) ?_
      show Steps p.tables e below (T12.setTop (mkF m 22 #[.val (.ref a), .val (.ref ar)] [(.int n), (.long sm), (.ref a)])) t
      refine XS.aloadN X12.here hx rfl (hb hby d5_22) rfl rfl ?_
      show Steps p.tables e below (T12.setTop (mkF m 23 #[.val (.ref a), .val (.ref ar)] [(.ref ar), (.int n), (.long sm), (.ref a)])) t
      refine XS.iconst X12.here hx rfl (hb hby d5_23) ?_
      exact kt
    obtain ⟨cl22, Ar22, q22, S22, M22, H22, G22⟩ := id F9
    have hin22 : ¬ ((0 : Int32) < 0 ∨ cl22.slots.size ≤ ((0 : Int32)).toNatClampNeg) := inb_of S22 ⟨by decide, hc19_20⟩
    have hat22 : cl22.slots[((0 : Int32)).toNatClampNeg]? = some (.int f) := Has.at H22 hin22 (hv hc19_20)
    have k23 : ∀ t, Steps p.tables e below (T12.setTop (mkF m 25 #[.val (.ref a), .val (.ref ar)] [(.int f), (.int n), (.long sm), (.ref a)])) t → Steps p.tables e below (s₁.setTop (entryFrame m #[(.ref a), (.ref ar)] 2)) t := fun t kt => k21 t (X12.baloadBytes hx (j := (0 : Int32)) (v := (.int f)) (by rw [e12]; exact Ar22.1) (State.isArrayOf_alike hZ.alike Ar22.2.1) Ar22.2.2 hin22 hat22 (g := (mkF m 24 #[.val (.ref a), .val (.ref ar)] [(.int (0 : Int32)), (.ref ar), (.int n), (.long sm), (.ref a)])) rfl rfl (hb hby d5_24) t kt)
    have k24 : ∀ t, Steps p.tables e below (T12.setTop (mkF m 32 #[.val (.ref a), .val (.ref ar)] [(.long (sm + ((n + f).toInt64))), (.ref a)])) t → Steps p.tables e below (s₁.setTop (entryFrame m #[(.ref a), (.ref ar)] 2)) t := by
      intro t kt
      refine k23 t ?_
      show Steps p.tables e below (T12.setTop (mkF m 25 #[.val (.ref a), .val (.ref ar)] [(.int f), (.int n), (.long sm), (.ref a)])) t
      refine XS.goto X12.here hx rfl (pc0 := 25) (pc' := 29) rfl (hb hby d5_25) (by decide) (by decide) ?_
      show Steps p.tables e below (T12.setTop (mkF m 29 #[.val (.ref a), .val (.ref ar)] [(.int f), (.int n), (.long sm), (.ref a)])) t
      refine XS.iadd X12.here hx rfl (hb hby d5_29) rfl ?_
      show Steps p.tables e below (T12.setTop (mkF m 30 #[.val (.ref a), .val (.ref ar)] [(.int (n + f)), (.long sm), (.ref a)])) t
      refine XS.i2l X12.here hx rfl (hb hby d5_30) rfl ?_
      show Steps p.tables e below (T12.setTop (mkF m 31 #[.val (.ref a), .val (.ref ar)] [(.long ((n + f).toInt64)), (.long sm), (.ref a)])) t
      refine XS.ladd X12.here hx rfl (hb hby d5_31) rfl ?_
      exact kt
    obtain ⟨T25, h25, X25, e25, W25, st25⟩ := putF X12 hx hZ hown (host := "") (Or.inl (hw _ (List.mem_of_getElem? (i := 18) rfl))) Via.refl e12 F7 F8 (Or.inl (hw _ (List.mem_of_getElem? (i := 19) rfl))) (hw _ (List.mem_of_getElem? (i := 1) rfl)) (ty := .long) (by decide) rfl rfl (g := (mkF m 32 #[.val (.ref a), .val (.ref ar)] [(.long (sm + ((n + f).toInt64))), (.ref a)])) rfl rfl (hb hby d5_32)
    have F26 := F6.other W25 (Or.inr (slot_ne (Or.inl (hw _ (List.mem_of_getElem? (i := 17) rfl))) (Or.inl (hw _ (List.mem_of_getElem? (i := 19) rfl))) (by decide) (t := .long) (t' := .long) (by decide) (by decide)))
    have F27 := F7.same W25
    have F28 := F8.wr W25
    have F29 := F9.other W25 ne
    have Z25 : n0 ≤ h25.size := Nat.le_trans Z5 (Keep.of_wr W25).1
    have K25 : Keep h0 h25 [a] := K5.wr W25 (Or.inl (List.mem_of_getElem? (i := 0) rfl))
    have N25 := Fr.snoc X25 N5 g_a
    have k30 : ∀ t, Steps p.tables e below (T25.setTop (mkF m 35 #[.val (.ref a), .val (.ref ar)] [])) t → Steps p.tables e below (s₁.setTop (entryFrame m #[(.ref a), (.ref ar)] 2)) t := fun t kt => k24 t (st25 t kt)
    obtain ⟨fs, hr, hrun, hended, hW, hsame⟩ := X25.leave (v := none) (fun _ => rfl)
    refine ⟨_, _, k30 _ ?_, hrun, hended, _, _, rfl, ?_, ⟨_, rfl⟩, hW, hsame.mono (by decide) (by decide)⟩
    · show Steps p.tables e below (T25.setTop (mkF m 35 #[.val (.ref a), .val (.ref ar)] [])) _
      exact X25.returnOut hx Bd.returns (hb hby d5_35) hr
    · show QA Z a ar cnt sm n f kc vs h0 n0 _ T25.heap _
      rw [e25]
      exact ⟨rfl, N25, K25, F28, F26, by rw [show own_add n f = (n + f).toInt64 from by simp [own_add, hc19_20]]; exact F27⟩
  · have k31 : ∀ t, Steps p.tables e below (T12.setTop (mkF m 32 #[.val (.ref a), .val (.ref ar)] [(.long (sm + ((n + (0 : Int32)).toInt64))), (.ref a)])) t → Steps p.tables e below (s₁.setTop (entryFrame m #[(.ref a), (.ref ar)] 2)) t := by
      intro t kt
      refine k19 t ?_
      show Steps p.tables e below (T12.setTop (mkF m 19 #[.val (.ref a), .val (.ref ar)] [(.int n), (.int n), (.long sm), (.ref a)])) t
      refine XS.ifYes X12.here hx rfl (pc0 := 19) (pc' := 28) rfl (hb hby d5_19) rfl ((if0 _ _).trans (flt hc19_20).2.2.2) (by decide) (by decide) ?_
      show Steps p.tables e below (T12.setTop (mkF m 28 #[.val (.ref a), .val (.ref ar)] [(.int n), (.long sm), (.ref a)])) t
      refine XS.iconst X12.here hx rfl (hb hby d5_28) ?_
      show Steps p.tables e below (T12.setTop (mkF m 29 #[.val (.ref a), .val (.ref ar)] [(.int (0 : Int32)), (.int n), (.long sm), (.ref a)])) t
      refine XS.iadd X12.here hx rfl (hb hby d5_29) rfl ?_
      show Steps p.tables e below (T12.setTop (mkF m 30 #[.val (.ref a), .val (.ref ar)] [(.int (n + (0 : Int32))), (.long sm), (.ref a)])) t
      refine XS.i2l X12.here hx rfl (hb hby d5_30) rfl ?_
      show Steps p.tables e below (T12.setTop (mkF m 31 #[.val (.ref a), .val (.ref ar)] [(.long ((n + (0 : Int32)).toInt64)), (.long sm), (.ref a)])) t
      refine XS.ladd X12.here hx rfl (hb hby d5_31) rfl ?_
      exact kt
    obtain ⟨T32, h32, X32, e32, W32, st32⟩ := putF X12 hx hZ hown (host := "") (Or.inl (hw _ (List.mem_of_getElem? (i := 18) rfl))) Via.refl e12 F7 F8 (Or.inl (hw _ (List.mem_of_getElem? (i := 19) rfl))) (hw _ (List.mem_of_getElem? (i := 1) rfl)) (ty := .long) (by decide) rfl rfl (g := (mkF m 32 #[.val (.ref a), .val (.ref ar)] [(.long (sm + ((n + (0 : Int32)).toInt64))), (.ref a)])) rfl rfl (hb hby d5_32)
    have F33 := F6.other W32 (Or.inr (slot_ne (Or.inl (hw _ (List.mem_of_getElem? (i := 17) rfl))) (Or.inl (hw _ (List.mem_of_getElem? (i := 19) rfl))) (by decide) (t := .long) (t' := .long) (by decide) (by decide)))
    have F34 := F7.same W32
    have F35 := F8.wr W32
    have F36 := F9.other W32 ne
    have Z32 : n0 ≤ h32.size := Nat.le_trans Z5 (Keep.of_wr W32).1
    have K32 : Keep h0 h32 [a] := K5.wr W32 (Or.inl (List.mem_of_getElem? (i := 0) rfl))
    have N32 := Fr.snoc X32 N5 g_a
    have k37 : ∀ t, Steps p.tables e below (T32.setTop (mkF m 35 #[.val (.ref a), .val (.ref ar)] [])) t → Steps p.tables e below (s₁.setTop (entryFrame m #[(.ref a), (.ref ar)] 2)) t := fun t kt => k31 t (st32 t kt)
    obtain ⟨fs, hr, hrun, hended, hW, hsame⟩ := X32.leave (v := none) (fun _ => rfl)
    refine ⟨_, _, k37 _ ?_, hrun, hended, _, _, rfl, ?_, ⟨_, rfl⟩, hW, hsame.mono (by decide) (by decide)⟩
    · show Steps p.tables e below (T32.setTop (mkF m 35 #[.val (.ref a), .val (.ref ar)] [])) _
      exact X32.returnOut hx Bd.returns (hb hby d5_35) hr
    · show QA Z a ar cnt sm n f kc vs h0 n0 _ T32.heap _
      rw [e32]
      exact ⟨rfl, N32, K32, F35, F33, by rw [show own_add n f = (n + 0).toInt64 from by simp [own_add, hc19_20]]; exact F34⟩
theorem d3_0 : decode prog_1_method_5_code 0 = .ok (.aload_n 1, 1) := by decide +kernel
theorem d3_1 : decode prog_1_method_5_code 1 = .ok (.instanceof 7, 3) := by decide +kernel
theorem d3_4 : decode prog_1_method_5_code 4 = .ok (.ifCond .eq 37, 3) := by decide +kernel
theorem d3_7 : decode prog_1_method_5_code 7 = .ok (.aload_n 1, 1) := by decide +kernel
theorem d3_8 : decode prog_1_method_5_code 8 = .ok (.checkcast 7, 3) := by decide +kernel
theorem d3_11 : decode prog_1_method_5_code 11 = .ok (.getfield 14, 3) := by decide +kernel
theorem d3_14 : decode prog_1_method_5_code 14 = .ok (.aload_n 0, 1) := by decide +kernel
theorem d3_15 : decode prog_1_method_5_code 15 = .ok (.getfield 14, 3) := by decide +kernel
theorem d3_18 : decode prog_1_method_5_code 18 = .ok (.lcmp, 1) := by decide +kernel
theorem d3_19 : decode prog_1_method_5_code 19 = .ok (.ifCond .ne 22, 3) := by decide +kernel
theorem d3_22 : decode prog_1_method_5_code 22 = .ok (.aload_n 1, 1) := by decide +kernel
theorem d3_23 : decode prog_1_method_5_code 23 = .ok (.checkcast 7, 3) := by decide +kernel
theorem d3_26 : decode prog_1_method_5_code 26 = .ok (.getfield 18, 3) := by decide +kernel
theorem d3_29 : decode prog_1_method_5_code 29 = .ok (.aload_n 0, 1) := by decide +kernel
theorem d3_30 : decode prog_1_method_5_code 30 = .ok (.getfield 18, 3) := by decide +kernel
theorem d3_33 : decode prog_1_method_5_code 33 = .ok (.lcmp, 1) := by decide +kernel
theorem d3_34 : decode prog_1_method_5_code 34 = .ok (.ifCond .ne 7, 3) := by decide +kernel
theorem d3_37 : decode prog_1_method_5_code 37 = .ok (.iconst 1, 1) := by decide +kernel
theorem d3_38 : decode prog_1_method_5_code 38 = .ok (.goto 4, 3) := by decide +kernel
theorem d3_41 : decode prog_1_method_5_code 41 = .ok (.iconst 0, 1) := by decide +kernel
theorem d3_42 : decode prog_1_method_5_code 42 = .ok (.ireturn, 1) := by decide +kernel
theorem rmQ_ef (m : MethodId) (x0 : Addr) (x1 : Addr) : entryFrame m #[(.ref x0), (.ref x1)] 2 = mkF m 0 #[.val (.ref x0), .val (.ref x1)] [] := by first | (simp [entryFrame, mkF, argsToLocals, Value.category]; done) | rfl
def QQ (Z : State) (a : Addr) (b : Addr) (c1 : Int64) (s1 : Int64) (c2 : Int64) (s2 : Int64) (h0 : Heap) (n0 : Nat) (v : Option Value) (h : Heap) (L : List Loc) : Prop := v = some (.int (own_eq c1 s1 c2 s2)) ∧ Fr n0 L ∧ h = h0
set_option maxRecDepth 65536 in
set_option maxHeartbeats 40000000 in
theorem rmQ (l : Launch) (Z : State) (a0 : Array Value) (hw : ∀ d ∈ tables_1, d.before a0 Z = true) (ws : List Jvm.Cond) (a : Addr) (b : Addr) (c1 : Int64) (s1 : Int64) (c2 : Int64) (s2 : Int64) (h0 : Heap) (n0 : Nat) (Z0 : n0 ≤ h0.size) (Fc : Fld Z h0 a "com/example/disk_to_queue/disktoqueue/bench/BodySum" "count" "J" (.long c1)) (Fs : Fld Z h0 a "com/example/disk_to_queue/disktoqueue/bench/BodySum" "sum" "J" (.long s1)) (Fc2 : Fld Z h0 b "com/example/disk_to_queue/disktoqueue/bench/BodySum" "count" "J" (.long c2)) (Fs2 : Fld Z h0 b "com/example/disk_to_queue/disktoqueue/bench/BodySum" "sum" "J" (.long s2)) (Eb : Exa Z h0 b "com/example/disk_to_queue/disktoqueue/bench/BodySum") :
    MetFree l (⟨"com/example/disk_to_queue/disktoqueue/bench/BodySum", "equals", "(Ljava/lang/Object;)Z"⟩ : MethodName) (head1 (Jvm.Cond.code (⟨"com/example/disk_to_queue/disktoqueue/bench/BodySum", "equals", "(Ljava/lang/Object;)Z"⟩ : MethodName) prog_1_method_5_code 2 (some .boolean) :: ws) ({ frames := 0, cells := 0, slots := 0, locals := 0 } : Room)) (fun aA' U => aA' = #[(.ref a), (.ref b)] ∧ Z.Warmed39 U.vm ∧ U.heap = h0) (fun _ _ _ _ _ => True) (fun _ U oO' U' => ∃ vV' L, oO' = .returned vV' ∧ QQ Z a b c1 s1 c2 s2 h0 n0 vV' U'.heap L ∧ FrameEnd U oO' U' L ({ frames := 0, cells := 0, slots := 0, locals := 0 } : Room).cells ({ frames := 0, cells := 0, slots := 0, locals := 0 } : Room).slots) := by
  refine MetFree.of_bodySF (plainFor_of_name own_pn1) hisR ?_
  intro p e s m args below meth c s₁ Bd hml0 hP hK
  obtain ⟨rfl, hZ, hh⟩ := hP
  have hx := Bd.exec
  have hby := Bd.bytes
  have hml : c.maxLocals = 2 := hml0
  have hown : s.vm.findClass "com/example/disk_to_queue/disktoqueue/bench/BodySum" = some m.cls := findClass_of_methodNamed Bd.named
  have hnm := (name_of_methodNamed Bd.named Bd.method).1
  have X0 : Stand p l e ({ frames := 0, cells := 0, slots := 0, locals := 0 } : Room) s m #[(.ref a), (.ref b)] below meth c s₁ [] 0 0 := Stand.of_body Bd
  have e0 : s₁.heap = h0 := by rw [← hh, Bd.state]; rfl
  have N0 := Fr.nil n0
  have K0 : Keep h0 h0 [] := Keep.refl _ _
  have k0 : ∀ t, Steps p.tables e below (s₁.setTop (mkF m 0 #[.val (.ref a), .val (.ref b)] [])) t → Steps p.tables e below (s₁.setTop (entryFrame m #[(.ref a), (.ref b)] 2)) t := fun t k => castTop (rmQ_ef m (a) (b)) k
  have k1 : ∀ t, Steps p.tables e below (s₁.setTop (mkF m 1 #[.val (.ref a), .val (.ref b)] [(.ref b)])) t → Steps p.tables e below (s₁.setTop (entryFrame m #[(.ref a), (.ref b)] 2)) t := by
    intro t kt
    refine k0 t ?_
    show Steps p.tables e below (s₁.setTop (mkF m 0 #[.val (.ref a), .val (.ref b)] [])) t
    refine XS.aloadN X0.here hx rfl (hb hby d3_0) rfl rfl ?_
    exact kt
  obtain ⟨T2, X2, e2, st2⟩ := instY X0 hx hZ hown (hw _ (List.mem_of_getElem? (i := 14) rfl)) e0 (Ins.self Eb) (g := (mkF m 1 #[.val (.ref a), .val (.ref b)] [(.ref b)])) rfl rfl (hb hby d3_1)
  have k3 : ∀ t, Steps p.tables e below (T2.setTop (mkF m 4 #[.val (.ref a), .val (.ref b)] [(.int (1 : Int32))])) t → Steps p.tables e below (s₁.setTop (entryFrame m #[(.ref a), (.ref b)] 2)) t := fun t kt => k1 t (st2 t kt)
  have hc4_4 : ¬ ((1 : Int32) = (0 : Int32)) := by decide
  have k5 : ∀ t, Steps p.tables e below (T2.setTop (mkF m 8 #[.val (.ref a), .val (.ref b)] [(.ref b)])) t → Steps p.tables e below (s₁.setTop (entryFrame m #[(.ref a), (.ref b)] 2)) t := by
    intro t kt
    refine k3 t ?_
    show Steps p.tables e below (T2.setTop (mkF m 4 #[.val (.ref a), .val (.ref b)] [(.int (1 : Int32))])) t
    refine XS.ifNo X2.here hx rfl (hb hby d3_4) rfl ((if0 _ _).trans (feq hc4_4).1) ?_
    show Steps p.tables e below (T2.setTop (mkF m 7 #[.val (.ref a), .val (.ref b)] [])) t
    refine XS.aloadN X2.here hx rfl (hb hby d3_7) rfl rfl ?_
    exact kt
  obtain ⟨T6, X6, e6, st6⟩ := castY X2 hx hZ hown (hw _ (List.mem_of_getElem? (i := 14) rfl)) e2 (Ins.self Eb) (g := (mkF m 8 #[.val (.ref a), .val (.ref b)] [(.ref b)])) rfl rfl (hb hby d3_8)
  have k7 : ∀ t, Steps p.tables e below (T6.setTop (mkF m 11 #[.val (.ref a), .val (.ref b)] [(.ref b)])) t → Steps p.tables e below (s₁.setTop (entryFrame m #[(.ref a), (.ref b)] 2)) t := fun t kt => k5 t (st6 t kt)
  obtain ⟨T8, X8, e8, st8⟩ := getF X6 hx hZ hown (host := "") (Or.inl (hw _ (List.mem_of_getElem? (i := 16) rfl))) Via.refl e6 Fc2 (g := (mkF m 11 #[.val (.ref a), .val (.ref b)] [(.ref b)])) rfl rfl (hb hby d3_11)
  have k9 : ∀ t, Steps p.tables e below (T8.setTop (mkF m 14 #[.val (.ref a), .val (.ref b)] [(.long c2)])) t → Steps p.tables e below (s₁.setTop (entryFrame m #[(.ref a), (.ref b)] 2)) t := fun t kt => k7 t (st8 t kt)
  have k10 : ∀ t, Steps p.tables e below (T8.setTop (mkF m 15 #[.val (.ref a), .val (.ref b)] [(.ref a), (.long c2)])) t → Steps p.tables e below (s₁.setTop (entryFrame m #[(.ref a), (.ref b)] 2)) t := by
    intro t kt
    refine k9 t ?_
    show Steps p.tables e below (T8.setTop (mkF m 14 #[.val (.ref a), .val (.ref b)] [(.long c2)])) t
    refine XS.aloadN X8.here hx rfl (hb hby d3_14) rfl rfl ?_
    exact kt
  obtain ⟨T11, X11, e11, st11⟩ := getF X8 hx hZ hown (host := "") (Or.inl (hw _ (List.mem_of_getElem? (i := 16) rfl))) Via.refl e8 Fc (g := (mkF m 15 #[.val (.ref a), .val (.ref b)] [(.ref a), (.long c2)])) rfl rfl (hb hby d3_15)
  have k12 : ∀ t, Steps p.tables e below (T11.setTop (mkF m 18 #[.val (.ref a), .val (.ref b)] [(.long c1), (.long c2)])) t → Steps p.tables e below (s₁.setTop (entryFrame m #[(.ref a), (.ref b)] 2)) t := fun t kt => k10 t (st11 t kt)
  have k14 : ∀ t, Steps p.tables e below (T11.setTop (mkF m 19 #[.val (.ref a), .val (.ref b)] [(.int (lcmpW c2 c1))])) t → Steps p.tables e below (s₁.setTop (entryFrame m #[(.ref a), (.ref b)] 2)) t := by
    intro t kt
    refine k12 t ?_
    show Steps p.tables e below (T11.setTop (mkF m 18 #[.val (.ref a), .val (.ref b)] [(.long c1), (.long c2)])) t
    refine XS.lcmp X11.here hx rfl (hb hby d3_18) rfl ?_
    exact kt
  by_cases hc19_13 : (lcmpW c2 c1) = (0 : Int32)
  · have k15 : ∀ t, Steps p.tables e below (T11.setTop (mkF m 23 #[.val (.ref a), .val (.ref b)] [(.ref b)])) t → Steps p.tables e below (s₁.setTop (entryFrame m #[(.ref a), (.ref b)] 2)) t := by
      intro t kt
      refine k14 t ?_
      show Steps p.tables e below (T11.setTop (mkF m 19 #[.val (.ref a), .val (.ref b)] [(.int (lcmpW c2 c1))])) t
      refine XS.ifNo X11.here hx rfl (hb hby d3_19) rfl ((if0 _ _).trans (teq hc19_13).2) ?_
      show Steps p.tables e below (T11.setTop (mkF m 22 #[.val (.ref a), .val (.ref b)] [])) t
      refine XS.aloadN X11.here hx rfl (hb hby d3_22) rfl rfl ?_
      exact kt
    obtain ⟨T16, X16, e16, st16⟩ := castY X11 hx hZ hown (hw _ (List.mem_of_getElem? (i := 14) rfl)) e11 (Ins.self Eb) (g := (mkF m 23 #[.val (.ref a), .val (.ref b)] [(.ref b)])) rfl rfl (hb hby d3_23)
    have k17 : ∀ t, Steps p.tables e below (T16.setTop (mkF m 26 #[.val (.ref a), .val (.ref b)] [(.ref b)])) t → Steps p.tables e below (s₁.setTop (entryFrame m #[(.ref a), (.ref b)] 2)) t := fun t kt => k15 t (st16 t kt)
    obtain ⟨T18, X18, e18, st18⟩ := getF X16 hx hZ hown (host := "") (Or.inl (hw _ (List.mem_of_getElem? (i := 18) rfl))) Via.refl e16 Fs2 (g := (mkF m 26 #[.val (.ref a), .val (.ref b)] [(.ref b)])) rfl rfl (hb hby d3_26)
    have k19 : ∀ t, Steps p.tables e below (T18.setTop (mkF m 29 #[.val (.ref a), .val (.ref b)] [(.long s2)])) t → Steps p.tables e below (s₁.setTop (entryFrame m #[(.ref a), (.ref b)] 2)) t := fun t kt => k17 t (st18 t kt)
    have k20 : ∀ t, Steps p.tables e below (T18.setTop (mkF m 30 #[.val (.ref a), .val (.ref b)] [(.ref a), (.long s2)])) t → Steps p.tables e below (s₁.setTop (entryFrame m #[(.ref a), (.ref b)] 2)) t := by
      intro t kt
      refine k19 t ?_
      show Steps p.tables e below (T18.setTop (mkF m 29 #[.val (.ref a), .val (.ref b)] [(.long s2)])) t
      refine XS.aloadN X18.here hx rfl (hb hby d3_29) rfl rfl ?_
      exact kt
    obtain ⟨T21, X21, e21, st21⟩ := getF X18 hx hZ hown (host := "") (Or.inl (hw _ (List.mem_of_getElem? (i := 18) rfl))) Via.refl e18 Fs (g := (mkF m 30 #[.val (.ref a), .val (.ref b)] [(.ref a), (.long s2)])) rfl rfl (hb hby d3_30)
    have k22 : ∀ t, Steps p.tables e below (T21.setTop (mkF m 33 #[.val (.ref a), .val (.ref b)] [(.long s1), (.long s2)])) t → Steps p.tables e below (s₁.setTop (entryFrame m #[(.ref a), (.ref b)] 2)) t := fun t kt => k20 t (st21 t kt)
    have k24 : ∀ t, Steps p.tables e below (T21.setTop (mkF m 34 #[.val (.ref a), .val (.ref b)] [(.int (lcmpW s2 s1))])) t → Steps p.tables e below (s₁.setTop (entryFrame m #[(.ref a), (.ref b)] 2)) t := by
      intro t kt
      refine k22 t ?_
      show Steps p.tables e below (T21.setTop (mkF m 33 #[.val (.ref a), .val (.ref b)] [(.long s1), (.long s2)])) t
      refine XS.lcmp X21.here hx rfl (hb hby d3_33) rfl ?_
      exact kt
    by_cases hc34_23 : (lcmpW s2 s1) = (0 : Int32)
    · have k25 : ∀ t, Steps p.tables e below (T21.setTop (mkF m 42 #[.val (.ref a), .val (.ref b)] [(.int (1 : Int32))])) t → Steps p.tables e below (s₁.setTop (entryFrame m #[(.ref a), (.ref b)] 2)) t := by
        intro t kt
        refine k24 t ?_
        show Steps p.tables e below (T21.setTop (mkF m 34 #[.val (.ref a), .val (.ref b)] [(.int (lcmpW s2 s1))])) t
        refine XS.ifNo X21.here hx rfl (hb hby d3_34) rfl ((if0 _ _).trans (teq hc34_23).2) ?_
        show Steps p.tables e below (T21.setTop (mkF m 37 #[.val (.ref a), .val (.ref b)] [])) t
        refine XS.iconst X21.here hx rfl (hb hby d3_37) ?_
        show Steps p.tables e below (T21.setTop (mkF m 38 #[.val (.ref a), .val (.ref b)] [(.int (1 : Int32))])) t
        refine XS.goto X21.here hx rfl (pc0 := 38) (pc' := 42) rfl (hb hby d3_38) (by decide) (by decide) ?_
        exact kt
      obtain ⟨fs, hr, hrun, hended, hW, hsame⟩ := X21.leave (v := some (.int (1 : Int32))) (fun h => by rw [Bd.returns] at h; cases h)
      refine ⟨_, _, k25 _ ?_, hrun, hended, _, _, rfl, ?_, ⟨_, rfl⟩, hW, hsame.mono (by decide) (by decide)⟩
      · show Steps p.tables e below (T21.setTop (mkF m 42 #[.val (.ref a), .val (.ref b)] [(.int (1 : Int32))])) _
        exact retN X21 hx (t := .boolean) Bd.returns (by simp) (hb hby d3_42) hr
      · show QQ Z a b c1 s1 c2 s2 h0 n0 _ T21.heap _
        rw [e21]
        refine ⟨congrArg (fun z => some (Value.int z)) ?_, N0, rfl⟩
        rw [lw_eq] at hc19_13
        rw [lw_eq] at hc34_23
        simp [own_eq, hc19_13, hc34_23]
    · have k26 : ∀ t, Steps p.tables e below (T21.setTop (mkF m 42 #[.val (.ref a), .val (.ref b)] [(.int (0 : Int32))])) t → Steps p.tables e below (s₁.setTop (entryFrame m #[(.ref a), (.ref b)] 2)) t := by
        intro t kt
        refine k24 t ?_
        show Steps p.tables e below (T21.setTop (mkF m 34 #[.val (.ref a), .val (.ref b)] [(.int (lcmpW s2 s1))])) t
        refine XS.ifYes X21.here hx rfl (pc0 := 34) (pc' := 41) rfl (hb hby d3_34) rfl ((if0 _ _).trans (feq hc34_23).2) (by decide) (by decide) ?_
        show Steps p.tables e below (T21.setTop (mkF m 41 #[.val (.ref a), .val (.ref b)] [])) t
        refine XS.iconst X21.here hx rfl (hb hby d3_41) ?_
        exact kt
      obtain ⟨fs, hr, hrun, hended, hW, hsame⟩ := X21.leave (v := some (.int (0 : Int32))) (fun h => by rw [Bd.returns] at h; cases h)
      refine ⟨_, _, k26 _ ?_, hrun, hended, _, _, rfl, ?_, ⟨_, rfl⟩, hW, hsame.mono (by decide) (by decide)⟩
      · show Steps p.tables e below (T21.setTop (mkF m 42 #[.val (.ref a), .val (.ref b)] [(.int (0 : Int32))])) _
        exact retN X21 hx (t := .boolean) Bd.returns (by simp) (hb hby d3_42) hr
      · show QQ Z a b c1 s1 c2 s2 h0 n0 _ T21.heap _
        rw [e21]
        refine ⟨congrArg (fun z => some (Value.int z)) ?_, N0, rfl⟩
        rw [lw_eq] at hc19_13
        rw [lw_eq] at hc34_23
        simp [own_eq, hc19_13, hc34_23]
  · have k27 : ∀ t, Steps p.tables e below (T11.setTop (mkF m 42 #[.val (.ref a), .val (.ref b)] [(.int (0 : Int32))])) t → Steps p.tables e below (s₁.setTop (entryFrame m #[(.ref a), (.ref b)] 2)) t := by
      intro t kt
      refine k14 t ?_
      show Steps p.tables e below (T11.setTop (mkF m 19 #[.val (.ref a), .val (.ref b)] [(.int (lcmpW c2 c1))])) t
      refine XS.ifYes X11.here hx rfl (pc0 := 19) (pc' := 41) rfl (hb hby d3_19) rfl ((if0 _ _).trans (feq hc19_13).2) (by decide) (by decide) ?_
      show Steps p.tables e below (T11.setTop (mkF m 41 #[.val (.ref a), .val (.ref b)] [])) t
      refine XS.iconst X11.here hx rfl (hb hby d3_41) ?_
      exact kt
    obtain ⟨fs, hr, hrun, hended, hW, hsame⟩ := X11.leave (v := some (.int (0 : Int32))) (fun h => by rw [Bd.returns] at h; cases h)
    refine ⟨_, _, k27 _ ?_, hrun, hended, _, _, rfl, ?_, ⟨_, rfl⟩, hW, hsame.mono (by decide) (by decide)⟩
    · show Steps p.tables e below (T11.setTop (mkF m 42 #[.val (.ref a), .val (.ref b)] [(.int (0 : Int32))])) _
      exact retN X11 hx (t := .boolean) Bd.returns (by simp) (hb hby d3_42) hr
    · show QQ Z a b c1 s1 c2 s2 h0 n0 _ T11.heap _
      rw [e11]
      refine ⟨congrArg (fun z => some (Value.int z)) ?_, N0, rfl⟩
      rw [lw_eq] at hc19_13
      simp [own_eq, hc19_13]
theorem rmQN_ef (m : MethodId) (x0 : Addr) : entryFrame m #[(.ref x0), .null] 2 = mkF m 0 #[.val (.ref x0), .val .null] [] := by first | (simp [entryFrame, mkF, argsToLocals, Value.category]; done) | rfl
def QQN (Z : State) (a : Addr) (h0 : Heap) (n0 : Nat) (v : Option Value) (h : Heap) (L : List Loc) : Prop := v = some (.int (0 : Int32)) ∧ Fr n0 L ∧ h = h0
set_option maxRecDepth 65536 in
set_option maxHeartbeats 40000000 in
theorem rmQN (l : Launch) (Z : State) (a0 : Array Value) (hw : ∀ d ∈ tables_1, d.before a0 Z = true) (ws : List Jvm.Cond) (a : Addr) (h0 : Heap) (n0 : Nat) (Z0 : n0 ≤ h0.size) :
    MetFree l (⟨"com/example/disk_to_queue/disktoqueue/bench/BodySum", "equals", "(Ljava/lang/Object;)Z"⟩ : MethodName) (head1 (Jvm.Cond.code (⟨"com/example/disk_to_queue/disktoqueue/bench/BodySum", "equals", "(Ljava/lang/Object;)Z"⟩ : MethodName) prog_1_method_5_code 2 (some .boolean) :: ws) ({ frames := 0, cells := 0, slots := 0, locals := 0 } : Room)) (fun aA' U => aA' = #[(.ref a), .null] ∧ Z.Warmed39 U.vm ∧ U.heap = h0) (fun _ _ _ _ _ => True) (fun _ U oO' U' => ∃ vV' L, oO' = .returned vV' ∧ QQN Z a h0 n0 vV' U'.heap L ∧ FrameEnd U oO' U' L ({ frames := 0, cells := 0, slots := 0, locals := 0 } : Room).cells ({ frames := 0, cells := 0, slots := 0, locals := 0 } : Room).slots) := by
  refine MetFree.of_bodySF (plainFor_of_name own_pn1) hisR ?_
  intro p e s m args below meth c s₁ Bd hml0 hP hK
  obtain ⟨rfl, hZ, hh⟩ := hP
  have hx := Bd.exec
  have hby := Bd.bytes
  have hml : c.maxLocals = 2 := hml0
  have hown : s.vm.findClass "com/example/disk_to_queue/disktoqueue/bench/BodySum" = some m.cls := findClass_of_methodNamed Bd.named
  have hnm := (name_of_methodNamed Bd.named Bd.method).1
  have X0 : Stand p l e ({ frames := 0, cells := 0, slots := 0, locals := 0 } : Room) s m #[(.ref a), .null] below meth c s₁ [] 0 0 := Stand.of_body Bd
  have e0 : s₁.heap = h0 := by rw [← hh, Bd.state]; rfl
  have N0 := Fr.nil n0
  have K0 : Keep h0 h0 [] := Keep.refl _ _
  have k0 : ∀ t, Steps p.tables e below (s₁.setTop (mkF m 0 #[.val (.ref a), .val .null] [])) t → Steps p.tables e below (s₁.setTop (entryFrame m #[(.ref a), .null] 2)) t := fun t k => castTop (rmQN_ef m (a)) k
  have k1 : ∀ t, Steps p.tables e below (s₁.setTop (mkF m 1 #[.val (.ref a), .val .null] [.null])) t → Steps p.tables e below (s₁.setTop (entryFrame m #[(.ref a), .null] 2)) t := by
    intro t kt
    refine k0 t ?_
    show Steps p.tables e below (s₁.setTop (mkF m 0 #[.val (.ref a), .val .null] [])) t
    refine XS.aloadN X0.here hx rfl (hb hby d3_0) rfl rfl ?_
    exact kt
  have k2 : ∀ t, Steps p.tables e below (s₁.setTop (mkF m 4 #[.val (.ref a), .val .null] [(.int (0 : Int32))])) t → Steps p.tables e below (s₁.setTop (entryFrame m #[(.ref a), .null] 2)) t := fun t kt => k1 t (X0.instanceofNull hx (g := (mkF m 1 #[.val (.ref a), .val .null] [.null])) rfl rfl (hb hby d3_1) t kt)
  have hc4_3 : (0 : Int32) = (0 : Int32) := rfl
  have k4 : ∀ t, Steps p.tables e below (s₁.setTop (mkF m 42 #[.val (.ref a), .val .null] [(.int (0 : Int32))])) t → Steps p.tables e below (s₁.setTop (entryFrame m #[(.ref a), .null] 2)) t := by
    intro t kt
    refine k2 t ?_
    show Steps p.tables e below (s₁.setTop (mkF m 4 #[.val (.ref a), .val .null] [(.int (0 : Int32))])) t
    refine XS.ifYes X0.here hx rfl (pc0 := 4) (pc' := 41) rfl (hb hby d3_4) rfl ((if0 _ _).trans (teq hc4_3).1) (by decide) (by decide) ?_
    show Steps p.tables e below (s₁.setTop (mkF m 41 #[.val (.ref a), .val .null] [])) t
    refine XS.iconst X0.here hx rfl (hb hby d3_41) ?_
    exact kt
  obtain ⟨fs, hr, hrun, hended, hW, hsame⟩ := X0.leave (v := some (.int (0 : Int32))) (fun h => by rw [Bd.returns] at h; cases h)
  refine ⟨_, _, k4 _ ?_, hrun, hended, _, _, rfl, ?_, ⟨_, rfl⟩, hW, hsame.mono (by decide) (by decide)⟩
  · show Steps p.tables e below (s₁.setTop (mkF m 42 #[.val (.ref a), .val .null] [(.int (0 : Int32))])) _
    exact retN X0 hx (t := .boolean) Bd.returns (by simp) (hb hby d3_42) hr
  · show QQN Z a h0 n0 _ s₁.heap _
    rw [e0]
    exact ⟨rfl, N0, rfl⟩
theorem rmQI_ef (m : MethodId) (x0 : Addr) (x1 : Addr) : entryFrame m #[(.ref x0), (.ref x1)] 2 = mkF m 0 #[.val (.ref x0), .val (.ref x1)] [] := by first | (simp [entryFrame, mkF, argsToLocals, Value.category]; done) | rfl
def QQI (Z : State) (a : Addr) (b : Addr) (h0 : Heap) (n0 : Nat) (v : Option Value) (h : Heap) (L : List Loc) : Prop := v = some (.int (0 : Int32)) ∧ Fr n0 L ∧ h = h0
set_option maxRecDepth 65536 in
set_option maxHeartbeats 40000000 in
theorem rmQI (l : Launch) (Z : State) (a0 : Array Value) (hw : ∀ d ∈ tables_1, d.before a0 Z = true) (ws : List Jvm.Cond) (a : Addr) (b : Addr) (h0 : Heap) (n0 : Nat) (Z0 : n0 ≤ h0.size) (Eb : Exa Z h0 b "java/lang/Integer") :
    MetFree l (⟨"com/example/disk_to_queue/disktoqueue/bench/BodySum", "equals", "(Ljava/lang/Object;)Z"⟩ : MethodName) (head1 (Jvm.Cond.code (⟨"com/example/disk_to_queue/disktoqueue/bench/BodySum", "equals", "(Ljava/lang/Object;)Z"⟩ : MethodName) prog_1_method_5_code 2 (some .boolean) :: ws) ({ frames := 0, cells := 0, slots := 0, locals := 0 } : Room)) (fun aA' U => aA' = #[(.ref a), (.ref b)] ∧ Z.Warmed39 U.vm ∧ U.heap = h0) (fun _ _ _ _ _ => True) (fun _ U oO' U' => ∃ vV' L, oO' = .returned vV' ∧ QQI Z a b h0 n0 vV' U'.heap L ∧ FrameEnd U oO' U' L ({ frames := 0, cells := 0, slots := 0, locals := 0 } : Room).cells ({ frames := 0, cells := 0, slots := 0, locals := 0 } : Room).slots) := by
  refine MetFree.of_bodySF (plainFor_of_name own_pn1) hisR ?_
  intro p e s m args below meth c s₁ Bd hml0 hP hK
  obtain ⟨rfl, hZ, hh⟩ := hP
  have hx := Bd.exec
  have hby := Bd.bytes
  have hml : c.maxLocals = 2 := hml0
  have hown : s.vm.findClass "com/example/disk_to_queue/disktoqueue/bench/BodySum" = some m.cls := findClass_of_methodNamed Bd.named
  have hnm := (name_of_methodNamed Bd.named Bd.method).1
  have X0 : Stand p l e ({ frames := 0, cells := 0, slots := 0, locals := 0 } : Room) s m #[(.ref a), (.ref b)] below meth c s₁ [] 0 0 := Stand.of_body Bd
  have e0 : s₁.heap = h0 := by rw [← hh, Bd.state]; rfl
  have N0 := Fr.nil n0
  have K0 : Keep h0 h0 [] := Keep.refl _ _
  have k0 : ∀ t, Steps p.tables e below (s₁.setTop (mkF m 0 #[.val (.ref a), .val (.ref b)] [])) t → Steps p.tables e below (s₁.setTop (entryFrame m #[(.ref a), (.ref b)] 2)) t := fun t k => castTop (rmQI_ef m (a) (b)) k
  have k1 : ∀ t, Steps p.tables e below (s₁.setTop (mkF m 1 #[.val (.ref a), .val (.ref b)] [(.ref b)])) t → Steps p.tables e below (s₁.setTop (entryFrame m #[(.ref a), (.ref b)] 2)) t := by
    intro t kt
    refine k0 t ?_
    show Steps p.tables e below (s₁.setTop (mkF m 0 #[.val (.ref a), .val (.ref b)] [])) t
    refine XS.aloadN X0.here hx rfl (hb hby d3_0) rfl rfl ?_
    exact kt
  obtain ⟨T2, X2, e2, st2⟩ := instNo X0 hx hZ hown (hw _ (List.mem_of_getElem? (i := 14) rfl)) e0 Eb (own_no (hw _ (List.mem_of_getElem? (i := 53) rfl)) (hw _ (List.mem_of_getElem? (i := 54) rfl)) (hw _ (List.mem_of_getElem? (i := 55) rfl)) (hw _ (List.mem_of_getElem? (i := 1) rfl)) (by decide) (by decide) (by decide)) (g := (mkF m 1 #[.val (.ref a), .val (.ref b)] [(.ref b)])) rfl rfl (hb hby d3_1)
  have k3 : ∀ t, Steps p.tables e below (T2.setTop (mkF m 4 #[.val (.ref a), .val (.ref b)] [(.int (0 : Int32))])) t → Steps p.tables e below (s₁.setTop (entryFrame m #[(.ref a), (.ref b)] 2)) t := fun t kt => k1 t (st2 t kt)
  have hc4_4 : (0 : Int32) = (0 : Int32) := rfl
  have k5 : ∀ t, Steps p.tables e below (T2.setTop (mkF m 42 #[.val (.ref a), .val (.ref b)] [(.int (0 : Int32))])) t → Steps p.tables e below (s₁.setTop (entryFrame m #[(.ref a), (.ref b)] 2)) t := by
    intro t kt
    refine k3 t ?_
    show Steps p.tables e below (T2.setTop (mkF m 4 #[.val (.ref a), .val (.ref b)] [(.int (0 : Int32))])) t
    refine XS.ifYes X2.here hx rfl (pc0 := 4) (pc' := 41) rfl (hb hby d3_4) rfl ((if0 _ _).trans (teq hc4_4).1) (by decide) (by decide) ?_
    show Steps p.tables e below (T2.setTop (mkF m 41 #[.val (.ref a), .val (.ref b)] [])) t
    refine XS.iconst X2.here hx rfl (hb hby d3_41) ?_
    exact kt
  obtain ⟨fs, hr, hrun, hended, hW, hsame⟩ := X2.leave (v := some (.int (0 : Int32))) (fun h => by rw [Bd.returns] at h; cases h)
  refine ⟨_, _, k5 _ ?_, hrun, hended, _, _, rfl, ?_, ⟨_, rfl⟩, hW, hsame.mono (by decide) (by decide)⟩
  · show Steps p.tables e below (T2.setTop (mkF m 42 #[.val (.ref a), .val (.ref b)] [(.int (0 : Int32))])) _
    exact retN X2 hx (t := .boolean) Bd.returns (by simp) (hb hby d3_42) hr
  · show QQI Z a b h0 n0 _ T2.heap _
    rw [e2]
    exact ⟨rfl, N0, rfl⟩
theorem d9_0 : decode jdk_18_method_1_code 0 = .ok (.aload_n 0, 1) := by decide +kernel
theorem d9_1 : decode jdk_18_method_1_code 1 = .ok (.invokespecial 1, 3) := by decide +kernel
theorem d9_4 : decode jdk_18_method_1_code 4 = .ok (.return_, 1) := by decide +kernel
theorem own_pn2 : plainName "java/lang/Number" = true := by first | (simp [plainName, overriddenIn]; done) | decide +kernel
theorem rmNu_ef (m : MethodId) (x0 : Addr) : entryFrame m #[(.ref x0)] 1 = mkF m 0 #[.val (.ref x0)] [] := by first | (simp [entryFrame, mkF, argsToLocals, Value.category]; done) | rfl
def QNu (Z : State) (a : Addr) (h0 : Heap) (n0 : Nat) (v : Option Value) (h : Heap) (L : List Loc) : Prop := v = none ∧ Fr n0 L ∧ h = h0
set_option maxRecDepth 65536 in
set_option maxHeartbeats 40000000 in
theorem rmNu (l : Launch) (Z : State) (a0 : Array Value) (hw : ∀ d ∈ tables_1, d.before a0 Z = true) (ws : List Jvm.Cond) (a : Addr) (h0 : Heap) (n0 : Nat) (Z0 : n0 ≤ h0.size) :
    MetFree l (⟨"java/lang/Number", "<init>", "()V"⟩ : MethodName) (head1 (Jvm.Cond.code (⟨"java/lang/Number", "<init>", "()V"⟩ : MethodName) jdk_18_method_1_code 1 none :: ws) ({ frames := 1, cells := 0, slots := 0, locals := 12 } : Room)) (fun aA' U => aA' = #[(.ref a)] ∧ Z.Warmed39 U.vm ∧ U.heap = h0) (fun _ _ _ _ _ => True) (fun _ U oO' U' => ∃ vV' L, oO' = .returned vV' ∧ QNu Z a h0 n0 vV' U'.heap L ∧ FrameEnd U oO' U' L ({ frames := 1, cells := 0, slots := 0, locals := 12 } : Room).cells ({ frames := 1, cells := 0, slots := 0, locals := 12 } : Room).slots) := by
  refine MetFree.of_bodySF (plainFor_of_name own_pn2) hisR ?_
  intro p e s m args below meth c s₁ Bd hml0 hP hK
  obtain ⟨rfl, hZ, hh⟩ := hP
  have hx := Bd.exec
  have hby := Bd.bytes
  have hml : c.maxLocals = 1 := hml0
  have hown : s.vm.findClass "java/lang/Number" = some m.cls := findClass_of_methodNamed Bd.named
  have hnm := (name_of_methodNamed Bd.named Bd.method).1
  have X0 : Stand p l e ({ frames := 1, cells := 0, slots := 0, locals := 12 } : Room) s m #[(.ref a)] below meth c s₁ [] 0 0 := Stand.of_body Bd
  have e0 : s₁.heap = h0 := by rw [← hh, Bd.state]; rfl
  have N0 := Fr.nil n0
  have K0 : Keep h0 h0 [] := Keep.refl _ _
  have k0 : ∀ t, Steps p.tables e below (s₁.setTop (mkF m 0 #[.val (.ref a)] [])) t → Steps p.tables e below (s₁.setTop (entryFrame m #[(.ref a)] 1)) t := fun t k => castTop (rmNu_ef m (a)) k
  have k1 : ∀ t, Steps p.tables e below (s₁.setTop (mkF m 1 #[.val (.ref a)] [(.ref a)])) t → Steps p.tables e below (s₁.setTop (entryFrame m #[(.ref a)] 1)) t := by
    intro t kt
    refine k0 t ?_
    show Steps p.tables e below (s₁.setTop (mkF m 0 #[.val (.ref a)] [])) t
    refine XS.aloadN X0.here hx rfl (hb hby d9_0) rfl rfl ?_
    exact kt
  obtain ⟨T2, X2, e2, st2⟩ := initO X0 hx hZ hown (hw _ (List.mem_of_getElem? (i := 50) rfl)) (hw _ (List.mem_of_getElem? (i := 7) rfl)) (hw _ (List.mem_of_getElem? (i := 8) rfl)) e0 (g := (mkF m 1 #[.val (.ref a)] [(.ref a)])) rfl (by rw [hml]; rfl) rfl (hb hby d9_1) (by decide) (W := 0) (by show 2 * 0 + _ ≤ _; exact Nat.le_of_eq rfl) (by decide)
  have k3 : ∀ t, Steps p.tables e below (T2.setTop (mkF m 4 #[.val (.ref a)] [])) t → Steps p.tables e below (s₁.setTop (entryFrame m #[(.ref a)] 1)) t := fun t kt => k1 t (st2 t kt)
  obtain ⟨fs, hr, hrun, hended, hW, hsame⟩ := X2.leave (v := none) (fun _ => rfl)
  refine ⟨_, _, k3 _ ?_, hrun, hended, _, _, rfl, ?_, ⟨_, rfl⟩, hW, hsame.mono (by decide) (by decide)⟩
  · show Steps p.tables e below (T2.setTop (mkF m 4 #[.val (.ref a)] [])) _
    exact X2.returnOut hx Bd.returns (hb hby d9_4) hr
  · show QNu Z a h0 n0 _ T2.heap _
    rw [e2]
    exact ⟨rfl, N0, rfl⟩
theorem d8_0 : decode jdk_33_method_23_code 0 = .ok (.aload_n 0, 1) := by decide +kernel
theorem d8_1 : decode jdk_33_method_23_code 1 = .ok (.invokespecial 202, 3) := by decide +kernel
theorem d8_4 : decode jdk_33_method_23_code 4 = .ok (.aload_n 0, 1) := by decide +kernel
theorem d8_5 : decode jdk_33_method_23_code 5 = .ok (.iload_n 1, 1) := by decide +kernel
theorem d8_6 : decode jdk_33_method_23_code 6 = .ok (.putfield 205, 3) := by decide +kernel
theorem d8_9 : decode jdk_33_method_23_code 9 = .ok (.return_, 1) := by decide +kernel
theorem own_pn3 : plainName "java/lang/Integer" = true := by first | (simp [plainName, overriddenIn]; done) | decide +kernel
theorem rmIn_ef (m : MethodId) (x0 : Addr) (x1 : Int32) : entryFrame m #[(.ref x0), (.int x1)] 2 = mkF m 0 #[.val (.ref x0), .val (.int x1)] [] := by first | (simp [entryFrame, mkF, argsToLocals, Value.category]; done) | rfl
def QIn (Z : State) (a : Addr) (p1 : Int32) (u : Value) (h0 : Heap) (n0 : Nat) (v : Option Value) (h : Heap) (L : List Loc) : Prop := v = none ∧ Fr n0 L ∧ Keep h0 h [a] ∧ Exa Z h a "java/lang/Integer"
theorem own_pd0 : parseMethodDescriptor "()V" = some ⟨[], none⟩ := by decide +kernel
set_option maxRecDepth 65536 in
set_option maxHeartbeats 40000000 in
theorem rmIn (l : Launch) (Z : State) (a0 : Array Value) (hw : ∀ d ∈ tables_1, d.before a0 Z = true) (ws : List Jvm.Cond) (a : Addr) (p1 : Int32) (u : Value) (h0 : Heap) (n0 : Nat) (Z0 : n0 ≤ h0.size) (Fv : Fld Z h0 a "java/lang/Integer" "value" "I" u) (Ea : Exa Z h0 a "java/lang/Integer") (g_a : n0 ≤ a) :
    MetFree l (⟨"java/lang/Integer", "<init>", "(I)V"⟩ : MethodName) (head1 (Jvm.Cond.code (⟨"java/lang/Integer", "<init>", "(I)V"⟩ : MethodName) jdk_33_method_23_code 2 none :: ws) ({ frames := 2, cells := 0, slots := 0, locals := 24 } : Room)) (fun aA' U => aA' = #[(.ref a), (.int p1)] ∧ Z.Warmed39 U.vm ∧ U.heap = h0) (fun _ _ _ _ _ => True) (fun _ U oO' U' => ∃ vV' L, oO' = .returned vV' ∧ QIn Z a p1 u h0 n0 vV' U'.heap L ∧ FrameEnd U oO' U' L ({ frames := 2, cells := 0, slots := 0, locals := 24 } : Room).cells ({ frames := 2, cells := 0, slots := 0, locals := 24 } : Room).slots) := by
  refine MetFree.of_bodySF (plainFor_of_name own_pn3) hisR ?_
  intro p e s m args below meth c s₁ Bd hml0 hP hK
  obtain ⟨rfl, hZ, hh⟩ := hP
  have hx := Bd.exec
  have hby := Bd.bytes
  have hml : c.maxLocals = 2 := hml0
  have hown : s.vm.findClass "java/lang/Integer" = some m.cls := findClass_of_methodNamed Bd.named
  have hnm := (name_of_methodNamed Bd.named Bd.method).1
  have X0 : Stand p l e ({ frames := 2, cells := 0, slots := 0, locals := 24 } : Room) s m #[(.ref a), (.int p1)] below meth c s₁ [] 0 0 := Stand.of_body Bd
  have e0 : s₁.heap = h0 := by rw [← hh, Bd.state]; rfl
  have N0 := Fr.nil n0
  have K0 : Keep h0 h0 [a] := Keep.refl _ _
  have k0 : ∀ t, Steps p.tables e below (s₁.setTop (mkF m 0 #[.val (.ref a), .val (.int p1)] [])) t → Steps p.tables e below (s₁.setTop (entryFrame m #[(.ref a), (.int p1)] 2)) t := fun t k => castTop (rmIn_ef m (a) (p1)) k
  have k1 : ∀ t, Steps p.tables e below (s₁.setTop (mkF m 1 #[.val (.ref a), .val (.int p1)] [(.ref a)])) t → Steps p.tables e below (s₁.setTop (entryFrame m #[(.ref a), (.int p1)] 2)) t := by
    intro t kt
    refine k0 t ?_
    show Steps p.tables e below (s₁.setTop (mkF m 0 #[.val (.ref a), .val (.int p1)] [])) t
    refine XS.aloadN X0.here hx rfl (hb hby d8_0) rfl rfl ?_
    exact kt
  obtain ⟨_, _, ⟨T2, L2, k2c, n2⟩, -, X2, ⟨Lc2, hQ2, l2, y2, z2⟩, st2⟩ := X0.specialBack hx (y := (⟨"java/lang/Number", "<init>", "()V"⟩ : MethodName)) rfl hown (mvT hZ (hw _ (List.mem_of_getElem? (i := 44) rfl))) (mvT hZ (hw _ (List.mem_of_getElem? (i := 45) rfl))) (mvT hZ (hw _ (List.mem_of_getElem? (i := 49) rfl))) (by decide) (backOf (W := 0) (rmNu l Z a0 hw [] a h0 n0 Z0) hZ (hw _ (List.mem_of_getElem? (i := 49) rfl)) (hw _ (List.mem_of_getElem? (i := 48) rfl)) (by decide) (by decide)) (g := (mkF m 1 #[.val (.ref a), .val (.int p1)] [(.ref a)])) rfl (by rw [hml]; rfl) (Steps.refl _) (a := a) (argsL := []) (rest := []) (lenOf own_pd0 rfl) rfl (by show 2 * 0 + _ ≤ _; exact Nat.le_of_eq rfl) (hb hby d8_1) (fun _ _ => ⟨rfl, e0, (by decide : 0 + 0 ≤ _), (by decide : 0 + 0 ≤ _)⟩)
  dsimp only [Pt.U, Pt.locs, Pt.cells, Pt.slots] at X2 l2 y2 z2 st2 hQ2
  subst l2 y2 z2
  obtain ⟨rfl, N2q, e2⟩ := hQ2
  have N2 := Fr.app N0 N2q
  have k3 : ∀ t, Steps p.tables e below (T2.setTop (mkF m 4 #[.val (.ref a), .val (.int p1)] [])) t → Steps p.tables e below (s₁.setTop (entryFrame m #[(.ref a), (.int p1)] 2)) t := fun t kt => k1 t (st2.trans kt)
  have k4 : ∀ t, Steps p.tables e below (T2.setTop (mkF m 6 #[.val (.ref a), .val (.int p1)] [(.int p1), (.ref a)])) t → Steps p.tables e below (s₁.setTop (entryFrame m #[(.ref a), (.int p1)] 2)) t := by
    intro t kt
    refine k3 t ?_
    show Steps p.tables e below (T2.setTop (mkF m 4 #[.val (.ref a), .val (.int p1)] [])) t
    refine XS.aloadN X2.here hx rfl (hb hby d8_4) rfl rfl ?_
    show Steps p.tables e below (T2.setTop (mkF m 5 #[.val (.ref a), .val (.int p1)] [(.ref a)])) t
    refine XS.iloadN X2.here hx rfl (hb hby d8_5) rfl ?_
    exact kt
  obtain ⟨T5, h5, X5, e5, W5, st5⟩ := putF X2 hx hZ hown (host := "") (Or.inl (hw _ (List.mem_of_getElem? (i := 51) rfl))) Via.refl e2 Fv Ea (Or.inr ⟨(hw _ (List.mem_of_getElem? (i := 52) rfl)), rfl, hnm⟩) (hw _ (List.mem_of_getElem? (i := 39) rfl)) (ty := .int) (by decide) rfl rfl (g := (mkF m 6 #[.val (.ref a), .val (.int p1)] [(.int p1), (.ref a)])) rfl rfl (hb hby d8_6)
  have F6 := Fv.same W5
  have F7 := Ea.wr W5
  have Z5 : n0 ≤ h5.size := Nat.le_trans Z0 (Keep.of_wr W5).1
  have K5 : Keep h0 h5 [a] := K0.wr W5 (Or.inl (List.mem_of_getElem? (i := 0) rfl))
  have N5 := Fr.snoc X5 N2 g_a
  have k8 : ∀ t, Steps p.tables e below (T5.setTop (mkF m 9 #[.val (.ref a), .val (.int p1)] [])) t → Steps p.tables e below (s₁.setTop (entryFrame m #[(.ref a), (.int p1)] 2)) t := fun t kt => k4 t (st5 t kt)
  obtain ⟨fs, hr, hrun, hended, hW, hsame⟩ := X5.leave (v := none) (fun _ => rfl)
  refine ⟨_, _, k8 _ ?_, hrun, hended, _, _, rfl, ?_, ⟨_, rfl⟩, hW, hsame.mono (by decide) (by decide)⟩
  · show Steps p.tables e below (T5.setTop (mkF m 9 #[.val (.ref a), .val (.int p1)] [])) _
    exact X5.returnOut hx Bd.returns (hb hby d8_9) hr
  · show QIn Z a p1 u h0 n0 _ T5.heap _
    rw [e5]
    exact ⟨rfl, N5, K5, F7⟩
theorem own_rg {p1 : Int32} (h1 : ¬ p1 < (-128 : Int32)) (h2 : ¬ (127 : Int32) < p1) : ¬ (p1 + (128 : Int32)) < 0 ∧ (p1 + (128 : Int32)) < (256 : Int32) := by
  have e := c_iadd p1 128; have r := rng32 (p1 + 128)
  rw [Int32.lt_iff_toInt_lt] at h1 h2 ⊢
  rw [Int32.lt_iff_toInt_lt]
  have e1 : (-128 : Int32).toInt = -128 := rfl; have e2 : (127 : Int32).toInt = 127 := rfl; have e3 : (128 : Int32).toInt = 128 := rfl; have e4 : (256 : Int32).toInt = 256 := rfl; have e5 : (0 : Int32).toInt = 0 := rfl
  omega
theorem d7_0 : decode jdk_33_method_22_code 0 = .ok (.iload_n 0, 1) := by decide +kernel
theorem d7_1 : decode jdk_33_method_22_code 1 = .ok (.bipush (-128), 2) := by decide +kernel
theorem d7_3 : decode jdk_33_method_22_code 3 = .ok (.if_icmp .lt 20, 3) := by decide +kernel
theorem d7_6 : decode jdk_33_method_22_code 6 = .ok (.iload_n 0, 1) := by decide +kernel
theorem d7_7 : decode jdk_33_method_22_code 7 = .ok (.getstatic 191, 3) := by decide +kernel
theorem d7_10 : decode jdk_33_method_22_code 10 = .ok (.if_icmp .gt 13, 3) := by decide +kernel
theorem d7_13 : decode jdk_33_method_22_code 13 = .ok (.getstatic 195, 3) := by decide +kernel
theorem d7_16 : decode jdk_33_method_22_code 16 = .ok (.iload_n 0, 1) := by decide +kernel
theorem d7_17 : decode jdk_33_method_22_code 17 = .ok (.sipush 128, 3) := by decide +kernel
theorem d7_20 : decode jdk_33_method_22_code 20 = .ok (.iadd, 1) := by decide +kernel
theorem d7_21 : decode jdk_33_method_22_code 21 = .ok (.aaload, 1) := by decide +kernel
theorem d7_22 : decode jdk_33_method_22_code 22 = .ok (.areturn, 1) := by decide +kernel
theorem d7_23 : decode jdk_33_method_22_code 23 = .ok (.new 1, 3) := by decide +kernel
theorem d7_26 : decode jdk_33_method_22_code 26 = .ok (.dup, 1) := by decide +kernel
theorem d7_27 : decode jdk_33_method_22_code 27 = .ok (.iload_n 0, 1) := by decide +kernel
theorem d7_28 : decode jdk_33_method_22_code 28 = .ok (.invokespecial 199, 3) := by decide +kernel
theorem d7_31 : decode jdk_33_method_22_code 31 = .ok (.areturn, 1) := by decide +kernel
theorem rmVo_ef (m : MethodId) (x0 : Int32) : entryFrame m #[(.int x0)] 1 = mkF m 0 #[.val (.int x0)] [] := by first | (simp [entryFrame, mkF, argsToLocals, Value.category]; done) | rfl
def QVo (Z : State) (p1 : Int32) (aC : Addr) (clC : Cell) (h0 : Heap) (n0 : Nat) (v : Option Value) (h : Heap) (L : List Loc) : Prop := ∃ y : Addr, v = some (.ref y) ∧ Fr n0 L ∧ Keep h0 h [] ∧ Exa Z h y "java/lang/Integer"
theorem own_pd1 : parseMethodDescriptor "(I)V" = some ⟨[.int], none⟩ := by decide +kernel
set_option maxRecDepth 65536 in
set_option maxHeartbeats 40000000 in
theorem rmVo (l : Launch) (Z : State) (a0 : Array Value) (hw : ∀ d ∈ tables_1, d.before a0 Z = true) (ws : List Jvm.Cond) (p1 : Int32) (aC : Addr) (clC : Cell) (h0 : Heap) (n0 : Nat) (Z0 : n0 ≤ h0.size) (SH : Sta Z h0 "java/lang/Integer$IntegerCache" "high" "I" (.int (127 : Int32))) (SC : Sta Z h0 "java/lang/Integer$IntegerCache" "cache" "[Ljava/lang/Integer;" (.ref aC)) (ArC : Arr Z h0 aC clC (.object "java/lang/Integer")) (SzC : clC.slots.size = (256 : Int32).toNatClampNeg) (HC : ∀ j : Int32, ¬ j < 0 ∧ j < (256 : Int32) → ∃ y, clC.slots[j.toNatClampNeg]? = some (.ref y) ∧ Exa Z h0 y "java/lang/Integer") :
    MetFree l (⟨"java/lang/Integer", "valueOf", "(I)Ljava/lang/Integer;"⟩ : MethodName) (head1 (Jvm.Cond.code (⟨"java/lang/Integer", "valueOf", "(I)Ljava/lang/Integer;"⟩ : MethodName) jdk_33_method_22_code 1 (some (.object "java/lang/Integer")) :: ws) ({ frames := 3, cells := 1, slots := 1, locals := 38 } : Room)) (fun aA' U => aA' = #[(.int p1)] ∧ Z.Warmed39 U.vm ∧ U.heap = h0) (fun _ _ _ _ _ => True) (fun _ U oO' U' => ∃ vV' L, oO' = .returned vV' ∧ QVo Z p1 aC clC h0 n0 vV' U'.heap L ∧ FrameEnd U oO' U' L ({ frames := 3, cells := 1, slots := 1, locals := 38 } : Room).cells ({ frames := 3, cells := 1, slots := 1, locals := 38 } : Room).slots) := by
  refine MetFree.of_bodySF (plainFor_of_name own_pn3) hisR ?_
  intro p e s m args below meth c s₁ Bd hml0 hP hK
  obtain ⟨rfl, hZ, hh⟩ := hP
  have hx := Bd.exec
  have hby := Bd.bytes
  have hml : c.maxLocals = 1 := hml0
  have hown : s.vm.findClass "java/lang/Integer" = some m.cls := findClass_of_methodNamed Bd.named
  have hnm := (name_of_methodNamed Bd.named Bd.method).1
  have X0 : Stand p l e ({ frames := 3, cells := 1, slots := 1, locals := 38 } : Room) s m #[(.int p1)] below meth c s₁ [] 0 0 := Stand.of_body Bd
  have e0 : s₁.heap = h0 := by rw [← hh, Bd.state]; rfl
  have N0 := Fr.nil n0
  have K0 : Keep h0 h0 [] := Keep.refl _ _
  have k0 : ∀ t, Steps p.tables e below (s₁.setTop (mkF m 0 #[.val (.int p1)] [])) t → Steps p.tables e below (s₁.setTop (entryFrame m #[(.int p1)] 1)) t := fun t k => castTop (rmVo_ef m (p1)) k
  have k2 : ∀ t, Steps p.tables e below (s₁.setTop (mkF m 3 #[.val (.int p1)] [(.int (-128 : Int32)), (.int p1)])) t → Steps p.tables e below (s₁.setTop (entryFrame m #[(.int p1)] 1)) t := by
    intro t kt
    refine k0 t ?_
    show Steps p.tables e below (s₁.setTop (mkF m 0 #[.val (.int p1)] [])) t
    refine XS.iloadN X0.here hx rfl (hb hby d7_0) rfl ?_
    show Steps p.tables e below (s₁.setTop (mkF m 1 #[.val (.int p1)] [(.int p1)])) t
    refine XS.bipush X0.here hx rfl (hb hby d7_1) ?_
    exact kt
  by_cases hc3_1 : p1 < (-128 : Int32)
  · have k3 : ∀ t, Steps p.tables e below (s₁.setTop (mkF m 23 #[.val (.int p1)] [])) t → Steps p.tables e below (s₁.setTop (entryFrame m #[(.int p1)] 1)) t := by
      intro t kt
      refine k2 t ?_
      show Steps p.tables e below (s₁.setTop (mkF m 3 #[.val (.int p1)] [(.int (-128 : Int32)), (.int p1)])) t
      refine XS.icmpYes X0.here hx rfl (pc0 := 3) (pc' := 23) rfl (hb hby d7_3) rfl (tlt hc3_1).1 (by decide) (by decide) ?_
      exact kt
    obtain ⟨T4, h4, X4, e4, E4, A4, D4, -, st4⟩ := newO X0 hx hZ hown (hw _ (List.mem_of_getElem? (i := 38) rfl)) (hw _ (List.mem_of_getElem? (i := 39) rfl)) (hw _ (List.mem_of_getElem? (i := 36) rfl)) e0 (g := (mkF m 23 #[.val (.int p1)] [])) rfl (hb hby d7_23) (by decide) (by decide)
    obtain ⟨b4, g4⟩ : ∃ z, z = h0.size := ⟨_, rfl⟩
    rw [← g4] at A4 D4 st4
    have g_b4 : n0 ≤ b4 := Nat.le_trans Z0 (Nat.le_of_eq g4.symm)
    have sz_b4 : h0.size ≤ b4 := Nat.le_trans K0.1 (Nat.le_of_eq g4.symm)
    have F5 := SH.ext E4
    have F6 := SC.ext E4
    have Z4 : n0 ≤ h4.size := Nat.le_trans Z0 E4.1
    have K4 : Keep h0 h4 [] := K0.ext E4
    have F7 : Fld Z h4 b4 "java/lang/Integer" "value" "I" (.int (0 : Int32)) := D4 (Or.inr (hw _ (List.mem_of_getElem? (i := 52) rfl))) (ty := .int) (by decide)
    have k8 : ∀ t, Steps p.tables e below (T4.setTop (mkF m 26 #[.val (.int p1)] [(.ref b4)])) t → Steps p.tables e below (s₁.setTop (entryFrame m #[(.int p1)] 1)) t := fun t kt => k3 t (st4 t kt)
    have k9 : ∀ t, Steps p.tables e below (T4.setTop (mkF m 28 #[.val (.int p1)] [(.int p1), (.ref b4), (.ref b4)])) t → Steps p.tables e below (s₁.setTop (entryFrame m #[(.int p1)] 1)) t := by
      intro t kt
      refine k8 t ?_
      show Steps p.tables e below (T4.setTop (mkF m 26 #[.val (.int p1)] [(.ref b4)])) t
      refine XS.dup X4.here hx rfl (hb hby d7_26) rfl rfl ?_
      show Steps p.tables e below (T4.setTop (mkF m 27 #[.val (.int p1)] [(.ref b4), (.ref b4)])) t
      refine XS.iloadN X4.here hx rfl (hb hby d7_27) rfl ?_
      exact kt
    obtain ⟨_, _, ⟨T10, L10, k10c, n10⟩, -, X10, ⟨Lc10, hQ10, l10, y10, z10⟩, st10⟩ := X4.specialBack hx (y := (⟨"java/lang/Integer", "<init>", "(I)V"⟩ : MethodName)) rfl hown (mvT hZ (hw _ (List.mem_of_getElem? (i := 40) rfl))) (mvT hZ (hw _ (List.mem_of_getElem? (i := 41) rfl))) (mvT hZ (hw _ (List.mem_of_getElem? (i := 43) rfl))) (by decide) (backOf (W := 1) (rmIn l Z a0 hw [] b4 p1 (.int (0 : Int32)) h4 n0 Z4 F7 A4 g_b4) hZ (hw _ (List.mem_of_getElem? (i := 43) rfl)) (hw _ (List.mem_of_getElem? (i := 36) rfl)) (by decide) (by decide)) (g := (mkF m 28 #[.val (.int p1)] [(.int p1), (.ref b4), (.ref b4)])) rfl (by rw [hml]; rfl) (Steps.refl _) (a := b4) (argsL := [(.int p1)]) (rest := [(.ref b4)]) (lenOf own_pd1 rfl) rfl (by show 2 * 0 + _ ≤ _; exact Nat.le_of_eq rfl) (hb hby d7_28) (fun _ _ => ⟨rfl, e4, (by decide : 1 + 0 ≤ _), (by decide : 1 + 0 ≤ _)⟩)
    dsimp only [Pt.U, Pt.locs, Pt.cells, Pt.slots] at X10 l10 y10 z10 st10 hQ10
    subst l10 y10 z10
    obtain ⟨rfl, N10q, K10k, -⟩ := hQ10
    have N10 := Fr.app N0 N10q
    have F13 := A4.keep K10k
    have Z15 : n0 ≤ T10.heap.size := Nat.le_trans Z4 K10k.1
    have K15 : Keep h0 T10.heap [] := K4.trans K10k (allS (Or.inr sz_b4) all0)
    have k16 : ∀ t, Steps p.tables e below (T10.setTop (mkF m 31 #[.val (.int p1)] [(.ref b4)])) t → Steps p.tables e below (s₁.setTop (entryFrame m #[(.int p1)] 1)) t := fun t kt => k9 t (st10.trans kt)
    obtain ⟨fs, hr, hrun, hended, hW, hsame⟩ := X10.leave (v := some (.ref b4)) (fun h => by rw [Bd.returns] at h; cases h)
    refine ⟨_, _, k16 _ ?_, hrun, hended, _, _, rfl, ?_, ⟨_, rfl⟩, hW, hsame.mono (by decide) (by decide)⟩
    · show Steps p.tables e below (T10.setTop (mkF m 31 #[.val (.int p1)] [(.ref b4)])) _
      jvm_step X10.here [X10.here.top, hx, (hb hby d7_31), X10.method', Bd.returns, Value.isRef, FieldType.isReference]
      first | (intro acts; rw [hr _ acts rfl rfl rfl]) | rw [hr _ _ rfl rfl rfl]
      exact Steps.refl _
    · show QVo Z p1 aC clC h0 n0 _ T10.heap _
      exact ⟨b4, rfl, N10, K15, F13⟩
  · have k17 : ∀ t, Steps p.tables e below (s₁.setTop (mkF m 7 #[.val (.int p1)] [(.int p1)])) t → Steps p.tables e below (s₁.setTop (entryFrame m #[(.int p1)] 1)) t := by
      intro t kt
      refine k2 t ?_
      show Steps p.tables e below (s₁.setTop (mkF m 3 #[.val (.int p1)] [(.int (-128 : Int32)), (.int p1)])) t
      refine XS.icmpNo X0.here hx rfl (hb hby d7_3) rfl (flt hc3_1).1 ?_
      show Steps p.tables e below (s₁.setTop (mkF m 6 #[.val (.int p1)] [])) t
      refine XS.iloadN X0.here hx rfl (hb hby d7_6) rfl ?_
      exact kt
    obtain ⟨T18, X18, e18, st18⟩ := getS2 X0 hx hZ hown (host := "") (Or.inl (hw _ (List.mem_of_getElem? (i := 56) rfl))) Via.refl e0 SH (g := (mkF m 7 #[.val (.int p1)] [(.int p1)])) rfl (hb hby d7_7)
    have k19 : ∀ t, Steps p.tables e below (T18.setTop (mkF m 10 #[.val (.int p1)] [(.int (127 : Int32)), (.int p1)])) t → Steps p.tables e below (s₁.setTop (entryFrame m #[(.int p1)] 1)) t := fun t kt => k17 t (st18 t kt)
    by_cases hc10_20 : (127 : Int32) < p1
    · have k21 : ∀ t, Steps p.tables e below (T18.setTop (mkF m 23 #[.val (.int p1)] [])) t → Steps p.tables e below (s₁.setTop (entryFrame m #[(.int p1)] 1)) t := by
        intro t kt
        refine k19 t ?_
        show Steps p.tables e below (T18.setTop (mkF m 10 #[.val (.int p1)] [(.int (127 : Int32)), (.int p1)])) t
        refine XS.icmpYes X18.here hx rfl (pc0 := 10) (pc' := 23) rfl (hb hby d7_10) rfl (tlt hc10_20).2.2.1 (by decide) (by decide) ?_
        exact kt
      obtain ⟨T22, h22, X22, e22, E22, A22, D22, -, st22⟩ := newO X18 hx hZ hown (hw _ (List.mem_of_getElem? (i := 38) rfl)) (hw _ (List.mem_of_getElem? (i := 39) rfl)) (hw _ (List.mem_of_getElem? (i := 36) rfl)) e18 (g := (mkF m 23 #[.val (.int p1)] [])) rfl (hb hby d7_23) (by decide) (by decide)
      obtain ⟨b22, g22⟩ : ∃ z, z = h0.size := ⟨_, rfl⟩
      rw [← g22] at A22 D22 st22
      have g_b22 : n0 ≤ b22 := Nat.le_trans Z0 (Nat.le_of_eq g22.symm)
      have sz_b22 : h0.size ≤ b22 := Nat.le_trans K0.1 (Nat.le_of_eq g22.symm)
      have F23 := SH.ext E22
      have F24 := SC.ext E22
      have Z22 : n0 ≤ h22.size := Nat.le_trans Z0 E22.1
      have K22 : Keep h0 h22 [] := K0.ext E22
      have F25 : Fld Z h22 b22 "java/lang/Integer" "value" "I" (.int (0 : Int32)) := D22 (Or.inr (hw _ (List.mem_of_getElem? (i := 52) rfl))) (ty := .int) (by decide)
      have k26 : ∀ t, Steps p.tables e below (T22.setTop (mkF m 26 #[.val (.int p1)] [(.ref b22)])) t → Steps p.tables e below (s₁.setTop (entryFrame m #[(.int p1)] 1)) t := fun t kt => k21 t (st22 t kt)
      have k27 : ∀ t, Steps p.tables e below (T22.setTop (mkF m 28 #[.val (.int p1)] [(.int p1), (.ref b22), (.ref b22)])) t → Steps p.tables e below (s₁.setTop (entryFrame m #[(.int p1)] 1)) t := by
        intro t kt
        refine k26 t ?_
        show Steps p.tables e below (T22.setTop (mkF m 26 #[.val (.int p1)] [(.ref b22)])) t
        refine XS.dup X22.here hx rfl (hb hby d7_26) rfl rfl ?_
        show Steps p.tables e below (T22.setTop (mkF m 27 #[.val (.int p1)] [(.ref b22), (.ref b22)])) t
        refine XS.iloadN X22.here hx rfl (hb hby d7_27) rfl ?_
        exact kt
      obtain ⟨_, _, ⟨T28, L28, k28c, n28⟩, -, X28, ⟨Lc28, hQ28, l28, y28, z28⟩, st28⟩ := X22.specialBack hx (y := (⟨"java/lang/Integer", "<init>", "(I)V"⟩ : MethodName)) rfl hown (mvT hZ (hw _ (List.mem_of_getElem? (i := 40) rfl))) (mvT hZ (hw _ (List.mem_of_getElem? (i := 41) rfl))) (mvT hZ (hw _ (List.mem_of_getElem? (i := 43) rfl))) (by decide) (backOf (W := 1) (rmIn l Z a0 hw [] b22 p1 (.int (0 : Int32)) h22 n0 Z22 F25 A22 g_b22) hZ (hw _ (List.mem_of_getElem? (i := 43) rfl)) (hw _ (List.mem_of_getElem? (i := 36) rfl)) (by decide) (by decide)) (g := (mkF m 28 #[.val (.int p1)] [(.int p1), (.ref b22), (.ref b22)])) rfl (by rw [hml]; rfl) (Steps.refl _) (a := b22) (argsL := [(.int p1)]) (rest := [(.ref b22)]) (lenOf own_pd1 rfl) rfl (by show 2 * 0 + _ ≤ _; exact Nat.le_of_eq rfl) (hb hby d7_28) (fun _ _ => ⟨rfl, e22, (by decide : 1 + 0 ≤ _), (by decide : 1 + 0 ≤ _)⟩)
      dsimp only [Pt.U, Pt.locs, Pt.cells, Pt.slots] at X28 l28 y28 z28 st28 hQ28
      subst l28 y28 z28
      obtain ⟨rfl, N28q, K28k, -⟩ := hQ28
      have N28 := Fr.app N0 N28q
      have F31 := A22.keep K28k
      have Z33 : n0 ≤ T28.heap.size := Nat.le_trans Z22 K28k.1
      have K33 : Keep h0 T28.heap [] := K22.trans K28k (allS (Or.inr sz_b22) all0)
      have k34 : ∀ t, Steps p.tables e below (T28.setTop (mkF m 31 #[.val (.int p1)] [(.ref b22)])) t → Steps p.tables e below (s₁.setTop (entryFrame m #[(.int p1)] 1)) t := fun t kt => k27 t (st28.trans kt)
      obtain ⟨fs, hr, hrun, hended, hW, hsame⟩ := X28.leave (v := some (.ref b22)) (fun h => by rw [Bd.returns] at h; cases h)
      refine ⟨_, _, k34 _ ?_, hrun, hended, _, _, rfl, ?_, ⟨_, rfl⟩, hW, hsame.mono (by decide) (by decide)⟩
      · show Steps p.tables e below (T28.setTop (mkF m 31 #[.val (.int p1)] [(.ref b22)])) _
        jvm_step X28.here [X28.here.top, hx, (hb hby d7_31), X28.method', Bd.returns, Value.isRef, FieldType.isReference]
        first | (intro acts; rw [hr _ acts rfl rfl rfl]) | rw [hr _ _ rfl rfl rfl]
        exact Steps.refl _
      · show QVo Z p1 aC clC h0 n0 _ T28.heap _
        exact ⟨b22, rfl, N28, K33, F31⟩
    · have k35 : ∀ t, Steps p.tables e below (T18.setTop (mkF m 13 #[.val (.int p1)] [])) t → Steps p.tables e below (s₁.setTop (entryFrame m #[(.int p1)] 1)) t := by
        intro t kt
        refine k19 t ?_
        show Steps p.tables e below (T18.setTop (mkF m 10 #[.val (.int p1)] [(.int (127 : Int32)), (.int p1)])) t
        refine XS.icmpNo X18.here hx rfl (hb hby d7_10) rfl (flt hc10_20).2.2.1 ?_
        exact kt
      obtain ⟨T36, X36, e36, st36⟩ := getS2 X18 hx hZ hown (host := "") (Or.inl (hw _ (List.mem_of_getElem? (i := 58) rfl))) Via.refl e18 SC (g := (mkF m 13 #[.val (.int p1)] [])) rfl (hb hby d7_13)
      have k37 : ∀ t, Steps p.tables e below (T36.setTop (mkF m 16 #[.val (.int p1)] [(.ref aC)])) t → Steps p.tables e below (s₁.setTop (entryFrame m #[(.int p1)] 1)) t := fun t kt => k35 t (st36 t kt)
      have k38 : ∀ t, Steps p.tables e below (T36.setTop (mkF m 21 #[.val (.int p1)] [(.int (p1 + (128 : Int32))), (.ref aC)])) t → Steps p.tables e below (s₁.setTop (entryFrame m #[(.int p1)] 1)) t := by
        intro t kt
        refine k37 t ?_
        show Steps p.tables e below (T36.setTop (mkF m 16 #[.val (.int p1)] [(.ref aC)])) t
        refine XS.iloadN X36.here hx rfl (hb hby d7_16) rfl ?_
        show Steps p.tables e below (T36.setTop (mkF m 17 #[.val (.int p1)] [(.int p1), (.ref aC)])) t
        refine XS.sipush X36.here hx rfl (hb hby d7_17) ?_
        show Steps p.tables e below (T36.setTop (mkF m 20 #[.val (.int p1)] [(.int (128 : Int32)), (.int p1), (.ref aC)])) t
        refine XS.iadd X36.here hx rfl (hb hby d7_20) rfl ?_
        exact kt
      have hr39 : ¬ (p1 + (128 : Int32)) < 0 ∧ (p1 + (128 : Int32)) < (256 : Int32) := own_rg hc3_1 hc10_20
      have hin39 : ¬ ((p1 + (128 : Int32)) < 0 ∨ clC.slots.size ≤ ((p1 + (128 : Int32))).toNatClampNeg) := inb_of SzC hr39
      obtain ⟨y39, hat39, Ey39⟩ := HC (p1 + (128 : Int32)) hr39
      have k40 : ∀ t, Steps p.tables e below (T36.setTop (mkF m 22 #[.val (.int p1)] [(.ref y39)])) t → Steps p.tables e below (s₁.setTop (entryFrame m #[(.int p1)] 1)) t := fun t kt => k38 t (X36.aaload hx (j := (p1 + (128 : Int32))) (v := (.ref y39)) (by rw [e36]; exact ArC.1) (State.isArrayOf_alike hZ.alike ArC.2.1) rfl ArC.2.2 hin39 hat39 (g := (mkF m 21 #[.val (.int p1)] [(.int (p1 + (128 : Int32))), (.ref aC)])) rfl rfl (hb hby d7_21) t kt)
      obtain ⟨fs, hr, hrun, hended, hW, hsame⟩ := X36.leave (v := some (.ref y39)) (fun h => by rw [Bd.returns] at h; cases h)
      refine ⟨_, _, k40 _ ?_, hrun, hended, _, _, rfl, ?_, ⟨_, rfl⟩, hW, hsame.mono (by decide) (by decide)⟩
      · show Steps p.tables e below (T36.setTop (mkF m 22 #[.val (.int p1)] [(.ref y39)])) _
        jvm_step X36.here [X36.here.top, hx, (hb hby d7_22), X36.method', Bd.returns, Value.isRef, FieldType.isReference]
        first | (intro acts; rw [hr _ acts rfl rfl rfl]) | rw [hr _ _ rfl rfl rfl]
        exact Steps.refl _
      · show QVo Z p1 aC clC h0 n0 _ T36.heap _
        rw [e36]
        exact ⟨y39, rfl, N0, K0, Ey39⟩
theorem rm0_ef (m : MethodId) (x0 : Int32) (x1 : Int32) (x2 : Int32) (x3 : Int32) (x4 : Int32) : entryFrame m #[(.int x0), (.int x1), (.int x2), (.int x3), (.int x4)] maxLocals = mkF m 0 #[.val (.int x0), .val (.int x1), .val (.int x2), .val (.int x3), .val (.int x4), .unset, .unset, .unset, .unset, .unset, .unset, .unset, .unset, .unset, .unset, .unset, .unset, .unset, .unset] [] := by first | (simp [entryFrame, mkF, argsToLocals, Value.category, maxLocals]; done) | rfl
def Q0 (Z : State) (p1 : Int32) (p2 : Int32) (p3 : Int32) (p4 : Int32) (p5 : Int32) (aC : Addr) (clC : Cell) (h0 : Heap) (n0 : Nat) (v : Option Value) (h : Heap) (L : List Loc) : Prop := v = some (.int 1) ∧ Fr n0 L
theorem own_pd2 : parseMethodDescriptor "(I)[B" = some ⟨[.int], some (.array .byte)⟩ := by decide +kernel
theorem own_pd3 : parseMethodDescriptor "([B)V" = some ⟨[(.array .byte)], none⟩ := by decide +kernel
theorem own_pd4 : parseMethodDescriptor "(I)J" = some ⟨[.int], some .long⟩ := by decide +kernel
theorem own_pd5 : parseMethodDescriptor "(Ljava/lang/Object;)Z" = some ⟨[(.object "java/lang/Object")], some .boolean⟩ := by decide +kernel
theorem own_pd6 : parseMethodDescriptor "(I)Ljava/lang/Integer;" = some ⟨[.int], some (.object "java/lang/Integer")⟩ := by decide +kernel
set_option maxRecDepth 65536 in
set_option maxHeartbeats 40000000 in
theorem rm0 (l : Launch) (Z : State) (a0 : Array Value) (hw : ∀ d ∈ tables_1, d.before a0 Z = true) (ws : List Jvm.Cond) (p1 : Int32) (p2 : Int32) (p3 : Int32) (p4 : Int32) (p5 : Int32) (aC : Addr) (clC : Cell) (h0 : Heap) (n0 : Nat) (Z0 : n0 ≤ h0.size) (O0 : Old Z n0 h0) (SH : Sta Z Z.heap "java/lang/Integer$IntegerCache" "high" "I" (.int (127 : Int32))) (SC : Sta Z Z.heap "java/lang/Integer$IntegerCache" "cache" "[Ljava/lang/Integer;" (.ref aC)) (ArC : Arr Z Z.heap aC clC (.object "java/lang/Integer")) (SzC : clC.slots.size = (256 : Int32).toNatClampNeg) (HC : ∀ j : Int32, ¬ j < 0 ∧ j < (256 : Int32) → ∃ y, clC.slots[j.toNatClampNeg]? = some (.ref y) ∧ Exa Z Z.heap y "java/lang/Integer") :
    MetFree l x (head1 (Jvm.Cond.code x code maxLocals ret :: ws) room_1) (fun aA' U => aA' = #[(.int p1), (.int p2), (.int p3), (.int p4), (.int p5)] ∧ Z.Warmed39 U.vm ∧ U.heap = h0) (fun _ _ _ _ _ => True) (fun _ U oO' U' => ∃ vV' L, oO' = .returned vV' ∧ Q0 Z p1 p2 p3 p4 p5 aC clC h0 n0 vV' U'.heap L ∧ FrameEnd U oO' U' L 24 128) := by
  refine MetFree.of_bodySF (plainFor_of_name own_pn0) hisR ?_
  intro p e s m args below meth c s₁ Bd hml0 hP hK
  obtain ⟨rfl, hZ, hh⟩ := hP
  have hx := Bd.exec
  have hby := Bd.bytes
  have hml : c.maxLocals = 19 := hml0
  have hown : s.vm.findClass "com/example/disk_to_queue/disktoqueue/bench/BodySumEqualsPinLaw" = some m.cls := findClass_of_methodNamed Bd.named
  have hnm := (name_of_methodNamed Bd.named Bd.method).1
  have X0 : Stand p l e room_1 s m #[(.int p1), (.int p2), (.int p3), (.int p4), (.int p5)] below meth c s₁ [] 0 0 := Stand.of_body Bd
  have e0 : s₁.heap = h0 := by rw [← hh, Bd.state]; rfl
  have N0 := Fr.nil n0
  have K0 : Keep h0 h0 [] := Keep.refl _ _
  have k0 : ∀ t, Steps p.tables e below (s₁.setTop (mkF m 0 #[.val (.int p1), .val (.int p2), .val (.int p3), .val (.int p4), .val (.int p5), .unset, .unset, .unset, .unset, .unset, .unset, .unset, .unset, .unset, .unset, .unset, .unset, .unset, .unset] [])) t → Steps p.tables e below (s₁.setTop (entryFrame m #[(.int p1), (.int p2), (.int p3), (.int p4), (.int p5)] maxLocals)) t := fun t k => castTop (rm0_ef m (p1) (p2) (p3) (p4) (p5)) k
  obtain ⟨T1, h1, X1, e1, E1, A1, D1, -, st1⟩ := newO X0 hx hZ hown (hw _ (List.mem_of_getElem? (i := 0) rfl)) (hw _ (List.mem_of_getElem? (i := 1) rfl)) (hw _ (List.mem_of_getElem? (i := 2) rfl)) e0 (g := (mkF m 0 #[.val (.int p1), .val (.int p2), .val (.int p3), .val (.int p4), .val (.int p5), .unset, .unset, .unset, .unset, .unset, .unset, .unset, .unset, .unset, .unset, .unset, .unset, .unset, .unset] [])) rfl (hb hby at_0) (by decide) (by decide)
  obtain ⟨b1, g1⟩ : ∃ z, z = h0.size := ⟨_, rfl⟩
  rw [← g1] at A1 D1 st1
  have g_b1 : n0 ≤ b1 := Nat.le_trans Z0 (Nat.le_of_eq g1.symm)
  have sz_b1 : h0.size ≤ b1 := Nat.le_trans K0.1 (Nat.le_of_eq g1.symm)
  have F2 := O0.ext E1
  have Z1 : n0 ≤ h1.size := Nat.le_trans Z0 E1.1
  have K1 : Keep h0 h1 [] := K0.ext E1
  have F3 : Fld Z h1 b1 "com/example/disk_to_queue/disktoqueue/bench/BodySum" "count" "J" (.long (0 : Int64)) := D1 (Or.inl (hw _ (List.mem_of_getElem? (i := 17) rfl))) (ty := .long) (by decide)
  have F4 : Fld Z h1 b1 "com/example/disk_to_queue/disktoqueue/bench/BodySum" "sum" "J" (.long (0 : Int64)) := D1 (Or.inl (hw _ (List.mem_of_getElem? (i := 19) rfl))) (ty := .long) (by decide)
  have k5 : ∀ t, Steps p.tables e below (T1.setTop (mkF m 3 #[.val (.int p1), .val (.int p2), .val (.int p3), .val (.int p4), .val (.int p5), .unset, .unset, .unset, .unset, .unset, .unset, .unset, .unset, .unset, .unset, .unset, .unset, .unset, .unset] [(.ref b1)])) t → Steps p.tables e below (s₁.setTop (entryFrame m #[(.int p1), (.int p2), (.int p3), (.int p4), (.int p5)] maxLocals)) t := fun t kt => k0 t (st1 t kt)
  have k6 : ∀ t, Steps p.tables e below (T1.setTop (mkF m 4 #[.val (.int p1), .val (.int p2), .val (.int p3), .val (.int p4), .val (.int p5), .unset, .unset, .unset, .unset, .unset, .unset, .unset, .unset, .unset, .unset, .unset, .unset, .unset, .unset] [(.ref b1), (.ref b1)])) t → Steps p.tables e below (s₁.setTop (entryFrame m #[(.int p1), (.int p2), (.int p3), (.int p4), (.int p5)] maxLocals)) t := by
    intro t kt
    refine k5 t ?_
    show Steps p.tables e below (T1.setTop (mkF m 3 #[.val (.int p1), .val (.int p2), .val (.int p3), .val (.int p4), .val (.int p5), .unset, .unset, .unset, .unset, .unset, .unset, .unset, .unset, .unset, .unset, .unset, .unset, .unset, .unset] [(.ref b1)])) t
    refine XS.dup X1.here hx rfl (hb hby at_3) rfl rfl ?_
    exact kt
  obtain ⟨_, _, ⟨T7, L7, k7c, n7⟩, -, X7, ⟨Lc7, hQ7, l7, y7, z7⟩, st7⟩ := X1.specialBack hx (y := (⟨"com/example/disk_to_queue/disktoqueue/bench/BodySum", "<init>", "()V"⟩ : MethodName)) rfl hown (mvT hZ (hw _ (List.mem_of_getElem? (i := 3) rfl))) (mvT hZ (hw _ (List.mem_of_getElem? (i := 4) rfl))) (mvT hZ (hw _ (List.mem_of_getElem? (i := 5) rfl))) (by decide) (backOf (W := 1) (rmI l Z a0 hw [] b1 h1 n0 Z1) hZ (hw _ (List.mem_of_getElem? (i := 5) rfl)) (hw _ (List.mem_of_getElem? (i := 2) rfl)) (by decide) (by decide)) (g := (mkF m 4 #[.val (.int p1), .val (.int p2), .val (.int p3), .val (.int p4), .val (.int p5), .unset, .unset, .unset, .unset, .unset, .unset, .unset, .unset, .unset, .unset, .unset, .unset, .unset, .unset] [(.ref b1), (.ref b1)])) rfl (by rw [hml]; rfl) (Steps.refl _) (a := b1) (argsL := []) (rest := [(.ref b1)]) (lenOf own_pd0 rfl) rfl (by show 2 * 0 + _ ≤ _; exact Nat.le_of_eq rfl) (hb hby at_4) (fun _ _ => ⟨rfl, e1, (by decide : 1 + 0 ≤ _), (by decide : 2 + 0 ≤ _)⟩)
  dsimp only [Pt.U, Pt.locs, Pt.cells, Pt.slots] at X7 l7 y7 z7 st7 hQ7
  subst l7 y7 z7
  obtain ⟨rfl, N7q, e7⟩ := hQ7
  have N7 := Fr.app N0 N7q
  have k8 : ∀ t, Steps p.tables e below (T7.setTop (mkF m 7 #[.val (.int p1), .val (.int p2), .val (.int p3), .val (.int p4), .val (.int p5), .unset, .unset, .unset, .unset, .unset, .unset, .unset, .unset, .unset, .unset, .unset, .unset, .unset, .unset] [(.ref b1)])) t → Steps p.tables e below (s₁.setTop (entryFrame m #[(.int p1), (.int p2), (.int p3), (.int p4), (.int p5)] maxLocals)) t := fun t kt => k6 t (st7.trans kt)
  have k9 : ∀ t, Steps p.tables e below (T7.setTop (mkF m 9 #[.val (.int p1), .val (.int p2), .val (.int p3), .val (.int p4), .val (.int p5), .val (.ref b1), .unset, .unset, .unset, .unset, .unset, .unset, .unset, .unset, .unset, .unset, .unset, .unset, .unset] [])) t → Steps p.tables e below (s₁.setTop (entryFrame m #[(.int p1), (.int p2), (.int p3), (.int p4), (.int p5)] maxLocals)) t := by
    intro t kt
    refine k8 t ?_
    show Steps p.tables e below (T7.setTop (mkF m 7 #[.val (.int p1), .val (.int p2), .val (.int p3), .val (.int p4), .val (.int p5), .unset, .unset, .unset, .unset, .unset, .unset, .unset, .unset, .unset, .unset, .unset, .unset, .unset, .unset] [(.ref b1)])) t
    refine XS.astore X7.here hx rfl (hb hby at_7) rfl rfl (l' := #[.val (.int p1), .val (.int p2), .val (.int p3), .val (.int p4), .val (.int p5), .val (.ref b1), .unset, .unset, .unset, .unset, .unset, .unset, .unset, .unset, .unset, .unset, .unset, .unset, .unset]) rfl ?_
    exact kt
  obtain ⟨T10, h10, X10, e10, E10, A10, D10, -, st10⟩ := newO X7 hx hZ hown (hw _ (List.mem_of_getElem? (i := 0) rfl)) (hw _ (List.mem_of_getElem? (i := 1) rfl)) (hw _ (List.mem_of_getElem? (i := 2) rfl)) e7 (g := (mkF m 9 #[.val (.int p1), .val (.int p2), .val (.int p3), .val (.int p4), .val (.int p5), .val (.ref b1), .unset, .unset, .unset, .unset, .unset, .unset, .unset, .unset, .unset, .unset, .unset, .unset, .unset] [])) rfl (hb hby at_9) (by decide) (by decide)
  obtain ⟨b10, g10⟩ : ∃ z, z = h1.size := ⟨_, rfl⟩
  rw [← g10] at A10 D10 st10
  have g_b10 : n0 ≤ b10 := Nat.le_trans Z1 (Nat.le_of_eq g10.symm)
  have sz_b10 : h0.size ≤ b10 := Nat.le_trans K1.1 (Nat.le_of_eq g10.symm)
  have ne11 : b1 ≠ b10 := Nat.ne_of_lt (Nat.lt_of_lt_of_le A1.lt (Nat.le_of_eq g10.symm))
  have F12 := F2.ext E10
  have F13 := A1.ext E10
  have F14 := F3.ext E10
  have F15 := F4.ext E10
  have Z10 : n0 ≤ h10.size := Nat.le_trans Z1 E10.1
  have K10 : Keep h0 h10 [] := K1.ext E10
  have F16 : Fld Z h10 b10 "com/example/disk_to_queue/disktoqueue/bench/BodySum" "count" "J" (.long (0 : Int64)) := D10 (Or.inl (hw _ (List.mem_of_getElem? (i := 17) rfl))) (ty := .long) (by decide)
  have F17 : Fld Z h10 b10 "com/example/disk_to_queue/disktoqueue/bench/BodySum" "sum" "J" (.long (0 : Int64)) := D10 (Or.inl (hw _ (List.mem_of_getElem? (i := 19) rfl))) (ty := .long) (by decide)
  have k18 : ∀ t, Steps p.tables e below (T10.setTop (mkF m 12 #[.val (.int p1), .val (.int p2), .val (.int p3), .val (.int p4), .val (.int p5), .val (.ref b1), .unset, .unset, .unset, .unset, .unset, .unset, .unset, .unset, .unset, .unset, .unset, .unset, .unset] [(.ref b10)])) t → Steps p.tables e below (s₁.setTop (entryFrame m #[(.int p1), (.int p2), (.int p3), (.int p4), (.int p5)] maxLocals)) t := fun t kt => k9 t (st10 t kt)
  have k19 : ∀ t, Steps p.tables e below (T10.setTop (mkF m 13 #[.val (.int p1), .val (.int p2), .val (.int p3), .val (.int p4), .val (.int p5), .val (.ref b1), .unset, .unset, .unset, .unset, .unset, .unset, .unset, .unset, .unset, .unset, .unset, .unset, .unset] [(.ref b10), (.ref b10)])) t → Steps p.tables e below (s₁.setTop (entryFrame m #[(.int p1), (.int p2), (.int p3), (.int p4), (.int p5)] maxLocals)) t := by
    intro t kt
    refine k18 t ?_
    show Steps p.tables e below (T10.setTop (mkF m 12 #[.val (.int p1), .val (.int p2), .val (.int p3), .val (.int p4), .val (.int p5), .val (.ref b1), .unset, .unset, .unset, .unset, .unset, .unset, .unset, .unset, .unset, .unset, .unset, .unset, .unset] [(.ref b10)])) t
    refine XS.dup X10.here hx rfl (hb hby at_12) rfl rfl ?_
    exact kt
  obtain ⟨_, _, ⟨T20, L20, k20c, n20⟩, -, X20, ⟨Lc20, hQ20, l20, y20, z20⟩, st20⟩ := X10.specialBack hx (y := (⟨"com/example/disk_to_queue/disktoqueue/bench/BodySum", "<init>", "()V"⟩ : MethodName)) rfl hown (mvT hZ (hw _ (List.mem_of_getElem? (i := 3) rfl))) (mvT hZ (hw _ (List.mem_of_getElem? (i := 4) rfl))) (mvT hZ (hw _ (List.mem_of_getElem? (i := 5) rfl))) (by decide) (backOf (W := 1) (rmI l Z a0 hw [] b10 h10 n0 Z10) hZ (hw _ (List.mem_of_getElem? (i := 5) rfl)) (hw _ (List.mem_of_getElem? (i := 2) rfl)) (by decide) (by decide)) (g := (mkF m 13 #[.val (.int p1), .val (.int p2), .val (.int p3), .val (.int p4), .val (.int p5), .val (.ref b1), .unset, .unset, .unset, .unset, .unset, .unset, .unset, .unset, .unset, .unset, .unset, .unset, .unset] [(.ref b10), (.ref b10)])) rfl (by rw [hml]; rfl) (Steps.refl _) (a := b10) (argsL := []) (rest := [(.ref b10)]) (lenOf own_pd0 rfl) rfl (by show 2 * 0 + _ ≤ _; exact Nat.le_of_eq rfl) (hb hby at_13) (fun _ _ => ⟨rfl, e10, (by decide : 2 + 0 ≤ _), (by decide : 4 + 0 ≤ _)⟩)
  dsimp only [Pt.U, Pt.locs, Pt.cells, Pt.slots] at X20 l20 y20 z20 st20 hQ20
  subst l20 y20 z20
  obtain ⟨rfl, N20q, e20⟩ := hQ20
  have N20 := Fr.app N7 N20q
  have k21 : ∀ t, Steps p.tables e below (T20.setTop (mkF m 16 #[.val (.int p1), .val (.int p2), .val (.int p3), .val (.int p4), .val (.int p5), .val (.ref b1), .unset, .unset, .unset, .unset, .unset, .unset, .unset, .unset, .unset, .unset, .unset, .unset, .unset] [(.ref b10)])) t → Steps p.tables e below (s₁.setTop (entryFrame m #[(.int p1), (.int p2), (.int p3), (.int p4), (.int p5)] maxLocals)) t := fun t kt => k19 t (st20.trans kt)
  have k22 : ∀ t, Steps p.tables e below (T20.setTop (mkF m 30 #[.val (.int p1), .val (.int p2), .val (.int p3), .val (.int p4), .val (.int p5), .val (.ref b1), .val (.ref b10), .val (.long (0 : Int64)), .second, .val (.long (0 : Int64)), .second, .val (.long (0 : Int64)), .second, .val (.long (0 : Int64)), .second, .unset, .unset, .unset, .unset] [])) t → Steps p.tables e below (s₁.setTop (entryFrame m #[(.int p1), (.int p2), (.int p3), (.int p4), (.int p5)] maxLocals)) t := by
    intro t kt
    refine k21 t ?_
    show Steps p.tables e below (T20.setTop (mkF m 16 #[.val (.int p1), .val (.int p2), .val (.int p3), .val (.int p4), .val (.int p5), .val (.ref b1), .unset, .unset, .unset, .unset, .unset, .unset, .unset, .unset, .unset, .unset, .unset, .unset, .unset] [(.ref b10)])) t
    refine XS.astore X20.here hx rfl (hb hby at_16) rfl rfl (l' := #[.val (.int p1), .val (.int p2), .val (.int p3), .val (.int p4), .val (.int p5), .val (.ref b1), .val (.ref b10), .unset, .unset, .unset, .unset, .unset, .unset, .unset, .unset, .unset, .unset, .unset, .unset]) rfl ?_
    show Steps p.tables e below (T20.setTop (mkF m 18 #[.val (.int p1), .val (.int p2), .val (.int p3), .val (.int p4), .val (.int p5), .val (.ref b1), .val (.ref b10), .unset, .unset, .unset, .unset, .unset, .unset, .unset, .unset, .unset, .unset, .unset, .unset] [])) t
    refine XS.lconst X20.here hx rfl (hb hby at_18) ?_
    show Steps p.tables e below (T20.setTop (mkF m 19 #[.val (.int p1), .val (.int p2), .val (.int p3), .val (.int p4), .val (.int p5), .val (.ref b1), .val (.ref b10), .unset, .unset, .unset, .unset, .unset, .unset, .unset, .unset, .unset, .unset, .unset, .unset] [(.long (0 : Int64))])) t
    refine XS.lstore X20.here hx rfl (hb hby at_19) rfl (l' := #[.val (.int p1), .val (.int p2), .val (.int p3), .val (.int p4), .val (.int p5), .val (.ref b1), .val (.ref b10), .val (.long (0 : Int64)), .second, .unset, .unset, .unset, .unset, .unset, .unset, .unset, .unset, .unset, .unset]) rfl ?_
    show Steps p.tables e below (T20.setTop (mkF m 21 #[.val (.int p1), .val (.int p2), .val (.int p3), .val (.int p4), .val (.int p5), .val (.ref b1), .val (.ref b10), .val (.long (0 : Int64)), .second, .unset, .unset, .unset, .unset, .unset, .unset, .unset, .unset, .unset, .unset] [])) t
    refine XS.lconst X20.here hx rfl (hb hby at_21) ?_
    show Steps p.tables e below (T20.setTop (mkF m 22 #[.val (.int p1), .val (.int p2), .val (.int p3), .val (.int p4), .val (.int p5), .val (.ref b1), .val (.ref b10), .val (.long (0 : Int64)), .second, .unset, .unset, .unset, .unset, .unset, .unset, .unset, .unset, .unset, .unset] [(.long (0 : Int64))])) t
    refine XS.lstore X20.here hx rfl (hb hby at_22) rfl (l' := #[.val (.int p1), .val (.int p2), .val (.int p3), .val (.int p4), .val (.int p5), .val (.ref b1), .val (.ref b10), .val (.long (0 : Int64)), .second, .val (.long (0 : Int64)), .second, .unset, .unset, .unset, .unset, .unset, .unset, .unset, .unset]) rfl ?_
    show Steps p.tables e below (T20.setTop (mkF m 24 #[.val (.int p1), .val (.int p2), .val (.int p3), .val (.int p4), .val (.int p5), .val (.ref b1), .val (.ref b10), .val (.long (0 : Int64)), .second, .val (.long (0 : Int64)), .second, .unset, .unset, .unset, .unset, .unset, .unset, .unset, .unset] [])) t
    refine XS.lconst X20.here hx rfl (hb hby at_24) ?_
    show Steps p.tables e below (T20.setTop (mkF m 25 #[.val (.int p1), .val (.int p2), .val (.int p3), .val (.int p4), .val (.int p5), .val (.ref b1), .val (.ref b10), .val (.long (0 : Int64)), .second, .val (.long (0 : Int64)), .second, .unset, .unset, .unset, .unset, .unset, .unset, .unset, .unset] [(.long (0 : Int64))])) t
    refine XS.lstore X20.here hx rfl (hb hby at_25) rfl (l' := #[.val (.int p1), .val (.int p2), .val (.int p3), .val (.int p4), .val (.int p5), .val (.ref b1), .val (.ref b10), .val (.long (0 : Int64)), .second, .val (.long (0 : Int64)), .second, .val (.long (0 : Int64)), .second, .unset, .unset, .unset, .unset, .unset, .unset]) rfl ?_
    show Steps p.tables e below (T20.setTop (mkF m 27 #[.val (.int p1), .val (.int p2), .val (.int p3), .val (.int p4), .val (.int p5), .val (.ref b1), .val (.ref b10), .val (.long (0 : Int64)), .second, .val (.long (0 : Int64)), .second, .val (.long (0 : Int64)), .second, .unset, .unset, .unset, .unset, .unset, .unset] [])) t
    refine XS.lconst X20.here hx rfl (hb hby at_27) ?_
    show Steps p.tables e below (T20.setTop (mkF m 28 #[.val (.int p1), .val (.int p2), .val (.int p3), .val (.int p4), .val (.int p5), .val (.ref b1), .val (.ref b10), .val (.long (0 : Int64)), .second, .val (.long (0 : Int64)), .second, .val (.long (0 : Int64)), .second, .unset, .unset, .unset, .unset, .unset, .unset] [(.long (0 : Int64))])) t
    refine XS.lstore X20.here hx rfl (hb hby at_28) rfl (l' := #[.val (.int p1), .val (.int p2), .val (.int p3), .val (.int p4), .val (.int p5), .val (.ref b1), .val (.ref b10), .val (.long (0 : Int64)), .second, .val (.long (0 : Int64)), .second, .val (.long (0 : Int64)), .second, .val (.long (0 : Int64)), .second, .unset, .unset, .unset, .unset]) rfl ?_
    exact kt
  obtain ⟨T23, h23, lo23, ca1, sa1, X23, e23, N23, K23, Z23, Fh23_0, Fh23_1, Fh23_2, Fh23_3, Fh23_4, Fh23_5, Fh23_6, k23⟩ : ∃ (T' : State) (h' : Heap) (lo' : List Loc) (ca1 : Int64) (sa1 : Int64), Stand p l e room_1 s m #[(.int p1), (.int p2), (.int p3), (.int p4), (.int p5)] below meth c T' lo' 3 6 ∧ T'.heap = h' ∧ Fr n0 lo' ∧ Keep h0 h' [] ∧ n0 ≤ h'.size ∧ Old Z n0 h' ∧ Fld Z h' b1 "com/example/disk_to_queue/disktoqueue/bench/BodySum" "count" "J" (.long ca1) ∧ Fld Z h' b1 "com/example/disk_to_queue/disktoqueue/bench/BodySum" "sum" "J" (.long sa1) ∧ Exa Z h' b1 "com/example/disk_to_queue/disktoqueue/bench/BodySum" ∧ Fld Z h' b10 "com/example/disk_to_queue/disktoqueue/bench/BodySum" "count" "J" (.long (0 : Int64)) ∧ Fld Z h' b10 "com/example/disk_to_queue/disktoqueue/bench/BodySum" "sum" "J" (.long (0 : Int64)) ∧ Exa Z h' b10 "com/example/disk_to_queue/disktoqueue/bench/BodySum" ∧ (∀ t, Steps p.tables e below (T'.setTop (mkF m 60 #[.val (.int p1), .val (.int p2), .val (.int p3), .val (.int p4), .val (.int p5), .val (.ref b1), .val (.ref b10), .val (.long ca1), .second, .val (.long sa1), .second, .val (.long (0 : Int64)), .second, .val (.long (0 : Int64)), .second, .unset, .unset, .unset, .unset] [])) t → Steps p.tables e below (s₁.setTop (entryFrame m #[(.int p1), (.int p2), (.int p3), (.int p4), (.int p5)] maxLocals)) t) := by
    have k25 : ∀ t, Steps p.tables e below (T20.setTop (mkF m 33 #[.val (.int p1), .val (.int p2), .val (.int p3), .val (.int p4), .val (.int p5), .val (.ref b1), .val (.ref b10), .val (.long (0 : Int64)), .second, .val (.long (0 : Int64)), .second, .val (.long (0 : Int64)), .second, .val (.long (0 : Int64)), .second, .unset, .unset, .unset, .unset] [(.int (p1 &&& (1 : Int32)))])) t → Steps p.tables e below (s₁.setTop (entryFrame m #[(.int p1), (.int p2), (.int p3), (.int p4), (.int p5)] maxLocals)) t := by
      intro t kt
      refine k22 t ?_
      show Steps p.tables e below (T20.setTop (mkF m 30 #[.val (.int p1), .val (.int p2), .val (.int p3), .val (.int p4), .val (.int p5), .val (.ref b1), .val (.ref b10), .val (.long (0 : Int64)), .second, .val (.long (0 : Int64)), .second, .val (.long (0 : Int64)), .second, .val (.long (0 : Int64)), .second, .unset, .unset, .unset, .unset] [])) t
      refine XS.iloadN X20.here hx rfl (hb hby at_30) rfl ?_
      show Steps p.tables e below (T20.setTop (mkF m 31 #[.val (.int p1), .val (.int p2), .val (.int p3), .val (.int p4), .val (.int p5), .val (.ref b1), .val (.ref b10), .val (.long (0 : Int64)), .second, .val (.long (0 : Int64)), .second, .val (.long (0 : Int64)), .second, .val (.long (0 : Int64)), .second, .unset, .unset, .unset, .unset] [(.int p1)])) t
      refine XS.iconst X20.here hx rfl (hb hby at_31) ?_
      show Steps p.tables e below (T20.setTop (mkF m 32 #[.val (.int p1), .val (.int p2), .val (.int p3), .val (.int p4), .val (.int p5), .val (.ref b1), .val (.ref b10), .val (.long (0 : Int64)), .second, .val (.long (0 : Int64)), .second, .val (.long (0 : Int64)), .second, .val (.long (0 : Int64)), .second, .unset, .unset, .unset, .unset] [(.int (1 : Int32)), (.int p1)])) t
      refine XS.iand X20.here hx rfl (hb hby at_32) rfl ?_
      exact kt
    by_cases hc33_24 : (p1 &&& (1 : Int32)) = (0 : Int32)
    · have k26 : ∀ t, Steps p.tables e below (T20.setTop (mkF m 60 #[.val (.int p1), .val (.int p2), .val (.int p3), .val (.int p4), .val (.int p5), .val (.ref b1), .val (.ref b10), .val (.long (0 : Int64)), .second, .val (.long (0 : Int64)), .second, .val (.long (0 : Int64)), .second, .val (.long (0 : Int64)), .second, .unset, .unset, .unset, .unset] [])) t → Steps p.tables e below (s₁.setTop (entryFrame m #[(.int p1), (.int p2), (.int p3), (.int p4), (.int p5)] maxLocals)) t := by
        intro t kt
        refine k25 t ?_
        show Steps p.tables e below (T20.setTop (mkF m 33 #[.val (.int p1), .val (.int p2), .val (.int p3), .val (.int p4), .val (.int p5), .val (.ref b1), .val (.ref b10), .val (.long (0 : Int64)), .second, .val (.long (0 : Int64)), .second, .val (.long (0 : Int64)), .second, .val (.long (0 : Int64)), .second, .unset, .unset, .unset, .unset] [(.int (p1 &&& (1 : Int32)))])) t
        refine XS.ifYes X20.here hx rfl (pc0 := 33) (pc' := 60) rfl (hb hby at_33) rfl ((if0 _ _).trans (teq hc33_24).1) (by decide) (by decide) ?_
        exact kt
      exact ⟨T20, h10, _, (0 : Int64), (0 : Int64), X20.more (by decide) (by decide), e20, N20, K10, Z10, F12, F14, F15, F13, F16, F17, A10, k26⟩
    · have k27 : ∀ t, Steps p.tables e below (T20.setTop (mkF m 39 #[.val (.int p1), .val (.int p2), .val (.int p3), .val (.int p4), .val (.int p5), .val (.ref b1), .val (.ref b10), .val (.long (0 : Int64)), .second, .val (.long (0 : Int64)), .second, .val (.long (0 : Int64)), .second, .val (.long (0 : Int64)), .second, .unset, .unset, .unset, .unset] [(.int p2), (.ref b1)])) t → Steps p.tables e below (s₁.setTop (entryFrame m #[(.int p1), (.int p2), (.int p3), (.int p4), (.int p5)] maxLocals)) t := by
        intro t kt
        refine k25 t ?_
        show Steps p.tables e below (T20.setTop (mkF m 33 #[.val (.int p1), .val (.int p2), .val (.int p3), .val (.int p4), .val (.int p5), .val (.ref b1), .val (.ref b10), .val (.long (0 : Int64)), .second, .val (.long (0 : Int64)), .second, .val (.long (0 : Int64)), .second, .val (.long (0 : Int64)), .second, .unset, .unset, .unset, .unset] [(.int (p1 &&& (1 : Int32)))])) t
        refine XS.ifNo X20.here hx rfl (hb hby at_33) rfl ((if0 _ _).trans (feq hc33_24).1) ?_
        show Steps p.tables e below (T20.setTop (mkF m 36 #[.val (.int p1), .val (.int p2), .val (.int p3), .val (.int p4), .val (.int p5), .val (.ref b1), .val (.ref b10), .val (.long (0 : Int64)), .second, .val (.long (0 : Int64)), .second, .val (.long (0 : Int64)), .second, .val (.long (0 : Int64)), .second, .unset, .unset, .unset, .unset] [])) t
        refine XS.aload X20.here hx rfl (hb hby at_36) rfl rfl ?_
        show Steps p.tables e below (T20.setTop (mkF m 38 #[.val (.int p1), .val (.int p2), .val (.int p3), .val (.int p4), .val (.int p5), .val (.ref b1), .val (.ref b10), .val (.long (0 : Int64)), .second, .val (.long (0 : Int64)), .second, .val (.long (0 : Int64)), .second, .val (.long (0 : Int64)), .second, .unset, .unset, .unset, .unset] [(.ref b1)])) t
        refine XS.iloadN X20.here hx rfl (hb hby at_38) rfl ?_
        exact kt
      obtain ⟨_, _, ⟨T28, L28, k28c, n28⟩, -, X28, ⟨Lc28, hQ28, l28, y28, z28⟩, st28⟩ := Jvm.LawKit.callS X20 hx (y := (⟨"com/example/disk_to_queue/disktoqueue/bench/BodySumEqualsPinLaw", "body", "(I)[B"⟩ : MethodName)) hown (mvT hZ (hw _ (List.mem_of_getElem? (i := 20) rfl))) (mvT hZ (hw _ (List.mem_of_getElem? (i := 21) rfl))) (mvT hZ (hw _ (List.mem_of_getElem? (i := 22) rfl))) (mvT hZ (hw _ (List.mem_of_getElem? (i := 23) rfl))) (by decide) (backOf (W := 1) (rmB l Z a0 hw [] p2 h10 n0 Z10) hZ (hw _ (List.mem_of_getElem? (i := 23) rfl)) (hw _ (List.mem_of_getElem? (i := 22) rfl)) (by decide) (by decide)) (g := (mkF m 39 #[.val (.int p1), .val (.int p2), .val (.int p3), .val (.int p4), .val (.int p5), .val (.ref b1), .val (.ref b10), .val (.long (0 : Int64)), .second, .val (.long (0 : Int64)), .second, .val (.long (0 : Int64)), .second, .val (.long (0 : Int64)), .second, .unset, .unset, .unset, .unset] [(.int p2), (.ref b1)])) rfl (by rw [hml]; rfl) (argsL := [(.int p2)]) (rest := [(.ref b1)]) (lenOf own_pd2 rfl) rfl (by show 2 * 0 + _ ≤ _; exact Nat.le_of_eq rfl) (hb hby at_39) (fun _ _ => ⟨rfl, e20, (by decide : 2 + 1 ≤ _), (by decide : 4 + 2 ≤ _)⟩)
      dsimp only [Pt.U, Pt.locs, Pt.cells, Pt.slots] at X28 l28 y28 z28 st28 hQ28
      subst l28 y28 z28
      obtain ⟨b28, c28, vs28, rfl, N28q, K28k, s28z, A28, hv28⟩ := hQ28
      have N28 := Fr.app N20 N28q
      have g_b28 : n0 ≤ b28 := Nat.le_trans Z10 s28z
      have sz_b28 : h0.size ≤ b28 := Nat.le_trans K10.1 s28z
      have ne29 : b1 ≠ b28 := Nat.ne_of_lt (Nat.lt_of_lt_of_le F13.lt s28z)
      have ne30 : b10 ≠ b28 := Nat.ne_of_lt (Nat.lt_of_lt_of_le A10.lt s28z)
      have F31 := F12.keep K28k all0
      have F32 := F13.keep K28k
      have F33 := F14.keep K28k nin0
      have F34 := F15.keep K28k nin0
      have F35 := A10.keep K28k
      have F36 := F16.keep K28k nin0
      have F37 := F17.keep K28k nin0
      have Z38 : n0 ≤ T28.heap.size := Nat.le_trans Z10 K28k.1
      have K38 : Keep h0 T28.heap [] := K10.trans K28k all0
      have k39 : ∀ t, Steps p.tables e below (T28.setTop (mkF m 42 #[.val (.int p1), .val (.int p2), .val (.int p3), .val (.int p4), .val (.int p5), .val (.ref b1), .val (.ref b10), .val (.long (0 : Int64)), .second, .val (.long (0 : Int64)), .second, .val (.long (0 : Int64)), .second, .val (.long (0 : Int64)), .second, .unset, .unset, .unset, .unset] [(.ref b28), (.ref b1)])) t → Steps p.tables e below (s₁.setTop (entryFrame m #[(.int p1), (.int p2), (.int p3), (.int p4), (.int p5)] maxLocals)) t := fun t kt => k27 t (st28 t kt)
      obtain ⟨cq40, kq40, q40a, q40b, q40c⟩ := isOf hZ rfl F32
      obtain ⟨_, _, ⟨T40, L40, k40c, n40⟩, -, X40, ⟨Lc40, hQ40, l40, y40, z40⟩, st40⟩ := X28.virtualBack hx (y := (⟨"com/example/disk_to_queue/disktoqueue/bench/BodySum", "add", "([B)V"⟩ : MethodName)) (z := (⟨"com/example/disk_to_queue/disktoqueue/bench/BodySum", "add", "([B)V"⟩ : MethodName)) hown (mvT hZ (hw _ (List.mem_of_getElem? (i := 25) rfl))) (mvT hZ (hw _ (List.mem_of_getElem? (i := 26) rfl))) (notFace_of_selects (args := #[]) (mvT hZ (hw _ (List.mem_of_getElem? (i := 28) rfl)))) (mvT hZ (hw _ (List.mem_of_getElem? (i := 28) rfl))) (mvT hZ (hw _ (List.mem_of_getElem? (i := 27) rfl))) (by decide) (backOf (W := 0) (rmA l Z a0 hw [] b1 b28 (0 : Int64) (0 : Int64) (own_len p2) (own_b p2) c28 vs28 T28.heap n0 Z38 F33 F34 F32 A28 hv28 g_b1 (Ne.symm ne29)) hZ (hw _ (List.mem_of_getElem? (i := 29) rfl)) (hw _ (List.mem_of_getElem? (i := 2) rfl)) (by decide) (by decide)) q40a q40c (g := (mkF m 42 #[.val (.int p1), .val (.int p2), .val (.int p3), .val (.int p4), .val (.int p5), .val (.ref b1), .val (.ref b10), .val (.long (0 : Int64)), .second, .val (.long (0 : Int64)), .second, .val (.long (0 : Int64)), .second, .val (.long (0 : Int64)), .second, .unset, .unset, .unset, .unset] [(.ref b28), (.ref b1)])) rfl (by rw [hml]; rfl) (Steps.refl _) (argsL := [(.ref b28)]) (rest := []) (lenOf own_pd3 rfl) rfl (by show 2 * 0 + _ ≤ _; exact Nat.le_of_eq rfl) (hb hby at_42) (fun _ _ => ⟨rfl, rfl, (by decide : 3 + 0 ≤ _), (by decide : 6 + 0 ≤ _)⟩)
      dsimp only [Pt.U, Pt.locs, Pt.cells, Pt.slots] at X40 l40 y40 z40 st40 hQ40
      subst l40 y40 z40
      obtain ⟨rfl, N40q, K40k, -, Fc40, Fs40⟩ := hQ40
      have N40 := Fr.app N28 N40q
      have F41 := F31.keep K40k (allS g_b1 all0)
      have F42 := F32.keep K40k
      have F45 := F35.keep K40k
      have F46 := F36.keep K40k (ninS (Ne.symm ne11) nin0)
      have F47 := F37.keep K40k (ninS (Ne.symm ne11) nin0)
      have F48 := A28.keep K40k (ninS (Ne.symm ne29) nin0)
      have Z49 : n0 ≤ T40.heap.size := Nat.le_trans Z38 K40k.1
      have K49 : Keep h0 T40.heap [] := K38.trans K40k (allS (Or.inr sz_b1) all0)
      have k50 : ∀ t, Steps p.tables e below (T40.setTop (mkF m 45 #[.val (.int p1), .val (.int p2), .val (.int p3), .val (.int p4), .val (.int p5), .val (.ref b1), .val (.ref b10), .val (.long (0 : Int64)), .second, .val (.long (0 : Int64)), .second, .val (.long (0 : Int64)), .second, .val (.long (0 : Int64)), .second, .unset, .unset, .unset, .unset] [])) t → Steps p.tables e below (s₁.setTop (entryFrame m #[(.int p1), (.int p2), (.int p3), (.int p4), (.int p5)] maxLocals)) t := fun t kt => k39 t (st40.trans kt)
      have k51 : ∀ t, Steps p.tables e below (T40.setTop (mkF m 54 #[.val (.int p1), .val (.int p2), .val (.int p3), .val (.int p4), .val (.int p5), .val (.ref b1), .val (.ref b10), .val (.long ((0 : Int64) + (1 : Int64))), .second, .val (.long (0 : Int64)), .second, .val (.long (0 : Int64)), .second, .val (.long (0 : Int64)), .second, .unset, .unset, .unset, .unset] [(.int p2), (.long (0 : Int64))])) t → Steps p.tables e below (s₁.setTop (entryFrame m #[(.int p1), (.int p2), (.int p3), (.int p4), (.int p5)] maxLocals)) t := by
        intro t kt
        refine k50 t ?_
        show Steps p.tables e below (T40.setTop (mkF m 45 #[.val (.int p1), .val (.int p2), .val (.int p3), .val (.int p4), .val (.int p5), .val (.ref b1), .val (.ref b10), .val (.long (0 : Int64)), .second, .val (.long (0 : Int64)), .second, .val (.long (0 : Int64)), .second, .val (.long (0 : Int64)), .second, .unset, .unset, .unset, .unset] [])) t
        refine XS.lload X40.here hx rfl (hb hby at_45) rfl ?_
        show Steps p.tables e below (T40.setTop (mkF m 47 #[.val (.int p1), .val (.int p2), .val (.int p3), .val (.int p4), .val (.int p5), .val (.ref b1), .val (.ref b10), .val (.long (0 : Int64)), .second, .val (.long (0 : Int64)), .second, .val (.long (0 : Int64)), .second, .val (.long (0 : Int64)), .second, .unset, .unset, .unset, .unset] [(.long (0 : Int64))])) t
        refine XS.lconst X40.here hx rfl (hb hby at_47) ?_
        show Steps p.tables e below (T40.setTop (mkF m 48 #[.val (.int p1), .val (.int p2), .val (.int p3), .val (.int p4), .val (.int p5), .val (.ref b1), .val (.ref b10), .val (.long (0 : Int64)), .second, .val (.long (0 : Int64)), .second, .val (.long (0 : Int64)), .second, .val (.long (0 : Int64)), .second, .unset, .unset, .unset, .unset] [(.long (1 : Int64)), (.long (0 : Int64))])) t
        refine XS.ladd X40.here hx rfl (hb hby at_48) rfl ?_
        show Steps p.tables e below (T40.setTop (mkF m 49 #[.val (.int p1), .val (.int p2), .val (.int p3), .val (.int p4), .val (.int p5), .val (.ref b1), .val (.ref b10), .val (.long (0 : Int64)), .second, .val (.long (0 : Int64)), .second, .val (.long (0 : Int64)), .second, .val (.long (0 : Int64)), .second, .unset, .unset, .unset, .unset] [(.long ((0 : Int64) + (1 : Int64)))])) t
        refine XS.lstore X40.here hx rfl (hb hby at_49) rfl (l' := #[.val (.int p1), .val (.int p2), .val (.int p3), .val (.int p4), .val (.int p5), .val (.ref b1), .val (.ref b10), .val (.long ((0 : Int64) + (1 : Int64))), .second, .val (.long (0 : Int64)), .second, .val (.long (0 : Int64)), .second, .val (.long (0 : Int64)), .second, .unset, .unset, .unset, .unset]) rfl ?_
        show Steps p.tables e below (T40.setTop (mkF m 51 #[.val (.int p1), .val (.int p2), .val (.int p3), .val (.int p4), .val (.int p5), .val (.ref b1), .val (.ref b10), .val (.long ((0 : Int64) + (1 : Int64))), .second, .val (.long (0 : Int64)), .second, .val (.long (0 : Int64)), .second, .val (.long (0 : Int64)), .second, .unset, .unset, .unset, .unset] [])) t
        refine XS.lload X40.here hx rfl (hb hby at_51) rfl ?_
        show Steps p.tables e below (T40.setTop (mkF m 53 #[.val (.int p1), .val (.int p2), .val (.int p3), .val (.int p4), .val (.int p5), .val (.ref b1), .val (.ref b10), .val (.long ((0 : Int64) + (1 : Int64))), .second, .val (.long (0 : Int64)), .second, .val (.long (0 : Int64)), .second, .val (.long (0 : Int64)), .second, .unset, .unset, .unset, .unset] [(.long (0 : Int64))])) t
        refine XS.iloadN X40.here hx rfl (hb hby at_53) rfl ?_
        exact kt
      obtain ⟨_, _, ⟨T52, L52, k52c, n52⟩, -, X52, ⟨Lc52, hQ52, l52, y52, z52⟩, st52⟩ := Jvm.LawKit.callS X40 hx (y := (⟨"com/example/disk_to_queue/disktoqueue/bench/BodySumEqualsPinLaw", "weight", "(I)J"⟩ : MethodName)) hown (mvT hZ (hw _ (List.mem_of_getElem? (i := 30) rfl))) (mvT hZ (hw _ (List.mem_of_getElem? (i := 31) rfl))) (mvT hZ (hw _ (List.mem_of_getElem? (i := 22) rfl))) (mvT hZ (hw _ (List.mem_of_getElem? (i := 32) rfl))) (by decide) (backOf (W := 2) (rmW l Z a0 hw [] p2 T40.heap n0 Z49) hZ (hw _ (List.mem_of_getElem? (i := 32) rfl)) (hw _ (List.mem_of_getElem? (i := 22) rfl)) (by decide) (by decide)) (g := (mkF m 54 #[.val (.int p1), .val (.int p2), .val (.int p3), .val (.int p4), .val (.int p5), .val (.ref b1), .val (.ref b10), .val (.long ((0 : Int64) + (1 : Int64))), .second, .val (.long (0 : Int64)), .second, .val (.long (0 : Int64)), .second, .val (.long (0 : Int64)), .second, .unset, .unset, .unset, .unset] [(.int p2), (.long (0 : Int64))])) rfl (by rw [hml]; rfl) (argsL := [(.int p2)]) (rest := [(.long (0 : Int64))]) (lenOf own_pd4 rfl) rfl (by show 2 * 0 + _ ≤ _; exact Nat.le_of_eq rfl) (hb hby at_54) (fun _ _ => ⟨rfl, rfl, (by decide : 3 + 0 ≤ _), (by decide : 6 + 0 ≤ _)⟩)
      dsimp only [Pt.U, Pt.locs, Pt.cells, Pt.slots] at X52 l52 y52 z52 st52 hQ52
      subst l52 y52 z52
      obtain ⟨rfl, N52q, e52⟩ := hQ52
      have N52 := Fr.app N40 N52q
      have k53 : ∀ t, Steps p.tables e below (T52.setTop (mkF m 57 #[.val (.int p1), .val (.int p2), .val (.int p3), .val (.int p4), .val (.int p5), .val (.ref b1), .val (.ref b10), .val (.long ((0 : Int64) + (1 : Int64))), .second, .val (.long (0 : Int64)), .second, .val (.long (0 : Int64)), .second, .val (.long (0 : Int64)), .second, .unset, .unset, .unset, .unset] [(.long (own_w p2)), (.long (0 : Int64))])) t → Steps p.tables e below (s₁.setTop (entryFrame m #[(.int p1), (.int p2), (.int p3), (.int p4), (.int p5)] maxLocals)) t := fun t kt => k51 t (st52 t kt)
      have k54 : ∀ t, Steps p.tables e below (T52.setTop (mkF m 60 #[.val (.int p1), .val (.int p2), .val (.int p3), .val (.int p4), .val (.int p5), .val (.ref b1), .val (.ref b10), .val (.long ((0 : Int64) + (1 : Int64))), .second, .val (.long ((0 : Int64) + (own_w p2))), .second, .val (.long (0 : Int64)), .second, .val (.long (0 : Int64)), .second, .unset, .unset, .unset, .unset] [])) t → Steps p.tables e below (s₁.setTop (entryFrame m #[(.int p1), (.int p2), (.int p3), (.int p4), (.int p5)] maxLocals)) t := by
        intro t kt
        refine k53 t ?_
        show Steps p.tables e below (T52.setTop (mkF m 57 #[.val (.int p1), .val (.int p2), .val (.int p3), .val (.int p4), .val (.int p5), .val (.ref b1), .val (.ref b10), .val (.long ((0 : Int64) + (1 : Int64))), .second, .val (.long (0 : Int64)), .second, .val (.long (0 : Int64)), .second, .val (.long (0 : Int64)), .second, .unset, .unset, .unset, .unset] [(.long (own_w p2)), (.long (0 : Int64))])) t
        refine XS.ladd X52.here hx rfl (hb hby at_57) rfl ?_
        show Steps p.tables e below (T52.setTop (mkF m 58 #[.val (.int p1), .val (.int p2), .val (.int p3), .val (.int p4), .val (.int p5), .val (.ref b1), .val (.ref b10), .val (.long ((0 : Int64) + (1 : Int64))), .second, .val (.long (0 : Int64)), .second, .val (.long (0 : Int64)), .second, .val (.long (0 : Int64)), .second, .unset, .unset, .unset, .unset] [(.long ((0 : Int64) + (own_w p2)))])) t
        refine XS.lstore X52.here hx rfl (hb hby at_58) rfl (l' := #[.val (.int p1), .val (.int p2), .val (.int p3), .val (.int p4), .val (.int p5), .val (.ref b1), .val (.ref b10), .val (.long ((0 : Int64) + (1 : Int64))), .second, .val (.long ((0 : Int64) + (own_w p2))), .second, .val (.long (0 : Int64)), .second, .val (.long (0 : Int64)), .second, .unset, .unset, .unset, .unset]) rfl ?_
        exact kt
      exact ⟨T52, T40.heap, _, ((0 : Int64) + (1 : Int64)), ((0 : Int64) + (own_w p2)), X52.more (by decide) (by decide), e52, N52, K49, Z49, F41, Fc40, (by rw [← own_aw]; exact Fs40), F42, F46, F47, F45, k54⟩
  obtain ⟨T55, h55, lo55, ca2, sa2, X55, e55, N55, K55, Z55, Fh55_0, Fh55_1, Fh55_2, Fh55_3, Fh55_4, Fh55_5, Fh55_6, k55⟩ : ∃ (T' : State) (h' : Heap) (lo' : List Loc) (ca2 : Int64) (sa2 : Int64), Stand p l e room_1 s m #[(.int p1), (.int p2), (.int p3), (.int p4), (.int p5)] below meth c T' lo' 4 8 ∧ T'.heap = h' ∧ Fr n0 lo' ∧ Keep h0 h' [] ∧ n0 ≤ h'.size ∧ Old Z n0 h' ∧ Fld Z h' b1 "com/example/disk_to_queue/disktoqueue/bench/BodySum" "count" "J" (.long ca2) ∧ Fld Z h' b1 "com/example/disk_to_queue/disktoqueue/bench/BodySum" "sum" "J" (.long sa2) ∧ Exa Z h' b1 "com/example/disk_to_queue/disktoqueue/bench/BodySum" ∧ Fld Z h' b10 "com/example/disk_to_queue/disktoqueue/bench/BodySum" "count" "J" (.long (0 : Int64)) ∧ Fld Z h' b10 "com/example/disk_to_queue/disktoqueue/bench/BodySum" "sum" "J" (.long (0 : Int64)) ∧ Exa Z h' b10 "com/example/disk_to_queue/disktoqueue/bench/BodySum" ∧ (∀ t, Steps p.tables e below (T'.setTop (mkF m 90 #[.val (.int p1), .val (.int p2), .val (.int p3), .val (.int p4), .val (.int p5), .val (.ref b1), .val (.ref b10), .val (.long ca2), .second, .val (.long sa2), .second, .val (.long (0 : Int64)), .second, .val (.long (0 : Int64)), .second, .unset, .unset, .unset, .unset] [])) t → Steps p.tables e below (s₁.setTop (entryFrame m #[(.int p1), (.int p2), (.int p3), (.int p4), (.int p5)] maxLocals)) t) := by
    have k57 : ∀ t, Steps p.tables e below (T23.setTop (mkF m 63 #[.val (.int p1), .val (.int p2), .val (.int p3), .val (.int p4), .val (.int p5), .val (.ref b1), .val (.ref b10), .val (.long ca1), .second, .val (.long sa1), .second, .val (.long (0 : Int64)), .second, .val (.long (0 : Int64)), .second, .unset, .unset, .unset, .unset] [(.int (p1 &&& (2 : Int32)))])) t → Steps p.tables e below (s₁.setTop (entryFrame m #[(.int p1), (.int p2), (.int p3), (.int p4), (.int p5)] maxLocals)) t := by
      intro t kt
      refine k23 t ?_
      show Steps p.tables e below (T23.setTop (mkF m 60 #[.val (.int p1), .val (.int p2), .val (.int p3), .val (.int p4), .val (.int p5), .val (.ref b1), .val (.ref b10), .val (.long ca1), .second, .val (.long sa1), .second, .val (.long (0 : Int64)), .second, .val (.long (0 : Int64)), .second, .unset, .unset, .unset, .unset] [])) t
      refine XS.iloadN X23.here hx rfl (hb hby at_60) rfl ?_
      show Steps p.tables e below (T23.setTop (mkF m 61 #[.val (.int p1), .val (.int p2), .val (.int p3), .val (.int p4), .val (.int p5), .val (.ref b1), .val (.ref b10), .val (.long ca1), .second, .val (.long sa1), .second, .val (.long (0 : Int64)), .second, .val (.long (0 : Int64)), .second, .unset, .unset, .unset, .unset] [(.int p1)])) t
      refine XS.iconst X23.here hx rfl (hb hby at_61) ?_
      show Steps p.tables e below (T23.setTop (mkF m 62 #[.val (.int p1), .val (.int p2), .val (.int p3), .val (.int p4), .val (.int p5), .val (.ref b1), .val (.ref b10), .val (.long ca1), .second, .val (.long sa1), .second, .val (.long (0 : Int64)), .second, .val (.long (0 : Int64)), .second, .unset, .unset, .unset, .unset] [(.int (2 : Int32)), (.int p1)])) t
      refine XS.iand X23.here hx rfl (hb hby at_62) rfl ?_
      exact kt
    by_cases hc63_56 : (p1 &&& (2 : Int32)) = (0 : Int32)
    · have k58 : ∀ t, Steps p.tables e below (T23.setTop (mkF m 90 #[.val (.int p1), .val (.int p2), .val (.int p3), .val (.int p4), .val (.int p5), .val (.ref b1), .val (.ref b10), .val (.long ca1), .second, .val (.long sa1), .second, .val (.long (0 : Int64)), .second, .val (.long (0 : Int64)), .second, .unset, .unset, .unset, .unset] [])) t → Steps p.tables e below (s₁.setTop (entryFrame m #[(.int p1), (.int p2), (.int p3), (.int p4), (.int p5)] maxLocals)) t := by
        intro t kt
        refine k57 t ?_
        show Steps p.tables e below (T23.setTop (mkF m 63 #[.val (.int p1), .val (.int p2), .val (.int p3), .val (.int p4), .val (.int p5), .val (.ref b1), .val (.ref b10), .val (.long ca1), .second, .val (.long sa1), .second, .val (.long (0 : Int64)), .second, .val (.long (0 : Int64)), .second, .unset, .unset, .unset, .unset] [(.int (p1 &&& (2 : Int32)))])) t
        refine XS.ifYes X23.here hx rfl (pc0 := 63) (pc' := 90) rfl (hb hby at_63) rfl ((if0 _ _).trans (teq hc63_56).1) (by decide) (by decide) ?_
        exact kt
      exact ⟨T23, h23, _, ca1, sa1, X23.more (by decide) (by decide), e23, N23, K23, Z23, Fh23_0, Fh23_1, Fh23_2, Fh23_3, Fh23_4, Fh23_5, Fh23_6, k58⟩
    · have k59 : ∀ t, Steps p.tables e below (T23.setTop (mkF m 69 #[.val (.int p1), .val (.int p2), .val (.int p3), .val (.int p4), .val (.int p5), .val (.ref b1), .val (.ref b10), .val (.long ca1), .second, .val (.long sa1), .second, .val (.long (0 : Int64)), .second, .val (.long (0 : Int64)), .second, .unset, .unset, .unset, .unset] [(.int p3), (.ref b1)])) t → Steps p.tables e below (s₁.setTop (entryFrame m #[(.int p1), (.int p2), (.int p3), (.int p4), (.int p5)] maxLocals)) t := by
        intro t kt
        refine k57 t ?_
        show Steps p.tables e below (T23.setTop (mkF m 63 #[.val (.int p1), .val (.int p2), .val (.int p3), .val (.int p4), .val (.int p5), .val (.ref b1), .val (.ref b10), .val (.long ca1), .second, .val (.long sa1), .second, .val (.long (0 : Int64)), .second, .val (.long (0 : Int64)), .second, .unset, .unset, .unset, .unset] [(.int (p1 &&& (2 : Int32)))])) t
        refine XS.ifNo X23.here hx rfl (hb hby at_63) rfl ((if0 _ _).trans (feq hc63_56).1) ?_
        show Steps p.tables e below (T23.setTop (mkF m 66 #[.val (.int p1), .val (.int p2), .val (.int p3), .val (.int p4), .val (.int p5), .val (.ref b1), .val (.ref b10), .val (.long ca1), .second, .val (.long sa1), .second, .val (.long (0 : Int64)), .second, .val (.long (0 : Int64)), .second, .unset, .unset, .unset, .unset] [])) t
        refine XS.aload X23.here hx rfl (hb hby at_66) rfl rfl ?_
        show Steps p.tables e below (T23.setTop (mkF m 68 #[.val (.int p1), .val (.int p2), .val (.int p3), .val (.int p4), .val (.int p5), .val (.ref b1), .val (.ref b10), .val (.long ca1), .second, .val (.long sa1), .second, .val (.long (0 : Int64)), .second, .val (.long (0 : Int64)), .second, .unset, .unset, .unset, .unset] [(.ref b1)])) t
        refine XS.iloadN X23.here hx rfl (hb hby at_68) rfl ?_
        exact kt
      obtain ⟨_, _, ⟨T60, L60, k60c, n60⟩, -, X60, ⟨Lc60, hQ60, l60, y60, z60⟩, st60⟩ := Jvm.LawKit.callS X23 hx (y := (⟨"com/example/disk_to_queue/disktoqueue/bench/BodySumEqualsPinLaw", "body", "(I)[B"⟩ : MethodName)) hown (mvT hZ (hw _ (List.mem_of_getElem? (i := 20) rfl))) (mvT hZ (hw _ (List.mem_of_getElem? (i := 21) rfl))) (mvT hZ (hw _ (List.mem_of_getElem? (i := 22) rfl))) (mvT hZ (hw _ (List.mem_of_getElem? (i := 23) rfl))) (by decide) (backOf (W := 1) (rmB l Z a0 hw [] p3 h23 n0 Z23) hZ (hw _ (List.mem_of_getElem? (i := 23) rfl)) (hw _ (List.mem_of_getElem? (i := 22) rfl)) (by decide) (by decide)) (g := (mkF m 69 #[.val (.int p1), .val (.int p2), .val (.int p3), .val (.int p4), .val (.int p5), .val (.ref b1), .val (.ref b10), .val (.long ca1), .second, .val (.long sa1), .second, .val (.long (0 : Int64)), .second, .val (.long (0 : Int64)), .second, .unset, .unset, .unset, .unset] [(.int p3), (.ref b1)])) rfl (by rw [hml]; rfl) (argsL := [(.int p3)]) (rest := [(.ref b1)]) (lenOf own_pd2 rfl) rfl (by show 2 * 0 + _ ≤ _; exact Nat.le_of_eq rfl) (hb hby at_69) (fun _ _ => ⟨rfl, e23, (by decide : 3 + 1 ≤ _), (by decide : 6 + 2 ≤ _)⟩)
      dsimp only [Pt.U, Pt.locs, Pt.cells, Pt.slots] at X60 l60 y60 z60 st60 hQ60
      subst l60 y60 z60
      obtain ⟨b60, c60, vs60, rfl, N60q, K60k, s60z, A60, hv60⟩ := hQ60
      have N60 := Fr.app N23 N60q
      have g_b60 : n0 ≤ b60 := Nat.le_trans Z23 s60z
      have sz_b60 : h0.size ≤ b60 := Nat.le_trans K23.1 s60z
      have ne61 : b1 ≠ b60 := Nat.ne_of_lt (Nat.lt_of_lt_of_le Fh23_1.lt s60z)
      have ne62 : b10 ≠ b60 := Nat.ne_of_lt (Nat.lt_of_lt_of_le Fh23_4.lt s60z)
      have F63 := Fh23_0.keep K60k all0
      have F64 := Fh23_1.keep K60k nin0
      have F65 := Fh23_2.keep K60k nin0
      have F66 := Fh23_3.keep K60k
      have F67 := Fh23_4.keep K60k nin0
      have F68 := Fh23_5.keep K60k nin0
      have F69 := Fh23_6.keep K60k
      have Z70 : n0 ≤ T60.heap.size := Nat.le_trans Z23 K60k.1
      have K70 : Keep h0 T60.heap [] := K23.trans K60k all0
      have k71 : ∀ t, Steps p.tables e below (T60.setTop (mkF m 72 #[.val (.int p1), .val (.int p2), .val (.int p3), .val (.int p4), .val (.int p5), .val (.ref b1), .val (.ref b10), .val (.long ca1), .second, .val (.long sa1), .second, .val (.long (0 : Int64)), .second, .val (.long (0 : Int64)), .second, .unset, .unset, .unset, .unset] [(.ref b60), (.ref b1)])) t → Steps p.tables e below (s₁.setTop (entryFrame m #[(.int p1), (.int p2), (.int p3), (.int p4), (.int p5)] maxLocals)) t := fun t kt => k59 t (st60 t kt)
      obtain ⟨cq72, kq72, q72a, q72b, q72c⟩ := isOf hZ rfl F66
      obtain ⟨_, _, ⟨T72, L72, k72c, n72⟩, -, X72, ⟨Lc72, hQ72, l72, y72, z72⟩, st72⟩ := X60.virtualBack hx (y := (⟨"com/example/disk_to_queue/disktoqueue/bench/BodySum", "add", "([B)V"⟩ : MethodName)) (z := (⟨"com/example/disk_to_queue/disktoqueue/bench/BodySum", "add", "([B)V"⟩ : MethodName)) hown (mvT hZ (hw _ (List.mem_of_getElem? (i := 25) rfl))) (mvT hZ (hw _ (List.mem_of_getElem? (i := 26) rfl))) (notFace_of_selects (args := #[]) (mvT hZ (hw _ (List.mem_of_getElem? (i := 28) rfl)))) (mvT hZ (hw _ (List.mem_of_getElem? (i := 28) rfl))) (mvT hZ (hw _ (List.mem_of_getElem? (i := 27) rfl))) (by decide) (backOf (W := 0) (rmA l Z a0 hw [] b1 b60 ca1 sa1 (own_len p3) (own_b p3) c60 vs60 T60.heap n0 Z70 F64 F65 F66 A60 hv60 g_b1 (Ne.symm ne61)) hZ (hw _ (List.mem_of_getElem? (i := 29) rfl)) (hw _ (List.mem_of_getElem? (i := 2) rfl)) (by decide) (by decide)) q72a q72c (g := (mkF m 72 #[.val (.int p1), .val (.int p2), .val (.int p3), .val (.int p4), .val (.int p5), .val (.ref b1), .val (.ref b10), .val (.long ca1), .second, .val (.long sa1), .second, .val (.long (0 : Int64)), .second, .val (.long (0 : Int64)), .second, .unset, .unset, .unset, .unset] [(.ref b60), (.ref b1)])) rfl (by rw [hml]; rfl) (Steps.refl _) (argsL := [(.ref b60)]) (rest := []) (lenOf own_pd3 rfl) rfl (by show 2 * 0 + _ ≤ _; exact Nat.le_of_eq rfl) (hb hby at_72) (fun _ _ => ⟨rfl, rfl, (by decide : 4 + 0 ≤ _), (by decide : 8 + 0 ≤ _)⟩)
      dsimp only [Pt.U, Pt.locs, Pt.cells, Pt.slots] at X72 l72 y72 z72 st72 hQ72
      subst l72 y72 z72
      obtain ⟨rfl, N72q, K72k, -, Fc72, Fs72⟩ := hQ72
      have N72 := Fr.app N60 N72q
      have F73 := F63.keep K72k (allS g_b1 all0)
      have F76 := F66.keep K72k
      have F77 := F67.keep K72k (ninS (Ne.symm ne11) nin0)
      have F78 := F68.keep K72k (ninS (Ne.symm ne11) nin0)
      have F79 := F69.keep K72k
      have F80 := A60.keep K72k (ninS (Ne.symm ne61) nin0)
      have Z81 : n0 ≤ T72.heap.size := Nat.le_trans Z70 K72k.1
      have K81 : Keep h0 T72.heap [] := K70.trans K72k (allS (Or.inr sz_b1) all0)
      have k82 : ∀ t, Steps p.tables e below (T72.setTop (mkF m 75 #[.val (.int p1), .val (.int p2), .val (.int p3), .val (.int p4), .val (.int p5), .val (.ref b1), .val (.ref b10), .val (.long ca1), .second, .val (.long sa1), .second, .val (.long (0 : Int64)), .second, .val (.long (0 : Int64)), .second, .unset, .unset, .unset, .unset] [])) t → Steps p.tables e below (s₁.setTop (entryFrame m #[(.int p1), (.int p2), (.int p3), (.int p4), (.int p5)] maxLocals)) t := fun t kt => k71 t (st72.trans kt)
      have k83 : ∀ t, Steps p.tables e below (T72.setTop (mkF m 84 #[.val (.int p1), .val (.int p2), .val (.int p3), .val (.int p4), .val (.int p5), .val (.ref b1), .val (.ref b10), .val (.long (ca1 + (1 : Int64))), .second, .val (.long sa1), .second, .val (.long (0 : Int64)), .second, .val (.long (0 : Int64)), .second, .unset, .unset, .unset, .unset] [(.int p3), (.long sa1)])) t → Steps p.tables e below (s₁.setTop (entryFrame m #[(.int p1), (.int p2), (.int p3), (.int p4), (.int p5)] maxLocals)) t := by
        intro t kt
        refine k82 t ?_
        show Steps p.tables e below (T72.setTop (mkF m 75 #[.val (.int p1), .val (.int p2), .val (.int p3), .val (.int p4), .val (.int p5), .val (.ref b1), .val (.ref b10), .val (.long ca1), .second, .val (.long sa1), .second, .val (.long (0 : Int64)), .second, .val (.long (0 : Int64)), .second, .unset, .unset, .unset, .unset] [])) t
        refine XS.lload X72.here hx rfl (hb hby at_75) rfl ?_
        show Steps p.tables e below (T72.setTop (mkF m 77 #[.val (.int p1), .val (.int p2), .val (.int p3), .val (.int p4), .val (.int p5), .val (.ref b1), .val (.ref b10), .val (.long ca1), .second, .val (.long sa1), .second, .val (.long (0 : Int64)), .second, .val (.long (0 : Int64)), .second, .unset, .unset, .unset, .unset] [(.long ca1)])) t
        refine XS.lconst X72.here hx rfl (hb hby at_77) ?_
        show Steps p.tables e below (T72.setTop (mkF m 78 #[.val (.int p1), .val (.int p2), .val (.int p3), .val (.int p4), .val (.int p5), .val (.ref b1), .val (.ref b10), .val (.long ca1), .second, .val (.long sa1), .second, .val (.long (0 : Int64)), .second, .val (.long (0 : Int64)), .second, .unset, .unset, .unset, .unset] [(.long (1 : Int64)), (.long ca1)])) t
        refine XS.ladd X72.here hx rfl (hb hby at_78) rfl ?_
        show Steps p.tables e below (T72.setTop (mkF m 79 #[.val (.int p1), .val (.int p2), .val (.int p3), .val (.int p4), .val (.int p5), .val (.ref b1), .val (.ref b10), .val (.long ca1), .second, .val (.long sa1), .second, .val (.long (0 : Int64)), .second, .val (.long (0 : Int64)), .second, .unset, .unset, .unset, .unset] [(.long (ca1 + (1 : Int64)))])) t
        refine XS.lstore X72.here hx rfl (hb hby at_79) rfl (l' := #[.val (.int p1), .val (.int p2), .val (.int p3), .val (.int p4), .val (.int p5), .val (.ref b1), .val (.ref b10), .val (.long (ca1 + (1 : Int64))), .second, .val (.long sa1), .second, .val (.long (0 : Int64)), .second, .val (.long (0 : Int64)), .second, .unset, .unset, .unset, .unset]) rfl ?_
        show Steps p.tables e below (T72.setTop (mkF m 81 #[.val (.int p1), .val (.int p2), .val (.int p3), .val (.int p4), .val (.int p5), .val (.ref b1), .val (.ref b10), .val (.long (ca1 + (1 : Int64))), .second, .val (.long sa1), .second, .val (.long (0 : Int64)), .second, .val (.long (0 : Int64)), .second, .unset, .unset, .unset, .unset] [])) t
        refine XS.lload X72.here hx rfl (hb hby at_81) rfl ?_
        show Steps p.tables e below (T72.setTop (mkF m 83 #[.val (.int p1), .val (.int p2), .val (.int p3), .val (.int p4), .val (.int p5), .val (.ref b1), .val (.ref b10), .val (.long (ca1 + (1 : Int64))), .second, .val (.long sa1), .second, .val (.long (0 : Int64)), .second, .val (.long (0 : Int64)), .second, .unset, .unset, .unset, .unset] [(.long sa1)])) t
        refine XS.iloadN X72.here hx rfl (hb hby at_83) rfl ?_
        exact kt
      obtain ⟨_, _, ⟨T84, L84, k84c, n84⟩, -, X84, ⟨Lc84, hQ84, l84, y84, z84⟩, st84⟩ := Jvm.LawKit.callS X72 hx (y := (⟨"com/example/disk_to_queue/disktoqueue/bench/BodySumEqualsPinLaw", "weight", "(I)J"⟩ : MethodName)) hown (mvT hZ (hw _ (List.mem_of_getElem? (i := 30) rfl))) (mvT hZ (hw _ (List.mem_of_getElem? (i := 31) rfl))) (mvT hZ (hw _ (List.mem_of_getElem? (i := 22) rfl))) (mvT hZ (hw _ (List.mem_of_getElem? (i := 32) rfl))) (by decide) (backOf (W := 2) (rmW l Z a0 hw [] p3 T72.heap n0 Z81) hZ (hw _ (List.mem_of_getElem? (i := 32) rfl)) (hw _ (List.mem_of_getElem? (i := 22) rfl)) (by decide) (by decide)) (g := (mkF m 84 #[.val (.int p1), .val (.int p2), .val (.int p3), .val (.int p4), .val (.int p5), .val (.ref b1), .val (.ref b10), .val (.long (ca1 + (1 : Int64))), .second, .val (.long sa1), .second, .val (.long (0 : Int64)), .second, .val (.long (0 : Int64)), .second, .unset, .unset, .unset, .unset] [(.int p3), (.long sa1)])) rfl (by rw [hml]; rfl) (argsL := [(.int p3)]) (rest := [(.long sa1)]) (lenOf own_pd4 rfl) rfl (by show 2 * 0 + _ ≤ _; exact Nat.le_of_eq rfl) (hb hby at_84) (fun _ _ => ⟨rfl, rfl, (by decide : 4 + 0 ≤ _), (by decide : 8 + 0 ≤ _)⟩)
      dsimp only [Pt.U, Pt.locs, Pt.cells, Pt.slots] at X84 l84 y84 z84 st84 hQ84
      subst l84 y84 z84
      obtain ⟨rfl, N84q, e84⟩ := hQ84
      have N84 := Fr.app N72 N84q
      have k85 : ∀ t, Steps p.tables e below (T84.setTop (mkF m 87 #[.val (.int p1), .val (.int p2), .val (.int p3), .val (.int p4), .val (.int p5), .val (.ref b1), .val (.ref b10), .val (.long (ca1 + (1 : Int64))), .second, .val (.long sa1), .second, .val (.long (0 : Int64)), .second, .val (.long (0 : Int64)), .second, .unset, .unset, .unset, .unset] [(.long (own_w p3)), (.long sa1)])) t → Steps p.tables e below (s₁.setTop (entryFrame m #[(.int p1), (.int p2), (.int p3), (.int p4), (.int p5)] maxLocals)) t := fun t kt => k83 t (st84 t kt)
      have k86 : ∀ t, Steps p.tables e below (T84.setTop (mkF m 90 #[.val (.int p1), .val (.int p2), .val (.int p3), .val (.int p4), .val (.int p5), .val (.ref b1), .val (.ref b10), .val (.long (ca1 + (1 : Int64))), .second, .val (.long (sa1 + (own_w p3))), .second, .val (.long (0 : Int64)), .second, .val (.long (0 : Int64)), .second, .unset, .unset, .unset, .unset] [])) t → Steps p.tables e below (s₁.setTop (entryFrame m #[(.int p1), (.int p2), (.int p3), (.int p4), (.int p5)] maxLocals)) t := by
        intro t kt
        refine k85 t ?_
        show Steps p.tables e below (T84.setTop (mkF m 87 #[.val (.int p1), .val (.int p2), .val (.int p3), .val (.int p4), .val (.int p5), .val (.ref b1), .val (.ref b10), .val (.long (ca1 + (1 : Int64))), .second, .val (.long sa1), .second, .val (.long (0 : Int64)), .second, .val (.long (0 : Int64)), .second, .unset, .unset, .unset, .unset] [(.long (own_w p3)), (.long sa1)])) t
        refine XS.ladd X84.here hx rfl (hb hby at_87) rfl ?_
        show Steps p.tables e below (T84.setTop (mkF m 88 #[.val (.int p1), .val (.int p2), .val (.int p3), .val (.int p4), .val (.int p5), .val (.ref b1), .val (.ref b10), .val (.long (ca1 + (1 : Int64))), .second, .val (.long sa1), .second, .val (.long (0 : Int64)), .second, .val (.long (0 : Int64)), .second, .unset, .unset, .unset, .unset] [(.long (sa1 + (own_w p3)))])) t
        refine XS.lstore X84.here hx rfl (hb hby at_88) rfl (l' := #[.val (.int p1), .val (.int p2), .val (.int p3), .val (.int p4), .val (.int p5), .val (.ref b1), .val (.ref b10), .val (.long (ca1 + (1 : Int64))), .second, .val (.long (sa1 + (own_w p3))), .second, .val (.long (0 : Int64)), .second, .val (.long (0 : Int64)), .second, .unset, .unset, .unset, .unset]) rfl ?_
        exact kt
      exact ⟨T84, T72.heap, _, (ca1 + (1 : Int64)), (sa1 + (own_w p3)), X84.more (by decide) (by decide), e84, N84, K81, Z81, F73, Fc72, (by rw [← own_aw]; exact Fs72), F76, F77, F78, F79, k86⟩
  obtain ⟨T87, h87, lo87, ca3, sa3, X87, e87, N87, K87, Z87, Fh87_0, Fh87_1, Fh87_2, Fh87_3, Fh87_4, Fh87_5, Fh87_6, k87⟩ : ∃ (T' : State) (h' : Heap) (lo' : List Loc) (ca3 : Int64) (sa3 : Int64), Stand p l e room_1 s m #[(.int p1), (.int p2), (.int p3), (.int p4), (.int p5)] below meth c T' lo' 5 10 ∧ T'.heap = h' ∧ Fr n0 lo' ∧ Keep h0 h' [] ∧ n0 ≤ h'.size ∧ Old Z n0 h' ∧ Fld Z h' b1 "com/example/disk_to_queue/disktoqueue/bench/BodySum" "count" "J" (.long ca2) ∧ Fld Z h' b1 "com/example/disk_to_queue/disktoqueue/bench/BodySum" "sum" "J" (.long sa2) ∧ Exa Z h' b1 "com/example/disk_to_queue/disktoqueue/bench/BodySum" ∧ Fld Z h' b10 "com/example/disk_to_queue/disktoqueue/bench/BodySum" "count" "J" (.long ca3) ∧ Fld Z h' b10 "com/example/disk_to_queue/disktoqueue/bench/BodySum" "sum" "J" (.long sa3) ∧ Exa Z h' b10 "com/example/disk_to_queue/disktoqueue/bench/BodySum" ∧ (∀ t, Steps p.tables e below (T'.setTop (mkF m 120 #[.val (.int p1), .val (.int p2), .val (.int p3), .val (.int p4), .val (.int p5), .val (.ref b1), .val (.ref b10), .val (.long ca2), .second, .val (.long sa2), .second, .val (.long ca3), .second, .val (.long sa3), .second, .unset, .unset, .unset, .unset] [])) t → Steps p.tables e below (s₁.setTop (entryFrame m #[(.int p1), (.int p2), (.int p3), (.int p4), (.int p5)] maxLocals)) t) := by
    have k89 : ∀ t, Steps p.tables e below (T55.setTop (mkF m 93 #[.val (.int p1), .val (.int p2), .val (.int p3), .val (.int p4), .val (.int p5), .val (.ref b1), .val (.ref b10), .val (.long ca2), .second, .val (.long sa2), .second, .val (.long (0 : Int64)), .second, .val (.long (0 : Int64)), .second, .unset, .unset, .unset, .unset] [(.int (p1 &&& (4 : Int32)))])) t → Steps p.tables e below (s₁.setTop (entryFrame m #[(.int p1), (.int p2), (.int p3), (.int p4), (.int p5)] maxLocals)) t := by
      intro t kt
      refine k55 t ?_
      show Steps p.tables e below (T55.setTop (mkF m 90 #[.val (.int p1), .val (.int p2), .val (.int p3), .val (.int p4), .val (.int p5), .val (.ref b1), .val (.ref b10), .val (.long ca2), .second, .val (.long sa2), .second, .val (.long (0 : Int64)), .second, .val (.long (0 : Int64)), .second, .unset, .unset, .unset, .unset] [])) t
      refine XS.iloadN X55.here hx rfl (hb hby at_90) rfl ?_
      show Steps p.tables e below (T55.setTop (mkF m 91 #[.val (.int p1), .val (.int p2), .val (.int p3), .val (.int p4), .val (.int p5), .val (.ref b1), .val (.ref b10), .val (.long ca2), .second, .val (.long sa2), .second, .val (.long (0 : Int64)), .second, .val (.long (0 : Int64)), .second, .unset, .unset, .unset, .unset] [(.int p1)])) t
      refine XS.iconst X55.here hx rfl (hb hby at_91) ?_
      show Steps p.tables e below (T55.setTop (mkF m 92 #[.val (.int p1), .val (.int p2), .val (.int p3), .val (.int p4), .val (.int p5), .val (.ref b1), .val (.ref b10), .val (.long ca2), .second, .val (.long sa2), .second, .val (.long (0 : Int64)), .second, .val (.long (0 : Int64)), .second, .unset, .unset, .unset, .unset] [(.int (4 : Int32)), (.int p1)])) t
      refine XS.iand X55.here hx rfl (hb hby at_92) rfl ?_
      exact kt
    by_cases hc93_88 : (p1 &&& (4 : Int32)) = (0 : Int32)
    · have k90 : ∀ t, Steps p.tables e below (T55.setTop (mkF m 120 #[.val (.int p1), .val (.int p2), .val (.int p3), .val (.int p4), .val (.int p5), .val (.ref b1), .val (.ref b10), .val (.long ca2), .second, .val (.long sa2), .second, .val (.long (0 : Int64)), .second, .val (.long (0 : Int64)), .second, .unset, .unset, .unset, .unset] [])) t → Steps p.tables e below (s₁.setTop (entryFrame m #[(.int p1), (.int p2), (.int p3), (.int p4), (.int p5)] maxLocals)) t := by
        intro t kt
        refine k89 t ?_
        show Steps p.tables e below (T55.setTop (mkF m 93 #[.val (.int p1), .val (.int p2), .val (.int p3), .val (.int p4), .val (.int p5), .val (.ref b1), .val (.ref b10), .val (.long ca2), .second, .val (.long sa2), .second, .val (.long (0 : Int64)), .second, .val (.long (0 : Int64)), .second, .unset, .unset, .unset, .unset] [(.int (p1 &&& (4 : Int32)))])) t
        refine XS.ifYes X55.here hx rfl (pc0 := 93) (pc' := 120) rfl (hb hby at_93) rfl ((if0 _ _).trans (teq hc93_88).1) (by decide) (by decide) ?_
        exact kt
      exact ⟨T55, h55, _, (0 : Int64), (0 : Int64), X55.more (by decide) (by decide), e55, N55, K55, Z55, Fh55_0, Fh55_1, Fh55_2, Fh55_3, Fh55_4, Fh55_5, Fh55_6, k90⟩
    · have k91 : ∀ t, Steps p.tables e below (T55.setTop (mkF m 99 #[.val (.int p1), .val (.int p2), .val (.int p3), .val (.int p4), .val (.int p5), .val (.ref b1), .val (.ref b10), .val (.long ca2), .second, .val (.long sa2), .second, .val (.long (0 : Int64)), .second, .val (.long (0 : Int64)), .second, .unset, .unset, .unset, .unset] [(.int p4), (.ref b10)])) t → Steps p.tables e below (s₁.setTop (entryFrame m #[(.int p1), (.int p2), (.int p3), (.int p4), (.int p5)] maxLocals)) t := by
        intro t kt
        refine k89 t ?_
        show Steps p.tables e below (T55.setTop (mkF m 93 #[.val (.int p1), .val (.int p2), .val (.int p3), .val (.int p4), .val (.int p5), .val (.ref b1), .val (.ref b10), .val (.long ca2), .second, .val (.long sa2), .second, .val (.long (0 : Int64)), .second, .val (.long (0 : Int64)), .second, .unset, .unset, .unset, .unset] [(.int (p1 &&& (4 : Int32)))])) t
        refine XS.ifNo X55.here hx rfl (hb hby at_93) rfl ((if0 _ _).trans (feq hc93_88).1) ?_
        show Steps p.tables e below (T55.setTop (mkF m 96 #[.val (.int p1), .val (.int p2), .val (.int p3), .val (.int p4), .val (.int p5), .val (.ref b1), .val (.ref b10), .val (.long ca2), .second, .val (.long sa2), .second, .val (.long (0 : Int64)), .second, .val (.long (0 : Int64)), .second, .unset, .unset, .unset, .unset] [])) t
        refine XS.aload X55.here hx rfl (hb hby at_96) rfl rfl ?_
        show Steps p.tables e below (T55.setTop (mkF m 98 #[.val (.int p1), .val (.int p2), .val (.int p3), .val (.int p4), .val (.int p5), .val (.ref b1), .val (.ref b10), .val (.long ca2), .second, .val (.long sa2), .second, .val (.long (0 : Int64)), .second, .val (.long (0 : Int64)), .second, .unset, .unset, .unset, .unset] [(.ref b10)])) t
        refine XS.iloadN X55.here hx rfl (hb hby at_98) rfl ?_
        exact kt
      obtain ⟨_, _, ⟨T92, L92, k92c, n92⟩, -, X92, ⟨Lc92, hQ92, l92, y92, z92⟩, st92⟩ := Jvm.LawKit.callS X55 hx (y := (⟨"com/example/disk_to_queue/disktoqueue/bench/BodySumEqualsPinLaw", "body", "(I)[B"⟩ : MethodName)) hown (mvT hZ (hw _ (List.mem_of_getElem? (i := 20) rfl))) (mvT hZ (hw _ (List.mem_of_getElem? (i := 21) rfl))) (mvT hZ (hw _ (List.mem_of_getElem? (i := 22) rfl))) (mvT hZ (hw _ (List.mem_of_getElem? (i := 23) rfl))) (by decide) (backOf (W := 1) (rmB l Z a0 hw [] p4 h55 n0 Z55) hZ (hw _ (List.mem_of_getElem? (i := 23) rfl)) (hw _ (List.mem_of_getElem? (i := 22) rfl)) (by decide) (by decide)) (g := (mkF m 99 #[.val (.int p1), .val (.int p2), .val (.int p3), .val (.int p4), .val (.int p5), .val (.ref b1), .val (.ref b10), .val (.long ca2), .second, .val (.long sa2), .second, .val (.long (0 : Int64)), .second, .val (.long (0 : Int64)), .second, .unset, .unset, .unset, .unset] [(.int p4), (.ref b10)])) rfl (by rw [hml]; rfl) (argsL := [(.int p4)]) (rest := [(.ref b10)]) (lenOf own_pd2 rfl) rfl (by show 2 * 0 + _ ≤ _; exact Nat.le_of_eq rfl) (hb hby at_99) (fun _ _ => ⟨rfl, e55, (by decide : 4 + 1 ≤ _), (by decide : 8 + 2 ≤ _)⟩)
      dsimp only [Pt.U, Pt.locs, Pt.cells, Pt.slots] at X92 l92 y92 z92 st92 hQ92
      subst l92 y92 z92
      obtain ⟨b92, c92, vs92, rfl, N92q, K92k, s92z, A92, hv92⟩ := hQ92
      have N92 := Fr.app N55 N92q
      have g_b92 : n0 ≤ b92 := Nat.le_trans Z55 s92z
      have sz_b92 : h0.size ≤ b92 := Nat.le_trans K55.1 s92z
      have ne93 : b1 ≠ b92 := Nat.ne_of_lt (Nat.lt_of_lt_of_le Fh55_1.lt s92z)
      have ne94 : b10 ≠ b92 := Nat.ne_of_lt (Nat.lt_of_lt_of_le Fh55_4.lt s92z)
      have F95 := Fh55_0.keep K92k all0
      have F96 := Fh55_1.keep K92k nin0
      have F97 := Fh55_2.keep K92k nin0
      have F98 := Fh55_3.keep K92k
      have F99 := Fh55_4.keep K92k nin0
      have F100 := Fh55_5.keep K92k nin0
      have F101 := Fh55_6.keep K92k
      have Z102 : n0 ≤ T92.heap.size := Nat.le_trans Z55 K92k.1
      have K102 : Keep h0 T92.heap [] := K55.trans K92k all0
      have k103 : ∀ t, Steps p.tables e below (T92.setTop (mkF m 102 #[.val (.int p1), .val (.int p2), .val (.int p3), .val (.int p4), .val (.int p5), .val (.ref b1), .val (.ref b10), .val (.long ca2), .second, .val (.long sa2), .second, .val (.long (0 : Int64)), .second, .val (.long (0 : Int64)), .second, .unset, .unset, .unset, .unset] [(.ref b92), (.ref b10)])) t → Steps p.tables e below (s₁.setTop (entryFrame m #[(.int p1), (.int p2), (.int p3), (.int p4), (.int p5)] maxLocals)) t := fun t kt => k91 t (st92 t kt)
      obtain ⟨cq104, kq104, q104a, q104b, q104c⟩ := isOf hZ rfl F101
      obtain ⟨_, _, ⟨T104, L104, k104c, n104⟩, -, X104, ⟨Lc104, hQ104, l104, y104, z104⟩, st104⟩ := X92.virtualBack hx (y := (⟨"com/example/disk_to_queue/disktoqueue/bench/BodySum", "add", "([B)V"⟩ : MethodName)) (z := (⟨"com/example/disk_to_queue/disktoqueue/bench/BodySum", "add", "([B)V"⟩ : MethodName)) hown (mvT hZ (hw _ (List.mem_of_getElem? (i := 25) rfl))) (mvT hZ (hw _ (List.mem_of_getElem? (i := 26) rfl))) (notFace_of_selects (args := #[]) (mvT hZ (hw _ (List.mem_of_getElem? (i := 28) rfl)))) (mvT hZ (hw _ (List.mem_of_getElem? (i := 28) rfl))) (mvT hZ (hw _ (List.mem_of_getElem? (i := 27) rfl))) (by decide) (backOf (W := 0) (rmA l Z a0 hw [] b10 b92 (0 : Int64) (0 : Int64) (own_len p4) (own_b p4) c92 vs92 T92.heap n0 Z102 F99 F100 F101 A92 hv92 g_b10 (Ne.symm ne94)) hZ (hw _ (List.mem_of_getElem? (i := 29) rfl)) (hw _ (List.mem_of_getElem? (i := 2) rfl)) (by decide) (by decide)) q104a q104c (g := (mkF m 102 #[.val (.int p1), .val (.int p2), .val (.int p3), .val (.int p4), .val (.int p5), .val (.ref b1), .val (.ref b10), .val (.long ca2), .second, .val (.long sa2), .second, .val (.long (0 : Int64)), .second, .val (.long (0 : Int64)), .second, .unset, .unset, .unset, .unset] [(.ref b92), (.ref b10)])) rfl (by rw [hml]; rfl) (Steps.refl _) (argsL := [(.ref b92)]) (rest := []) (lenOf own_pd3 rfl) rfl (by show 2 * 0 + _ ≤ _; exact Nat.le_of_eq rfl) (hb hby at_102) (fun _ _ => ⟨rfl, rfl, (by decide : 5 + 0 ≤ _), (by decide : 10 + 0 ≤ _)⟩)
      dsimp only [Pt.U, Pt.locs, Pt.cells, Pt.slots] at X104 l104 y104 z104 st104 hQ104
      subst l104 y104 z104
      obtain ⟨rfl, N104q, K104k, -, Fc104, Fs104⟩ := hQ104
      have N104 := Fr.app N92 N104q
      have F105 := F95.keep K104k (allS g_b10 all0)
      have F106 := F96.keep K104k (ninS ne11 nin0)
      have F107 := F97.keep K104k (ninS ne11 nin0)
      have F108 := F98.keep K104k
      have F111 := F101.keep K104k
      have F112 := A92.keep K104k (ninS (Ne.symm ne94) nin0)
      have Z113 : n0 ≤ T104.heap.size := Nat.le_trans Z102 K104k.1
      have K113 : Keep h0 T104.heap [] := K102.trans K104k (allS (Or.inr sz_b10) all0)
      have k114 : ∀ t, Steps p.tables e below (T104.setTop (mkF m 105 #[.val (.int p1), .val (.int p2), .val (.int p3), .val (.int p4), .val (.int p5), .val (.ref b1), .val (.ref b10), .val (.long ca2), .second, .val (.long sa2), .second, .val (.long (0 : Int64)), .second, .val (.long (0 : Int64)), .second, .unset, .unset, .unset, .unset] [])) t → Steps p.tables e below (s₁.setTop (entryFrame m #[(.int p1), (.int p2), (.int p3), (.int p4), (.int p5)] maxLocals)) t := fun t kt => k103 t (st104.trans kt)
      have k115 : ∀ t, Steps p.tables e below (T104.setTop (mkF m 114 #[.val (.int p1), .val (.int p2), .val (.int p3), .val (.int p4), .val (.int p5), .val (.ref b1), .val (.ref b10), .val (.long ca2), .second, .val (.long sa2), .second, .val (.long ((0 : Int64) + (1 : Int64))), .second, .val (.long (0 : Int64)), .second, .unset, .unset, .unset, .unset] [(.int p4), (.long (0 : Int64))])) t → Steps p.tables e below (s₁.setTop (entryFrame m #[(.int p1), (.int p2), (.int p3), (.int p4), (.int p5)] maxLocals)) t := by
        intro t kt
        refine k114 t ?_
        show Steps p.tables e below (T104.setTop (mkF m 105 #[.val (.int p1), .val (.int p2), .val (.int p3), .val (.int p4), .val (.int p5), .val (.ref b1), .val (.ref b10), .val (.long ca2), .second, .val (.long sa2), .second, .val (.long (0 : Int64)), .second, .val (.long (0 : Int64)), .second, .unset, .unset, .unset, .unset] [])) t
        refine XS.lload X104.here hx rfl (hb hby at_105) rfl ?_
        show Steps p.tables e below (T104.setTop (mkF m 107 #[.val (.int p1), .val (.int p2), .val (.int p3), .val (.int p4), .val (.int p5), .val (.ref b1), .val (.ref b10), .val (.long ca2), .second, .val (.long sa2), .second, .val (.long (0 : Int64)), .second, .val (.long (0 : Int64)), .second, .unset, .unset, .unset, .unset] [(.long (0 : Int64))])) t
        refine XS.lconst X104.here hx rfl (hb hby at_107) ?_
        show Steps p.tables e below (T104.setTop (mkF m 108 #[.val (.int p1), .val (.int p2), .val (.int p3), .val (.int p4), .val (.int p5), .val (.ref b1), .val (.ref b10), .val (.long ca2), .second, .val (.long sa2), .second, .val (.long (0 : Int64)), .second, .val (.long (0 : Int64)), .second, .unset, .unset, .unset, .unset] [(.long (1 : Int64)), (.long (0 : Int64))])) t
        refine XS.ladd X104.here hx rfl (hb hby at_108) rfl ?_
        show Steps p.tables e below (T104.setTop (mkF m 109 #[.val (.int p1), .val (.int p2), .val (.int p3), .val (.int p4), .val (.int p5), .val (.ref b1), .val (.ref b10), .val (.long ca2), .second, .val (.long sa2), .second, .val (.long (0 : Int64)), .second, .val (.long (0 : Int64)), .second, .unset, .unset, .unset, .unset] [(.long ((0 : Int64) + (1 : Int64)))])) t
        refine XS.lstore X104.here hx rfl (hb hby at_109) rfl (l' := #[.val (.int p1), .val (.int p2), .val (.int p3), .val (.int p4), .val (.int p5), .val (.ref b1), .val (.ref b10), .val (.long ca2), .second, .val (.long sa2), .second, .val (.long ((0 : Int64) + (1 : Int64))), .second, .val (.long (0 : Int64)), .second, .unset, .unset, .unset, .unset]) rfl ?_
        show Steps p.tables e below (T104.setTop (mkF m 111 #[.val (.int p1), .val (.int p2), .val (.int p3), .val (.int p4), .val (.int p5), .val (.ref b1), .val (.ref b10), .val (.long ca2), .second, .val (.long sa2), .second, .val (.long ((0 : Int64) + (1 : Int64))), .second, .val (.long (0 : Int64)), .second, .unset, .unset, .unset, .unset] [])) t
        refine XS.lload X104.here hx rfl (hb hby at_111) rfl ?_
        show Steps p.tables e below (T104.setTop (mkF m 113 #[.val (.int p1), .val (.int p2), .val (.int p3), .val (.int p4), .val (.int p5), .val (.ref b1), .val (.ref b10), .val (.long ca2), .second, .val (.long sa2), .second, .val (.long ((0 : Int64) + (1 : Int64))), .second, .val (.long (0 : Int64)), .second, .unset, .unset, .unset, .unset] [(.long (0 : Int64))])) t
        refine XS.iloadN X104.here hx rfl (hb hby at_113) rfl ?_
        exact kt
      obtain ⟨_, _, ⟨T116, L116, k116c, n116⟩, -, X116, ⟨Lc116, hQ116, l116, y116, z116⟩, st116⟩ := Jvm.LawKit.callS X104 hx (y := (⟨"com/example/disk_to_queue/disktoqueue/bench/BodySumEqualsPinLaw", "weight", "(I)J"⟩ : MethodName)) hown (mvT hZ (hw _ (List.mem_of_getElem? (i := 30) rfl))) (mvT hZ (hw _ (List.mem_of_getElem? (i := 31) rfl))) (mvT hZ (hw _ (List.mem_of_getElem? (i := 22) rfl))) (mvT hZ (hw _ (List.mem_of_getElem? (i := 32) rfl))) (by decide) (backOf (W := 2) (rmW l Z a0 hw [] p4 T104.heap n0 Z113) hZ (hw _ (List.mem_of_getElem? (i := 32) rfl)) (hw _ (List.mem_of_getElem? (i := 22) rfl)) (by decide) (by decide)) (g := (mkF m 114 #[.val (.int p1), .val (.int p2), .val (.int p3), .val (.int p4), .val (.int p5), .val (.ref b1), .val (.ref b10), .val (.long ca2), .second, .val (.long sa2), .second, .val (.long ((0 : Int64) + (1 : Int64))), .second, .val (.long (0 : Int64)), .second, .unset, .unset, .unset, .unset] [(.int p4), (.long (0 : Int64))])) rfl (by rw [hml]; rfl) (argsL := [(.int p4)]) (rest := [(.long (0 : Int64))]) (lenOf own_pd4 rfl) rfl (by show 2 * 0 + _ ≤ _; exact Nat.le_of_eq rfl) (hb hby at_114) (fun _ _ => ⟨rfl, rfl, (by decide : 5 + 0 ≤ _), (by decide : 10 + 0 ≤ _)⟩)
      dsimp only [Pt.U, Pt.locs, Pt.cells, Pt.slots] at X116 l116 y116 z116 st116 hQ116
      subst l116 y116 z116
      obtain ⟨rfl, N116q, e116⟩ := hQ116
      have N116 := Fr.app N104 N116q
      have k117 : ∀ t, Steps p.tables e below (T116.setTop (mkF m 117 #[.val (.int p1), .val (.int p2), .val (.int p3), .val (.int p4), .val (.int p5), .val (.ref b1), .val (.ref b10), .val (.long ca2), .second, .val (.long sa2), .second, .val (.long ((0 : Int64) + (1 : Int64))), .second, .val (.long (0 : Int64)), .second, .unset, .unset, .unset, .unset] [(.long (own_w p4)), (.long (0 : Int64))])) t → Steps p.tables e below (s₁.setTop (entryFrame m #[(.int p1), (.int p2), (.int p3), (.int p4), (.int p5)] maxLocals)) t := fun t kt => k115 t (st116 t kt)
      have k118 : ∀ t, Steps p.tables e below (T116.setTop (mkF m 120 #[.val (.int p1), .val (.int p2), .val (.int p3), .val (.int p4), .val (.int p5), .val (.ref b1), .val (.ref b10), .val (.long ca2), .second, .val (.long sa2), .second, .val (.long ((0 : Int64) + (1 : Int64))), .second, .val (.long ((0 : Int64) + (own_w p4))), .second, .unset, .unset, .unset, .unset] [])) t → Steps p.tables e below (s₁.setTop (entryFrame m #[(.int p1), (.int p2), (.int p3), (.int p4), (.int p5)] maxLocals)) t := by
        intro t kt
        refine k117 t ?_
        show Steps p.tables e below (T116.setTop (mkF m 117 #[.val (.int p1), .val (.int p2), .val (.int p3), .val (.int p4), .val (.int p5), .val (.ref b1), .val (.ref b10), .val (.long ca2), .second, .val (.long sa2), .second, .val (.long ((0 : Int64) + (1 : Int64))), .second, .val (.long (0 : Int64)), .second, .unset, .unset, .unset, .unset] [(.long (own_w p4)), (.long (0 : Int64))])) t
        refine XS.ladd X116.here hx rfl (hb hby at_117) rfl ?_
        show Steps p.tables e below (T116.setTop (mkF m 118 #[.val (.int p1), .val (.int p2), .val (.int p3), .val (.int p4), .val (.int p5), .val (.ref b1), .val (.ref b10), .val (.long ca2), .second, .val (.long sa2), .second, .val (.long ((0 : Int64) + (1 : Int64))), .second, .val (.long (0 : Int64)), .second, .unset, .unset, .unset, .unset] [(.long ((0 : Int64) + (own_w p4)))])) t
        refine XS.lstore X116.here hx rfl (hb hby at_118) rfl (l' := #[.val (.int p1), .val (.int p2), .val (.int p3), .val (.int p4), .val (.int p5), .val (.ref b1), .val (.ref b10), .val (.long ca2), .second, .val (.long sa2), .second, .val (.long ((0 : Int64) + (1 : Int64))), .second, .val (.long ((0 : Int64) + (own_w p4))), .second, .unset, .unset, .unset, .unset]) rfl ?_
        exact kt
      exact ⟨T116, T104.heap, _, ((0 : Int64) + (1 : Int64)), ((0 : Int64) + (own_w p4)), X116.more (by decide) (by decide), e116, N116, K113, Z113, F105, F106, F107, F108, Fc104, (by rw [← own_aw]; exact Fs104), F111, k118⟩
  obtain ⟨T119, h119, lo119, ca4, sa4, X119, e119, N119, K119, Z119, Fh119_0, Fh119_1, Fh119_2, Fh119_3, Fh119_4, Fh119_5, Fh119_6, k119⟩ : ∃ (T' : State) (h' : Heap) (lo' : List Loc) (ca4 : Int64) (sa4 : Int64), Stand p l e room_1 s m #[(.int p1), (.int p2), (.int p3), (.int p4), (.int p5)] below meth c T' lo' 6 12 ∧ T'.heap = h' ∧ Fr n0 lo' ∧ Keep h0 h' [] ∧ n0 ≤ h'.size ∧ Old Z n0 h' ∧ Fld Z h' b1 "com/example/disk_to_queue/disktoqueue/bench/BodySum" "count" "J" (.long ca2) ∧ Fld Z h' b1 "com/example/disk_to_queue/disktoqueue/bench/BodySum" "sum" "J" (.long sa2) ∧ Exa Z h' b1 "com/example/disk_to_queue/disktoqueue/bench/BodySum" ∧ Fld Z h' b10 "com/example/disk_to_queue/disktoqueue/bench/BodySum" "count" "J" (.long ca4) ∧ Fld Z h' b10 "com/example/disk_to_queue/disktoqueue/bench/BodySum" "sum" "J" (.long sa4) ∧ Exa Z h' b10 "com/example/disk_to_queue/disktoqueue/bench/BodySum" ∧ (∀ t, Steps p.tables e below (T'.setTop (mkF m 153 #[.val (.int p1), .val (.int p2), .val (.int p3), .val (.int p4), .val (.int p5), .val (.ref b1), .val (.ref b10), .val (.long ca2), .second, .val (.long sa2), .second, .val (.long ca4), .second, .val (.long sa4), .second, .unset, .unset, .unset, .unset] [])) t → Steps p.tables e below (s₁.setTop (entryFrame m #[(.int p1), (.int p2), (.int p3), (.int p4), (.int p5)] maxLocals)) t) := by
    have k121 : ∀ t, Steps p.tables e below (T87.setTop (mkF m 124 #[.val (.int p1), .val (.int p2), .val (.int p3), .val (.int p4), .val (.int p5), .val (.ref b1), .val (.ref b10), .val (.long ca2), .second, .val (.long sa2), .second, .val (.long ca3), .second, .val (.long sa3), .second, .unset, .unset, .unset, .unset] [(.int (p1 &&& (8 : Int32)))])) t → Steps p.tables e below (s₁.setTop (entryFrame m #[(.int p1), (.int p2), (.int p3), (.int p4), (.int p5)] maxLocals)) t := by
      intro t kt
      refine k87 t ?_
      show Steps p.tables e below (T87.setTop (mkF m 120 #[.val (.int p1), .val (.int p2), .val (.int p3), .val (.int p4), .val (.int p5), .val (.ref b1), .val (.ref b10), .val (.long ca2), .second, .val (.long sa2), .second, .val (.long ca3), .second, .val (.long sa3), .second, .unset, .unset, .unset, .unset] [])) t
      refine XS.iloadN X87.here hx rfl (hb hby at_120) rfl ?_
      show Steps p.tables e below (T87.setTop (mkF m 121 #[.val (.int p1), .val (.int p2), .val (.int p3), .val (.int p4), .val (.int p5), .val (.ref b1), .val (.ref b10), .val (.long ca2), .second, .val (.long sa2), .second, .val (.long ca3), .second, .val (.long sa3), .second, .unset, .unset, .unset, .unset] [(.int p1)])) t
      refine XS.bipush X87.here hx rfl (hb hby at_121) ?_
      show Steps p.tables e below (T87.setTop (mkF m 123 #[.val (.int p1), .val (.int p2), .val (.int p3), .val (.int p4), .val (.int p5), .val (.ref b1), .val (.ref b10), .val (.long ca2), .second, .val (.long sa2), .second, .val (.long ca3), .second, .val (.long sa3), .second, .unset, .unset, .unset, .unset] [(.int (8 : Int32)), (.int p1)])) t
      refine XS.iand X87.here hx rfl (hb hby at_123) rfl ?_
      exact kt
    by_cases hc124_120 : (p1 &&& (8 : Int32)) = (0 : Int32)
    · have k122 : ∀ t, Steps p.tables e below (T87.setTop (mkF m 153 #[.val (.int p1), .val (.int p2), .val (.int p3), .val (.int p4), .val (.int p5), .val (.ref b1), .val (.ref b10), .val (.long ca2), .second, .val (.long sa2), .second, .val (.long ca3), .second, .val (.long sa3), .second, .unset, .unset, .unset, .unset] [])) t → Steps p.tables e below (s₁.setTop (entryFrame m #[(.int p1), (.int p2), (.int p3), (.int p4), (.int p5)] maxLocals)) t := by
        intro t kt
        refine k121 t ?_
        show Steps p.tables e below (T87.setTop (mkF m 124 #[.val (.int p1), .val (.int p2), .val (.int p3), .val (.int p4), .val (.int p5), .val (.ref b1), .val (.ref b10), .val (.long ca2), .second, .val (.long sa2), .second, .val (.long ca3), .second, .val (.long sa3), .second, .unset, .unset, .unset, .unset] [(.int (p1 &&& (8 : Int32)))])) t
        refine XS.ifYes X87.here hx rfl (pc0 := 124) (pc' := 153) rfl (hb hby at_124) rfl ((if0 _ _).trans (teq hc124_120).1) (by decide) (by decide) ?_
        exact kt
      exact ⟨T87, h87, _, ca3, sa3, X87.more (by decide) (by decide), e87, N87, K87, Z87, Fh87_0, Fh87_1, Fh87_2, Fh87_3, Fh87_4, Fh87_5, Fh87_6, k122⟩
    · have k123 : ∀ t, Steps p.tables e below (T87.setTop (mkF m 131 #[.val (.int p1), .val (.int p2), .val (.int p3), .val (.int p4), .val (.int p5), .val (.ref b1), .val (.ref b10), .val (.long ca2), .second, .val (.long sa2), .second, .val (.long ca3), .second, .val (.long sa3), .second, .unset, .unset, .unset, .unset] [(.int p5), (.ref b10)])) t → Steps p.tables e below (s₁.setTop (entryFrame m #[(.int p1), (.int p2), (.int p3), (.int p4), (.int p5)] maxLocals)) t := by
        intro t kt
        refine k121 t ?_
        show Steps p.tables e below (T87.setTop (mkF m 124 #[.val (.int p1), .val (.int p2), .val (.int p3), .val (.int p4), .val (.int p5), .val (.ref b1), .val (.ref b10), .val (.long ca2), .second, .val (.long sa2), .second, .val (.long ca3), .second, .val (.long sa3), .second, .unset, .unset, .unset, .unset] [(.int (p1 &&& (8 : Int32)))])) t
        refine XS.ifNo X87.here hx rfl (hb hby at_124) rfl ((if0 _ _).trans (feq hc124_120).1) ?_
        show Steps p.tables e below (T87.setTop (mkF m 127 #[.val (.int p1), .val (.int p2), .val (.int p3), .val (.int p4), .val (.int p5), .val (.ref b1), .val (.ref b10), .val (.long ca2), .second, .val (.long sa2), .second, .val (.long ca3), .second, .val (.long sa3), .second, .unset, .unset, .unset, .unset] [])) t
        refine XS.aload X87.here hx rfl (hb hby at_127) rfl rfl ?_
        show Steps p.tables e below (T87.setTop (mkF m 129 #[.val (.int p1), .val (.int p2), .val (.int p3), .val (.int p4), .val (.int p5), .val (.ref b1), .val (.ref b10), .val (.long ca2), .second, .val (.long sa2), .second, .val (.long ca3), .second, .val (.long sa3), .second, .unset, .unset, .unset, .unset] [(.ref b10)])) t
        refine XS.iload X87.here hx rfl (hb hby at_129) rfl ?_
        exact kt
      obtain ⟨_, _, ⟨T124, L124, k124c, n124⟩, -, X124, ⟨Lc124, hQ124, l124, y124, z124⟩, st124⟩ := Jvm.LawKit.callS X87 hx (y := (⟨"com/example/disk_to_queue/disktoqueue/bench/BodySumEqualsPinLaw", "body", "(I)[B"⟩ : MethodName)) hown (mvT hZ (hw _ (List.mem_of_getElem? (i := 20) rfl))) (mvT hZ (hw _ (List.mem_of_getElem? (i := 21) rfl))) (mvT hZ (hw _ (List.mem_of_getElem? (i := 22) rfl))) (mvT hZ (hw _ (List.mem_of_getElem? (i := 23) rfl))) (by decide) (backOf (W := 1) (rmB l Z a0 hw [] p5 h87 n0 Z87) hZ (hw _ (List.mem_of_getElem? (i := 23) rfl)) (hw _ (List.mem_of_getElem? (i := 22) rfl)) (by decide) (by decide)) (g := (mkF m 131 #[.val (.int p1), .val (.int p2), .val (.int p3), .val (.int p4), .val (.int p5), .val (.ref b1), .val (.ref b10), .val (.long ca2), .second, .val (.long sa2), .second, .val (.long ca3), .second, .val (.long sa3), .second, .unset, .unset, .unset, .unset] [(.int p5), (.ref b10)])) rfl (by rw [hml]; rfl) (argsL := [(.int p5)]) (rest := [(.ref b10)]) (lenOf own_pd2 rfl) rfl (by show 2 * 0 + _ ≤ _; exact Nat.le_of_eq rfl) (hb hby at_131) (fun _ _ => ⟨rfl, e87, (by decide : 5 + 1 ≤ _), (by decide : 10 + 2 ≤ _)⟩)
      dsimp only [Pt.U, Pt.locs, Pt.cells, Pt.slots] at X124 l124 y124 z124 st124 hQ124
      subst l124 y124 z124
      obtain ⟨b124, c124, vs124, rfl, N124q, K124k, s124z, A124, hv124⟩ := hQ124
      have N124 := Fr.app N87 N124q
      have g_b124 : n0 ≤ b124 := Nat.le_trans Z87 s124z
      have sz_b124 : h0.size ≤ b124 := Nat.le_trans K87.1 s124z
      have ne125 : b1 ≠ b124 := Nat.ne_of_lt (Nat.lt_of_lt_of_le Fh87_1.lt s124z)
      have ne126 : b10 ≠ b124 := Nat.ne_of_lt (Nat.lt_of_lt_of_le Fh87_4.lt s124z)
      have F127 := Fh87_0.keep K124k all0
      have F128 := Fh87_1.keep K124k nin0
      have F129 := Fh87_2.keep K124k nin0
      have F130 := Fh87_3.keep K124k
      have F131 := Fh87_4.keep K124k nin0
      have F132 := Fh87_5.keep K124k nin0
      have F133 := Fh87_6.keep K124k
      have Z134 : n0 ≤ T124.heap.size := Nat.le_trans Z87 K124k.1
      have K134 : Keep h0 T124.heap [] := K87.trans K124k all0
      have k135 : ∀ t, Steps p.tables e below (T124.setTop (mkF m 134 #[.val (.int p1), .val (.int p2), .val (.int p3), .val (.int p4), .val (.int p5), .val (.ref b1), .val (.ref b10), .val (.long ca2), .second, .val (.long sa2), .second, .val (.long ca3), .second, .val (.long sa3), .second, .unset, .unset, .unset, .unset] [(.ref b124), (.ref b10)])) t → Steps p.tables e below (s₁.setTop (entryFrame m #[(.int p1), (.int p2), (.int p3), (.int p4), (.int p5)] maxLocals)) t := fun t kt => k123 t (st124 t kt)
      obtain ⟨cq136, kq136, q136a, q136b, q136c⟩ := isOf hZ rfl F133
      obtain ⟨_, _, ⟨T136, L136, k136c, n136⟩, -, X136, ⟨Lc136, hQ136, l136, y136, z136⟩, st136⟩ := X124.virtualBack hx (y := (⟨"com/example/disk_to_queue/disktoqueue/bench/BodySum", "add", "([B)V"⟩ : MethodName)) (z := (⟨"com/example/disk_to_queue/disktoqueue/bench/BodySum", "add", "([B)V"⟩ : MethodName)) hown (mvT hZ (hw _ (List.mem_of_getElem? (i := 25) rfl))) (mvT hZ (hw _ (List.mem_of_getElem? (i := 26) rfl))) (notFace_of_selects (args := #[]) (mvT hZ (hw _ (List.mem_of_getElem? (i := 28) rfl)))) (mvT hZ (hw _ (List.mem_of_getElem? (i := 28) rfl))) (mvT hZ (hw _ (List.mem_of_getElem? (i := 27) rfl))) (by decide) (backOf (W := 0) (rmA l Z a0 hw [] b10 b124 ca3 sa3 (own_len p5) (own_b p5) c124 vs124 T124.heap n0 Z134 F131 F132 F133 A124 hv124 g_b10 (Ne.symm ne126)) hZ (hw _ (List.mem_of_getElem? (i := 29) rfl)) (hw _ (List.mem_of_getElem? (i := 2) rfl)) (by decide) (by decide)) q136a q136c (g := (mkF m 134 #[.val (.int p1), .val (.int p2), .val (.int p3), .val (.int p4), .val (.int p5), .val (.ref b1), .val (.ref b10), .val (.long ca2), .second, .val (.long sa2), .second, .val (.long ca3), .second, .val (.long sa3), .second, .unset, .unset, .unset, .unset] [(.ref b124), (.ref b10)])) rfl (by rw [hml]; rfl) (Steps.refl _) (argsL := [(.ref b124)]) (rest := []) (lenOf own_pd3 rfl) rfl (by show 2 * 0 + _ ≤ _; exact Nat.le_of_eq rfl) (hb hby at_134) (fun _ _ => ⟨rfl, rfl, (by decide : 6 + 0 ≤ _), (by decide : 12 + 0 ≤ _)⟩)
      dsimp only [Pt.U, Pt.locs, Pt.cells, Pt.slots] at X136 l136 y136 z136 st136 hQ136
      subst l136 y136 z136
      obtain ⟨rfl, N136q, K136k, -, Fc136, Fs136⟩ := hQ136
      have N136 := Fr.app N124 N136q
      have F137 := F127.keep K136k (allS g_b10 all0)
      have F138 := F128.keep K136k (ninS ne11 nin0)
      have F139 := F129.keep K136k (ninS ne11 nin0)
      have F140 := F130.keep K136k
      have F143 := F133.keep K136k
      have F144 := A124.keep K136k (ninS (Ne.symm ne126) nin0)
      have Z145 : n0 ≤ T136.heap.size := Nat.le_trans Z134 K136k.1
      have K145 : Keep h0 T136.heap [] := K134.trans K136k (allS (Or.inr sz_b10) all0)
      have k146 : ∀ t, Steps p.tables e below (T136.setTop (mkF m 137 #[.val (.int p1), .val (.int p2), .val (.int p3), .val (.int p4), .val (.int p5), .val (.ref b1), .val (.ref b10), .val (.long ca2), .second, .val (.long sa2), .second, .val (.long ca3), .second, .val (.long sa3), .second, .unset, .unset, .unset, .unset] [])) t → Steps p.tables e below (s₁.setTop (entryFrame m #[(.int p1), (.int p2), (.int p3), (.int p4), (.int p5)] maxLocals)) t := fun t kt => k135 t (st136.trans kt)
      have k147 : ∀ t, Steps p.tables e below (T136.setTop (mkF m 147 #[.val (.int p1), .val (.int p2), .val (.int p3), .val (.int p4), .val (.int p5), .val (.ref b1), .val (.ref b10), .val (.long ca2), .second, .val (.long sa2), .second, .val (.long (ca3 + (1 : Int64))), .second, .val (.long sa3), .second, .unset, .unset, .unset, .unset] [(.int p5), (.long sa3)])) t → Steps p.tables e below (s₁.setTop (entryFrame m #[(.int p1), (.int p2), (.int p3), (.int p4), (.int p5)] maxLocals)) t := by
        intro t kt
        refine k146 t ?_
        show Steps p.tables e below (T136.setTop (mkF m 137 #[.val (.int p1), .val (.int p2), .val (.int p3), .val (.int p4), .val (.int p5), .val (.ref b1), .val (.ref b10), .val (.long ca2), .second, .val (.long sa2), .second, .val (.long ca3), .second, .val (.long sa3), .second, .unset, .unset, .unset, .unset] [])) t
        refine XS.lload X136.here hx rfl (hb hby at_137) rfl ?_
        show Steps p.tables e below (T136.setTop (mkF m 139 #[.val (.int p1), .val (.int p2), .val (.int p3), .val (.int p4), .val (.int p5), .val (.ref b1), .val (.ref b10), .val (.long ca2), .second, .val (.long sa2), .second, .val (.long ca3), .second, .val (.long sa3), .second, .unset, .unset, .unset, .unset] [(.long ca3)])) t
        refine XS.lconst X136.here hx rfl (hb hby at_139) ?_
        show Steps p.tables e below (T136.setTop (mkF m 140 #[.val (.int p1), .val (.int p2), .val (.int p3), .val (.int p4), .val (.int p5), .val (.ref b1), .val (.ref b10), .val (.long ca2), .second, .val (.long sa2), .second, .val (.long ca3), .second, .val (.long sa3), .second, .unset, .unset, .unset, .unset] [(.long (1 : Int64)), (.long ca3)])) t
        refine XS.ladd X136.here hx rfl (hb hby at_140) rfl ?_
        show Steps p.tables e below (T136.setTop (mkF m 141 #[.val (.int p1), .val (.int p2), .val (.int p3), .val (.int p4), .val (.int p5), .val (.ref b1), .val (.ref b10), .val (.long ca2), .second, .val (.long sa2), .second, .val (.long ca3), .second, .val (.long sa3), .second, .unset, .unset, .unset, .unset] [(.long (ca3 + (1 : Int64)))])) t
        refine XS.lstore X136.here hx rfl (hb hby at_141) rfl (l' := #[.val (.int p1), .val (.int p2), .val (.int p3), .val (.int p4), .val (.int p5), .val (.ref b1), .val (.ref b10), .val (.long ca2), .second, .val (.long sa2), .second, .val (.long (ca3 + (1 : Int64))), .second, .val (.long sa3), .second, .unset, .unset, .unset, .unset]) rfl ?_
        show Steps p.tables e below (T136.setTop (mkF m 143 #[.val (.int p1), .val (.int p2), .val (.int p3), .val (.int p4), .val (.int p5), .val (.ref b1), .val (.ref b10), .val (.long ca2), .second, .val (.long sa2), .second, .val (.long (ca3 + (1 : Int64))), .second, .val (.long sa3), .second, .unset, .unset, .unset, .unset] [])) t
        refine XS.lload X136.here hx rfl (hb hby at_143) rfl ?_
        show Steps p.tables e below (T136.setTop (mkF m 145 #[.val (.int p1), .val (.int p2), .val (.int p3), .val (.int p4), .val (.int p5), .val (.ref b1), .val (.ref b10), .val (.long ca2), .second, .val (.long sa2), .second, .val (.long (ca3 + (1 : Int64))), .second, .val (.long sa3), .second, .unset, .unset, .unset, .unset] [(.long sa3)])) t
        refine XS.iload X136.here hx rfl (hb hby at_145) rfl ?_
        exact kt
      obtain ⟨_, _, ⟨T148, L148, k148c, n148⟩, -, X148, ⟨Lc148, hQ148, l148, y148, z148⟩, st148⟩ := Jvm.LawKit.callS X136 hx (y := (⟨"com/example/disk_to_queue/disktoqueue/bench/BodySumEqualsPinLaw", "weight", "(I)J"⟩ : MethodName)) hown (mvT hZ (hw _ (List.mem_of_getElem? (i := 30) rfl))) (mvT hZ (hw _ (List.mem_of_getElem? (i := 31) rfl))) (mvT hZ (hw _ (List.mem_of_getElem? (i := 22) rfl))) (mvT hZ (hw _ (List.mem_of_getElem? (i := 32) rfl))) (by decide) (backOf (W := 2) (rmW l Z a0 hw [] p5 T136.heap n0 Z145) hZ (hw _ (List.mem_of_getElem? (i := 32) rfl)) (hw _ (List.mem_of_getElem? (i := 22) rfl)) (by decide) (by decide)) (g := (mkF m 147 #[.val (.int p1), .val (.int p2), .val (.int p3), .val (.int p4), .val (.int p5), .val (.ref b1), .val (.ref b10), .val (.long ca2), .second, .val (.long sa2), .second, .val (.long (ca3 + (1 : Int64))), .second, .val (.long sa3), .second, .unset, .unset, .unset, .unset] [(.int p5), (.long sa3)])) rfl (by rw [hml]; rfl) (argsL := [(.int p5)]) (rest := [(.long sa3)]) (lenOf own_pd4 rfl) rfl (by show 2 * 0 + _ ≤ _; exact Nat.le_of_eq rfl) (hb hby at_147) (fun _ _ => ⟨rfl, rfl, (by decide : 6 + 0 ≤ _), (by decide : 12 + 0 ≤ _)⟩)
      dsimp only [Pt.U, Pt.locs, Pt.cells, Pt.slots] at X148 l148 y148 z148 st148 hQ148
      subst l148 y148 z148
      obtain ⟨rfl, N148q, e148⟩ := hQ148
      have N148 := Fr.app N136 N148q
      have k149 : ∀ t, Steps p.tables e below (T148.setTop (mkF m 150 #[.val (.int p1), .val (.int p2), .val (.int p3), .val (.int p4), .val (.int p5), .val (.ref b1), .val (.ref b10), .val (.long ca2), .second, .val (.long sa2), .second, .val (.long (ca3 + (1 : Int64))), .second, .val (.long sa3), .second, .unset, .unset, .unset, .unset] [(.long (own_w p5)), (.long sa3)])) t → Steps p.tables e below (s₁.setTop (entryFrame m #[(.int p1), (.int p2), (.int p3), (.int p4), (.int p5)] maxLocals)) t := fun t kt => k147 t (st148 t kt)
      have k150 : ∀ t, Steps p.tables e below (T148.setTop (mkF m 153 #[.val (.int p1), .val (.int p2), .val (.int p3), .val (.int p4), .val (.int p5), .val (.ref b1), .val (.ref b10), .val (.long ca2), .second, .val (.long sa2), .second, .val (.long (ca3 + (1 : Int64))), .second, .val (.long (sa3 + (own_w p5))), .second, .unset, .unset, .unset, .unset] [])) t → Steps p.tables e below (s₁.setTop (entryFrame m #[(.int p1), (.int p2), (.int p3), (.int p4), (.int p5)] maxLocals)) t := by
        intro t kt
        refine k149 t ?_
        show Steps p.tables e below (T148.setTop (mkF m 150 #[.val (.int p1), .val (.int p2), .val (.int p3), .val (.int p4), .val (.int p5), .val (.ref b1), .val (.ref b10), .val (.long ca2), .second, .val (.long sa2), .second, .val (.long (ca3 + (1 : Int64))), .second, .val (.long sa3), .second, .unset, .unset, .unset, .unset] [(.long (own_w p5)), (.long sa3)])) t
        refine XS.ladd X148.here hx rfl (hb hby at_150) rfl ?_
        show Steps p.tables e below (T148.setTop (mkF m 151 #[.val (.int p1), .val (.int p2), .val (.int p3), .val (.int p4), .val (.int p5), .val (.ref b1), .val (.ref b10), .val (.long ca2), .second, .val (.long sa2), .second, .val (.long (ca3 + (1 : Int64))), .second, .val (.long sa3), .second, .unset, .unset, .unset, .unset] [(.long (sa3 + (own_w p5)))])) t
        refine XS.lstore X148.here hx rfl (hb hby at_151) rfl (l' := #[.val (.int p1), .val (.int p2), .val (.int p3), .val (.int p4), .val (.int p5), .val (.ref b1), .val (.ref b10), .val (.long ca2), .second, .val (.long sa2), .second, .val (.long (ca3 + (1 : Int64))), .second, .val (.long (sa3 + (own_w p5))), .second, .unset, .unset, .unset, .unset]) rfl ?_
        exact kt
      exact ⟨T148, T136.heap, _, (ca3 + (1 : Int64)), (sa3 + (own_w p5)), X148.more (by decide) (by decide), e148, N148, K145, Z145, F137, F138, F139, F140, Fc136, (by rw [← own_aw]; exact Fs136), F143, k150⟩
  have k152 : ∀ t, Steps p.tables e below (T119.setTop (mkF m 162 #[.val (.int p1), .val (.int p2), .val (.int p3), .val (.int p4), .val (.int p5), .val (.ref b1), .val (.ref b10), .val (.long ca2), .second, .val (.long sa2), .second, .val (.long ca4), .second, .val (.long sa4), .second, .val (.int (((p1.toUInt32 >>> ((4 : Int32) &&& 31).toUInt32).toInt32) &&& (3 : Int32))), .unset, .unset, .unset] [(.int (((p1.toUInt32 >>> ((4 : Int32) &&& 31).toUInt32).toInt32) &&& (3 : Int32)))])) t → Steps p.tables e below (s₁.setTop (entryFrame m #[(.int p1), (.int p2), (.int p3), (.int p4), (.int p5)] maxLocals)) t := by
    intro t kt
    refine k119 t ?_
    show Steps p.tables e below (T119.setTop (mkF m 153 #[.val (.int p1), .val (.int p2), .val (.int p3), .val (.int p4), .val (.int p5), .val (.ref b1), .val (.ref b10), .val (.long ca2), .second, .val (.long sa2), .second, .val (.long ca4), .second, .val (.long sa4), .second, .unset, .unset, .unset, .unset] [])) t
    refine XS.iloadN X119.here hx rfl (hb hby at_153) rfl ?_
    show Steps p.tables e below (T119.setTop (mkF m 154 #[.val (.int p1), .val (.int p2), .val (.int p3), .val (.int p4), .val (.int p5), .val (.ref b1), .val (.ref b10), .val (.long ca2), .second, .val (.long sa2), .second, .val (.long ca4), .second, .val (.long sa4), .second, .unset, .unset, .unset, .unset] [(.int p1)])) t
    refine XS.iconst X119.here hx rfl (hb hby at_154) ?_
    show Steps p.tables e below (T119.setTop (mkF m 155 #[.val (.int p1), .val (.int p2), .val (.int p3), .val (.int p4), .val (.int p5), .val (.ref b1), .val (.ref b10), .val (.long ca2), .second, .val (.long sa2), .second, .val (.long ca4), .second, .val (.long sa4), .second, .unset, .unset, .unset, .unset] [(.int (4 : Int32)), (.int p1)])) t
    refine XS.iushr X119.here hx rfl (hb hby at_155) rfl ?_
    show Steps p.tables e below (T119.setTop (mkF m 156 #[.val (.int p1), .val (.int p2), .val (.int p3), .val (.int p4), .val (.int p5), .val (.ref b1), .val (.ref b10), .val (.long ca2), .second, .val (.long sa2), .second, .val (.long ca4), .second, .val (.long sa4), .second, .unset, .unset, .unset, .unset] [(.int ((p1.toUInt32 >>> ((4 : Int32) &&& 31).toUInt32).toInt32))])) t
    refine XS.iconst X119.here hx rfl (hb hby at_156) ?_
    show Steps p.tables e below (T119.setTop (mkF m 157 #[.val (.int p1), .val (.int p2), .val (.int p3), .val (.int p4), .val (.int p5), .val (.ref b1), .val (.ref b10), .val (.long ca2), .second, .val (.long sa2), .second, .val (.long ca4), .second, .val (.long sa4), .second, .unset, .unset, .unset, .unset] [(.int (3 : Int32)), (.int ((p1.toUInt32 >>> ((4 : Int32) &&& 31).toUInt32).toInt32))])) t
    refine XS.iand X119.here hx rfl (hb hby at_157) rfl ?_
    show Steps p.tables e below (T119.setTop (mkF m 158 #[.val (.int p1), .val (.int p2), .val (.int p3), .val (.int p4), .val (.int p5), .val (.ref b1), .val (.ref b10), .val (.long ca2), .second, .val (.long sa2), .second, .val (.long ca4), .second, .val (.long sa4), .second, .unset, .unset, .unset, .unset] [(.int (((p1.toUInt32 >>> ((4 : Int32) &&& 31).toUInt32).toInt32) &&& (3 : Int32)))])) t
    refine XS.istore X119.here hx rfl (hb hby at_158) rfl (l' := #[.val (.int p1), .val (.int p2), .val (.int p3), .val (.int p4), .val (.int p5), .val (.ref b1), .val (.ref b10), .val (.long ca2), .second, .val (.long sa2), .second, .val (.long ca4), .second, .val (.long sa4), .second, .val (.int (((p1.toUInt32 >>> ((4 : Int32) &&& 31).toUInt32).toInt32) &&& (3 : Int32))), .unset, .unset, .unset]) rfl ?_
    show Steps p.tables e below (T119.setTop (mkF m 160 #[.val (.int p1), .val (.int p2), .val (.int p3), .val (.int p4), .val (.int p5), .val (.ref b1), .val (.ref b10), .val (.long ca2), .second, .val (.long sa2), .second, .val (.long ca4), .second, .val (.long sa4), .second, .val (.int (((p1.toUInt32 >>> ((4 : Int32) &&& 31).toUInt32).toInt32) &&& (3 : Int32))), .unset, .unset, .unset] [])) t
    refine XS.iload X119.here hx rfl (hb hby at_160) rfl ?_
    exact kt
  by_cases hc162_151 : (((p1.toUInt32 >>> ((4 : Int32) &&& 31).toUInt32).toInt32) &&& (3 : Int32)) = (0 : Int32)
  · have k154 : ∀ t, Steps p.tables e below (T119.setTop (mkF m 174 #[.val (.int p1), .val (.int p2), .val (.int p3), .val (.int p4), .val (.int p5), .val (.ref b1), .val (.ref b10), .val (.long ca2), .second, .val (.long sa2), .second, .val (.long ca4), .second, .val (.long sa4), .second, .val (.int (((p1.toUInt32 >>> ((4 : Int32) &&& 31).toUInt32).toInt32) &&& (3 : Int32))), .val (.ref b10), .unset, .unset] [(.int (lcmpW ca2 ca4))])) t → Steps p.tables e below (s₁.setTop (entryFrame m #[(.int p1), (.int p2), (.int p3), (.int p4), (.int p5)] maxLocals)) t := by
      intro t kt
      refine k152 t ?_
      show Steps p.tables e below (T119.setTop (mkF m 162 #[.val (.int p1), .val (.int p2), .val (.int p3), .val (.int p4), .val (.int p5), .val (.ref b1), .val (.ref b10), .val (.long ca2), .second, .val (.long sa2), .second, .val (.long ca4), .second, .val (.long sa4), .second, .val (.int (((p1.toUInt32 >>> ((4 : Int32) &&& 31).toUInt32).toInt32) &&& (3 : Int32))), .unset, .unset, .unset] [(.int (((p1.toUInt32 >>> ((4 : Int32) &&& 31).toUInt32).toInt32) &&& (3 : Int32)))])) t
      refine XS.ifNo X119.here hx rfl (hb hby at_162) rfl ((if0 _ _).trans (teq hc162_151).2) ?_
      show Steps p.tables e below (T119.setTop (mkF m 165 #[.val (.int p1), .val (.int p2), .val (.int p3), .val (.int p4), .val (.int p5), .val (.ref b1), .val (.ref b10), .val (.long ca2), .second, .val (.long sa2), .second, .val (.long ca4), .second, .val (.long sa4), .second, .val (.int (((p1.toUInt32 >>> ((4 : Int32) &&& 31).toUInt32).toInt32) &&& (3 : Int32))), .unset, .unset, .unset] [])) t
      refine XS.aload X119.here hx rfl (hb hby at_165) rfl rfl ?_
      show Steps p.tables e below (T119.setTop (mkF m 167 #[.val (.int p1), .val (.int p2), .val (.int p3), .val (.int p4), .val (.int p5), .val (.ref b1), .val (.ref b10), .val (.long ca2), .second, .val (.long sa2), .second, .val (.long ca4), .second, .val (.long sa4), .second, .val (.int (((p1.toUInt32 >>> ((4 : Int32) &&& 31).toUInt32).toInt32) &&& (3 : Int32))), .unset, .unset, .unset] [(.ref b10)])) t
      refine XS.astore X119.here hx rfl (hb hby at_167) rfl rfl (l' := #[.val (.int p1), .val (.int p2), .val (.int p3), .val (.int p4), .val (.int p5), .val (.ref b1), .val (.ref b10), .val (.long ca2), .second, .val (.long sa2), .second, .val (.long ca4), .second, .val (.long sa4), .second, .val (.int (((p1.toUInt32 >>> ((4 : Int32) &&& 31).toUInt32).toInt32) &&& (3 : Int32))), .val (.ref b10), .unset, .unset]) rfl ?_
      show Steps p.tables e below (T119.setTop (mkF m 169 #[.val (.int p1), .val (.int p2), .val (.int p3), .val (.int p4), .val (.int p5), .val (.ref b1), .val (.ref b10), .val (.long ca2), .second, .val (.long sa2), .second, .val (.long ca4), .second, .val (.long sa4), .second, .val (.int (((p1.toUInt32 >>> ((4 : Int32) &&& 31).toUInt32).toInt32) &&& (3 : Int32))), .val (.ref b10), .unset, .unset] [])) t
      refine XS.lload X119.here hx rfl (hb hby at_169) rfl ?_
      show Steps p.tables e below (T119.setTop (mkF m 171 #[.val (.int p1), .val (.int p2), .val (.int p3), .val (.int p4), .val (.int p5), .val (.ref b1), .val (.ref b10), .val (.long ca2), .second, .val (.long sa2), .second, .val (.long ca4), .second, .val (.long sa4), .second, .val (.int (((p1.toUInt32 >>> ((4 : Int32) &&& 31).toUInt32).toInt32) &&& (3 : Int32))), .val (.ref b10), .unset, .unset] [(.long ca2)])) t
      refine XS.lload X119.here hx rfl (hb hby at_171) rfl ?_
      show Steps p.tables e below (T119.setTop (mkF m 173 #[.val (.int p1), .val (.int p2), .val (.int p3), .val (.int p4), .val (.int p5), .val (.ref b1), .val (.ref b10), .val (.long ca2), .second, .val (.long sa2), .second, .val (.long ca4), .second, .val (.long sa4), .second, .val (.int (((p1.toUInt32 >>> ((4 : Int32) &&& 31).toUInt32).toInt32) &&& (3 : Int32))), .val (.ref b10), .unset, .unset] [(.long ca4), (.long ca2)])) t
      refine XS.lcmp X119.here hx rfl (hb hby at_173) rfl ?_
      exact kt
    by_cases hc174_153 : (lcmpW ca2 ca4) = (0 : Int32)
    · have k156 : ∀ t, Steps p.tables e below (T119.setTop (mkF m 182 #[.val (.int p1), .val (.int p2), .val (.int p3), .val (.int p4), .val (.int p5), .val (.ref b1), .val (.ref b10), .val (.long ca2), .second, .val (.long sa2), .second, .val (.long ca4), .second, .val (.long sa4), .second, .val (.int (((p1.toUInt32 >>> ((4 : Int32) &&& 31).toUInt32).toInt32) &&& (3 : Int32))), .val (.ref b10), .unset, .unset] [(.int (lcmpW sa2 sa4))])) t → Steps p.tables e below (s₁.setTop (entryFrame m #[(.int p1), (.int p2), (.int p3), (.int p4), (.int p5)] maxLocals)) t := by
        intro t kt
        refine k154 t ?_
        show Steps p.tables e below (T119.setTop (mkF m 174 #[.val (.int p1), .val (.int p2), .val (.int p3), .val (.int p4), .val (.int p5), .val (.ref b1), .val (.ref b10), .val (.long ca2), .second, .val (.long sa2), .second, .val (.long ca4), .second, .val (.long sa4), .second, .val (.int (((p1.toUInt32 >>> ((4 : Int32) &&& 31).toUInt32).toInt32) &&& (3 : Int32))), .val (.ref b10), .unset, .unset] [(.int (lcmpW ca2 ca4))])) t
        refine XS.ifNo X119.here hx rfl (hb hby at_174) rfl ((if0 _ _).trans (teq hc174_153).2) ?_
        show Steps p.tables e below (T119.setTop (mkF m 177 #[.val (.int p1), .val (.int p2), .val (.int p3), .val (.int p4), .val (.int p5), .val (.ref b1), .val (.ref b10), .val (.long ca2), .second, .val (.long sa2), .second, .val (.long ca4), .second, .val (.long sa4), .second, .val (.int (((p1.toUInt32 >>> ((4 : Int32) &&& 31).toUInt32).toInt32) &&& (3 : Int32))), .val (.ref b10), .unset, .unset] [])) t
        refine XS.lload X119.here hx rfl (hb hby at_177) rfl ?_
        show Steps p.tables e below (T119.setTop (mkF m 179 #[.val (.int p1), .val (.int p2), .val (.int p3), .val (.int p4), .val (.int p5), .val (.ref b1), .val (.ref b10), .val (.long ca2), .second, .val (.long sa2), .second, .val (.long ca4), .second, .val (.long sa4), .second, .val (.int (((p1.toUInt32 >>> ((4 : Int32) &&& 31).toUInt32).toInt32) &&& (3 : Int32))), .val (.ref b10), .unset, .unset] [(.long sa2)])) t
        refine XS.lload X119.here hx rfl (hb hby at_179) rfl ?_
        show Steps p.tables e below (T119.setTop (mkF m 181 #[.val (.int p1), .val (.int p2), .val (.int p3), .val (.int p4), .val (.int p5), .val (.ref b1), .val (.ref b10), .val (.long ca2), .second, .val (.long sa2), .second, .val (.long ca4), .second, .val (.long sa4), .second, .val (.int (((p1.toUInt32 >>> ((4 : Int32) &&& 31).toUInt32).toInt32) &&& (3 : Int32))), .val (.ref b10), .unset, .unset] [(.long sa4), (.long sa2)])) t
        refine XS.lcmp X119.here hx rfl (hb hby at_181) rfl ?_
        exact kt
      by_cases hc182_155 : (lcmpW sa2 sa4) = (0 : Int32)
      · have k157 : ∀ t, Steps p.tables e below (T119.setTop (mkF m 239 #[.val (.int p1), .val (.int p2), .val (.int p3), .val (.int p4), .val (.int p5), .val (.ref b1), .val (.ref b10), .val (.long ca2), .second, .val (.long sa2), .second, .val (.long ca4), .second, .val (.long sa4), .second, .val (.int (((p1.toUInt32 >>> ((4 : Int32) &&& 31).toUInt32).toInt32) &&& (3 : Int32))), .val (.ref b10), .val (.int (1 : Int32)), .unset] [(.ref b10), (.ref b1)])) t → Steps p.tables e below (s₁.setTop (entryFrame m #[(.int p1), (.int p2), (.int p3), (.int p4), (.int p5)] maxLocals)) t := by
          intro t kt
          refine k156 t ?_
          show Steps p.tables e below (T119.setTop (mkF m 182 #[.val (.int p1), .val (.int p2), .val (.int p3), .val (.int p4), .val (.int p5), .val (.ref b1), .val (.ref b10), .val (.long ca2), .second, .val (.long sa2), .second, .val (.long ca4), .second, .val (.long sa4), .second, .val (.int (((p1.toUInt32 >>> ((4 : Int32) &&& 31).toUInt32).toInt32) &&& (3 : Int32))), .val (.ref b10), .unset, .unset] [(.int (lcmpW sa2 sa4))])) t
          refine XS.ifNo X119.here hx rfl (hb hby at_182) rfl ((if0 _ _).trans (teq hc182_155).2) ?_
          show Steps p.tables e below (T119.setTop (mkF m 185 #[.val (.int p1), .val (.int p2), .val (.int p3), .val (.int p4), .val (.int p5), .val (.ref b1), .val (.ref b10), .val (.long ca2), .second, .val (.long sa2), .second, .val (.long ca4), .second, .val (.long sa4), .second, .val (.int (((p1.toUInt32 >>> ((4 : Int32) &&& 31).toUInt32).toInt32) &&& (3 : Int32))), .val (.ref b10), .unset, .unset] [])) t
          refine XS.iconst X119.here hx rfl (hb hby at_185) ?_
          show Steps p.tables e below (T119.setTop (mkF m 186 #[.val (.int p1), .val (.int p2), .val (.int p3), .val (.int p4), .val (.int p5), .val (.ref b1), .val (.ref b10), .val (.long ca2), .second, .val (.long sa2), .second, .val (.long ca4), .second, .val (.long sa4), .second, .val (.int (((p1.toUInt32 >>> ((4 : Int32) &&& 31).toUInt32).toInt32) &&& (3 : Int32))), .val (.ref b10), .unset, .unset] [(.int (1 : Int32))])) t
          refine XS.goto X119.here hx rfl (pc0 := 186) (pc' := 190) rfl (hb hby at_186) (by decide) (by decide) ?_
          show Steps p.tables e below (T119.setTop (mkF m 190 #[.val (.int p1), .val (.int p2), .val (.int p3), .val (.int p4), .val (.int p5), .val (.ref b1), .val (.ref b10), .val (.long ca2), .second, .val (.long sa2), .second, .val (.long ca4), .second, .val (.long sa4), .second, .val (.int (((p1.toUInt32 >>> ((4 : Int32) &&& 31).toUInt32).toInt32) &&& (3 : Int32))), .val (.ref b10), .unset, .unset] [(.int (1 : Int32))])) t
          refine XS.istore X119.here hx rfl (hb hby at_190) rfl (l' := #[.val (.int p1), .val (.int p2), .val (.int p3), .val (.int p4), .val (.int p5), .val (.ref b1), .val (.ref b10), .val (.long ca2), .second, .val (.long sa2), .second, .val (.long ca4), .second, .val (.long sa4), .second, .val (.int (((p1.toUInt32 >>> ((4 : Int32) &&& 31).toUInt32).toInt32) &&& (3 : Int32))), .val (.ref b10), .val (.int (1 : Int32)), .unset]) rfl ?_
          show Steps p.tables e below (T119.setTop (mkF m 192 #[.val (.int p1), .val (.int p2), .val (.int p3), .val (.int p4), .val (.int p5), .val (.ref b1), .val (.ref b10), .val (.long ca2), .second, .val (.long sa2), .second, .val (.long ca4), .second, .val (.long sa4), .second, .val (.int (((p1.toUInt32 >>> ((4 : Int32) &&& 31).toUInt32).toInt32) &&& (3 : Int32))), .val (.ref b10), .val (.int (1 : Int32)), .unset] [])) t
          refine XS.goto X119.here hx rfl (pc0 := 192) (pc' := 235) rfl (hb hby at_192) (by decide) (by decide) ?_
          show Steps p.tables e below (T119.setTop (mkF m 235 #[.val (.int p1), .val (.int p2), .val (.int p3), .val (.int p4), .val (.int p5), .val (.ref b1), .val (.ref b10), .val (.long ca2), .second, .val (.long sa2), .second, .val (.long ca4), .second, .val (.long sa4), .second, .val (.int (((p1.toUInt32 >>> ((4 : Int32) &&& 31).toUInt32).toInt32) &&& (3 : Int32))), .val (.ref b10), .val (.int (1 : Int32)), .unset] [])) t
          refine XS.aload X119.here hx rfl (hb hby at_235) rfl rfl ?_
          show Steps p.tables e below (T119.setTop (mkF m 237 #[.val (.int p1), .val (.int p2), .val (.int p3), .val (.int p4), .val (.int p5), .val (.ref b1), .val (.ref b10), .val (.long ca2), .second, .val (.long sa2), .second, .val (.long ca4), .second, .val (.long sa4), .second, .val (.int (((p1.toUInt32 >>> ((4 : Int32) &&& 31).toUInt32).toInt32) &&& (3 : Int32))), .val (.ref b10), .val (.int (1 : Int32)), .unset] [(.ref b1)])) t
          refine XS.aload X119.here hx rfl (hb hby at_237) rfl rfl ?_
          exact kt
        obtain ⟨cq158, kq158, q158a, q158b, q158c⟩ := isOf hZ e119 Fh119_3
        obtain ⟨_, _, ⟨T158, L158, k158c, n158⟩, -, X158, ⟨Lc158, hQ158, l158, y158, z158⟩, st158⟩ := X119.virtualBack hx (y := (⟨"com/example/disk_to_queue/disktoqueue/bench/BodySum", "equals", "(Ljava/lang/Object;)Z"⟩ : MethodName)) (z := (⟨"com/example/disk_to_queue/disktoqueue/bench/BodySum", "equals", "(Ljava/lang/Object;)Z"⟩ : MethodName)) hown (mvT hZ (hw _ (List.mem_of_getElem? (i := 9) rfl))) (mvT hZ (hw _ (List.mem_of_getElem? (i := 10) rfl))) (notFace_of_selects (args := #[]) (mvT hZ (hw _ (List.mem_of_getElem? (i := 12) rfl)))) (mvT hZ (hw _ (List.mem_of_getElem? (i := 12) rfl))) (mvT hZ (hw _ (List.mem_of_getElem? (i := 11) rfl))) (by decide) (backOf (W := 0) (rmQ l Z a0 hw [] b1 b10 ca2 sa2 ca4 sa4 h119 n0 Z119 Fh119_1 Fh119_2 Fh119_4 Fh119_5 Fh119_6) hZ (hw _ (List.mem_of_getElem? (i := 13) rfl)) (hw _ (List.mem_of_getElem? (i := 2) rfl)) (by decide) (by decide)) q158a q158c (g := (mkF m 239 #[.val (.int p1), .val (.int p2), .val (.int p3), .val (.int p4), .val (.int p5), .val (.ref b1), .val (.ref b10), .val (.long ca2), .second, .val (.long sa2), .second, .val (.long ca4), .second, .val (.long sa4), .second, .val (.int (((p1.toUInt32 >>> ((4 : Int32) &&& 31).toUInt32).toInt32) &&& (3 : Int32))), .val (.ref b10), .val (.int (1 : Int32)), .unset] [(.ref b10), (.ref b1)])) rfl (by rw [hml]; rfl) (Steps.refl _) (argsL := [(.ref b10)]) (rest := []) (lenOf own_pd5 rfl) rfl (by show 2 * 0 + _ ≤ _; exact Nat.le_of_eq rfl) (hb hby at_239) (fun _ _ => ⟨rfl, e119, (by decide : 6 + 0 ≤ _), (by decide : 12 + 0 ≤ _)⟩)
        dsimp only [Pt.U, Pt.locs, Pt.cells, Pt.slots] at X158 l158 y158 z158 st158 hQ158
        subst l158 y158 z158
        obtain ⟨rfl, N158q, e158⟩ := hQ158
        have N158 := Fr.app N119 N158q
        have k159 : ∀ t, Steps p.tables e below (T158.setTop (mkF m 242 #[.val (.int p1), .val (.int p2), .val (.int p3), .val (.int p4), .val (.int p5), .val (.ref b1), .val (.ref b10), .val (.long ca2), .second, .val (.long sa2), .second, .val (.long ca4), .second, .val (.long sa4), .second, .val (.int (((p1.toUInt32 >>> ((4 : Int32) &&& 31).toUInt32).toInt32) &&& (3 : Int32))), .val (.ref b10), .val (.int (1 : Int32)), .unset] [(.int (own_eq ca2 sa2 ca4 sa4))])) t → Steps p.tables e below (s₁.setTop (entryFrame m #[(.int p1), (.int p2), (.int p3), (.int p4), (.int p5)] maxLocals)) t := fun t kt => k157 t (st158.trans kt)
        have k161 : ∀ t, Steps p.tables e below (T158.setTop (mkF m 244 #[.val (.int p1), .val (.int p2), .val (.int p3), .val (.int p4), .val (.int p5), .val (.ref b1), .val (.ref b10), .val (.long ca2), .second, .val (.long sa2), .second, .val (.long ca4), .second, .val (.long sa4), .second, .val (.int (((p1.toUInt32 >>> ((4 : Int32) &&& 31).toUInt32).toInt32) &&& (3 : Int32))), .val (.ref b10), .val (.int (1 : Int32)), .unset] [(.int (1 : Int32)), (.int (own_eq ca2 sa2 ca4 sa4))])) t → Steps p.tables e below (s₁.setTop (entryFrame m #[(.int p1), (.int p2), (.int p3), (.int p4), (.int p5)] maxLocals)) t := by
          intro t kt
          refine k159 t ?_
          show Steps p.tables e below (T158.setTop (mkF m 242 #[.val (.int p1), .val (.int p2), .val (.int p3), .val (.int p4), .val (.int p5), .val (.ref b1), .val (.ref b10), .val (.long ca2), .second, .val (.long sa2), .second, .val (.long ca4), .second, .val (.long sa4), .second, .val (.int (((p1.toUInt32 >>> ((4 : Int32) &&& 31).toUInt32).toInt32) &&& (3 : Int32))), .val (.ref b10), .val (.int (1 : Int32)), .unset] [(.int (own_eq ca2 sa2 ca4 sa4))])) t
          refine XS.iload X158.here hx rfl (hb hby at_242) rfl ?_
          exact kt
        have hc244_160 : (own_eq ca2 sa2 ca4 sa4) = (1 : Int32) := by unfold own_eq; rw [if_pos ⟨((lw_eq _ _).mp hc174_153).symm, ((lw_eq _ _).mp hc182_155).symm⟩]
        have hc261_163 : ¬ ((1 : Int32) = (0 : Int32)) := by decide
        have k164 : ∀ t, Steps p.tables e below (T158.setTop (mkF m 268 #[.val (.int p1), .val (.int p2), .val (.int p3), .val (.int p4), .val (.int p5), .val (.ref b1), .val (.ref b10), .val (.long ca2), .second, .val (.long sa2), .second, .val (.long ca4), .second, .val (.long sa4), .second, .val (.int (((p1.toUInt32 >>> ((4 : Int32) &&& 31).toUInt32).toInt32) &&& (3 : Int32))), .val (.ref b10), .val (.int (1 : Int32)), .val (.int (1 : Int32))] [(.ref b1), (.ref b10)])) t → Steps p.tables e below (s₁.setTop (entryFrame m #[(.int p1), (.int p2), (.int p3), (.int p4), (.int p5)] maxLocals)) t := by
          intro t kt
          refine k161 t ?_
          show Steps p.tables e below (T158.setTop (mkF m 244 #[.val (.int p1), .val (.int p2), .val (.int p3), .val (.int p4), .val (.int p5), .val (.ref b1), .val (.ref b10), .val (.long ca2), .second, .val (.long sa2), .second, .val (.long ca4), .second, .val (.long sa4), .second, .val (.int (((p1.toUInt32 >>> ((4 : Int32) &&& 31).toUInt32).toInt32) &&& (3 : Int32))), .val (.ref b10), .val (.int (1 : Int32)), .unset] [(.int (1 : Int32)), (.int (own_eq ca2 sa2 ca4 sa4))])) t
          refine XS.icmpNo X158.here hx rfl (hb hby at_244) rfl (teq hc244_160).2 ?_
          show Steps p.tables e below (T158.setTop (mkF m 247 #[.val (.int p1), .val (.int p2), .val (.int p3), .val (.int p4), .val (.int p5), .val (.ref b1), .val (.ref b10), .val (.long ca2), .second, .val (.long sa2), .second, .val (.long ca4), .second, .val (.long sa4), .second, .val (.int (((p1.toUInt32 >>> ((4 : Int32) &&& 31).toUInt32).toInt32) &&& (3 : Int32))), .val (.ref b10), .val (.int (1 : Int32)), .unset] [])) t
          refine XS.iconst X158.here hx rfl (hb hby at_247) ?_
          show Steps p.tables e below (T158.setTop (mkF m 248 #[.val (.int p1), .val (.int p2), .val (.int p3), .val (.int p4), .val (.int p5), .val (.ref b1), .val (.ref b10), .val (.long ca2), .second, .val (.long sa2), .second, .val (.long ca4), .second, .val (.long sa4), .second, .val (.int (((p1.toUInt32 >>> ((4 : Int32) &&& 31).toUInt32).toInt32) &&& (3 : Int32))), .val (.ref b10), .val (.int (1 : Int32)), .unset] [(.int (1 : Int32))])) t
          refine XS.goto X158.here hx rfl (pc0 := 248) (pc' := 252) rfl (hb hby at_248) (by decide) (by decide) ?_
          show Steps p.tables e below (T158.setTop (mkF m 252 #[.val (.int p1), .val (.int p2), .val (.int p3), .val (.int p4), .val (.int p5), .val (.ref b1), .val (.ref b10), .val (.long ca2), .second, .val (.long sa2), .second, .val (.long ca4), .second, .val (.long sa4), .second, .val (.int (((p1.toUInt32 >>> ((4 : Int32) &&& 31).toUInt32).toInt32) &&& (3 : Int32))), .val (.ref b10), .val (.int (1 : Int32)), .unset] [(.int (1 : Int32))])) t
          refine XS.istore X158.here hx rfl (hb hby at_252) rfl (l' := #[.val (.int p1), .val (.int p2), .val (.int p3), .val (.int p4), .val (.int p5), .val (.ref b1), .val (.ref b10), .val (.long ca2), .second, .val (.long sa2), .second, .val (.long ca4), .second, .val (.long sa4), .second, .val (.int (((p1.toUInt32 >>> ((4 : Int32) &&& 31).toUInt32).toInt32) &&& (3 : Int32))), .val (.ref b10), .val (.int (1 : Int32)), .val (.int (1 : Int32))]) rfl ?_
          show Steps p.tables e below (T158.setTop (mkF m 254 #[.val (.int p1), .val (.int p2), .val (.int p3), .val (.int p4), .val (.int p5), .val (.ref b1), .val (.ref b10), .val (.long ca2), .second, .val (.long sa2), .second, .val (.long ca4), .second, .val (.long sa4), .second, .val (.int (((p1.toUInt32 >>> ((4 : Int32) &&& 31).toUInt32).toInt32) &&& (3 : Int32))), .val (.ref b10), .val (.int (1 : Int32)), .val (.int (1 : Int32))] [])) t
          refine XS.iload X158.here hx rfl (hb hby at_254) rfl ?_
          show Steps p.tables e below (T158.setTop (mkF m 256 #[.val (.int p1), .val (.int p2), .val (.int p3), .val (.int p4), .val (.int p5), .val (.ref b1), .val (.ref b10), .val (.long ca2), .second, .val (.long sa2), .second, .val (.long ca4), .second, .val (.long sa4), .second, .val (.int (((p1.toUInt32 >>> ((4 : Int32) &&& 31).toUInt32).toInt32) &&& (3 : Int32))), .val (.ref b10), .val (.int (1 : Int32)), .val (.int (1 : Int32))] [(.int (((p1.toUInt32 >>> ((4 : Int32) &&& 31).toUInt32).toInt32) &&& (3 : Int32)))])) t
          refine XS.ifNo X158.here hx rfl (hb hby at_256) rfl ((if0 _ _).trans (teq hc162_151).2) ?_
          show Steps p.tables e below (T158.setTop (mkF m 259 #[.val (.int p1), .val (.int p2), .val (.int p3), .val (.int p4), .val (.int p5), .val (.ref b1), .val (.ref b10), .val (.long ca2), .second, .val (.long sa2), .second, .val (.long ca4), .second, .val (.long sa4), .second, .val (.int (((p1.toUInt32 >>> ((4 : Int32) &&& 31).toUInt32).toInt32) &&& (3 : Int32))), .val (.ref b10), .val (.int (1 : Int32)), .val (.int (1 : Int32))] [])) t
          refine XS.iload X158.here hx rfl (hb hby at_259) rfl ?_
          show Steps p.tables e below (T158.setTop (mkF m 261 #[.val (.int p1), .val (.int p2), .val (.int p3), .val (.int p4), .val (.int p5), .val (.ref b1), .val (.ref b10), .val (.long ca2), .second, .val (.long sa2), .second, .val (.long ca4), .second, .val (.long sa4), .second, .val (.int (((p1.toUInt32 >>> ((4 : Int32) &&& 31).toUInt32).toInt32) &&& (3 : Int32))), .val (.ref b10), .val (.int (1 : Int32)), .val (.int (1 : Int32))] [(.int (1 : Int32))])) t
          refine XS.ifNo X158.here hx rfl (hb hby at_261) rfl ((if0 _ _).trans (feq hc261_163).1) ?_
          show Steps p.tables e below (T158.setTop (mkF m 264 #[.val (.int p1), .val (.int p2), .val (.int p3), .val (.int p4), .val (.int p5), .val (.ref b1), .val (.ref b10), .val (.long ca2), .second, .val (.long sa2), .second, .val (.long ca4), .second, .val (.long sa4), .second, .val (.int (((p1.toUInt32 >>> ((4 : Int32) &&& 31).toUInt32).toInt32) &&& (3 : Int32))), .val (.ref b10), .val (.int (1 : Int32)), .val (.int (1 : Int32))] [])) t
          refine XS.aload X158.here hx rfl (hb hby at_264) rfl rfl ?_
          show Steps p.tables e below (T158.setTop (mkF m 266 #[.val (.int p1), .val (.int p2), .val (.int p3), .val (.int p4), .val (.int p5), .val (.ref b1), .val (.ref b10), .val (.long ca2), .second, .val (.long sa2), .second, .val (.long ca4), .second, .val (.long sa4), .second, .val (.int (((p1.toUInt32 >>> ((4 : Int32) &&& 31).toUInt32).toInt32) &&& (3 : Int32))), .val (.ref b10), .val (.int (1 : Int32)), .val (.int (1 : Int32))] [(.ref b10)])) t
          refine XS.aload X158.here hx rfl (hb hby at_266) rfl rfl ?_
          exact kt
        obtain ⟨cq165, kq165, q165a, q165b, q165c⟩ := isOf hZ e158 Fh119_6
        obtain ⟨_, _, ⟨T165, L165, k165c, n165⟩, -, X165, ⟨Lc165, hQ165, l165, y165, z165⟩, st165⟩ := X158.virtualBack hx (y := (⟨"com/example/disk_to_queue/disktoqueue/bench/BodySum", "equals", "(Ljava/lang/Object;)Z"⟩ : MethodName)) (z := (⟨"com/example/disk_to_queue/disktoqueue/bench/BodySum", "equals", "(Ljava/lang/Object;)Z"⟩ : MethodName)) hown (mvT hZ (hw _ (List.mem_of_getElem? (i := 9) rfl))) (mvT hZ (hw _ (List.mem_of_getElem? (i := 10) rfl))) (notFace_of_selects (args := #[]) (mvT hZ (hw _ (List.mem_of_getElem? (i := 12) rfl)))) (mvT hZ (hw _ (List.mem_of_getElem? (i := 12) rfl))) (mvT hZ (hw _ (List.mem_of_getElem? (i := 11) rfl))) (by decide) (backOf (W := 0) (rmQ l Z a0 hw [] b10 b1 ca4 sa4 ca2 sa2 h119 n0 Z119 Fh119_4 Fh119_5 Fh119_1 Fh119_2 Fh119_3) hZ (hw _ (List.mem_of_getElem? (i := 13) rfl)) (hw _ (List.mem_of_getElem? (i := 2) rfl)) (by decide) (by decide)) q165a q165c (g := (mkF m 268 #[.val (.int p1), .val (.int p2), .val (.int p3), .val (.int p4), .val (.int p5), .val (.ref b1), .val (.ref b10), .val (.long ca2), .second, .val (.long sa2), .second, .val (.long ca4), .second, .val (.long sa4), .second, .val (.int (((p1.toUInt32 >>> ((4 : Int32) &&& 31).toUInt32).toInt32) &&& (3 : Int32))), .val (.ref b10), .val (.int (1 : Int32)), .val (.int (1 : Int32))] [(.ref b1), (.ref b10)])) rfl (by rw [hml]; rfl) (Steps.refl _) (argsL := [(.ref b1)]) (rest := []) (lenOf own_pd5 rfl) rfl (by show 2 * 0 + _ ≤ _; exact Nat.le_of_eq rfl) (hb hby at_268) (fun _ _ => ⟨rfl, e158, (by decide : 6 + 0 ≤ _), (by decide : 12 + 0 ≤ _)⟩)
        dsimp only [Pt.U, Pt.locs, Pt.cells, Pt.slots] at X165 l165 y165 z165 st165 hQ165
        subst l165 y165 z165
        obtain ⟨rfl, N165q, e165⟩ := hQ165
        have N165 := Fr.app N158 N165q
        have k166 : ∀ t, Steps p.tables e below (T165.setTop (mkF m 271 #[.val (.int p1), .val (.int p2), .val (.int p3), .val (.int p4), .val (.int p5), .val (.ref b1), .val (.ref b10), .val (.long ca2), .second, .val (.long sa2), .second, .val (.long ca4), .second, .val (.long sa4), .second, .val (.int (((p1.toUInt32 >>> ((4 : Int32) &&& 31).toUInt32).toInt32) &&& (3 : Int32))), .val (.ref b10), .val (.int (1 : Int32)), .val (.int (1 : Int32))] [(.int (own_eq ca4 sa4 ca2 sa2))])) t → Steps p.tables e below (s₁.setTop (entryFrame m #[(.int p1), (.int p2), (.int p3), (.int p4), (.int p5)] maxLocals)) t := fun t kt => k164 t (st165.trans kt)
        have k168 : ∀ t, Steps p.tables e below (T165.setTop (mkF m 273 #[.val (.int p1), .val (.int p2), .val (.int p3), .val (.int p4), .val (.int p5), .val (.ref b1), .val (.ref b10), .val (.long ca2), .second, .val (.long sa2), .second, .val (.long ca4), .second, .val (.long sa4), .second, .val (.int (((p1.toUInt32 >>> ((4 : Int32) &&& 31).toUInt32).toInt32) &&& (3 : Int32))), .val (.ref b10), .val (.int (1 : Int32)), .val (.int (1 : Int32))] [(.int (1 : Int32)), (.int (own_eq ca4 sa4 ca2 sa2))])) t → Steps p.tables e below (s₁.setTop (entryFrame m #[(.int p1), (.int p2), (.int p3), (.int p4), (.int p5)] maxLocals)) t := by
          intro t kt
          refine k166 t ?_
          show Steps p.tables e below (T165.setTop (mkF m 271 #[.val (.int p1), .val (.int p2), .val (.int p3), .val (.int p4), .val (.int p5), .val (.ref b1), .val (.ref b10), .val (.long ca2), .second, .val (.long sa2), .second, .val (.long ca4), .second, .val (.long sa4), .second, .val (.int (((p1.toUInt32 >>> ((4 : Int32) &&& 31).toUInt32).toInt32) &&& (3 : Int32))), .val (.ref b10), .val (.int (1 : Int32)), .val (.int (1 : Int32))] [(.int (own_eq ca4 sa4 ca2 sa2))])) t
          refine XS.iload X165.here hx rfl (hb hby at_271) rfl ?_
          exact kt
        have hc273_167 : (own_eq ca4 sa4 ca2 sa2) = (1 : Int32) := by unfold own_eq; rw [if_pos ⟨((lw_eq _ _).mp hc174_153), ((lw_eq _ _).mp hc182_155)⟩]
        have k169 : ∀ t, Steps p.tables e below (T165.setTop (mkF m 285 #[.val (.int p1), .val (.int p2), .val (.int p3), .val (.int p4), .val (.int p5), .val (.ref b1), .val (.ref b10), .val (.long ca2), .second, .val (.long sa2), .second, .val (.long ca4), .second, .val (.long sa4), .second, .val (.int (((p1.toUInt32 >>> ((4 : Int32) &&& 31).toUInt32).toInt32) &&& (3 : Int32))), .val (.ref b10), .val (.int (1 : Int32)), .val (.int (1 : Int32))] [(.int (1 : Int32))])) t → Steps p.tables e below (s₁.setTop (entryFrame m #[(.int p1), (.int p2), (.int p3), (.int p4), (.int p5)] maxLocals)) t := by
          intro t kt
          refine k168 t ?_
          show Steps p.tables e below (T165.setTop (mkF m 273 #[.val (.int p1), .val (.int p2), .val (.int p3), .val (.int p4), .val (.int p5), .val (.ref b1), .val (.ref b10), .val (.long ca2), .second, .val (.long sa2), .second, .val (.long ca4), .second, .val (.long sa4), .second, .val (.int (((p1.toUInt32 >>> ((4 : Int32) &&& 31).toUInt32).toInt32) &&& (3 : Int32))), .val (.ref b10), .val (.int (1 : Int32)), .val (.int (1 : Int32))] [(.int (1 : Int32)), (.int (own_eq ca4 sa4 ca2 sa2))])) t
          refine XS.icmpNo X165.here hx rfl (hb hby at_273) rfl (teq hc273_167).2 ?_
          show Steps p.tables e below (T165.setTop (mkF m 276 #[.val (.int p1), .val (.int p2), .val (.int p3), .val (.int p4), .val (.int p5), .val (.ref b1), .val (.ref b10), .val (.long ca2), .second, .val (.long sa2), .second, .val (.long ca4), .second, .val (.long sa4), .second, .val (.int (((p1.toUInt32 >>> ((4 : Int32) &&& 31).toUInt32).toInt32) &&& (3 : Int32))), .val (.ref b10), .val (.int (1 : Int32)), .val (.int (1 : Int32))] [])) t
          refine XS.iconst X165.here hx rfl (hb hby at_276) ?_
          show Steps p.tables e below (T165.setTop (mkF m 277 #[.val (.int p1), .val (.int p2), .val (.int p3), .val (.int p4), .val (.int p5), .val (.ref b1), .val (.ref b10), .val (.long ca2), .second, .val (.long sa2), .second, .val (.long ca4), .second, .val (.long sa4), .second, .val (.int (((p1.toUInt32 >>> ((4 : Int32) &&& 31).toUInt32).toInt32) &&& (3 : Int32))), .val (.ref b10), .val (.int (1 : Int32)), .val (.int (1 : Int32))] [(.int (1 : Int32))])) t
          refine XS.goto X165.here hx rfl (pc0 := 277) (pc' := 281) rfl (hb hby at_277) (by decide) (by decide) ?_
          show Steps p.tables e below (T165.setTop (mkF m 281 #[.val (.int p1), .val (.int p2), .val (.int p3), .val (.int p4), .val (.int p5), .val (.ref b1), .val (.ref b10), .val (.long ca2), .second, .val (.long sa2), .second, .val (.long ca4), .second, .val (.long sa4), .second, .val (.int (((p1.toUInt32 >>> ((4 : Int32) &&& 31).toUInt32).toInt32) &&& (3 : Int32))), .val (.ref b10), .val (.int (1 : Int32)), .val (.int (1 : Int32))] [(.int (1 : Int32))])) t
          refine XS.istore X165.here hx rfl (hb hby at_281) rfl (l' := #[.val (.int p1), .val (.int p2), .val (.int p3), .val (.int p4), .val (.int p5), .val (.ref b1), .val (.ref b10), .val (.long ca2), .second, .val (.long sa2), .second, .val (.long ca4), .second, .val (.long sa4), .second, .val (.int (((p1.toUInt32 >>> ((4 : Int32) &&& 31).toUInt32).toInt32) &&& (3 : Int32))), .val (.ref b10), .val (.int (1 : Int32)), .val (.int (1 : Int32))]) rfl ?_
          show Steps p.tables e below (T165.setTop (mkF m 283 #[.val (.int p1), .val (.int p2), .val (.int p3), .val (.int p4), .val (.int p5), .val (.ref b1), .val (.ref b10), .val (.long ca2), .second, .val (.long sa2), .second, .val (.long ca4), .second, .val (.long sa4), .second, .val (.int (((p1.toUInt32 >>> ((4 : Int32) &&& 31).toUInt32).toInt32) &&& (3 : Int32))), .val (.ref b10), .val (.int (1 : Int32)), .val (.int (1 : Int32))] [])) t
          refine XS.iload X165.here hx rfl (hb hby at_283) rfl ?_
          exact kt
        obtain ⟨fs, hr, hrun, hended, hW, hsame⟩ := X165.leave (v := some (.int (1 : Int32))) (fun h => by rw [Bd.returns] at h; cases h)
        refine ⟨_, _, k169 _ ?_, hrun, hended, _, _, rfl, ?_, ⟨_, rfl⟩, hW, hsame.mono (by decide) (by decide)⟩
        · show Steps p.tables e below (T165.setTop (mkF m 285 #[.val (.int p1), .val (.int p2), .val (.int p3), .val (.int p4), .val (.int p5), .val (.ref b1), .val (.ref b10), .val (.long ca2), .second, .val (.long sa2), .second, .val (.long ca4), .second, .val (.long sa4), .second, .val (.int (((p1.toUInt32 >>> ((4 : Int32) &&& 31).toUInt32).toInt32) &&& (3 : Int32))), .val (.ref b10), .val (.int (1 : Int32)), .val (.int (1 : Int32))] [(.int (1 : Int32))])) _
          exact retN X165 hx (t := .boolean) Bd.returns (by simp) (hb hby at_285) hr
        · show Q0 Z p1 p2 p3 p4 p5 aC clC h0 n0 _ T165.heap _
          rw [e165]
          exact ⟨rfl, N165⟩
      · have k170 : ∀ t, Steps p.tables e below (T119.setTop (mkF m 239 #[.val (.int p1), .val (.int p2), .val (.int p3), .val (.int p4), .val (.int p5), .val (.ref b1), .val (.ref b10), .val (.long ca2), .second, .val (.long sa2), .second, .val (.long ca4), .second, .val (.long sa4), .second, .val (.int (((p1.toUInt32 >>> ((4 : Int32) &&& 31).toUInt32).toInt32) &&& (3 : Int32))), .val (.ref b10), .val (.int (0 : Int32)), .unset] [(.ref b10), (.ref b1)])) t → Steps p.tables e below (s₁.setTop (entryFrame m #[(.int p1), (.int p2), (.int p3), (.int p4), (.int p5)] maxLocals)) t := by
          intro t kt
          refine k156 t ?_
          show Steps p.tables e below (T119.setTop (mkF m 182 #[.val (.int p1), .val (.int p2), .val (.int p3), .val (.int p4), .val (.int p5), .val (.ref b1), .val (.ref b10), .val (.long ca2), .second, .val (.long sa2), .second, .val (.long ca4), .second, .val (.long sa4), .second, .val (.int (((p1.toUInt32 >>> ((4 : Int32) &&& 31).toUInt32).toInt32) &&& (3 : Int32))), .val (.ref b10), .unset, .unset] [(.int (lcmpW sa2 sa4))])) t
          refine XS.ifYes X119.here hx rfl (pc0 := 182) (pc' := 189) rfl (hb hby at_182) rfl ((if0 _ _).trans (feq hc182_155).2) (by decide) (by decide) ?_
          show Steps p.tables e below (T119.setTop (mkF m 189 #[.val (.int p1), .val (.int p2), .val (.int p3), .val (.int p4), .val (.int p5), .val (.ref b1), .val (.ref b10), .val (.long ca2), .second, .val (.long sa2), .second, .val (.long ca4), .second, .val (.long sa4), .second, .val (.int (((p1.toUInt32 >>> ((4 : Int32) &&& 31).toUInt32).toInt32) &&& (3 : Int32))), .val (.ref b10), .unset, .unset] [])) t
          refine XS.iconst X119.here hx rfl (hb hby at_189) ?_
          show Steps p.tables e below (T119.setTop (mkF m 190 #[.val (.int p1), .val (.int p2), .val (.int p3), .val (.int p4), .val (.int p5), .val (.ref b1), .val (.ref b10), .val (.long ca2), .second, .val (.long sa2), .second, .val (.long ca4), .second, .val (.long sa4), .second, .val (.int (((p1.toUInt32 >>> ((4 : Int32) &&& 31).toUInt32).toInt32) &&& (3 : Int32))), .val (.ref b10), .unset, .unset] [(.int (0 : Int32))])) t
          refine XS.istore X119.here hx rfl (hb hby at_190) rfl (l' := #[.val (.int p1), .val (.int p2), .val (.int p3), .val (.int p4), .val (.int p5), .val (.ref b1), .val (.ref b10), .val (.long ca2), .second, .val (.long sa2), .second, .val (.long ca4), .second, .val (.long sa4), .second, .val (.int (((p1.toUInt32 >>> ((4 : Int32) &&& 31).toUInt32).toInt32) &&& (3 : Int32))), .val (.ref b10), .val (.int (0 : Int32)), .unset]) rfl ?_
          show Steps p.tables e below (T119.setTop (mkF m 192 #[.val (.int p1), .val (.int p2), .val (.int p3), .val (.int p4), .val (.int p5), .val (.ref b1), .val (.ref b10), .val (.long ca2), .second, .val (.long sa2), .second, .val (.long ca4), .second, .val (.long sa4), .second, .val (.int (((p1.toUInt32 >>> ((4 : Int32) &&& 31).toUInt32).toInt32) &&& (3 : Int32))), .val (.ref b10), .val (.int (0 : Int32)), .unset] [])) t
          refine XS.goto X119.here hx rfl (pc0 := 192) (pc' := 235) rfl (hb hby at_192) (by decide) (by decide) ?_
          show Steps p.tables e below (T119.setTop (mkF m 235 #[.val (.int p1), .val (.int p2), .val (.int p3), .val (.int p4), .val (.int p5), .val (.ref b1), .val (.ref b10), .val (.long ca2), .second, .val (.long sa2), .second, .val (.long ca4), .second, .val (.long sa4), .second, .val (.int (((p1.toUInt32 >>> ((4 : Int32) &&& 31).toUInt32).toInt32) &&& (3 : Int32))), .val (.ref b10), .val (.int (0 : Int32)), .unset] [])) t
          refine XS.aload X119.here hx rfl (hb hby at_235) rfl rfl ?_
          show Steps p.tables e below (T119.setTop (mkF m 237 #[.val (.int p1), .val (.int p2), .val (.int p3), .val (.int p4), .val (.int p5), .val (.ref b1), .val (.ref b10), .val (.long ca2), .second, .val (.long sa2), .second, .val (.long ca4), .second, .val (.long sa4), .second, .val (.int (((p1.toUInt32 >>> ((4 : Int32) &&& 31).toUInt32).toInt32) &&& (3 : Int32))), .val (.ref b10), .val (.int (0 : Int32)), .unset] [(.ref b1)])) t
          refine XS.aload X119.here hx rfl (hb hby at_237) rfl rfl ?_
          exact kt
        obtain ⟨cq171, kq171, q171a, q171b, q171c⟩ := isOf hZ e119 Fh119_3
        obtain ⟨_, _, ⟨T171, L171, k171c, n171⟩, -, X171, ⟨Lc171, hQ171, l171, y171, z171⟩, st171⟩ := X119.virtualBack hx (y := (⟨"com/example/disk_to_queue/disktoqueue/bench/BodySum", "equals", "(Ljava/lang/Object;)Z"⟩ : MethodName)) (z := (⟨"com/example/disk_to_queue/disktoqueue/bench/BodySum", "equals", "(Ljava/lang/Object;)Z"⟩ : MethodName)) hown (mvT hZ (hw _ (List.mem_of_getElem? (i := 9) rfl))) (mvT hZ (hw _ (List.mem_of_getElem? (i := 10) rfl))) (notFace_of_selects (args := #[]) (mvT hZ (hw _ (List.mem_of_getElem? (i := 12) rfl)))) (mvT hZ (hw _ (List.mem_of_getElem? (i := 12) rfl))) (mvT hZ (hw _ (List.mem_of_getElem? (i := 11) rfl))) (by decide) (backOf (W := 0) (rmQ l Z a0 hw [] b1 b10 ca2 sa2 ca4 sa4 h119 n0 Z119 Fh119_1 Fh119_2 Fh119_4 Fh119_5 Fh119_6) hZ (hw _ (List.mem_of_getElem? (i := 13) rfl)) (hw _ (List.mem_of_getElem? (i := 2) rfl)) (by decide) (by decide)) q171a q171c (g := (mkF m 239 #[.val (.int p1), .val (.int p2), .val (.int p3), .val (.int p4), .val (.int p5), .val (.ref b1), .val (.ref b10), .val (.long ca2), .second, .val (.long sa2), .second, .val (.long ca4), .second, .val (.long sa4), .second, .val (.int (((p1.toUInt32 >>> ((4 : Int32) &&& 31).toUInt32).toInt32) &&& (3 : Int32))), .val (.ref b10), .val (.int (0 : Int32)), .unset] [(.ref b10), (.ref b1)])) rfl (by rw [hml]; rfl) (Steps.refl _) (argsL := [(.ref b10)]) (rest := []) (lenOf own_pd5 rfl) rfl (by show 2 * 0 + _ ≤ _; exact Nat.le_of_eq rfl) (hb hby at_239) (fun _ _ => ⟨rfl, e119, (by decide : 6 + 0 ≤ _), (by decide : 12 + 0 ≤ _)⟩)
        dsimp only [Pt.U, Pt.locs, Pt.cells, Pt.slots] at X171 l171 y171 z171 st171 hQ171
        subst l171 y171 z171
        obtain ⟨rfl, N171q, e171⟩ := hQ171
        have N171 := Fr.app N119 N171q
        have k172 : ∀ t, Steps p.tables e below (T171.setTop (mkF m 242 #[.val (.int p1), .val (.int p2), .val (.int p3), .val (.int p4), .val (.int p5), .val (.ref b1), .val (.ref b10), .val (.long ca2), .second, .val (.long sa2), .second, .val (.long ca4), .second, .val (.long sa4), .second, .val (.int (((p1.toUInt32 >>> ((4 : Int32) &&& 31).toUInt32).toInt32) &&& (3 : Int32))), .val (.ref b10), .val (.int (0 : Int32)), .unset] [(.int (own_eq ca2 sa2 ca4 sa4))])) t → Steps p.tables e below (s₁.setTop (entryFrame m #[(.int p1), (.int p2), (.int p3), (.int p4), (.int p5)] maxLocals)) t := fun t kt => k170 t (st171.trans kt)
        have k174 : ∀ t, Steps p.tables e below (T171.setTop (mkF m 244 #[.val (.int p1), .val (.int p2), .val (.int p3), .val (.int p4), .val (.int p5), .val (.ref b1), .val (.ref b10), .val (.long ca2), .second, .val (.long sa2), .second, .val (.long ca4), .second, .val (.long sa4), .second, .val (.int (((p1.toUInt32 >>> ((4 : Int32) &&& 31).toUInt32).toInt32) &&& (3 : Int32))), .val (.ref b10), .val (.int (0 : Int32)), .unset] [(.int (0 : Int32)), (.int (own_eq ca2 sa2 ca4 sa4))])) t → Steps p.tables e below (s₁.setTop (entryFrame m #[(.int p1), (.int p2), (.int p3), (.int p4), (.int p5)] maxLocals)) t := by
          intro t kt
          refine k172 t ?_
          show Steps p.tables e below (T171.setTop (mkF m 242 #[.val (.int p1), .val (.int p2), .val (.int p3), .val (.int p4), .val (.int p5), .val (.ref b1), .val (.ref b10), .val (.long ca2), .second, .val (.long sa2), .second, .val (.long ca4), .second, .val (.long sa4), .second, .val (.int (((p1.toUInt32 >>> ((4 : Int32) &&& 31).toUInt32).toInt32) &&& (3 : Int32))), .val (.ref b10), .val (.int (0 : Int32)), .unset] [(.int (own_eq ca2 sa2 ca4 sa4))])) t
          refine XS.iload X171.here hx rfl (hb hby at_242) rfl ?_
          exact kt
        have hc244_173 : (own_eq ca2 sa2 ca4 sa4) = (0 : Int32) := by unfold own_eq; rw [if_neg fun z => hc182_155 ((lw_eq _ _).mpr z.2.symm)]
        have hc261_176 : ¬ ((1 : Int32) = (0 : Int32)) := by decide
        have k177 : ∀ t, Steps p.tables e below (T171.setTop (mkF m 268 #[.val (.int p1), .val (.int p2), .val (.int p3), .val (.int p4), .val (.int p5), .val (.ref b1), .val (.ref b10), .val (.long ca2), .second, .val (.long sa2), .second, .val (.long ca4), .second, .val (.long sa4), .second, .val (.int (((p1.toUInt32 >>> ((4 : Int32) &&& 31).toUInt32).toInt32) &&& (3 : Int32))), .val (.ref b10), .val (.int (0 : Int32)), .val (.int (1 : Int32))] [(.ref b1), (.ref b10)])) t → Steps p.tables e below (s₁.setTop (entryFrame m #[(.int p1), (.int p2), (.int p3), (.int p4), (.int p5)] maxLocals)) t := by
          intro t kt
          refine k174 t ?_
          show Steps p.tables e below (T171.setTop (mkF m 244 #[.val (.int p1), .val (.int p2), .val (.int p3), .val (.int p4), .val (.int p5), .val (.ref b1), .val (.ref b10), .val (.long ca2), .second, .val (.long sa2), .second, .val (.long ca4), .second, .val (.long sa4), .second, .val (.int (((p1.toUInt32 >>> ((4 : Int32) &&& 31).toUInt32).toInt32) &&& (3 : Int32))), .val (.ref b10), .val (.int (0 : Int32)), .unset] [(.int (0 : Int32)), (.int (own_eq ca2 sa2 ca4 sa4))])) t
          refine XS.icmpNo X171.here hx rfl (hb hby at_244) rfl (teq hc244_173).2 ?_
          show Steps p.tables e below (T171.setTop (mkF m 247 #[.val (.int p1), .val (.int p2), .val (.int p3), .val (.int p4), .val (.int p5), .val (.ref b1), .val (.ref b10), .val (.long ca2), .second, .val (.long sa2), .second, .val (.long ca4), .second, .val (.long sa4), .second, .val (.int (((p1.toUInt32 >>> ((4 : Int32) &&& 31).toUInt32).toInt32) &&& (3 : Int32))), .val (.ref b10), .val (.int (0 : Int32)), .unset] [])) t
          refine XS.iconst X171.here hx rfl (hb hby at_247) ?_
          show Steps p.tables e below (T171.setTop (mkF m 248 #[.val (.int p1), .val (.int p2), .val (.int p3), .val (.int p4), .val (.int p5), .val (.ref b1), .val (.ref b10), .val (.long ca2), .second, .val (.long sa2), .second, .val (.long ca4), .second, .val (.long sa4), .second, .val (.int (((p1.toUInt32 >>> ((4 : Int32) &&& 31).toUInt32).toInt32) &&& (3 : Int32))), .val (.ref b10), .val (.int (0 : Int32)), .unset] [(.int (1 : Int32))])) t
          refine XS.goto X171.here hx rfl (pc0 := 248) (pc' := 252) rfl (hb hby at_248) (by decide) (by decide) ?_
          show Steps p.tables e below (T171.setTop (mkF m 252 #[.val (.int p1), .val (.int p2), .val (.int p3), .val (.int p4), .val (.int p5), .val (.ref b1), .val (.ref b10), .val (.long ca2), .second, .val (.long sa2), .second, .val (.long ca4), .second, .val (.long sa4), .second, .val (.int (((p1.toUInt32 >>> ((4 : Int32) &&& 31).toUInt32).toInt32) &&& (3 : Int32))), .val (.ref b10), .val (.int (0 : Int32)), .unset] [(.int (1 : Int32))])) t
          refine XS.istore X171.here hx rfl (hb hby at_252) rfl (l' := #[.val (.int p1), .val (.int p2), .val (.int p3), .val (.int p4), .val (.int p5), .val (.ref b1), .val (.ref b10), .val (.long ca2), .second, .val (.long sa2), .second, .val (.long ca4), .second, .val (.long sa4), .second, .val (.int (((p1.toUInt32 >>> ((4 : Int32) &&& 31).toUInt32).toInt32) &&& (3 : Int32))), .val (.ref b10), .val (.int (0 : Int32)), .val (.int (1 : Int32))]) rfl ?_
          show Steps p.tables e below (T171.setTop (mkF m 254 #[.val (.int p1), .val (.int p2), .val (.int p3), .val (.int p4), .val (.int p5), .val (.ref b1), .val (.ref b10), .val (.long ca2), .second, .val (.long sa2), .second, .val (.long ca4), .second, .val (.long sa4), .second, .val (.int (((p1.toUInt32 >>> ((4 : Int32) &&& 31).toUInt32).toInt32) &&& (3 : Int32))), .val (.ref b10), .val (.int (0 : Int32)), .val (.int (1 : Int32))] [])) t
          refine XS.iload X171.here hx rfl (hb hby at_254) rfl ?_
          show Steps p.tables e below (T171.setTop (mkF m 256 #[.val (.int p1), .val (.int p2), .val (.int p3), .val (.int p4), .val (.int p5), .val (.ref b1), .val (.ref b10), .val (.long ca2), .second, .val (.long sa2), .second, .val (.long ca4), .second, .val (.long sa4), .second, .val (.int (((p1.toUInt32 >>> ((4 : Int32) &&& 31).toUInt32).toInt32) &&& (3 : Int32))), .val (.ref b10), .val (.int (0 : Int32)), .val (.int (1 : Int32))] [(.int (((p1.toUInt32 >>> ((4 : Int32) &&& 31).toUInt32).toInt32) &&& (3 : Int32)))])) t
          refine XS.ifNo X171.here hx rfl (hb hby at_256) rfl ((if0 _ _).trans (teq hc162_151).2) ?_
          show Steps p.tables e below (T171.setTop (mkF m 259 #[.val (.int p1), .val (.int p2), .val (.int p3), .val (.int p4), .val (.int p5), .val (.ref b1), .val (.ref b10), .val (.long ca2), .second, .val (.long sa2), .second, .val (.long ca4), .second, .val (.long sa4), .second, .val (.int (((p1.toUInt32 >>> ((4 : Int32) &&& 31).toUInt32).toInt32) &&& (3 : Int32))), .val (.ref b10), .val (.int (0 : Int32)), .val (.int (1 : Int32))] [])) t
          refine XS.iload X171.here hx rfl (hb hby at_259) rfl ?_
          show Steps p.tables e below (T171.setTop (mkF m 261 #[.val (.int p1), .val (.int p2), .val (.int p3), .val (.int p4), .val (.int p5), .val (.ref b1), .val (.ref b10), .val (.long ca2), .second, .val (.long sa2), .second, .val (.long ca4), .second, .val (.long sa4), .second, .val (.int (((p1.toUInt32 >>> ((4 : Int32) &&& 31).toUInt32).toInt32) &&& (3 : Int32))), .val (.ref b10), .val (.int (0 : Int32)), .val (.int (1 : Int32))] [(.int (1 : Int32))])) t
          refine XS.ifNo X171.here hx rfl (hb hby at_261) rfl ((if0 _ _).trans (feq hc261_176).1) ?_
          show Steps p.tables e below (T171.setTop (mkF m 264 #[.val (.int p1), .val (.int p2), .val (.int p3), .val (.int p4), .val (.int p5), .val (.ref b1), .val (.ref b10), .val (.long ca2), .second, .val (.long sa2), .second, .val (.long ca4), .second, .val (.long sa4), .second, .val (.int (((p1.toUInt32 >>> ((4 : Int32) &&& 31).toUInt32).toInt32) &&& (3 : Int32))), .val (.ref b10), .val (.int (0 : Int32)), .val (.int (1 : Int32))] [])) t
          refine XS.aload X171.here hx rfl (hb hby at_264) rfl rfl ?_
          show Steps p.tables e below (T171.setTop (mkF m 266 #[.val (.int p1), .val (.int p2), .val (.int p3), .val (.int p4), .val (.int p5), .val (.ref b1), .val (.ref b10), .val (.long ca2), .second, .val (.long sa2), .second, .val (.long ca4), .second, .val (.long sa4), .second, .val (.int (((p1.toUInt32 >>> ((4 : Int32) &&& 31).toUInt32).toInt32) &&& (3 : Int32))), .val (.ref b10), .val (.int (0 : Int32)), .val (.int (1 : Int32))] [(.ref b10)])) t
          refine XS.aload X171.here hx rfl (hb hby at_266) rfl rfl ?_
          exact kt
        obtain ⟨cq178, kq178, q178a, q178b, q178c⟩ := isOf hZ e171 Fh119_6
        obtain ⟨_, _, ⟨T178, L178, k178c, n178⟩, -, X178, ⟨Lc178, hQ178, l178, y178, z178⟩, st178⟩ := X171.virtualBack hx (y := (⟨"com/example/disk_to_queue/disktoqueue/bench/BodySum", "equals", "(Ljava/lang/Object;)Z"⟩ : MethodName)) (z := (⟨"com/example/disk_to_queue/disktoqueue/bench/BodySum", "equals", "(Ljava/lang/Object;)Z"⟩ : MethodName)) hown (mvT hZ (hw _ (List.mem_of_getElem? (i := 9) rfl))) (mvT hZ (hw _ (List.mem_of_getElem? (i := 10) rfl))) (notFace_of_selects (args := #[]) (mvT hZ (hw _ (List.mem_of_getElem? (i := 12) rfl)))) (mvT hZ (hw _ (List.mem_of_getElem? (i := 12) rfl))) (mvT hZ (hw _ (List.mem_of_getElem? (i := 11) rfl))) (by decide) (backOf (W := 0) (rmQ l Z a0 hw [] b10 b1 ca4 sa4 ca2 sa2 h119 n0 Z119 Fh119_4 Fh119_5 Fh119_1 Fh119_2 Fh119_3) hZ (hw _ (List.mem_of_getElem? (i := 13) rfl)) (hw _ (List.mem_of_getElem? (i := 2) rfl)) (by decide) (by decide)) q178a q178c (g := (mkF m 268 #[.val (.int p1), .val (.int p2), .val (.int p3), .val (.int p4), .val (.int p5), .val (.ref b1), .val (.ref b10), .val (.long ca2), .second, .val (.long sa2), .second, .val (.long ca4), .second, .val (.long sa4), .second, .val (.int (((p1.toUInt32 >>> ((4 : Int32) &&& 31).toUInt32).toInt32) &&& (3 : Int32))), .val (.ref b10), .val (.int (0 : Int32)), .val (.int (1 : Int32))] [(.ref b1), (.ref b10)])) rfl (by rw [hml]; rfl) (Steps.refl _) (argsL := [(.ref b1)]) (rest := []) (lenOf own_pd5 rfl) rfl (by show 2 * 0 + _ ≤ _; exact Nat.le_of_eq rfl) (hb hby at_268) (fun _ _ => ⟨rfl, e171, (by decide : 6 + 0 ≤ _), (by decide : 12 + 0 ≤ _)⟩)
        dsimp only [Pt.U, Pt.locs, Pt.cells, Pt.slots] at X178 l178 y178 z178 st178 hQ178
        subst l178 y178 z178
        obtain ⟨rfl, N178q, e178⟩ := hQ178
        have N178 := Fr.app N171 N178q
        have k179 : ∀ t, Steps p.tables e below (T178.setTop (mkF m 271 #[.val (.int p1), .val (.int p2), .val (.int p3), .val (.int p4), .val (.int p5), .val (.ref b1), .val (.ref b10), .val (.long ca2), .second, .val (.long sa2), .second, .val (.long ca4), .second, .val (.long sa4), .second, .val (.int (((p1.toUInt32 >>> ((4 : Int32) &&& 31).toUInt32).toInt32) &&& (3 : Int32))), .val (.ref b10), .val (.int (0 : Int32)), .val (.int (1 : Int32))] [(.int (own_eq ca4 sa4 ca2 sa2))])) t → Steps p.tables e below (s₁.setTop (entryFrame m #[(.int p1), (.int p2), (.int p3), (.int p4), (.int p5)] maxLocals)) t := fun t kt => k177 t (st178.trans kt)
        have k181 : ∀ t, Steps p.tables e below (T178.setTop (mkF m 273 #[.val (.int p1), .val (.int p2), .val (.int p3), .val (.int p4), .val (.int p5), .val (.ref b1), .val (.ref b10), .val (.long ca2), .second, .val (.long sa2), .second, .val (.long ca4), .second, .val (.long sa4), .second, .val (.int (((p1.toUInt32 >>> ((4 : Int32) &&& 31).toUInt32).toInt32) &&& (3 : Int32))), .val (.ref b10), .val (.int (0 : Int32)), .val (.int (1 : Int32))] [(.int (0 : Int32)), (.int (own_eq ca4 sa4 ca2 sa2))])) t → Steps p.tables e below (s₁.setTop (entryFrame m #[(.int p1), (.int p2), (.int p3), (.int p4), (.int p5)] maxLocals)) t := by
          intro t kt
          refine k179 t ?_
          show Steps p.tables e below (T178.setTop (mkF m 271 #[.val (.int p1), .val (.int p2), .val (.int p3), .val (.int p4), .val (.int p5), .val (.ref b1), .val (.ref b10), .val (.long ca2), .second, .val (.long sa2), .second, .val (.long ca4), .second, .val (.long sa4), .second, .val (.int (((p1.toUInt32 >>> ((4 : Int32) &&& 31).toUInt32).toInt32) &&& (3 : Int32))), .val (.ref b10), .val (.int (0 : Int32)), .val (.int (1 : Int32))] [(.int (own_eq ca4 sa4 ca2 sa2))])) t
          refine XS.iload X178.here hx rfl (hb hby at_271) rfl ?_
          exact kt
        have hc273_180 : (own_eq ca4 sa4 ca2 sa2) = (0 : Int32) := by unfold own_eq; rw [if_neg fun z => hc182_155 ((lw_eq _ _).mpr z.2)]
        have k182 : ∀ t, Steps p.tables e below (T178.setTop (mkF m 285 #[.val (.int p1), .val (.int p2), .val (.int p3), .val (.int p4), .val (.int p5), .val (.ref b1), .val (.ref b10), .val (.long ca2), .second, .val (.long sa2), .second, .val (.long ca4), .second, .val (.long sa4), .second, .val (.int (((p1.toUInt32 >>> ((4 : Int32) &&& 31).toUInt32).toInt32) &&& (3 : Int32))), .val (.ref b10), .val (.int (0 : Int32)), .val (.int (1 : Int32))] [(.int (1 : Int32))])) t → Steps p.tables e below (s₁.setTop (entryFrame m #[(.int p1), (.int p2), (.int p3), (.int p4), (.int p5)] maxLocals)) t := by
          intro t kt
          refine k181 t ?_
          show Steps p.tables e below (T178.setTop (mkF m 273 #[.val (.int p1), .val (.int p2), .val (.int p3), .val (.int p4), .val (.int p5), .val (.ref b1), .val (.ref b10), .val (.long ca2), .second, .val (.long sa2), .second, .val (.long ca4), .second, .val (.long sa4), .second, .val (.int (((p1.toUInt32 >>> ((4 : Int32) &&& 31).toUInt32).toInt32) &&& (3 : Int32))), .val (.ref b10), .val (.int (0 : Int32)), .val (.int (1 : Int32))] [(.int (0 : Int32)), (.int (own_eq ca4 sa4 ca2 sa2))])) t
          refine XS.icmpNo X178.here hx rfl (hb hby at_273) rfl (teq hc273_180).2 ?_
          show Steps p.tables e below (T178.setTop (mkF m 276 #[.val (.int p1), .val (.int p2), .val (.int p3), .val (.int p4), .val (.int p5), .val (.ref b1), .val (.ref b10), .val (.long ca2), .second, .val (.long sa2), .second, .val (.long ca4), .second, .val (.long sa4), .second, .val (.int (((p1.toUInt32 >>> ((4 : Int32) &&& 31).toUInt32).toInt32) &&& (3 : Int32))), .val (.ref b10), .val (.int (0 : Int32)), .val (.int (1 : Int32))] [])) t
          refine XS.iconst X178.here hx rfl (hb hby at_276) ?_
          show Steps p.tables e below (T178.setTop (mkF m 277 #[.val (.int p1), .val (.int p2), .val (.int p3), .val (.int p4), .val (.int p5), .val (.ref b1), .val (.ref b10), .val (.long ca2), .second, .val (.long sa2), .second, .val (.long ca4), .second, .val (.long sa4), .second, .val (.int (((p1.toUInt32 >>> ((4 : Int32) &&& 31).toUInt32).toInt32) &&& (3 : Int32))), .val (.ref b10), .val (.int (0 : Int32)), .val (.int (1 : Int32))] [(.int (1 : Int32))])) t
          refine XS.goto X178.here hx rfl (pc0 := 277) (pc' := 281) rfl (hb hby at_277) (by decide) (by decide) ?_
          show Steps p.tables e below (T178.setTop (mkF m 281 #[.val (.int p1), .val (.int p2), .val (.int p3), .val (.int p4), .val (.int p5), .val (.ref b1), .val (.ref b10), .val (.long ca2), .second, .val (.long sa2), .second, .val (.long ca4), .second, .val (.long sa4), .second, .val (.int (((p1.toUInt32 >>> ((4 : Int32) &&& 31).toUInt32).toInt32) &&& (3 : Int32))), .val (.ref b10), .val (.int (0 : Int32)), .val (.int (1 : Int32))] [(.int (1 : Int32))])) t
          refine XS.istore X178.here hx rfl (hb hby at_281) rfl (l' := #[.val (.int p1), .val (.int p2), .val (.int p3), .val (.int p4), .val (.int p5), .val (.ref b1), .val (.ref b10), .val (.long ca2), .second, .val (.long sa2), .second, .val (.long ca4), .second, .val (.long sa4), .second, .val (.int (((p1.toUInt32 >>> ((4 : Int32) &&& 31).toUInt32).toInt32) &&& (3 : Int32))), .val (.ref b10), .val (.int (0 : Int32)), .val (.int (1 : Int32))]) rfl ?_
          show Steps p.tables e below (T178.setTop (mkF m 283 #[.val (.int p1), .val (.int p2), .val (.int p3), .val (.int p4), .val (.int p5), .val (.ref b1), .val (.ref b10), .val (.long ca2), .second, .val (.long sa2), .second, .val (.long ca4), .second, .val (.long sa4), .second, .val (.int (((p1.toUInt32 >>> ((4 : Int32) &&& 31).toUInt32).toInt32) &&& (3 : Int32))), .val (.ref b10), .val (.int (0 : Int32)), .val (.int (1 : Int32))] [])) t
          refine XS.iload X178.here hx rfl (hb hby at_283) rfl ?_
          exact kt
        obtain ⟨fs, hr, hrun, hended, hW, hsame⟩ := X178.leave (v := some (.int (1 : Int32))) (fun h => by rw [Bd.returns] at h; cases h)
        refine ⟨_, _, k182 _ ?_, hrun, hended, _, _, rfl, ?_, ⟨_, rfl⟩, hW, hsame.mono (by decide) (by decide)⟩
        · show Steps p.tables e below (T178.setTop (mkF m 285 #[.val (.int p1), .val (.int p2), .val (.int p3), .val (.int p4), .val (.int p5), .val (.ref b1), .val (.ref b10), .val (.long ca2), .second, .val (.long sa2), .second, .val (.long ca4), .second, .val (.long sa4), .second, .val (.int (((p1.toUInt32 >>> ((4 : Int32) &&& 31).toUInt32).toInt32) &&& (3 : Int32))), .val (.ref b10), .val (.int (0 : Int32)), .val (.int (1 : Int32))] [(.int (1 : Int32))])) _
          exact retN X178 hx (t := .boolean) Bd.returns (by simp) (hb hby at_285) hr
        · show Q0 Z p1 p2 p3 p4 p5 aC clC h0 n0 _ T178.heap _
          rw [e178]
          exact ⟨rfl, N178⟩
    · have k183 : ∀ t, Steps p.tables e below (T119.setTop (mkF m 239 #[.val (.int p1), .val (.int p2), .val (.int p3), .val (.int p4), .val (.int p5), .val (.ref b1), .val (.ref b10), .val (.long ca2), .second, .val (.long sa2), .second, .val (.long ca4), .second, .val (.long sa4), .second, .val (.int (((p1.toUInt32 >>> ((4 : Int32) &&& 31).toUInt32).toInt32) &&& (3 : Int32))), .val (.ref b10), .val (.int (0 : Int32)), .unset] [(.ref b10), (.ref b1)])) t → Steps p.tables e below (s₁.setTop (entryFrame m #[(.int p1), (.int p2), (.int p3), (.int p4), (.int p5)] maxLocals)) t := by
        intro t kt
        refine k154 t ?_
        show Steps p.tables e below (T119.setTop (mkF m 174 #[.val (.int p1), .val (.int p2), .val (.int p3), .val (.int p4), .val (.int p5), .val (.ref b1), .val (.ref b10), .val (.long ca2), .second, .val (.long sa2), .second, .val (.long ca4), .second, .val (.long sa4), .second, .val (.int (((p1.toUInt32 >>> ((4 : Int32) &&& 31).toUInt32).toInt32) &&& (3 : Int32))), .val (.ref b10), .unset, .unset] [(.int (lcmpW ca2 ca4))])) t
        refine XS.ifYes X119.here hx rfl (pc0 := 174) (pc' := 189) rfl (hb hby at_174) rfl ((if0 _ _).trans (feq hc174_153).2) (by decide) (by decide) ?_
        show Steps p.tables e below (T119.setTop (mkF m 189 #[.val (.int p1), .val (.int p2), .val (.int p3), .val (.int p4), .val (.int p5), .val (.ref b1), .val (.ref b10), .val (.long ca2), .second, .val (.long sa2), .second, .val (.long ca4), .second, .val (.long sa4), .second, .val (.int (((p1.toUInt32 >>> ((4 : Int32) &&& 31).toUInt32).toInt32) &&& (3 : Int32))), .val (.ref b10), .unset, .unset] [])) t
        refine XS.iconst X119.here hx rfl (hb hby at_189) ?_
        show Steps p.tables e below (T119.setTop (mkF m 190 #[.val (.int p1), .val (.int p2), .val (.int p3), .val (.int p4), .val (.int p5), .val (.ref b1), .val (.ref b10), .val (.long ca2), .second, .val (.long sa2), .second, .val (.long ca4), .second, .val (.long sa4), .second, .val (.int (((p1.toUInt32 >>> ((4 : Int32) &&& 31).toUInt32).toInt32) &&& (3 : Int32))), .val (.ref b10), .unset, .unset] [(.int (0 : Int32))])) t
        refine XS.istore X119.here hx rfl (hb hby at_190) rfl (l' := #[.val (.int p1), .val (.int p2), .val (.int p3), .val (.int p4), .val (.int p5), .val (.ref b1), .val (.ref b10), .val (.long ca2), .second, .val (.long sa2), .second, .val (.long ca4), .second, .val (.long sa4), .second, .val (.int (((p1.toUInt32 >>> ((4 : Int32) &&& 31).toUInt32).toInt32) &&& (3 : Int32))), .val (.ref b10), .val (.int (0 : Int32)), .unset]) rfl ?_
        show Steps p.tables e below (T119.setTop (mkF m 192 #[.val (.int p1), .val (.int p2), .val (.int p3), .val (.int p4), .val (.int p5), .val (.ref b1), .val (.ref b10), .val (.long ca2), .second, .val (.long sa2), .second, .val (.long ca4), .second, .val (.long sa4), .second, .val (.int (((p1.toUInt32 >>> ((4 : Int32) &&& 31).toUInt32).toInt32) &&& (3 : Int32))), .val (.ref b10), .val (.int (0 : Int32)), .unset] [])) t
        refine XS.goto X119.here hx rfl (pc0 := 192) (pc' := 235) rfl (hb hby at_192) (by decide) (by decide) ?_
        show Steps p.tables e below (T119.setTop (mkF m 235 #[.val (.int p1), .val (.int p2), .val (.int p3), .val (.int p4), .val (.int p5), .val (.ref b1), .val (.ref b10), .val (.long ca2), .second, .val (.long sa2), .second, .val (.long ca4), .second, .val (.long sa4), .second, .val (.int (((p1.toUInt32 >>> ((4 : Int32) &&& 31).toUInt32).toInt32) &&& (3 : Int32))), .val (.ref b10), .val (.int (0 : Int32)), .unset] [])) t
        refine XS.aload X119.here hx rfl (hb hby at_235) rfl rfl ?_
        show Steps p.tables e below (T119.setTop (mkF m 237 #[.val (.int p1), .val (.int p2), .val (.int p3), .val (.int p4), .val (.int p5), .val (.ref b1), .val (.ref b10), .val (.long ca2), .second, .val (.long sa2), .second, .val (.long ca4), .second, .val (.long sa4), .second, .val (.int (((p1.toUInt32 >>> ((4 : Int32) &&& 31).toUInt32).toInt32) &&& (3 : Int32))), .val (.ref b10), .val (.int (0 : Int32)), .unset] [(.ref b1)])) t
        refine XS.aload X119.here hx rfl (hb hby at_237) rfl rfl ?_
        exact kt
      obtain ⟨cq184, kq184, q184a, q184b, q184c⟩ := isOf hZ e119 Fh119_3
      obtain ⟨_, _, ⟨T184, L184, k184c, n184⟩, -, X184, ⟨Lc184, hQ184, l184, y184, z184⟩, st184⟩ := X119.virtualBack hx (y := (⟨"com/example/disk_to_queue/disktoqueue/bench/BodySum", "equals", "(Ljava/lang/Object;)Z"⟩ : MethodName)) (z := (⟨"com/example/disk_to_queue/disktoqueue/bench/BodySum", "equals", "(Ljava/lang/Object;)Z"⟩ : MethodName)) hown (mvT hZ (hw _ (List.mem_of_getElem? (i := 9) rfl))) (mvT hZ (hw _ (List.mem_of_getElem? (i := 10) rfl))) (notFace_of_selects (args := #[]) (mvT hZ (hw _ (List.mem_of_getElem? (i := 12) rfl)))) (mvT hZ (hw _ (List.mem_of_getElem? (i := 12) rfl))) (mvT hZ (hw _ (List.mem_of_getElem? (i := 11) rfl))) (by decide) (backOf (W := 0) (rmQ l Z a0 hw [] b1 b10 ca2 sa2 ca4 sa4 h119 n0 Z119 Fh119_1 Fh119_2 Fh119_4 Fh119_5 Fh119_6) hZ (hw _ (List.mem_of_getElem? (i := 13) rfl)) (hw _ (List.mem_of_getElem? (i := 2) rfl)) (by decide) (by decide)) q184a q184c (g := (mkF m 239 #[.val (.int p1), .val (.int p2), .val (.int p3), .val (.int p4), .val (.int p5), .val (.ref b1), .val (.ref b10), .val (.long ca2), .second, .val (.long sa2), .second, .val (.long ca4), .second, .val (.long sa4), .second, .val (.int (((p1.toUInt32 >>> ((4 : Int32) &&& 31).toUInt32).toInt32) &&& (3 : Int32))), .val (.ref b10), .val (.int (0 : Int32)), .unset] [(.ref b10), (.ref b1)])) rfl (by rw [hml]; rfl) (Steps.refl _) (argsL := [(.ref b10)]) (rest := []) (lenOf own_pd5 rfl) rfl (by show 2 * 0 + _ ≤ _; exact Nat.le_of_eq rfl) (hb hby at_239) (fun _ _ => ⟨rfl, e119, (by decide : 6 + 0 ≤ _), (by decide : 12 + 0 ≤ _)⟩)
      dsimp only [Pt.U, Pt.locs, Pt.cells, Pt.slots] at X184 l184 y184 z184 st184 hQ184
      subst l184 y184 z184
      obtain ⟨rfl, N184q, e184⟩ := hQ184
      have N184 := Fr.app N119 N184q
      have k185 : ∀ t, Steps p.tables e below (T184.setTop (mkF m 242 #[.val (.int p1), .val (.int p2), .val (.int p3), .val (.int p4), .val (.int p5), .val (.ref b1), .val (.ref b10), .val (.long ca2), .second, .val (.long sa2), .second, .val (.long ca4), .second, .val (.long sa4), .second, .val (.int (((p1.toUInt32 >>> ((4 : Int32) &&& 31).toUInt32).toInt32) &&& (3 : Int32))), .val (.ref b10), .val (.int (0 : Int32)), .unset] [(.int (own_eq ca2 sa2 ca4 sa4))])) t → Steps p.tables e below (s₁.setTop (entryFrame m #[(.int p1), (.int p2), (.int p3), (.int p4), (.int p5)] maxLocals)) t := fun t kt => k183 t (st184.trans kt)
      have k187 : ∀ t, Steps p.tables e below (T184.setTop (mkF m 244 #[.val (.int p1), .val (.int p2), .val (.int p3), .val (.int p4), .val (.int p5), .val (.ref b1), .val (.ref b10), .val (.long ca2), .second, .val (.long sa2), .second, .val (.long ca4), .second, .val (.long sa4), .second, .val (.int (((p1.toUInt32 >>> ((4 : Int32) &&& 31).toUInt32).toInt32) &&& (3 : Int32))), .val (.ref b10), .val (.int (0 : Int32)), .unset] [(.int (0 : Int32)), (.int (own_eq ca2 sa2 ca4 sa4))])) t → Steps p.tables e below (s₁.setTop (entryFrame m #[(.int p1), (.int p2), (.int p3), (.int p4), (.int p5)] maxLocals)) t := by
        intro t kt
        refine k185 t ?_
        show Steps p.tables e below (T184.setTop (mkF m 242 #[.val (.int p1), .val (.int p2), .val (.int p3), .val (.int p4), .val (.int p5), .val (.ref b1), .val (.ref b10), .val (.long ca2), .second, .val (.long sa2), .second, .val (.long ca4), .second, .val (.long sa4), .second, .val (.int (((p1.toUInt32 >>> ((4 : Int32) &&& 31).toUInt32).toInt32) &&& (3 : Int32))), .val (.ref b10), .val (.int (0 : Int32)), .unset] [(.int (own_eq ca2 sa2 ca4 sa4))])) t
        refine XS.iload X184.here hx rfl (hb hby at_242) rfl ?_
        exact kt
      have hc244_186 : (own_eq ca2 sa2 ca4 sa4) = (0 : Int32) := by unfold own_eq; rw [if_neg fun z => hc174_153 ((lw_eq _ _).mpr z.1.symm)]
      have hc261_189 : ¬ ((1 : Int32) = (0 : Int32)) := by decide
      have k190 : ∀ t, Steps p.tables e below (T184.setTop (mkF m 268 #[.val (.int p1), .val (.int p2), .val (.int p3), .val (.int p4), .val (.int p5), .val (.ref b1), .val (.ref b10), .val (.long ca2), .second, .val (.long sa2), .second, .val (.long ca4), .second, .val (.long sa4), .second, .val (.int (((p1.toUInt32 >>> ((4 : Int32) &&& 31).toUInt32).toInt32) &&& (3 : Int32))), .val (.ref b10), .val (.int (0 : Int32)), .val (.int (1 : Int32))] [(.ref b1), (.ref b10)])) t → Steps p.tables e below (s₁.setTop (entryFrame m #[(.int p1), (.int p2), (.int p3), (.int p4), (.int p5)] maxLocals)) t := by
        intro t kt
        refine k187 t ?_
        show Steps p.tables e below (T184.setTop (mkF m 244 #[.val (.int p1), .val (.int p2), .val (.int p3), .val (.int p4), .val (.int p5), .val (.ref b1), .val (.ref b10), .val (.long ca2), .second, .val (.long sa2), .second, .val (.long ca4), .second, .val (.long sa4), .second, .val (.int (((p1.toUInt32 >>> ((4 : Int32) &&& 31).toUInt32).toInt32) &&& (3 : Int32))), .val (.ref b10), .val (.int (0 : Int32)), .unset] [(.int (0 : Int32)), (.int (own_eq ca2 sa2 ca4 sa4))])) t
        refine XS.icmpNo X184.here hx rfl (hb hby at_244) rfl (teq hc244_186).2 ?_
        show Steps p.tables e below (T184.setTop (mkF m 247 #[.val (.int p1), .val (.int p2), .val (.int p3), .val (.int p4), .val (.int p5), .val (.ref b1), .val (.ref b10), .val (.long ca2), .second, .val (.long sa2), .second, .val (.long ca4), .second, .val (.long sa4), .second, .val (.int (((p1.toUInt32 >>> ((4 : Int32) &&& 31).toUInt32).toInt32) &&& (3 : Int32))), .val (.ref b10), .val (.int (0 : Int32)), .unset] [])) t
        refine XS.iconst X184.here hx rfl (hb hby at_247) ?_
        show Steps p.tables e below (T184.setTop (mkF m 248 #[.val (.int p1), .val (.int p2), .val (.int p3), .val (.int p4), .val (.int p5), .val (.ref b1), .val (.ref b10), .val (.long ca2), .second, .val (.long sa2), .second, .val (.long ca4), .second, .val (.long sa4), .second, .val (.int (((p1.toUInt32 >>> ((4 : Int32) &&& 31).toUInt32).toInt32) &&& (3 : Int32))), .val (.ref b10), .val (.int (0 : Int32)), .unset] [(.int (1 : Int32))])) t
        refine XS.goto X184.here hx rfl (pc0 := 248) (pc' := 252) rfl (hb hby at_248) (by decide) (by decide) ?_
        show Steps p.tables e below (T184.setTop (mkF m 252 #[.val (.int p1), .val (.int p2), .val (.int p3), .val (.int p4), .val (.int p5), .val (.ref b1), .val (.ref b10), .val (.long ca2), .second, .val (.long sa2), .second, .val (.long ca4), .second, .val (.long sa4), .second, .val (.int (((p1.toUInt32 >>> ((4 : Int32) &&& 31).toUInt32).toInt32) &&& (3 : Int32))), .val (.ref b10), .val (.int (0 : Int32)), .unset] [(.int (1 : Int32))])) t
        refine XS.istore X184.here hx rfl (hb hby at_252) rfl (l' := #[.val (.int p1), .val (.int p2), .val (.int p3), .val (.int p4), .val (.int p5), .val (.ref b1), .val (.ref b10), .val (.long ca2), .second, .val (.long sa2), .second, .val (.long ca4), .second, .val (.long sa4), .second, .val (.int (((p1.toUInt32 >>> ((4 : Int32) &&& 31).toUInt32).toInt32) &&& (3 : Int32))), .val (.ref b10), .val (.int (0 : Int32)), .val (.int (1 : Int32))]) rfl ?_
        show Steps p.tables e below (T184.setTop (mkF m 254 #[.val (.int p1), .val (.int p2), .val (.int p3), .val (.int p4), .val (.int p5), .val (.ref b1), .val (.ref b10), .val (.long ca2), .second, .val (.long sa2), .second, .val (.long ca4), .second, .val (.long sa4), .second, .val (.int (((p1.toUInt32 >>> ((4 : Int32) &&& 31).toUInt32).toInt32) &&& (3 : Int32))), .val (.ref b10), .val (.int (0 : Int32)), .val (.int (1 : Int32))] [])) t
        refine XS.iload X184.here hx rfl (hb hby at_254) rfl ?_
        show Steps p.tables e below (T184.setTop (mkF m 256 #[.val (.int p1), .val (.int p2), .val (.int p3), .val (.int p4), .val (.int p5), .val (.ref b1), .val (.ref b10), .val (.long ca2), .second, .val (.long sa2), .second, .val (.long ca4), .second, .val (.long sa4), .second, .val (.int (((p1.toUInt32 >>> ((4 : Int32) &&& 31).toUInt32).toInt32) &&& (3 : Int32))), .val (.ref b10), .val (.int (0 : Int32)), .val (.int (1 : Int32))] [(.int (((p1.toUInt32 >>> ((4 : Int32) &&& 31).toUInt32).toInt32) &&& (3 : Int32)))])) t
        refine XS.ifNo X184.here hx rfl (hb hby at_256) rfl ((if0 _ _).trans (teq hc162_151).2) ?_
        show Steps p.tables e below (T184.setTop (mkF m 259 #[.val (.int p1), .val (.int p2), .val (.int p3), .val (.int p4), .val (.int p5), .val (.ref b1), .val (.ref b10), .val (.long ca2), .second, .val (.long sa2), .second, .val (.long ca4), .second, .val (.long sa4), .second, .val (.int (((p1.toUInt32 >>> ((4 : Int32) &&& 31).toUInt32).toInt32) &&& (3 : Int32))), .val (.ref b10), .val (.int (0 : Int32)), .val (.int (1 : Int32))] [])) t
        refine XS.iload X184.here hx rfl (hb hby at_259) rfl ?_
        show Steps p.tables e below (T184.setTop (mkF m 261 #[.val (.int p1), .val (.int p2), .val (.int p3), .val (.int p4), .val (.int p5), .val (.ref b1), .val (.ref b10), .val (.long ca2), .second, .val (.long sa2), .second, .val (.long ca4), .second, .val (.long sa4), .second, .val (.int (((p1.toUInt32 >>> ((4 : Int32) &&& 31).toUInt32).toInt32) &&& (3 : Int32))), .val (.ref b10), .val (.int (0 : Int32)), .val (.int (1 : Int32))] [(.int (1 : Int32))])) t
        refine XS.ifNo X184.here hx rfl (hb hby at_261) rfl ((if0 _ _).trans (feq hc261_189).1) ?_
        show Steps p.tables e below (T184.setTop (mkF m 264 #[.val (.int p1), .val (.int p2), .val (.int p3), .val (.int p4), .val (.int p5), .val (.ref b1), .val (.ref b10), .val (.long ca2), .second, .val (.long sa2), .second, .val (.long ca4), .second, .val (.long sa4), .second, .val (.int (((p1.toUInt32 >>> ((4 : Int32) &&& 31).toUInt32).toInt32) &&& (3 : Int32))), .val (.ref b10), .val (.int (0 : Int32)), .val (.int (1 : Int32))] [])) t
        refine XS.aload X184.here hx rfl (hb hby at_264) rfl rfl ?_
        show Steps p.tables e below (T184.setTop (mkF m 266 #[.val (.int p1), .val (.int p2), .val (.int p3), .val (.int p4), .val (.int p5), .val (.ref b1), .val (.ref b10), .val (.long ca2), .second, .val (.long sa2), .second, .val (.long ca4), .second, .val (.long sa4), .second, .val (.int (((p1.toUInt32 >>> ((4 : Int32) &&& 31).toUInt32).toInt32) &&& (3 : Int32))), .val (.ref b10), .val (.int (0 : Int32)), .val (.int (1 : Int32))] [(.ref b10)])) t
        refine XS.aload X184.here hx rfl (hb hby at_266) rfl rfl ?_
        exact kt
      obtain ⟨cq191, kq191, q191a, q191b, q191c⟩ := isOf hZ e184 Fh119_6
      obtain ⟨_, _, ⟨T191, L191, k191c, n191⟩, -, X191, ⟨Lc191, hQ191, l191, y191, z191⟩, st191⟩ := X184.virtualBack hx (y := (⟨"com/example/disk_to_queue/disktoqueue/bench/BodySum", "equals", "(Ljava/lang/Object;)Z"⟩ : MethodName)) (z := (⟨"com/example/disk_to_queue/disktoqueue/bench/BodySum", "equals", "(Ljava/lang/Object;)Z"⟩ : MethodName)) hown (mvT hZ (hw _ (List.mem_of_getElem? (i := 9) rfl))) (mvT hZ (hw _ (List.mem_of_getElem? (i := 10) rfl))) (notFace_of_selects (args := #[]) (mvT hZ (hw _ (List.mem_of_getElem? (i := 12) rfl)))) (mvT hZ (hw _ (List.mem_of_getElem? (i := 12) rfl))) (mvT hZ (hw _ (List.mem_of_getElem? (i := 11) rfl))) (by decide) (backOf (W := 0) (rmQ l Z a0 hw [] b10 b1 ca4 sa4 ca2 sa2 h119 n0 Z119 Fh119_4 Fh119_5 Fh119_1 Fh119_2 Fh119_3) hZ (hw _ (List.mem_of_getElem? (i := 13) rfl)) (hw _ (List.mem_of_getElem? (i := 2) rfl)) (by decide) (by decide)) q191a q191c (g := (mkF m 268 #[.val (.int p1), .val (.int p2), .val (.int p3), .val (.int p4), .val (.int p5), .val (.ref b1), .val (.ref b10), .val (.long ca2), .second, .val (.long sa2), .second, .val (.long ca4), .second, .val (.long sa4), .second, .val (.int (((p1.toUInt32 >>> ((4 : Int32) &&& 31).toUInt32).toInt32) &&& (3 : Int32))), .val (.ref b10), .val (.int (0 : Int32)), .val (.int (1 : Int32))] [(.ref b1), (.ref b10)])) rfl (by rw [hml]; rfl) (Steps.refl _) (argsL := [(.ref b1)]) (rest := []) (lenOf own_pd5 rfl) rfl (by show 2 * 0 + _ ≤ _; exact Nat.le_of_eq rfl) (hb hby at_268) (fun _ _ => ⟨rfl, e184, (by decide : 6 + 0 ≤ _), (by decide : 12 + 0 ≤ _)⟩)
      dsimp only [Pt.U, Pt.locs, Pt.cells, Pt.slots] at X191 l191 y191 z191 st191 hQ191
      subst l191 y191 z191
      obtain ⟨rfl, N191q, e191⟩ := hQ191
      have N191 := Fr.app N184 N191q
      have k192 : ∀ t, Steps p.tables e below (T191.setTop (mkF m 271 #[.val (.int p1), .val (.int p2), .val (.int p3), .val (.int p4), .val (.int p5), .val (.ref b1), .val (.ref b10), .val (.long ca2), .second, .val (.long sa2), .second, .val (.long ca4), .second, .val (.long sa4), .second, .val (.int (((p1.toUInt32 >>> ((4 : Int32) &&& 31).toUInt32).toInt32) &&& (3 : Int32))), .val (.ref b10), .val (.int (0 : Int32)), .val (.int (1 : Int32))] [(.int (own_eq ca4 sa4 ca2 sa2))])) t → Steps p.tables e below (s₁.setTop (entryFrame m #[(.int p1), (.int p2), (.int p3), (.int p4), (.int p5)] maxLocals)) t := fun t kt => k190 t (st191.trans kt)
      have k194 : ∀ t, Steps p.tables e below (T191.setTop (mkF m 273 #[.val (.int p1), .val (.int p2), .val (.int p3), .val (.int p4), .val (.int p5), .val (.ref b1), .val (.ref b10), .val (.long ca2), .second, .val (.long sa2), .second, .val (.long ca4), .second, .val (.long sa4), .second, .val (.int (((p1.toUInt32 >>> ((4 : Int32) &&& 31).toUInt32).toInt32) &&& (3 : Int32))), .val (.ref b10), .val (.int (0 : Int32)), .val (.int (1 : Int32))] [(.int (0 : Int32)), (.int (own_eq ca4 sa4 ca2 sa2))])) t → Steps p.tables e below (s₁.setTop (entryFrame m #[(.int p1), (.int p2), (.int p3), (.int p4), (.int p5)] maxLocals)) t := by
        intro t kt
        refine k192 t ?_
        show Steps p.tables e below (T191.setTop (mkF m 271 #[.val (.int p1), .val (.int p2), .val (.int p3), .val (.int p4), .val (.int p5), .val (.ref b1), .val (.ref b10), .val (.long ca2), .second, .val (.long sa2), .second, .val (.long ca4), .second, .val (.long sa4), .second, .val (.int (((p1.toUInt32 >>> ((4 : Int32) &&& 31).toUInt32).toInt32) &&& (3 : Int32))), .val (.ref b10), .val (.int (0 : Int32)), .val (.int (1 : Int32))] [(.int (own_eq ca4 sa4 ca2 sa2))])) t
        refine XS.iload X191.here hx rfl (hb hby at_271) rfl ?_
        exact kt
      have hc273_193 : (own_eq ca4 sa4 ca2 sa2) = (0 : Int32) := by unfold own_eq; rw [if_neg fun z => hc174_153 ((lw_eq _ _).mpr z.1)]
      have k195 : ∀ t, Steps p.tables e below (T191.setTop (mkF m 285 #[.val (.int p1), .val (.int p2), .val (.int p3), .val (.int p4), .val (.int p5), .val (.ref b1), .val (.ref b10), .val (.long ca2), .second, .val (.long sa2), .second, .val (.long ca4), .second, .val (.long sa4), .second, .val (.int (((p1.toUInt32 >>> ((4 : Int32) &&& 31).toUInt32).toInt32) &&& (3 : Int32))), .val (.ref b10), .val (.int (0 : Int32)), .val (.int (1 : Int32))] [(.int (1 : Int32))])) t → Steps p.tables e below (s₁.setTop (entryFrame m #[(.int p1), (.int p2), (.int p3), (.int p4), (.int p5)] maxLocals)) t := by
        intro t kt
        refine k194 t ?_
        show Steps p.tables e below (T191.setTop (mkF m 273 #[.val (.int p1), .val (.int p2), .val (.int p3), .val (.int p4), .val (.int p5), .val (.ref b1), .val (.ref b10), .val (.long ca2), .second, .val (.long sa2), .second, .val (.long ca4), .second, .val (.long sa4), .second, .val (.int (((p1.toUInt32 >>> ((4 : Int32) &&& 31).toUInt32).toInt32) &&& (3 : Int32))), .val (.ref b10), .val (.int (0 : Int32)), .val (.int (1 : Int32))] [(.int (0 : Int32)), (.int (own_eq ca4 sa4 ca2 sa2))])) t
        refine XS.icmpNo X191.here hx rfl (hb hby at_273) rfl (teq hc273_193).2 ?_
        show Steps p.tables e below (T191.setTop (mkF m 276 #[.val (.int p1), .val (.int p2), .val (.int p3), .val (.int p4), .val (.int p5), .val (.ref b1), .val (.ref b10), .val (.long ca2), .second, .val (.long sa2), .second, .val (.long ca4), .second, .val (.long sa4), .second, .val (.int (((p1.toUInt32 >>> ((4 : Int32) &&& 31).toUInt32).toInt32) &&& (3 : Int32))), .val (.ref b10), .val (.int (0 : Int32)), .val (.int (1 : Int32))] [])) t
        refine XS.iconst X191.here hx rfl (hb hby at_276) ?_
        show Steps p.tables e below (T191.setTop (mkF m 277 #[.val (.int p1), .val (.int p2), .val (.int p3), .val (.int p4), .val (.int p5), .val (.ref b1), .val (.ref b10), .val (.long ca2), .second, .val (.long sa2), .second, .val (.long ca4), .second, .val (.long sa4), .second, .val (.int (((p1.toUInt32 >>> ((4 : Int32) &&& 31).toUInt32).toInt32) &&& (3 : Int32))), .val (.ref b10), .val (.int (0 : Int32)), .val (.int (1 : Int32))] [(.int (1 : Int32))])) t
        refine XS.goto X191.here hx rfl (pc0 := 277) (pc' := 281) rfl (hb hby at_277) (by decide) (by decide) ?_
        show Steps p.tables e below (T191.setTop (mkF m 281 #[.val (.int p1), .val (.int p2), .val (.int p3), .val (.int p4), .val (.int p5), .val (.ref b1), .val (.ref b10), .val (.long ca2), .second, .val (.long sa2), .second, .val (.long ca4), .second, .val (.long sa4), .second, .val (.int (((p1.toUInt32 >>> ((4 : Int32) &&& 31).toUInt32).toInt32) &&& (3 : Int32))), .val (.ref b10), .val (.int (0 : Int32)), .val (.int (1 : Int32))] [(.int (1 : Int32))])) t
        refine XS.istore X191.here hx rfl (hb hby at_281) rfl (l' := #[.val (.int p1), .val (.int p2), .val (.int p3), .val (.int p4), .val (.int p5), .val (.ref b1), .val (.ref b10), .val (.long ca2), .second, .val (.long sa2), .second, .val (.long ca4), .second, .val (.long sa4), .second, .val (.int (((p1.toUInt32 >>> ((4 : Int32) &&& 31).toUInt32).toInt32) &&& (3 : Int32))), .val (.ref b10), .val (.int (0 : Int32)), .val (.int (1 : Int32))]) rfl ?_
        show Steps p.tables e below (T191.setTop (mkF m 283 #[.val (.int p1), .val (.int p2), .val (.int p3), .val (.int p4), .val (.int p5), .val (.ref b1), .val (.ref b10), .val (.long ca2), .second, .val (.long sa2), .second, .val (.long ca4), .second, .val (.long sa4), .second, .val (.int (((p1.toUInt32 >>> ((4 : Int32) &&& 31).toUInt32).toInt32) &&& (3 : Int32))), .val (.ref b10), .val (.int (0 : Int32)), .val (.int (1 : Int32))] [])) t
        refine XS.iload X191.here hx rfl (hb hby at_283) rfl ?_
        exact kt
      obtain ⟨fs, hr, hrun, hended, hW, hsame⟩ := X191.leave (v := some (.int (1 : Int32))) (fun h => by rw [Bd.returns] at h; cases h)
      refine ⟨_, _, k195 _ ?_, hrun, hended, _, _, rfl, ?_, ⟨_, rfl⟩, hW, hsame.mono (by decide) (by decide)⟩
      · show Steps p.tables e below (T191.setTop (mkF m 285 #[.val (.int p1), .val (.int p2), .val (.int p3), .val (.int p4), .val (.int p5), .val (.ref b1), .val (.ref b10), .val (.long ca2), .second, .val (.long sa2), .second, .val (.long ca4), .second, .val (.long sa4), .second, .val (.int (((p1.toUInt32 >>> ((4 : Int32) &&& 31).toUInt32).toInt32) &&& (3 : Int32))), .val (.ref b10), .val (.int (0 : Int32)), .val (.int (1 : Int32))] [(.int (1 : Int32))])) _
        exact retN X191 hx (t := .boolean) Bd.returns (by simp) (hb hby at_285) hr
      · show Q0 Z p1 p2 p3 p4 p5 aC clC h0 n0 _ T191.heap _
        rw [e191]
        exact ⟨rfl, N191⟩
  · have k197 : ∀ t, Steps p.tables e below (T119.setTop (mkF m 198 #[.val (.int p1), .val (.int p2), .val (.int p3), .val (.int p4), .val (.int p5), .val (.ref b1), .val (.ref b10), .val (.long ca2), .second, .val (.long sa2), .second, .val (.long ca4), .second, .val (.long sa4), .second, .val (.int (((p1.toUInt32 >>> ((4 : Int32) &&& 31).toUInt32).toInt32) &&& (3 : Int32))), .unset, .unset, .unset] [(.int (1 : Int32)), (.int (((p1.toUInt32 >>> ((4 : Int32) &&& 31).toUInt32).toInt32) &&& (3 : Int32)))])) t → Steps p.tables e below (s₁.setTop (entryFrame m #[(.int p1), (.int p2), (.int p3), (.int p4), (.int p5)] maxLocals)) t := by
      intro t kt
      refine k152 t ?_
      show Steps p.tables e below (T119.setTop (mkF m 162 #[.val (.int p1), .val (.int p2), .val (.int p3), .val (.int p4), .val (.int p5), .val (.ref b1), .val (.ref b10), .val (.long ca2), .second, .val (.long sa2), .second, .val (.long ca4), .second, .val (.long sa4), .second, .val (.int (((p1.toUInt32 >>> ((4 : Int32) &&& 31).toUInt32).toInt32) &&& (3 : Int32))), .unset, .unset, .unset] [(.int (((p1.toUInt32 >>> ((4 : Int32) &&& 31).toUInt32).toInt32) &&& (3 : Int32)))])) t
      refine XS.ifYes X119.here hx rfl (pc0 := 162) (pc' := 195) rfl (hb hby at_162) rfl ((if0 _ _).trans (feq hc162_151).2) (by decide) (by decide) ?_
      show Steps p.tables e below (T119.setTop (mkF m 195 #[.val (.int p1), .val (.int p2), .val (.int p3), .val (.int p4), .val (.int p5), .val (.ref b1), .val (.ref b10), .val (.long ca2), .second, .val (.long sa2), .second, .val (.long ca4), .second, .val (.long sa4), .second, .val (.int (((p1.toUInt32 >>> ((4 : Int32) &&& 31).toUInt32).toInt32) &&& (3 : Int32))), .unset, .unset, .unset] [])) t
      refine XS.iload X119.here hx rfl (hb hby at_195) rfl ?_
      show Steps p.tables e below (T119.setTop (mkF m 197 #[.val (.int p1), .val (.int p2), .val (.int p3), .val (.int p4), .val (.int p5), .val (.ref b1), .val (.ref b10), .val (.long ca2), .second, .val (.long sa2), .second, .val (.long ca4), .second, .val (.long sa4), .second, .val (.int (((p1.toUInt32 >>> ((4 : Int32) &&& 31).toUInt32).toInt32) &&& (3 : Int32))), .unset, .unset, .unset] [(.int (((p1.toUInt32 >>> ((4 : Int32) &&& 31).toUInt32).toInt32) &&& (3 : Int32)))])) t
      refine XS.iconst X119.here hx rfl (hb hby at_197) ?_
      exact kt
    by_cases hc198_196 : (((p1.toUInt32 >>> ((4 : Int32) &&& 31).toUInt32).toInt32) &&& (3 : Int32)) = (1 : Int32)
    · have k198 : ∀ t, Steps p.tables e below (T119.setTop (mkF m 239 #[.val (.int p1), .val (.int p2), .val (.int p3), .val (.int p4), .val (.int p5), .val (.ref b1), .val (.ref b10), .val (.long ca2), .second, .val (.long sa2), .second, .val (.long ca4), .second, .val (.long sa4), .second, .val (.int (((p1.toUInt32 >>> ((4 : Int32) &&& 31).toUInt32).toInt32) &&& (3 : Int32))), .val .null, .val (.int (0 : Int32)), .unset] [.null, (.ref b1)])) t → Steps p.tables e below (s₁.setTop (entryFrame m #[(.int p1), (.int p2), (.int p3), (.int p4), (.int p5)] maxLocals)) t := by
        intro t kt
        refine k197 t ?_
        show Steps p.tables e below (T119.setTop (mkF m 198 #[.val (.int p1), .val (.int p2), .val (.int p3), .val (.int p4), .val (.int p5), .val (.ref b1), .val (.ref b10), .val (.long ca2), .second, .val (.long sa2), .second, .val (.long ca4), .second, .val (.long sa4), .second, .val (.int (((p1.toUInt32 >>> ((4 : Int32) &&& 31).toUInt32).toInt32) &&& (3 : Int32))), .unset, .unset, .unset] [(.int (1 : Int32)), (.int (((p1.toUInt32 >>> ((4 : Int32) &&& 31).toUInt32).toInt32) &&& (3 : Int32)))])) t
        refine XS.icmpNo X119.here hx rfl (hb hby at_198) rfl (teq hc198_196).2 ?_
        show Steps p.tables e below (T119.setTop (mkF m 201 #[.val (.int p1), .val (.int p2), .val (.int p3), .val (.int p4), .val (.int p5), .val (.ref b1), .val (.ref b10), .val (.long ca2), .second, .val (.long sa2), .second, .val (.long ca4), .second, .val (.long sa4), .second, .val (.int (((p1.toUInt32 >>> ((4 : Int32) &&& 31).toUInt32).toInt32) &&& (3 : Int32))), .unset, .unset, .unset] [])) t
        refine XS.aconstNull X119.here hx rfl (hb hby at_201) ?_
        show Steps p.tables e below (T119.setTop (mkF m 202 #[.val (.int p1), .val (.int p2), .val (.int p3), .val (.int p4), .val (.int p5), .val (.ref b1), .val (.ref b10), .val (.long ca2), .second, .val (.long sa2), .second, .val (.long ca4), .second, .val (.long sa4), .second, .val (.int (((p1.toUInt32 >>> ((4 : Int32) &&& 31).toUInt32).toInt32) &&& (3 : Int32))), .unset, .unset, .unset] [.null])) t
        refine XS.astore X119.here hx rfl (hb hby at_202) rfl rfl (l' := #[.val (.int p1), .val (.int p2), .val (.int p3), .val (.int p4), .val (.int p5), .val (.ref b1), .val (.ref b10), .val (.long ca2), .second, .val (.long sa2), .second, .val (.long ca4), .second, .val (.long sa4), .second, .val (.int (((p1.toUInt32 >>> ((4 : Int32) &&& 31).toUInt32).toInt32) &&& (3 : Int32))), .val .null, .unset, .unset]) rfl ?_
        show Steps p.tables e below (T119.setTop (mkF m 204 #[.val (.int p1), .val (.int p2), .val (.int p3), .val (.int p4), .val (.int p5), .val (.ref b1), .val (.ref b10), .val (.long ca2), .second, .val (.long sa2), .second, .val (.long ca4), .second, .val (.long sa4), .second, .val (.int (((p1.toUInt32 >>> ((4 : Int32) &&& 31).toUInt32).toInt32) &&& (3 : Int32))), .val .null, .unset, .unset] [])) t
        refine XS.iconst X119.here hx rfl (hb hby at_204) ?_
        show Steps p.tables e below (T119.setTop (mkF m 205 #[.val (.int p1), .val (.int p2), .val (.int p3), .val (.int p4), .val (.int p5), .val (.ref b1), .val (.ref b10), .val (.long ca2), .second, .val (.long sa2), .second, .val (.long ca4), .second, .val (.long sa4), .second, .val (.int (((p1.toUInt32 >>> ((4 : Int32) &&& 31).toUInt32).toInt32) &&& (3 : Int32))), .val .null, .unset, .unset] [(.int (0 : Int32))])) t
        refine XS.istore X119.here hx rfl (hb hby at_205) rfl (l' := #[.val (.int p1), .val (.int p2), .val (.int p3), .val (.int p4), .val (.int p5), .val (.ref b1), .val (.ref b10), .val (.long ca2), .second, .val (.long sa2), .second, .val (.long ca4), .second, .val (.long sa4), .second, .val (.int (((p1.toUInt32 >>> ((4 : Int32) &&& 31).toUInt32).toInt32) &&& (3 : Int32))), .val .null, .val (.int (0 : Int32)), .unset]) rfl ?_
        show Steps p.tables e below (T119.setTop (mkF m 207 #[.val (.int p1), .val (.int p2), .val (.int p3), .val (.int p4), .val (.int p5), .val (.ref b1), .val (.ref b10), .val (.long ca2), .second, .val (.long sa2), .second, .val (.long ca4), .second, .val (.long sa4), .second, .val (.int (((p1.toUInt32 >>> ((4 : Int32) &&& 31).toUInt32).toInt32) &&& (3 : Int32))), .val .null, .val (.int (0 : Int32)), .unset] [])) t
        refine XS.goto X119.here hx rfl (pc0 := 207) (pc' := 235) rfl (hb hby at_207) (by decide) (by decide) ?_
        show Steps p.tables e below (T119.setTop (mkF m 235 #[.val (.int p1), .val (.int p2), .val (.int p3), .val (.int p4), .val (.int p5), .val (.ref b1), .val (.ref b10), .val (.long ca2), .second, .val (.long sa2), .second, .val (.long ca4), .second, .val (.long sa4), .second, .val (.int (((p1.toUInt32 >>> ((4 : Int32) &&& 31).toUInt32).toInt32) &&& (3 : Int32))), .val .null, .val (.int (0 : Int32)), .unset] [])) t
        refine XS.aload X119.here hx rfl (hb hby at_235) rfl rfl ?_
        show Steps p.tables e below (T119.setTop (mkF m 237 #[.val (.int p1), .val (.int p2), .val (.int p3), .val (.int p4), .val (.int p5), .val (.ref b1), .val (.ref b10), .val (.long ca2), .second, .val (.long sa2), .second, .val (.long ca4), .second, .val (.long sa4), .second, .val (.int (((p1.toUInt32 >>> ((4 : Int32) &&& 31).toUInt32).toInt32) &&& (3 : Int32))), .val .null, .val (.int (0 : Int32)), .unset] [(.ref b1)])) t
        refine XS.aload X119.here hx rfl (hb hby at_237) rfl rfl ?_
        exact kt
      obtain ⟨cq199, kq199, q199a, q199b, q199c⟩ := isOf hZ e119 Fh119_3
      obtain ⟨_, _, ⟨T199, L199, k199c, n199⟩, -, X199, ⟨Lc199, hQ199, l199, y199, z199⟩, st199⟩ := X119.virtualBack hx (y := (⟨"com/example/disk_to_queue/disktoqueue/bench/BodySum", "equals", "(Ljava/lang/Object;)Z"⟩ : MethodName)) (z := (⟨"com/example/disk_to_queue/disktoqueue/bench/BodySum", "equals", "(Ljava/lang/Object;)Z"⟩ : MethodName)) hown (mvT hZ (hw _ (List.mem_of_getElem? (i := 9) rfl))) (mvT hZ (hw _ (List.mem_of_getElem? (i := 10) rfl))) (notFace_of_selects (args := #[]) (mvT hZ (hw _ (List.mem_of_getElem? (i := 12) rfl)))) (mvT hZ (hw _ (List.mem_of_getElem? (i := 12) rfl))) (mvT hZ (hw _ (List.mem_of_getElem? (i := 11) rfl))) (by decide) (backOf (W := 0) (rmQN l Z a0 hw [] b1 h119 n0 Z119) hZ (hw _ (List.mem_of_getElem? (i := 13) rfl)) (hw _ (List.mem_of_getElem? (i := 2) rfl)) (by decide) (by decide)) q199a q199c (g := (mkF m 239 #[.val (.int p1), .val (.int p2), .val (.int p3), .val (.int p4), .val (.int p5), .val (.ref b1), .val (.ref b10), .val (.long ca2), .second, .val (.long sa2), .second, .val (.long ca4), .second, .val (.long sa4), .second, .val (.int (((p1.toUInt32 >>> ((4 : Int32) &&& 31).toUInt32).toInt32) &&& (3 : Int32))), .val .null, .val (.int (0 : Int32)), .unset] [.null, (.ref b1)])) rfl (by rw [hml]; rfl) (Steps.refl _) (argsL := [.null]) (rest := []) (lenOf own_pd5 rfl) rfl (by show 2 * 0 + _ ≤ _; exact Nat.le_of_eq rfl) (hb hby at_239) (fun _ _ => ⟨rfl, e119, (by decide : 6 + 0 ≤ _), (by decide : 12 + 0 ≤ _)⟩)
      dsimp only [Pt.U, Pt.locs, Pt.cells, Pt.slots] at X199 l199 y199 z199 st199 hQ199
      subst l199 y199 z199
      obtain ⟨rfl, N199q, e199⟩ := hQ199
      have N199 := Fr.app N119 N199q
      have k200 : ∀ t, Steps p.tables e below (T199.setTop (mkF m 242 #[.val (.int p1), .val (.int p2), .val (.int p3), .val (.int p4), .val (.int p5), .val (.ref b1), .val (.ref b10), .val (.long ca2), .second, .val (.long sa2), .second, .val (.long ca4), .second, .val (.long sa4), .second, .val (.int (((p1.toUInt32 >>> ((4 : Int32) &&& 31).toUInt32).toInt32) &&& (3 : Int32))), .val .null, .val (.int (0 : Int32)), .unset] [(.int (0 : Int32))])) t → Steps p.tables e below (s₁.setTop (entryFrame m #[(.int p1), (.int p2), (.int p3), (.int p4), (.int p5)] maxLocals)) t := fun t kt => k198 t (st199.trans kt)
      have k202 : ∀ t, Steps p.tables e below (T199.setTop (mkF m 244 #[.val (.int p1), .val (.int p2), .val (.int p3), .val (.int p4), .val (.int p5), .val (.ref b1), .val (.ref b10), .val (.long ca2), .second, .val (.long sa2), .second, .val (.long ca4), .second, .val (.long sa4), .second, .val (.int (((p1.toUInt32 >>> ((4 : Int32) &&& 31).toUInt32).toInt32) &&& (3 : Int32))), .val .null, .val (.int (0 : Int32)), .unset] [(.int (0 : Int32)), (.int (0 : Int32))])) t → Steps p.tables e below (s₁.setTop (entryFrame m #[(.int p1), (.int p2), (.int p3), (.int p4), (.int p5)] maxLocals)) t := by
        intro t kt
        refine k200 t ?_
        show Steps p.tables e below (T199.setTop (mkF m 242 #[.val (.int p1), .val (.int p2), .val (.int p3), .val (.int p4), .val (.int p5), .val (.ref b1), .val (.ref b10), .val (.long ca2), .second, .val (.long sa2), .second, .val (.long ca4), .second, .val (.long sa4), .second, .val (.int (((p1.toUInt32 >>> ((4 : Int32) &&& 31).toUInt32).toInt32) &&& (3 : Int32))), .val .null, .val (.int (0 : Int32)), .unset] [(.int (0 : Int32))])) t
        refine XS.iload X199.here hx rfl (hb hby at_242) rfl ?_
        exact kt
      have hc244_201 : (0 : Int32) = (0 : Int32) := rfl
      have k204 : ∀ t, Steps p.tables e below (T199.setTop (mkF m 285 #[.val (.int p1), .val (.int p2), .val (.int p3), .val (.int p4), .val (.int p5), .val (.ref b1), .val (.ref b10), .val (.long ca2), .second, .val (.long sa2), .second, .val (.long ca4), .second, .val (.long sa4), .second, .val (.int (((p1.toUInt32 >>> ((4 : Int32) &&& 31).toUInt32).toInt32) &&& (3 : Int32))), .val .null, .val (.int (0 : Int32)), .val (.int (1 : Int32))] [(.int (1 : Int32))])) t → Steps p.tables e below (s₁.setTop (entryFrame m #[(.int p1), (.int p2), (.int p3), (.int p4), (.int p5)] maxLocals)) t := by
        intro t kt
        refine k202 t ?_
        show Steps p.tables e below (T199.setTop (mkF m 244 #[.val (.int p1), .val (.int p2), .val (.int p3), .val (.int p4), .val (.int p5), .val (.ref b1), .val (.ref b10), .val (.long ca2), .second, .val (.long sa2), .second, .val (.long ca4), .second, .val (.long sa4), .second, .val (.int (((p1.toUInt32 >>> ((4 : Int32) &&& 31).toUInt32).toInt32) &&& (3 : Int32))), .val .null, .val (.int (0 : Int32)), .unset] [(.int (0 : Int32)), (.int (0 : Int32))])) t
        refine XS.icmpNo X199.here hx rfl (hb hby at_244) rfl (teq hc244_201).2 ?_
        show Steps p.tables e below (T199.setTop (mkF m 247 #[.val (.int p1), .val (.int p2), .val (.int p3), .val (.int p4), .val (.int p5), .val (.ref b1), .val (.ref b10), .val (.long ca2), .second, .val (.long sa2), .second, .val (.long ca4), .second, .val (.long sa4), .second, .val (.int (((p1.toUInt32 >>> ((4 : Int32) &&& 31).toUInt32).toInt32) &&& (3 : Int32))), .val .null, .val (.int (0 : Int32)), .unset] [])) t
        refine XS.iconst X199.here hx rfl (hb hby at_247) ?_
        show Steps p.tables e below (T199.setTop (mkF m 248 #[.val (.int p1), .val (.int p2), .val (.int p3), .val (.int p4), .val (.int p5), .val (.ref b1), .val (.ref b10), .val (.long ca2), .second, .val (.long sa2), .second, .val (.long ca4), .second, .val (.long sa4), .second, .val (.int (((p1.toUInt32 >>> ((4 : Int32) &&& 31).toUInt32).toInt32) &&& (3 : Int32))), .val .null, .val (.int (0 : Int32)), .unset] [(.int (1 : Int32))])) t
        refine XS.goto X199.here hx rfl (pc0 := 248) (pc' := 252) rfl (hb hby at_248) (by decide) (by decide) ?_
        show Steps p.tables e below (T199.setTop (mkF m 252 #[.val (.int p1), .val (.int p2), .val (.int p3), .val (.int p4), .val (.int p5), .val (.ref b1), .val (.ref b10), .val (.long ca2), .second, .val (.long sa2), .second, .val (.long ca4), .second, .val (.long sa4), .second, .val (.int (((p1.toUInt32 >>> ((4 : Int32) &&& 31).toUInt32).toInt32) &&& (3 : Int32))), .val .null, .val (.int (0 : Int32)), .unset] [(.int (1 : Int32))])) t
        refine XS.istore X199.here hx rfl (hb hby at_252) rfl (l' := #[.val (.int p1), .val (.int p2), .val (.int p3), .val (.int p4), .val (.int p5), .val (.ref b1), .val (.ref b10), .val (.long ca2), .second, .val (.long sa2), .second, .val (.long ca4), .second, .val (.long sa4), .second, .val (.int (((p1.toUInt32 >>> ((4 : Int32) &&& 31).toUInt32).toInt32) &&& (3 : Int32))), .val .null, .val (.int (0 : Int32)), .val (.int (1 : Int32))]) rfl ?_
        show Steps p.tables e below (T199.setTop (mkF m 254 #[.val (.int p1), .val (.int p2), .val (.int p3), .val (.int p4), .val (.int p5), .val (.ref b1), .val (.ref b10), .val (.long ca2), .second, .val (.long sa2), .second, .val (.long ca4), .second, .val (.long sa4), .second, .val (.int (((p1.toUInt32 >>> ((4 : Int32) &&& 31).toUInt32).toInt32) &&& (3 : Int32))), .val .null, .val (.int (0 : Int32)), .val (.int (1 : Int32))] [])) t
        refine XS.iload X199.here hx rfl (hb hby at_254) rfl ?_
        show Steps p.tables e below (T199.setTop (mkF m 256 #[.val (.int p1), .val (.int p2), .val (.int p3), .val (.int p4), .val (.int p5), .val (.ref b1), .val (.ref b10), .val (.long ca2), .second, .val (.long sa2), .second, .val (.long ca4), .second, .val (.long sa4), .second, .val (.int (((p1.toUInt32 >>> ((4 : Int32) &&& 31).toUInt32).toInt32) &&& (3 : Int32))), .val .null, .val (.int (0 : Int32)), .val (.int (1 : Int32))] [(.int (((p1.toUInt32 >>> ((4 : Int32) &&& 31).toUInt32).toInt32) &&& (3 : Int32)))])) t
        refine XS.ifYes X199.here hx rfl (pc0 := 256) (pc' := 283) rfl (hb hby at_256) rfl ((if0 _ _).trans (feq hc162_151).2) (by decide) (by decide) ?_
        show Steps p.tables e below (T199.setTop (mkF m 283 #[.val (.int p1), .val (.int p2), .val (.int p3), .val (.int p4), .val (.int p5), .val (.ref b1), .val (.ref b10), .val (.long ca2), .second, .val (.long sa2), .second, .val (.long ca4), .second, .val (.long sa4), .second, .val (.int (((p1.toUInt32 >>> ((4 : Int32) &&& 31).toUInt32).toInt32) &&& (3 : Int32))), .val .null, .val (.int (0 : Int32)), .val (.int (1 : Int32))] [])) t
        refine XS.iload X199.here hx rfl (hb hby at_283) rfl ?_
        exact kt
      obtain ⟨fs, hr, hrun, hended, hW, hsame⟩ := X199.leave (v := some (.int (1 : Int32))) (fun h => by rw [Bd.returns] at h; cases h)
      refine ⟨_, _, k204 _ ?_, hrun, hended, _, _, rfl, ?_, ⟨_, rfl⟩, hW, hsame.mono (by decide) (by decide)⟩
      · show Steps p.tables e below (T199.setTop (mkF m 285 #[.val (.int p1), .val (.int p2), .val (.int p3), .val (.int p4), .val (.int p5), .val (.ref b1), .val (.ref b10), .val (.long ca2), .second, .val (.long sa2), .second, .val (.long ca4), .second, .val (.long sa4), .second, .val (.int (((p1.toUInt32 >>> ((4 : Int32) &&& 31).toUInt32).toInt32) &&& (3 : Int32))), .val .null, .val (.int (0 : Int32)), .val (.int (1 : Int32))] [(.int (1 : Int32))])) _
        exact retN X199 hx (t := .boolean) Bd.returns (by simp) (hb hby at_285) hr
      · show Q0 Z p1 p2 p3 p4 p5 aC clC h0 n0 _ T199.heap _
        rw [e199]
        exact ⟨rfl, N199⟩
    · have k206 : ∀ t, Steps p.tables e below (T119.setTop (mkF m 213 #[.val (.int p1), .val (.int p2), .val (.int p3), .val (.int p4), .val (.int p5), .val (.ref b1), .val (.ref b10), .val (.long ca2), .second, .val (.long sa2), .second, .val (.long ca4), .second, .val (.long sa4), .second, .val (.int (((p1.toUInt32 >>> ((4 : Int32) &&& 31).toUInt32).toInt32) &&& (3 : Int32))), .unset, .unset, .unset] [(.int (2 : Int32)), (.int (((p1.toUInt32 >>> ((4 : Int32) &&& 31).toUInt32).toInt32) &&& (3 : Int32)))])) t → Steps p.tables e below (s₁.setTop (entryFrame m #[(.int p1), (.int p2), (.int p3), (.int p4), (.int p5)] maxLocals)) t := by
        intro t kt
        refine k197 t ?_
        show Steps p.tables e below (T119.setTop (mkF m 198 #[.val (.int p1), .val (.int p2), .val (.int p3), .val (.int p4), .val (.int p5), .val (.ref b1), .val (.ref b10), .val (.long ca2), .second, .val (.long sa2), .second, .val (.long ca4), .second, .val (.long sa4), .second, .val (.int (((p1.toUInt32 >>> ((4 : Int32) &&& 31).toUInt32).toInt32) &&& (3 : Int32))), .unset, .unset, .unset] [(.int (1 : Int32)), (.int (((p1.toUInt32 >>> ((4 : Int32) &&& 31).toUInt32).toInt32) &&& (3 : Int32)))])) t
        refine XS.icmpYes X119.here hx rfl (pc0 := 198) (pc' := 210) rfl (hb hby at_198) rfl (feq hc198_196).2 (by decide) (by decide) ?_
        show Steps p.tables e below (T119.setTop (mkF m 210 #[.val (.int p1), .val (.int p2), .val (.int p3), .val (.int p4), .val (.int p5), .val (.ref b1), .val (.ref b10), .val (.long ca2), .second, .val (.long sa2), .second, .val (.long ca4), .second, .val (.long sa4), .second, .val (.int (((p1.toUInt32 >>> ((4 : Int32) &&& 31).toUInt32).toInt32) &&& (3 : Int32))), .unset, .unset, .unset] [])) t
        refine XS.iload X119.here hx rfl (hb hby at_210) rfl ?_
        show Steps p.tables e below (T119.setTop (mkF m 212 #[.val (.int p1), .val (.int p2), .val (.int p3), .val (.int p4), .val (.int p5), .val (.ref b1), .val (.ref b10), .val (.long ca2), .second, .val (.long sa2), .second, .val (.long ca4), .second, .val (.long sa4), .second, .val (.int (((p1.toUInt32 >>> ((4 : Int32) &&& 31).toUInt32).toInt32) &&& (3 : Int32))), .unset, .unset, .unset] [(.int (((p1.toUInt32 >>> ((4 : Int32) &&& 31).toUInt32).toInt32) &&& (3 : Int32)))])) t
        refine XS.iconst X119.here hx rfl (hb hby at_212) ?_
        exact kt
      by_cases hc213_205 : (((p1.toUInt32 >>> ((4 : Int32) &&& 31).toUInt32).toInt32) &&& (3 : Int32)) = (2 : Int32)
      · have k207 : ∀ t, Steps p.tables e below (T119.setTop (mkF m 217 #[.val (.int p1), .val (.int p2), .val (.int p3), .val (.int p4), .val (.int p5), .val (.ref b1), .val (.ref b10), .val (.long ca2), .second, .val (.long sa2), .second, .val (.long ca4), .second, .val (.long sa4), .second, .val (.int (((p1.toUInt32 >>> ((4 : Int32) &&& 31).toUInt32).toInt32) &&& (3 : Int32))), .unset, .unset, .unset] [(.int p2)])) t → Steps p.tables e below (s₁.setTop (entryFrame m #[(.int p1), (.int p2), (.int p3), (.int p4), (.int p5)] maxLocals)) t := by
          intro t kt
          refine k206 t ?_
          show Steps p.tables e below (T119.setTop (mkF m 213 #[.val (.int p1), .val (.int p2), .val (.int p3), .val (.int p4), .val (.int p5), .val (.ref b1), .val (.ref b10), .val (.long ca2), .second, .val (.long sa2), .second, .val (.long ca4), .second, .val (.long sa4), .second, .val (.int (((p1.toUInt32 >>> ((4 : Int32) &&& 31).toUInt32).toInt32) &&& (3 : Int32))), .unset, .unset, .unset] [(.int (2 : Int32)), (.int (((p1.toUInt32 >>> ((4 : Int32) &&& 31).toUInt32).toInt32) &&& (3 : Int32)))])) t
          refine XS.icmpNo X119.here hx rfl (hb hby at_213) rfl (teq hc213_205).2 ?_
          show Steps p.tables e below (T119.setTop (mkF m 216 #[.val (.int p1), .val (.int p2), .val (.int p3), .val (.int p4), .val (.int p5), .val (.ref b1), .val (.ref b10), .val (.long ca2), .second, .val (.long sa2), .second, .val (.long ca4), .second, .val (.long sa4), .second, .val (.int (((p1.toUInt32 >>> ((4 : Int32) &&& 31).toUInt32).toInt32) &&& (3 : Int32))), .unset, .unset, .unset] [])) t
          refine XS.iloadN X119.here hx rfl (hb hby at_216) rfl ?_
          exact kt
        obtain ⟨_, _, ⟨T208, L208, k208c, n208⟩, -, X208, ⟨Lc208, hQ208, l208, y208, z208⟩, st208⟩ := Jvm.LawKit.callS X119 hx (y := (⟨"java/lang/Integer", "valueOf", "(I)Ljava/lang/Integer;"⟩ : MethodName)) hown (mvT hZ (hw _ (List.mem_of_getElem? (i := 34) rfl))) (mvT hZ (hw _ (List.mem_of_getElem? (i := 35) rfl))) (mvT hZ (hw _ (List.mem_of_getElem? (i := 36) rfl))) (mvT hZ (hw _ (List.mem_of_getElem? (i := 37) rfl))) (by decide) (backOf (W := 0) (rmVo l Z a0 hw [] p2 aC clC h119 n0 Z119 (Sta.ext Fh119_0.2 SH) (Sta.ext Fh119_0.2 SC) (Arr.ext Fh119_0.2 ArC) SzC (fun j q => (HC j q).imp fun y z => ⟨z.1, z.2.ext Fh119_0.2⟩)) hZ (hw _ (List.mem_of_getElem? (i := 37) rfl)) (hw _ (List.mem_of_getElem? (i := 36) rfl)) (by decide) (by decide)) (g := (mkF m 217 #[.val (.int p1), .val (.int p2), .val (.int p3), .val (.int p4), .val (.int p5), .val (.ref b1), .val (.ref b10), .val (.long ca2), .second, .val (.long sa2), .second, .val (.long ca4), .second, .val (.long sa4), .second, .val (.int (((p1.toUInt32 >>> ((4 : Int32) &&& 31).toUInt32).toInt32) &&& (3 : Int32))), .unset, .unset, .unset] [(.int p2)])) rfl (by rw [hml]; rfl) (argsL := [(.int p2)]) (rest := []) (lenOf own_pd6 rfl) rfl (by show 2 * 0 + _ ≤ _; exact Nat.le_of_eq rfl) (hb hby at_217) (fun _ _ => ⟨rfl, e119, (by decide : 6 + 1 ≤ _), (by decide : 12 + 1 ≤ _)⟩)
        dsimp only [Pt.U, Pt.locs, Pt.cells, Pt.slots] at X208 l208 y208 z208 st208 hQ208
        subst l208 y208 z208
        obtain ⟨y208, rfl, N208q, K208k, Ey208⟩ := hQ208
        have N208 := Fr.app N119 N208q
        have F209 := Fh119_0.keep K208k all0
        have F210 := Fh119_1.keep K208k nin0
        have F211 := Fh119_2.keep K208k nin0
        have F212 := Fh119_3.keep K208k
        have F213 := Fh119_4.keep K208k nin0
        have F214 := Fh119_5.keep K208k nin0
        have F215 := Fh119_6.keep K208k
        have Z216 : n0 ≤ T208.heap.size := Nat.le_trans Z119 K208k.1
        have K216 : Keep h0 T208.heap [] := K119.trans K208k all0
        have k217 : ∀ t, Steps p.tables e below (T208.setTop (mkF m 220 #[.val (.int p1), .val (.int p2), .val (.int p3), .val (.int p4), .val (.int p5), .val (.ref b1), .val (.ref b10), .val (.long ca2), .second, .val (.long sa2), .second, .val (.long ca4), .second, .val (.long sa4), .second, .val (.int (((p1.toUInt32 >>> ((4 : Int32) &&& 31).toUInt32).toInt32) &&& (3 : Int32))), .unset, .unset, .unset] [(.ref y208)])) t → Steps p.tables e below (s₁.setTop (entryFrame m #[(.int p1), (.int p2), (.int p3), (.int p4), (.int p5)] maxLocals)) t := fun t kt => k207 t (st208 t kt)
        have k218 : ∀ t, Steps p.tables e below (T208.setTop (mkF m 239 #[.val (.int p1), .val (.int p2), .val (.int p3), .val (.int p4), .val (.int p5), .val (.ref b1), .val (.ref b10), .val (.long ca2), .second, .val (.long sa2), .second, .val (.long ca4), .second, .val (.long sa4), .second, .val (.int (((p1.toUInt32 >>> ((4 : Int32) &&& 31).toUInt32).toInt32) &&& (3 : Int32))), .val (.ref y208), .val (.int (0 : Int32)), .unset] [(.ref y208), (.ref b1)])) t → Steps p.tables e below (s₁.setTop (entryFrame m #[(.int p1), (.int p2), (.int p3), (.int p4), (.int p5)] maxLocals)) t := by
          intro t kt
          refine k217 t ?_
          show Steps p.tables e below (T208.setTop (mkF m 220 #[.val (.int p1), .val (.int p2), .val (.int p3), .val (.int p4), .val (.int p5), .val (.ref b1), .val (.ref b10), .val (.long ca2), .second, .val (.long sa2), .second, .val (.long ca4), .second, .val (.long sa4), .second, .val (.int (((p1.toUInt32 >>> ((4 : Int32) &&& 31).toUInt32).toInt32) &&& (3 : Int32))), .unset, .unset, .unset] [(.ref y208)])) t
          refine XS.astore X208.here hx rfl (hb hby at_220) rfl rfl (l' := #[.val (.int p1), .val (.int p2), .val (.int p3), .val (.int p4), .val (.int p5), .val (.ref b1), .val (.ref b10), .val (.long ca2), .second, .val (.long sa2), .second, .val (.long ca4), .second, .val (.long sa4), .second, .val (.int (((p1.toUInt32 >>> ((4 : Int32) &&& 31).toUInt32).toInt32) &&& (3 : Int32))), .val (.ref y208), .unset, .unset]) rfl ?_
          show Steps p.tables e below (T208.setTop (mkF m 222 #[.val (.int p1), .val (.int p2), .val (.int p3), .val (.int p4), .val (.int p5), .val (.ref b1), .val (.ref b10), .val (.long ca2), .second, .val (.long sa2), .second, .val (.long ca4), .second, .val (.long sa4), .second, .val (.int (((p1.toUInt32 >>> ((4 : Int32) &&& 31).toUInt32).toInt32) &&& (3 : Int32))), .val (.ref y208), .unset, .unset] [])) t
          refine XS.iconst X208.here hx rfl (hb hby at_222) ?_
          show Steps p.tables e below (T208.setTop (mkF m 223 #[.val (.int p1), .val (.int p2), .val (.int p3), .val (.int p4), .val (.int p5), .val (.ref b1), .val (.ref b10), .val (.long ca2), .second, .val (.long sa2), .second, .val (.long ca4), .second, .val (.long sa4), .second, .val (.int (((p1.toUInt32 >>> ((4 : Int32) &&& 31).toUInt32).toInt32) &&& (3 : Int32))), .val (.ref y208), .unset, .unset] [(.int (0 : Int32))])) t
          refine XS.istore X208.here hx rfl (hb hby at_223) rfl (l' := #[.val (.int p1), .val (.int p2), .val (.int p3), .val (.int p4), .val (.int p5), .val (.ref b1), .val (.ref b10), .val (.long ca2), .second, .val (.long sa2), .second, .val (.long ca4), .second, .val (.long sa4), .second, .val (.int (((p1.toUInt32 >>> ((4 : Int32) &&& 31).toUInt32).toInt32) &&& (3 : Int32))), .val (.ref y208), .val (.int (0 : Int32)), .unset]) rfl ?_
          show Steps p.tables e below (T208.setTop (mkF m 225 #[.val (.int p1), .val (.int p2), .val (.int p3), .val (.int p4), .val (.int p5), .val (.ref b1), .val (.ref b10), .val (.long ca2), .second, .val (.long sa2), .second, .val (.long ca4), .second, .val (.long sa4), .second, .val (.int (((p1.toUInt32 >>> ((4 : Int32) &&& 31).toUInt32).toInt32) &&& (3 : Int32))), .val (.ref y208), .val (.int (0 : Int32)), .unset] [])) t
          refine XS.goto X208.here hx rfl (pc0 := 225) (pc' := 235) rfl (hb hby at_225) (by decide) (by decide) ?_
          show Steps p.tables e below (T208.setTop (mkF m 235 #[.val (.int p1), .val (.int p2), .val (.int p3), .val (.int p4), .val (.int p5), .val (.ref b1), .val (.ref b10), .val (.long ca2), .second, .val (.long sa2), .second, .val (.long ca4), .second, .val (.long sa4), .second, .val (.int (((p1.toUInt32 >>> ((4 : Int32) &&& 31).toUInt32).toInt32) &&& (3 : Int32))), .val (.ref y208), .val (.int (0 : Int32)), .unset] [])) t
          refine XS.aload X208.here hx rfl (hb hby at_235) rfl rfl ?_
          show Steps p.tables e below (T208.setTop (mkF m 237 #[.val (.int p1), .val (.int p2), .val (.int p3), .val (.int p4), .val (.int p5), .val (.ref b1), .val (.ref b10), .val (.long ca2), .second, .val (.long sa2), .second, .val (.long ca4), .second, .val (.long sa4), .second, .val (.int (((p1.toUInt32 >>> ((4 : Int32) &&& 31).toUInt32).toInt32) &&& (3 : Int32))), .val (.ref y208), .val (.int (0 : Int32)), .unset] [(.ref b1)])) t
          refine XS.aload X208.here hx rfl (hb hby at_237) rfl rfl ?_
          exact kt
        obtain ⟨cq219, kq219, q219a, q219b, q219c⟩ := isOf hZ rfl F212
        obtain ⟨_, _, ⟨T219, L219, k219c, n219⟩, -, X219, ⟨Lc219, hQ219, l219, y219, z219⟩, st219⟩ := X208.virtualBack hx (y := (⟨"com/example/disk_to_queue/disktoqueue/bench/BodySum", "equals", "(Ljava/lang/Object;)Z"⟩ : MethodName)) (z := (⟨"com/example/disk_to_queue/disktoqueue/bench/BodySum", "equals", "(Ljava/lang/Object;)Z"⟩ : MethodName)) hown (mvT hZ (hw _ (List.mem_of_getElem? (i := 9) rfl))) (mvT hZ (hw _ (List.mem_of_getElem? (i := 10) rfl))) (notFace_of_selects (args := #[]) (mvT hZ (hw _ (List.mem_of_getElem? (i := 12) rfl)))) (mvT hZ (hw _ (List.mem_of_getElem? (i := 12) rfl))) (mvT hZ (hw _ (List.mem_of_getElem? (i := 11) rfl))) (by decide) (backOf (W := 0) (rmQI l Z a0 hw [] b1 y208 T208.heap n0 Z216 Ey208) hZ (hw _ (List.mem_of_getElem? (i := 13) rfl)) (hw _ (List.mem_of_getElem? (i := 2) rfl)) (by decide) (by decide)) q219a q219c (g := (mkF m 239 #[.val (.int p1), .val (.int p2), .val (.int p3), .val (.int p4), .val (.int p5), .val (.ref b1), .val (.ref b10), .val (.long ca2), .second, .val (.long sa2), .second, .val (.long ca4), .second, .val (.long sa4), .second, .val (.int (((p1.toUInt32 >>> ((4 : Int32) &&& 31).toUInt32).toInt32) &&& (3 : Int32))), .val (.ref y208), .val (.int (0 : Int32)), .unset] [(.ref y208), (.ref b1)])) rfl (by rw [hml]; rfl) (Steps.refl _) (argsL := [(.ref y208)]) (rest := []) (lenOf own_pd5 rfl) rfl (by show 2 * 0 + _ ≤ _; exact Nat.le_of_eq rfl) (hb hby at_239) (fun _ _ => ⟨rfl, rfl, (by decide : 7 + 0 ≤ _), (by decide : 13 + 0 ≤ _)⟩)
        dsimp only [Pt.U, Pt.locs, Pt.cells, Pt.slots] at X219 l219 y219 z219 st219 hQ219
        subst l219 y219 z219
        obtain ⟨rfl, N219q, e219⟩ := hQ219
        have N219 := Fr.app N208 N219q
        have k220 : ∀ t, Steps p.tables e below (T219.setTop (mkF m 242 #[.val (.int p1), .val (.int p2), .val (.int p3), .val (.int p4), .val (.int p5), .val (.ref b1), .val (.ref b10), .val (.long ca2), .second, .val (.long sa2), .second, .val (.long ca4), .second, .val (.long sa4), .second, .val (.int (((p1.toUInt32 >>> ((4 : Int32) &&& 31).toUInt32).toInt32) &&& (3 : Int32))), .val (.ref y208), .val (.int (0 : Int32)), .unset] [(.int (0 : Int32))])) t → Steps p.tables e below (s₁.setTop (entryFrame m #[(.int p1), (.int p2), (.int p3), (.int p4), (.int p5)] maxLocals)) t := fun t kt => k218 t (st219.trans kt)
        have k222 : ∀ t, Steps p.tables e below (T219.setTop (mkF m 244 #[.val (.int p1), .val (.int p2), .val (.int p3), .val (.int p4), .val (.int p5), .val (.ref b1), .val (.ref b10), .val (.long ca2), .second, .val (.long sa2), .second, .val (.long ca4), .second, .val (.long sa4), .second, .val (.int (((p1.toUInt32 >>> ((4 : Int32) &&& 31).toUInt32).toInt32) &&& (3 : Int32))), .val (.ref y208), .val (.int (0 : Int32)), .unset] [(.int (0 : Int32)), (.int (0 : Int32))])) t → Steps p.tables e below (s₁.setTop (entryFrame m #[(.int p1), (.int p2), (.int p3), (.int p4), (.int p5)] maxLocals)) t := by
          intro t kt
          refine k220 t ?_
          show Steps p.tables e below (T219.setTop (mkF m 242 #[.val (.int p1), .val (.int p2), .val (.int p3), .val (.int p4), .val (.int p5), .val (.ref b1), .val (.ref b10), .val (.long ca2), .second, .val (.long sa2), .second, .val (.long ca4), .second, .val (.long sa4), .second, .val (.int (((p1.toUInt32 >>> ((4 : Int32) &&& 31).toUInt32).toInt32) &&& (3 : Int32))), .val (.ref y208), .val (.int (0 : Int32)), .unset] [(.int (0 : Int32))])) t
          refine XS.iload X219.here hx rfl (hb hby at_242) rfl ?_
          exact kt
        have hc244_221 : (0 : Int32) = (0 : Int32) := rfl
        have k224 : ∀ t, Steps p.tables e below (T219.setTop (mkF m 285 #[.val (.int p1), .val (.int p2), .val (.int p3), .val (.int p4), .val (.int p5), .val (.ref b1), .val (.ref b10), .val (.long ca2), .second, .val (.long sa2), .second, .val (.long ca4), .second, .val (.long sa4), .second, .val (.int (((p1.toUInt32 >>> ((4 : Int32) &&& 31).toUInt32).toInt32) &&& (3 : Int32))), .val (.ref y208), .val (.int (0 : Int32)), .val (.int (1 : Int32))] [(.int (1 : Int32))])) t → Steps p.tables e below (s₁.setTop (entryFrame m #[(.int p1), (.int p2), (.int p3), (.int p4), (.int p5)] maxLocals)) t := by
          intro t kt
          refine k222 t ?_
          show Steps p.tables e below (T219.setTop (mkF m 244 #[.val (.int p1), .val (.int p2), .val (.int p3), .val (.int p4), .val (.int p5), .val (.ref b1), .val (.ref b10), .val (.long ca2), .second, .val (.long sa2), .second, .val (.long ca4), .second, .val (.long sa4), .second, .val (.int (((p1.toUInt32 >>> ((4 : Int32) &&& 31).toUInt32).toInt32) &&& (3 : Int32))), .val (.ref y208), .val (.int (0 : Int32)), .unset] [(.int (0 : Int32)), (.int (0 : Int32))])) t
          refine XS.icmpNo X219.here hx rfl (hb hby at_244) rfl (teq hc244_221).2 ?_
          show Steps p.tables e below (T219.setTop (mkF m 247 #[.val (.int p1), .val (.int p2), .val (.int p3), .val (.int p4), .val (.int p5), .val (.ref b1), .val (.ref b10), .val (.long ca2), .second, .val (.long sa2), .second, .val (.long ca4), .second, .val (.long sa4), .second, .val (.int (((p1.toUInt32 >>> ((4 : Int32) &&& 31).toUInt32).toInt32) &&& (3 : Int32))), .val (.ref y208), .val (.int (0 : Int32)), .unset] [])) t
          refine XS.iconst X219.here hx rfl (hb hby at_247) ?_
          show Steps p.tables e below (T219.setTop (mkF m 248 #[.val (.int p1), .val (.int p2), .val (.int p3), .val (.int p4), .val (.int p5), .val (.ref b1), .val (.ref b10), .val (.long ca2), .second, .val (.long sa2), .second, .val (.long ca4), .second, .val (.long sa4), .second, .val (.int (((p1.toUInt32 >>> ((4 : Int32) &&& 31).toUInt32).toInt32) &&& (3 : Int32))), .val (.ref y208), .val (.int (0 : Int32)), .unset] [(.int (1 : Int32))])) t
          refine XS.goto X219.here hx rfl (pc0 := 248) (pc' := 252) rfl (hb hby at_248) (by decide) (by decide) ?_
          show Steps p.tables e below (T219.setTop (mkF m 252 #[.val (.int p1), .val (.int p2), .val (.int p3), .val (.int p4), .val (.int p5), .val (.ref b1), .val (.ref b10), .val (.long ca2), .second, .val (.long sa2), .second, .val (.long ca4), .second, .val (.long sa4), .second, .val (.int (((p1.toUInt32 >>> ((4 : Int32) &&& 31).toUInt32).toInt32) &&& (3 : Int32))), .val (.ref y208), .val (.int (0 : Int32)), .unset] [(.int (1 : Int32))])) t
          refine XS.istore X219.here hx rfl (hb hby at_252) rfl (l' := #[.val (.int p1), .val (.int p2), .val (.int p3), .val (.int p4), .val (.int p5), .val (.ref b1), .val (.ref b10), .val (.long ca2), .second, .val (.long sa2), .second, .val (.long ca4), .second, .val (.long sa4), .second, .val (.int (((p1.toUInt32 >>> ((4 : Int32) &&& 31).toUInt32).toInt32) &&& (3 : Int32))), .val (.ref y208), .val (.int (0 : Int32)), .val (.int (1 : Int32))]) rfl ?_
          show Steps p.tables e below (T219.setTop (mkF m 254 #[.val (.int p1), .val (.int p2), .val (.int p3), .val (.int p4), .val (.int p5), .val (.ref b1), .val (.ref b10), .val (.long ca2), .second, .val (.long sa2), .second, .val (.long ca4), .second, .val (.long sa4), .second, .val (.int (((p1.toUInt32 >>> ((4 : Int32) &&& 31).toUInt32).toInt32) &&& (3 : Int32))), .val (.ref y208), .val (.int (0 : Int32)), .val (.int (1 : Int32))] [])) t
          refine XS.iload X219.here hx rfl (hb hby at_254) rfl ?_
          show Steps p.tables e below (T219.setTop (mkF m 256 #[.val (.int p1), .val (.int p2), .val (.int p3), .val (.int p4), .val (.int p5), .val (.ref b1), .val (.ref b10), .val (.long ca2), .second, .val (.long sa2), .second, .val (.long ca4), .second, .val (.long sa4), .second, .val (.int (((p1.toUInt32 >>> ((4 : Int32) &&& 31).toUInt32).toInt32) &&& (3 : Int32))), .val (.ref y208), .val (.int (0 : Int32)), .val (.int (1 : Int32))] [(.int (((p1.toUInt32 >>> ((4 : Int32) &&& 31).toUInt32).toInt32) &&& (3 : Int32)))])) t
          refine XS.ifYes X219.here hx rfl (pc0 := 256) (pc' := 283) rfl (hb hby at_256) rfl ((if0 _ _).trans (feq hc162_151).2) (by decide) (by decide) ?_
          show Steps p.tables e below (T219.setTop (mkF m 283 #[.val (.int p1), .val (.int p2), .val (.int p3), .val (.int p4), .val (.int p5), .val (.ref b1), .val (.ref b10), .val (.long ca2), .second, .val (.long sa2), .second, .val (.long ca4), .second, .val (.long sa4), .second, .val (.int (((p1.toUInt32 >>> ((4 : Int32) &&& 31).toUInt32).toInt32) &&& (3 : Int32))), .val (.ref y208), .val (.int (0 : Int32)), .val (.int (1 : Int32))] [])) t
          refine XS.iload X219.here hx rfl (hb hby at_283) rfl ?_
          exact kt
        obtain ⟨fs, hr, hrun, hended, hW, hsame⟩ := X219.leave (v := some (.int (1 : Int32))) (fun h => by rw [Bd.returns] at h; cases h)
        refine ⟨_, _, k224 _ ?_, hrun, hended, _, _, rfl, ?_, ⟨_, rfl⟩, hW, hsame.mono (by decide) (by decide)⟩
        · show Steps p.tables e below (T219.setTop (mkF m 285 #[.val (.int p1), .val (.int p2), .val (.int p3), .val (.int p4), .val (.int p5), .val (.ref b1), .val (.ref b10), .val (.long ca2), .second, .val (.long sa2), .second, .val (.long ca4), .second, .val (.long sa4), .second, .val (.int (((p1.toUInt32 >>> ((4 : Int32) &&& 31).toUInt32).toInt32) &&& (3 : Int32))), .val (.ref y208), .val (.int (0 : Int32)), .val (.int (1 : Int32))] [(.int (1 : Int32))])) _
          exact retN X219 hx (t := .boolean) Bd.returns (by simp) (hb hby at_285) hr
        · show Q0 Z p1 p2 p3 p4 p5 aC clC h0 n0 _ T219.heap _
          rw [e219]
          exact ⟨rfl, N219⟩
      · have k225 : ∀ t, Steps p.tables e below (T119.setTop (mkF m 239 #[.val (.int p1), .val (.int p2), .val (.int p3), .val (.int p4), .val (.int p5), .val (.ref b1), .val (.ref b10), .val (.long ca2), .second, .val (.long sa2), .second, .val (.long ca4), .second, .val (.long sa4), .second, .val (.int (((p1.toUInt32 >>> ((4 : Int32) &&& 31).toUInt32).toInt32) &&& (3 : Int32))), .val (.ref b1), .val (.int (1 : Int32)), .unset] [(.ref b1), (.ref b1)])) t → Steps p.tables e below (s₁.setTop (entryFrame m #[(.int p1), (.int p2), (.int p3), (.int p4), (.int p5)] maxLocals)) t := by
          intro t kt
          refine k206 t ?_
          show Steps p.tables e below (T119.setTop (mkF m 213 #[.val (.int p1), .val (.int p2), .val (.int p3), .val (.int p4), .val (.int p5), .val (.ref b1), .val (.ref b10), .val (.long ca2), .second, .val (.long sa2), .second, .val (.long ca4), .second, .val (.long sa4), .second, .val (.int (((p1.toUInt32 >>> ((4 : Int32) &&& 31).toUInt32).toInt32) &&& (3 : Int32))), .unset, .unset, .unset] [(.int (2 : Int32)), (.int (((p1.toUInt32 >>> ((4 : Int32) &&& 31).toUInt32).toInt32) &&& (3 : Int32)))])) t
          refine XS.icmpYes X119.here hx rfl (pc0 := 213) (pc' := 228) rfl (hb hby at_213) rfl (feq hc213_205).2 (by decide) (by decide) ?_
          show Steps p.tables e below (T119.setTop (mkF m 228 #[.val (.int p1), .val (.int p2), .val (.int p3), .val (.int p4), .val (.int p5), .val (.ref b1), .val (.ref b10), .val (.long ca2), .second, .val (.long sa2), .second, .val (.long ca4), .second, .val (.long sa4), .second, .val (.int (((p1.toUInt32 >>> ((4 : Int32) &&& 31).toUInt32).toInt32) &&& (3 : Int32))), .unset, .unset, .unset] [])) t
          refine XS.aload X119.here hx rfl (hb hby at_228) rfl rfl ?_
          show Steps p.tables e below (T119.setTop (mkF m 230 #[.val (.int p1), .val (.int p2), .val (.int p3), .val (.int p4), .val (.int p5), .val (.ref b1), .val (.ref b10), .val (.long ca2), .second, .val (.long sa2), .second, .val (.long ca4), .second, .val (.long sa4), .second, .val (.int (((p1.toUInt32 >>> ((4 : Int32) &&& 31).toUInt32).toInt32) &&& (3 : Int32))), .unset, .unset, .unset] [(.ref b1)])) t
          refine XS.astore X119.here hx rfl (hb hby at_230) rfl rfl (l' := #[.val (.int p1), .val (.int p2), .val (.int p3), .val (.int p4), .val (.int p5), .val (.ref b1), .val (.ref b10), .val (.long ca2), .second, .val (.long sa2), .second, .val (.long ca4), .second, .val (.long sa4), .second, .val (.int (((p1.toUInt32 >>> ((4 : Int32) &&& 31).toUInt32).toInt32) &&& (3 : Int32))), .val (.ref b1), .unset, .unset]) rfl ?_
          show Steps p.tables e below (T119.setTop (mkF m 232 #[.val (.int p1), .val (.int p2), .val (.int p3), .val (.int p4), .val (.int p5), .val (.ref b1), .val (.ref b10), .val (.long ca2), .second, .val (.long sa2), .second, .val (.long ca4), .second, .val (.long sa4), .second, .val (.int (((p1.toUInt32 >>> ((4 : Int32) &&& 31).toUInt32).toInt32) &&& (3 : Int32))), .val (.ref b1), .unset, .unset] [])) t
          refine XS.iconst X119.here hx rfl (hb hby at_232) ?_
          show Steps p.tables e below (T119.setTop (mkF m 233 #[.val (.int p1), .val (.int p2), .val (.int p3), .val (.int p4), .val (.int p5), .val (.ref b1), .val (.ref b10), .val (.long ca2), .second, .val (.long sa2), .second, .val (.long ca4), .second, .val (.long sa4), .second, .val (.int (((p1.toUInt32 >>> ((4 : Int32) &&& 31).toUInt32).toInt32) &&& (3 : Int32))), .val (.ref b1), .unset, .unset] [(.int (1 : Int32))])) t
          refine XS.istore X119.here hx rfl (hb hby at_233) rfl (l' := #[.val (.int p1), .val (.int p2), .val (.int p3), .val (.int p4), .val (.int p5), .val (.ref b1), .val (.ref b10), .val (.long ca2), .second, .val (.long sa2), .second, .val (.long ca4), .second, .val (.long sa4), .second, .val (.int (((p1.toUInt32 >>> ((4 : Int32) &&& 31).toUInt32).toInt32) &&& (3 : Int32))), .val (.ref b1), .val (.int (1 : Int32)), .unset]) rfl ?_
          show Steps p.tables e below (T119.setTop (mkF m 235 #[.val (.int p1), .val (.int p2), .val (.int p3), .val (.int p4), .val (.int p5), .val (.ref b1), .val (.ref b10), .val (.long ca2), .second, .val (.long sa2), .second, .val (.long ca4), .second, .val (.long sa4), .second, .val (.int (((p1.toUInt32 >>> ((4 : Int32) &&& 31).toUInt32).toInt32) &&& (3 : Int32))), .val (.ref b1), .val (.int (1 : Int32)), .unset] [])) t
          refine XS.aload X119.here hx rfl (hb hby at_235) rfl rfl ?_
          show Steps p.tables e below (T119.setTop (mkF m 237 #[.val (.int p1), .val (.int p2), .val (.int p3), .val (.int p4), .val (.int p5), .val (.ref b1), .val (.ref b10), .val (.long ca2), .second, .val (.long sa2), .second, .val (.long ca4), .second, .val (.long sa4), .second, .val (.int (((p1.toUInt32 >>> ((4 : Int32) &&& 31).toUInt32).toInt32) &&& (3 : Int32))), .val (.ref b1), .val (.int (1 : Int32)), .unset] [(.ref b1)])) t
          refine XS.aload X119.here hx rfl (hb hby at_237) rfl rfl ?_
          exact kt
        obtain ⟨cq226, kq226, q226a, q226b, q226c⟩ := isOf hZ e119 Fh119_3
        obtain ⟨_, _, ⟨T226, L226, k226c, n226⟩, -, X226, ⟨Lc226, hQ226, l226, y226, z226⟩, st226⟩ := X119.virtualBack hx (y := (⟨"com/example/disk_to_queue/disktoqueue/bench/BodySum", "equals", "(Ljava/lang/Object;)Z"⟩ : MethodName)) (z := (⟨"com/example/disk_to_queue/disktoqueue/bench/BodySum", "equals", "(Ljava/lang/Object;)Z"⟩ : MethodName)) hown (mvT hZ (hw _ (List.mem_of_getElem? (i := 9) rfl))) (mvT hZ (hw _ (List.mem_of_getElem? (i := 10) rfl))) (notFace_of_selects (args := #[]) (mvT hZ (hw _ (List.mem_of_getElem? (i := 12) rfl)))) (mvT hZ (hw _ (List.mem_of_getElem? (i := 12) rfl))) (mvT hZ (hw _ (List.mem_of_getElem? (i := 11) rfl))) (by decide) (backOf (W := 0) (rmQ l Z a0 hw [] b1 b1 ca2 sa2 ca2 sa2 h119 n0 Z119 Fh119_1 Fh119_2 Fh119_1 Fh119_2 Fh119_3) hZ (hw _ (List.mem_of_getElem? (i := 13) rfl)) (hw _ (List.mem_of_getElem? (i := 2) rfl)) (by decide) (by decide)) q226a q226c (g := (mkF m 239 #[.val (.int p1), .val (.int p2), .val (.int p3), .val (.int p4), .val (.int p5), .val (.ref b1), .val (.ref b10), .val (.long ca2), .second, .val (.long sa2), .second, .val (.long ca4), .second, .val (.long sa4), .second, .val (.int (((p1.toUInt32 >>> ((4 : Int32) &&& 31).toUInt32).toInt32) &&& (3 : Int32))), .val (.ref b1), .val (.int (1 : Int32)), .unset] [(.ref b1), (.ref b1)])) rfl (by rw [hml]; rfl) (Steps.refl _) (argsL := [(.ref b1)]) (rest := []) (lenOf own_pd5 rfl) rfl (by show 2 * 0 + _ ≤ _; exact Nat.le_of_eq rfl) (hb hby at_239) (fun _ _ => ⟨rfl, e119, (by decide : 6 + 0 ≤ _), (by decide : 12 + 0 ≤ _)⟩)
        dsimp only [Pt.U, Pt.locs, Pt.cells, Pt.slots] at X226 l226 y226 z226 st226 hQ226
        subst l226 y226 z226
        obtain ⟨rfl, N226q, e226⟩ := hQ226
        have N226 := Fr.app N119 N226q
        have k227 : ∀ t, Steps p.tables e below (T226.setTop (mkF m 242 #[.val (.int p1), .val (.int p2), .val (.int p3), .val (.int p4), .val (.int p5), .val (.ref b1), .val (.ref b10), .val (.long ca2), .second, .val (.long sa2), .second, .val (.long ca4), .second, .val (.long sa4), .second, .val (.int (((p1.toUInt32 >>> ((4 : Int32) &&& 31).toUInt32).toInt32) &&& (3 : Int32))), .val (.ref b1), .val (.int (1 : Int32)), .unset] [(.int (own_eq ca2 sa2 ca2 sa2))])) t → Steps p.tables e below (s₁.setTop (entryFrame m #[(.int p1), (.int p2), (.int p3), (.int p4), (.int p5)] maxLocals)) t := fun t kt => k225 t (st226.trans kt)
        have k229 : ∀ t, Steps p.tables e below (T226.setTop (mkF m 244 #[.val (.int p1), .val (.int p2), .val (.int p3), .val (.int p4), .val (.int p5), .val (.ref b1), .val (.ref b10), .val (.long ca2), .second, .val (.long sa2), .second, .val (.long ca4), .second, .val (.long sa4), .second, .val (.int (((p1.toUInt32 >>> ((4 : Int32) &&& 31).toUInt32).toInt32) &&& (3 : Int32))), .val (.ref b1), .val (.int (1 : Int32)), .unset] [(.int (1 : Int32)), (.int (own_eq ca2 sa2 ca2 sa2))])) t → Steps p.tables e below (s₁.setTop (entryFrame m #[(.int p1), (.int p2), (.int p3), (.int p4), (.int p5)] maxLocals)) t := by
          intro t kt
          refine k227 t ?_
          show Steps p.tables e below (T226.setTop (mkF m 242 #[.val (.int p1), .val (.int p2), .val (.int p3), .val (.int p4), .val (.int p5), .val (.ref b1), .val (.ref b10), .val (.long ca2), .second, .val (.long sa2), .second, .val (.long ca4), .second, .val (.long sa4), .second, .val (.int (((p1.toUInt32 >>> ((4 : Int32) &&& 31).toUInt32).toInt32) &&& (3 : Int32))), .val (.ref b1), .val (.int (1 : Int32)), .unset] [(.int (own_eq ca2 sa2 ca2 sa2))])) t
          refine XS.iload X226.here hx rfl (hb hby at_242) rfl ?_
          exact kt
        have hc244_228 : (own_eq ca2 sa2 ca2 sa2) = (1 : Int32) := by unfold own_eq; rw [if_pos ⟨rfl, rfl⟩]
        have k231 : ∀ t, Steps p.tables e below (T226.setTop (mkF m 285 #[.val (.int p1), .val (.int p2), .val (.int p3), .val (.int p4), .val (.int p5), .val (.ref b1), .val (.ref b10), .val (.long ca2), .second, .val (.long sa2), .second, .val (.long ca4), .second, .val (.long sa4), .second, .val (.int (((p1.toUInt32 >>> ((4 : Int32) &&& 31).toUInt32).toInt32) &&& (3 : Int32))), .val (.ref b1), .val (.int (1 : Int32)), .val (.int (1 : Int32))] [(.int (1 : Int32))])) t → Steps p.tables e below (s₁.setTop (entryFrame m #[(.int p1), (.int p2), (.int p3), (.int p4), (.int p5)] maxLocals)) t := by
          intro t kt
          refine k229 t ?_
          show Steps p.tables e below (T226.setTop (mkF m 244 #[.val (.int p1), .val (.int p2), .val (.int p3), .val (.int p4), .val (.int p5), .val (.ref b1), .val (.ref b10), .val (.long ca2), .second, .val (.long sa2), .second, .val (.long ca4), .second, .val (.long sa4), .second, .val (.int (((p1.toUInt32 >>> ((4 : Int32) &&& 31).toUInt32).toInt32) &&& (3 : Int32))), .val (.ref b1), .val (.int (1 : Int32)), .unset] [(.int (1 : Int32)), (.int (own_eq ca2 sa2 ca2 sa2))])) t
          refine XS.icmpNo X226.here hx rfl (hb hby at_244) rfl (teq hc244_228).2 ?_
          show Steps p.tables e below (T226.setTop (mkF m 247 #[.val (.int p1), .val (.int p2), .val (.int p3), .val (.int p4), .val (.int p5), .val (.ref b1), .val (.ref b10), .val (.long ca2), .second, .val (.long sa2), .second, .val (.long ca4), .second, .val (.long sa4), .second, .val (.int (((p1.toUInt32 >>> ((4 : Int32) &&& 31).toUInt32).toInt32) &&& (3 : Int32))), .val (.ref b1), .val (.int (1 : Int32)), .unset] [])) t
          refine XS.iconst X226.here hx rfl (hb hby at_247) ?_
          show Steps p.tables e below (T226.setTop (mkF m 248 #[.val (.int p1), .val (.int p2), .val (.int p3), .val (.int p4), .val (.int p5), .val (.ref b1), .val (.ref b10), .val (.long ca2), .second, .val (.long sa2), .second, .val (.long ca4), .second, .val (.long sa4), .second, .val (.int (((p1.toUInt32 >>> ((4 : Int32) &&& 31).toUInt32).toInt32) &&& (3 : Int32))), .val (.ref b1), .val (.int (1 : Int32)), .unset] [(.int (1 : Int32))])) t
          refine XS.goto X226.here hx rfl (pc0 := 248) (pc' := 252) rfl (hb hby at_248) (by decide) (by decide) ?_
          show Steps p.tables e below (T226.setTop (mkF m 252 #[.val (.int p1), .val (.int p2), .val (.int p3), .val (.int p4), .val (.int p5), .val (.ref b1), .val (.ref b10), .val (.long ca2), .second, .val (.long sa2), .second, .val (.long ca4), .second, .val (.long sa4), .second, .val (.int (((p1.toUInt32 >>> ((4 : Int32) &&& 31).toUInt32).toInt32) &&& (3 : Int32))), .val (.ref b1), .val (.int (1 : Int32)), .unset] [(.int (1 : Int32))])) t
          refine XS.istore X226.here hx rfl (hb hby at_252) rfl (l' := #[.val (.int p1), .val (.int p2), .val (.int p3), .val (.int p4), .val (.int p5), .val (.ref b1), .val (.ref b10), .val (.long ca2), .second, .val (.long sa2), .second, .val (.long ca4), .second, .val (.long sa4), .second, .val (.int (((p1.toUInt32 >>> ((4 : Int32) &&& 31).toUInt32).toInt32) &&& (3 : Int32))), .val (.ref b1), .val (.int (1 : Int32)), .val (.int (1 : Int32))]) rfl ?_
          show Steps p.tables e below (T226.setTop (mkF m 254 #[.val (.int p1), .val (.int p2), .val (.int p3), .val (.int p4), .val (.int p5), .val (.ref b1), .val (.ref b10), .val (.long ca2), .second, .val (.long sa2), .second, .val (.long ca4), .second, .val (.long sa4), .second, .val (.int (((p1.toUInt32 >>> ((4 : Int32) &&& 31).toUInt32).toInt32) &&& (3 : Int32))), .val (.ref b1), .val (.int (1 : Int32)), .val (.int (1 : Int32))] [])) t
          refine XS.iload X226.here hx rfl (hb hby at_254) rfl ?_
          show Steps p.tables e below (T226.setTop (mkF m 256 #[.val (.int p1), .val (.int p2), .val (.int p3), .val (.int p4), .val (.int p5), .val (.ref b1), .val (.ref b10), .val (.long ca2), .second, .val (.long sa2), .second, .val (.long ca4), .second, .val (.long sa4), .second, .val (.int (((p1.toUInt32 >>> ((4 : Int32) &&& 31).toUInt32).toInt32) &&& (3 : Int32))), .val (.ref b1), .val (.int (1 : Int32)), .val (.int (1 : Int32))] [(.int (((p1.toUInt32 >>> ((4 : Int32) &&& 31).toUInt32).toInt32) &&& (3 : Int32)))])) t
          refine XS.ifYes X226.here hx rfl (pc0 := 256) (pc' := 283) rfl (hb hby at_256) rfl ((if0 _ _).trans (feq hc162_151).2) (by decide) (by decide) ?_
          show Steps p.tables e below (T226.setTop (mkF m 283 #[.val (.int p1), .val (.int p2), .val (.int p3), .val (.int p4), .val (.int p5), .val (.ref b1), .val (.ref b10), .val (.long ca2), .second, .val (.long sa2), .second, .val (.long ca4), .second, .val (.long sa4), .second, .val (.int (((p1.toUInt32 >>> ((4 : Int32) &&& 31).toUInt32).toInt32) &&& (3 : Int32))), .val (.ref b1), .val (.int (1 : Int32)), .val (.int (1 : Int32))] [])) t
          refine XS.iload X226.here hx rfl (hb hby at_283) rfl ?_
          exact kt
        obtain ⟨fs, hr, hrun, hended, hW, hsame⟩ := X226.leave (v := some (.int (1 : Int32))) (fun h => by rw [Bd.returns] at h; cases h)
        refine ⟨_, _, k231 _ ?_, hrun, hended, _, _, rfl, ?_, ⟨_, rfl⟩, hW, hsame.mono (by decide) (by decide)⟩
        · show Steps p.tables e below (T226.setTop (mkF m 285 #[.val (.int p1), .val (.int p2), .val (.int p3), .val (.int p4), .val (.int p5), .val (.ref b1), .val (.ref b10), .val (.long ca2), .second, .val (.long sa2), .second, .val (.long ca4), .second, .val (.long sa4), .second, .val (.int (((p1.toUInt32 >>> ((4 : Int32) &&& 31).toUInt32).toInt32) &&& (3 : Int32))), .val (.ref b1), .val (.int (1 : Int32)), .val (.int (1 : Int32))] [(.int (1 : Int32))])) _
          exact retN X226 hx (t := .boolean) Bd.returns (by simp) (hb hby at_285) hr
        · show Q0 Z p1 p2 p3 p4 p5 aC clC h0 n0 _ T226.heap _
          rw [e226]
          exact ⟨rfl, N226⟩
theorem own_len' {args : Array Value} {s : State} {t : Term} {x : Addr} {c : Cell} {n : Int32} (ht : t.eval args s none [] s = some (.ref x)) (ha : s.arrayAt? x = some c) (h : (Term.length t).eval args s none [] s = some (.int n)) : c.slots.size < 2 ^ 31 ∧ c.slots.size.toInt32 = n := by
  by_cases hl : c.slots.size < 2 ^ 31
  · rw [len_f ht ha hl] at h; exact ⟨hl, by simpa using h⟩
  · simp [Term.eval, ht, ha, hl] at h
set_option maxRecDepth 65536 in
set_option maxHeartbeats 40000000 in
theorem comes_1 {Post : Tables → Env → Array Value → State → Outcome → State → Prop} (hpost : ∀ tb e args s v u, (limb_1_1.after args s (.returned v) u = true ∧ limb_1_2.after args s (.returned v) u = true ∧ True) → FrameEnd s (.returned v) u (Jvm.fieldLocs frame_1_writes args s ++ Jvm.arrayLocs frame_1_arrays args s ++ Jvm.staticLocs frame_1_statics s) 24 128 → Post tb e args s (.returned v) u) :
    ArmFor flags0 classFile x code maxLocals ret World_1 tables_1 room_1 Calls_1 rest_1 Pre_1 Post := by
  intro l hfl _ _ p e ha hc hk s m args below hf hA hF happ hP
  obtain ⟨hcalls, hrest, hpre⟩ := hP
  obtain ⟨-, -, -, hnamed, -, -, -, hat⟩ := (Spec.applies_iff hf).mp happ
  obtain ⟨hg, hn⟩ := and_e (Cond.before_iff.mp (show (Jvm.Cond.and given_1 narrow_1).before args s = true from hpre))
  obtain ⟨gc, gr0⟩ := and_e hg
  obtain ⟨ga0, gr1⟩ := and_e gr0
  obtain ⟨ga1, gr2⟩ := and_e gr1
  obtain ⟨ga2, gr3⟩ := and_e gr2
  obtain ⟨ga3, gr4⟩ := and_e gr3
  have ga4 := gr4
  obtain ⟨w0, w1, w2, w3, w4, rfl⟩ : ∃ w0 w1 w2 w3 w4 : Value, args = #[w0, w1, w2, w3, w4] := by
    have hs : args.size = 5 := by simpa [Cond.value, given_1] using gc
    obtain ⟨L⟩ := args
    match L, hs with
    | [w0, w1, w2, w3, w4], _ => exact ⟨w0, w1, w2, w3, w4, rfl⟩
  have hw := fun d (hd : d ∈ tables_1) => atoms_spec (ws := Jvm.Cond.code x code maxLocals ret :: tables_1) hat d (List.mem_cons_of_mem _ hd)
  have hfit : Fit s := fun {y c} hc i hi => by
    obtain ⟨ha, rfl⟩ := Array.getElem?_eq_some_iff.mp hc
    have q := List.all_eq_true.mp ((Array.all_eq_true_iff_forall_mem.mp hF) _ (Array.getElem_mem ha)) i (List.mem_range.mpr hi)
    simpa [Array.getElem?_eq_getElem hi] using q
  obtain ⟨i0, ei0⟩ := is_v ga0
  obtain rfl : w0 = (.int i0) := Option.some.inj ei0
  obtain ⟨i1, ei1⟩ := is_v ga1
  obtain rfl : w1 = (.int i1) := Option.some.inj ei1
  obtain ⟨i2, ei2⟩ := is_v ga2
  obtain rfl : w2 = (.int i2) := Option.some.inj ei2
  obtain ⟨i3, ei3⟩ := is_v ga3
  obtain rfl : w3 = (.int i3) := Option.some.inj ei3
  obtain ⟨i4, ei4⟩ := is_v ga4
  obtain rfl : w4 = (.int i4) := Option.some.inj ei4
  obtain ⟨hsets, hown0⟩ := atoms_of _ (rest_1_c_eq ▸ (show rest_1_c.before _ s = true from hrest))
  have SH : Sta s s.heap "java/lang/Integer$IntegerCache" "high" "I" (.int (127 : Int32)) := Sta.start (Cond.eq_int (hsets _ (List.mem_of_getElem? (i := 3) rfl)) rfl) (Or.inl (hsets _ (List.mem_of_getElem? (i := 1) rfl)))
  obtain ⟨aC, v_aC⟩ := exa_v (Cond.before_iff.mp (hsets _ (List.mem_of_getElem? (i := 5) rfl)))
  have SC : Sta s s.heap "java/lang/Integer$IntegerCache" "cache" "[Ljava/lang/Integer;" (.ref aC) := Sta.start v_aC (Or.inr ⟨(hw _ (List.mem_of_getElem? (i := 57) rfl)), (hsets _ (List.mem_of_getElem? (i := 2) rfl))⟩)
  obtain ⟨clC, ArC⟩ := Arr.start v_aC (Cond.before_iff.mp (hsets _ (List.mem_of_getElem? (i := 4) rfl)))
  have atC : s.arrayAt? aC = some clC := ArC.fin (Vm.Alike.refl _)
  obtain ⟨szC, zC⟩ := own_len' v_aC atC (Cond.eq_int (hsets _ (List.mem_of_getElem? (i := 6) rfl)) rfl)
  have SzC : clC.slots.size = (256 : Int32).toNatClampNeg := by rw [← zC]; simp only [Int32.toNatClampNeg, len_toInt szC]; rfl
  have HC : ∀ j : Int32, ¬ j < 0 ∧ j < (256 : Int32) → ∃ y, clC.slots[j.toNatClampNeg]? = some (.ref y) ∧ Exa s s.heap y "java/lang/Integer" := fun j q => by
    have hin := inb_of SzC q
    have hlt : j.toNatClampNeg < clC.slots.size := Nat.lt_of_not_le fun z => hin (Or.inr z)
    obtain ⟨hex, -⟩ := and_e (Cond.all_elim v_aC atC (Cond.before_iff.mp (hsets _ (List.mem_of_getElem? (i := 7) rfl))) _ hlt)
    obtain ⟨y, ey⟩ := exa_v hex
    refine ⟨y, ?_, exa_at ey hex⟩
    have v_j : (Jvm.Term.static "java/lang/Integer$IntegerCache" "cache" "[Ljava/lang/Integer;").eval #[(.int i0), (.int i1), (.int i2), (.int i3), (.int i4)] s none [j.toNatClampNeg] s = some (.ref aC) := v_aC
    rw [← ey]; exact (elem_f v_j (idx_at q.1) atC q.1).symm
  obtain ⟨n, o, h1, h2, h3, _, L, rfl, ⟨rfl, N⟩, hq⟩ := rm0 l s _ hw tables_1 i0 i1 i2 i3 i4 aC clC s.heap s.heap.size (Nat.le_refl _) (Old.start s) SH SC ArC SzC HC p e ha hc hk s m _ below hf ((Spec.applies_iff_loose hf).mp happ).1 ⟨rfl, State.Warmed39.refl s, rfl⟩ trivial
  refine ⟨n, _, h1, h2, h3, hpost _ _ _ _ _ _ ⟨Cond.after_iff.mpr rfl, Cond.after_iff.mpr (eq_i res_at (Term.int_eval (1)) rfl), trivial⟩ ⟨hq.1, hq.2.1, (hq.2.2.sift fun y hy => Or.inr (N y hy)).mono (by decide) (by decide)⟩⟩
theorem main_1_1 : Claimed_1_1 := comes_1 fun _ _ _ _ _ _ h hF => ⟨h.1, hF⟩
theorem main_1_2 : Claimed_1_2 := comes_1 fun _ _ _ _ _ _ h hF => ⟨h.2.1, hF⟩
end Jvm.Pilot.@@N@@
namespace Jvm.Pilot.@@N@@
open Jvm Jvm.ClassFile Sem Op Lib Jvm.Free Jvm.Stand Jvm.Pilot.@@N@@.Jvm.D
/-! MADE BY PROGRAM (witnessworld.py) out of the Statement's table words and the real class files: 16 classes; the members and pool entries that the words name. The judged class is class 1, her method 3. -/
namespace start1
open Jvm.ClassFile
def u (s : String) : CpInfo := .utf8 (stringToUtf16 s)
/-- a pool by its gaps: so many unusable entries, then the entry; so many at the end -/
def gap : Nat → List CpInfo → List CpInfo
  | 0, r => r
  | n + 1, r => .unusable :: gap n r
def poolList (es : List (Nat × CpInfo)) (last : Nat) : List CpInfo := es.foldr (fun e r => gap e.1 (e.2 :: r)) (gap last [])
def pool (es : List (Nat × CpInfo)) (last : Nat) : Array CpInfo := ⟨poolList es last⟩
def fileOf (pool : Array CpInfo) (this : Nat) (attrs : Array Attribute := #[]) (ms : Array MethodInfo := #[]) (fl : Nat := 33) (sup : Nat := 0) (ifs : Array Nat := #[]) (fds : Array FieldInfo := #[]) : ClassFile where
  minorVersion := 0
  majorVersion := 65
  constantPool := pool
  accessFlags := fl
  thisClass := this
  superClass := sup
  interfaces := ifs
  fields := fds
  methods := ms
  attributes := attrs
def plain (name : String) (sup : Option ClassId) : Class where
  name := name
  kind := .ordinary
  loader := none
  accessFlags := 33
  super := sup
  interfaces := #[]
  cf := none
  fields := #[]
  methods := #[]
  instanceTypes := #[]
  staticTypes := #[]
  resolved := #[]
  callSites := []
  init := .initialized
  statics := none
  mirror := none

def pool0 : Array CpInfo := pool [(5, u "<init>"), (0, u "()V"), (1, .class_ 10), (1, u "java/lang/Object")] 113

def k0c0 : Code := { maxStack := 0, maxLocals := 1, code := object_method_1_code, exceptionTable := #[], attributes := #[] }
def k0m0 : Method := { name := "<init>", desc := "()V", sig := { parameters := [], returnType := none }, accessFlags := 1, code := some k0c0 }
/-- java/lang/Object -/
def k0 : Class := { plain "java/lang/Object" none with
  accessFlags := 33
  interfaces := #[]
  cf := some (fileOf pool0 8 #[] #[{ accessFlags := 1, nameIndex := 5, descriptorIndex := 6, attributes := #[] }] 33 0 #[] #[])
  fields := #[]
  methods := #[k0m0]
  instanceTypes := #[]
  staticTypes := #[]
  resolved := Array.replicate 124 none
  statics := none }

def pool1 : Array CpInfo := pool [(2, .class_ 4), (0, .nameAndType 5 6), (0, u "java/lang/Object"), (0, u "<init>"), (0, u "()V"), (0, .long 2), (1, .class_ 10), (0, u "com/example/disk_to_queue/disktoqueue/bench/BodySum"), (0, .methodref 9 3), (0, .methodref 13 14), (0, .class_ 15), (0, .nameAndType 16 17), (0, u "com/example/disk_to_queue/disktoqueue/bench/BodySumEqualsPinLaw"), (0, u "body"), (0, u "(I)[B"), (0, .methodref 9 19), (0, .nameAndType 20 21), (0, u "add"), (0, u "([B)V"), (0, .methodref 13 23), (0, .nameAndType 24 25), (0, u "weight"), (0, u "(I)J"), (0, .methodref 27 28), (0, .class_ 29), (0, .nameAndType 30 31), (0, u "java/lang/Integer"), (0, u "valueOf"), (0, u "(I)Ljava/lang/Integer;"), (0, .methodref 9 33), (0, .nameAndType 34 35), (0, u "equals"), (0, u "(Ljava/lang/Object;)Z"), (5, u "law"), (0, u "(IIIII)Z")] 2

def k1m0 : Method := { name := "<init>", desc := "()V", sig := { parameters := [], returnType := none }, accessFlags := 1, code := none }
def k1c1 : Code := { maxStack := 4, maxLocals := 3, code := method_2_code, exceptionTable := #[], attributes := #[] }
def k1m1 : Method := { name := "body", desc := "(I)[B", sig := { parameters := [.int], returnType := some (.array .byte) }, accessFlags := 10, code := some k1c1 }
def k1c2 : Code := { maxStack := 4, maxLocals := 4, code := method_3_code, exceptionTable := #[], attributes := #[] }
def k1m2 : Method := { name := "weight", desc := "(I)J", sig := { parameters := [.int], returnType := some .long }, accessFlags := 10, code := some k1c2 }
def k1c3 : Code := { maxStack := 4, maxLocals := 19, code := code, exceptionTable := #[], attributes := #[] }
def k1m3 : Method := { name := "law", desc := "(IIIII)Z", sig := { parameters := [.int, .int, .int, .int, .int], returnType := some .boolean }, accessFlags := 9, code := some k1c3 }
/-- com/example/disk_to_queue/disktoqueue/bench/BodySumEqualsPinLaw -/
def k1 : Class := { plain "com/example/disk_to_queue/disktoqueue/bench/BodySumEqualsPinLaw" (some 0) with
  accessFlags := 49
  interfaces := #[]
  cf := some (fileOf pool1 13 #[] #[{ accessFlags := 1, nameIndex := 5, descriptorIndex := 6, attributes := #[] }, { accessFlags := 10, nameIndex := 16, descriptorIndex := 17, attributes := #[] }, { accessFlags := 10, nameIndex := 24, descriptorIndex := 25, attributes := #[] }, { accessFlags := 9, nameIndex := 41, descriptorIndex := 42, attributes := #[] }] 49 2 #[] #[])
  fields := #[]
  methods := #[k1m0, k1m1, k1m2, k1m3]
  instanceTypes := #[]
  staticTypes := #[]
  resolved := Array.replicate 45 none
  statics := none }

def pool2 : Array CpInfo := pool [(1, .methodref 2 3), (0, .class_ 4), (0, .nameAndType 5 6), (0, u "java/lang/Object"), (0, u "<init>"), (0, u "()V"), (0, .class_ 8), (0, u "com/example/disk_to_queue/disktoqueue/bench/BodySum"), (3, u "add"), (0, u "([B)V"), (0, .fieldref 7 15), (0, .nameAndType 16 17), (0, u "count"), (0, u "J"), (0, .fieldref 7 19), (0, .nameAndType 20 17), (0, u "sum"), (33, u "equals"), (0, u "(Ljava/lang/Object;)Z")] 19

def k2c0 : Code := { maxStack := 1, maxLocals := 1, code := prog_1_method_1_code, exceptionTable := #[], attributes := #[] }
def k2m0 : Method := { name := "<init>", desc := "()V", sig := { parameters := [], returnType := none }, accessFlags := 0, code := some k2c0 }
def k2c1 : Code := { maxStack := 6, maxLocals := 2, code := prog_1_method_3_code, exceptionTable := #[], attributes := #[] }
def k2m1 : Method := { name := "add", desc := "([B)V", sig := { parameters := [(.array .byte)], returnType := none }, accessFlags := 0, code := some k2c1 }
def k2c2 : Code := { maxStack := 4, maxLocals := 2, code := prog_1_method_5_code, exceptionTable := #[], attributes := #[] }
def k2m2 : Method := { name := "equals", desc := "(Ljava/lang/Object;)Z", sig := { parameters := [(.object "java/lang/Object")], returnType := some .boolean }, accessFlags := 1, code := some k2c2 }
/-- com/example/disk_to_queue/disktoqueue/bench/BodySum -/
def k2 : Class := { plain "com/example/disk_to_queue/disktoqueue/bench/BodySum" (some 0) with
  accessFlags := 32
  interfaces := #[]
  cf := some (fileOf pool2 7 #[] #[{ accessFlags := 0, nameIndex := 5, descriptorIndex := 6, attributes := #[] }, { accessFlags := 0, nameIndex := 12, descriptorIndex := 13, attributes := #[] }, { accessFlags := 1, nameIndex := 54, descriptorIndex := 55, attributes := #[] }] 32 2 #[] #[{ accessFlags := 2, nameIndex := 16, descriptorIndex := 17, attributes := #[] }, { accessFlags := 2, nameIndex := 20, descriptorIndex := 17, attributes := #[] }])
  fields := #[{ name := "count", type := .long, accessFlags := 2, slot := 0, constantValue := 0 }, { name := "sum", type := .long, accessFlags := 2, slot := 1, constantValue := 0 }]
  methods := #[k2m0, k2m1, k2m2]
  instanceTypes := #[.long, .long]
  staticTypes := #[]
  resolved := Array.replicate 75 none
  statics := none }

def pool3 : Array CpInfo := pool [(1, .class_ 2), (0, u "java/io/Serializable"), (0, .class_ 4), (0, u "java/lang/Object")] 2

/-- java/io/Serializable -/
def k3 : Class := { plain "java/io/Serializable" (some 0) with
  accessFlags := 1537
  interfaces := #[]
  cf := some (fileOf pool3 1 #[] #[] 1537 3 #[] #[])
  fields := #[]
  methods := #[]
  instanceTypes := #[]
  staticTypes := #[]
  resolved := Array.replicate 7 none
  statics := none }

def pool4 : Array CpInfo := pool [(1, .methodref 2 3), (0, .class_ 4), (0, .nameAndType 5 6), (0, u "java/lang/Object"), (0, u "<init>"), (0, u "()V"), (1, .class_ 10), (1, u "java/lang/Number"), (2, .class_ 14), (0, u "java/io/Serializable"), (0, u "serialVersionUID"), (0, u "J")] 20

def k4c0 : Code := { maxStack := 1, maxLocals := 1, code := jdk_18_method_1_code, exceptionTable := #[], attributes := #[] }
def k4m0 : Method := { name := "<init>", desc := "()V", sig := { parameters := [], returnType := none }, accessFlags := 1, code := some k4c0 }
/-- java/lang/Number -/
def k4 : Class := { plain "java/lang/Number" (some 0) with
  accessFlags := 1057
  interfaces := #[3]
  cf := some (fileOf pool4 8 #[] #[{ accessFlags := 1, nameIndex := 5, descriptorIndex := 6, attributes := #[] }] 1057 2 #[13] #[{ accessFlags := 26, nameIndex := 15, descriptorIndex := 16, attributes := #[] }])
  fields := #[{ name := "serialVersionUID", type := .long, accessFlags := 26, slot := 0, constantValue := 0 }]
  methods := #[k4m0]
  instanceTypes := #[]
  staticTypes := #[.long]
  resolved := Array.replicate 37 none
  statics := none }

def pool5 : Array CpInfo := pool [(1, .class_ 2), (0, u "java/lang/Comparable"), (0, .class_ 4), (0, u "java/lang/Object")] 7

/-- java/lang/Comparable -/
def k5 : Class := { plain "java/lang/Comparable" (some 0) with
  accessFlags := 1537
  interfaces := #[]
  cf := some (fileOf pool5 1 #[] #[] 1537 3 #[] #[])
  fields := #[]
  methods := #[]
  instanceTypes := #[]
  staticTypes := #[]
  resolved := Array.replicate 12 none
  statics := none }

def pool6 : Array CpInfo := pool [(1, .class_ 2), (0, u "java/lang/constant/Constable"), (0, .class_ 4), (0, u "java/lang/Object")] 6

/-- java/lang/constant/Constable -/
def k6 : Class := { plain "java/lang/constant/Constable" (some 0) with
  accessFlags := 1537
  interfaces := #[]
  cf := some (fileOf pool6 1 #[] #[] 1537 3 #[] #[])
  fields := #[]
  methods := #[]
  instanceTypes := #[]
  staticTypes := #[]
  resolved := Array.replicate 11 none
  statics := none }

def pool7 : Array CpInfo := pool [(1, .class_ 2), (0, u "java/lang/constant/ConstantDesc"), (0, .class_ 4), (0, u "java/lang/Object")] 32

/-- java/lang/constant/ConstantDesc -/
def k7 : Class := { plain "java/lang/constant/ConstantDesc" (some 0) with
  accessFlags := 1537
  interfaces := #[]
  cf := some (fileOf pool7 1 #[] #[] 1537 3 #[] #[])
  fields := #[]
  methods := #[]
  instanceTypes := #[]
  staticTypes := #[]
  resolved := Array.replicate 37 none
  statics := none }

def pool8 : Array CpInfo := pool [(1, .class_ 2), (0, u "java/lang/Integer"), (16, u "digits"), (0, u "[C"), (46, u "<init>"), (17, u "DigitOnes"), (0, u "[B"), (2, u "DigitTens"), (10, .nameAndType 67 101), (0, u "()V"), (85, u "valueOf"), (0, u "(I)Ljava/lang/Integer;"), (0, .class_ 190), (0, u "java/lang/Integer$IntegerCache"), (0, .fieldref 189 192), (0, .nameAndType 193 194), (0, u "high"), (0, u "I"), (0, .fieldref 189 196), (0, .nameAndType 197 198), (0, u "cache"), (0, u "[Ljava/lang/Integer;"), (0, .methodref 1 200), (0, .nameAndType 67 201), (0, u "(I)V"), (0, .methodref 203 100), (0, .class_ 204), (0, u "java/lang/Number"), (0, .fieldref 1 206), (0, .nameAndType 207 194), (0, u "value"), (94, u "TYPE"), (0, u "Ljava/lang/Class;"), (0, .class_ 305), (0, u "java/lang/Comparable"), (0, .class_ 307), (0, u "java/lang/constant/Constable"), (0, .class_ 309), (0, u "java/lang/constant/ConstantDesc"), (0, u "MIN_VALUE"), (1, u "MAX_VALUE"), (3, u "SIZE"), (1, u "BYTES"), (1, u "serialVersionUID"), (0, u "J")] 131

def k8c0 : Code := { maxStack := 3, maxLocals := 1, code := jdk_33_method_22_code, exceptionTable := #[], attributes := #[] }
def k8m0 : Method := { name := "valueOf", desc := "(I)Ljava/lang/Integer;", sig := { parameters := [.int], returnType := some (.object "java/lang/Integer") }, accessFlags := 9, code := some k8c0 }
def k8c1 : Code := { maxStack := 2, maxLocals := 2, code := jdk_33_method_23_code, exceptionTable := #[], attributes := #[] }
def k8m1 : Method := { name := "<init>", desc := "(I)V", sig := { parameters := [.int], returnType := none }, accessFlags := 1, code := some k8c1 }
/-- java/lang/Integer -/
def k8 : Class := { plain "java/lang/Integer" (some 4) with
  accessFlags := 49
  interfaces := #[5, 6, 7]
  cf := some (fileOf pool8 1 #[.nestMembers #[189]] #[{ accessFlags := 9, nameIndex := 187, descriptorIndex := 188, attributes := #[] }, { accessFlags := 1, nameIndex := 67, descriptorIndex := 201, attributes := #[] }] 49 203 #[304, 306, 308] #[{ accessFlags := 25, nameIndex := 310, descriptorIndex := 194, attributes := #[] }, { accessFlags := 25, nameIndex := 312, descriptorIndex := 194, attributes := #[] }, { accessFlags := 25, nameIndex := 302, descriptorIndex := 303, attributes := #[] }, { accessFlags := 24, nameIndex := 19, descriptorIndex := 20, attributes := #[] }, { accessFlags := 24, nameIndex := 89, descriptorIndex := 86, attributes := #[] }, { accessFlags := 24, nameIndex := 85, descriptorIndex := 86, attributes := #[] }, { accessFlags := 18, nameIndex := 207, descriptorIndex := 194, attributes := #[] }, { accessFlags := 25, nameIndex := 316, descriptorIndex := 194, attributes := #[] }, { accessFlags := 25, nameIndex := 318, descriptorIndex := 194, attributes := #[] }, { accessFlags := 26, nameIndex := 320, descriptorIndex := 321, attributes := #[] }])
  fields := #[{ name := "MIN_VALUE", type := .int, accessFlags := 25, slot := 0, constantValue := 0 }, { name := "MAX_VALUE", type := .int, accessFlags := 25, slot := 1, constantValue := 0 }, { name := "TYPE", type := (.object "java/lang/Class"), accessFlags := 25, slot := 2, constantValue := 0 }, { name := "digits", type := (.array .char), accessFlags := 24, slot := 3, constantValue := 0 }, { name := "DigitTens", type := (.array .byte), accessFlags := 24, slot := 4, constantValue := 0 }, { name := "DigitOnes", type := (.array .byte), accessFlags := 24, slot := 5, constantValue := 0 }, { name := "value", type := .int, accessFlags := 18, slot := 0, constantValue := 0 }, { name := "SIZE", type := .int, accessFlags := 25, slot := 6, constantValue := 0 }, { name := "BYTES", type := .int, accessFlags := 25, slot := 7, constantValue := 0 }, { name := "serialVersionUID", type := .long, accessFlags := 26, slot := 8, constantValue := 0 }]
  methods := #[k8m0, k8m1]
  instanceTypes := #[.int]
  staticTypes := #[.int, .int, (.object "java/lang/Class"), (.array .char), (.array .byte), (.array .byte), .int, .int, .long]
  resolved := Array.replicate 453 none
  statics := none }

def pool9 : Array CpInfo := pool [(2, .class_ 4), (1, u "java/lang/Object"), (0, u "<init>"), (0, u "()V"), (0, .class_ 8), (0, u "java/lang/Integer"), (7, .class_ 18), (1, u "java/lang/Integer$IntegerCache"), (0, u "$assertionsDisabled"), (0, u "Z"), (26, u "high"), (0, u "I"), (8, u "archivedCache"), (0, u "[Ljava/lang/Integer;"), (12, u "cache"), (0, u "low")] 27

def k9m0 : Method := { name := "<init>", desc := "()V", sig := { parameters := [], returnType := none }, accessFlags := 2, code := none }
/-- java/lang/Integer$IntegerCache -/
def k9 : Class := { plain "java/lang/Integer$IntegerCache" (some 0) with
  accessFlags := 48
  interfaces := #[]
  cf := some (fileOf pool9 16 #[.nestHost 7] #[{ accessFlags := 2, nameIndex := 5, descriptorIndex := 6, attributes := #[] }] 48 2 #[] #[{ accessFlags := 24, nameIndex := 72, descriptorIndex := 48, attributes := #[] }, { accessFlags := 24, nameIndex := 47, descriptorIndex := 48, attributes := #[] }, { accessFlags := 24, nameIndex := 71, descriptorIndex := 58, attributes := #[] }, { accessFlags := 8, nameIndex := 57, descriptorIndex := 58, attributes := #[] }, { accessFlags := 4120, nameIndex := 19, descriptorIndex := 20, attributes := #[] }])
  fields := #[{ name := "low", type := .int, accessFlags := 24, slot := 0, constantValue := 0 }, { name := "high", type := .int, accessFlags := 24, slot := 1, constantValue := 0 }, { name := "cache", type := (.array (.object "java/lang/Integer")), accessFlags := 24, slot := 2, constantValue := 0 }, { name := "archivedCache", type := (.array (.object "java/lang/Integer")), accessFlags := 8, slot := 3, constantValue := 0 }, { name := "$assertionsDisabled", type := .boolean, accessFlags := 4120, slot := 4, constantValue := 0 }]
  methods := #[k9m0]
  instanceTypes := #[]
  staticTypes := #[.int, .int, (.array (.object "java/lang/Integer")), (.array (.object "java/lang/Integer")), .boolean]
  resolved := Array.replicate 100 none
  statics := some 0 }

def pool10 : Array CpInfo := pool [(1, u "java/lang/Cloneable"), (0, .class_ 1), (0, u "java/lang/Object"), (0, .class_ 3)] 3

/-- java/lang/Cloneable -/
def k10 : Class := { plain "java/lang/Cloneable" (some 0) with
  accessFlags := 1537
  interfaces := #[]
  cf := some (fileOf pool10 2 #[] #[] 1537 4 #[] #[])
  fields := #[]
  methods := #[]
  instanceTypes := #[]
  staticTypes := #[]
  resolved := Array.replicate 8 none
  statics := none }

/-- the primitive byte -/
def k11 : Class := { plain "byte" none with kind := .primitive 'B', accessFlags := 0x411 }
/-- [B -/
def k12 : Class := { plain "[B" (some 0) with kind := .array 11 .byte, interfaces := #[10, 3], accessFlags := 1041 }

/-- the primitive int -/
def k13 : Class := { plain "int" none with kind := .primitive 'I', accessFlags := 0x411 }
/-- [I -/
def k14 : Class := { plain "[I" (some 0) with kind := .array 13 .int, interfaces := #[10, 3], accessFlags := 1041 }

/-- [Ljava/lang/Integer; -/
def k15 : Class := { plain "[Ljava/lang/Integer;" (some 0) with kind := .array 8 (.object "java/lang/Integer"), interfaces := #[10, 3], accessFlags := 1041 }

def heap : Heap := #[{ cls := 9, slots := #[.int 0, .int 127, .ref 1, .null, .int 0], vm := .statics 9 },
  { cls := 15, slots := #[.ref 2, .ref 3, .ref 4, .ref 5, .ref 6, .ref 7, .ref 8, .ref 9, .ref 10, .ref 11, .ref 12, .ref 13, .ref 14, .ref 15, .ref 16, .ref 17, .ref 18, .ref 19, .ref 20, .ref 21, .ref 22, .ref 23, .ref 24, .ref 25, .ref 26, .ref 27, .ref 28, .ref 29, .ref 30, .ref 31, .ref 32, .ref 33, .ref 34, .ref 35, .ref 36, .ref 37, .ref 38, .ref 39, .ref 40, .ref 41, .ref 42, .ref 43, .ref 44, .ref 45, .ref 46, .ref 47, .ref 48, .ref 49, .ref 50, .ref 51, .ref 52, .ref 53, .ref 54, .ref 55, .ref 56, .ref 57, .ref 58, .ref 59, .ref 60, .ref 61, .ref 62, .ref 63, .ref 64, .ref 65, .ref 66, .ref 67, .ref 68, .ref 69, .ref 70, .ref 71, .ref 72, .ref 73, .ref 74, .ref 75, .ref 76, .ref 77, .ref 78, .ref 79, .ref 80, .ref 81, .ref 82, .ref 83, .ref 84, .ref 85, .ref 86, .ref 87, .ref 88, .ref 89, .ref 90, .ref 91, .ref 92, .ref 93, .ref 94, .ref 95, .ref 96, .ref 97, .ref 98, .ref 99, .ref 100, .ref 101, .ref 102, .ref 103, .ref 104, .ref 105, .ref 106, .ref 107, .ref 108, .ref 109, .ref 110, .ref 111, .ref 112, .ref 113, .ref 114, .ref 115, .ref 116, .ref 117, .ref 118, .ref 119, .ref 120, .ref 121, .ref 122, .ref 123, .ref 124, .ref 125, .ref 126, .ref 127, .ref 128, .ref 129, .ref 130, .ref 131, .ref 132, .ref 133, .ref 134, .ref 135, .ref 136, .ref 137, .ref 138, .ref 139, .ref 140, .ref 141, .ref 142, .ref 143, .ref 144, .ref 145, .ref 146, .ref 147, .ref 148, .ref 149, .ref 150, .ref 151, .ref 152, .ref 153, .ref 154, .ref 155, .ref 156, .ref 157, .ref 158, .ref 159, .ref 160, .ref 161, .ref 162, .ref 163, .ref 164, .ref 165, .ref 166, .ref 167, .ref 168, .ref 169, .ref 170, .ref 171, .ref 172, .ref 173, .ref 174, .ref 175, .ref 176, .ref 177, .ref 178, .ref 179, .ref 180, .ref 181, .ref 182, .ref 183, .ref 184, .ref 185, .ref 186, .ref 187, .ref 188, .ref 189, .ref 190, .ref 191, .ref 192, .ref 193, .ref 194, .ref 195, .ref 196, .ref 197, .ref 198, .ref 199, .ref 200, .ref 201, .ref 202, .ref 203, .ref 204, .ref 205, .ref 206, .ref 207, .ref 208, .ref 209, .ref 210, .ref 211, .ref 212, .ref 213, .ref 214, .ref 215, .ref 216, .ref 217, .ref 218, .ref 219, .ref 220, .ref 221, .ref 222, .ref 223, .ref 224, .ref 225, .ref 226, .ref 227, .ref 228, .ref 229, .ref 230, .ref 231, .ref 232, .ref 233, .ref 234, .ref 235, .ref 236, .ref 237, .ref 238, .ref 239, .ref 240, .ref 241, .ref 242, .ref 243, .ref 244, .ref 245, .ref 246, .ref 247, .ref 248, .ref 249, .ref 250, .ref 251, .ref 252, .ref 253, .ref 254, .ref 255, .ref 256, .ref 257], vm := .none },
  { cls := 8, slots := #[.int (-128)], vm := .none },
  { cls := 8, slots := #[.int (-127)], vm := .none },
  { cls := 8, slots := #[.int (-126)], vm := .none },
  { cls := 8, slots := #[.int (-125)], vm := .none },
  { cls := 8, slots := #[.int (-124)], vm := .none },
  { cls := 8, slots := #[.int (-123)], vm := .none },
  { cls := 8, slots := #[.int (-122)], vm := .none },
  { cls := 8, slots := #[.int (-121)], vm := .none },
  { cls := 8, slots := #[.int (-120)], vm := .none },
  { cls := 8, slots := #[.int (-119)], vm := .none },
  { cls := 8, slots := #[.int (-118)], vm := .none },
  { cls := 8, slots := #[.int (-117)], vm := .none },
  { cls := 8, slots := #[.int (-116)], vm := .none },
  { cls := 8, slots := #[.int (-115)], vm := .none },
  { cls := 8, slots := #[.int (-114)], vm := .none },
  { cls := 8, slots := #[.int (-113)], vm := .none },
  { cls := 8, slots := #[.int (-112)], vm := .none },
  { cls := 8, slots := #[.int (-111)], vm := .none },
  { cls := 8, slots := #[.int (-110)], vm := .none },
  { cls := 8, slots := #[.int (-109)], vm := .none },
  { cls := 8, slots := #[.int (-108)], vm := .none },
  { cls := 8, slots := #[.int (-107)], vm := .none },
  { cls := 8, slots := #[.int (-106)], vm := .none },
  { cls := 8, slots := #[.int (-105)], vm := .none },
  { cls := 8, slots := #[.int (-104)], vm := .none },
  { cls := 8, slots := #[.int (-103)], vm := .none },
  { cls := 8, slots := #[.int (-102)], vm := .none },
  { cls := 8, slots := #[.int (-101)], vm := .none },
  { cls := 8, slots := #[.int (-100)], vm := .none },
  { cls := 8, slots := #[.int (-99)], vm := .none },
  { cls := 8, slots := #[.int (-98)], vm := .none },
  { cls := 8, slots := #[.int (-97)], vm := .none },
  { cls := 8, slots := #[.int (-96)], vm := .none },
  { cls := 8, slots := #[.int (-95)], vm := .none },
  { cls := 8, slots := #[.int (-94)], vm := .none },
  { cls := 8, slots := #[.int (-93)], vm := .none },
  { cls := 8, slots := #[.int (-92)], vm := .none },
  { cls := 8, slots := #[.int (-91)], vm := .none },
  { cls := 8, slots := #[.int (-90)], vm := .none },
  { cls := 8, slots := #[.int (-89)], vm := .none },
  { cls := 8, slots := #[.int (-88)], vm := .none },
  { cls := 8, slots := #[.int (-87)], vm := .none },
  { cls := 8, slots := #[.int (-86)], vm := .none },
  { cls := 8, slots := #[.int (-85)], vm := .none },
  { cls := 8, slots := #[.int (-84)], vm := .none },
  { cls := 8, slots := #[.int (-83)], vm := .none },
  { cls := 8, slots := #[.int (-82)], vm := .none },
  { cls := 8, slots := #[.int (-81)], vm := .none },
  { cls := 8, slots := #[.int (-80)], vm := .none },
  { cls := 8, slots := #[.int (-79)], vm := .none },
  { cls := 8, slots := #[.int (-78)], vm := .none },
  { cls := 8, slots := #[.int (-77)], vm := .none },
  { cls := 8, slots := #[.int (-76)], vm := .none },
  { cls := 8, slots := #[.int (-75)], vm := .none },
  { cls := 8, slots := #[.int (-74)], vm := .none },
  { cls := 8, slots := #[.int (-73)], vm := .none },
  { cls := 8, slots := #[.int (-72)], vm := .none },
  { cls := 8, slots := #[.int (-71)], vm := .none },
  { cls := 8, slots := #[.int (-70)], vm := .none },
  { cls := 8, slots := #[.int (-69)], vm := .none },
  { cls := 8, slots := #[.int (-68)], vm := .none },
  { cls := 8, slots := #[.int (-67)], vm := .none },
  { cls := 8, slots := #[.int (-66)], vm := .none },
  { cls := 8, slots := #[.int (-65)], vm := .none },
  { cls := 8, slots := #[.int (-64)], vm := .none },
  { cls := 8, slots := #[.int (-63)], vm := .none },
  { cls := 8, slots := #[.int (-62)], vm := .none },
  { cls := 8, slots := #[.int (-61)], vm := .none },
  { cls := 8, slots := #[.int (-60)], vm := .none },
  { cls := 8, slots := #[.int (-59)], vm := .none },
  { cls := 8, slots := #[.int (-58)], vm := .none },
  { cls := 8, slots := #[.int (-57)], vm := .none },
  { cls := 8, slots := #[.int (-56)], vm := .none },
  { cls := 8, slots := #[.int (-55)], vm := .none },
  { cls := 8, slots := #[.int (-54)], vm := .none },
  { cls := 8, slots := #[.int (-53)], vm := .none },
  { cls := 8, slots := #[.int (-52)], vm := .none },
  { cls := 8, slots := #[.int (-51)], vm := .none },
  { cls := 8, slots := #[.int (-50)], vm := .none },
  { cls := 8, slots := #[.int (-49)], vm := .none },
  { cls := 8, slots := #[.int (-48)], vm := .none },
  { cls := 8, slots := #[.int (-47)], vm := .none },
  { cls := 8, slots := #[.int (-46)], vm := .none },
  { cls := 8, slots := #[.int (-45)], vm := .none },
  { cls := 8, slots := #[.int (-44)], vm := .none },
  { cls := 8, slots := #[.int (-43)], vm := .none },
  { cls := 8, slots := #[.int (-42)], vm := .none },
  { cls := 8, slots := #[.int (-41)], vm := .none },
  { cls := 8, slots := #[.int (-40)], vm := .none },
  { cls := 8, slots := #[.int (-39)], vm := .none },
  { cls := 8, slots := #[.int (-38)], vm := .none },
  { cls := 8, slots := #[.int (-37)], vm := .none },
  { cls := 8, slots := #[.int (-36)], vm := .none },
  { cls := 8, slots := #[.int (-35)], vm := .none },
  { cls := 8, slots := #[.int (-34)], vm := .none },
  { cls := 8, slots := #[.int (-33)], vm := .none },
  { cls := 8, slots := #[.int (-32)], vm := .none },
  { cls := 8, slots := #[.int (-31)], vm := .none },
  { cls := 8, slots := #[.int (-30)], vm := .none },
  { cls := 8, slots := #[.int (-29)], vm := .none },
  { cls := 8, slots := #[.int (-28)], vm := .none },
  { cls := 8, slots := #[.int (-27)], vm := .none },
  { cls := 8, slots := #[.int (-26)], vm := .none },
  { cls := 8, slots := #[.int (-25)], vm := .none },
  { cls := 8, slots := #[.int (-24)], vm := .none },
  { cls := 8, slots := #[.int (-23)], vm := .none },
  { cls := 8, slots := #[.int (-22)], vm := .none },
  { cls := 8, slots := #[.int (-21)], vm := .none },
  { cls := 8, slots := #[.int (-20)], vm := .none },
  { cls := 8, slots := #[.int (-19)], vm := .none },
  { cls := 8, slots := #[.int (-18)], vm := .none },
  { cls := 8, slots := #[.int (-17)], vm := .none },
  { cls := 8, slots := #[.int (-16)], vm := .none },
  { cls := 8, slots := #[.int (-15)], vm := .none },
  { cls := 8, slots := #[.int (-14)], vm := .none },
  { cls := 8, slots := #[.int (-13)], vm := .none },
  { cls := 8, slots := #[.int (-12)], vm := .none },
  { cls := 8, slots := #[.int (-11)], vm := .none },
  { cls := 8, slots := #[.int (-10)], vm := .none },
  { cls := 8, slots := #[.int (-9)], vm := .none },
  { cls := 8, slots := #[.int (-8)], vm := .none },
  { cls := 8, slots := #[.int (-7)], vm := .none },
  { cls := 8, slots := #[.int (-6)], vm := .none },
  { cls := 8, slots := #[.int (-5)], vm := .none },
  { cls := 8, slots := #[.int (-4)], vm := .none },
  { cls := 8, slots := #[.int (-3)], vm := .none },
  { cls := 8, slots := #[.int (-2)], vm := .none },
  { cls := 8, slots := #[.int (-1)], vm := .none },
  { cls := 8, slots := #[.int 0], vm := .none },
  { cls := 8, slots := #[.int 1], vm := .none },
  { cls := 8, slots := #[.int 2], vm := .none },
  { cls := 8, slots := #[.int 3], vm := .none },
  { cls := 8, slots := #[.int 4], vm := .none },
  { cls := 8, slots := #[.int 5], vm := .none },
  { cls := 8, slots := #[.int 6], vm := .none },
  { cls := 8, slots := #[.int 7], vm := .none },
  { cls := 8, slots := #[.int 8], vm := .none },
  { cls := 8, slots := #[.int 9], vm := .none },
  { cls := 8, slots := #[.int 10], vm := .none },
  { cls := 8, slots := #[.int 11], vm := .none },
  { cls := 8, slots := #[.int 12], vm := .none },
  { cls := 8, slots := #[.int 13], vm := .none },
  { cls := 8, slots := #[.int 14], vm := .none },
  { cls := 8, slots := #[.int 15], vm := .none },
  { cls := 8, slots := #[.int 16], vm := .none },
  { cls := 8, slots := #[.int 17], vm := .none },
  { cls := 8, slots := #[.int 18], vm := .none },
  { cls := 8, slots := #[.int 19], vm := .none },
  { cls := 8, slots := #[.int 20], vm := .none },
  { cls := 8, slots := #[.int 21], vm := .none },
  { cls := 8, slots := #[.int 22], vm := .none },
  { cls := 8, slots := #[.int 23], vm := .none },
  { cls := 8, slots := #[.int 24], vm := .none },
  { cls := 8, slots := #[.int 25], vm := .none },
  { cls := 8, slots := #[.int 26], vm := .none },
  { cls := 8, slots := #[.int 27], vm := .none },
  { cls := 8, slots := #[.int 28], vm := .none },
  { cls := 8, slots := #[.int 29], vm := .none },
  { cls := 8, slots := #[.int 30], vm := .none },
  { cls := 8, slots := #[.int 31], vm := .none },
  { cls := 8, slots := #[.int 32], vm := .none },
  { cls := 8, slots := #[.int 33], vm := .none },
  { cls := 8, slots := #[.int 34], vm := .none },
  { cls := 8, slots := #[.int 35], vm := .none },
  { cls := 8, slots := #[.int 36], vm := .none },
  { cls := 8, slots := #[.int 37], vm := .none },
  { cls := 8, slots := #[.int 38], vm := .none },
  { cls := 8, slots := #[.int 39], vm := .none },
  { cls := 8, slots := #[.int 40], vm := .none },
  { cls := 8, slots := #[.int 41], vm := .none },
  { cls := 8, slots := #[.int 42], vm := .none },
  { cls := 8, slots := #[.int 43], vm := .none },
  { cls := 8, slots := #[.int 44], vm := .none },
  { cls := 8, slots := #[.int 45], vm := .none },
  { cls := 8, slots := #[.int 46], vm := .none },
  { cls := 8, slots := #[.int 47], vm := .none },
  { cls := 8, slots := #[.int 48], vm := .none },
  { cls := 8, slots := #[.int 49], vm := .none },
  { cls := 8, slots := #[.int 50], vm := .none },
  { cls := 8, slots := #[.int 51], vm := .none },
  { cls := 8, slots := #[.int 52], vm := .none },
  { cls := 8, slots := #[.int 53], vm := .none },
  { cls := 8, slots := #[.int 54], vm := .none },
  { cls := 8, slots := #[.int 55], vm := .none },
  { cls := 8, slots := #[.int 56], vm := .none },
  { cls := 8, slots := #[.int 57], vm := .none },
  { cls := 8, slots := #[.int 58], vm := .none },
  { cls := 8, slots := #[.int 59], vm := .none },
  { cls := 8, slots := #[.int 60], vm := .none },
  { cls := 8, slots := #[.int 61], vm := .none },
  { cls := 8, slots := #[.int 62], vm := .none },
  { cls := 8, slots := #[.int 63], vm := .none },
  { cls := 8, slots := #[.int 64], vm := .none },
  { cls := 8, slots := #[.int 65], vm := .none },
  { cls := 8, slots := #[.int 66], vm := .none },
  { cls := 8, slots := #[.int 67], vm := .none },
  { cls := 8, slots := #[.int 68], vm := .none },
  { cls := 8, slots := #[.int 69], vm := .none },
  { cls := 8, slots := #[.int 70], vm := .none },
  { cls := 8, slots := #[.int 71], vm := .none },
  { cls := 8, slots := #[.int 72], vm := .none },
  { cls := 8, slots := #[.int 73], vm := .none },
  { cls := 8, slots := #[.int 74], vm := .none },
  { cls := 8, slots := #[.int 75], vm := .none },
  { cls := 8, slots := #[.int 76], vm := .none },
  { cls := 8, slots := #[.int 77], vm := .none },
  { cls := 8, slots := #[.int 78], vm := .none },
  { cls := 8, slots := #[.int 79], vm := .none },
  { cls := 8, slots := #[.int 80], vm := .none },
  { cls := 8, slots := #[.int 81], vm := .none },
  { cls := 8, slots := #[.int 82], vm := .none },
  { cls := 8, slots := #[.int 83], vm := .none },
  { cls := 8, slots := #[.int 84], vm := .none },
  { cls := 8, slots := #[.int 85], vm := .none },
  { cls := 8, slots := #[.int 86], vm := .none },
  { cls := 8, slots := #[.int 87], vm := .none },
  { cls := 8, slots := #[.int 88], vm := .none },
  { cls := 8, slots := #[.int 89], vm := .none },
  { cls := 8, slots := #[.int 90], vm := .none },
  { cls := 8, slots := #[.int 91], vm := .none },
  { cls := 8, slots := #[.int 92], vm := .none },
  { cls := 8, slots := #[.int 93], vm := .none },
  { cls := 8, slots := #[.int 94], vm := .none },
  { cls := 8, slots := #[.int 95], vm := .none },
  { cls := 8, slots := #[.int 96], vm := .none },
  { cls := 8, slots := #[.int 97], vm := .none },
  { cls := 8, slots := #[.int 98], vm := .none },
  { cls := 8, slots := #[.int 99], vm := .none },
  { cls := 8, slots := #[.int 100], vm := .none },
  { cls := 8, slots := #[.int 101], vm := .none },
  { cls := 8, slots := #[.int 102], vm := .none },
  { cls := 8, slots := #[.int 103], vm := .none },
  { cls := 8, slots := #[.int 104], vm := .none },
  { cls := 8, slots := #[.int 105], vm := .none },
  { cls := 8, slots := #[.int 106], vm := .none },
  { cls := 8, slots := #[.int 107], vm := .none },
  { cls := 8, slots := #[.int 108], vm := .none },
  { cls := 8, slots := #[.int 109], vm := .none },
  { cls := 8, slots := #[.int 110], vm := .none },
  { cls := 8, slots := #[.int 111], vm := .none },
  { cls := 8, slots := #[.int 112], vm := .none },
  { cls := 8, slots := #[.int 113], vm := .none },
  { cls := 8, slots := #[.int 114], vm := .none },
  { cls := 8, slots := #[.int 115], vm := .none },
  { cls := 8, slots := #[.int 116], vm := .none },
  { cls := 8, slots := #[.int 117], vm := .none },
  { cls := 8, slots := #[.int 118], vm := .none },
  { cls := 8, slots := #[.int 119], vm := .none },
  { cls := 8, slots := #[.int 120], vm := .none },
  { cls := 8, slots := #[.int 121], vm := .none },
  { cls := 8, slots := #[.int 122], vm := .none },
  { cls := 8, slots := #[.int 123], vm := .none },
  { cls := 8, slots := #[.int 124], vm := .none },
  { cls := 8, slots := #[.int 125], vm := .none },
  { cls := 8, slots := #[.int 126], vm := .none },
  { cls := 8, slots := #[.int 127], vm := .none }]
def classes : Array Class := #[k0, k1, k2, k3, k4, k5, k6, k7, k8, k9, k10, k11, k12, k13, k14, k15]
def interned : List (Array UInt16 × Addr) := []
def slotsUsed : Nat := 517
def theMethod : MethodId := ⟨1, 3⟩
def args0 : Array Value := #[.int 5, .int 1, .int 1, .int 1, .int 1]
def aboutOver (below : List Frame) : State where
  vm := { classes := classes, interned := interned.toArray }
  heap := heap
  slotsUsed := slotsUsed
  threads := #[{ frames := .invoking theMethod args0 :: below }]
def below0 : List Frame := [.native { method := ⟨0, 0⟩, args := #[] }]
def about1 : State := aboutOver below0
def p0 : Program := .bare "" "" ""
def e0 : Env := launch0.env 0 0 0
theorem w_frames : about1.frames = Frame.invoking theMethod args0 :: below0 := rfl
set_option maxRecDepth 65536 in
theorem w_args : argsFit about1.vm theMethod args0 = true := by decide +kernel
set_option maxRecDepth 65536 in
theorem w_heap : heapFits about1 = true := by decide +kernel
set_option maxRecDepth 65536 in
theorem w_runnable : about1.curStatus? = some .runnable := by decide +kernel
set_option maxRecDepth 65536 in
theorem w_alone : about1.alone = true := by decide +kernel
set_option maxRecDepth 65536 in
theorem w_named : about1.methodNamed? x = some theMethod := by decide +kernel
set_option maxRecDepth 65536 in
theorem w_hears : about1.hears theMethod below0 = true := by decide +kernel
set_option maxRecDepth 65536 in
theorem w_ripe : about1.ripe theMethod args0 below0 = true := by decide +kernel
theorem w_running : about1.status = .running := rfl
set_option maxRecDepth 65536 in
theorem w_room : about1.hasRoom e0.platform room_1 = true :=
  launch0.hasRoom_least _ room_1 (by decide +kernel) (by decide +kernel) (by decide +kernel) (by decide +kernel) (by decide +kernel) (by decide +kernel)
theorem allAtoms_all (ts : List Jvm.Cond) (a : Array Jvm.Value) (st : Jvm.State) : (allAtoms ts).before a st = ts.all (fun c => c.before a st) := by
  induction ts with
  | nil => rfl
  | cons c t ih =>
    show (Jvm.Cond.and c (allAtoms t)).before a st = _
    rw [Jvm.Cond.before_and, ih, List.all_cons]
def words1 : List Jvm.Cond := Jvm.Cond.code x code maxLocals ret :: tables_1
/-- a 'code' word, met by the world's own term for the bytes: nothing is compared byte by byte -/
theorem code_word {y : MethodName} {bytes : ByteArray} {mx : Nat} {rt : Option FieldType} {a : Array Value} {s : State} {m : MethodId} {meth : Method} {c : Code} (h1 : s.methodNamed? y = some m) (h2 : s.vm.method? m = some meth) (h3 : meth.code = some c) (h4 : c.code = bytes)
    (h5 : (c.maxLocals == mx && c.exceptionTable.isEmpty && decide (c.maxStack ≤ mostOperands) && decide (meth.sig.returnType = rt) && !meth.locks && decide (parseMethodDescriptor y.desc = some meth.sig)) = true) : (Jvm.Cond.code y bytes mx rt).before a s = true := by
  simp only [Bool.and_eq_true, beq_iff_eq, Bool.not_eq_true', decide_eq_true_eq] at h5
  obtain ⟨⟨⟨⟨⟨g1, g2⟩, g3⟩, g4⟩, g5⟩, g6⟩ := h5
  simp [Cond.before, Cond.holds, Cond.value, h1, h2, h3, h4, g1, g2, g3, g4, g5, g6]
def isCode : Jvm.Cond → Bool
  | .code _ _ _ _ => true
  | _ => false
theorem all_split {L : List Jvm.Cond} {P : Jvm.Cond → Bool} (h1 : L.all (fun c => isCode c || P c) = true) (h2 : ∀ c ∈ L.filter isCode, P c = true) : L.all P = true := by
  refine List.all_eq_true.mpr fun c hc => ?_
  have h := List.all_eq_true.mp h1 c hc
  rcases Bool.eq_false_or_eq_true (isCode c) with hi | hi
  · exact h2 c (List.mem_filter.mpr ⟨hc, hi⟩)
  · simpa [hi] using h
set_option maxRecDepth 65536 in
theorem w_c0 : (Jvm.Cond.code x code maxLocals ret).before args0 about1 = true := code_word (m := ⟨1, 3⟩) (meth := k1m3) (c := k1c3) (by decide +kernel) rfl rfl rfl (by decide +kernel)
set_option maxRecDepth 65536 in
theorem w_c1 : (Jvm.Cond.code ({ cls := "com/example/disk_to_queue/disktoqueue/bench/BodySum", name := "<init>", desc := "()V" } : Jvm.MethodName) prog_1_method_1_code (1 : Nat) (Option.none : Option Jvm.ClassFile.FieldType)).before args0 about1 = true := code_word (m := ⟨2, 0⟩) (meth := k2m0) (c := k2c0) (by decide +kernel) rfl rfl rfl (by decide +kernel)
set_option maxRecDepth 65536 in
theorem w_c2 : (Jvm.Cond.code ({ cls := "java/lang/Object", name := "<init>", desc := "()V" } : Jvm.MethodName) object_method_1_code (1 : Nat) (Option.none : Option Jvm.ClassFile.FieldType)).before args0 about1 = true := code_word (m := ⟨0, 0⟩) (meth := k0m0) (c := k0c0) (by decide +kernel) rfl rfl rfl (by decide +kernel)
set_option maxRecDepth 65536 in
theorem w_c3 : (Jvm.Cond.code ({ cls := "com/example/disk_to_queue/disktoqueue/bench/BodySum", name := "equals", desc := "(Ljava/lang/Object;)Z" } : Jvm.MethodName) prog_1_method_5_code (2 : Nat) (Option.some Jvm.ClassFile.FieldType.boolean)).before args0 about1 = true := code_word (m := ⟨2, 2⟩) (meth := k2m2) (c := k2c2) (by decide +kernel) rfl rfl rfl (by decide +kernel)
set_option maxRecDepth 65536 in
theorem w_c4 : (Jvm.Cond.code ({ cls := "com/example/disk_to_queue/disktoqueue/bench/BodySumEqualsPinLaw", name := "body", desc := "(I)[B" } : Jvm.MethodName) method_2_code (3 : Nat) (Option.some (Jvm.ClassFile.FieldType.array Jvm.ClassFile.FieldType.byte))).before args0 about1 = true := code_word (m := ⟨1, 1⟩) (meth := k1m1) (c := k1c1) (by decide +kernel) rfl rfl rfl (by decide +kernel)
set_option maxRecDepth 65536 in
theorem w_c5 : (Jvm.Cond.code ({ cls := "com/example/disk_to_queue/disktoqueue/bench/BodySum", name := "add", desc := "([B)V" } : Jvm.MethodName) prog_1_method_3_code (2 : Nat) (Option.none : Option Jvm.ClassFile.FieldType)).before args0 about1 = true := code_word (m := ⟨2, 1⟩) (meth := k2m1) (c := k2c1) (by decide +kernel) rfl rfl rfl (by decide +kernel)
set_option maxRecDepth 65536 in
theorem w_c6 : (Jvm.Cond.code ({ cls := "com/example/disk_to_queue/disktoqueue/bench/BodySumEqualsPinLaw", name := "weight", desc := "(I)J" } : Jvm.MethodName) method_3_code (4 : Nat) (Option.some Jvm.ClassFile.FieldType.long)).before args0 about1 = true := code_word (m := ⟨1, 2⟩) (meth := k1m2) (c := k1c2) (by decide +kernel) rfl rfl rfl (by decide +kernel)
set_option maxRecDepth 65536 in
theorem w_c7 : (Jvm.Cond.code ({ cls := "java/lang/Integer", name := "valueOf", desc := "(I)Ljava/lang/Integer;" } : Jvm.MethodName) jdk_33_method_22_code (1 : Nat) (Option.some (Jvm.ClassFile.FieldType.object "java/lang/Integer"))).before args0 about1 = true := code_word (m := ⟨8, 0⟩) (meth := k8m0) (c := k8c0) (by decide +kernel) rfl rfl rfl (by decide +kernel)
set_option maxRecDepth 65536 in
theorem w_c8 : (Jvm.Cond.code ({ cls := "java/lang/Integer", name := "<init>", desc := "(I)V" } : Jvm.MethodName) jdk_33_method_23_code (2 : Nat) (Option.none : Option Jvm.ClassFile.FieldType)).before args0 about1 = true := code_word (m := ⟨8, 1⟩) (meth := k8m1) (c := k8c1) (by decide +kernel) rfl rfl rfl (by decide +kernel)
set_option maxRecDepth 65536 in
theorem w_c9 : (Jvm.Cond.code ({ cls := "java/lang/Number", name := "<init>", desc := "()V" } : Jvm.MethodName) jdk_18_method_1_code (1 : Nat) (Option.none : Option Jvm.ClassFile.FieldType)).before args0 about1 = true := code_word (m := ⟨4, 0⟩) (meth := k4m0) (c := k4c0) (by decide +kernel) rfl rfl rfl (by decide +kernel)
def codes1 : List Jvm.Cond := [Jvm.Cond.code x code maxLocals ret, Jvm.Cond.code ({ cls := "com/example/disk_to_queue/disktoqueue/bench/BodySum", name := "<init>", desc := "()V" } : Jvm.MethodName) prog_1_method_1_code (1 : Nat) (Option.none : Option Jvm.ClassFile.FieldType), Jvm.Cond.code ({ cls := "java/lang/Object", name := "<init>", desc := "()V" } : Jvm.MethodName) object_method_1_code (1 : Nat) (Option.none : Option Jvm.ClassFile.FieldType), Jvm.Cond.code ({ cls := "com/example/disk_to_queue/disktoqueue/bench/BodySum", name := "equals", desc := "(Ljava/lang/Object;)Z" } : Jvm.MethodName) prog_1_method_5_code (2 : Nat) (Option.some Jvm.ClassFile.FieldType.boolean), Jvm.Cond.code ({ cls := "com/example/disk_to_queue/disktoqueue/bench/BodySumEqualsPinLaw", name := "body", desc := "(I)[B" } : Jvm.MethodName) method_2_code (3 : Nat) (Option.some (Jvm.ClassFile.FieldType.array Jvm.ClassFile.FieldType.byte)), Jvm.Cond.code ({ cls := "com/example/disk_to_queue/disktoqueue/bench/BodySum", name := "add", desc := "([B)V" } : Jvm.MethodName) prog_1_method_3_code (2 : Nat) (Option.none : Option Jvm.ClassFile.FieldType), Jvm.Cond.code ({ cls := "com/example/disk_to_queue/disktoqueue/bench/BodySumEqualsPinLaw", name := "weight", desc := "(I)J" } : Jvm.MethodName) method_3_code (4 : Nat) (Option.some Jvm.ClassFile.FieldType.long), Jvm.Cond.code ({ cls := "java/lang/Integer", name := "valueOf", desc := "(I)Ljava/lang/Integer;" } : Jvm.MethodName) jdk_33_method_22_code (1 : Nat) (Option.some (Jvm.ClassFile.FieldType.object "java/lang/Integer")), Jvm.Cond.code ({ cls := "java/lang/Integer", name := "<init>", desc := "(I)V" } : Jvm.MethodName) jdk_33_method_23_code (2 : Nat) (Option.none : Option Jvm.ClassFile.FieldType), Jvm.Cond.code ({ cls := "java/lang/Number", name := "<init>", desc := "()V" } : Jvm.MethodName) jdk_18_method_1_code (1 : Nat) (Option.none : Option Jvm.ClassFile.FieldType)]
set_option maxRecDepth 65536 in
theorem codes_eq : words1.filter isCode = codes1 := rfl
theorem w_codes : ∀ c ∈ words1.filter isCode, c.before args0 about1 = true := by
  rw [codes_eq]
  intro c hc
  simp only [codes1, List.mem_cons, List.not_mem_nil, or_false] at hc
  rcases hc with rfl | rfl | rfl | rfl | rfl | rfl | rfl | rfl | rfl | rfl
  · exact w_c0
  · exact w_c1
  · exact w_c2
  · exact w_c3
  · exact w_c4
  · exact w_c5
  · exact w_c6
  · exact w_c7
  · exact w_c8
  · exact w_c9
set_option maxRecDepth 65536 in
theorem w_t1 : (words1.take 24).all (fun c => isCode c || c.before args0 about1) = true := by decide +kernel
set_option maxRecDepth 65536 in
theorem w_t2 : ((words1.drop 24).take 24).all (fun c => isCode c || c.before args0 about1) = true := by decide +kernel
set_option maxRecDepth 65536 in
theorem w_t3 : ((words1.drop 24).drop 24).all (fun c => isCode c || c.before args0 about1) = true := by decide +kernel
theorem w_tables : (allAtoms (Jvm.Cond.code x code maxLocals ret :: tables_1)).before args0 about1 = true := by
  rw [allAtoms_all]
  show words1.all (fun c => c.before args0 about1) = true
  refine all_split ?_ w_codes
  rw [← List.take_append_drop 24 words1, List.all_append, w_t1, ← List.take_append_drop 24 (words1.drop 24), List.all_append, w_t2, w_t3]
  rfl
set_option maxRecDepth 65536 in
theorem w_rest : rest_1_c.before args0 about1 = true := by decide +kernel
set_option maxRecDepth 65536 in
theorem w_case : (Jvm.Cond.and given_1 narrow_1).before args0 about1 = true := by decide +kernel
theorem w_applies : (headSpec (Jvm.Cond.code x code maxLocals ret :: tables_1) room_1).applies x e0.platform about1 = true :=
  (Spec.applies_iff w_frames).mpr ⟨w_running, w_runnable, w_alone, w_named, w_hears, w_ripe, w_room, w_tables⟩
theorem atStart : AtStart classFile x code maxLocals ret World_1 tables_1 room_1 Calls_1 rest_1 Pre_1 launch0 p0 e0 about1 theMethod args0 below0 :=
  ⟨lists_1, trivial, launch0.admits_env _ _ _, launch0.least_env, fairChoices_fair.cas, fairChoices_fair.clock, w_frames, w_args, w_heap, w_applies, trivial, w_rest, w_case⟩
end start1
theorem witness_1 : WitnessClaimed_1 := ⟨start1.p0, start1.e0, start1.about1, start1.theMethod, start1.args0, start1.below0, start1.atStart⟩
end Jvm.Pilot.@@N@@
