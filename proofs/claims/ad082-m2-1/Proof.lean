import JvmDerived
import JvmDerived.Pilot.@@N@@Statement
import JvmDerived.Pilot.@@N@@Code
set_option linter.unusedVariables false
set_option linter.unusedSimpArgs false
namespace Jvm.RoadKit
open Sem ClassFile Op Lib Jvm.Stand Jvm.Free Jvm.LawKit
section New
variable {p : Program} {l : Launch} {e : Env} {R : Room} {s : State} {m : MethodId} {args : Array Value} {below : List Frame} {meth : Method} {c : Code} {T : State} {locs : List Loc} {cells slots : Nat}
theorem retI (X : Stand p l e R s m args below meth c T locs cells slots) (hx : p.tables.exec = Jvm.exec) {pc : Nat} {Ls : Array Slot} {z : Int32} {rest : List Value} (hret : meth.sig.returnType = some .int) (hd : decode c.code pc = .ok (.ireturn, 1)) {fs : List Frame}
    (hl : ∀ (f : JFrame) (acts : List Action), f.method = m → f.locked = none → f.entered = [] → (doReturn e (T.setTop f) acts (some (.int z))).1 = T.setFrames fs) : Steps p.tables e below (T.setTop (mkF m pc Ls (.int z :: rest))) (T.setFrames fs) := by
  have hm' : T.vm.method? m = some meth := X.method'
  have hn : narrow .int (.int z) = .int z := rfl
  show Steps p.tables e below (T.setTop { method := m, pc := pc, locals := Ls, stack := _ :: rest, locked := none }) _
  jvm_step X.here [X.here.top, hx, hd, hm', hret, hn]
  first | (intro acts; rw [hl _ acts rfl rfl rfl]) | rw [hl _ _ rfl rfl rfl]
  exact Steps.refl _
end New
end Jvm.RoadKit
namespace Jvm.Pilot.@@N@@
open Jvm Jvm.ClassFile Sem Op Lib Jvm.Free Jvm.Stand Jvm.LawKit Jvm.RoadKit Bundle Jvm.Pilot.@@N@@.Jvm.D
def own_add (n f : Int32) : Int64 := if 0 < n then (n + f).toInt64 else (n + 0).toInt64
def own_con (n x : Int32) : Int64 := if n = 0 then 0 else n.toInt64 + (x.toInt8.toInt32).toInt64
def own_hash (v : Int64) : Int32 := (v ^^^ (v.toUInt64 >>> ((32 : Int32) &&& 0x3f).toInt64.toUInt64).toInt64).toInt32
def own_eq (c1 s1 c2 s2 : Int64) : Int32 := if c2 = c1 ∧ s2 = s1 then 1 else 0
theorem own_m3 (x : Int32) : ¬ (x &&& 3) < 0 ∧ (x &&& 3).toNatClampNeg ≤ 3 ∧ 0 ≤ (x &&& 3).toInt ∧ (x &&& 3).toInt ≤ 3 := by
  have h := c_and x 3 (by decide)
  have e : (3 : Int32).toInt = 3 := rfl
  refine ⟨?_, ?_, h.1, by omega⟩
  · rw [Int32.lt_iff_toInt_lt]; have : (0 : Int32).toInt = 0 := rfl; omega
  · unfold Int32.toNatClampNeg; omega
theorem own_ac (n x : Int32) (h0 : 0 ≤ n.toInt) (h3 : n.toInt ≤ 3) : own_add n (x.toInt8.toInt32) = own_con n x := by
  unfold own_add own_con
  have b := c_i2b x
  generalize x.toInt8.toInt32 = f at *
  have e0 : (0 : Int32).toInt = 0 := rfl
  by_cases hn : n = 0
  · subst hn; rw [if_neg (by decide), if_pos rfl]; decide
  · have hp : 0 < n := by rw [Int32.lt_iff_toInt_lt, e0]; rw [← Int32.toInt_inj, e0] at hn; omega
    rw [if_pos hp, if_neg hn, ← Int64.toInt_inj, c_i2l]
    have h1 := c_iadd n f; have h2 := c_ladd n.toInt64 f.toInt64; rw [c_i2l, c_i2l] at h2
    have r1 := rng32 (n + f); have r2 := rng64 (n.toInt64 + f.toInt64)
    omega
theorem own_h1 (n x : Int32) (h : ¬ n < 0 ∧ n.toNatClampNeg ≤ 3 ∧ 0 ≤ n.toInt ∧ n.toInt ≤ 3) : (((31 : Int64) * ((0 : Int64) + (1 : Int64))) + ((0 : Int64) + (own_add n (x.toInt8.toInt32)))) = ((31 : Int64) + (own_con n x)) := by
  rw [own_ac n x h.2.2.1 h.2.2.2, Int64.zero_add, Int64.zero_add, Int64.mul_one]
theorem own_h2 (n x k y : Int32) (h : ¬ n < 0 ∧ n.toNatClampNeg ≤ 3 ∧ 0 ≤ n.toInt ∧ n.toInt ≤ 3) (h' : ¬ k < 0 ∧ k.toNatClampNeg ≤ 3 ∧ 0 ≤ k.toInt ∧ k.toInt ≤ 3) : (((31 : Int64) * (((0 : Int64) + (1 : Int64)) + (1 : Int64))) + (((0 : Int64) + (own_add n (x.toInt8.toInt32))) + (own_add k (y.toInt8.toInt32)))) = (((62 : Int64) + (own_con n x)) + (own_con k y)) := by
  rw [own_ac n x h.2.2.1 h.2.2.2, own_ac k y h'.2.2.1 h'.2.2.2, Int64.zero_add, Int64.zero_add, show (31 : Int64) * ((1 : Int64) + (1 : Int64)) = 62 from by decide, Int64.add_assoc]
theorem own_e1 (n x k y : Int32) (h : ¬ n < 0 ∧ n.toNatClampNeg ≤ 3 ∧ 0 ≤ n.toInt ∧ n.toInt ≤ 3) (h' : ¬ k < 0 ∧ k.toNatClampNeg ≤ 3 ∧ 0 ≤ k.toInt ∧ k.toInt ≤ 3) : (own_eq ((0 : Int64) + (1 : Int64)) ((0 : Int64) + (own_add n (x.toInt8.toInt32))) ((0 : Int64) + (1 : Int64)) ((0 : Int64) + (own_add k (y.toInt8.toInt32)))) = (if (lcmpW (own_con n x) (own_con k y)) = (0 : Int32) then (1 : Int32) else (0 : Int32)) := by
  rw [own_ac n x h.2.2.1 h.2.2.2, own_ac k y h'.2.2.1 h'.2.2.2]
  unfold own_eq
  by_cases q : own_con n x = own_con k y
  · rw [if_pos ((lw_eq _ _).mpr q), if_pos ⟨rfl, by rw [q]⟩]
  · rw [if_neg (fun z => q ((lw_eq _ _).mp z)), if_neg]
    rintro ⟨-, z⟩
    rw [Int64.zero_add, Int64.zero_add] at z
    exact q z.symm
theorem d1_0 : decode method_3_code 0 = .ok (.iload_n 0, 1) := by decide +kernel
theorem d1_1 : decode method_3_code 1 = .ok (.newarray .byte, 2) := by decide +kernel
theorem d1_3 : decode method_3_code 3 = .ok (.astore_n 3, 1) := by decide +kernel
theorem d1_4 : decode method_3_code 4 = .ok (.iload_n 0, 1) := by decide +kernel
theorem d1_5 : decode method_3_code 5 = .ok (.ifCond .le 8, 3) := by decide +kernel
theorem d1_8 : decode method_3_code 8 = .ok (.aload_n 3, 1) := by decide +kernel
theorem d1_9 : decode method_3_code 9 = .ok (.iconst 0, 1) := by decide +kernel
theorem d1_10 : decode method_3_code 10 = .ok (.iload_n 1, 1) := by decide +kernel
theorem d1_11 : decode method_3_code 11 = .ok (.i2b, 1) := by decide +kernel
theorem d1_12 : decode method_3_code 12 = .ok (.bastore, 1) := by decide +kernel
theorem d1_13 : decode method_3_code 13 = .ok (.iload_n 0, 1) := by decide +kernel
theorem d1_14 : decode method_3_code 14 = .ok (.iconst 1, 1) := by decide +kernel
theorem d1_15 : decode method_3_code 15 = .ok (.if_icmp .le 8, 3) := by decide +kernel
theorem d1_18 : decode method_3_code 18 = .ok (.aload_n 3, 1) := by decide +kernel
theorem d1_19 : decode method_3_code 19 = .ok (.iconst 1, 1) := by decide +kernel
theorem d1_20 : decode method_3_code 20 = .ok (.iload_n 2, 1) := by decide +kernel
theorem d1_21 : decode method_3_code 21 = .ok (.i2b, 1) := by decide +kernel
theorem d1_22 : decode method_3_code 22 = .ok (.bastore, 1) := by decide +kernel
theorem d1_23 : decode method_3_code 23 = .ok (.iload_n 0, 1) := by decide +kernel
theorem d1_24 : decode method_3_code 24 = .ok (.iconst 2, 1) := by decide +kernel
theorem d1_25 : decode method_3_code 25 = .ok (.if_icmp .le 11, 3) := by decide +kernel
theorem d1_28 : decode method_3_code 28 = .ok (.aload_n 3, 1) := by decide +kernel
theorem d1_29 : decode method_3_code 29 = .ok (.iconst 2, 1) := by decide +kernel
theorem d1_30 : decode method_3_code 30 = .ok (.iload_n 2, 1) := by decide +kernel
theorem d1_31 : decode method_3_code 31 = .ok (.bipush 8, 2) := by decide +kernel
theorem d1_33 : decode method_3_code 33 = .ok (.ishr, 1) := by decide +kernel
theorem d1_34 : decode method_3_code 34 = .ok (.i2b, 1) := by decide +kernel
theorem d1_35 : decode method_3_code 35 = .ok (.bastore, 1) := by decide +kernel
theorem d1_36 : decode method_3_code 36 = .ok (.aload_n 3, 1) := by decide +kernel
theorem d1_37 : decode method_3_code 37 = .ok (.areturn, 1) := by decide +kernel
theorem own_pn0 : plainName "com/example/disk_to_queue/disktoqueue/bench/BodySumAddPinLaw" = true := by first | (simp [plainName, overriddenIn]; done) | decide +kernel
theorem rmB_ef (m : MethodId) (x0 : Int32) (x1 : Int32) (x2 : Int32) : entryFrame m #[(.int x0), (.int x1), (.int x2)] 4 = mkF m 0 #[.val (.int x0), .val (.int x1), .val (.int x2), .unset] [] := by first | (simp [entryFrame, mkF, argsToLocals, Value.category]; done) | rfl
def QB (Z : State) (p1 : Int32) (p2 : Int32) (p3 : Int32) (h0 : Heap) (n0 : Nat) (v : Option Value) (h : Heap) (L : List Loc) : Prop := ∃ (b : Addr) (k : ClassId) (vs : List Value), v = some (.ref b) ∧ Fr n0 L ∧ Keep h0 h [] ∧ h0.size ≤ b ∧ Arv Z h b k .byte p1 vs (.int (0 : Int32)) ∧ (0 < p1 → vs.getD 0 (.int (0 : Int32)) = .int (p2.toInt8.toInt32))
set_option maxRecDepth 65536 in
set_option maxHeartbeats 40000000 in
theorem rmB (l : Launch) (Z : State) (a0 : Array Value) (hw : ∀ d ∈ tables_1, d.before a0 Z = true) (ws : List Jvm.Cond) (p1 : Int32) (p2 : Int32) (p3 : Int32) (h0 : Heap) (n0 : Nat) (Z0 : n0 ≤ h0.size) (hl1 : ¬ p1 < 0) (hl2 : p1.toNatClampNeg ≤ 3) :
    MetFree l (⟨"com/example/disk_to_queue/disktoqueue/bench/BodySumAddPinLaw", "body", "(III)[B"⟩ : MethodName) (head1 (Jvm.Cond.code (⟨"com/example/disk_to_queue/disktoqueue/bench/BodySumAddPinLaw", "body", "(III)[B"⟩ : MethodName) method_3_code 4 (some (.array .byte)) :: ws) ({ frames := 0, cells := 1, slots := 3, locals := 0 } : Room)) (fun aA' U => aA' = #[(.int p1), (.int p2), (.int p3)] ∧ Z.Warmed39 U.vm ∧ U.heap = h0) (fun _ _ _ _ _ => True) (fun _ U oO' U' => ∃ vV' L, oO' = .returned vV' ∧ QB Z p1 p2 p3 h0 n0 vV' U'.heap L ∧ FrameEnd U oO' U' L ({ frames := 0, cells := 1, slots := 3, locals := 0 } : Room).cells ({ frames := 0, cells := 1, slots := 3, locals := 0 } : Room).slots) := by
  refine MetFree.of_bodySF (plainFor_of_name own_pn0) hisR ?_
  intro p e s m args below meth c s₁ Bd hml0 hP hK
  obtain ⟨rfl, hZ, hh⟩ := hP
  have hx := Bd.exec
  have hby := Bd.bytes
  have hml : c.maxLocals = 4 := hml0
  have hown : s.vm.findClass "com/example/disk_to_queue/disktoqueue/bench/BodySumAddPinLaw" = some m.cls := findClass_of_methodNamed Bd.named
  have hnm := (name_of_methodNamed Bd.named Bd.method).1
  have X0 : Stand p l e ({ frames := 0, cells := 1, slots := 3, locals := 0 } : Room) s m #[(.int p1), (.int p2), (.int p3)] below meth c s₁ [] 0 0 := Stand.of_body Bd
  have e0 : s₁.heap = h0 := by rw [← hh, Bd.state]; rfl
  have N0 := Fr.nil n0
  have K0 : Keep h0 h0 [] := Keep.refl _ _
  have k0 : ∀ t, Steps p.tables e below (s₁.setTop (mkF m 0 #[.val (.int p1), .val (.int p2), .val (.int p3), .unset] [])) t → Steps p.tables e below (s₁.setTop (entryFrame m #[(.int p1), (.int p2), (.int p3)] 4)) t := fun t k => castTop (rmB_ef m (p1) (p2) (p3)) k
  have k1 : ∀ t, Steps p.tables e below (s₁.setTop (mkF m 1 #[.val (.int p1), .val (.int p2), .val (.int p3), .unset] [(.int p1)])) t → Steps p.tables e below (s₁.setTop (entryFrame m #[(.int p1), (.int p2), (.int p3)] 4)) t := by
    intro t kt
    refine k0 t ?_
    show Steps p.tables e below (s₁.setTop (mkF m 0 #[.val (.int p1), .val (.int p2), .val (.int p3), .unset] [])) t
    refine XS.iloadN X0.here hx rfl (hb hby d1_0) rfl ?_
    exact kt
  obtain ⟨T2, h2, c2, X2, e2, E2, A2, st2⟩ := newP X0 hx hZ (hw _ (List.mem_of_getElem? (i := 4) rfl)) e0 (g := (mkF m 1 #[.val (.int p1), .val (.int p2), .val (.int p3), .unset] [(.int p1)])) rfl (hb hby d1_1) rfl hl1 (cap := 3) hl2 (by decide) (by decide) (by decide)
  obtain ⟨b2, g2⟩ : ∃ z, z = h0.size := ⟨_, rfl⟩
  rw [← g2] at A2 st2
  have g_b2 : n0 ≤ b2 := Nat.le_trans Z0 (Nat.le_of_eq g2.symm)
  have sz_b2 : h0.size ≤ b2 := Nat.le_trans K0.1 (Nat.le_of_eq g2.symm)
  have Z2 : n0 ≤ h2.size := Nat.le_trans Z0 E2.1
  have K2 : Keep h0 h2 [] := K0.ext E2
  have F3 : Arv Z h2 b2 c2 .byte p1 [(.int (0 : Int32)), (.int (0 : Int32)), (.int (0 : Int32))] (.int (0 : Int32)) := (Arv.new A2 hl1).pad (pad_rep [] (.int (0 : Int32)) 3)
  have k4 : ∀ t, Steps p.tables e below (T2.setTop (mkF m 3 #[.val (.int p1), .val (.int p2), .val (.int p3), .unset] [(.ref b2)])) t → Steps p.tables e below (s₁.setTop (entryFrame m #[(.int p1), (.int p2), (.int p3)] 4)) t := fun t kt => k1 t (st2 t kt)
  have k6 : ∀ t, Steps p.tables e below (T2.setTop (mkF m 5 #[.val (.int p1), .val (.int p2), .val (.int p3), .val (.ref b2)] [(.int p1)])) t → Steps p.tables e below (s₁.setTop (entryFrame m #[(.int p1), (.int p2), (.int p3)] 4)) t := by
    intro t kt
    refine k4 t ?_
    show Steps p.tables e below (T2.setTop (mkF m 3 #[.val (.int p1), .val (.int p2), .val (.int p3), .unset] [(.ref b2)])) t
    refine XS.astoreN X2.here hx rfl (hb hby d1_3) rfl rfl (l' := #[.val (.int p1), .val (.int p2), .val (.int p3), .val (.ref b2)]) rfl ?_
    show Steps p.tables e below (T2.setTop (mkF m 4 #[.val (.int p1), .val (.int p2), .val (.int p3), .val (.ref b2)] [])) t
    refine XS.iloadN X2.here hx rfl (hb hby d1_4) rfl ?_
    exact kt
  by_cases hc5_5 : (0 : Int32) < p1
  · have k7 : ∀ t, Steps p.tables e below (T2.setTop (mkF m 12 #[.val (.int p1), .val (.int p2), .val (.int p3), .val (.ref b2)] [(.int (p2.toInt8.toInt32)), (.int (0 : Int32)), (.ref b2)])) t → Steps p.tables e below (s₁.setTop (entryFrame m #[(.int p1), (.int p2), (.int p3)] 4)) t := by
      intro t kt
      refine k6 t ?_
      show Steps p.tables e below (T2.setTop (mkF m 5 #[.val (.int p1), .val (.int p2), .val (.int p3), .val (.ref b2)] [(.int p1)])) t
      refine XS.ifNo X2.here hx rfl (hb hby d1_5) rfl ((if0 _ _).trans (tlt hc5_5).2.2.2) ?_
      show Steps p.tables e below (T2.setTop (mkF m 8 #[.val (.int p1), .val (.int p2), .val (.int p3), .val (.ref b2)] [])) t
      refine XS.aloadN X2.here hx rfl (hb hby d1_8) rfl rfl ?_
      show Steps p.tables e below (T2.setTop (mkF m 9 #[.val (.int p1), .val (.int p2), .val (.int p3), .val (.ref b2)] [(.ref b2)])) t
      refine XS.iconst X2.here hx rfl (hb hby d1_9) ?_
      show Steps p.tables e below (T2.setTop (mkF m 10 #[.val (.int p1), .val (.int p2), .val (.int p3), .val (.ref b2)] [(.int (0 : Int32)), (.ref b2)])) t
      refine XS.iloadN X2.here hx rfl (hb hby d1_10) rfl ?_
      show Steps p.tables e below (T2.setTop (mkF m 11 #[.val (.int p1), .val (.int p2), .val (.int p3), .val (.ref b2)] [(.int p2), (.int (0 : Int32)), (.ref b2)])) t
      refine XS.i2b X2.here hx rfl (hb hby d1_11) rfl ?_
      exact kt
    obtain ⟨cl8, Ar8, q8, S8, M8, H8, G8⟩ := id F3
    have hin8 : ¬ ((0 : Int32) < 0 ∨ cl8.slots.size ≤ ((0 : Int32)).toNatClampNeg) := inb_of S8 ⟨by decide, hc5_5⟩
    obtain ⟨T8, h8, X8, e8, W8, st8⟩ := stB X2 hx hZ e2 Ar8 (j := (0 : Int32)) hin8 (g := (mkF m 12 #[.val (.int p1), .val (.int p2), .val (.int p3), .val (.ref b2)] [(.int (p2.toInt8.toInt32)), (.int (0 : Int32)), (.ref b2)])) rfl rfl (hb hby d1_12)
    have F9 : Arv Z h8 b2 c2 .byte p1 [(.int ((p2.toInt8.toInt32).toInt8.toInt32)), (.int (0 : Int32)), (.int (0 : Int32))] (.int (0 : Int32)) := Arv.set Ar8 q8 S8 M8 H8 G8 (fits_nar_byte _) W8 0 rfl (Nat.le_of_ble_eq_true rfl)
    have Z8 : n0 ≤ h8.size := Nat.le_trans Z2 (Keep.of_wr W8).1
    have K8 : Keep h0 h8 [] := K2.wr W8 (Or.inr sz_b2)
    have N8 := Fr.snoc X8 N0 g_b2
    have k11 : ∀ t, Steps p.tables e below (T8.setTop (mkF m 13 #[.val (.int p1), .val (.int p2), .val (.int p3), .val (.ref b2)] [])) t → Steps p.tables e below (s₁.setTop (entryFrame m #[(.int p1), (.int p2), (.int p3)] 4)) t := fun t kt => k7 t (st8 t kt)
    have k13 : ∀ t, Steps p.tables e below (T8.setTop (mkF m 15 #[.val (.int p1), .val (.int p2), .val (.int p3), .val (.ref b2)] [(.int (1 : Int32)), (.int p1)])) t → Steps p.tables e below (s₁.setTop (entryFrame m #[(.int p1), (.int p2), (.int p3)] 4)) t := by
      intro t kt
      refine k11 t ?_
      show Steps p.tables e below (T8.setTop (mkF m 13 #[.val (.int p1), .val (.int p2), .val (.int p3), .val (.ref b2)] [])) t
      refine XS.iloadN X8.here hx rfl (hb hby d1_13) rfl ?_
      show Steps p.tables e below (T8.setTop (mkF m 14 #[.val (.int p1), .val (.int p2), .val (.int p3), .val (.ref b2)] [(.int p1)])) t
      refine XS.iconst X8.here hx rfl (hb hby d1_14) ?_
      exact kt
    by_cases hc15_12 : (1 : Int32) < p1
    · have k14 : ∀ t, Steps p.tables e below (T8.setTop (mkF m 22 #[.val (.int p1), .val (.int p2), .val (.int p3), .val (.ref b2)] [(.int (p3.toInt8.toInt32)), (.int (1 : Int32)), (.ref b2)])) t → Steps p.tables e below (s₁.setTop (entryFrame m #[(.int p1), (.int p2), (.int p3)] 4)) t := by
        intro t kt
        refine k13 t ?_
        show Steps p.tables e below (T8.setTop (mkF m 15 #[.val (.int p1), .val (.int p2), .val (.int p3), .val (.ref b2)] [(.int (1 : Int32)), (.int p1)])) t
        refine XS.icmpNo X8.here hx rfl (hb hby d1_15) rfl (tlt hc15_12).2.2.2 ?_
        show Steps p.tables e below (T8.setTop (mkF m 18 #[.val (.int p1), .val (.int p2), .val (.int p3), .val (.ref b2)] [])) t
        refine XS.aloadN X8.here hx rfl (hb hby d1_18) rfl rfl ?_
        show Steps p.tables e below (T8.setTop (mkF m 19 #[.val (.int p1), .val (.int p2), .val (.int p3), .val (.ref b2)] [(.ref b2)])) t
        refine XS.iconst X8.here hx rfl (hb hby d1_19) ?_
        show Steps p.tables e below (T8.setTop (mkF m 20 #[.val (.int p1), .val (.int p2), .val (.int p3), .val (.ref b2)] [(.int (1 : Int32)), (.ref b2)])) t
        refine XS.iloadN X8.here hx rfl (hb hby d1_20) rfl ?_
        show Steps p.tables e below (T8.setTop (mkF m 21 #[.val (.int p1), .val (.int p2), .val (.int p3), .val (.ref b2)] [(.int p3), (.int (1 : Int32)), (.ref b2)])) t
        refine XS.i2b X8.here hx rfl (hb hby d1_21) rfl ?_
        exact kt
      obtain ⟨cl15, Ar15, q15, S15, M15, H15, G15⟩ := id F9
      have hin15 : ¬ ((1 : Int32) < 0 ∨ cl15.slots.size ≤ ((1 : Int32)).toNatClampNeg) := inb_of S15 ⟨by decide, hc15_12⟩
      obtain ⟨T15, h15, X15, e15, W15, st15⟩ := stB X8 hx hZ e8 Ar15 (j := (1 : Int32)) hin15 (g := (mkF m 22 #[.val (.int p1), .val (.int p2), .val (.int p3), .val (.ref b2)] [(.int (p3.toInt8.toInt32)), (.int (1 : Int32)), (.ref b2)])) rfl rfl (hb hby d1_22)
      have F16 : Arv Z h15 b2 c2 .byte p1 [(.int ((p2.toInt8.toInt32).toInt8.toInt32)), (.int ((p3.toInt8.toInt32).toInt8.toInt32)), (.int (0 : Int32))] (.int (0 : Int32)) := Arv.set Ar15 q15 S15 M15 H15 G15 (fits_nar_byte _) W15 1 rfl (Nat.le_of_ble_eq_true rfl)
      have Z15 : n0 ≤ h15.size := Nat.le_trans Z8 (Keep.of_wr W15).1
      have K15 : Keep h0 h15 [] := K8.wr W15 (Or.inr sz_b2)
      have N15 := Fr.snoc X15 N8 g_b2
      have k18 : ∀ t, Steps p.tables e below (T15.setTop (mkF m 23 #[.val (.int p1), .val (.int p2), .val (.int p3), .val (.ref b2)] [])) t → Steps p.tables e below (s₁.setTop (entryFrame m #[(.int p1), (.int p2), (.int p3)] 4)) t := fun t kt => k14 t (st15 t kt)
      have k20 : ∀ t, Steps p.tables e below (T15.setTop (mkF m 25 #[.val (.int p1), .val (.int p2), .val (.int p3), .val (.ref b2)] [(.int (2 : Int32)), (.int p1)])) t → Steps p.tables e below (s₁.setTop (entryFrame m #[(.int p1), (.int p2), (.int p3)] 4)) t := by
        intro t kt
        refine k18 t ?_
        show Steps p.tables e below (T15.setTop (mkF m 23 #[.val (.int p1), .val (.int p2), .val (.int p3), .val (.ref b2)] [])) t
        refine XS.iloadN X15.here hx rfl (hb hby d1_23) rfl ?_
        show Steps p.tables e below (T15.setTop (mkF m 24 #[.val (.int p1), .val (.int p2), .val (.int p3), .val (.ref b2)] [(.int p1)])) t
        refine XS.iconst X15.here hx rfl (hb hby d1_24) ?_
        exact kt
      by_cases hc25_19 : (2 : Int32) < p1
      · have k21 : ∀ t, Steps p.tables e below (T15.setTop (mkF m 35 #[.val (.int p1), .val (.int p2), .val (.int p3), .val (.ref b2)] [(.int ((p3 >>> ((8 : Int32) &&& 31)).toInt8.toInt32)), (.int (2 : Int32)), (.ref b2)])) t → Steps p.tables e below (s₁.setTop (entryFrame m #[(.int p1), (.int p2), (.int p3)] 4)) t := by
          intro t kt
          refine k20 t ?_
          show Steps p.tables e below (T15.setTop (mkF m 25 #[.val (.int p1), .val (.int p2), .val (.int p3), .val (.ref b2)] [(.int (2 : Int32)), (.int p1)])) t
          refine XS.icmpNo X15.here hx rfl (hb hby d1_25) rfl (tlt hc25_19).2.2.2 ?_
          show Steps p.tables e below (T15.setTop (mkF m 28 #[.val (.int p1), .val (.int p2), .val (.int p3), .val (.ref b2)] [])) t
          refine XS.aloadN X15.here hx rfl (hb hby d1_28) rfl rfl ?_
          show Steps p.tables e below (T15.setTop (mkF m 29 #[.val (.int p1), .val (.int p2), .val (.int p3), .val (.ref b2)] [(.ref b2)])) t
          refine XS.iconst X15.here hx rfl (hb hby d1_29) ?_
          show Steps p.tables e below (T15.setTop (mkF m 30 #[.val (.int p1), .val (.int p2), .val (.int p3), .val (.ref b2)] [(.int (2 : Int32)), (.ref b2)])) t
          refine XS.iloadN X15.here hx rfl (hb hby d1_30) rfl ?_
          show Steps p.tables e below (T15.setTop (mkF m 31 #[.val (.int p1), .val (.int p2), .val (.int p3), .val (.ref b2)] [(.int p3), (.int (2 : Int32)), (.ref b2)])) t
          refine XS.bipush X15.here hx rfl (hb hby d1_31) ?_
          show Steps p.tables e below (T15.setTop (mkF m 33 #[.val (.int p1), .val (.int p2), .val (.int p3), .val (.ref b2)] [(.int (8 : Int32)), (.int p3), (.int (2 : Int32)), (.ref b2)])) t
          refine XS.ishr X15.here hx rfl (hb hby d1_33) rfl ?_
          show Steps p.tables e below (T15.setTop (mkF m 34 #[.val (.int p1), .val (.int p2), .val (.int p3), .val (.ref b2)] [(.int (p3 >>> ((8 : Int32) &&& 31))), (.int (2 : Int32)), (.ref b2)])) t
          refine XS.i2b X15.here hx rfl (hb hby d1_34) rfl ?_
          exact kt
        obtain ⟨cl22, Ar22, q22, S22, M22, H22, G22⟩ := id F16
        have hin22 : ¬ ((2 : Int32) < 0 ∨ cl22.slots.size ≤ ((2 : Int32)).toNatClampNeg) := inb_of S22 ⟨by decide, hc25_19⟩
        obtain ⟨T22, h22, X22, e22, W22, st22⟩ := stB X15 hx hZ e15 Ar22 (j := (2 : Int32)) hin22 (g := (mkF m 35 #[.val (.int p1), .val (.int p2), .val (.int p3), .val (.ref b2)] [(.int ((p3 >>> ((8 : Int32) &&& 31)).toInt8.toInt32)), (.int (2 : Int32)), (.ref b2)])) rfl rfl (hb hby d1_35)
        have F23 : Arv Z h22 b2 c2 .byte p1 [(.int ((p2.toInt8.toInt32).toInt8.toInt32)), (.int ((p3.toInt8.toInt32).toInt8.toInt32)), (.int (((p3 >>> ((8 : Int32) &&& 31)).toInt8.toInt32).toInt8.toInt32))] (.int (0 : Int32)) := Arv.set Ar22 q22 S22 M22 H22 G22 (fits_nar_byte _) W22 2 rfl (Nat.le_of_ble_eq_true rfl)
        have Z22 : n0 ≤ h22.size := Nat.le_trans Z15 (Keep.of_wr W22).1
        have K22 : Keep h0 h22 [] := K15.wr W22 (Or.inr sz_b2)
        have N22 := Fr.snoc X22 N15 g_b2
        have k25 : ∀ t, Steps p.tables e below (T22.setTop (mkF m 36 #[.val (.int p1), .val (.int p2), .val (.int p3), .val (.ref b2)] [])) t → Steps p.tables e below (s₁.setTop (entryFrame m #[(.int p1), (.int p2), (.int p3)] 4)) t := fun t kt => k21 t (st22 t kt)
        have k26 : ∀ t, Steps p.tables e below (T22.setTop (mkF m 37 #[.val (.int p1), .val (.int p2), .val (.int p3), .val (.ref b2)] [(.ref b2)])) t → Steps p.tables e below (s₁.setTop (entryFrame m #[(.int p1), (.int p2), (.int p3)] 4)) t := by
          intro t kt
          refine k25 t ?_
          show Steps p.tables e below (T22.setTop (mkF m 36 #[.val (.int p1), .val (.int p2), .val (.int p3), .val (.ref b2)] [])) t
          refine XS.aloadN X22.here hx rfl (hb hby d1_36) rfl rfl ?_
          exact kt
        obtain ⟨fs, hr, hrun, hended, hW, hsame⟩ := X22.leave (v := some (.ref b2)) (fun h => by rw [Bd.returns] at h; cases h)
        refine ⟨_, _, k26 _ ?_, hrun, hended, _, _, rfl, ?_, ⟨_, rfl⟩, hW, hsame.mono (by decide) (by decide)⟩
        · show Steps p.tables e below (T22.setTop (mkF m 37 #[.val (.int p1), .val (.int p2), .val (.int p3), .val (.ref b2)] [(.ref b2)])) _
          jvm_step X22.here [X22.here.top, hx, (hb hby d1_37), X22.method', Bd.returns, Value.isRef, FieldType.isReference]
          first | (intro acts; rw [hr _ acts rfl rfl rfl]) | rw [hr _ _ rfl rfl rfl]
          exact Steps.refl _
        · show QB Z p1 p2 p3 h0 n0 _ T22.heap _
          rw [e22]
          exact ⟨b2, c2, _, rfl, N22, K22, sz_b2, F23, fun _ => by simp⟩
      · have k27 : ∀ t, Steps p.tables e below (T15.setTop (mkF m 37 #[.val (.int p1), .val (.int p2), .val (.int p3), .val (.ref b2)] [(.ref b2)])) t → Steps p.tables e below (s₁.setTop (entryFrame m #[(.int p1), (.int p2), (.int p3)] 4)) t := by
          intro t kt
          refine k20 t ?_
          show Steps p.tables e below (T15.setTop (mkF m 25 #[.val (.int p1), .val (.int p2), .val (.int p3), .val (.ref b2)] [(.int (2 : Int32)), (.int p1)])) t
          refine XS.icmpYes X15.here hx rfl (pc0 := 25) (pc' := 36) rfl (hb hby d1_25) rfl (flt hc25_19).2.2.2 (by decide) (by decide) ?_
          show Steps p.tables e below (T15.setTop (mkF m 36 #[.val (.int p1), .val (.int p2), .val (.int p3), .val (.ref b2)] [])) t
          refine XS.aloadN X15.here hx rfl (hb hby d1_36) rfl rfl ?_
          exact kt
        obtain ⟨fs, hr, hrun, hended, hW, hsame⟩ := X15.leave (v := some (.ref b2)) (fun h => by rw [Bd.returns] at h; cases h)
        refine ⟨_, _, k27 _ ?_, hrun, hended, _, _, rfl, ?_, ⟨_, rfl⟩, hW, hsame.mono (by decide) (by decide)⟩
        · show Steps p.tables e below (T15.setTop (mkF m 37 #[.val (.int p1), .val (.int p2), .val (.int p3), .val (.ref b2)] [(.ref b2)])) _
          jvm_step X15.here [X15.here.top, hx, (hb hby d1_37), X15.method', Bd.returns, Value.isRef, FieldType.isReference]
          first | (intro acts; rw [hr _ acts rfl rfl rfl]) | rw [hr _ _ rfl rfl rfl]
          exact Steps.refl _
        · show QB Z p1 p2 p3 h0 n0 _ T15.heap _
          rw [e15]
          exact ⟨b2, c2, _, rfl, N15, K15, sz_b2, F16, fun _ => by simp⟩
    · have k29 : ∀ t, Steps p.tables e below (T8.setTop (mkF m 25 #[.val (.int p1), .val (.int p2), .val (.int p3), .val (.ref b2)] [(.int (2 : Int32)), (.int p1)])) t → Steps p.tables e below (s₁.setTop (entryFrame m #[(.int p1), (.int p2), (.int p3)] 4)) t := by
        intro t kt
        refine k13 t ?_
        show Steps p.tables e below (T8.setTop (mkF m 15 #[.val (.int p1), .val (.int p2), .val (.int p3), .val (.ref b2)] [(.int (1 : Int32)), (.int p1)])) t
        refine XS.icmpYes X8.here hx rfl (pc0 := 15) (pc' := 23) rfl (hb hby d1_15) rfl (flt hc15_12).2.2.2 (by decide) (by decide) ?_
        show Steps p.tables e below (T8.setTop (mkF m 23 #[.val (.int p1), .val (.int p2), .val (.int p3), .val (.ref b2)] [])) t
        refine XS.iloadN X8.here hx rfl (hb hby d1_23) rfl ?_
        show Steps p.tables e below (T8.setTop (mkF m 24 #[.val (.int p1), .val (.int p2), .val (.int p3), .val (.ref b2)] [(.int p1)])) t
        refine XS.iconst X8.here hx rfl (hb hby d1_24) ?_
        exact kt
      by_cases hc25_28 : (2 : Int32) < p1
      · have k30 : ∀ t, Steps p.tables e below (T8.setTop (mkF m 35 #[.val (.int p1), .val (.int p2), .val (.int p3), .val (.ref b2)] [(.int ((p3 >>> ((8 : Int32) &&& 31)).toInt8.toInt32)), (.int (2 : Int32)), (.ref b2)])) t → Steps p.tables e below (s₁.setTop (entryFrame m #[(.int p1), (.int p2), (.int p3)] 4)) t := by
          intro t kt
          refine k29 t ?_
          show Steps p.tables e below (T8.setTop (mkF m 25 #[.val (.int p1), .val (.int p2), .val (.int p3), .val (.ref b2)] [(.int (2 : Int32)), (.int p1)])) t
          refine XS.icmpNo X8.here hx rfl (hb hby d1_25) rfl (tlt hc25_28).2.2.2 ?_
          show Steps p.tables e below (T8.setTop (mkF m 28 #[.val (.int p1), .val (.int p2), .val (.int p3), .val (.ref b2)] [])) t
          refine XS.aloadN X8.here hx rfl (hb hby d1_28) rfl rfl ?_
          show Steps p.tables e below (T8.setTop (mkF m 29 #[.val (.int p1), .val (.int p2), .val (.int p3), .val (.ref b2)] [(.ref b2)])) t
          refine XS.iconst X8.here hx rfl (hb hby d1_29) ?_
          show Steps p.tables e below (T8.setTop (mkF m 30 #[.val (.int p1), .val (.int p2), .val (.int p3), .val (.ref b2)] [(.int (2 : Int32)), (.ref b2)])) t
          refine XS.iloadN X8.here hx rfl (hb hby d1_30) rfl ?_
          show Steps p.tables e below (T8.setTop (mkF m 31 #[.val (.int p1), .val (.int p2), .val (.int p3), .val (.ref b2)] [(.int p3), (.int (2 : Int32)), (.ref b2)])) t
          refine XS.bipush X8.here hx rfl (hb hby d1_31) ?_
          show Steps p.tables e below (T8.setTop (mkF m 33 #[.val (.int p1), .val (.int p2), .val (.int p3), .val (.ref b2)] [(.int (8 : Int32)), (.int p3), (.int (2 : Int32)), (.ref b2)])) t
          refine XS.ishr X8.here hx rfl (hb hby d1_33) rfl ?_
          show Steps p.tables e below (T8.setTop (mkF m 34 #[.val (.int p1), .val (.int p2), .val (.int p3), .val (.ref b2)] [(.int (p3 >>> ((8 : Int32) &&& 31))), (.int (2 : Int32)), (.ref b2)])) t
          refine XS.i2b X8.here hx rfl (hb hby d1_34) rfl ?_
          exact kt
        obtain ⟨cl31, Ar31, q31, S31, M31, H31, G31⟩ := id F9
        have hin31 : ¬ ((2 : Int32) < 0 ∨ cl31.slots.size ≤ ((2 : Int32)).toNatClampNeg) := inb_of S31 ⟨by decide, hc25_28⟩
        obtain ⟨T31, h31, X31, e31, W31, st31⟩ := stB X8 hx hZ e8 Ar31 (j := (2 : Int32)) hin31 (g := (mkF m 35 #[.val (.int p1), .val (.int p2), .val (.int p3), .val (.ref b2)] [(.int ((p3 >>> ((8 : Int32) &&& 31)).toInt8.toInt32)), (.int (2 : Int32)), (.ref b2)])) rfl rfl (hb hby d1_35)
        have F32 : Arv Z h31 b2 c2 .byte p1 [(.int ((p2.toInt8.toInt32).toInt8.toInt32)), (.int (0 : Int32)), (.int (((p3 >>> ((8 : Int32) &&& 31)).toInt8.toInt32).toInt8.toInt32))] (.int (0 : Int32)) := Arv.set Ar31 q31 S31 M31 H31 G31 (fits_nar_byte _) W31 2 rfl (Nat.le_of_ble_eq_true rfl)
        have Z31 : n0 ≤ h31.size := Nat.le_trans Z8 (Keep.of_wr W31).1
        have K31 : Keep h0 h31 [] := K8.wr W31 (Or.inr sz_b2)
        have N31 := Fr.snoc X31 N8 g_b2
        have k34 : ∀ t, Steps p.tables e below (T31.setTop (mkF m 36 #[.val (.int p1), .val (.int p2), .val (.int p3), .val (.ref b2)] [])) t → Steps p.tables e below (s₁.setTop (entryFrame m #[(.int p1), (.int p2), (.int p3)] 4)) t := fun t kt => k30 t (st31 t kt)
        have k35 : ∀ t, Steps p.tables e below (T31.setTop (mkF m 37 #[.val (.int p1), .val (.int p2), .val (.int p3), .val (.ref b2)] [(.ref b2)])) t → Steps p.tables e below (s₁.setTop (entryFrame m #[(.int p1), (.int p2), (.int p3)] 4)) t := by
          intro t kt
          refine k34 t ?_
          show Steps p.tables e below (T31.setTop (mkF m 36 #[.val (.int p1), .val (.int p2), .val (.int p3), .val (.ref b2)] [])) t
          refine XS.aloadN X31.here hx rfl (hb hby d1_36) rfl rfl ?_
          exact kt
        obtain ⟨fs, hr, hrun, hended, hW, hsame⟩ := X31.leave (v := some (.ref b2)) (fun h => by rw [Bd.returns] at h; cases h)
        refine ⟨_, _, k35 _ ?_, hrun, hended, _, _, rfl, ?_, ⟨_, rfl⟩, hW, hsame.mono (by decide) (by decide)⟩
        · show Steps p.tables e below (T31.setTop (mkF m 37 #[.val (.int p1), .val (.int p2), .val (.int p3), .val (.ref b2)] [(.ref b2)])) _
          jvm_step X31.here [X31.here.top, hx, (hb hby d1_37), X31.method', Bd.returns, Value.isRef, FieldType.isReference]
          first | (intro acts; rw [hr _ acts rfl rfl rfl]) | rw [hr _ _ rfl rfl rfl]
          exact Steps.refl _
        · show QB Z p1 p2 p3 h0 n0 _ T31.heap _
          rw [e31]
          exact ⟨b2, c2, _, rfl, N31, K31, sz_b2, F32, fun _ => by simp⟩
      · have k36 : ∀ t, Steps p.tables e below (T8.setTop (mkF m 37 #[.val (.int p1), .val (.int p2), .val (.int p3), .val (.ref b2)] [(.ref b2)])) t → Steps p.tables e below (s₁.setTop (entryFrame m #[(.int p1), (.int p2), (.int p3)] 4)) t := by
          intro t kt
          refine k29 t ?_
          show Steps p.tables e below (T8.setTop (mkF m 25 #[.val (.int p1), .val (.int p2), .val (.int p3), .val (.ref b2)] [(.int (2 : Int32)), (.int p1)])) t
          refine XS.icmpYes X8.here hx rfl (pc0 := 25) (pc' := 36) rfl (hb hby d1_25) rfl (flt hc25_28).2.2.2 (by decide) (by decide) ?_
          show Steps p.tables e below (T8.setTop (mkF m 36 #[.val (.int p1), .val (.int p2), .val (.int p3), .val (.ref b2)] [])) t
          refine XS.aloadN X8.here hx rfl (hb hby d1_36) rfl rfl ?_
          exact kt
        obtain ⟨fs, hr, hrun, hended, hW, hsame⟩ := X8.leave (v := some (.ref b2)) (fun h => by rw [Bd.returns] at h; cases h)
        refine ⟨_, _, k36 _ ?_, hrun, hended, _, _, rfl, ?_, ⟨_, rfl⟩, hW, hsame.mono (by decide) (by decide)⟩
        · show Steps p.tables e below (T8.setTop (mkF m 37 #[.val (.int p1), .val (.int p2), .val (.int p3), .val (.ref b2)] [(.ref b2)])) _
          jvm_step X8.here [X8.here.top, hx, (hb hby d1_37), X8.method', Bd.returns, Value.isRef, FieldType.isReference]
          first | (intro acts; rw [hr _ acts rfl rfl rfl]) | rw [hr _ _ rfl rfl rfl]
          exact Steps.refl _
        · show QB Z p1 p2 p3 h0 n0 _ T8.heap _
          rw [e8]
          exact ⟨b2, c2, _, rfl, N8, K8, sz_b2, F9, fun _ => by simp⟩
  · have k38 : ∀ t, Steps p.tables e below (T2.setTop (mkF m 15 #[.val (.int p1), .val (.int p2), .val (.int p3), .val (.ref b2)] [(.int (1 : Int32)), (.int p1)])) t → Steps p.tables e below (s₁.setTop (entryFrame m #[(.int p1), (.int p2), (.int p3)] 4)) t := by
      intro t kt
      refine k6 t ?_
      show Steps p.tables e below (T2.setTop (mkF m 5 #[.val (.int p1), .val (.int p2), .val (.int p3), .val (.ref b2)] [(.int p1)])) t
      refine XS.ifYes X2.here hx rfl (pc0 := 5) (pc' := 13) rfl (hb hby d1_5) rfl ((if0 _ _).trans (flt hc5_5).2.2.2) (by decide) (by decide) ?_
      show Steps p.tables e below (T2.setTop (mkF m 13 #[.val (.int p1), .val (.int p2), .val (.int p3), .val (.ref b2)] [])) t
      refine XS.iloadN X2.here hx rfl (hb hby d1_13) rfl ?_
      show Steps p.tables e below (T2.setTop (mkF m 14 #[.val (.int p1), .val (.int p2), .val (.int p3), .val (.ref b2)] [(.int p1)])) t
      refine XS.iconst X2.here hx rfl (hb hby d1_14) ?_
      exact kt
    by_cases hc15_37 : (1 : Int32) < p1
    · have k39 : ∀ t, Steps p.tables e below (T2.setTop (mkF m 22 #[.val (.int p1), .val (.int p2), .val (.int p3), .val (.ref b2)] [(.int (p3.toInt8.toInt32)), (.int (1 : Int32)), (.ref b2)])) t → Steps p.tables e below (s₁.setTop (entryFrame m #[(.int p1), (.int p2), (.int p3)] 4)) t := by
        intro t kt
        refine k38 t ?_
        show Steps p.tables e below (T2.setTop (mkF m 15 #[.val (.int p1), .val (.int p2), .val (.int p3), .val (.ref b2)] [(.int (1 : Int32)), (.int p1)])) t
        refine XS.icmpNo X2.here hx rfl (hb hby d1_15) rfl (tlt hc15_37).2.2.2 ?_
        show Steps p.tables e below (T2.setTop (mkF m 18 #[.val (.int p1), .val (.int p2), .val (.int p3), .val (.ref b2)] [])) t
        refine XS.aloadN X2.here hx rfl (hb hby d1_18) rfl rfl ?_
        show Steps p.tables e below (T2.setTop (mkF m 19 #[.val (.int p1), .val (.int p2), .val (.int p3), .val (.ref b2)] [(.ref b2)])) t
        refine XS.iconst X2.here hx rfl (hb hby d1_19) ?_
        show Steps p.tables e below (T2.setTop (mkF m 20 #[.val (.int p1), .val (.int p2), .val (.int p3), .val (.ref b2)] [(.int (1 : Int32)), (.ref b2)])) t
        refine XS.iloadN X2.here hx rfl (hb hby d1_20) rfl ?_
        show Steps p.tables e below (T2.setTop (mkF m 21 #[.val (.int p1), .val (.int p2), .val (.int p3), .val (.ref b2)] [(.int p3), (.int (1 : Int32)), (.ref b2)])) t
        refine XS.i2b X2.here hx rfl (hb hby d1_21) rfl ?_
        exact kt
      obtain ⟨cl40, Ar40, q40, S40, M40, H40, G40⟩ := id F3
      have hin40 : ¬ ((1 : Int32) < 0 ∨ cl40.slots.size ≤ ((1 : Int32)).toNatClampNeg) := inb_of S40 ⟨by decide, hc15_37⟩
      obtain ⟨T40, h40, X40, e40, W40, st40⟩ := stB X2 hx hZ e2 Ar40 (j := (1 : Int32)) hin40 (g := (mkF m 22 #[.val (.int p1), .val (.int p2), .val (.int p3), .val (.ref b2)] [(.int (p3.toInt8.toInt32)), (.int (1 : Int32)), (.ref b2)])) rfl rfl (hb hby d1_22)
      have F41 : Arv Z h40 b2 c2 .byte p1 [(.int (0 : Int32)), (.int ((p3.toInt8.toInt32).toInt8.toInt32)), (.int (0 : Int32))] (.int (0 : Int32)) := Arv.set Ar40 q40 S40 M40 H40 G40 (fits_nar_byte _) W40 1 rfl (Nat.le_of_ble_eq_true rfl)
      have Z40 : n0 ≤ h40.size := Nat.le_trans Z2 (Keep.of_wr W40).1
      have K40 : Keep h0 h40 [] := K2.wr W40 (Or.inr sz_b2)
      have N40 := Fr.snoc X40 N0 g_b2
      have k43 : ∀ t, Steps p.tables e below (T40.setTop (mkF m 23 #[.val (.int p1), .val (.int p2), .val (.int p3), .val (.ref b2)] [])) t → Steps p.tables e below (s₁.setTop (entryFrame m #[(.int p1), (.int p2), (.int p3)] 4)) t := fun t kt => k39 t (st40 t kt)
      have k45 : ∀ t, Steps p.tables e below (T40.setTop (mkF m 25 #[.val (.int p1), .val (.int p2), .val (.int p3), .val (.ref b2)] [(.int (2 : Int32)), (.int p1)])) t → Steps p.tables e below (s₁.setTop (entryFrame m #[(.int p1), (.int p2), (.int p3)] 4)) t := by
        intro t kt
        refine k43 t ?_
        show Steps p.tables e below (T40.setTop (mkF m 23 #[.val (.int p1), .val (.int p2), .val (.int p3), .val (.ref b2)] [])) t
        refine XS.iloadN X40.here hx rfl (hb hby d1_23) rfl ?_
        show Steps p.tables e below (T40.setTop (mkF m 24 #[.val (.int p1), .val (.int p2), .val (.int p3), .val (.ref b2)] [(.int p1)])) t
        refine XS.iconst X40.here hx rfl (hb hby d1_24) ?_
        exact kt
      by_cases hc25_44 : (2 : Int32) < p1
      · have k46 : ∀ t, Steps p.tables e below (T40.setTop (mkF m 35 #[.val (.int p1), .val (.int p2), .val (.int p3), .val (.ref b2)] [(.int ((p3 >>> ((8 : Int32) &&& 31)).toInt8.toInt32)), (.int (2 : Int32)), (.ref b2)])) t → Steps p.tables e below (s₁.setTop (entryFrame m #[(.int p1), (.int p2), (.int p3)] 4)) t := by
          intro t kt
          refine k45 t ?_
          show Steps p.tables e below (T40.setTop (mkF m 25 #[.val (.int p1), .val (.int p2), .val (.int p3), .val (.ref b2)] [(.int (2 : Int32)), (.int p1)])) t
          refine XS.icmpNo X40.here hx rfl (hb hby d1_25) rfl (tlt hc25_44).2.2.2 ?_
          show Steps p.tables e below (T40.setTop (mkF m 28 #[.val (.int p1), .val (.int p2), .val (.int p3), .val (.ref b2)] [])) t
          refine XS.aloadN X40.here hx rfl (hb hby d1_28) rfl rfl ?_
          show Steps p.tables e below (T40.setTop (mkF m 29 #[.val (.int p1), .val (.int p2), .val (.int p3), .val (.ref b2)] [(.ref b2)])) t
          refine XS.iconst X40.here hx rfl (hb hby d1_29) ?_
          show Steps p.tables e below (T40.setTop (mkF m 30 #[.val (.int p1), .val (.int p2), .val (.int p3), .val (.ref b2)] [(.int (2 : Int32)), (.ref b2)])) t
          refine XS.iloadN X40.here hx rfl (hb hby d1_30) rfl ?_
          show Steps p.tables e below (T40.setTop (mkF m 31 #[.val (.int p1), .val (.int p2), .val (.int p3), .val (.ref b2)] [(.int p3), (.int (2 : Int32)), (.ref b2)])) t
          refine XS.bipush X40.here hx rfl (hb hby d1_31) ?_
          show Steps p.tables e below (T40.setTop (mkF m 33 #[.val (.int p1), .val (.int p2), .val (.int p3), .val (.ref b2)] [(.int (8 : Int32)), (.int p3), (.int (2 : Int32)), (.ref b2)])) t
          refine XS.ishr X40.here hx rfl (hb hby d1_33) rfl ?_
          show Steps p.tables e below (T40.setTop (mkF m 34 #[.val (.int p1), .val (.int p2), .val (.int p3), .val (.ref b2)] [(.int (p3 >>> ((8 : Int32) &&& 31))), (.int (2 : Int32)), (.ref b2)])) t
          refine XS.i2b X40.here hx rfl (hb hby d1_34) rfl ?_
          exact kt
        obtain ⟨cl47, Ar47, q47, S47, M47, H47, G47⟩ := id F41
        have hin47 : ¬ ((2 : Int32) < 0 ∨ cl47.slots.size ≤ ((2 : Int32)).toNatClampNeg) := inb_of S47 ⟨by decide, hc25_44⟩
        obtain ⟨T47, h47, X47, e47, W47, st47⟩ := stB X40 hx hZ e40 Ar47 (j := (2 : Int32)) hin47 (g := (mkF m 35 #[.val (.int p1), .val (.int p2), .val (.int p3), .val (.ref b2)] [(.int ((p3 >>> ((8 : Int32) &&& 31)).toInt8.toInt32)), (.int (2 : Int32)), (.ref b2)])) rfl rfl (hb hby d1_35)
        have F48 : Arv Z h47 b2 c2 .byte p1 [(.int (0 : Int32)), (.int ((p3.toInt8.toInt32).toInt8.toInt32)), (.int (((p3 >>> ((8 : Int32) &&& 31)).toInt8.toInt32).toInt8.toInt32))] (.int (0 : Int32)) := Arv.set Ar47 q47 S47 M47 H47 G47 (fits_nar_byte _) W47 2 rfl (Nat.le_of_ble_eq_true rfl)
        have Z47 : n0 ≤ h47.size := Nat.le_trans Z40 (Keep.of_wr W47).1
        have K47 : Keep h0 h47 [] := K40.wr W47 (Or.inr sz_b2)
        have N47 := Fr.snoc X47 N40 g_b2
        have k50 : ∀ t, Steps p.tables e below (T47.setTop (mkF m 36 #[.val (.int p1), .val (.int p2), .val (.int p3), .val (.ref b2)] [])) t → Steps p.tables e below (s₁.setTop (entryFrame m #[(.int p1), (.int p2), (.int p3)] 4)) t := fun t kt => k46 t (st47 t kt)
        have k51 : ∀ t, Steps p.tables e below (T47.setTop (mkF m 37 #[.val (.int p1), .val (.int p2), .val (.int p3), .val (.ref b2)] [(.ref b2)])) t → Steps p.tables e below (s₁.setTop (entryFrame m #[(.int p1), (.int p2), (.int p3)] 4)) t := by
          intro t kt
          refine k50 t ?_
          show Steps p.tables e below (T47.setTop (mkF m 36 #[.val (.int p1), .val (.int p2), .val (.int p3), .val (.ref b2)] [])) t
          refine XS.aloadN X47.here hx rfl (hb hby d1_36) rfl rfl ?_
          exact kt
        obtain ⟨fs, hr, hrun, hended, hW, hsame⟩ := X47.leave (v := some (.ref b2)) (fun h => by rw [Bd.returns] at h; cases h)
        refine ⟨_, _, k51 _ ?_, hrun, hended, _, _, rfl, ?_, ⟨_, rfl⟩, hW, hsame.mono (by decide) (by decide)⟩
        · show Steps p.tables e below (T47.setTop (mkF m 37 #[.val (.int p1), .val (.int p2), .val (.int p3), .val (.ref b2)] [(.ref b2)])) _
          jvm_step X47.here [X47.here.top, hx, (hb hby d1_37), X47.method', Bd.returns, Value.isRef, FieldType.isReference]
          first | (intro acts; rw [hr _ acts rfl rfl rfl]) | rw [hr _ _ rfl rfl rfl]
          exact Steps.refl _
        · show QB Z p1 p2 p3 h0 n0 _ T47.heap _
          rw [e47]
          exact ⟨b2, c2, _, rfl, N47, K47, sz_b2, F48, fun q => absurd q hc5_5⟩
      · have k52 : ∀ t, Steps p.tables e below (T40.setTop (mkF m 37 #[.val (.int p1), .val (.int p2), .val (.int p3), .val (.ref b2)] [(.ref b2)])) t → Steps p.tables e below (s₁.setTop (entryFrame m #[(.int p1), (.int p2), (.int p3)] 4)) t := by
          intro t kt
          refine k45 t ?_
          show Steps p.tables e below (T40.setTop (mkF m 25 #[.val (.int p1), .val (.int p2), .val (.int p3), .val (.ref b2)] [(.int (2 : Int32)), (.int p1)])) t
          refine XS.icmpYes X40.here hx rfl (pc0 := 25) (pc' := 36) rfl (hb hby d1_25) rfl (flt hc25_44).2.2.2 (by decide) (by decide) ?_
          show Steps p.tables e below (T40.setTop (mkF m 36 #[.val (.int p1), .val (.int p2), .val (.int p3), .val (.ref b2)] [])) t
          refine XS.aloadN X40.here hx rfl (hb hby d1_36) rfl rfl ?_
          exact kt
        obtain ⟨fs, hr, hrun, hended, hW, hsame⟩ := X40.leave (v := some (.ref b2)) (fun h => by rw [Bd.returns] at h; cases h)
        refine ⟨_, _, k52 _ ?_, hrun, hended, _, _, rfl, ?_, ⟨_, rfl⟩, hW, hsame.mono (by decide) (by decide)⟩
        · show Steps p.tables e below (T40.setTop (mkF m 37 #[.val (.int p1), .val (.int p2), .val (.int p3), .val (.ref b2)] [(.ref b2)])) _
          jvm_step X40.here [X40.here.top, hx, (hb hby d1_37), X40.method', Bd.returns, Value.isRef, FieldType.isReference]
          first | (intro acts; rw [hr _ acts rfl rfl rfl]) | rw [hr _ _ rfl rfl rfl]
          exact Steps.refl _
        · show QB Z p1 p2 p3 h0 n0 _ T40.heap _
          rw [e40]
          exact ⟨b2, c2, _, rfl, N40, K40, sz_b2, F41, fun q => absurd q hc5_5⟩
    · have k54 : ∀ t, Steps p.tables e below (T2.setTop (mkF m 25 #[.val (.int p1), .val (.int p2), .val (.int p3), .val (.ref b2)] [(.int (2 : Int32)), (.int p1)])) t → Steps p.tables e below (s₁.setTop (entryFrame m #[(.int p1), (.int p2), (.int p3)] 4)) t := by
        intro t kt
        refine k38 t ?_
        show Steps p.tables e below (T2.setTop (mkF m 15 #[.val (.int p1), .val (.int p2), .val (.int p3), .val (.ref b2)] [(.int (1 : Int32)), (.int p1)])) t
        refine XS.icmpYes X2.here hx rfl (pc0 := 15) (pc' := 23) rfl (hb hby d1_15) rfl (flt hc15_37).2.2.2 (by decide) (by decide) ?_
        show Steps p.tables e below (T2.setTop (mkF m 23 #[.val (.int p1), .val (.int p2), .val (.int p3), .val (.ref b2)] [])) t
        refine XS.iloadN X2.here hx rfl (hb hby d1_23) rfl ?_
        show Steps p.tables e below (T2.setTop (mkF m 24 #[.val (.int p1), .val (.int p2), .val (.int p3), .val (.ref b2)] [(.int p1)])) t
        refine XS.iconst X2.here hx rfl (hb hby d1_24) ?_
        exact kt
      by_cases hc25_53 : (2 : Int32) < p1
      · have k55 : ∀ t, Steps p.tables e below (T2.setTop (mkF m 35 #[.val (.int p1), .val (.int p2), .val (.int p3), .val (.ref b2)] [(.int ((p3 >>> ((8 : Int32) &&& 31)).toInt8.toInt32)), (.int (2 : Int32)), (.ref b2)])) t → Steps p.tables e below (s₁.setTop (entryFrame m #[(.int p1), (.int p2), (.int p3)] 4)) t := by
          intro t kt
          refine k54 t ?_
          show Steps p.tables e below (T2.setTop (mkF m 25 #[.val (.int p1), .val (.int p2), .val (.int p3), .val (.ref b2)] [(.int (2 : Int32)), (.int p1)])) t
          refine XS.icmpNo X2.here hx rfl (hb hby d1_25) rfl (tlt hc25_53).2.2.2 ?_
          show Steps p.tables e below (T2.setTop (mkF m 28 #[.val (.int p1), .val (.int p2), .val (.int p3), .val (.ref b2)] [])) t
          refine XS.aloadN X2.here hx rfl (hb hby d1_28) rfl rfl ?_
          show Steps p.tables e below (T2.setTop (mkF m 29 #[.val (.int p1), .val (.int p2), .val (.int p3), .val (.ref b2)] [(.ref b2)])) t
          refine XS.iconst X2.here hx rfl (hb hby d1_29) ?_
          show Steps p.tables e below (T2.setTop (mkF m 30 #[.val (.int p1), .val (.int p2), .val (.int p3), .val (.ref b2)] [(.int (2 : Int32)), (.ref b2)])) t
          refine XS.iloadN X2.here hx rfl (hb hby d1_30) rfl ?_
          show Steps p.tables e below (T2.setTop (mkF m 31 #[.val (.int p1), .val (.int p2), .val (.int p3), .val (.ref b2)] [(.int p3), (.int (2 : Int32)), (.ref b2)])) t
          refine XS.bipush X2.here hx rfl (hb hby d1_31) ?_
          show Steps p.tables e below (T2.setTop (mkF m 33 #[.val (.int p1), .val (.int p2), .val (.int p3), .val (.ref b2)] [(.int (8 : Int32)), (.int p3), (.int (2 : Int32)), (.ref b2)])) t
          refine XS.ishr X2.here hx rfl (hb hby d1_33) rfl ?_
          show Steps p.tables e below (T2.setTop (mkF m 34 #[.val (.int p1), .val (.int p2), .val (.int p3), .val (.ref b2)] [(.int (p3 >>> ((8 : Int32) &&& 31))), (.int (2 : Int32)), (.ref b2)])) t
          refine XS.i2b X2.here hx rfl (hb hby d1_34) rfl ?_
          exact kt
        obtain ⟨cl56, Ar56, q56, S56, M56, H56, G56⟩ := id F3
        have hin56 : ¬ ((2 : Int32) < 0 ∨ cl56.slots.size ≤ ((2 : Int32)).toNatClampNeg) := inb_of S56 ⟨by decide, hc25_53⟩
        obtain ⟨T56, h56, X56, e56, W56, st56⟩ := stB X2 hx hZ e2 Ar56 (j := (2 : Int32)) hin56 (g := (mkF m 35 #[.val (.int p1), .val (.int p2), .val (.int p3), .val (.ref b2)] [(.int ((p3 >>> ((8 : Int32) &&& 31)).toInt8.toInt32)), (.int (2 : Int32)), (.ref b2)])) rfl rfl (hb hby d1_35)
        have F57 : Arv Z h56 b2 c2 .byte p1 [(.int (0 : Int32)), (.int (0 : Int32)), (.int (((p3 >>> ((8 : Int32) &&& 31)).toInt8.toInt32).toInt8.toInt32))] (.int (0 : Int32)) := Arv.set Ar56 q56 S56 M56 H56 G56 (fits_nar_byte _) W56 2 rfl (Nat.le_of_ble_eq_true rfl)
        have Z56 : n0 ≤ h56.size := Nat.le_trans Z2 (Keep.of_wr W56).1
        have K56 : Keep h0 h56 [] := K2.wr W56 (Or.inr sz_b2)
        have N56 := Fr.snoc X56 N0 g_b2
        have k59 : ∀ t, Steps p.tables e below (T56.setTop (mkF m 36 #[.val (.int p1), .val (.int p2), .val (.int p3), .val (.ref b2)] [])) t → Steps p.tables e below (s₁.setTop (entryFrame m #[(.int p1), (.int p2), (.int p3)] 4)) t := fun t kt => k55 t (st56 t kt)
        have k60 : ∀ t, Steps p.tables e below (T56.setTop (mkF m 37 #[.val (.int p1), .val (.int p2), .val (.int p3), .val (.ref b2)] [(.ref b2)])) t → Steps p.tables e below (s₁.setTop (entryFrame m #[(.int p1), (.int p2), (.int p3)] 4)) t := by
          intro t kt
          refine k59 t ?_
          show Steps p.tables e below (T56.setTop (mkF m 36 #[.val (.int p1), .val (.int p2), .val (.int p3), .val (.ref b2)] [])) t
          refine XS.aloadN X56.here hx rfl (hb hby d1_36) rfl rfl ?_
          exact kt
        obtain ⟨fs, hr, hrun, hended, hW, hsame⟩ := X56.leave (v := some (.ref b2)) (fun h => by rw [Bd.returns] at h; cases h)
        refine ⟨_, _, k60 _ ?_, hrun, hended, _, _, rfl, ?_, ⟨_, rfl⟩, hW, hsame.mono (by decide) (by decide)⟩
        · show Steps p.tables e below (T56.setTop (mkF m 37 #[.val (.int p1), .val (.int p2), .val (.int p3), .val (.ref b2)] [(.ref b2)])) _
          jvm_step X56.here [X56.here.top, hx, (hb hby d1_37), X56.method', Bd.returns, Value.isRef, FieldType.isReference]
          first | (intro acts; rw [hr _ acts rfl rfl rfl]) | rw [hr _ _ rfl rfl rfl]
          exact Steps.refl _
        · show QB Z p1 p2 p3 h0 n0 _ T56.heap _
          rw [e56]
          exact ⟨b2, c2, _, rfl, N56, K56, sz_b2, F57, fun q => absurd q hc5_5⟩
      · have k61 : ∀ t, Steps p.tables e below (T2.setTop (mkF m 37 #[.val (.int p1), .val (.int p2), .val (.int p3), .val (.ref b2)] [(.ref b2)])) t → Steps p.tables e below (s₁.setTop (entryFrame m #[(.int p1), (.int p2), (.int p3)] 4)) t := by
          intro t kt
          refine k54 t ?_
          show Steps p.tables e below (T2.setTop (mkF m 25 #[.val (.int p1), .val (.int p2), .val (.int p3), .val (.ref b2)] [(.int (2 : Int32)), (.int p1)])) t
          refine XS.icmpYes X2.here hx rfl (pc0 := 25) (pc' := 36) rfl (hb hby d1_25) rfl (flt hc25_53).2.2.2 (by decide) (by decide) ?_
          show Steps p.tables e below (T2.setTop (mkF m 36 #[.val (.int p1), .val (.int p2), .val (.int p3), .val (.ref b2)] [])) t
          refine XS.aloadN X2.here hx rfl (hb hby d1_36) rfl rfl ?_
          exact kt
        obtain ⟨fs, hr, hrun, hended, hW, hsame⟩ := X2.leave (v := some (.ref b2)) (fun h => by rw [Bd.returns] at h; cases h)
        refine ⟨_, _, k61 _ ?_, hrun, hended, _, _, rfl, ?_, ⟨_, rfl⟩, hW, hsame.mono (by decide) (by decide)⟩
        · show Steps p.tables e below (T2.setTop (mkF m 37 #[.val (.int p1), .val (.int p2), .val (.int p3), .val (.ref b2)] [(.ref b2)])) _
          jvm_step X2.here [X2.here.top, hx, (hb hby d1_37), X2.method', Bd.returns, Value.isRef, FieldType.isReference]
          first | (intro acts; rw [hr _ acts rfl rfl rfl]) | rw [hr _ _ rfl rfl rfl]
          exact Steps.refl _
        · show QB Z p1 p2 p3 h0 n0 _ T2.heap _
          rw [e2]
          exact ⟨b2, c2, _, rfl, N0, K2, sz_b2, F3, fun q => absurd q hc5_5⟩
theorem d2_0 : decode method_4_code 0 = .ok (.iload_n 0, 1) := by decide +kernel
theorem d2_1 : decode method_4_code 1 = .ok (.ifCond .ne 5, 3) := by decide +kernel
theorem d2_4 : decode method_4_code 4 = .ok (.lconst 0, 1) := by decide +kernel
theorem d2_5 : decode method_4_code 5 = .ok (.lreturn, 1) := by decide +kernel
theorem d2_6 : decode method_4_code 6 = .ok (.iload_n 1, 1) := by decide +kernel
theorem d2_7 : decode method_4_code 7 = .ok (.i2b, 1) := by decide +kernel
theorem d2_8 : decode method_4_code 8 = .ok (.istore_n 2, 1) := by decide +kernel
theorem d2_9 : decode method_4_code 9 = .ok (.iload_n 0, 1) := by decide +kernel
theorem d2_10 : decode method_4_code 10 = .ok (.i2l, 1) := by decide +kernel
theorem d2_11 : decode method_4_code 11 = .ok (.iload_n 2, 1) := by decide +kernel
theorem d2_12 : decode method_4_code 12 = .ok (.i2l, 1) := by decide +kernel
theorem d2_13 : decode method_4_code 13 = .ok (.ladd, 1) := by decide +kernel
theorem d2_14 : decode method_4_code 14 = .ok (.lreturn, 1) := by decide +kernel
theorem rmN_ef (m : MethodId) (x0 : Int32) (x1 : Int32) : entryFrame m #[(.int x0), (.int x1)] 3 = mkF m 0 #[.val (.int x0), .val (.int x1), .unset] [] := by first | (simp [entryFrame, mkF, argsToLocals, Value.category]; done) | rfl
def QN (Z : State) (p1 : Int32) (p2 : Int32) (h0 : Heap) (n0 : Nat) (v : Option Value) (h : Heap) (L : List Loc) : Prop := v = some (.long (own_con p1 p2)) ∧ Fr n0 L ∧ h = h0
set_option maxRecDepth 65536 in
set_option maxHeartbeats 40000000 in
theorem rmN (l : Launch) (Z : State) (a0 : Array Value) (hw : ∀ d ∈ tables_1, d.before a0 Z = true) (ws : List Jvm.Cond) (p1 : Int32) (p2 : Int32) (h0 : Heap) (n0 : Nat) (Z0 : n0 ≤ h0.size) :
    MetFree l (⟨"com/example/disk_to_queue/disktoqueue/bench/BodySumAddPinLaw", "contrib", "(II)J"⟩ : MethodName) (head1 (Jvm.Cond.code (⟨"com/example/disk_to_queue/disktoqueue/bench/BodySumAddPinLaw", "contrib", "(II)J"⟩ : MethodName) method_4_code 3 (some .long) :: ws) ({ frames := 0, cells := 0, slots := 0, locals := 0 } : Room)) (fun aA' U => aA' = #[(.int p1), (.int p2)] ∧ Z.Warmed39 U.vm ∧ U.heap = h0) (fun _ _ _ _ _ => True) (fun _ U oO' U' => ∃ vV' L, oO' = .returned vV' ∧ QN Z p1 p2 h0 n0 vV' U'.heap L ∧ FrameEnd U oO' U' L ({ frames := 0, cells := 0, slots := 0, locals := 0 } : Room).cells ({ frames := 0, cells := 0, slots := 0, locals := 0 } : Room).slots) := by
  refine MetFree.of_bodySF (plainFor_of_name own_pn0) hisR ?_
  intro p e s m args below meth c s₁ Bd hml0 hP hK
  obtain ⟨rfl, hZ, hh⟩ := hP
  have hx := Bd.exec
  have hby := Bd.bytes
  have hml : c.maxLocals = 3 := hml0
  have hown : s.vm.findClass "com/example/disk_to_queue/disktoqueue/bench/BodySumAddPinLaw" = some m.cls := findClass_of_methodNamed Bd.named
  have hnm := (name_of_methodNamed Bd.named Bd.method).1
  have X0 : Stand p l e ({ frames := 0, cells := 0, slots := 0, locals := 0 } : Room) s m #[(.int p1), (.int p2)] below meth c s₁ [] 0 0 := Stand.of_body Bd
  have e0 : s₁.heap = h0 := by rw [← hh, Bd.state]; rfl
  have N0 := Fr.nil n0
  have K0 : Keep h0 h0 [] := Keep.refl _ _
  have k0 : ∀ t, Steps p.tables e below (s₁.setTop (mkF m 0 #[.val (.int p1), .val (.int p2), .unset] [])) t → Steps p.tables e below (s₁.setTop (entryFrame m #[(.int p1), (.int p2)] 3)) t := fun t k => castTop (rmN_ef m (p1) (p2)) k
  have k2 : ∀ t, Steps p.tables e below (s₁.setTop (mkF m 1 #[.val (.int p1), .val (.int p2), .unset] [(.int p1)])) t → Steps p.tables e below (s₁.setTop (entryFrame m #[(.int p1), (.int p2)] 3)) t := by
    intro t kt
    refine k0 t ?_
    show Steps p.tables e below (s₁.setTop (mkF m 0 #[.val (.int p1), .val (.int p2), .unset] [])) t
    refine XS.iloadN X0.here hx rfl (hb hby d2_0) rfl ?_
    exact kt
  by_cases hc1_1 : p1 = (0 : Int32)
  · have k3 : ∀ t, Steps p.tables e below (s₁.setTop (mkF m 5 #[.val (.int p1), .val (.int p2), .unset] [(.long (0 : Int64))])) t → Steps p.tables e below (s₁.setTop (entryFrame m #[(.int p1), (.int p2)] 3)) t := by
      intro t kt
      refine k2 t ?_
      show Steps p.tables e below (s₁.setTop (mkF m 1 #[.val (.int p1), .val (.int p2), .unset] [(.int p1)])) t
      refine XS.ifNo X0.here hx rfl (hb hby d2_1) rfl ((if0 _ _).trans (teq hc1_1).2) ?_
      show Steps p.tables e below (s₁.setTop (mkF m 4 #[.val (.int p1), .val (.int p2), .unset] [])) t
      refine XS.lconst X0.here hx rfl (hb hby d2_4) ?_
      exact kt
    obtain ⟨fs, hr, hrun, hended, hW, hsame⟩ := X0.leave (v := some (.long (0 : Int64))) (fun h => by rw [Bd.returns] at h; cases h)
    refine ⟨_, _, k3 _ ?_, hrun, hended, _, _, rfl, ?_, ⟨_, rfl⟩, hW, hsame.mono (by decide) (by decide)⟩
    · show Steps p.tables e below (s₁.setTop (mkF m 5 #[.val (.int p1), .val (.int p2), .unset] [(.long (0 : Int64))])) _
      exact X0.lreturnOut hx Bd.returns (hb hby d2_5) hr
    · show QN Z p1 p2 h0 n0 _ s₁.heap _
      rw [e0]
      refine ⟨congrArg (fun z => some (Value.long z)) ?_, N0, rfl⟩
      simp [own_con, hc1_1]
  · have k4 : ∀ t, Steps p.tables e below (s₁.setTop (mkF m 14 #[.val (.int p1), .val (.int p2), .val (.int (p2.toInt8.toInt32))] [(.long ((p1.toInt64) + ((p2.toInt8.toInt32).toInt64)))])) t → Steps p.tables e below (s₁.setTop (entryFrame m #[(.int p1), (.int p2)] 3)) t := by
      intro t kt
      refine k2 t ?_
      show Steps p.tables e below (s₁.setTop (mkF m 1 #[.val (.int p1), .val (.int p2), .unset] [(.int p1)])) t
      refine XS.ifYes X0.here hx rfl (pc0 := 1) (pc' := 6) rfl (hb hby d2_1) rfl ((if0 _ _).trans (feq hc1_1).2) (by decide) (by decide) ?_
      show Steps p.tables e below (s₁.setTop (mkF m 6 #[.val (.int p1), .val (.int p2), .unset] [])) t
      refine XS.iloadN X0.here hx rfl (hb hby d2_6) rfl ?_
      show Steps p.tables e below (s₁.setTop (mkF m 7 #[.val (.int p1), .val (.int p2), .unset] [(.int p2)])) t
      refine XS.i2b X0.here hx rfl (hb hby d2_7) rfl ?_
      show Steps p.tables e below (s₁.setTop (mkF m 8 #[.val (.int p1), .val (.int p2), .unset] [(.int (p2.toInt8.toInt32))])) t
      refine XS.istoreN X0.here hx rfl (hb hby d2_8) rfl (l' := #[.val (.int p1), .val (.int p2), .val (.int (p2.toInt8.toInt32))]) rfl ?_
      show Steps p.tables e below (s₁.setTop (mkF m 9 #[.val (.int p1), .val (.int p2), .val (.int (p2.toInt8.toInt32))] [])) t
      refine XS.iloadN X0.here hx rfl (hb hby d2_9) rfl ?_
      show Steps p.tables e below (s₁.setTop (mkF m 10 #[.val (.int p1), .val (.int p2), .val (.int (p2.toInt8.toInt32))] [(.int p1)])) t
      refine XS.i2l X0.here hx rfl (hb hby d2_10) rfl ?_
      show Steps p.tables e below (s₁.setTop (mkF m 11 #[.val (.int p1), .val (.int p2), .val (.int (p2.toInt8.toInt32))] [(.long (p1.toInt64))])) t
      refine XS.iloadN X0.here hx rfl (hb hby d2_11) rfl ?_
      show Steps p.tables e below (s₁.setTop (mkF m 12 #[.val (.int p1), .val (.int p2), .val (.int (p2.toInt8.toInt32))] [(.int (p2.toInt8.toInt32)), (.long (p1.toInt64))])) t
      refine XS.i2l X0.here hx rfl (hb hby d2_12) rfl ?_
      show Steps p.tables e below (s₁.setTop (mkF m 13 #[.val (.int p1), .val (.int p2), .val (.int (p2.toInt8.toInt32))] [(.long ((p2.toInt8.toInt32).toInt64)), (.long (p1.toInt64))])) t
      refine XS.ladd X0.here hx rfl (hb hby d2_13) rfl ?_
      exact kt
    obtain ⟨fs, hr, hrun, hended, hW, hsame⟩ := X0.leave (v := some (.long ((p1.toInt64) + ((p2.toInt8.toInt32).toInt64)))) (fun h => by rw [Bd.returns] at h; cases h)
    refine ⟨_, _, k4 _ ?_, hrun, hended, _, _, rfl, ?_, ⟨_, rfl⟩, hW, hsame.mono (by decide) (by decide)⟩
    · show Steps p.tables e below (s₁.setTop (mkF m 14 #[.val (.int p1), .val (.int p2), .val (.int (p2.toInt8.toInt32))] [(.long ((p1.toInt64) + ((p2.toInt8.toInt32).toInt64)))])) _
      exact X0.lreturnOut hx Bd.returns (hb hby d2_14) hr
    · show QN Z p1 p2 h0 n0 _ s₁.heap _
      rw [e0]
      refine ⟨congrArg (fun z => some (Value.long z)) ?_, N0, rfl⟩
      simp [own_con, hc1_1]
theorem d3_0 : decode prog_1_method_1_code 0 = .ok (.aload_n 0, 1) := by decide +kernel
theorem d3_1 : decode prog_1_method_1_code 1 = .ok (.invokespecial 1, 3) := by decide +kernel
theorem d3_4 : decode prog_1_method_1_code 4 = .ok (.return_, 1) := by decide +kernel
theorem own_pn1 : plainName "com/example/disk_to_queue/disktoqueue/bench/BodySum" = true := by first | (simp [plainName, overriddenIn]; done) | decide +kernel
theorem rmI_ef (m : MethodId) (x0 : Addr) : entryFrame m #[(.ref x0)] 1 = mkF m 0 #[.val (.ref x0)] [] := by first | (simp [entryFrame, mkF, argsToLocals, Value.category]; done) | rfl
def QI (Z : State) (a : Addr) (h0 : Heap) (n0 : Nat) (v : Option Value) (h : Heap) (L : List Loc) : Prop := v = none ∧ Fr n0 L ∧ h = h0
set_option maxRecDepth 65536 in
set_option maxHeartbeats 40000000 in
theorem rmI (l : Launch) (Z : State) (a0 : Array Value) (hw : ∀ d ∈ tables_1, d.before a0 Z = true) (ws : List Jvm.Cond) (a : Addr) (h0 : Heap) (n0 : Nat) (Z0 : n0 ≤ h0.size) :
    MetFree l (⟨"com/example/disk_to_queue/disktoqueue/bench/BodySum", "<init>", "()V"⟩ : MethodName) (head1 (Jvm.Cond.code (⟨"com/example/disk_to_queue/disktoqueue/bench/BodySum", "<init>", "()V"⟩ : MethodName) prog_1_method_1_code 1 none :: ws) ({ frames := 1, cells := 0, slots := 0, locals := 12 } : Room)) (fun aA' U => aA' = #[(.ref a)] ∧ Z.Warmed39 U.vm ∧ U.heap = h0) (fun _ _ _ _ _ => True) (fun _ U oO' U' => ∃ vV' L, oO' = .returned vV' ∧ QI Z a h0 n0 vV' U'.heap L ∧ FrameEnd U oO' U' L ({ frames := 1, cells := 0, slots := 0, locals := 12 } : Room).cells ({ frames := 1, cells := 0, slots := 0, locals := 12 } : Room).slots) := by
  refine MetFree.of_bodySF (plainFor_of_name own_pn1) hisR ?_
  intro p e s m args below meth c s₁ Bd hml0 hP hK
  obtain ⟨rfl, hZ, hh⟩ := hP
  have hx := Bd.exec
  have hby := Bd.bytes
  have hml : c.maxLocals = 1 := hml0
  have hown : s.vm.findClass "com/example/disk_to_queue/disktoqueue/bench/BodySum" = some m.cls := findClass_of_methodNamed Bd.named
  have hnm := (name_of_methodNamed Bd.named Bd.method).1
  have X0 : Stand p l e ({ frames := 1, cells := 0, slots := 0, locals := 12 } : Room) s m #[(.ref a)] below meth c s₁ [] 0 0 := Stand.of_body Bd
  have e0 : s₁.heap = h0 := by rw [← hh, Bd.state]; rfl
  have N0 := Fr.nil n0
  have K0 : Keep h0 h0 [] := Keep.refl _ _
  have k0 : ∀ t, Steps p.tables e below (s₁.setTop (mkF m 0 #[.val (.ref a)] [])) t → Steps p.tables e below (s₁.setTop (entryFrame m #[(.ref a)] 1)) t := fun t k => castTop (rmI_ef m (a)) k
  have k1 : ∀ t, Steps p.tables e below (s₁.setTop (mkF m 1 #[.val (.ref a)] [(.ref a)])) t → Steps p.tables e below (s₁.setTop (entryFrame m #[(.ref a)] 1)) t := by
    intro t kt
    refine k0 t ?_
    show Steps p.tables e below (s₁.setTop (mkF m 0 #[.val (.ref a)] [])) t
    refine XS.aloadN X0.here hx rfl (hb hby d3_0) rfl rfl ?_
    exact kt
  obtain ⟨T2, X2, e2, st2⟩ := initO X0 hx hZ hown (hw _ (List.mem_of_getElem? (i := 14) rfl)) (hw _ (List.mem_of_getElem? (i := 15) rfl)) (hw _ (List.mem_of_getElem? (i := 16) rfl)) e0 (g := (mkF m 1 #[.val (.ref a)] [(.ref a)])) rfl (by rw [hml]; rfl) rfl (hb hby d3_1) (by decide) (W := 0) (by show 2 * 0 + _ ≤ _; exact Nat.le_of_eq rfl) (by decide)
  have k3 : ∀ t, Steps p.tables e below (T2.setTop (mkF m 4 #[.val (.ref a)] [])) t → Steps p.tables e below (s₁.setTop (entryFrame m #[(.ref a)] 1)) t := fun t kt => k1 t (st2 t kt)
  obtain ⟨fs, hr, hrun, hended, hW, hsame⟩ := X2.leave (v := none) (fun _ => rfl)
  refine ⟨_, _, k3 _ ?_, hrun, hended, _, _, rfl, ?_, ⟨_, rfl⟩, hW, hsame.mono (by decide) (by decide)⟩
  · show Steps p.tables e below (T2.setTop (mkF m 4 #[.val (.ref a)] [])) _
    exact X2.returnOut hx Bd.returns (hb hby d3_4) hr
  · show QI Z a h0 n0 _ T2.heap _
    rw [e2]
    exact ⟨rfl, N0, rfl⟩
theorem d5_0 : decode prog_1_method_3_code 0 = .ok (.aload_n 0, 1) := by decide +kernel
theorem d5_1 : decode prog_1_method_3_code 1 = .ok (.dup, 1) := by decide +kernel
theorem d5_2 : decode prog_1_method_3_code 2 = .ok (.getfield 14, 3) := by decide +kernel
theorem d5_5 : decode prog_1_method_3_code 5 = .ok (.lconst 1, 1) := by decide +kernel
theorem d5_6 : decode prog_1_method_3_code 6 = .ok (.ladd, 1) := by decide +kernel
theorem d5_7 : decode prog_1_method_3_code 7 = .ok (.putfield 14, 3) := by decide +kernel
theorem d5_10 : decode prog_1_method_3_code 10 = .ok (.aload_n 0, 1) := by decide +kernel
theorem d5_11 : decode prog_1_method_3_code 11 = .ok (.dup, 1) := by decide +kernel
theorem d5_12 : decode prog_1_method_3_code 12 = .ok (.getfield 18, 3) := by decide +kernel
theorem d5_15 : decode prog_1_method_3_code 15 = .ok (.aload_n 1, 1) := by decide +kernel
theorem d5_16 : decode prog_1_method_3_code 16 = .ok (.arraylength, 1) := by decide +kernel
theorem d5_17 : decode prog_1_method_3_code 17 = .ok (.aload_n 1, 1) := by decide +kernel
theorem d5_18 : decode prog_1_method_3_code 18 = .ok (.arraylength, 1) := by decide +kernel
theorem d5_19 : decode prog_1_method_3_code 19 = .ok (.ifCond .le 9, 3) := by decide +kernel
theorem d5_22 : decode prog_1_method_3_code 22 = .ok (.aload_n 1, 1) := by decide +kernel
theorem d5_23 : decode prog_1_method_3_code 23 = .ok (.iconst 0, 1) := by decide +kernel
theorem d5_24 : decode prog_1_method_3_code 24 = .ok (.baload, 1) := by decide +kernel
theorem d5_25 : decode prog_1_method_3_code 25 = .ok (.goto 4, 3) := by decide +kernel
theorem d5_28 : decode prog_1_method_3_code 28 = .ok (.iconst 0, 1) := by decide +kernel
theorem d5_29 : decode prog_1_method_3_code 29 = .ok (.iadd, 1) := by decide +kernel
theorem d5_30 : decode prog_1_method_3_code 30 = .ok (.i2l, 1) := by decide +kernel
theorem d5_31 : decode prog_1_method_3_code 31 = .ok (.ladd, 1) := by decide +kernel
theorem d5_32 : decode prog_1_method_3_code 32 = .ok (.putfield 18, 3) := by decide +kernel
theorem d5_35 : decode prog_1_method_3_code 35 = .ok (.return_, 1) := by decide +kernel
theorem rmA_ef (m : MethodId) (x0 : Addr) (x1 : Addr) : entryFrame m #[(.ref x0), (.ref x1)] 2 = mkF m 0 #[.val (.ref x0), .val (.ref x1)] [] := by first | (simp [entryFrame, mkF, argsToLocals, Value.category]; done) | rfl
def QA (Z : State) (a : Addr) (ar : Addr) (cnt : Int64) (sm : Int64) (n : Int32) (f : Int32) (kc : ClassId) (vs : List Value) (h0 : Heap) (n0 : Nat) (v : Option Value) (h : Heap) (L : List Loc) : Prop := v = none ∧ Fr n0 L ∧ Keep h0 h [a] ∧ Exa Z h a "com/example/disk_to_queue/disktoqueue/bench/BodySum" ∧ Fld Z h a "com/example/disk_to_queue/disktoqueue/bench/BodySum" "count" "J" (.long (cnt + (1 : Int64))) ∧ Fld Z h a "com/example/disk_to_queue/disktoqueue/bench/BodySum" "sum" "J" (.long (sm + (own_add n f)))
set_option maxRecDepth 65536 in
set_option maxHeartbeats 40000000 in
theorem rmA (l : Launch) (Z : State) (a0 : Array Value) (hw : ∀ d ∈ tables_1, d.before a0 Z = true) (ws : List Jvm.Cond) (a : Addr) (ar : Addr) (cnt : Int64) (sm : Int64) (n : Int32) (f : Int32) (kc : ClassId) (vs : List Value) (h0 : Heap) (n0 : Nat) (Z0 : n0 ≤ h0.size) (Fc : Fld Z h0 a "com/example/disk_to_queue/disktoqueue/bench/BodySum" "count" "J" (.long cnt)) (Fs : Fld Z h0 a "com/example/disk_to_queue/disktoqueue/bench/BodySum" "sum" "J" (.long sm)) (Ea : Exa Z h0 a "com/example/disk_to_queue/disktoqueue/bench/BodySum") (Av : Arv Z h0 ar kc .byte n vs (.int (0 : Int32))) (hv : 0 < n → vs.getD 0 (.int (0 : Int32)) = .int f) (g_a : n0 ≤ a) (ne : ar ≠ a) :
    MetFree l (⟨"com/example/disk_to_queue/disktoqueue/bench/BodySum", "add", "([B)V"⟩ : MethodName) (head1 (Jvm.Cond.code (⟨"com/example/disk_to_queue/disktoqueue/bench/BodySum", "add", "([B)V"⟩ : MethodName) prog_1_method_3_code 2 none :: ws) ({ frames := 0, cells := 0, slots := 0, locals := 0 } : Room)) (fun aA' U => aA' = #[(.ref a), (.ref ar)] ∧ Z.Warmed39 U.vm ∧ U.heap = h0) (fun _ _ _ _ _ => True) (fun _ U oO' U' => ∃ vV' L, oO' = .returned vV' ∧ QA Z a ar cnt sm n f kc vs h0 n0 vV' U'.heap L ∧ FrameEnd U oO' U' L ({ frames := 0, cells := 0, slots := 0, locals := 0 } : Room).cells ({ frames := 0, cells := 0, slots := 0, locals := 0 } : Room).slots) := by
  refine MetFree.of_bodySF (plainFor_of_name own_pn1) hisR ?_
  intro p e s m args below meth c s₁ Bd hml0 hP hK
  obtain ⟨rfl, hZ, hh⟩ := hP
  have hx := Bd.exec
  have hby := Bd.bytes
  have hml : c.maxLocals = 2 := hml0
  have hown : s.vm.findClass "com/example/disk_to_queue/disktoqueue/bench/BodySum" = some m.cls := findClass_of_methodNamed Bd.named
  have hnm := (name_of_methodNamed Bd.named Bd.method).1
  have X0 : Stand p l e ({ frames := 0, cells := 0, slots := 0, locals := 0 } : Room) s m #[(.ref a), (.ref ar)] below meth c s₁ [] 0 0 := Stand.of_body Bd
  have e0 : s₁.heap = h0 := by rw [← hh, Bd.state]; rfl
  have N0 := Fr.nil n0
  have K0 : Keep h0 h0 [a] := Keep.refl _ _
  have k0 : ∀ t, Steps p.tables e below (s₁.setTop (mkF m 0 #[.val (.ref a), .val (.ref ar)] [])) t → Steps p.tables e below (s₁.setTop (entryFrame m #[(.ref a), (.ref ar)] 2)) t := fun t k => castTop (rmA_ef m (a) (ar)) k
  have k1 : ∀ t, Steps p.tables e below (s₁.setTop (mkF m 2 #[.val (.ref a), .val (.ref ar)] [(.ref a), (.ref a)])) t → Steps p.tables e below (s₁.setTop (entryFrame m #[(.ref a), (.ref ar)] 2)) t := by
    intro t kt
    refine k0 t ?_
    show Steps p.tables e below (s₁.setTop (mkF m 0 #[.val (.ref a), .val (.ref ar)] [])) t
    refine XS.aloadN X0.here hx rfl (hb hby d5_0) rfl rfl ?_
    show Steps p.tables e below (s₁.setTop (mkF m 1 #[.val (.ref a), .val (.ref ar)] [(.ref a)])) t
    refine XS.dup X0.here hx rfl (hb hby d5_1) rfl rfl ?_
    exact kt
  obtain ⟨T2, X2, e2, st2⟩ := getF X0 hx hZ hown (host := "") (Or.inl (hw _ (List.mem_of_getElem? (i := 22) rfl))) Via.refl e0 Fc (g := (mkF m 2 #[.val (.ref a), .val (.ref ar)] [(.ref a), (.ref a)])) rfl rfl (hb hby d5_2)
  have k3 : ∀ t, Steps p.tables e below (T2.setTop (mkF m 5 #[.val (.ref a), .val (.ref ar)] [(.long cnt), (.ref a)])) t → Steps p.tables e below (s₁.setTop (entryFrame m #[(.ref a), (.ref ar)] 2)) t := fun t kt => k1 t (st2 t kt)
  have k4 : ∀ t, Steps p.tables e below (T2.setTop (mkF m 7 #[.val (.ref a), .val (.ref ar)] [(.long (cnt + (1 : Int64))), (.ref a)])) t → Steps p.tables e below (s₁.setTop (entryFrame m #[(.ref a), (.ref ar)] 2)) t := by
    intro t kt
    refine k3 t ?_
    show Steps p.tables e below (T2.setTop (mkF m 5 #[.val (.ref a), .val (.ref ar)] [(.long cnt), (.ref a)])) t
    refine XS.lconst X2.here hx rfl (hb hby d5_5) ?_
    show Steps p.tables e below (T2.setTop (mkF m 6 #[.val (.ref a), .val (.ref ar)] [(.long (1 : Int64)), (.long cnt), (.ref a)])) t
    refine XS.ladd X2.here hx rfl (hb hby d5_6) rfl ?_
    exact kt
  obtain ⟨T5, h5, X5, e5, W5, st5⟩ := putF X2 hx hZ hown (host := "") (Or.inl (hw _ (List.mem_of_getElem? (i := 22) rfl))) Via.refl e2 Fc Ea (Or.inl (hw _ (List.mem_of_getElem? (i := 23) rfl))) (hw _ (List.mem_of_getElem? (i := 9) rfl)) (ty := .long) (by decide) rfl rfl (g := (mkF m 7 #[.val (.ref a), .val (.ref ar)] [(.long (cnt + (1 : Int64))), (.ref a)])) rfl rfl (hb hby d5_7)
  have F6 := Fc.same W5
  have F7 := Fs.other W5 (Or.inr (slot_ne (Or.inl (hw _ (List.mem_of_getElem? (i := 25) rfl))) (Or.inl (hw _ (List.mem_of_getElem? (i := 23) rfl))) (by decide) (t := .long) (t' := .long) (by decide) (by decide)))
  have F8 := Ea.wr W5
  have F9 := Av.other W5 ne
  have Z5 : n0 ≤ h5.size := Nat.le_trans Z0 (Keep.of_wr W5).1
  have K5 : Keep h0 h5 [a] := K0.wr W5 (Or.inl (List.mem_of_getElem? (i := 0) rfl))
  have N5 := Fr.snoc X5 N0 g_a
  have k10 : ∀ t, Steps p.tables e below (T5.setTop (mkF m 10 #[.val (.ref a), .val (.ref ar)] [])) t → Steps p.tables e below (s₁.setTop (entryFrame m #[(.ref a), (.ref ar)] 2)) t := fun t kt => k4 t (st5 t kt)
  have k11 : ∀ t, Steps p.tables e below (T5.setTop (mkF m 12 #[.val (.ref a), .val (.ref ar)] [(.ref a), (.ref a)])) t → Steps p.tables e below (s₁.setTop (entryFrame m #[(.ref a), (.ref ar)] 2)) t := by
    intro t kt
    refine k10 t ?_
    show Steps p.tables e below (T5.setTop (mkF m 10 #[.val (.ref a), .val (.ref ar)] [])) t
    refine XS.aloadN X5.here hx rfl (hb hby d5_10) rfl rfl ?_
    show Steps p.tables e below (T5.setTop (mkF m 11 #[.val (.ref a), .val (.ref ar)] [(.ref a)])) t
    refine XS.dup X5.here hx rfl (hb hby d5_11) rfl rfl ?_
    exact kt
  obtain ⟨T12, X12, e12, st12⟩ := getF X5 hx hZ hown (host := "") (Or.inl (hw _ (List.mem_of_getElem? (i := 24) rfl))) Via.refl e5 F7 (g := (mkF m 12 #[.val (.ref a), .val (.ref ar)] [(.ref a), (.ref a)])) rfl rfl (hb hby d5_12)
  have k13 : ∀ t, Steps p.tables e below (T12.setTop (mkF m 15 #[.val (.ref a), .val (.ref ar)] [(.long sm), (.ref a)])) t → Steps p.tables e below (s₁.setTop (entryFrame m #[(.ref a), (.ref ar)] 2)) t := fun t kt => k11 t (st12 t kt)
  have k14 : ∀ t, Steps p.tables e below (T12.setTop (mkF m 16 #[.val (.ref a), .val (.ref ar)] [(.ref ar), (.long sm), (.ref a)])) t → Steps p.tables e below (s₁.setTop (entryFrame m #[(.ref a), (.ref ar)] 2)) t := by
    intro t kt
    refine k13 t ?_
    show Steps p.tables e below (T12.setTop (mkF m 15 #[.val (.ref a), .val (.ref ar)] [(.long sm), (.ref a)])) t
    refine XS.aloadN X12.here hx rfl (hb hby d5_15) rfl rfl ?_
    exact kt
  obtain ⟨cl15, Ar15, -, S15, M15, -, -⟩ := id F9
  have k16 : ∀ t, Steps p.tables e below (T12.setTop (mkF m 17 #[.val (.ref a), .val (.ref ar)] [(.int n), (.long sm), (.ref a)])) t → Steps p.tables e below (s₁.setTop (entryFrame m #[(.ref a), (.ref ar)] 2)) t := fun t kt => k14 t (X12.arraylength hx (by rw [e12]; exact Ar15.1) (State.isArrayOf_alike hZ.alike Ar15.2.1) (g := (mkF m 16 #[.val (.ref a), .val (.ref ar)] [(.ref ar), (.long sm), (.ref a)])) rfl rfl (hb hby d5_16) t (by rw [len_of S15 M15]; exact kt))
  have k17 : ∀ t, Steps p.tables e below (T12.setTop (mkF m 18 #[.val (.ref a), .val (.ref ar)] [(.ref ar), (.int n), (.long sm), (.ref a)])) t → Steps p.tables e below (s₁.setTop (entryFrame m #[(.ref a), (.ref ar)] 2)) t := by
    intro t kt
    refine k16 t ?_
    show Steps p.tables e below (T12.setTop (mkF m 17 #[.val (.ref a), .val (.ref ar)] [(.int n), (.long sm), (.ref a)])) t
    refine XS.aloadN X12.here hx rfl (hb hby d5_17) rfl rfl ?_
    exact kt
  obtain ⟨cl18, Ar18, -, S18, M18, -, -⟩ := id F9
  have k19 : ∀ t, Steps p.tables e below (T12.setTop (mkF m 19 #[.val (.ref a), .val (.ref ar)] [(.int n), (.int n), (.long sm), (.ref a)])) t → Steps p.tables e below (s₁.setTop (entryFrame m #[(.ref a), (.ref ar)] 2)) t := fun t kt => k17 t (X12.arraylength hx (by rw [e12]; exact Ar18.1) (State.isArrayOf_alike hZ.alike Ar18.2.1) (g := (mkF m 18 #[.val (.ref a), .val (.ref ar)] [(.ref ar), (.int n), (.long sm), (.ref a)])) rfl rfl (hb hby d5_18) t (by rw [len_of S18 M18]; exact kt))
  by_cases hc19_20 : (0 : Int32) < n
  · have k21 : ∀ t, Steps p.tables e below (T12.setTop (mkF m 24 #[.val (.ref a), .val (.ref ar)] [(.int (0 : Int32)), (.ref ar), (.int n), (.long sm), (.ref a)])) t → Steps p.tables e below (s₁.setTop (entryFrame m #[(.ref a), (.ref ar)] 2)) t := by
      intro t kt
      refine k19 t ?_
      show Steps p.tables e below (T12.setTop (mkF m 19 #[.val (.ref a), .val (.ref ar)] [(.int n), (.int n), (.long sm), (.ref a)])) t
      refine XS.ifNo X12.here hx rfl (hb hby d5_19) rfl ((if0 _ _).trans (tlt hc19_20).2.2.2) ?_
      show Steps p.tables e below (T12.setTop (mkF m 22 #[.val (.ref a), .val (.ref ar)] [(.int n), (.long sm), (.ref a)])) t
      refine XS.aloadN X12.here hx rfl (hb hby d5_22) rfl rfl ?_
      show Steps p.tables e below (T12.setTop (mkF m 23 #[.val (.ref a), .val (.ref ar)] [(.ref ar), (.int n), (.long sm), (.ref a)])) t
      refine XS.iconst X12.here hx rfl (hb hby d5_23) ?_
      exact kt
    obtain ⟨cl22, Ar22, q22, S22, M22, H22, G22⟩ := id F9
    have hin22 : ¬ ((0 : Int32) < 0 ∨ cl22.slots.size ≤ ((0 : Int32)).toNatClampNeg) := inb_of S22 ⟨by decide, hc19_20⟩
    have hat22 : cl22.slots[((0 : Int32)).toNatClampNeg]? = some (.int f) := Has.at H22 hin22 (hv hc19_20)
    have k23 : ∀ t, Steps p.tables e below (T12.setTop (mkF m 25 #[.val (.ref a), .val (.ref ar)] [(.int f), (.int n), (.long sm), (.ref a)])) t → Steps p.tables e below (s₁.setTop (entryFrame m #[(.ref a), (.ref ar)] 2)) t := fun t kt => k21 t (X12.baloadBytes hx (j := (0 : Int32)) (v := (.int f)) (by rw [e12]; exact Ar22.1) (State.isArrayOf_alike hZ.alike Ar22.2.1) Ar22.2.2 hin22 hat22 (g := (mkF m 24 #[.val (.ref a), .val (.ref ar)] [(.int (0 : Int32)), (.ref ar), (.int n), (.long sm), (.ref a)])) rfl rfl (hb hby d5_24) t kt)
    have k24 : ∀ t, Steps p.tables e below (T12.setTop (mkF m 32 #[.val (.ref a), .val (.ref ar)] [(.long (sm + ((n + f).toInt64))), (.ref a)])) t → Steps p.tables e below (s₁.setTop (entryFrame m #[(.ref a), (.ref ar)] 2)) t := by
      intro t kt
      refine k23 t ?_
      show Steps p.tables e below (T12.setTop (mkF m 25 #[.val (.ref a), .val (.ref ar)] [(.int f), (.int n), (.long sm), (.ref a)])) t
      refine XS.goto X12.here hx rfl (pc0 := 25) (pc' := 29) rfl (hb hby d5_25) (by decide) (by decide) ?_
      show Steps p.tables e below (T12.setTop (mkF m 29 #[.val (.ref a), .val (.ref ar)] [(.int f), (.int n), (.long sm), (.ref a)])) t
      refine XS.iadd X12.here hx rfl (hb hby d5_29) rfl ?_
      show Steps p.tables e below (T12.setTop (mkF m 30 #[.val (.ref a), .val (.ref ar)] [(.int (n + f)), (.long sm), (.ref a)])) t
      refine XS.i2l X12.here hx rfl (hb hby d5_30) rfl ?_
      show Steps p.tables e below (T12.setTop (mkF m 31 #[.val (.ref a), .val (.ref ar)] [(.long ((n + f).toInt64)), (.long sm), (.ref a)])) t
      refine XS.ladd X12.here hx rfl (hb hby d5_31) rfl ?_
      exact kt
    obtain ⟨T25, h25, X25, e25, W25, st25⟩ := putF X12 hx hZ hown (host := "") (Or.inl (hw _ (List.mem_of_getElem? (i := 24) rfl))) Via.refl e12 F7 F8 (Or.inl (hw _ (List.mem_of_getElem? (i := 25) rfl))) (hw _ (List.mem_of_getElem? (i := 9) rfl)) (ty := .long) (by decide) rfl rfl (g := (mkF m 32 #[.val (.ref a), .val (.ref ar)] [(.long (sm + ((n + f).toInt64))), (.ref a)])) rfl rfl (hb hby d5_32)
    have F26 := F6.other W25 (Or.inr (slot_ne (Or.inl (hw _ (List.mem_of_getElem? (i := 23) rfl))) (Or.inl (hw _ (List.mem_of_getElem? (i := 25) rfl))) (by decide) (t := .long) (t' := .long) (by decide) (by decide)))
    have F27 := F7.same W25
    have F28 := F8.wr W25
    have F29 := F9.other W25 ne
    have Z25 : n0 ≤ h25.size := Nat.le_trans Z5 (Keep.of_wr W25).1
    have K25 : Keep h0 h25 [a] := K5.wr W25 (Or.inl (List.mem_of_getElem? (i := 0) rfl))
    have N25 := Fr.snoc X25 N5 g_a
    have k30 : ∀ t, Steps p.tables e below (T25.setTop (mkF m 35 #[.val (.ref a), .val (.ref ar)] [])) t → Steps p.tables e below (s₁.setTop (entryFrame m #[(.ref a), (.ref ar)] 2)) t := fun t kt => k24 t (st25 t kt)
    obtain ⟨fs, hr, hrun, hended, hW, hsame⟩ := X25.leave (v := none) (fun _ => rfl)
    refine ⟨_, _, k30 _ ?_, hrun, hended, _, _, rfl, ?_, ⟨_, rfl⟩, hW, hsame.mono (by decide) (by decide)⟩
    · show Steps p.tables e below (T25.setTop (mkF m 35 #[.val (.ref a), .val (.ref ar)] [])) _
      exact X25.returnOut hx Bd.returns (hb hby d5_35) hr
    · show QA Z a ar cnt sm n f kc vs h0 n0 _ T25.heap _
      rw [e25]
      exact ⟨rfl, N25, K25, F28, F26, by rw [show own_add n f = (n + f).toInt64 from by simp [own_add, hc19_20]]; exact F27⟩
  · have k31 : ∀ t, Steps p.tables e below (T12.setTop (mkF m 32 #[.val (.ref a), .val (.ref ar)] [(.long (sm + ((n + (0 : Int32)).toInt64))), (.ref a)])) t → Steps p.tables e below (s₁.setTop (entryFrame m #[(.ref a), (.ref ar)] 2)) t := by
      intro t kt
      refine k19 t ?_
      show Steps p.tables e below (T12.setTop (mkF m 19 #[.val (.ref a), .val (.ref ar)] [(.int n), (.int n), (.long sm), (.ref a)])) t
      refine XS.ifYes X12.here hx rfl (pc0 := 19) (pc' := 28) rfl (hb hby d5_19) rfl ((if0 _ _).trans (flt hc19_20).2.2.2) (by decide) (by decide) ?_
      show Steps p.tables e below (T12.setTop (mkF m 28 #[.val (.ref a), .val (.ref ar)] [(.int n), (.long sm), (.ref a)])) t
      refine XS.iconst X12.here hx rfl (hb hby d5_28) ?_
      show Steps p.tables e below (T12.setTop (mkF m 29 #[.val (.ref a), .val (.ref ar)] [(.int (0 : Int32)), (.int n), (.long sm), (.ref a)])) t
      refine XS.iadd X12.here hx rfl (hb hby d5_29) rfl ?_
      show Steps p.tables e below (T12.setTop (mkF m 30 #[.val (.ref a), .val (.ref ar)] [(.int (n + (0 : Int32))), (.long sm), (.ref a)])) t
      refine XS.i2l X12.here hx rfl (hb hby d5_30) rfl ?_
      show Steps p.tables e below (T12.setTop (mkF m 31 #[.val (.ref a), .val (.ref ar)] [(.long ((n + (0 : Int32)).toInt64)), (.long sm), (.ref a)])) t
      refine XS.ladd X12.here hx rfl (hb hby d5_31) rfl ?_
      exact kt
    obtain ⟨T32, h32, X32, e32, W32, st32⟩ := putF X12 hx hZ hown (host := "") (Or.inl (hw _ (List.mem_of_getElem? (i := 24) rfl))) Via.refl e12 F7 F8 (Or.inl (hw _ (List.mem_of_getElem? (i := 25) rfl))) (hw _ (List.mem_of_getElem? (i := 9) rfl)) (ty := .long) (by decide) rfl rfl (g := (mkF m 32 #[.val (.ref a), .val (.ref ar)] [(.long (sm + ((n + (0 : Int32)).toInt64))), (.ref a)])) rfl rfl (hb hby d5_32)
    have F33 := F6.other W32 (Or.inr (slot_ne (Or.inl (hw _ (List.mem_of_getElem? (i := 23) rfl))) (Or.inl (hw _ (List.mem_of_getElem? (i := 25) rfl))) (by decide) (t := .long) (t' := .long) (by decide) (by decide)))
    have F34 := F7.same W32
    have F35 := F8.wr W32
    have F36 := F9.other W32 ne
    have Z32 : n0 ≤ h32.size := Nat.le_trans Z5 (Keep.of_wr W32).1
    have K32 : Keep h0 h32 [a] := K5.wr W32 (Or.inl (List.mem_of_getElem? (i := 0) rfl))
    have N32 := Fr.snoc X32 N5 g_a
    have k37 : ∀ t, Steps p.tables e below (T32.setTop (mkF m 35 #[.val (.ref a), .val (.ref ar)] [])) t → Steps p.tables e below (s₁.setTop (entryFrame m #[(.ref a), (.ref ar)] 2)) t := fun t kt => k31 t (st32 t kt)
    obtain ⟨fs, hr, hrun, hended, hW, hsame⟩ := X32.leave (v := none) (fun _ => rfl)
    refine ⟨_, _, k37 _ ?_, hrun, hended, _, _, rfl, ?_, ⟨_, rfl⟩, hW, hsame.mono (by decide) (by decide)⟩
    · show Steps p.tables e below (T32.setTop (mkF m 35 #[.val (.ref a), .val (.ref ar)] [])) _
      exact X32.returnOut hx Bd.returns (hb hby d5_35) hr
    · show QA Z a ar cnt sm n f kc vs h0 n0 _ T32.heap _
      rw [e32]
      exact ⟨rfl, N32, K32, F35, F33, by rw [show own_add n f = (n + 0).toInt64 from by simp [own_add, hc19_20]]; exact F34⟩
theorem d7_0 : decode jdk_35_method_36_code 0 = .ok (.lload_n 0, 1) := by decide +kernel
theorem d7_1 : decode jdk_35_method_36_code 1 = .ok (.lload_n 0, 1) := by decide +kernel
theorem d7_2 : decode jdk_35_method_36_code 2 = .ok (.bipush 32, 2) := by decide +kernel
theorem d7_4 : decode jdk_35_method_36_code 4 = .ok (.lushr, 1) := by decide +kernel
theorem d7_5 : decode jdk_35_method_36_code 5 = .ok (.lxor, 1) := by decide +kernel
theorem d7_6 : decode jdk_35_method_36_code 6 = .ok (.l2i, 1) := by decide +kernel
theorem d7_7 : decode jdk_35_method_36_code 7 = .ok (.ireturn, 1) := by decide +kernel
theorem own_pn2 : plainName "java/lang/Long" = true := by first | (simp [plainName, overriddenIn]; done) | decide +kernel
theorem rmL_ef (m : MethodId) (x0 : Int64) : entryFrame m #[(.long x0)] 2 = mkF m 0 #[.val (.long x0), .second] [] := by first | (simp [entryFrame, mkF, argsToLocals, Value.category]; done) | rfl
def QL (Z : State) (q1 : Int64) (h0 : Heap) (n0 : Nat) (v : Option Value) (h : Heap) (L : List Loc) : Prop := v = some (.int (own_hash q1)) ∧ Fr n0 L ∧ h = h0
set_option maxRecDepth 65536 in
set_option maxHeartbeats 40000000 in
theorem rmL (l : Launch) (Z : State) (a0 : Array Value) (hw : ∀ d ∈ tables_1, d.before a0 Z = true) (ws : List Jvm.Cond) (q1 : Int64) (h0 : Heap) (n0 : Nat) (Z0 : n0 ≤ h0.size) :
    MetFree l (⟨"java/lang/Long", "hashCode", "(J)I"⟩ : MethodName) (head1 (Jvm.Cond.code (⟨"java/lang/Long", "hashCode", "(J)I"⟩ : MethodName) jdk_35_method_36_code 2 (some .int) :: ws) ({ frames := 0, cells := 0, slots := 0, locals := 0 } : Room)) (fun aA' U => aA' = #[(.long q1)] ∧ Z.Warmed39 U.vm ∧ U.heap = h0) (fun _ _ _ _ _ => True) (fun _ U oO' U' => ∃ vV' L, oO' = .returned vV' ∧ QL Z q1 h0 n0 vV' U'.heap L ∧ FrameEnd U oO' U' L ({ frames := 0, cells := 0, slots := 0, locals := 0 } : Room).cells ({ frames := 0, cells := 0, slots := 0, locals := 0 } : Room).slots) := by
  refine MetFree.of_bodySF (plainFor_of_name own_pn2) hisR ?_
  intro p e s m args below meth c s₁ Bd hml0 hP hK
  obtain ⟨rfl, hZ, hh⟩ := hP
  have hx := Bd.exec
  have hby := Bd.bytes
  have hml : c.maxLocals = 2 := hml0
  have hown : s.vm.findClass "java/lang/Long" = some m.cls := findClass_of_methodNamed Bd.named
  have hnm := (name_of_methodNamed Bd.named Bd.method).1
  have X0 : Stand p l e ({ frames := 0, cells := 0, slots := 0, locals := 0 } : Room) s m #[(.long q1)] below meth c s₁ [] 0 0 := Stand.of_body Bd
  have e0 : s₁.heap = h0 := by rw [← hh, Bd.state]; rfl
  have N0 := Fr.nil n0
  have K0 : Keep h0 h0 [] := Keep.refl _ _
  have k0 : ∀ t, Steps p.tables e below (s₁.setTop (mkF m 0 #[.val (.long q1), .second] [])) t → Steps p.tables e below (s₁.setTop (entryFrame m #[(.long q1)] 2)) t := fun t k => castTop (rmL_ef m (q1)) k
  have k1 : ∀ t, Steps p.tables e below (s₁.setTop (mkF m 7 #[.val (.long q1), .second] [(.int ((q1 ^^^ ((q1.toUInt64 >>> ((32 : Int32) &&& 0x3f).toInt64.toUInt64).toInt64)).toInt32))])) t → Steps p.tables e below (s₁.setTop (entryFrame m #[(.long q1)] 2)) t := by
    intro t kt
    refine k0 t ?_
    show Steps p.tables e below (s₁.setTop (mkF m 0 #[.val (.long q1), .second] [])) t
    refine XS.lloadN X0.here hx rfl (hb hby d7_0) rfl ?_
    show Steps p.tables e below (s₁.setTop (mkF m 1 #[.val (.long q1), .second] [(.long q1)])) t
    refine XS.lloadN X0.here hx rfl (hb hby d7_1) rfl ?_
    show Steps p.tables e below (s₁.setTop (mkF m 2 #[.val (.long q1), .second] [(.long q1), (.long q1)])) t
    refine XS.bipush X0.here hx rfl (hb hby d7_2) ?_
    show Steps p.tables e below (s₁.setTop (mkF m 4 #[.val (.long q1), .second] [(.int (32 : Int32)), (.long q1), (.long q1)])) t
    refine XS.lushr X0.here hx rfl (hb hby d7_4) rfl ?_
    show Steps p.tables e below (s₁.setTop (mkF m 5 #[.val (.long q1), .second] [(.long ((q1.toUInt64 >>> ((32 : Int32) &&& 0x3f).toInt64.toUInt64).toInt64)), (.long q1)])) t
    refine XS.lxor X0.here hx rfl (hb hby d7_5) rfl ?_
    show Steps p.tables e below (s₁.setTop (mkF m 6 #[.val (.long q1), .second] [(.long (q1 ^^^ ((q1.toUInt64 >>> ((32 : Int32) &&& 0x3f).toInt64.toUInt64).toInt64)))])) t
    refine XS.l2i X0.here hx rfl (hb hby d7_6) rfl ?_
    exact kt
  obtain ⟨fs, hr, hrun, hended, hW, hsame⟩ := X0.leave (v := some (.int ((q1 ^^^ ((q1.toUInt64 >>> ((32 : Int32) &&& 0x3f).toInt64.toUInt64).toInt64)).toInt32))) (fun h => by rw [Bd.returns] at h; cases h)
  refine ⟨_, _, k1 _ ?_, hrun, hended, _, _, rfl, ?_, ⟨_, rfl⟩, hW, hsame.mono (by decide) (by decide)⟩
  · show Steps p.tables e below (s₁.setTop (mkF m 7 #[.val (.long q1), .second] [(.int ((q1 ^^^ ((q1.toUInt64 >>> ((32 : Int32) &&& 0x3f).toInt64.toUInt64).toInt64)).toInt32))])) _
    exact retI X0 hx Bd.returns (hb hby d7_7) hr
  · show QL Z q1 h0 n0 _ s₁.heap _
    rw [e0]
    exact ⟨rfl, N0, rfl⟩
theorem d8_0 : decode method_5_code 0 = .ok (.lload_n 0, 1) := by decide +kernel
theorem d8_1 : decode method_5_code 1 = .ok (.lload_n 0, 1) := by decide +kernel
theorem d8_2 : decode method_5_code 2 = .ok (.bipush 32, 2) := by decide +kernel
theorem d8_4 : decode method_5_code 4 = .ok (.lushr, 1) := by decide +kernel
theorem d8_5 : decode method_5_code 5 = .ok (.lxor, 1) := by decide +kernel
theorem d8_6 : decode method_5_code 6 = .ok (.l2i, 1) := by decide +kernel
theorem d8_7 : decode method_5_code 7 = .ok (.ireturn, 1) := by decide +kernel
theorem rmO_ef (m : MethodId) (x0 : Int64) : entryFrame m #[(.long x0)] 2 = mkF m 0 #[.val (.long x0), .second] [] := by first | (simp [entryFrame, mkF, argsToLocals, Value.category]; done) | rfl
def QO (Z : State) (q1 : Int64) (h0 : Heap) (n0 : Nat) (v : Option Value) (h : Heap) (L : List Loc) : Prop := v = some (.int (own_hash q1)) ∧ Fr n0 L ∧ h = h0
set_option maxRecDepth 65536 in
set_option maxHeartbeats 40000000 in
theorem rmO (l : Launch) (Z : State) (a0 : Array Value) (hw : ∀ d ∈ tables_1, d.before a0 Z = true) (ws : List Jvm.Cond) (q1 : Int64) (h0 : Heap) (n0 : Nat) (Z0 : n0 ≤ h0.size) :
    MetFree l (⟨"com/example/disk_to_queue/disktoqueue/bench/BodySumAddPinLaw", "hashOf", "(J)I"⟩ : MethodName) (head1 (Jvm.Cond.code (⟨"com/example/disk_to_queue/disktoqueue/bench/BodySumAddPinLaw", "hashOf", "(J)I"⟩ : MethodName) method_5_code 2 (some .int) :: ws) ({ frames := 0, cells := 0, slots := 0, locals := 0 } : Room)) (fun aA' U => aA' = #[(.long q1)] ∧ Z.Warmed39 U.vm ∧ U.heap = h0) (fun _ _ _ _ _ => True) (fun _ U oO' U' => ∃ vV' L, oO' = .returned vV' ∧ QO Z q1 h0 n0 vV' U'.heap L ∧ FrameEnd U oO' U' L ({ frames := 0, cells := 0, slots := 0, locals := 0 } : Room).cells ({ frames := 0, cells := 0, slots := 0, locals := 0 } : Room).slots) := by
  refine MetFree.of_bodySF (plainFor_of_name own_pn0) hisR ?_
  intro p e s m args below meth c s₁ Bd hml0 hP hK
  obtain ⟨rfl, hZ, hh⟩ := hP
  have hx := Bd.exec
  have hby := Bd.bytes
  have hml : c.maxLocals = 2 := hml0
  have hown : s.vm.findClass "com/example/disk_to_queue/disktoqueue/bench/BodySumAddPinLaw" = some m.cls := findClass_of_methodNamed Bd.named
  have hnm := (name_of_methodNamed Bd.named Bd.method).1
  have X0 : Stand p l e ({ frames := 0, cells := 0, slots := 0, locals := 0 } : Room) s m #[(.long q1)] below meth c s₁ [] 0 0 := Stand.of_body Bd
  have e0 : s₁.heap = h0 := by rw [← hh, Bd.state]; rfl
  have N0 := Fr.nil n0
  have K0 : Keep h0 h0 [] := Keep.refl _ _
  have k0 : ∀ t, Steps p.tables e below (s₁.setTop (mkF m 0 #[.val (.long q1), .second] [])) t → Steps p.tables e below (s₁.setTop (entryFrame m #[(.long q1)] 2)) t := fun t k => castTop (rmO_ef m (q1)) k
  have k1 : ∀ t, Steps p.tables e below (s₁.setTop (mkF m 7 #[.val (.long q1), .second] [(.int ((q1 ^^^ ((q1.toUInt64 >>> ((32 : Int32) &&& 0x3f).toInt64.toUInt64).toInt64)).toInt32))])) t → Steps p.tables e below (s₁.setTop (entryFrame m #[(.long q1)] 2)) t := by
    intro t kt
    refine k0 t ?_
    show Steps p.tables e below (s₁.setTop (mkF m 0 #[.val (.long q1), .second] [])) t
    refine XS.lloadN X0.here hx rfl (hb hby d8_0) rfl ?_
    show Steps p.tables e below (s₁.setTop (mkF m 1 #[.val (.long q1), .second] [(.long q1)])) t
    refine XS.lloadN X0.here hx rfl (hb hby d8_1) rfl ?_
    show Steps p.tables e below (s₁.setTop (mkF m 2 #[.val (.long q1), .second] [(.long q1), (.long q1)])) t
    refine XS.bipush X0.here hx rfl (hb hby d8_2) ?_
    show Steps p.tables e below (s₁.setTop (mkF m 4 #[.val (.long q1), .second] [(.int (32 : Int32)), (.long q1), (.long q1)])) t
    refine XS.lushr X0.here hx rfl (hb hby d8_4) rfl ?_
    show Steps p.tables e below (s₁.setTop (mkF m 5 #[.val (.long q1), .second] [(.long ((q1.toUInt64 >>> ((32 : Int32) &&& 0x3f).toInt64.toUInt64).toInt64)), (.long q1)])) t
    refine XS.lxor X0.here hx rfl (hb hby d8_5) rfl ?_
    show Steps p.tables e below (s₁.setTop (mkF m 6 #[.val (.long q1), .second] [(.long (q1 ^^^ ((q1.toUInt64 >>> ((32 : Int32) &&& 0x3f).toInt64.toUInt64).toInt64)))])) t
    refine XS.l2i X0.here hx rfl (hb hby d8_6) rfl ?_
    exact kt
  obtain ⟨fs, hr, hrun, hended, hW, hsame⟩ := X0.leave (v := some (.int ((q1 ^^^ ((q1.toUInt64 >>> ((32 : Int32) &&& 0x3f).toInt64.toUInt64).toInt64)).toInt32))) (fun h => by rw [Bd.returns] at h; cases h)
  refine ⟨_, _, k1 _ ?_, hrun, hended, _, _, rfl, ?_, ⟨_, rfl⟩, hW, hsame.mono (by decide) (by decide)⟩
  · show Steps p.tables e below (s₁.setTop (mkF m 7 #[.val (.long q1), .second] [(.int ((q1 ^^^ ((q1.toUInt64 >>> ((32 : Int32) &&& 0x3f).toInt64.toUInt64).toInt64)).toInt32))])) _
    exact retI X0 hx Bd.returns (hb hby d8_7) hr
  · show QO Z q1 h0 n0 _ s₁.heap _
    rw [e0]
    exact ⟨rfl, N0, rfl⟩
theorem d6_0 : decode prog_1_method_6_code 0 = .ok (.ldc2_w 34, 3) := by decide +kernel
theorem d6_3 : decode prog_1_method_6_code 3 = .ok (.aload_n 0, 1) := by decide +kernel
theorem d6_4 : decode prog_1_method_6_code 4 = .ok (.getfield 14, 3) := by decide +kernel
theorem d6_7 : decode prog_1_method_6_code 7 = .ok (.lmul, 1) := by decide +kernel
theorem d6_8 : decode prog_1_method_6_code 8 = .ok (.aload_n 0, 1) := by decide +kernel
theorem d6_9 : decode prog_1_method_6_code 9 = .ok (.getfield 18, 3) := by decide +kernel
theorem d6_12 : decode prog_1_method_6_code 12 = .ok (.ladd, 1) := by decide +kernel
theorem d6_13 : decode prog_1_method_6_code 13 = .ok (.invokestatic 36, 3) := by decide +kernel
theorem d6_16 : decode prog_1_method_6_code 16 = .ok (.ireturn, 1) := by decide +kernel
theorem rmH_ef (m : MethodId) (x0 : Addr) : entryFrame m #[(.ref x0)] 1 = mkF m 0 #[.val (.ref x0)] [] := by first | (simp [entryFrame, mkF, argsToLocals, Value.category]; done) | rfl
def QH (Z : State) (a : Addr) (cnt : Int64) (sm : Int64) (h0 : Heap) (n0 : Nat) (v : Option Value) (h : Heap) (L : List Loc) : Prop := v = some (.int (own_hash (((31 : Int64) * cnt) + sm))) ∧ Fr n0 L ∧ h = h0
theorem own_pd0 : parseMethodDescriptor "(J)I" = some ⟨[.long], some .int⟩ := by decide +kernel
set_option maxRecDepth 65536 in
set_option maxHeartbeats 40000000 in
theorem rmH (l : Launch) (Z : State) (a0 : Array Value) (hw : ∀ d ∈ tables_1, d.before a0 Z = true) (ws : List Jvm.Cond) (a : Addr) (cnt : Int64) (sm : Int64) (h0 : Heap) (n0 : Nat) (Z0 : n0 ≤ h0.size) (Fc : Fld Z h0 a "com/example/disk_to_queue/disktoqueue/bench/BodySum" "count" "J" (.long cnt)) (Fs : Fld Z h0 a "com/example/disk_to_queue/disktoqueue/bench/BodySum" "sum" "J" (.long sm)) :
    MetFree l (⟨"com/example/disk_to_queue/disktoqueue/bench/BodySum", "hashCode", "()I"⟩ : MethodName) (head1 (Jvm.Cond.code (⟨"com/example/disk_to_queue/disktoqueue/bench/BodySum", "hashCode", "()I"⟩ : MethodName) prog_1_method_6_code 1 (some .int) :: ws) ({ frames := 1, cells := 0, slots := 0, locals := 13 } : Room)) (fun aA' U => aA' = #[(.ref a)] ∧ Z.Warmed39 U.vm ∧ U.heap = h0) (fun _ _ _ _ _ => True) (fun _ U oO' U' => ∃ vV' L, oO' = .returned vV' ∧ QH Z a cnt sm h0 n0 vV' U'.heap L ∧ FrameEnd U oO' U' L ({ frames := 1, cells := 0, slots := 0, locals := 13 } : Room).cells ({ frames := 1, cells := 0, slots := 0, locals := 13 } : Room).slots) := by
  refine MetFree.of_bodySF (plainFor_of_name own_pn1) hisR ?_
  intro p e s m args below meth c s₁ Bd hml0 hP hK
  obtain ⟨rfl, hZ, hh⟩ := hP
  have hx := Bd.exec
  have hby := Bd.bytes
  have hml : c.maxLocals = 1 := hml0
  have hown : s.vm.findClass "com/example/disk_to_queue/disktoqueue/bench/BodySum" = some m.cls := findClass_of_methodNamed Bd.named
  have hnm := (name_of_methodNamed Bd.named Bd.method).1
  have X0 : Stand p l e ({ frames := 1, cells := 0, slots := 0, locals := 13 } : Room) s m #[(.ref a)] below meth c s₁ [] 0 0 := Stand.of_body Bd
  have e0 : s₁.heap = h0 := by rw [← hh, Bd.state]; rfl
  have N0 := Fr.nil n0
  have K0 : Keep h0 h0 [] := Keep.refl _ _
  have k0 : ∀ t, Steps p.tables e below (s₁.setTop (mkF m 0 #[.val (.ref a)] [])) t → Steps p.tables e below (s₁.setTop (entryFrame m #[(.ref a)] 1)) t := fun t k => castTop (rmH_ef m (a)) k
  have k1 : ∀ t, Steps p.tables e below (s₁.setTop (mkF m 4 #[.val (.ref a)] [(.ref a), (.long (31 : Int64))])) t → Steps p.tables e below (s₁.setTop (entryFrame m #[(.ref a)] 1)) t := by
    intro t kt
    refine k0 t ?_
    show Steps p.tables e below (s₁.setTop (mkF m 0 #[.val (.ref a)] [])) t
    refine X0.ldc2Long hx hown (mvT hZ (hw _ (List.mem_of_getElem? (i := 31) rfl))) (g := (mkF m 0 #[.val (.ref a)] [])) rfl (hb hby d6_0) _ ?_
    show Steps p.tables e below (s₁.setTop (mkF m 3 #[.val (.ref a)] [(.long (31 : Int64))])) t
    refine XS.aloadN X0.here hx rfl (hb hby d6_3) rfl rfl ?_
    exact kt
  obtain ⟨T2, X2, e2, st2⟩ := getF X0 hx hZ hown (host := "") (Or.inl (hw _ (List.mem_of_getElem? (i := 22) rfl))) Via.refl e0 Fc (g := (mkF m 4 #[.val (.ref a)] [(.ref a), (.long (31 : Int64))])) rfl rfl (hb hby d6_4)
  have k3 : ∀ t, Steps p.tables e below (T2.setTop (mkF m 7 #[.val (.ref a)] [(.long cnt), (.long (31 : Int64))])) t → Steps p.tables e below (s₁.setTop (entryFrame m #[(.ref a)] 1)) t := fun t kt => k1 t (st2 t kt)
  have k4 : ∀ t, Steps p.tables e below (T2.setTop (mkF m 9 #[.val (.ref a)] [(.ref a), (.long ((31 : Int64) * cnt))])) t → Steps p.tables e below (s₁.setTop (entryFrame m #[(.ref a)] 1)) t := by
    intro t kt
    refine k3 t ?_
    show Steps p.tables e below (T2.setTop (mkF m 7 #[.val (.ref a)] [(.long cnt), (.long (31 : Int64))])) t
    refine XS.lmul X2.here hx rfl (hb hby d6_7) rfl ?_
    show Steps p.tables e below (T2.setTop (mkF m 8 #[.val (.ref a)] [(.long ((31 : Int64) * cnt))])) t
    refine XS.aloadN X2.here hx rfl (hb hby d6_8) rfl rfl ?_
    exact kt
  obtain ⟨T5, X5, e5, st5⟩ := getF X2 hx hZ hown (host := "") (Or.inl (hw _ (List.mem_of_getElem? (i := 24) rfl))) Via.refl e2 Fs (g := (mkF m 9 #[.val (.ref a)] [(.ref a), (.long ((31 : Int64) * cnt))])) rfl rfl (hb hby d6_9)
  have k6 : ∀ t, Steps p.tables e below (T5.setTop (mkF m 12 #[.val (.ref a)] [(.long sm), (.long ((31 : Int64) * cnt))])) t → Steps p.tables e below (s₁.setTop (entryFrame m #[(.ref a)] 1)) t := fun t kt => k4 t (st5 t kt)
  have k7 : ∀ t, Steps p.tables e below (T5.setTop (mkF m 13 #[.val (.ref a)] [(.long (((31 : Int64) * cnt) + sm))])) t → Steps p.tables e below (s₁.setTop (entryFrame m #[(.ref a)] 1)) t := by
    intro t kt
    refine k6 t ?_
    show Steps p.tables e below (T5.setTop (mkF m 12 #[.val (.ref a)] [(.long sm), (.long ((31 : Int64) * cnt))])) t
    refine XS.ladd X5.here hx rfl (hb hby d6_12) rfl ?_
    exact kt
  obtain ⟨_, _, ⟨T8, L8, k8c, n8⟩, -, X8, ⟨Lc8, hQ8, l8, y8, z8⟩, st8⟩ := Jvm.LawKit.callS X5 hx (y := (⟨"java/lang/Long", "hashCode", "(J)I"⟩ : MethodName)) hown (mvT hZ (hw _ (List.mem_of_getElem? (i := 32) rfl))) (mvT hZ (hw _ (List.mem_of_getElem? (i := 33) rfl))) (mvT hZ (hw _ (List.mem_of_getElem? (i := 34) rfl))) (mvT hZ (hw _ (List.mem_of_getElem? (i := 35) rfl))) (by decide) (backOf (W := 0) (rmL l Z a0 hw [] (((31 : Int64) * cnt) + sm) h0 n0 Z0) hZ (hw _ (List.mem_of_getElem? (i := 35) rfl)) (hw _ (List.mem_of_getElem? (i := 34) rfl)) (by decide) (by decide)) (g := (mkF m 13 #[.val (.ref a)] [(.long (((31 : Int64) * cnt) + sm))])) rfl (by rw [hml]; rfl) (argsL := [(.long (((31 : Int64) * cnt) + sm))]) (rest := []) (lenOf own_pd0 rfl) rfl (by show 2 * 0 + _ ≤ _; exact Nat.le_of_eq rfl) (hb hby d6_13) (fun _ _ => ⟨rfl, e5, (by decide : 0 + 0 ≤ _), (by decide : 0 + 0 ≤ _)⟩)
  dsimp only [Pt.U, Pt.locs, Pt.cells, Pt.slots] at X8 l8 y8 z8 st8 hQ8
  subst l8 y8 z8
  obtain ⟨rfl, N8q, e8⟩ := hQ8
  have N8 := Fr.app N0 N8q
  have k9 : ∀ t, Steps p.tables e below (T8.setTop (mkF m 16 #[.val (.ref a)] [(.int (own_hash (((31 : Int64) * cnt) + sm)))])) t → Steps p.tables e below (s₁.setTop (entryFrame m #[(.ref a)] 1)) t := fun t kt => k7 t (st8 t kt)
  obtain ⟨fs, hr, hrun, hended, hW, hsame⟩ := X8.leave (v := some (.int (own_hash (((31 : Int64) * cnt) + sm)))) (fun h => by rw [Bd.returns] at h; cases h)
  refine ⟨_, _, k9 _ ?_, hrun, hended, _, _, rfl, ?_, ⟨_, rfl⟩, hW, hsame.mono (by decide) (by decide)⟩
  · show Steps p.tables e below (T8.setTop (mkF m 16 #[.val (.ref a)] [(.int (own_hash (((31 : Int64) * cnt) + sm)))])) _
    exact retI X8 hx Bd.returns (hb hby d6_16) hr
  · show QH Z a cnt sm h0 n0 _ T8.heap _
    rw [e8]
    exact ⟨rfl, N8, rfl⟩
theorem d9_0 : decode prog_1_method_5_code 0 = .ok (.aload_n 1, 1) := by decide +kernel
theorem d9_1 : decode prog_1_method_5_code 1 = .ok (.instanceof 7, 3) := by decide +kernel
theorem d9_4 : decode prog_1_method_5_code 4 = .ok (.ifCond .eq 37, 3) := by decide +kernel
theorem d9_7 : decode prog_1_method_5_code 7 = .ok (.aload_n 1, 1) := by decide +kernel
theorem d9_8 : decode prog_1_method_5_code 8 = .ok (.checkcast 7, 3) := by decide +kernel
theorem d9_11 : decode prog_1_method_5_code 11 = .ok (.getfield 14, 3) := by decide +kernel
theorem d9_14 : decode prog_1_method_5_code 14 = .ok (.aload_n 0, 1) := by decide +kernel
theorem d9_15 : decode prog_1_method_5_code 15 = .ok (.getfield 14, 3) := by decide +kernel
theorem d9_18 : decode prog_1_method_5_code 18 = .ok (.lcmp, 1) := by decide +kernel
theorem d9_19 : decode prog_1_method_5_code 19 = .ok (.ifCond .ne 22, 3) := by decide +kernel
theorem d9_22 : decode prog_1_method_5_code 22 = .ok (.aload_n 1, 1) := by decide +kernel
theorem d9_23 : decode prog_1_method_5_code 23 = .ok (.checkcast 7, 3) := by decide +kernel
theorem d9_26 : decode prog_1_method_5_code 26 = .ok (.getfield 18, 3) := by decide +kernel
theorem d9_29 : decode prog_1_method_5_code 29 = .ok (.aload_n 0, 1) := by decide +kernel
theorem d9_30 : decode prog_1_method_5_code 30 = .ok (.getfield 18, 3) := by decide +kernel
theorem d9_33 : decode prog_1_method_5_code 33 = .ok (.lcmp, 1) := by decide +kernel
theorem d9_34 : decode prog_1_method_5_code 34 = .ok (.ifCond .ne 7, 3) := by decide +kernel
theorem d9_37 : decode prog_1_method_5_code 37 = .ok (.iconst 1, 1) := by decide +kernel
theorem d9_38 : decode prog_1_method_5_code 38 = .ok (.goto 4, 3) := by decide +kernel
theorem d9_41 : decode prog_1_method_5_code 41 = .ok (.iconst 0, 1) := by decide +kernel
theorem d9_42 : decode prog_1_method_5_code 42 = .ok (.ireturn, 1) := by decide +kernel
theorem rmQ_ef (m : MethodId) (x0 : Addr) (x1 : Addr) : entryFrame m #[(.ref x0), (.ref x1)] 2 = mkF m 0 #[.val (.ref x0), .val (.ref x1)] [] := by first | (simp [entryFrame, mkF, argsToLocals, Value.category]; done) | rfl
def QQ (Z : State) (a : Addr) (b : Addr) (c1 : Int64) (s1 : Int64) (c2 : Int64) (s2 : Int64) (h0 : Heap) (n0 : Nat) (v : Option Value) (h : Heap) (L : List Loc) : Prop := v = some (.int (own_eq c1 s1 c2 s2)) ∧ Fr n0 L ∧ h = h0
set_option maxRecDepth 65536 in
set_option maxHeartbeats 40000000 in
theorem rmQ (l : Launch) (Z : State) (a0 : Array Value) (hw : ∀ d ∈ tables_1, d.before a0 Z = true) (ws : List Jvm.Cond) (a : Addr) (b : Addr) (c1 : Int64) (s1 : Int64) (c2 : Int64) (s2 : Int64) (h0 : Heap) (n0 : Nat) (Z0 : n0 ≤ h0.size) (Fc : Fld Z h0 a "com/example/disk_to_queue/disktoqueue/bench/BodySum" "count" "J" (.long c1)) (Fs : Fld Z h0 a "com/example/disk_to_queue/disktoqueue/bench/BodySum" "sum" "J" (.long s1)) (Fc2 : Fld Z h0 b "com/example/disk_to_queue/disktoqueue/bench/BodySum" "count" "J" (.long c2)) (Fs2 : Fld Z h0 b "com/example/disk_to_queue/disktoqueue/bench/BodySum" "sum" "J" (.long s2)) (Eb : Exa Z h0 b "com/example/disk_to_queue/disktoqueue/bench/BodySum") :
    MetFree l (⟨"com/example/disk_to_queue/disktoqueue/bench/BodySum", "equals", "(Ljava/lang/Object;)Z"⟩ : MethodName) (head1 (Jvm.Cond.code (⟨"com/example/disk_to_queue/disktoqueue/bench/BodySum", "equals", "(Ljava/lang/Object;)Z"⟩ : MethodName) prog_1_method_5_code 2 (some .boolean) :: ws) ({ frames := 0, cells := 0, slots := 0, locals := 0 } : Room)) (fun aA' U => aA' = #[(.ref a), (.ref b)] ∧ Z.Warmed39 U.vm ∧ U.heap = h0) (fun _ _ _ _ _ => True) (fun _ U oO' U' => ∃ vV' L, oO' = .returned vV' ∧ QQ Z a b c1 s1 c2 s2 h0 n0 vV' U'.heap L ∧ FrameEnd U oO' U' L ({ frames := 0, cells := 0, slots := 0, locals := 0 } : Room).cells ({ frames := 0, cells := 0, slots := 0, locals := 0 } : Room).slots) := by
  refine MetFree.of_bodySF (plainFor_of_name own_pn1) hisR ?_
  intro p e s m args below meth c s₁ Bd hml0 hP hK
  obtain ⟨rfl, hZ, hh⟩ := hP
  have hx := Bd.exec
  have hby := Bd.bytes
  have hml : c.maxLocals = 2 := hml0
  have hown : s.vm.findClass "com/example/disk_to_queue/disktoqueue/bench/BodySum" = some m.cls := findClass_of_methodNamed Bd.named
  have hnm := (name_of_methodNamed Bd.named Bd.method).1
  have X0 : Stand p l e ({ frames := 0, cells := 0, slots := 0, locals := 0 } : Room) s m #[(.ref a), (.ref b)] below meth c s₁ [] 0 0 := Stand.of_body Bd
  have e0 : s₁.heap = h0 := by rw [← hh, Bd.state]; rfl
  have N0 := Fr.nil n0
  have K0 : Keep h0 h0 [] := Keep.refl _ _
  have k0 : ∀ t, Steps p.tables e below (s₁.setTop (mkF m 0 #[.val (.ref a), .val (.ref b)] [])) t → Steps p.tables e below (s₁.setTop (entryFrame m #[(.ref a), (.ref b)] 2)) t := fun t k => castTop (rmQ_ef m (a) (b)) k
  have k1 : ∀ t, Steps p.tables e below (s₁.setTop (mkF m 1 #[.val (.ref a), .val (.ref b)] [(.ref b)])) t → Steps p.tables e below (s₁.setTop (entryFrame m #[(.ref a), (.ref b)] 2)) t := by
    intro t kt
    refine k0 t ?_
    show Steps p.tables e below (s₁.setTop (mkF m 0 #[.val (.ref a), .val (.ref b)] [])) t
    refine XS.aloadN X0.here hx rfl (hb hby d9_0) rfl rfl ?_
    exact kt
  obtain ⟨T2, X2, e2, st2⟩ := instY X0 hx hZ hown (hw _ (List.mem_of_getElem? (i := 46) rfl)) e0 (Ins.self Eb) (g := (mkF m 1 #[.val (.ref a), .val (.ref b)] [(.ref b)])) rfl rfl (hb hby d9_1)
  have k3 : ∀ t, Steps p.tables e below (T2.setTop (mkF m 4 #[.val (.ref a), .val (.ref b)] [(.int (1 : Int32))])) t → Steps p.tables e below (s₁.setTop (entryFrame m #[(.ref a), (.ref b)] 2)) t := fun t kt => k1 t (st2 t kt)
  have hc4_4 : ¬ ((1 : Int32) = (0 : Int32)) := by decide
  have k5 : ∀ t, Steps p.tables e below (T2.setTop (mkF m 8 #[.val (.ref a), .val (.ref b)] [(.ref b)])) t → Steps p.tables e below (s₁.setTop (entryFrame m #[(.ref a), (.ref b)] 2)) t := by
    intro t kt
    refine k3 t ?_
    show Steps p.tables e below (T2.setTop (mkF m 4 #[.val (.ref a), .val (.ref b)] [(.int (1 : Int32))])) t
    refine XS.ifNo X2.here hx rfl (hb hby d9_4) rfl ((if0 _ _).trans (feq hc4_4).1) ?_
    show Steps p.tables e below (T2.setTop (mkF m 7 #[.val (.ref a), .val (.ref b)] [])) t
    refine XS.aloadN X2.here hx rfl (hb hby d9_7) rfl rfl ?_
    exact kt
  obtain ⟨T6, X6, e6, st6⟩ := castY X2 hx hZ hown (hw _ (List.mem_of_getElem? (i := 46) rfl)) e2 (Ins.self Eb) (g := (mkF m 8 #[.val (.ref a), .val (.ref b)] [(.ref b)])) rfl rfl (hb hby d9_8)
  have k7 : ∀ t, Steps p.tables e below (T6.setTop (mkF m 11 #[.val (.ref a), .val (.ref b)] [(.ref b)])) t → Steps p.tables e below (s₁.setTop (entryFrame m #[(.ref a), (.ref b)] 2)) t := fun t kt => k5 t (st6 t kt)
  obtain ⟨T8, X8, e8, st8⟩ := getF X6 hx hZ hown (host := "") (Or.inl (hw _ (List.mem_of_getElem? (i := 22) rfl))) Via.refl e6 Fc2 (g := (mkF m 11 #[.val (.ref a), .val (.ref b)] [(.ref b)])) rfl rfl (hb hby d9_11)
  have k9 : ∀ t, Steps p.tables e below (T8.setTop (mkF m 14 #[.val (.ref a), .val (.ref b)] [(.long c2)])) t → Steps p.tables e below (s₁.setTop (entryFrame m #[(.ref a), (.ref b)] 2)) t := fun t kt => k7 t (st8 t kt)
  have k10 : ∀ t, Steps p.tables e below (T8.setTop (mkF m 15 #[.val (.ref a), .val (.ref b)] [(.ref a), (.long c2)])) t → Steps p.tables e below (s₁.setTop (entryFrame m #[(.ref a), (.ref b)] 2)) t := by
    intro t kt
    refine k9 t ?_
    show Steps p.tables e below (T8.setTop (mkF m 14 #[.val (.ref a), .val (.ref b)] [(.long c2)])) t
    refine XS.aloadN X8.here hx rfl (hb hby d9_14) rfl rfl ?_
    exact kt
  obtain ⟨T11, X11, e11, st11⟩ := getF X8 hx hZ hown (host := "") (Or.inl (hw _ (List.mem_of_getElem? (i := 22) rfl))) Via.refl e8 Fc (g := (mkF m 15 #[.val (.ref a), .val (.ref b)] [(.ref a), (.long c2)])) rfl rfl (hb hby d9_15)
  have k12 : ∀ t, Steps p.tables e below (T11.setTop (mkF m 18 #[.val (.ref a), .val (.ref b)] [(.long c1), (.long c2)])) t → Steps p.tables e below (s₁.setTop (entryFrame m #[(.ref a), (.ref b)] 2)) t := fun t kt => k10 t (st11 t kt)
  have k14 : ∀ t, Steps p.tables e below (T11.setTop (mkF m 19 #[.val (.ref a), .val (.ref b)] [(.int (lcmpW c2 c1))])) t → Steps p.tables e below (s₁.setTop (entryFrame m #[(.ref a), (.ref b)] 2)) t := by
    intro t kt
    refine k12 t ?_
    show Steps p.tables e below (T11.setTop (mkF m 18 #[.val (.ref a), .val (.ref b)] [(.long c1), (.long c2)])) t
    refine XS.lcmp X11.here hx rfl (hb hby d9_18) rfl ?_
    exact kt
  by_cases hc19_13 : (lcmpW c2 c1) = (0 : Int32)
  · have k15 : ∀ t, Steps p.tables e below (T11.setTop (mkF m 23 #[.val (.ref a), .val (.ref b)] [(.ref b)])) t → Steps p.tables e below (s₁.setTop (entryFrame m #[(.ref a), (.ref b)] 2)) t := by
      intro t kt
      refine k14 t ?_
      show Steps p.tables e below (T11.setTop (mkF m 19 #[.val (.ref a), .val (.ref b)] [(.int (lcmpW c2 c1))])) t
      refine XS.ifNo X11.here hx rfl (hb hby d9_19) rfl ((if0 _ _).trans (teq hc19_13).2) ?_
      show Steps p.tables e below (T11.setTop (mkF m 22 #[.val (.ref a), .val (.ref b)] [])) t
      refine XS.aloadN X11.here hx rfl (hb hby d9_22) rfl rfl ?_
      exact kt
    obtain ⟨T16, X16, e16, st16⟩ := castY X11 hx hZ hown (hw _ (List.mem_of_getElem? (i := 46) rfl)) e11 (Ins.self Eb) (g := (mkF m 23 #[.val (.ref a), .val (.ref b)] [(.ref b)])) rfl rfl (hb hby d9_23)
    have k17 : ∀ t, Steps p.tables e below (T16.setTop (mkF m 26 #[.val (.ref a), .val (.ref b)] [(.ref b)])) t → Steps p.tables e below (s₁.setTop (entryFrame m #[(.ref a), (.ref b)] 2)) t := fun t kt => k15 t (st16 t kt)
    obtain ⟨T18, X18, e18, st18⟩ := getF X16 hx hZ hown (host := "") (Or.inl (hw _ (List.mem_of_getElem? (i := 24) rfl))) Via.refl e16 Fs2 (g := (mkF m 26 #[.val (.ref a), .val (.ref b)] [(.ref b)])) rfl rfl (hb hby d9_26)
    have k19 : ∀ t, Steps p.tables e below (T18.setTop (mkF m 29 #[.val (.ref a), .val (.ref b)] [(.long s2)])) t → Steps p.tables e below (s₁.setTop (entryFrame m #[(.ref a), (.ref b)] 2)) t := fun t kt => k17 t (st18 t kt)
    have k20 : ∀ t, Steps p.tables e below (T18.setTop (mkF m 30 #[.val (.ref a), .val (.ref b)] [(.ref a), (.long s2)])) t → Steps p.tables e below (s₁.setTop (entryFrame m #[(.ref a), (.ref b)] 2)) t := by
      intro t kt
      refine k19 t ?_
      show Steps p.tables e below (T18.setTop (mkF m 29 #[.val (.ref a), .val (.ref b)] [(.long s2)])) t
      refine XS.aloadN X18.here hx rfl (hb hby d9_29) rfl rfl ?_
      exact kt
    obtain ⟨T21, X21, e21, st21⟩ := getF X18 hx hZ hown (host := "") (Or.inl (hw _ (List.mem_of_getElem? (i := 24) rfl))) Via.refl e18 Fs (g := (mkF m 30 #[.val (.ref a), .val (.ref b)] [(.ref a), (.long s2)])) rfl rfl (hb hby d9_30)
    have k22 : ∀ t, Steps p.tables e below (T21.setTop (mkF m 33 #[.val (.ref a), .val (.ref b)] [(.long s1), (.long s2)])) t → Steps p.tables e below (s₁.setTop (entryFrame m #[(.ref a), (.ref b)] 2)) t := fun t kt => k20 t (st21 t kt)
    have k24 : ∀ t, Steps p.tables e below (T21.setTop (mkF m 34 #[.val (.ref a), .val (.ref b)] [(.int (lcmpW s2 s1))])) t → Steps p.tables e below (s₁.setTop (entryFrame m #[(.ref a), (.ref b)] 2)) t := by
      intro t kt
      refine k22 t ?_
      show Steps p.tables e below (T21.setTop (mkF m 33 #[.val (.ref a), .val (.ref b)] [(.long s1), (.long s2)])) t
      refine XS.lcmp X21.here hx rfl (hb hby d9_33) rfl ?_
      exact kt
    by_cases hc34_23 : (lcmpW s2 s1) = (0 : Int32)
    · have k25 : ∀ t, Steps p.tables e below (T21.setTop (mkF m 42 #[.val (.ref a), .val (.ref b)] [(.int (1 : Int32))])) t → Steps p.tables e below (s₁.setTop (entryFrame m #[(.ref a), (.ref b)] 2)) t := by
        intro t kt
        refine k24 t ?_
        show Steps p.tables e below (T21.setTop (mkF m 34 #[.val (.ref a), .val (.ref b)] [(.int (lcmpW s2 s1))])) t
        refine XS.ifNo X21.here hx rfl (hb hby d9_34) rfl ((if0 _ _).trans (teq hc34_23).2) ?_
        show Steps p.tables e below (T21.setTop (mkF m 37 #[.val (.ref a), .val (.ref b)] [])) t
        refine XS.iconst X21.here hx rfl (hb hby d9_37) ?_
        show Steps p.tables e below (T21.setTop (mkF m 38 #[.val (.ref a), .val (.ref b)] [(.int (1 : Int32))])) t
        refine XS.goto X21.here hx rfl (pc0 := 38) (pc' := 42) rfl (hb hby d9_38) (by decide) (by decide) ?_
        exact kt
      obtain ⟨fs, hr, hrun, hended, hW, hsame⟩ := X21.leave (v := some (.int (1 : Int32))) (fun h => by rw [Bd.returns] at h; cases h)
      refine ⟨_, _, k25 _ ?_, hrun, hended, _, _, rfl, ?_, ⟨_, rfl⟩, hW, hsame.mono (by decide) (by decide)⟩
      · show Steps p.tables e below (T21.setTop (mkF m 42 #[.val (.ref a), .val (.ref b)] [(.int (1 : Int32))])) _
        exact retN X21 hx (t := .boolean) Bd.returns (by simp) (hb hby d9_42) hr
      · show QQ Z a b c1 s1 c2 s2 h0 n0 _ T21.heap _
        rw [e21]
        refine ⟨congrArg (fun z => some (Value.int z)) ?_, N0, rfl⟩
        rw [lw_eq] at hc19_13
        rw [lw_eq] at hc34_23
        simp [own_eq, hc19_13, hc34_23]
    · have k26 : ∀ t, Steps p.tables e below (T21.setTop (mkF m 42 #[.val (.ref a), .val (.ref b)] [(.int (0 : Int32))])) t → Steps p.tables e below (s₁.setTop (entryFrame m #[(.ref a), (.ref b)] 2)) t := by
        intro t kt
        refine k24 t ?_
        show Steps p.tables e below (T21.setTop (mkF m 34 #[.val (.ref a), .val (.ref b)] [(.int (lcmpW s2 s1))])) t
        refine XS.ifYes X21.here hx rfl (pc0 := 34) (pc' := 41) rfl (hb hby d9_34) rfl ((if0 _ _).trans (feq hc34_23).2) (by decide) (by decide) ?_
        show Steps p.tables e below (T21.setTop (mkF m 41 #[.val (.ref a), .val (.ref b)] [])) t
        refine XS.iconst X21.here hx rfl (hb hby d9_41) ?_
        exact kt
      obtain ⟨fs, hr, hrun, hended, hW, hsame⟩ := X21.leave (v := some (.int (0 : Int32))) (fun h => by rw [Bd.returns] at h; cases h)
      refine ⟨_, _, k26 _ ?_, hrun, hended, _, _, rfl, ?_, ⟨_, rfl⟩, hW, hsame.mono (by decide) (by decide)⟩
      · show Steps p.tables e below (T21.setTop (mkF m 42 #[.val (.ref a), .val (.ref b)] [(.int (0 : Int32))])) _
        exact retN X21 hx (t := .boolean) Bd.returns (by simp) (hb hby d9_42) hr
      · show QQ Z a b c1 s1 c2 s2 h0 n0 _ T21.heap _
        rw [e21]
        refine ⟨congrArg (fun z => some (Value.int z)) ?_, N0, rfl⟩
        rw [lw_eq] at hc19_13
        rw [lw_eq] at hc34_23
        simp [own_eq, hc19_13, hc34_23]
  · have k27 : ∀ t, Steps p.tables e below (T11.setTop (mkF m 42 #[.val (.ref a), .val (.ref b)] [(.int (0 : Int32))])) t → Steps p.tables e below (s₁.setTop (entryFrame m #[(.ref a), (.ref b)] 2)) t := by
      intro t kt
      refine k14 t ?_
      show Steps p.tables e below (T11.setTop (mkF m 19 #[.val (.ref a), .val (.ref b)] [(.int (lcmpW c2 c1))])) t
      refine XS.ifYes X11.here hx rfl (pc0 := 19) (pc' := 41) rfl (hb hby d9_19) rfl ((if0 _ _).trans (feq hc19_13).2) (by decide) (by decide) ?_
      show Steps p.tables e below (T11.setTop (mkF m 41 #[.val (.ref a), .val (.ref b)] [])) t
      refine XS.iconst X11.here hx rfl (hb hby d9_41) ?_
      exact kt
    obtain ⟨fs, hr, hrun, hended, hW, hsame⟩ := X11.leave (v := some (.int (0 : Int32))) (fun h => by rw [Bd.returns] at h; cases h)
    refine ⟨_, _, k27 _ ?_, hrun, hended, _, _, rfl, ?_, ⟨_, rfl⟩, hW, hsame.mono (by decide) (by decide)⟩
    · show Steps p.tables e below (T11.setTop (mkF m 42 #[.val (.ref a), .val (.ref b)] [(.int (0 : Int32))])) _
      exact retN X11 hx (t := .boolean) Bd.returns (by simp) (hb hby d9_42) hr
    · show QQ Z a b c1 s1 c2 s2 h0 n0 _ T11.heap _
      rw [e11]
      refine ⟨congrArg (fun z => some (Value.int z)) ?_, N0, rfl⟩
      rw [lw_eq] at hc19_13
      simp [own_eq, hc19_13]
theorem rm0_ef (m : MethodId) (x0 : Int32) (x1 : Int32) (x2 : Int32) (x3 : Int32) (x4 : Int32) : entryFrame m #[(.int x0), (.int x1), (.int x2), (.int x3), (.int x4)] maxLocals = mkF m 0 #[.val (.int x0), .val (.int x1), .val (.int x2), .val (.int x3), .val (.int x4), .unset, .unset, .unset, .unset, .unset, .unset, .unset, .unset, .unset, .unset, .unset, .unset, .unset, .unset] [] := by first | (simp [entryFrame, mkF, argsToLocals, Value.category, maxLocals]; done) | rfl
def Q0 (Z : State) (p1 : Int32) (p2 : Int32) (p3 : Int32) (p4 : Int32) (p5 : Int32) (h0 : Heap) (n0 : Nat) (v : Option Value) (h : Heap) (L : List Loc) : Prop := v = some (.int 1) ∧ Fr n0 L
theorem own_pd1 : parseMethodDescriptor "(III)[B" = some ⟨[.int, .int, .int], some (.array .byte)⟩ := by decide +kernel
theorem own_pd2 : parseMethodDescriptor "(II)J" = some ⟨[.int, .int], some .long⟩ := by decide +kernel
theorem own_pd3 : parseMethodDescriptor "()V" = some ⟨[], none⟩ := by decide +kernel
theorem own_pd4 : parseMethodDescriptor "([B)V" = some ⟨[(.array .byte)], none⟩ := by decide +kernel
theorem own_pd5 : parseMethodDescriptor "()I" = some ⟨[], some .int⟩ := by decide +kernel
theorem own_pd6 : parseMethodDescriptor "(Ljava/lang/Object;)Z" = some ⟨[(.object "java/lang/Object")], some .boolean⟩ := by decide +kernel
set_option maxRecDepth 65536 in
set_option maxHeartbeats 40000000 in
theorem rm0 (l : Launch) (Z : State) (a0 : Array Value) (hw : ∀ d ∈ tables_1, d.before a0 Z = true) (ws : List Jvm.Cond) (p1 : Int32) (p2 : Int32) (p3 : Int32) (p4 : Int32) (p5 : Int32) (h0 : Heap) (n0 : Nat) (Z0 : n0 ≤ h0.size) :
    MetFree l x (head1 (Jvm.Cond.code x code maxLocals ret :: ws) room_1) (fun aA' U => aA' = #[(.int p1), (.int p2), (.int p3), (.int p4), (.int p5)] ∧ Z.Warmed39 U.vm ∧ U.heap = h0) (fun _ _ _ _ _ => True) (fun _ U oO' U' => ∃ vV' L, oO' = .returned vV' ∧ Q0 Z p1 p2 p3 p4 p5 h0 n0 vV' U'.heap L ∧ FrameEnd U oO' U' L 24 128) := by
  refine MetFree.of_bodySF (plainFor_of_name own_pn0) hisR ?_
  intro p e s m args below meth c s₁ Bd hml0 hP hK
  obtain ⟨rfl, hZ, hh⟩ := hP
  have hx := Bd.exec
  have hby := Bd.bytes
  have hml : c.maxLocals = 19 := hml0
  have hown : s.vm.findClass "com/example/disk_to_queue/disktoqueue/bench/BodySumAddPinLaw" = some m.cls := findClass_of_methodNamed Bd.named
  have hnm := (name_of_methodNamed Bd.named Bd.method).1
  have X0 : Stand p l e room_1 s m #[(.int p1), (.int p2), (.int p3), (.int p4), (.int p5)] below meth c s₁ [] 0 0 := Stand.of_body Bd
  have e0 : s₁.heap = h0 := by rw [← hh, Bd.state]; rfl
  have N0 := Fr.nil n0
  have K0 : Keep h0 h0 [] := Keep.refl _ _
  have k0 : ∀ t, Steps p.tables e below (s₁.setTop (mkF m 0 #[.val (.int p1), .val (.int p2), .val (.int p3), .val (.int p4), .val (.int p5), .unset, .unset, .unset, .unset, .unset, .unset, .unset, .unset, .unset, .unset, .unset, .unset, .unset, .unset] [])) t → Steps p.tables e below (s₁.setTop (entryFrame m #[(.int p1), (.int p2), (.int p3), (.int p4), (.int p5)] maxLocals)) t := fun t k => castTop (rm0_ef m (p1) (p2) (p3) (p4) (p5)) k
  have k1 : ∀ t, Steps p.tables e below (s₁.setTop (mkF m 18 #[.val (.int p1), .val (.int p2), .val (.int p3), .val (.int p4), .val (.int p5), .val (.int (p5 &&& (3 : Int32))), .val (.int (((p5.toUInt32 >>> ((2 : Int32) &&& 31).toUInt32).toInt32) &&& (3 : Int32))), .unset, .unset, .unset, .unset, .unset, .unset, .unset, .unset, .unset, .unset, .unset, .unset] [(.int p2), (.int p1), (.int (p5 &&& (3 : Int32)))])) t → Steps p.tables e below (s₁.setTop (entryFrame m #[(.int p1), (.int p2), (.int p3), (.int p4), (.int p5)] maxLocals)) t := by
    intro t kt
    refine k0 t ?_
    show Steps p.tables e below (s₁.setTop (mkF m 0 #[.val (.int p1), .val (.int p2), .val (.int p3), .val (.int p4), .val (.int p5), .unset, .unset, .unset, .unset, .unset, .unset, .unset, .unset, .unset, .unset, .unset, .unset, .unset, .unset] [])) t
    refine XS.iload X0.here hx rfl (hb hby at_0) rfl ?_
    show Steps p.tables e below (s₁.setTop (mkF m 2 #[.val (.int p1), .val (.int p2), .val (.int p3), .val (.int p4), .val (.int p5), .unset, .unset, .unset, .unset, .unset, .unset, .unset, .unset, .unset, .unset, .unset, .unset, .unset, .unset] [(.int p5)])) t
    refine XS.iconst X0.here hx rfl (hb hby at_2) ?_
    show Steps p.tables e below (s₁.setTop (mkF m 3 #[.val (.int p1), .val (.int p2), .val (.int p3), .val (.int p4), .val (.int p5), .unset, .unset, .unset, .unset, .unset, .unset, .unset, .unset, .unset, .unset, .unset, .unset, .unset, .unset] [(.int (3 : Int32)), (.int p5)])) t
    refine XS.iand X0.here hx rfl (hb hby at_3) rfl ?_
    show Steps p.tables e below (s₁.setTop (mkF m 4 #[.val (.int p1), .val (.int p2), .val (.int p3), .val (.int p4), .val (.int p5), .unset, .unset, .unset, .unset, .unset, .unset, .unset, .unset, .unset, .unset, .unset, .unset, .unset, .unset] [(.int (p5 &&& (3 : Int32)))])) t
    refine XS.istore X0.here hx rfl (hb hby at_4) rfl (l' := #[.val (.int p1), .val (.int p2), .val (.int p3), .val (.int p4), .val (.int p5), .val (.int (p5 &&& (3 : Int32))), .unset, .unset, .unset, .unset, .unset, .unset, .unset, .unset, .unset, .unset, .unset, .unset, .unset]) rfl ?_
    show Steps p.tables e below (s₁.setTop (mkF m 6 #[.val (.int p1), .val (.int p2), .val (.int p3), .val (.int p4), .val (.int p5), .val (.int (p5 &&& (3 : Int32))), .unset, .unset, .unset, .unset, .unset, .unset, .unset, .unset, .unset, .unset, .unset, .unset, .unset] [])) t
    refine XS.iload X0.here hx rfl (hb hby at_6) rfl ?_
    show Steps p.tables e below (s₁.setTop (mkF m 8 #[.val (.int p1), .val (.int p2), .val (.int p3), .val (.int p4), .val (.int p5), .val (.int (p5 &&& (3 : Int32))), .unset, .unset, .unset, .unset, .unset, .unset, .unset, .unset, .unset, .unset, .unset, .unset, .unset] [(.int p5)])) t
    refine XS.iconst X0.here hx rfl (hb hby at_8) ?_
    show Steps p.tables e below (s₁.setTop (mkF m 9 #[.val (.int p1), .val (.int p2), .val (.int p3), .val (.int p4), .val (.int p5), .val (.int (p5 &&& (3 : Int32))), .unset, .unset, .unset, .unset, .unset, .unset, .unset, .unset, .unset, .unset, .unset, .unset, .unset] [(.int (2 : Int32)), (.int p5)])) t
    refine XS.iushr X0.here hx rfl (hb hby at_9) rfl ?_
    show Steps p.tables e below (s₁.setTop (mkF m 10 #[.val (.int p1), .val (.int p2), .val (.int p3), .val (.int p4), .val (.int p5), .val (.int (p5 &&& (3 : Int32))), .unset, .unset, .unset, .unset, .unset, .unset, .unset, .unset, .unset, .unset, .unset, .unset, .unset] [(.int ((p5.toUInt32 >>> ((2 : Int32) &&& 31).toUInt32).toInt32))])) t
    refine XS.iconst X0.here hx rfl (hb hby at_10) ?_
    show Steps p.tables e below (s₁.setTop (mkF m 11 #[.val (.int p1), .val (.int p2), .val (.int p3), .val (.int p4), .val (.int p5), .val (.int (p5 &&& (3 : Int32))), .unset, .unset, .unset, .unset, .unset, .unset, .unset, .unset, .unset, .unset, .unset, .unset, .unset] [(.int (3 : Int32)), (.int ((p5.toUInt32 >>> ((2 : Int32) &&& 31).toUInt32).toInt32))])) t
    refine XS.iand X0.here hx rfl (hb hby at_11) rfl ?_
    show Steps p.tables e below (s₁.setTop (mkF m 12 #[.val (.int p1), .val (.int p2), .val (.int p3), .val (.int p4), .val (.int p5), .val (.int (p5 &&& (3 : Int32))), .unset, .unset, .unset, .unset, .unset, .unset, .unset, .unset, .unset, .unset, .unset, .unset, .unset] [(.int (((p5.toUInt32 >>> ((2 : Int32) &&& 31).toUInt32).toInt32) &&& (3 : Int32)))])) t
    refine XS.istore X0.here hx rfl (hb hby at_12) rfl (l' := #[.val (.int p1), .val (.int p2), .val (.int p3), .val (.int p4), .val (.int p5), .val (.int (p5 &&& (3 : Int32))), .val (.int (((p5.toUInt32 >>> ((2 : Int32) &&& 31).toUInt32).toInt32) &&& (3 : Int32))), .unset, .unset, .unset, .unset, .unset, .unset, .unset, .unset, .unset, .unset, .unset, .unset]) rfl ?_
    show Steps p.tables e below (s₁.setTop (mkF m 14 #[.val (.int p1), .val (.int p2), .val (.int p3), .val (.int p4), .val (.int p5), .val (.int (p5 &&& (3 : Int32))), .val (.int (((p5.toUInt32 >>> ((2 : Int32) &&& 31).toUInt32).toInt32) &&& (3 : Int32))), .unset, .unset, .unset, .unset, .unset, .unset, .unset, .unset, .unset, .unset, .unset, .unset] [])) t
    refine XS.iload X0.here hx rfl (hb hby at_14) rfl ?_
    show Steps p.tables e below (s₁.setTop (mkF m 16 #[.val (.int p1), .val (.int p2), .val (.int p3), .val (.int p4), .val (.int p5), .val (.int (p5 &&& (3 : Int32))), .val (.int (((p5.toUInt32 >>> ((2 : Int32) &&& 31).toUInt32).toInt32) &&& (3 : Int32))), .unset, .unset, .unset, .unset, .unset, .unset, .unset, .unset, .unset, .unset, .unset, .unset] [(.int (p5 &&& (3 : Int32)))])) t
    refine XS.iloadN X0.here hx rfl (hb hby at_16) rfl ?_
    show Steps p.tables e below (s₁.setTop (mkF m 17 #[.val (.int p1), .val (.int p2), .val (.int p3), .val (.int p4), .val (.int p5), .val (.int (p5 &&& (3 : Int32))), .val (.int (((p5.toUInt32 >>> ((2 : Int32) &&& 31).toUInt32).toInt32) &&& (3 : Int32))), .unset, .unset, .unset, .unset, .unset, .unset, .unset, .unset, .unset, .unset, .unset, .unset] [(.int p1), (.int (p5 &&& (3 : Int32)))])) t
    refine XS.iloadN X0.here hx rfl (hb hby at_17) rfl ?_
    exact kt
  obtain ⟨_, _, ⟨T2, L2, k2c, n2⟩, -, X2, ⟨Lc2, hQ2, l2, y2, z2⟩, st2⟩ := Jvm.LawKit.callS X0 hx (y := (⟨"com/example/disk_to_queue/disktoqueue/bench/BodySumAddPinLaw", "body", "(III)[B"⟩ : MethodName)) hown (mvT hZ (hw _ (List.mem_of_getElem? (i := 0) rfl))) (mvT hZ (hw _ (List.mem_of_getElem? (i := 1) rfl))) (mvT hZ (hw _ (List.mem_of_getElem? (i := 2) rfl))) (mvT hZ (hw _ (List.mem_of_getElem? (i := 3) rfl))) (by decide) (backOf (W := 0) (rmB l Z a0 hw [] (p5 &&& (3 : Int32)) p1 p2 h0 n0 Z0 (own_m3 _).1 (own_m3 _).2.1) hZ (hw _ (List.mem_of_getElem? (i := 3) rfl)) (hw _ (List.mem_of_getElem? (i := 2) rfl)) (by decide) (by decide)) (g := (mkF m 18 #[.val (.int p1), .val (.int p2), .val (.int p3), .val (.int p4), .val (.int p5), .val (.int (p5 &&& (3 : Int32))), .val (.int (((p5.toUInt32 >>> ((2 : Int32) &&& 31).toUInt32).toInt32) &&& (3 : Int32))), .unset, .unset, .unset, .unset, .unset, .unset, .unset, .unset, .unset, .unset, .unset, .unset] [(.int p2), (.int p1), (.int (p5 &&& (3 : Int32)))])) rfl (by rw [hml]; rfl) (argsL := [(.int (p5 &&& (3 : Int32))), (.int p1), (.int p2)]) (rest := []) (lenOf own_pd1 rfl) rfl (by show 2 * 0 + _ ≤ _; exact Nat.le_of_eq rfl) (hb hby at_18) (fun _ _ => ⟨rfl, e0, (by decide : 0 + 1 ≤ _), (by decide : 0 + 3 ≤ _)⟩)
  dsimp only [Pt.U, Pt.locs, Pt.cells, Pt.slots] at X2 l2 y2 z2 st2 hQ2
  subst l2 y2 z2
  obtain ⟨b2, c2, vs2, rfl, N2q, K2k, s2z, A2, hv2⟩ := hQ2
  have N2 := Fr.app N0 N2q
  have g_b2 : n0 ≤ b2 := Nat.le_trans Z0 s2z
  have sz_b2 : h0.size ≤ b2 := Nat.le_trans K0.1 s2z
  have Z3 : n0 ≤ T2.heap.size := Nat.le_trans Z0 K2k.1
  have K3 : Keep h0 T2.heap [] := K0.trans K2k all0
  have k4 : ∀ t, Steps p.tables e below (T2.setTop (mkF m 21 #[.val (.int p1), .val (.int p2), .val (.int p3), .val (.int p4), .val (.int p5), .val (.int (p5 &&& (3 : Int32))), .val (.int (((p5.toUInt32 >>> ((2 : Int32) &&& 31).toUInt32).toInt32) &&& (3 : Int32))), .unset, .unset, .unset, .unset, .unset, .unset, .unset, .unset, .unset, .unset, .unset, .unset] [(.ref b2)])) t → Steps p.tables e below (s₁.setTop (entryFrame m #[(.int p1), (.int p2), (.int p3), (.int p4), (.int p5)] maxLocals)) t := fun t kt => k1 t (st2 t kt)
  have k5 : ∀ t, Steps p.tables e below (T2.setTop (mkF m 27 #[.val (.int p1), .val (.int p2), .val (.int p3), .val (.int p4), .val (.int p5), .val (.int (p5 &&& (3 : Int32))), .val (.int (((p5.toUInt32 >>> ((2 : Int32) &&& 31).toUInt32).toInt32) &&& (3 : Int32))), .val (.ref b2), .unset, .unset, .unset, .unset, .unset, .unset, .unset, .unset, .unset, .unset, .unset] [(.int p4), (.int p3), (.int (((p5.toUInt32 >>> ((2 : Int32) &&& 31).toUInt32).toInt32) &&& (3 : Int32)))])) t → Steps p.tables e below (s₁.setTop (entryFrame m #[(.int p1), (.int p2), (.int p3), (.int p4), (.int p5)] maxLocals)) t := by
    intro t kt
    refine k4 t ?_
    show Steps p.tables e below (T2.setTop (mkF m 21 #[.val (.int p1), .val (.int p2), .val (.int p3), .val (.int p4), .val (.int p5), .val (.int (p5 &&& (3 : Int32))), .val (.int (((p5.toUInt32 >>> ((2 : Int32) &&& 31).toUInt32).toInt32) &&& (3 : Int32))), .unset, .unset, .unset, .unset, .unset, .unset, .unset, .unset, .unset, .unset, .unset, .unset] [(.ref b2)])) t
    refine XS.astore X2.here hx rfl (hb hby at_21) rfl rfl (l' := #[.val (.int p1), .val (.int p2), .val (.int p3), .val (.int p4), .val (.int p5), .val (.int (p5 &&& (3 : Int32))), .val (.int (((p5.toUInt32 >>> ((2 : Int32) &&& 31).toUInt32).toInt32) &&& (3 : Int32))), .val (.ref b2), .unset, .unset, .unset, .unset, .unset, .unset, .unset, .unset, .unset, .unset, .unset]) rfl ?_
    show Steps p.tables e below (T2.setTop (mkF m 23 #[.val (.int p1), .val (.int p2), .val (.int p3), .val (.int p4), .val (.int p5), .val (.int (p5 &&& (3 : Int32))), .val (.int (((p5.toUInt32 >>> ((2 : Int32) &&& 31).toUInt32).toInt32) &&& (3 : Int32))), .val (.ref b2), .unset, .unset, .unset, .unset, .unset, .unset, .unset, .unset, .unset, .unset, .unset] [])) t
    refine XS.iload X2.here hx rfl (hb hby at_23) rfl ?_
    show Steps p.tables e below (T2.setTop (mkF m 25 #[.val (.int p1), .val (.int p2), .val (.int p3), .val (.int p4), .val (.int p5), .val (.int (p5 &&& (3 : Int32))), .val (.int (((p5.toUInt32 >>> ((2 : Int32) &&& 31).toUInt32).toInt32) &&& (3 : Int32))), .val (.ref b2), .unset, .unset, .unset, .unset, .unset, .unset, .unset, .unset, .unset, .unset, .unset] [(.int (((p5.toUInt32 >>> ((2 : Int32) &&& 31).toUInt32).toInt32) &&& (3 : Int32)))])) t
    refine XS.iloadN X2.here hx rfl (hb hby at_25) rfl ?_
    show Steps p.tables e below (T2.setTop (mkF m 26 #[.val (.int p1), .val (.int p2), .val (.int p3), .val (.int p4), .val (.int p5), .val (.int (p5 &&& (3 : Int32))), .val (.int (((p5.toUInt32 >>> ((2 : Int32) &&& 31).toUInt32).toInt32) &&& (3 : Int32))), .val (.ref b2), .unset, .unset, .unset, .unset, .unset, .unset, .unset, .unset, .unset, .unset, .unset] [(.int p3), (.int (((p5.toUInt32 >>> ((2 : Int32) &&& 31).toUInt32).toInt32) &&& (3 : Int32)))])) t
    refine XS.iloadN X2.here hx rfl (hb hby at_26) rfl ?_
    exact kt
  obtain ⟨_, _, ⟨T6, L6, k6c, n6⟩, -, X6, ⟨Lc6, hQ6, l6, y6, z6⟩, st6⟩ := Jvm.LawKit.callS X2 hx (y := (⟨"com/example/disk_to_queue/disktoqueue/bench/BodySumAddPinLaw", "body", "(III)[B"⟩ : MethodName)) hown (mvT hZ (hw _ (List.mem_of_getElem? (i := 0) rfl))) (mvT hZ (hw _ (List.mem_of_getElem? (i := 1) rfl))) (mvT hZ (hw _ (List.mem_of_getElem? (i := 2) rfl))) (mvT hZ (hw _ (List.mem_of_getElem? (i := 3) rfl))) (by decide) (backOf (W := 0) (rmB l Z a0 hw [] (((p5.toUInt32 >>> ((2 : Int32) &&& 31).toUInt32).toInt32) &&& (3 : Int32)) p3 p4 T2.heap n0 Z3 (own_m3 _).1 (own_m3 _).2.1) hZ (hw _ (List.mem_of_getElem? (i := 3) rfl)) (hw _ (List.mem_of_getElem? (i := 2) rfl)) (by decide) (by decide)) (g := (mkF m 27 #[.val (.int p1), .val (.int p2), .val (.int p3), .val (.int p4), .val (.int p5), .val (.int (p5 &&& (3 : Int32))), .val (.int (((p5.toUInt32 >>> ((2 : Int32) &&& 31).toUInt32).toInt32) &&& (3 : Int32))), .val (.ref b2), .unset, .unset, .unset, .unset, .unset, .unset, .unset, .unset, .unset, .unset, .unset] [(.int p4), (.int p3), (.int (((p5.toUInt32 >>> ((2 : Int32) &&& 31).toUInt32).toInt32) &&& (3 : Int32)))])) rfl (by rw [hml]; rfl) (argsL := [(.int (((p5.toUInt32 >>> ((2 : Int32) &&& 31).toUInt32).toInt32) &&& (3 : Int32))), (.int p3), (.int p4)]) (rest := []) (lenOf own_pd1 rfl) rfl (by show 2 * 0 + _ ≤ _; exact Nat.le_of_eq rfl) (hb hby at_27) (fun _ _ => ⟨rfl, rfl, (by decide : 1 + 1 ≤ _), (by decide : 3 + 3 ≤ _)⟩)
  dsimp only [Pt.U, Pt.locs, Pt.cells, Pt.slots] at X6 l6 y6 z6 st6 hQ6
  subst l6 y6 z6
  obtain ⟨b6, c6, vs6, rfl, N6q, K6k, s6z, A6, hv6⟩ := hQ6
  have N6 := Fr.app N2 N6q
  have g_b6 : n0 ≤ b6 := Nat.le_trans Z3 s6z
  have sz_b6 : h0.size ≤ b6 := Nat.le_trans K3.1 s6z
  have ne7 : b2 ≠ b6 := Nat.ne_of_lt (Nat.lt_of_lt_of_le A2.lt s6z)
  have F8 := A2.keep K6k nin0
  have Z9 : n0 ≤ T6.heap.size := Nat.le_trans Z3 K6k.1
  have K9 : Keep h0 T6.heap [] := K3.trans K6k all0
  have k10 : ∀ t, Steps p.tables e below (T6.setTop (mkF m 30 #[.val (.int p1), .val (.int p2), .val (.int p3), .val (.int p4), .val (.int p5), .val (.int (p5 &&& (3 : Int32))), .val (.int (((p5.toUInt32 >>> ((2 : Int32) &&& 31).toUInt32).toInt32) &&& (3 : Int32))), .val (.ref b2), .unset, .unset, .unset, .unset, .unset, .unset, .unset, .unset, .unset, .unset, .unset] [(.ref b6)])) t → Steps p.tables e below (s₁.setTop (entryFrame m #[(.int p1), (.int p2), (.int p3), (.int p4), (.int p5)] maxLocals)) t := fun t kt => k5 t (st6 t kt)
  have k11 : ∀ t, Steps p.tables e below (T6.setTop (mkF m 35 #[.val (.int p1), .val (.int p2), .val (.int p3), .val (.int p4), .val (.int p5), .val (.int (p5 &&& (3 : Int32))), .val (.int (((p5.toUInt32 >>> ((2 : Int32) &&& 31).toUInt32).toInt32) &&& (3 : Int32))), .val (.ref b2), .val (.ref b6), .unset, .unset, .unset, .unset, .unset, .unset, .unset, .unset, .unset, .unset] [(.int p1), (.int (p5 &&& (3 : Int32)))])) t → Steps p.tables e below (s₁.setTop (entryFrame m #[(.int p1), (.int p2), (.int p3), (.int p4), (.int p5)] maxLocals)) t := by
    intro t kt
    refine k10 t ?_
    show Steps p.tables e below (T6.setTop (mkF m 30 #[.val (.int p1), .val (.int p2), .val (.int p3), .val (.int p4), .val (.int p5), .val (.int (p5 &&& (3 : Int32))), .val (.int (((p5.toUInt32 >>> ((2 : Int32) &&& 31).toUInt32).toInt32) &&& (3 : Int32))), .val (.ref b2), .unset, .unset, .unset, .unset, .unset, .unset, .unset, .unset, .unset, .unset, .unset] [(.ref b6)])) t
    refine XS.astore X6.here hx rfl (hb hby at_30) rfl rfl (l' := #[.val (.int p1), .val (.int p2), .val (.int p3), .val (.int p4), .val (.int p5), .val (.int (p5 &&& (3 : Int32))), .val (.int (((p5.toUInt32 >>> ((2 : Int32) &&& 31).toUInt32).toInt32) &&& (3 : Int32))), .val (.ref b2), .val (.ref b6), .unset, .unset, .unset, .unset, .unset, .unset, .unset, .unset, .unset, .unset]) rfl ?_
    show Steps p.tables e below (T6.setTop (mkF m 32 #[.val (.int p1), .val (.int p2), .val (.int p3), .val (.int p4), .val (.int p5), .val (.int (p5 &&& (3 : Int32))), .val (.int (((p5.toUInt32 >>> ((2 : Int32) &&& 31).toUInt32).toInt32) &&& (3 : Int32))), .val (.ref b2), .val (.ref b6), .unset, .unset, .unset, .unset, .unset, .unset, .unset, .unset, .unset, .unset] [])) t
    refine XS.iload X6.here hx rfl (hb hby at_32) rfl ?_
    show Steps p.tables e below (T6.setTop (mkF m 34 #[.val (.int p1), .val (.int p2), .val (.int p3), .val (.int p4), .val (.int p5), .val (.int (p5 &&& (3 : Int32))), .val (.int (((p5.toUInt32 >>> ((2 : Int32) &&& 31).toUInt32).toInt32) &&& (3 : Int32))), .val (.ref b2), .val (.ref b6), .unset, .unset, .unset, .unset, .unset, .unset, .unset, .unset, .unset, .unset] [(.int (p5 &&& (3 : Int32)))])) t
    refine XS.iloadN X6.here hx rfl (hb hby at_34) rfl ?_
    exact kt
  obtain ⟨_, _, ⟨T12, L12, k12c, n12⟩, -, X12, ⟨Lc12, hQ12, l12, y12, z12⟩, st12⟩ := Jvm.LawKit.callS X6 hx (y := (⟨"com/example/disk_to_queue/disktoqueue/bench/BodySumAddPinLaw", "contrib", "(II)J"⟩ : MethodName)) hown (mvT hZ (hw _ (List.mem_of_getElem? (i := 5) rfl))) (mvT hZ (hw _ (List.mem_of_getElem? (i := 6) rfl))) (mvT hZ (hw _ (List.mem_of_getElem? (i := 2) rfl))) (mvT hZ (hw _ (List.mem_of_getElem? (i := 7) rfl))) (by decide) (backOf (W := 0) (rmN l Z a0 hw [] (p5 &&& (3 : Int32)) p1 T6.heap n0 Z9) hZ (hw _ (List.mem_of_getElem? (i := 7) rfl)) (hw _ (List.mem_of_getElem? (i := 2) rfl)) (by decide) (by decide)) (g := (mkF m 35 #[.val (.int p1), .val (.int p2), .val (.int p3), .val (.int p4), .val (.int p5), .val (.int (p5 &&& (3 : Int32))), .val (.int (((p5.toUInt32 >>> ((2 : Int32) &&& 31).toUInt32).toInt32) &&& (3 : Int32))), .val (.ref b2), .val (.ref b6), .unset, .unset, .unset, .unset, .unset, .unset, .unset, .unset, .unset, .unset] [(.int p1), (.int (p5 &&& (3 : Int32)))])) rfl (by rw [hml]; rfl) (argsL := [(.int (p5 &&& (3 : Int32))), (.int p1)]) (rest := []) (lenOf own_pd2 rfl) rfl (by show 2 * 0 + _ ≤ _; exact Nat.le_of_eq rfl) (hb hby at_35) (fun _ _ => ⟨rfl, rfl, (by decide : 2 + 0 ≤ _), (by decide : 6 + 0 ≤ _)⟩)
  dsimp only [Pt.U, Pt.locs, Pt.cells, Pt.slots] at X12 l12 y12 z12 st12 hQ12
  subst l12 y12 z12
  obtain ⟨rfl, N12q, e12⟩ := hQ12
  have N12 := Fr.app N6 N12q
  have k13 : ∀ t, Steps p.tables e below (T12.setTop (mkF m 38 #[.val (.int p1), .val (.int p2), .val (.int p3), .val (.int p4), .val (.int p5), .val (.int (p5 &&& (3 : Int32))), .val (.int (((p5.toUInt32 >>> ((2 : Int32) &&& 31).toUInt32).toInt32) &&& (3 : Int32))), .val (.ref b2), .val (.ref b6), .unset, .unset, .unset, .unset, .unset, .unset, .unset, .unset, .unset, .unset] [(.long (own_con (p5 &&& (3 : Int32)) p1))])) t → Steps p.tables e below (s₁.setTop (entryFrame m #[(.int p1), (.int p2), (.int p3), (.int p4), (.int p5)] maxLocals)) t := fun t kt => k11 t (st12 t kt)
  have k14 : ∀ t, Steps p.tables e below (T12.setTop (mkF m 43 #[.val (.int p1), .val (.int p2), .val (.int p3), .val (.int p4), .val (.int p5), .val (.int (p5 &&& (3 : Int32))), .val (.int (((p5.toUInt32 >>> ((2 : Int32) &&& 31).toUInt32).toInt32) &&& (3 : Int32))), .val (.ref b2), .val (.ref b6), .val (.long (own_con (p5 &&& (3 : Int32)) p1)), .second, .unset, .unset, .unset, .unset, .unset, .unset, .unset, .unset] [(.int p3), (.int (((p5.toUInt32 >>> ((2 : Int32) &&& 31).toUInt32).toInt32) &&& (3 : Int32)))])) t → Steps p.tables e below (s₁.setTop (entryFrame m #[(.int p1), (.int p2), (.int p3), (.int p4), (.int p5)] maxLocals)) t := by
    intro t kt
    refine k13 t ?_
    show Steps p.tables e below (T12.setTop (mkF m 38 #[.val (.int p1), .val (.int p2), .val (.int p3), .val (.int p4), .val (.int p5), .val (.int (p5 &&& (3 : Int32))), .val (.int (((p5.toUInt32 >>> ((2 : Int32) &&& 31).toUInt32).toInt32) &&& (3 : Int32))), .val (.ref b2), .val (.ref b6), .unset, .unset, .unset, .unset, .unset, .unset, .unset, .unset, .unset, .unset] [(.long (own_con (p5 &&& (3 : Int32)) p1))])) t
    refine XS.lstore X12.here hx rfl (hb hby at_38) rfl (l' := #[.val (.int p1), .val (.int p2), .val (.int p3), .val (.int p4), .val (.int p5), .val (.int (p5 &&& (3 : Int32))), .val (.int (((p5.toUInt32 >>> ((2 : Int32) &&& 31).toUInt32).toInt32) &&& (3 : Int32))), .val (.ref b2), .val (.ref b6), .val (.long (own_con (p5 &&& (3 : Int32)) p1)), .second, .unset, .unset, .unset, .unset, .unset, .unset, .unset, .unset]) rfl ?_
    show Steps p.tables e below (T12.setTop (mkF m 40 #[.val (.int p1), .val (.int p2), .val (.int p3), .val (.int p4), .val (.int p5), .val (.int (p5 &&& (3 : Int32))), .val (.int (((p5.toUInt32 >>> ((2 : Int32) &&& 31).toUInt32).toInt32) &&& (3 : Int32))), .val (.ref b2), .val (.ref b6), .val (.long (own_con (p5 &&& (3 : Int32)) p1)), .second, .unset, .unset, .unset, .unset, .unset, .unset, .unset, .unset] [])) t
    refine XS.iload X12.here hx rfl (hb hby at_40) rfl ?_
    show Steps p.tables e below (T12.setTop (mkF m 42 #[.val (.int p1), .val (.int p2), .val (.int p3), .val (.int p4), .val (.int p5), .val (.int (p5 &&& (3 : Int32))), .val (.int (((p5.toUInt32 >>> ((2 : Int32) &&& 31).toUInt32).toInt32) &&& (3 : Int32))), .val (.ref b2), .val (.ref b6), .val (.long (own_con (p5 &&& (3 : Int32)) p1)), .second, .unset, .unset, .unset, .unset, .unset, .unset, .unset, .unset] [(.int (((p5.toUInt32 >>> ((2 : Int32) &&& 31).toUInt32).toInt32) &&& (3 : Int32)))])) t
    refine XS.iloadN X12.here hx rfl (hb hby at_42) rfl ?_
    exact kt
  obtain ⟨_, _, ⟨T15, L15, k15c, n15⟩, -, X15, ⟨Lc15, hQ15, l15, y15, z15⟩, st15⟩ := Jvm.LawKit.callS X12 hx (y := (⟨"com/example/disk_to_queue/disktoqueue/bench/BodySumAddPinLaw", "contrib", "(II)J"⟩ : MethodName)) hown (mvT hZ (hw _ (List.mem_of_getElem? (i := 5) rfl))) (mvT hZ (hw _ (List.mem_of_getElem? (i := 6) rfl))) (mvT hZ (hw _ (List.mem_of_getElem? (i := 2) rfl))) (mvT hZ (hw _ (List.mem_of_getElem? (i := 7) rfl))) (by decide) (backOf (W := 0) (rmN l Z a0 hw [] (((p5.toUInt32 >>> ((2 : Int32) &&& 31).toUInt32).toInt32) &&& (3 : Int32)) p3 T6.heap n0 Z9) hZ (hw _ (List.mem_of_getElem? (i := 7) rfl)) (hw _ (List.mem_of_getElem? (i := 2) rfl)) (by decide) (by decide)) (g := (mkF m 43 #[.val (.int p1), .val (.int p2), .val (.int p3), .val (.int p4), .val (.int p5), .val (.int (p5 &&& (3 : Int32))), .val (.int (((p5.toUInt32 >>> ((2 : Int32) &&& 31).toUInt32).toInt32) &&& (3 : Int32))), .val (.ref b2), .val (.ref b6), .val (.long (own_con (p5 &&& (3 : Int32)) p1)), .second, .unset, .unset, .unset, .unset, .unset, .unset, .unset, .unset] [(.int p3), (.int (((p5.toUInt32 >>> ((2 : Int32) &&& 31).toUInt32).toInt32) &&& (3 : Int32)))])) rfl (by rw [hml]; rfl) (argsL := [(.int (((p5.toUInt32 >>> ((2 : Int32) &&& 31).toUInt32).toInt32) &&& (3 : Int32))), (.int p3)]) (rest := []) (lenOf own_pd2 rfl) rfl (by show 2 * 0 + _ ≤ _; exact Nat.le_of_eq rfl) (hb hby at_43) (fun _ _ => ⟨rfl, e12, (by decide : 2 + 0 ≤ _), (by decide : 6 + 0 ≤ _)⟩)
  dsimp only [Pt.U, Pt.locs, Pt.cells, Pt.slots] at X15 l15 y15 z15 st15 hQ15
  subst l15 y15 z15
  obtain ⟨rfl, N15q, e15⟩ := hQ15
  have N15 := Fr.app N12 N15q
  have k16 : ∀ t, Steps p.tables e below (T15.setTop (mkF m 46 #[.val (.int p1), .val (.int p2), .val (.int p3), .val (.int p4), .val (.int p5), .val (.int (p5 &&& (3 : Int32))), .val (.int (((p5.toUInt32 >>> ((2 : Int32) &&& 31).toUInt32).toInt32) &&& (3 : Int32))), .val (.ref b2), .val (.ref b6), .val (.long (own_con (p5 &&& (3 : Int32)) p1)), .second, .unset, .unset, .unset, .unset, .unset, .unset, .unset, .unset] [(.long (own_con (((p5.toUInt32 >>> ((2 : Int32) &&& 31).toUInt32).toInt32) &&& (3 : Int32)) p3))])) t → Steps p.tables e below (s₁.setTop (entryFrame m #[(.int p1), (.int p2), (.int p3), (.int p4), (.int p5)] maxLocals)) t := fun t kt => k14 t (st15 t kt)
  have k17 : ∀ t, Steps p.tables e below (T15.setTop (mkF m 48 #[.val (.int p1), .val (.int p2), .val (.int p3), .val (.int p4), .val (.int p5), .val (.int (p5 &&& (3 : Int32))), .val (.int (((p5.toUInt32 >>> ((2 : Int32) &&& 31).toUInt32).toInt32) &&& (3 : Int32))), .val (.ref b2), .val (.ref b6), .val (.long (own_con (p5 &&& (3 : Int32)) p1)), .second, .val (.long (own_con (((p5.toUInt32 >>> ((2 : Int32) &&& 31).toUInt32).toInt32) &&& (3 : Int32)) p3)), .second, .unset, .unset, .unset, .unset, .unset, .unset] [])) t → Steps p.tables e below (s₁.setTop (entryFrame m #[(.int p1), (.int p2), (.int p3), (.int p4), (.int p5)] maxLocals)) t := by
    intro t kt
    refine k16 t ?_
    show Steps p.tables e below (T15.setTop (mkF m 46 #[.val (.int p1), .val (.int p2), .val (.int p3), .val (.int p4), .val (.int p5), .val (.int (p5 &&& (3 : Int32))), .val (.int (((p5.toUInt32 >>> ((2 : Int32) &&& 31).toUInt32).toInt32) &&& (3 : Int32))), .val (.ref b2), .val (.ref b6), .val (.long (own_con (p5 &&& (3 : Int32)) p1)), .second, .unset, .unset, .unset, .unset, .unset, .unset, .unset, .unset] [(.long (own_con (((p5.toUInt32 >>> ((2 : Int32) &&& 31).toUInt32).toInt32) &&& (3 : Int32)) p3))])) t
    refine XS.lstore X15.here hx rfl (hb hby at_46) rfl (l' := #[.val (.int p1), .val (.int p2), .val (.int p3), .val (.int p4), .val (.int p5), .val (.int (p5 &&& (3 : Int32))), .val (.int (((p5.toUInt32 >>> ((2 : Int32) &&& 31).toUInt32).toInt32) &&& (3 : Int32))), .val (.ref b2), .val (.ref b6), .val (.long (own_con (p5 &&& (3 : Int32)) p1)), .second, .val (.long (own_con (((p5.toUInt32 >>> ((2 : Int32) &&& 31).toUInt32).toInt32) &&& (3 : Int32)) p3)), .second, .unset, .unset, .unset, .unset, .unset, .unset]) rfl ?_
    exact kt
  obtain ⟨T18, h18, X18, e18, E18, A18, D18, -, st18⟩ := newO X15 hx hZ hown (hw _ (List.mem_of_getElem? (i := 8) rfl)) (hw _ (List.mem_of_getElem? (i := 9) rfl)) (hw _ (List.mem_of_getElem? (i := 10) rfl)) e15 (g := (mkF m 48 #[.val (.int p1), .val (.int p2), .val (.int p3), .val (.int p4), .val (.int p5), .val (.int (p5 &&& (3 : Int32))), .val (.int (((p5.toUInt32 >>> ((2 : Int32) &&& 31).toUInt32).toInt32) &&& (3 : Int32))), .val (.ref b2), .val (.ref b6), .val (.long (own_con (p5 &&& (3 : Int32)) p1)), .second, .val (.long (own_con (((p5.toUInt32 >>> ((2 : Int32) &&& 31).toUInt32).toInt32) &&& (3 : Int32)) p3)), .second, .unset, .unset, .unset, .unset, .unset, .unset] [])) rfl (hb hby at_48) (by decide) (by decide)
  obtain ⟨b18, g18⟩ : ∃ z, z = T6.heap.size := ⟨_, rfl⟩
  rw [← g18] at A18 D18 st18
  have g_b18 : n0 ≤ b18 := Nat.le_trans Z9 (Nat.le_of_eq g18.symm)
  have sz_b18 : h0.size ≤ b18 := Nat.le_trans K9.1 (Nat.le_of_eq g18.symm)
  have ne19 : b2 ≠ b18 := Nat.ne_of_lt (Nat.lt_of_lt_of_le F8.lt (Nat.le_of_eq g18.symm))
  have ne20 : b6 ≠ b18 := Nat.ne_of_lt (Nat.lt_of_lt_of_le A6.lt (Nat.le_of_eq g18.symm))
  have F21 := F8.ext E18
  have F22 := A6.ext E18
  have Z18 : n0 ≤ h18.size := Nat.le_trans Z9 E18.1
  have K18 : Keep h0 h18 [] := K9.ext E18
  have F23 : Fld Z h18 b18 "com/example/disk_to_queue/disktoqueue/bench/BodySum" "count" "J" (.long (0 : Int64)) := D18 (Or.inl (hw _ (List.mem_of_getElem? (i := 23) rfl))) (ty := .long) (by decide)
  have F24 : Fld Z h18 b18 "com/example/disk_to_queue/disktoqueue/bench/BodySum" "sum" "J" (.long (0 : Int64)) := D18 (Or.inl (hw _ (List.mem_of_getElem? (i := 25) rfl))) (ty := .long) (by decide)
  have k25 : ∀ t, Steps p.tables e below (T18.setTop (mkF m 51 #[.val (.int p1), .val (.int p2), .val (.int p3), .val (.int p4), .val (.int p5), .val (.int (p5 &&& (3 : Int32))), .val (.int (((p5.toUInt32 >>> ((2 : Int32) &&& 31).toUInt32).toInt32) &&& (3 : Int32))), .val (.ref b2), .val (.ref b6), .val (.long (own_con (p5 &&& (3 : Int32)) p1)), .second, .val (.long (own_con (((p5.toUInt32 >>> ((2 : Int32) &&& 31).toUInt32).toInt32) &&& (3 : Int32)) p3)), .second, .unset, .unset, .unset, .unset, .unset, .unset] [(.ref b18)])) t → Steps p.tables e below (s₁.setTop (entryFrame m #[(.int p1), (.int p2), (.int p3), (.int p4), (.int p5)] maxLocals)) t := fun t kt => k17 t (st18 t kt)
  have k26 : ∀ t, Steps p.tables e below (T18.setTop (mkF m 52 #[.val (.int p1), .val (.int p2), .val (.int p3), .val (.int p4), .val (.int p5), .val (.int (p5 &&& (3 : Int32))), .val (.int (((p5.toUInt32 >>> ((2 : Int32) &&& 31).toUInt32).toInt32) &&& (3 : Int32))), .val (.ref b2), .val (.ref b6), .val (.long (own_con (p5 &&& (3 : Int32)) p1)), .second, .val (.long (own_con (((p5.toUInt32 >>> ((2 : Int32) &&& 31).toUInt32).toInt32) &&& (3 : Int32)) p3)), .second, .unset, .unset, .unset, .unset, .unset, .unset] [(.ref b18), (.ref b18)])) t → Steps p.tables e below (s₁.setTop (entryFrame m #[(.int p1), (.int p2), (.int p3), (.int p4), (.int p5)] maxLocals)) t := by
    intro t kt
    refine k25 t ?_
    show Steps p.tables e below (T18.setTop (mkF m 51 #[.val (.int p1), .val (.int p2), .val (.int p3), .val (.int p4), .val (.int p5), .val (.int (p5 &&& (3 : Int32))), .val (.int (((p5.toUInt32 >>> ((2 : Int32) &&& 31).toUInt32).toInt32) &&& (3 : Int32))), .val (.ref b2), .val (.ref b6), .val (.long (own_con (p5 &&& (3 : Int32)) p1)), .second, .val (.long (own_con (((p5.toUInt32 >>> ((2 : Int32) &&& 31).toUInt32).toInt32) &&& (3 : Int32)) p3)), .second, .unset, .unset, .unset, .unset, .unset, .unset] [(.ref b18)])) t
    refine XS.dup X18.here hx rfl (hb hby at_51) rfl rfl ?_
    exact kt
  obtain ⟨_, _, ⟨T27, L27, k27c, n27⟩, -, X27, ⟨Lc27, hQ27, l27, y27, z27⟩, st27⟩ := X18.specialBack hx (y := (⟨"com/example/disk_to_queue/disktoqueue/bench/BodySum", "<init>", "()V"⟩ : MethodName)) rfl hown (mvT hZ (hw _ (List.mem_of_getElem? (i := 11) rfl))) (mvT hZ (hw _ (List.mem_of_getElem? (i := 12) rfl))) (mvT hZ (hw _ (List.mem_of_getElem? (i := 13) rfl))) (by decide) (backOf (W := 1) (rmI l Z a0 hw [] b18 h18 n0 Z18) hZ (hw _ (List.mem_of_getElem? (i := 13) rfl)) (hw _ (List.mem_of_getElem? (i := 10) rfl)) (by decide) (by decide)) (g := (mkF m 52 #[.val (.int p1), .val (.int p2), .val (.int p3), .val (.int p4), .val (.int p5), .val (.int (p5 &&& (3 : Int32))), .val (.int (((p5.toUInt32 >>> ((2 : Int32) &&& 31).toUInt32).toInt32) &&& (3 : Int32))), .val (.ref b2), .val (.ref b6), .val (.long (own_con (p5 &&& (3 : Int32)) p1)), .second, .val (.long (own_con (((p5.toUInt32 >>> ((2 : Int32) &&& 31).toUInt32).toInt32) &&& (3 : Int32)) p3)), .second, .unset, .unset, .unset, .unset, .unset, .unset] [(.ref b18), (.ref b18)])) rfl (by rw [hml]; rfl) (Steps.refl _) (a := b18) (argsL := []) (rest := [(.ref b18)]) (lenOf own_pd3 rfl) rfl (by show 2 * 0 + _ ≤ _; exact Nat.le_of_eq rfl) (hb hby at_52) (fun _ _ => ⟨rfl, e18, (by decide : 3 + 0 ≤ _), (by decide : 8 + 0 ≤ _)⟩)
  dsimp only [Pt.U, Pt.locs, Pt.cells, Pt.slots] at X27 l27 y27 z27 st27 hQ27
  subst l27 y27 z27
  obtain ⟨rfl, N27q, e27⟩ := hQ27
  have N27 := Fr.app N15 N27q
  have k28 : ∀ t, Steps p.tables e below (T27.setTop (mkF m 55 #[.val (.int p1), .val (.int p2), .val (.int p3), .val (.int p4), .val (.int p5), .val (.int (p5 &&& (3 : Int32))), .val (.int (((p5.toUInt32 >>> ((2 : Int32) &&& 31).toUInt32).toInt32) &&& (3 : Int32))), .val (.ref b2), .val (.ref b6), .val (.long (own_con (p5 &&& (3 : Int32)) p1)), .second, .val (.long (own_con (((p5.toUInt32 >>> ((2 : Int32) &&& 31).toUInt32).toInt32) &&& (3 : Int32)) p3)), .second, .unset, .unset, .unset, .unset, .unset, .unset] [(.ref b18)])) t → Steps p.tables e below (s₁.setTop (entryFrame m #[(.int p1), (.int p2), (.int p3), (.int p4), (.int p5)] maxLocals)) t := fun t kt => k26 t (st27.trans kt)
  have k29 : ∀ t, Steps p.tables e below (T27.setTop (mkF m 61 #[.val (.int p1), .val (.int p2), .val (.int p3), .val (.int p4), .val (.int p5), .val (.int (p5 &&& (3 : Int32))), .val (.int (((p5.toUInt32 >>> ((2 : Int32) &&& 31).toUInt32).toInt32) &&& (3 : Int32))), .val (.ref b2), .val (.ref b6), .val (.long (own_con (p5 &&& (3 : Int32)) p1)), .second, .val (.long (own_con (((p5.toUInt32 >>> ((2 : Int32) &&& 31).toUInt32).toInt32) &&& (3 : Int32)) p3)), .second, .val (.ref b18), .unset, .unset, .unset, .unset, .unset] [(.ref b2), (.ref b18)])) t → Steps p.tables e below (s₁.setTop (entryFrame m #[(.int p1), (.int p2), (.int p3), (.int p4), (.int p5)] maxLocals)) t := by
    intro t kt
    refine k28 t ?_
    show Steps p.tables e below (T27.setTop (mkF m 55 #[.val (.int p1), .val (.int p2), .val (.int p3), .val (.int p4), .val (.int p5), .val (.int (p5 &&& (3 : Int32))), .val (.int (((p5.toUInt32 >>> ((2 : Int32) &&& 31).toUInt32).toInt32) &&& (3 : Int32))), .val (.ref b2), .val (.ref b6), .val (.long (own_con (p5 &&& (3 : Int32)) p1)), .second, .val (.long (own_con (((p5.toUInt32 >>> ((2 : Int32) &&& 31).toUInt32).toInt32) &&& (3 : Int32)) p3)), .second, .unset, .unset, .unset, .unset, .unset, .unset] [(.ref b18)])) t
    refine XS.astore X27.here hx rfl (hb hby at_55) rfl rfl (l' := #[.val (.int p1), .val (.int p2), .val (.int p3), .val (.int p4), .val (.int p5), .val (.int (p5 &&& (3 : Int32))), .val (.int (((p5.toUInt32 >>> ((2 : Int32) &&& 31).toUInt32).toInt32) &&& (3 : Int32))), .val (.ref b2), .val (.ref b6), .val (.long (own_con (p5 &&& (3 : Int32)) p1)), .second, .val (.long (own_con (((p5.toUInt32 >>> ((2 : Int32) &&& 31).toUInt32).toInt32) &&& (3 : Int32)) p3)), .second, .val (.ref b18), .unset, .unset, .unset, .unset, .unset]) rfl ?_
    show Steps p.tables e below (T27.setTop (mkF m 57 #[.val (.int p1), .val (.int p2), .val (.int p3), .val (.int p4), .val (.int p5), .val (.int (p5 &&& (3 : Int32))), .val (.int (((p5.toUInt32 >>> ((2 : Int32) &&& 31).toUInt32).toInt32) &&& (3 : Int32))), .val (.ref b2), .val (.ref b6), .val (.long (own_con (p5 &&& (3 : Int32)) p1)), .second, .val (.long (own_con (((p5.toUInt32 >>> ((2 : Int32) &&& 31).toUInt32).toInt32) &&& (3 : Int32)) p3)), .second, .val (.ref b18), .unset, .unset, .unset, .unset, .unset] [])) t
    refine XS.aload X27.here hx rfl (hb hby at_57) rfl rfl ?_
    show Steps p.tables e below (T27.setTop (mkF m 59 #[.val (.int p1), .val (.int p2), .val (.int p3), .val (.int p4), .val (.int p5), .val (.int (p5 &&& (3 : Int32))), .val (.int (((p5.toUInt32 >>> ((2 : Int32) &&& 31).toUInt32).toInt32) &&& (3 : Int32))), .val (.ref b2), .val (.ref b6), .val (.long (own_con (p5 &&& (3 : Int32)) p1)), .second, .val (.long (own_con (((p5.toUInt32 >>> ((2 : Int32) &&& 31).toUInt32).toInt32) &&& (3 : Int32)) p3)), .second, .val (.ref b18), .unset, .unset, .unset, .unset, .unset] [(.ref b18)])) t
    refine XS.aload X27.here hx rfl (hb hby at_59) rfl rfl ?_
    exact kt
  obtain ⟨cq30, kq30, q30a, q30b, q30c⟩ := isOf hZ e27 A18
  obtain ⟨_, _, ⟨T30, L30, k30c, n30⟩, -, X30, ⟨Lc30, hQ30, l30, y30, z30⟩, st30⟩ := X27.virtualBack hx (y := (⟨"com/example/disk_to_queue/disktoqueue/bench/BodySum", "add", "([B)V"⟩ : MethodName)) (z := (⟨"com/example/disk_to_queue/disktoqueue/bench/BodySum", "add", "([B)V"⟩ : MethodName)) hown (mvT hZ (hw _ (List.mem_of_getElem? (i := 17) rfl))) (mvT hZ (hw _ (List.mem_of_getElem? (i := 18) rfl))) (notFace_of_selects (args := #[]) (mvT hZ (hw _ (List.mem_of_getElem? (i := 20) rfl)))) (mvT hZ (hw _ (List.mem_of_getElem? (i := 20) rfl))) (mvT hZ (hw _ (List.mem_of_getElem? (i := 19) rfl))) (by decide) (backOf (W := 0) (rmA l Z a0 hw [] b18 b2 (0 : Int64) (0 : Int64) (p5 &&& (3 : Int32)) (p1.toInt8.toInt32) c2 vs2 h18 n0 Z18 F23 F24 A18 F21 hv2 g_b18 ne19) hZ (hw _ (List.mem_of_getElem? (i := 21) rfl)) (hw _ (List.mem_of_getElem? (i := 10) rfl)) (by decide) (by decide)) q30a q30c (g := (mkF m 61 #[.val (.int p1), .val (.int p2), .val (.int p3), .val (.int p4), .val (.int p5), .val (.int (p5 &&& (3 : Int32))), .val (.int (((p5.toUInt32 >>> ((2 : Int32) &&& 31).toUInt32).toInt32) &&& (3 : Int32))), .val (.ref b2), .val (.ref b6), .val (.long (own_con (p5 &&& (3 : Int32)) p1)), .second, .val (.long (own_con (((p5.toUInt32 >>> ((2 : Int32) &&& 31).toUInt32).toInt32) &&& (3 : Int32)) p3)), .second, .val (.ref b18), .unset, .unset, .unset, .unset, .unset] [(.ref b2), (.ref b18)])) rfl (by rw [hml]; rfl) (Steps.refl _) (argsL := [(.ref b2)]) (rest := []) (lenOf own_pd4 rfl) rfl (by show 2 * 0 + _ ≤ _; exact Nat.le_of_eq rfl) (hb hby at_61) (fun _ _ => ⟨rfl, e27, (by decide : 3 + 0 ≤ _), (by decide : 8 + 0 ≤ _)⟩)
  dsimp only [Pt.U, Pt.locs, Pt.cells, Pt.slots] at X30 l30 y30 z30 st30 hQ30
  subst l30 y30 z30
  obtain ⟨rfl, N30q, K30k, -, Fc30, Fs30⟩ := hQ30
  have N30 := Fr.app N27 N30q
  have F31 := F21.keep K30k (ninS ne19 nin0)
  have F32 := F22.keep K30k (ninS ne20 nin0)
  have F33 := A18.keep K30k
  have Z36 : n0 ≤ T30.heap.size := Nat.le_trans Z18 K30k.1
  have K36 : Keep h0 T30.heap [] := K18.trans K30k (allS (Or.inr sz_b18) all0)
  have k37 : ∀ t, Steps p.tables e below (T30.setTop (mkF m 64 #[.val (.int p1), .val (.int p2), .val (.int p3), .val (.int p4), .val (.int p5), .val (.int (p5 &&& (3 : Int32))), .val (.int (((p5.toUInt32 >>> ((2 : Int32) &&& 31).toUInt32).toInt32) &&& (3 : Int32))), .val (.ref b2), .val (.ref b6), .val (.long (own_con (p5 &&& (3 : Int32)) p1)), .second, .val (.long (own_con (((p5.toUInt32 >>> ((2 : Int32) &&& 31).toUInt32).toInt32) &&& (3 : Int32)) p3)), .second, .val (.ref b18), .unset, .unset, .unset, .unset, .unset] [])) t → Steps p.tables e below (s₁.setTop (entryFrame m #[(.int p1), (.int p2), (.int p3), (.int p4), (.int p5)] maxLocals)) t := fun t kt => k29 t (st30.trans kt)
  obtain ⟨T38, h38, X38, e38, E38, A38, D38, -, st38⟩ := newO X30 hx hZ hown (hw _ (List.mem_of_getElem? (i := 8) rfl)) (hw _ (List.mem_of_getElem? (i := 9) rfl)) (hw _ (List.mem_of_getElem? (i := 10) rfl)) rfl (g := (mkF m 64 #[.val (.int p1), .val (.int p2), .val (.int p3), .val (.int p4), .val (.int p5), .val (.int (p5 &&& (3 : Int32))), .val (.int (((p5.toUInt32 >>> ((2 : Int32) &&& 31).toUInt32).toInt32) &&& (3 : Int32))), .val (.ref b2), .val (.ref b6), .val (.long (own_con (p5 &&& (3 : Int32)) p1)), .second, .val (.long (own_con (((p5.toUInt32 >>> ((2 : Int32) &&& 31).toUInt32).toInt32) &&& (3 : Int32)) p3)), .second, .val (.ref b18), .unset, .unset, .unset, .unset, .unset] [])) rfl (hb hby at_64) (by decide) (by decide)
  obtain ⟨b38, g38⟩ : ∃ z, z = T30.heap.size := ⟨_, rfl⟩
  rw [← g38] at A38 D38 st38
  have g_b38 : n0 ≤ b38 := Nat.le_trans Z36 (Nat.le_of_eq g38.symm)
  have sz_b38 : h0.size ≤ b38 := Nat.le_trans K36.1 (Nat.le_of_eq g38.symm)
  have ne39 : b2 ≠ b38 := Nat.ne_of_lt (Nat.lt_of_lt_of_le F31.lt (Nat.le_of_eq g38.symm))
  have ne40 : b6 ≠ b38 := Nat.ne_of_lt (Nat.lt_of_lt_of_le F32.lt (Nat.le_of_eq g38.symm))
  have ne41 : b18 ≠ b38 := Nat.ne_of_lt (Nat.lt_of_lt_of_le F33.lt (Nat.le_of_eq g38.symm))
  have F42 := F31.ext E38
  have F43 := F32.ext E38
  have F44 := F33.ext E38
  have F45 := Fc30.ext E38
  have F46 := Fs30.ext E38
  have Z38 : n0 ≤ h38.size := Nat.le_trans Z36 E38.1
  have K38 : Keep h0 h38 [] := K36.ext E38
  have F47 : Fld Z h38 b38 "com/example/disk_to_queue/disktoqueue/bench/BodySum" "count" "J" (.long (0 : Int64)) := D38 (Or.inl (hw _ (List.mem_of_getElem? (i := 23) rfl))) (ty := .long) (by decide)
  have F48 : Fld Z h38 b38 "com/example/disk_to_queue/disktoqueue/bench/BodySum" "sum" "J" (.long (0 : Int64)) := D38 (Or.inl (hw _ (List.mem_of_getElem? (i := 25) rfl))) (ty := .long) (by decide)
  have k49 : ∀ t, Steps p.tables e below (T38.setTop (mkF m 67 #[.val (.int p1), .val (.int p2), .val (.int p3), .val (.int p4), .val (.int p5), .val (.int (p5 &&& (3 : Int32))), .val (.int (((p5.toUInt32 >>> ((2 : Int32) &&& 31).toUInt32).toInt32) &&& (3 : Int32))), .val (.ref b2), .val (.ref b6), .val (.long (own_con (p5 &&& (3 : Int32)) p1)), .second, .val (.long (own_con (((p5.toUInt32 >>> ((2 : Int32) &&& 31).toUInt32).toInt32) &&& (3 : Int32)) p3)), .second, .val (.ref b18), .unset, .unset, .unset, .unset, .unset] [(.ref b38)])) t → Steps p.tables e below (s₁.setTop (entryFrame m #[(.int p1), (.int p2), (.int p3), (.int p4), (.int p5)] maxLocals)) t := fun t kt => k37 t (st38 t kt)
  have k50 : ∀ t, Steps p.tables e below (T38.setTop (mkF m 68 #[.val (.int p1), .val (.int p2), .val (.int p3), .val (.int p4), .val (.int p5), .val (.int (p5 &&& (3 : Int32))), .val (.int (((p5.toUInt32 >>> ((2 : Int32) &&& 31).toUInt32).toInt32) &&& (3 : Int32))), .val (.ref b2), .val (.ref b6), .val (.long (own_con (p5 &&& (3 : Int32)) p1)), .second, .val (.long (own_con (((p5.toUInt32 >>> ((2 : Int32) &&& 31).toUInt32).toInt32) &&& (3 : Int32)) p3)), .second, .val (.ref b18), .unset, .unset, .unset, .unset, .unset] [(.ref b38), (.ref b38)])) t → Steps p.tables e below (s₁.setTop (entryFrame m #[(.int p1), (.int p2), (.int p3), (.int p4), (.int p5)] maxLocals)) t := by
    intro t kt
    refine k49 t ?_
    show Steps p.tables e below (T38.setTop (mkF m 67 #[.val (.int p1), .val (.int p2), .val (.int p3), .val (.int p4), .val (.int p5), .val (.int (p5 &&& (3 : Int32))), .val (.int (((p5.toUInt32 >>> ((2 : Int32) &&& 31).toUInt32).toInt32) &&& (3 : Int32))), .val (.ref b2), .val (.ref b6), .val (.long (own_con (p5 &&& (3 : Int32)) p1)), .second, .val (.long (own_con (((p5.toUInt32 >>> ((2 : Int32) &&& 31).toUInt32).toInt32) &&& (3 : Int32)) p3)), .second, .val (.ref b18), .unset, .unset, .unset, .unset, .unset] [(.ref b38)])) t
    refine XS.dup X38.here hx rfl (hb hby at_67) rfl rfl ?_
    exact kt
  obtain ⟨_, _, ⟨T51, L51, k51c, n51⟩, -, X51, ⟨Lc51, hQ51, l51, y51, z51⟩, st51⟩ := X38.specialBack hx (y := (⟨"com/example/disk_to_queue/disktoqueue/bench/BodySum", "<init>", "()V"⟩ : MethodName)) rfl hown (mvT hZ (hw _ (List.mem_of_getElem? (i := 11) rfl))) (mvT hZ (hw _ (List.mem_of_getElem? (i := 12) rfl))) (mvT hZ (hw _ (List.mem_of_getElem? (i := 13) rfl))) (by decide) (backOf (W := 1) (rmI l Z a0 hw [] b38 h38 n0 Z38) hZ (hw _ (List.mem_of_getElem? (i := 13) rfl)) (hw _ (List.mem_of_getElem? (i := 10) rfl)) (by decide) (by decide)) (g := (mkF m 68 #[.val (.int p1), .val (.int p2), .val (.int p3), .val (.int p4), .val (.int p5), .val (.int (p5 &&& (3 : Int32))), .val (.int (((p5.toUInt32 >>> ((2 : Int32) &&& 31).toUInt32).toInt32) &&& (3 : Int32))), .val (.ref b2), .val (.ref b6), .val (.long (own_con (p5 &&& (3 : Int32)) p1)), .second, .val (.long (own_con (((p5.toUInt32 >>> ((2 : Int32) &&& 31).toUInt32).toInt32) &&& (3 : Int32)) p3)), .second, .val (.ref b18), .unset, .unset, .unset, .unset, .unset] [(.ref b38), (.ref b38)])) rfl (by rw [hml]; rfl) (Steps.refl _) (a := b38) (argsL := []) (rest := [(.ref b38)]) (lenOf own_pd3 rfl) rfl (by show 2 * 0 + _ ≤ _; exact Nat.le_of_eq rfl) (hb hby at_68) (fun _ _ => ⟨rfl, e38, (by decide : 4 + 0 ≤ _), (by decide : 10 + 0 ≤ _)⟩)
  dsimp only [Pt.U, Pt.locs, Pt.cells, Pt.slots] at X51 l51 y51 z51 st51 hQ51
  subst l51 y51 z51
  obtain ⟨rfl, N51q, e51⟩ := hQ51
  have N51 := Fr.app N30 N51q
  have k52 : ∀ t, Steps p.tables e below (T51.setTop (mkF m 71 #[.val (.int p1), .val (.int p2), .val (.int p3), .val (.int p4), .val (.int p5), .val (.int (p5 &&& (3 : Int32))), .val (.int (((p5.toUInt32 >>> ((2 : Int32) &&& 31).toUInt32).toInt32) &&& (3 : Int32))), .val (.ref b2), .val (.ref b6), .val (.long (own_con (p5 &&& (3 : Int32)) p1)), .second, .val (.long (own_con (((p5.toUInt32 >>> ((2 : Int32) &&& 31).toUInt32).toInt32) &&& (3 : Int32)) p3)), .second, .val (.ref b18), .unset, .unset, .unset, .unset, .unset] [(.ref b38)])) t → Steps p.tables e below (s₁.setTop (entryFrame m #[(.int p1), (.int p2), (.int p3), (.int p4), (.int p5)] maxLocals)) t := fun t kt => k50 t (st51.trans kt)
  have k53 : ∀ t, Steps p.tables e below (T51.setTop (mkF m 77 #[.val (.int p1), .val (.int p2), .val (.int p3), .val (.int p4), .val (.int p5), .val (.int (p5 &&& (3 : Int32))), .val (.int (((p5.toUInt32 >>> ((2 : Int32) &&& 31).toUInt32).toInt32) &&& (3 : Int32))), .val (.ref b2), .val (.ref b6), .val (.long (own_con (p5 &&& (3 : Int32)) p1)), .second, .val (.long (own_con (((p5.toUInt32 >>> ((2 : Int32) &&& 31).toUInt32).toInt32) &&& (3 : Int32)) p3)), .second, .val (.ref b18), .val (.ref b38), .unset, .unset, .unset, .unset] [(.ref b2), (.ref b38)])) t → Steps p.tables e below (s₁.setTop (entryFrame m #[(.int p1), (.int p2), (.int p3), (.int p4), (.int p5)] maxLocals)) t := by
    intro t kt
    refine k52 t ?_
    show Steps p.tables e below (T51.setTop (mkF m 71 #[.val (.int p1), .val (.int p2), .val (.int p3), .val (.int p4), .val (.int p5), .val (.int (p5 &&& (3 : Int32))), .val (.int (((p5.toUInt32 >>> ((2 : Int32) &&& 31).toUInt32).toInt32) &&& (3 : Int32))), .val (.ref b2), .val (.ref b6), .val (.long (own_con (p5 &&& (3 : Int32)) p1)), .second, .val (.long (own_con (((p5.toUInt32 >>> ((2 : Int32) &&& 31).toUInt32).toInt32) &&& (3 : Int32)) p3)), .second, .val (.ref b18), .unset, .unset, .unset, .unset, .unset] [(.ref b38)])) t
    refine XS.astore X51.here hx rfl (hb hby at_71) rfl rfl (l' := #[.val (.int p1), .val (.int p2), .val (.int p3), .val (.int p4), .val (.int p5), .val (.int (p5 &&& (3 : Int32))), .val (.int (((p5.toUInt32 >>> ((2 : Int32) &&& 31).toUInt32).toInt32) &&& (3 : Int32))), .val (.ref b2), .val (.ref b6), .val (.long (own_con (p5 &&& (3 : Int32)) p1)), .second, .val (.long (own_con (((p5.toUInt32 >>> ((2 : Int32) &&& 31).toUInt32).toInt32) &&& (3 : Int32)) p3)), .second, .val (.ref b18), .val (.ref b38), .unset, .unset, .unset, .unset]) rfl ?_
    show Steps p.tables e below (T51.setTop (mkF m 73 #[.val (.int p1), .val (.int p2), .val (.int p3), .val (.int p4), .val (.int p5), .val (.int (p5 &&& (3 : Int32))), .val (.int (((p5.toUInt32 >>> ((2 : Int32) &&& 31).toUInt32).toInt32) &&& (3 : Int32))), .val (.ref b2), .val (.ref b6), .val (.long (own_con (p5 &&& (3 : Int32)) p1)), .second, .val (.long (own_con (((p5.toUInt32 >>> ((2 : Int32) &&& 31).toUInt32).toInt32) &&& (3 : Int32)) p3)), .second, .val (.ref b18), .val (.ref b38), .unset, .unset, .unset, .unset] [])) t
    refine XS.aload X51.here hx rfl (hb hby at_73) rfl rfl ?_
    show Steps p.tables e below (T51.setTop (mkF m 75 #[.val (.int p1), .val (.int p2), .val (.int p3), .val (.int p4), .val (.int p5), .val (.int (p5 &&& (3 : Int32))), .val (.int (((p5.toUInt32 >>> ((2 : Int32) &&& 31).toUInt32).toInt32) &&& (3 : Int32))), .val (.ref b2), .val (.ref b6), .val (.long (own_con (p5 &&& (3 : Int32)) p1)), .second, .val (.long (own_con (((p5.toUInt32 >>> ((2 : Int32) &&& 31).toUInt32).toInt32) &&& (3 : Int32)) p3)), .second, .val (.ref b18), .val (.ref b38), .unset, .unset, .unset, .unset] [(.ref b38)])) t
    refine XS.aload X51.here hx rfl (hb hby at_75) rfl rfl ?_
    exact kt
  obtain ⟨cq54, kq54, q54a, q54b, q54c⟩ := isOf hZ e51 A38
  obtain ⟨_, _, ⟨T54, L54, k54c, n54⟩, -, X54, ⟨Lc54, hQ54, l54, y54, z54⟩, st54⟩ := X51.virtualBack hx (y := (⟨"com/example/disk_to_queue/disktoqueue/bench/BodySum", "add", "([B)V"⟩ : MethodName)) (z := (⟨"com/example/disk_to_queue/disktoqueue/bench/BodySum", "add", "([B)V"⟩ : MethodName)) hown (mvT hZ (hw _ (List.mem_of_getElem? (i := 17) rfl))) (mvT hZ (hw _ (List.mem_of_getElem? (i := 18) rfl))) (notFace_of_selects (args := #[]) (mvT hZ (hw _ (List.mem_of_getElem? (i := 20) rfl)))) (mvT hZ (hw _ (List.mem_of_getElem? (i := 20) rfl))) (mvT hZ (hw _ (List.mem_of_getElem? (i := 19) rfl))) (by decide) (backOf (W := 0) (rmA l Z a0 hw [] b38 b2 (0 : Int64) (0 : Int64) (p5 &&& (3 : Int32)) (p1.toInt8.toInt32) c2 vs2 h38 n0 Z38 F47 F48 A38 F42 hv2 g_b38 ne39) hZ (hw _ (List.mem_of_getElem? (i := 21) rfl)) (hw _ (List.mem_of_getElem? (i := 10) rfl)) (by decide) (by decide)) q54a q54c (g := (mkF m 77 #[.val (.int p1), .val (.int p2), .val (.int p3), .val (.int p4), .val (.int p5), .val (.int (p5 &&& (3 : Int32))), .val (.int (((p5.toUInt32 >>> ((2 : Int32) &&& 31).toUInt32).toInt32) &&& (3 : Int32))), .val (.ref b2), .val (.ref b6), .val (.long (own_con (p5 &&& (3 : Int32)) p1)), .second, .val (.long (own_con (((p5.toUInt32 >>> ((2 : Int32) &&& 31).toUInt32).toInt32) &&& (3 : Int32)) p3)), .second, .val (.ref b18), .val (.ref b38), .unset, .unset, .unset, .unset] [(.ref b2), (.ref b38)])) rfl (by rw [hml]; rfl) (Steps.refl _) (argsL := [(.ref b2)]) (rest := []) (lenOf own_pd4 rfl) rfl (by show 2 * 0 + _ ≤ _; exact Nat.le_of_eq rfl) (hb hby at_77) (fun _ _ => ⟨rfl, e51, (by decide : 4 + 0 ≤ _), (by decide : 10 + 0 ≤ _)⟩)
  dsimp only [Pt.U, Pt.locs, Pt.cells, Pt.slots] at X54 l54 y54 z54 st54 hQ54
  subst l54 y54 z54
  obtain ⟨rfl, N54q, K54k, -, Fc54, Fs54⟩ := hQ54
  have N54 := Fr.app N51 N54q
  have F55 := F42.keep K54k (ninS ne39 nin0)
  have F56 := F43.keep K54k (ninS ne40 nin0)
  have F57 := F44.keep K54k
  have F58 := F45.keep K54k (ninS ne41 nin0)
  have F59 := F46.keep K54k (ninS ne41 nin0)
  have F60 := A38.keep K54k
  have Z63 : n0 ≤ T54.heap.size := Nat.le_trans Z38 K54k.1
  have K63 : Keep h0 T54.heap [] := K38.trans K54k (allS (Or.inr sz_b38) all0)
  have k64 : ∀ t, Steps p.tables e below (T54.setTop (mkF m 80 #[.val (.int p1), .val (.int p2), .val (.int p3), .val (.int p4), .val (.int p5), .val (.int (p5 &&& (3 : Int32))), .val (.int (((p5.toUInt32 >>> ((2 : Int32) &&& 31).toUInt32).toInt32) &&& (3 : Int32))), .val (.ref b2), .val (.ref b6), .val (.long (own_con (p5 &&& (3 : Int32)) p1)), .second, .val (.long (own_con (((p5.toUInt32 >>> ((2 : Int32) &&& 31).toUInt32).toInt32) &&& (3 : Int32)) p3)), .second, .val (.ref b18), .val (.ref b38), .unset, .unset, .unset, .unset] [])) t → Steps p.tables e below (s₁.setTop (entryFrame m #[(.int p1), (.int p2), (.int p3), (.int p4), (.int p5)] maxLocals)) t := fun t kt => k53 t (st54.trans kt)
  have k65 : ∀ t, Steps p.tables e below (T54.setTop (mkF m 84 #[.val (.int p1), .val (.int p2), .val (.int p3), .val (.int p4), .val (.int p5), .val (.int (p5 &&& (3 : Int32))), .val (.int (((p5.toUInt32 >>> ((2 : Int32) &&& 31).toUInt32).toInt32) &&& (3 : Int32))), .val (.ref b2), .val (.ref b6), .val (.long (own_con (p5 &&& (3 : Int32)) p1)), .second, .val (.long (own_con (((p5.toUInt32 >>> ((2 : Int32) &&& 31).toUInt32).toInt32) &&& (3 : Int32)) p3)), .second, .val (.ref b18), .val (.ref b38), .unset, .unset, .unset, .unset] [(.ref b6), (.ref b38)])) t → Steps p.tables e below (s₁.setTop (entryFrame m #[(.int p1), (.int p2), (.int p3), (.int p4), (.int p5)] maxLocals)) t := by
    intro t kt
    refine k64 t ?_
    show Steps p.tables e below (T54.setTop (mkF m 80 #[.val (.int p1), .val (.int p2), .val (.int p3), .val (.int p4), .val (.int p5), .val (.int (p5 &&& (3 : Int32))), .val (.int (((p5.toUInt32 >>> ((2 : Int32) &&& 31).toUInt32).toInt32) &&& (3 : Int32))), .val (.ref b2), .val (.ref b6), .val (.long (own_con (p5 &&& (3 : Int32)) p1)), .second, .val (.long (own_con (((p5.toUInt32 >>> ((2 : Int32) &&& 31).toUInt32).toInt32) &&& (3 : Int32)) p3)), .second, .val (.ref b18), .val (.ref b38), .unset, .unset, .unset, .unset] [])) t
    refine XS.aload X54.here hx rfl (hb hby at_80) rfl rfl ?_
    show Steps p.tables e below (T54.setTop (mkF m 82 #[.val (.int p1), .val (.int p2), .val (.int p3), .val (.int p4), .val (.int p5), .val (.int (p5 &&& (3 : Int32))), .val (.int (((p5.toUInt32 >>> ((2 : Int32) &&& 31).toUInt32).toInt32) &&& (3 : Int32))), .val (.ref b2), .val (.ref b6), .val (.long (own_con (p5 &&& (3 : Int32)) p1)), .second, .val (.long (own_con (((p5.toUInt32 >>> ((2 : Int32) &&& 31).toUInt32).toInt32) &&& (3 : Int32)) p3)), .second, .val (.ref b18), .val (.ref b38), .unset, .unset, .unset, .unset] [(.ref b38)])) t
    refine XS.aload X54.here hx rfl (hb hby at_82) rfl rfl ?_
    exact kt
  obtain ⟨cq66, kq66, q66a, q66b, q66c⟩ := isOf hZ rfl F60
  obtain ⟨_, _, ⟨T66, L66, k66c, n66⟩, -, X66, ⟨Lc66, hQ66, l66, y66, z66⟩, st66⟩ := X54.virtualBack hx (y := (⟨"com/example/disk_to_queue/disktoqueue/bench/BodySum", "add", "([B)V"⟩ : MethodName)) (z := (⟨"com/example/disk_to_queue/disktoqueue/bench/BodySum", "add", "([B)V"⟩ : MethodName)) hown (mvT hZ (hw _ (List.mem_of_getElem? (i := 17) rfl))) (mvT hZ (hw _ (List.mem_of_getElem? (i := 18) rfl))) (notFace_of_selects (args := #[]) (mvT hZ (hw _ (List.mem_of_getElem? (i := 20) rfl)))) (mvT hZ (hw _ (List.mem_of_getElem? (i := 20) rfl))) (mvT hZ (hw _ (List.mem_of_getElem? (i := 19) rfl))) (by decide) (backOf (W := 0) (rmA l Z a0 hw [] b38 b6 ((0 : Int64) + (1 : Int64)) ((0 : Int64) + (own_add (p5 &&& (3 : Int32)) (p1.toInt8.toInt32))) (((p5.toUInt32 >>> ((2 : Int32) &&& 31).toUInt32).toInt32) &&& (3 : Int32)) (p3.toInt8.toInt32) c6 vs6 T54.heap n0 Z63 Fc54 Fs54 F60 F56 hv6 g_b38 ne40) hZ (hw _ (List.mem_of_getElem? (i := 21) rfl)) (hw _ (List.mem_of_getElem? (i := 10) rfl)) (by decide) (by decide)) q66a q66c (g := (mkF m 84 #[.val (.int p1), .val (.int p2), .val (.int p3), .val (.int p4), .val (.int p5), .val (.int (p5 &&& (3 : Int32))), .val (.int (((p5.toUInt32 >>> ((2 : Int32) &&& 31).toUInt32).toInt32) &&& (3 : Int32))), .val (.ref b2), .val (.ref b6), .val (.long (own_con (p5 &&& (3 : Int32)) p1)), .second, .val (.long (own_con (((p5.toUInt32 >>> ((2 : Int32) &&& 31).toUInt32).toInt32) &&& (3 : Int32)) p3)), .second, .val (.ref b18), .val (.ref b38), .unset, .unset, .unset, .unset] [(.ref b6), (.ref b38)])) rfl (by rw [hml]; rfl) (Steps.refl _) (argsL := [(.ref b6)]) (rest := []) (lenOf own_pd4 rfl) rfl (by show 2 * 0 + _ ≤ _; exact Nat.le_of_eq rfl) (hb hby at_84) (fun _ _ => ⟨rfl, rfl, (by decide : 4 + 0 ≤ _), (by decide : 10 + 0 ≤ _)⟩)
  dsimp only [Pt.U, Pt.locs, Pt.cells, Pt.slots] at X66 l66 y66 z66 st66 hQ66
  subst l66 y66 z66
  obtain ⟨rfl, N66q, K66k, -, Fc66, Fs66⟩ := hQ66
  have N66 := Fr.app N54 N66q
  have F67 := F55.keep K66k (ninS ne39 nin0)
  have F68 := F56.keep K66k (ninS ne40 nin0)
  have F69 := F57.keep K66k
  have F70 := F58.keep K66k (ninS ne41 nin0)
  have F71 := F59.keep K66k (ninS ne41 nin0)
  have F72 := F60.keep K66k
  have Z75 : n0 ≤ T66.heap.size := Nat.le_trans Z63 K66k.1
  have K75 : Keep h0 T66.heap [] := K63.trans K66k (allS (Or.inr sz_b38) all0)
  have k76 : ∀ t, Steps p.tables e below (T66.setTop (mkF m 87 #[.val (.int p1), .val (.int p2), .val (.int p3), .val (.int p4), .val (.int p5), .val (.int (p5 &&& (3 : Int32))), .val (.int (((p5.toUInt32 >>> ((2 : Int32) &&& 31).toUInt32).toInt32) &&& (3 : Int32))), .val (.ref b2), .val (.ref b6), .val (.long (own_con (p5 &&& (3 : Int32)) p1)), .second, .val (.long (own_con (((p5.toUInt32 >>> ((2 : Int32) &&& 31).toUInt32).toInt32) &&& (3 : Int32)) p3)), .second, .val (.ref b18), .val (.ref b38), .unset, .unset, .unset, .unset] [])) t → Steps p.tables e below (s₁.setTop (entryFrame m #[(.int p1), (.int p2), (.int p3), (.int p4), (.int p5)] maxLocals)) t := fun t kt => k65 t (st66.trans kt)
  obtain ⟨T77, h77, X77, e77, E77, A77, D77, -, st77⟩ := newO X66 hx hZ hown (hw _ (List.mem_of_getElem? (i := 8) rfl)) (hw _ (List.mem_of_getElem? (i := 9) rfl)) (hw _ (List.mem_of_getElem? (i := 10) rfl)) rfl (g := (mkF m 87 #[.val (.int p1), .val (.int p2), .val (.int p3), .val (.int p4), .val (.int p5), .val (.int (p5 &&& (3 : Int32))), .val (.int (((p5.toUInt32 >>> ((2 : Int32) &&& 31).toUInt32).toInt32) &&& (3 : Int32))), .val (.ref b2), .val (.ref b6), .val (.long (own_con (p5 &&& (3 : Int32)) p1)), .second, .val (.long (own_con (((p5.toUInt32 >>> ((2 : Int32) &&& 31).toUInt32).toInt32) &&& (3 : Int32)) p3)), .second, .val (.ref b18), .val (.ref b38), .unset, .unset, .unset, .unset] [])) rfl (hb hby at_87) (by decide) (by decide)
  obtain ⟨b77, g77⟩ : ∃ z, z = T66.heap.size := ⟨_, rfl⟩
  rw [← g77] at A77 D77 st77
  have g_b77 : n0 ≤ b77 := Nat.le_trans Z75 (Nat.le_of_eq g77.symm)
  have sz_b77 : h0.size ≤ b77 := Nat.le_trans K75.1 (Nat.le_of_eq g77.symm)
  have ne78 : b2 ≠ b77 := Nat.ne_of_lt (Nat.lt_of_lt_of_le F67.lt (Nat.le_of_eq g77.symm))
  have ne79 : b6 ≠ b77 := Nat.ne_of_lt (Nat.lt_of_lt_of_le F68.lt (Nat.le_of_eq g77.symm))
  have ne80 : b18 ≠ b77 := Nat.ne_of_lt (Nat.lt_of_lt_of_le F69.lt (Nat.le_of_eq g77.symm))
  have ne81 : b38 ≠ b77 := Nat.ne_of_lt (Nat.lt_of_lt_of_le F72.lt (Nat.le_of_eq g77.symm))
  have F82 := F67.ext E77
  have F83 := F68.ext E77
  have F84 := F69.ext E77
  have F85 := F70.ext E77
  have F86 := F71.ext E77
  have F87 := F72.ext E77
  have F88 := Fc66.ext E77
  have F89 := Fs66.ext E77
  have Z77 : n0 ≤ h77.size := Nat.le_trans Z75 E77.1
  have K77 : Keep h0 h77 [] := K75.ext E77
  have F90 : Fld Z h77 b77 "com/example/disk_to_queue/disktoqueue/bench/BodySum" "count" "J" (.long (0 : Int64)) := D77 (Or.inl (hw _ (List.mem_of_getElem? (i := 23) rfl))) (ty := .long) (by decide)
  have F91 : Fld Z h77 b77 "com/example/disk_to_queue/disktoqueue/bench/BodySum" "sum" "J" (.long (0 : Int64)) := D77 (Or.inl (hw _ (List.mem_of_getElem? (i := 25) rfl))) (ty := .long) (by decide)
  have k92 : ∀ t, Steps p.tables e below (T77.setTop (mkF m 90 #[.val (.int p1), .val (.int p2), .val (.int p3), .val (.int p4), .val (.int p5), .val (.int (p5 &&& (3 : Int32))), .val (.int (((p5.toUInt32 >>> ((2 : Int32) &&& 31).toUInt32).toInt32) &&& (3 : Int32))), .val (.ref b2), .val (.ref b6), .val (.long (own_con (p5 &&& (3 : Int32)) p1)), .second, .val (.long (own_con (((p5.toUInt32 >>> ((2 : Int32) &&& 31).toUInt32).toInt32) &&& (3 : Int32)) p3)), .second, .val (.ref b18), .val (.ref b38), .unset, .unset, .unset, .unset] [(.ref b77)])) t → Steps p.tables e below (s₁.setTop (entryFrame m #[(.int p1), (.int p2), (.int p3), (.int p4), (.int p5)] maxLocals)) t := fun t kt => k76 t (st77 t kt)
  have k93 : ∀ t, Steps p.tables e below (T77.setTop (mkF m 91 #[.val (.int p1), .val (.int p2), .val (.int p3), .val (.int p4), .val (.int p5), .val (.int (p5 &&& (3 : Int32))), .val (.int (((p5.toUInt32 >>> ((2 : Int32) &&& 31).toUInt32).toInt32) &&& (3 : Int32))), .val (.ref b2), .val (.ref b6), .val (.long (own_con (p5 &&& (3 : Int32)) p1)), .second, .val (.long (own_con (((p5.toUInt32 >>> ((2 : Int32) &&& 31).toUInt32).toInt32) &&& (3 : Int32)) p3)), .second, .val (.ref b18), .val (.ref b38), .unset, .unset, .unset, .unset] [(.ref b77), (.ref b77)])) t → Steps p.tables e below (s₁.setTop (entryFrame m #[(.int p1), (.int p2), (.int p3), (.int p4), (.int p5)] maxLocals)) t := by
    intro t kt
    refine k92 t ?_
    show Steps p.tables e below (T77.setTop (mkF m 90 #[.val (.int p1), .val (.int p2), .val (.int p3), .val (.int p4), .val (.int p5), .val (.int (p5 &&& (3 : Int32))), .val (.int (((p5.toUInt32 >>> ((2 : Int32) &&& 31).toUInt32).toInt32) &&& (3 : Int32))), .val (.ref b2), .val (.ref b6), .val (.long (own_con (p5 &&& (3 : Int32)) p1)), .second, .val (.long (own_con (((p5.toUInt32 >>> ((2 : Int32) &&& 31).toUInt32).toInt32) &&& (3 : Int32)) p3)), .second, .val (.ref b18), .val (.ref b38), .unset, .unset, .unset, .unset] [(.ref b77)])) t
    refine XS.dup X77.here hx rfl (hb hby at_90) rfl rfl ?_
    exact kt
  obtain ⟨_, _, ⟨T94, L94, k94c, n94⟩, -, X94, ⟨Lc94, hQ94, l94, y94, z94⟩, st94⟩ := X77.specialBack hx (y := (⟨"com/example/disk_to_queue/disktoqueue/bench/BodySum", "<init>", "()V"⟩ : MethodName)) rfl hown (mvT hZ (hw _ (List.mem_of_getElem? (i := 11) rfl))) (mvT hZ (hw _ (List.mem_of_getElem? (i := 12) rfl))) (mvT hZ (hw _ (List.mem_of_getElem? (i := 13) rfl))) (by decide) (backOf (W := 1) (rmI l Z a0 hw [] b77 h77 n0 Z77) hZ (hw _ (List.mem_of_getElem? (i := 13) rfl)) (hw _ (List.mem_of_getElem? (i := 10) rfl)) (by decide) (by decide)) (g := (mkF m 91 #[.val (.int p1), .val (.int p2), .val (.int p3), .val (.int p4), .val (.int p5), .val (.int (p5 &&& (3 : Int32))), .val (.int (((p5.toUInt32 >>> ((2 : Int32) &&& 31).toUInt32).toInt32) &&& (3 : Int32))), .val (.ref b2), .val (.ref b6), .val (.long (own_con (p5 &&& (3 : Int32)) p1)), .second, .val (.long (own_con (((p5.toUInt32 >>> ((2 : Int32) &&& 31).toUInt32).toInt32) &&& (3 : Int32)) p3)), .second, .val (.ref b18), .val (.ref b38), .unset, .unset, .unset, .unset] [(.ref b77), (.ref b77)])) rfl (by rw [hml]; rfl) (Steps.refl _) (a := b77) (argsL := []) (rest := [(.ref b77)]) (lenOf own_pd3 rfl) rfl (by show 2 * 0 + _ ≤ _; exact Nat.le_of_eq rfl) (hb hby at_91) (fun _ _ => ⟨rfl, e77, (by decide : 5 + 0 ≤ _), (by decide : 12 + 0 ≤ _)⟩)
  dsimp only [Pt.U, Pt.locs, Pt.cells, Pt.slots] at X94 l94 y94 z94 st94 hQ94
  subst l94 y94 z94
  obtain ⟨rfl, N94q, e94⟩ := hQ94
  have N94 := Fr.app N66 N94q
  have k95 : ∀ t, Steps p.tables e below (T94.setTop (mkF m 94 #[.val (.int p1), .val (.int p2), .val (.int p3), .val (.int p4), .val (.int p5), .val (.int (p5 &&& (3 : Int32))), .val (.int (((p5.toUInt32 >>> ((2 : Int32) &&& 31).toUInt32).toInt32) &&& (3 : Int32))), .val (.ref b2), .val (.ref b6), .val (.long (own_con (p5 &&& (3 : Int32)) p1)), .second, .val (.long (own_con (((p5.toUInt32 >>> ((2 : Int32) &&& 31).toUInt32).toInt32) &&& (3 : Int32)) p3)), .second, .val (.ref b18), .val (.ref b38), .unset, .unset, .unset, .unset] [(.ref b77)])) t → Steps p.tables e below (s₁.setTop (entryFrame m #[(.int p1), (.int p2), (.int p3), (.int p4), (.int p5)] maxLocals)) t := fun t kt => k93 t (st94.trans kt)
  have k96 : ∀ t, Steps p.tables e below (T94.setTop (mkF m 100 #[.val (.int p1), .val (.int p2), .val (.int p3), .val (.int p4), .val (.int p5), .val (.int (p5 &&& (3 : Int32))), .val (.int (((p5.toUInt32 >>> ((2 : Int32) &&& 31).toUInt32).toInt32) &&& (3 : Int32))), .val (.ref b2), .val (.ref b6), .val (.long (own_con (p5 &&& (3 : Int32)) p1)), .second, .val (.long (own_con (((p5.toUInt32 >>> ((2 : Int32) &&& 31).toUInt32).toInt32) &&& (3 : Int32)) p3)), .second, .val (.ref b18), .val (.ref b38), .val (.ref b77), .unset, .unset, .unset] [(.ref b6), (.ref b77)])) t → Steps p.tables e below (s₁.setTop (entryFrame m #[(.int p1), (.int p2), (.int p3), (.int p4), (.int p5)] maxLocals)) t := by
    intro t kt
    refine k95 t ?_
    show Steps p.tables e below (T94.setTop (mkF m 94 #[.val (.int p1), .val (.int p2), .val (.int p3), .val (.int p4), .val (.int p5), .val (.int (p5 &&& (3 : Int32))), .val (.int (((p5.toUInt32 >>> ((2 : Int32) &&& 31).toUInt32).toInt32) &&& (3 : Int32))), .val (.ref b2), .val (.ref b6), .val (.long (own_con (p5 &&& (3 : Int32)) p1)), .second, .val (.long (own_con (((p5.toUInt32 >>> ((2 : Int32) &&& 31).toUInt32).toInt32) &&& (3 : Int32)) p3)), .second, .val (.ref b18), .val (.ref b38), .unset, .unset, .unset, .unset] [(.ref b77)])) t
    refine XS.astore X94.here hx rfl (hb hby at_94) rfl rfl (l' := #[.val (.int p1), .val (.int p2), .val (.int p3), .val (.int p4), .val (.int p5), .val (.int (p5 &&& (3 : Int32))), .val (.int (((p5.toUInt32 >>> ((2 : Int32) &&& 31).toUInt32).toInt32) &&& (3 : Int32))), .val (.ref b2), .val (.ref b6), .val (.long (own_con (p5 &&& (3 : Int32)) p1)), .second, .val (.long (own_con (((p5.toUInt32 >>> ((2 : Int32) &&& 31).toUInt32).toInt32) &&& (3 : Int32)) p3)), .second, .val (.ref b18), .val (.ref b38), .val (.ref b77), .unset, .unset, .unset]) rfl ?_
    show Steps p.tables e below (T94.setTop (mkF m 96 #[.val (.int p1), .val (.int p2), .val (.int p3), .val (.int p4), .val (.int p5), .val (.int (p5 &&& (3 : Int32))), .val (.int (((p5.toUInt32 >>> ((2 : Int32) &&& 31).toUInt32).toInt32) &&& (3 : Int32))), .val (.ref b2), .val (.ref b6), .val (.long (own_con (p5 &&& (3 : Int32)) p1)), .second, .val (.long (own_con (((p5.toUInt32 >>> ((2 : Int32) &&& 31).toUInt32).toInt32) &&& (3 : Int32)) p3)), .second, .val (.ref b18), .val (.ref b38), .val (.ref b77), .unset, .unset, .unset] [])) t
    refine XS.aload X94.here hx rfl (hb hby at_96) rfl rfl ?_
    show Steps p.tables e below (T94.setTop (mkF m 98 #[.val (.int p1), .val (.int p2), .val (.int p3), .val (.int p4), .val (.int p5), .val (.int (p5 &&& (3 : Int32))), .val (.int (((p5.toUInt32 >>> ((2 : Int32) &&& 31).toUInt32).toInt32) &&& (3 : Int32))), .val (.ref b2), .val (.ref b6), .val (.long (own_con (p5 &&& (3 : Int32)) p1)), .second, .val (.long (own_con (((p5.toUInt32 >>> ((2 : Int32) &&& 31).toUInt32).toInt32) &&& (3 : Int32)) p3)), .second, .val (.ref b18), .val (.ref b38), .val (.ref b77), .unset, .unset, .unset] [(.ref b77)])) t
    refine XS.aload X94.here hx rfl (hb hby at_98) rfl rfl ?_
    exact kt
  obtain ⟨cq97, kq97, q97a, q97b, q97c⟩ := isOf hZ e94 A77
  obtain ⟨_, _, ⟨T97, L97, k97c, n97⟩, -, X97, ⟨Lc97, hQ97, l97, y97, z97⟩, st97⟩ := X94.virtualBack hx (y := (⟨"com/example/disk_to_queue/disktoqueue/bench/BodySum", "add", "([B)V"⟩ : MethodName)) (z := (⟨"com/example/disk_to_queue/disktoqueue/bench/BodySum", "add", "([B)V"⟩ : MethodName)) hown (mvT hZ (hw _ (List.mem_of_getElem? (i := 17) rfl))) (mvT hZ (hw _ (List.mem_of_getElem? (i := 18) rfl))) (notFace_of_selects (args := #[]) (mvT hZ (hw _ (List.mem_of_getElem? (i := 20) rfl)))) (mvT hZ (hw _ (List.mem_of_getElem? (i := 20) rfl))) (mvT hZ (hw _ (List.mem_of_getElem? (i := 19) rfl))) (by decide) (backOf (W := 0) (rmA l Z a0 hw [] b77 b6 (0 : Int64) (0 : Int64) (((p5.toUInt32 >>> ((2 : Int32) &&& 31).toUInt32).toInt32) &&& (3 : Int32)) (p3.toInt8.toInt32) c6 vs6 h77 n0 Z77 F90 F91 A77 F83 hv6 g_b77 ne79) hZ (hw _ (List.mem_of_getElem? (i := 21) rfl)) (hw _ (List.mem_of_getElem? (i := 10) rfl)) (by decide) (by decide)) q97a q97c (g := (mkF m 100 #[.val (.int p1), .val (.int p2), .val (.int p3), .val (.int p4), .val (.int p5), .val (.int (p5 &&& (3 : Int32))), .val (.int (((p5.toUInt32 >>> ((2 : Int32) &&& 31).toUInt32).toInt32) &&& (3 : Int32))), .val (.ref b2), .val (.ref b6), .val (.long (own_con (p5 &&& (3 : Int32)) p1)), .second, .val (.long (own_con (((p5.toUInt32 >>> ((2 : Int32) &&& 31).toUInt32).toInt32) &&& (3 : Int32)) p3)), .second, .val (.ref b18), .val (.ref b38), .val (.ref b77), .unset, .unset, .unset] [(.ref b6), (.ref b77)])) rfl (by rw [hml]; rfl) (Steps.refl _) (argsL := [(.ref b6)]) (rest := []) (lenOf own_pd4 rfl) rfl (by show 2 * 0 + _ ≤ _; exact Nat.le_of_eq rfl) (hb hby at_100) (fun _ _ => ⟨rfl, e94, (by decide : 5 + 0 ≤ _), (by decide : 12 + 0 ≤ _)⟩)
  dsimp only [Pt.U, Pt.locs, Pt.cells, Pt.slots] at X97 l97 y97 z97 st97 hQ97
  subst l97 y97 z97
  obtain ⟨rfl, N97q, K97k, -, Fc97, Fs97⟩ := hQ97
  have N97 := Fr.app N94 N97q
  have F98 := F82.keep K97k (ninS ne78 nin0)
  have F99 := F83.keep K97k (ninS ne79 nin0)
  have F100 := F84.keep K97k
  have F101 := F85.keep K97k (ninS ne80 nin0)
  have F102 := F86.keep K97k (ninS ne80 nin0)
  have F103 := F87.keep K97k
  have F104 := F88.keep K97k (ninS ne81 nin0)
  have F105 := F89.keep K97k (ninS ne81 nin0)
  have F106 := A77.keep K97k
  have Z109 : n0 ≤ T97.heap.size := Nat.le_trans Z77 K97k.1
  have K109 : Keep h0 T97.heap [] := K77.trans K97k (allS (Or.inr sz_b77) all0)
  have k110 : ∀ t, Steps p.tables e below (T97.setTop (mkF m 103 #[.val (.int p1), .val (.int p2), .val (.int p3), .val (.int p4), .val (.int p5), .val (.int (p5 &&& (3 : Int32))), .val (.int (((p5.toUInt32 >>> ((2 : Int32) &&& 31).toUInt32).toInt32) &&& (3 : Int32))), .val (.ref b2), .val (.ref b6), .val (.long (own_con (p5 &&& (3 : Int32)) p1)), .second, .val (.long (own_con (((p5.toUInt32 >>> ((2 : Int32) &&& 31).toUInt32).toInt32) &&& (3 : Int32)) p3)), .second, .val (.ref b18), .val (.ref b38), .val (.ref b77), .unset, .unset, .unset] [])) t → Steps p.tables e below (s₁.setTop (entryFrame m #[(.int p1), (.int p2), (.int p3), (.int p4), (.int p5)] maxLocals)) t := fun t kt => k96 t (st97.trans kt)
  have k111 : ∀ t, Steps p.tables e below (T97.setTop (mkF m 105 #[.val (.int p1), .val (.int p2), .val (.int p3), .val (.int p4), .val (.int p5), .val (.int (p5 &&& (3 : Int32))), .val (.int (((p5.toUInt32 >>> ((2 : Int32) &&& 31).toUInt32).toInt32) &&& (3 : Int32))), .val (.ref b2), .val (.ref b6), .val (.long (own_con (p5 &&& (3 : Int32)) p1)), .second, .val (.long (own_con (((p5.toUInt32 >>> ((2 : Int32) &&& 31).toUInt32).toInt32) &&& (3 : Int32)) p3)), .second, .val (.ref b18), .val (.ref b38), .val (.ref b77), .unset, .unset, .unset] [(.ref b18)])) t → Steps p.tables e below (s₁.setTop (entryFrame m #[(.int p1), (.int p2), (.int p3), (.int p4), (.int p5)] maxLocals)) t := by
    intro t kt
    refine k110 t ?_
    show Steps p.tables e below (T97.setTop (mkF m 103 #[.val (.int p1), .val (.int p2), .val (.int p3), .val (.int p4), .val (.int p5), .val (.int (p5 &&& (3 : Int32))), .val (.int (((p5.toUInt32 >>> ((2 : Int32) &&& 31).toUInt32).toInt32) &&& (3 : Int32))), .val (.ref b2), .val (.ref b6), .val (.long (own_con (p5 &&& (3 : Int32)) p1)), .second, .val (.long (own_con (((p5.toUInt32 >>> ((2 : Int32) &&& 31).toUInt32).toInt32) &&& (3 : Int32)) p3)), .second, .val (.ref b18), .val (.ref b38), .val (.ref b77), .unset, .unset, .unset] [])) t
    refine XS.aload X97.here hx rfl (hb hby at_103) rfl rfl ?_
    exact kt
  obtain ⟨cq112, kq112, q112a, q112b, q112c⟩ := isOf hZ rfl F100
  obtain ⟨_, _, ⟨T112, L112, k112c, n112⟩, -, X112, ⟨Lc112, hQ112, l112, y112, z112⟩, st112⟩ := X97.virtualBack hx (y := (⟨"com/example/disk_to_queue/disktoqueue/bench/BodySum", "hashCode", "()I"⟩ : MethodName)) (z := (⟨"com/example/disk_to_queue/disktoqueue/bench/BodySum", "hashCode", "()I"⟩ : MethodName)) hown (mvT hZ (hw _ (List.mem_of_getElem? (i := 26) rfl))) (mvT hZ (hw _ (List.mem_of_getElem? (i := 27) rfl))) (notFace_of_selects (args := #[]) (mvT hZ (hw _ (List.mem_of_getElem? (i := 29) rfl)))) (mvT hZ (hw _ (List.mem_of_getElem? (i := 29) rfl))) (mvT hZ (hw _ (List.mem_of_getElem? (i := 28) rfl))) (by decide) (backOf (W := 0) (rmH l Z a0 hw [] b18 ((0 : Int64) + (1 : Int64)) ((0 : Int64) + (own_add (p5 &&& (3 : Int32)) (p1.toInt8.toInt32))) T97.heap n0 Z109 F101 F102) hZ (hw _ (List.mem_of_getElem? (i := 30) rfl)) (hw _ (List.mem_of_getElem? (i := 10) rfl)) (by decide) (by decide)) q112a q112c (g := (mkF m 105 #[.val (.int p1), .val (.int p2), .val (.int p3), .val (.int p4), .val (.int p5), .val (.int (p5 &&& (3 : Int32))), .val (.int (((p5.toUInt32 >>> ((2 : Int32) &&& 31).toUInt32).toInt32) &&& (3 : Int32))), .val (.ref b2), .val (.ref b6), .val (.long (own_con (p5 &&& (3 : Int32)) p1)), .second, .val (.long (own_con (((p5.toUInt32 >>> ((2 : Int32) &&& 31).toUInt32).toInt32) &&& (3 : Int32)) p3)), .second, .val (.ref b18), .val (.ref b38), .val (.ref b77), .unset, .unset, .unset] [(.ref b18)])) rfl (by rw [hml]; rfl) (Steps.refl _) (argsL := []) (rest := []) (lenOf own_pd5 rfl) rfl (by show 2 * 0 + _ ≤ _; exact Nat.le_of_eq rfl) (hb hby at_105) (fun _ _ => ⟨rfl, rfl, (by decide : 5 + 0 ≤ _), (by decide : 12 + 0 ≤ _)⟩)
  dsimp only [Pt.U, Pt.locs, Pt.cells, Pt.slots] at X112 l112 y112 z112 st112 hQ112
  subst l112 y112 z112
  obtain ⟨rfl, N112q, e112⟩ := hQ112
  have N112 := Fr.app N97 N112q
  have k113 : ∀ t, Steps p.tables e below (T112.setTop (mkF m 108 #[.val (.int p1), .val (.int p2), .val (.int p3), .val (.int p4), .val (.int p5), .val (.int (p5 &&& (3 : Int32))), .val (.int (((p5.toUInt32 >>> ((2 : Int32) &&& 31).toUInt32).toInt32) &&& (3 : Int32))), .val (.ref b2), .val (.ref b6), .val (.long (own_con (p5 &&& (3 : Int32)) p1)), .second, .val (.long (own_con (((p5.toUInt32 >>> ((2 : Int32) &&& 31).toUInt32).toInt32) &&& (3 : Int32)) p3)), .second, .val (.ref b18), .val (.ref b38), .val (.ref b77), .unset, .unset, .unset] [(.int (own_hash (((31 : Int64) * ((0 : Int64) + (1 : Int64))) + ((0 : Int64) + (own_add (p5 &&& (3 : Int32)) (p1.toInt8.toInt32))))))])) t → Steps p.tables e below (s₁.setTop (entryFrame m #[(.int p1), (.int p2), (.int p3), (.int p4), (.int p5)] maxLocals)) t := fun t kt => k111 t (st112.trans kt)
  have k114 : ∀ t, Steps p.tables e below (T112.setTop (mkF m 114 #[.val (.int p1), .val (.int p2), .val (.int p3), .val (.int p4), .val (.int p5), .val (.int (p5 &&& (3 : Int32))), .val (.int (((p5.toUInt32 >>> ((2 : Int32) &&& 31).toUInt32).toInt32) &&& (3 : Int32))), .val (.ref b2), .val (.ref b6), .val (.long (own_con (p5 &&& (3 : Int32)) p1)), .second, .val (.long (own_con (((p5.toUInt32 >>> ((2 : Int32) &&& 31).toUInt32).toInt32) &&& (3 : Int32)) p3)), .second, .val (.ref b18), .val (.ref b38), .val (.ref b77), .unset, .unset, .unset] [(.long ((31 : Int64) + (own_con (p5 &&& (3 : Int32)) p1))), (.int (own_hash (((31 : Int64) * ((0 : Int64) + (1 : Int64))) + ((0 : Int64) + (own_add (p5 &&& (3 : Int32)) (p1.toInt8.toInt32))))))])) t → Steps p.tables e below (s₁.setTop (entryFrame m #[(.int p1), (.int p2), (.int p3), (.int p4), (.int p5)] maxLocals)) t := by
    intro t kt
    refine k113 t ?_
    show Steps p.tables e below (T112.setTop (mkF m 108 #[.val (.int p1), .val (.int p2), .val (.int p3), .val (.int p4), .val (.int p5), .val (.int (p5 &&& (3 : Int32))), .val (.int (((p5.toUInt32 >>> ((2 : Int32) &&& 31).toUInt32).toInt32) &&& (3 : Int32))), .val (.ref b2), .val (.ref b6), .val (.long (own_con (p5 &&& (3 : Int32)) p1)), .second, .val (.long (own_con (((p5.toUInt32 >>> ((2 : Int32) &&& 31).toUInt32).toInt32) &&& (3 : Int32)) p3)), .second, .val (.ref b18), .val (.ref b38), .val (.ref b77), .unset, .unset, .unset] [(.int (own_hash (((31 : Int64) * ((0 : Int64) + (1 : Int64))) + ((0 : Int64) + (own_add (p5 &&& (3 : Int32)) (p1.toInt8.toInt32))))))])) t
    refine X112.ldc2Long hx hown (mvT hZ (hw _ (List.mem_of_getElem? (i := 36) rfl))) (g := (mkF m 108 #[.val (.int p1), .val (.int p2), .val (.int p3), .val (.int p4), .val (.int p5), .val (.int (p5 &&& (3 : Int32))), .val (.int (((p5.toUInt32 >>> ((2 : Int32) &&& 31).toUInt32).toInt32) &&& (3 : Int32))), .val (.ref b2), .val (.ref b6), .val (.long (own_con (p5 &&& (3 : Int32)) p1)), .second, .val (.long (own_con (((p5.toUInt32 >>> ((2 : Int32) &&& 31).toUInt32).toInt32) &&& (3 : Int32)) p3)), .second, .val (.ref b18), .val (.ref b38), .val (.ref b77), .unset, .unset, .unset] [(.int (own_hash (((31 : Int64) * ((0 : Int64) + (1 : Int64))) + ((0 : Int64) + (own_add (p5 &&& (3 : Int32)) (p1.toInt8.toInt32))))))])) rfl (hb hby at_108) _ ?_
    show Steps p.tables e below (T112.setTop (mkF m 111 #[.val (.int p1), .val (.int p2), .val (.int p3), .val (.int p4), .val (.int p5), .val (.int (p5 &&& (3 : Int32))), .val (.int (((p5.toUInt32 >>> ((2 : Int32) &&& 31).toUInt32).toInt32) &&& (3 : Int32))), .val (.ref b2), .val (.ref b6), .val (.long (own_con (p5 &&& (3 : Int32)) p1)), .second, .val (.long (own_con (((p5.toUInt32 >>> ((2 : Int32) &&& 31).toUInt32).toInt32) &&& (3 : Int32)) p3)), .second, .val (.ref b18), .val (.ref b38), .val (.ref b77), .unset, .unset, .unset] [(.long (31 : Int64)), (.int (own_hash (((31 : Int64) * ((0 : Int64) + (1 : Int64))) + ((0 : Int64) + (own_add (p5 &&& (3 : Int32)) (p1.toInt8.toInt32))))))])) t
    refine XS.lload X112.here hx rfl (hb hby at_111) rfl ?_
    show Steps p.tables e below (T112.setTop (mkF m 113 #[.val (.int p1), .val (.int p2), .val (.int p3), .val (.int p4), .val (.int p5), .val (.int (p5 &&& (3 : Int32))), .val (.int (((p5.toUInt32 >>> ((2 : Int32) &&& 31).toUInt32).toInt32) &&& (3 : Int32))), .val (.ref b2), .val (.ref b6), .val (.long (own_con (p5 &&& (3 : Int32)) p1)), .second, .val (.long (own_con (((p5.toUInt32 >>> ((2 : Int32) &&& 31).toUInt32).toInt32) &&& (3 : Int32)) p3)), .second, .val (.ref b18), .val (.ref b38), .val (.ref b77), .unset, .unset, .unset] [(.long (own_con (p5 &&& (3 : Int32)) p1)), (.long (31 : Int64)), (.int (own_hash (((31 : Int64) * ((0 : Int64) + (1 : Int64))) + ((0 : Int64) + (own_add (p5 &&& (3 : Int32)) (p1.toInt8.toInt32))))))])) t
    refine XS.ladd X112.here hx rfl (hb hby at_113) rfl ?_
    exact kt
  obtain ⟨_, _, ⟨T115, L115, k115c, n115⟩, -, X115, ⟨Lc115, hQ115, l115, y115, z115⟩, st115⟩ := Jvm.LawKit.callS X112 hx (y := (⟨"com/example/disk_to_queue/disktoqueue/bench/BodySumAddPinLaw", "hashOf", "(J)I"⟩ : MethodName)) hown (mvT hZ (hw _ (List.mem_of_getElem? (i := 37) rfl))) (mvT hZ (hw _ (List.mem_of_getElem? (i := 38) rfl))) (mvT hZ (hw _ (List.mem_of_getElem? (i := 2) rfl))) (mvT hZ (hw _ (List.mem_of_getElem? (i := 39) rfl))) (by decide) (backOf (W := 1) (rmO l Z a0 hw [] ((31 : Int64) + (own_con (p5 &&& (3 : Int32)) p1)) T97.heap n0 Z109) hZ (hw _ (List.mem_of_getElem? (i := 39) rfl)) (hw _ (List.mem_of_getElem? (i := 2) rfl)) (by decide) (by decide)) (g := (mkF m 114 #[.val (.int p1), .val (.int p2), .val (.int p3), .val (.int p4), .val (.int p5), .val (.int (p5 &&& (3 : Int32))), .val (.int (((p5.toUInt32 >>> ((2 : Int32) &&& 31).toUInt32).toInt32) &&& (3 : Int32))), .val (.ref b2), .val (.ref b6), .val (.long (own_con (p5 &&& (3 : Int32)) p1)), .second, .val (.long (own_con (((p5.toUInt32 >>> ((2 : Int32) &&& 31).toUInt32).toInt32) &&& (3 : Int32)) p3)), .second, .val (.ref b18), .val (.ref b38), .val (.ref b77), .unset, .unset, .unset] [(.long ((31 : Int64) + (own_con (p5 &&& (3 : Int32)) p1))), (.int (own_hash (((31 : Int64) * ((0 : Int64) + (1 : Int64))) + ((0 : Int64) + (own_add (p5 &&& (3 : Int32)) (p1.toInt8.toInt32))))))])) rfl (by rw [hml]; rfl) (argsL := [(.long ((31 : Int64) + (own_con (p5 &&& (3 : Int32)) p1)))]) (rest := [(.int (own_hash (((31 : Int64) * ((0 : Int64) + (1 : Int64))) + ((0 : Int64) + (own_add (p5 &&& (3 : Int32)) (p1.toInt8.toInt32))))))]) (lenOf own_pd0 rfl) rfl (by show 2 * 0 + _ ≤ _; exact Nat.le_of_eq rfl) (hb hby at_114) (fun _ _ => ⟨rfl, e112, (by decide : 5 + 0 ≤ _), (by decide : 12 + 0 ≤ _)⟩)
  dsimp only [Pt.U, Pt.locs, Pt.cells, Pt.slots] at X115 l115 y115 z115 st115 hQ115
  subst l115 y115 z115
  obtain ⟨rfl, N115q, e115⟩ := hQ115
  have N115 := Fr.app N112 N115q
  have k116 : ∀ t, Steps p.tables e below (T115.setTop (mkF m 117 #[.val (.int p1), .val (.int p2), .val (.int p3), .val (.int p4), .val (.int p5), .val (.int (p5 &&& (3 : Int32))), .val (.int (((p5.toUInt32 >>> ((2 : Int32) &&& 31).toUInt32).toInt32) &&& (3 : Int32))), .val (.ref b2), .val (.ref b6), .val (.long (own_con (p5 &&& (3 : Int32)) p1)), .second, .val (.long (own_con (((p5.toUInt32 >>> ((2 : Int32) &&& 31).toUInt32).toInt32) &&& (3 : Int32)) p3)), .second, .val (.ref b18), .val (.ref b38), .val (.ref b77), .unset, .unset, .unset] [(.int (own_hash ((31 : Int64) + (own_con (p5 &&& (3 : Int32)) p1)))), (.int (own_hash (((31 : Int64) * ((0 : Int64) + (1 : Int64))) + ((0 : Int64) + (own_add (p5 &&& (3 : Int32)) (p1.toInt8.toInt32))))))])) t → Steps p.tables e below (s₁.setTop (entryFrame m #[(.int p1), (.int p2), (.int p3), (.int p4), (.int p5)] maxLocals)) t := fun t kt => k114 t (st115 t kt)
  have hc117_117 : (own_hash (((31 : Int64) * ((0 : Int64) + (1 : Int64))) + ((0 : Int64) + (own_add (p5 &&& (3 : Int32)) (p1.toInt8.toInt32))))) = (own_hash ((31 : Int64) + (own_con (p5 &&& (3 : Int32)) p1))) := congrArg own_hash (own_h1 _ _ (own_m3 _))
  have k118 : ∀ t, Steps p.tables e below (T115.setTop (mkF m 129 #[.val (.int p1), .val (.int p2), .val (.int p3), .val (.int p4), .val (.int p5), .val (.int (p5 &&& (3 : Int32))), .val (.int (((p5.toUInt32 >>> ((2 : Int32) &&& 31).toUInt32).toInt32) &&& (3 : Int32))), .val (.ref b2), .val (.ref b6), .val (.long (own_con (p5 &&& (3 : Int32)) p1)), .second, .val (.long (own_con (((p5.toUInt32 >>> ((2 : Int32) &&& 31).toUInt32).toInt32) &&& (3 : Int32)) p3)), .second, .val (.ref b18), .val (.ref b38), .val (.ref b77), .val (.int (1 : Int32)), .unset, .unset] [(.ref b38)])) t → Steps p.tables e below (s₁.setTop (entryFrame m #[(.int p1), (.int p2), (.int p3), (.int p4), (.int p5)] maxLocals)) t := by
    intro t kt
    refine k116 t ?_
    show Steps p.tables e below (T115.setTop (mkF m 117 #[.val (.int p1), .val (.int p2), .val (.int p3), .val (.int p4), .val (.int p5), .val (.int (p5 &&& (3 : Int32))), .val (.int (((p5.toUInt32 >>> ((2 : Int32) &&& 31).toUInt32).toInt32) &&& (3 : Int32))), .val (.ref b2), .val (.ref b6), .val (.long (own_con (p5 &&& (3 : Int32)) p1)), .second, .val (.long (own_con (((p5.toUInt32 >>> ((2 : Int32) &&& 31).toUInt32).toInt32) &&& (3 : Int32)) p3)), .second, .val (.ref b18), .val (.ref b38), .val (.ref b77), .unset, .unset, .unset] [(.int (own_hash ((31 : Int64) + (own_con (p5 &&& (3 : Int32)) p1)))), (.int (own_hash (((31 : Int64) * ((0 : Int64) + (1 : Int64))) + ((0 : Int64) + (own_add (p5 &&& (3 : Int32)) (p1.toInt8.toInt32))))))])) t
    refine XS.icmpNo X115.here hx rfl (hb hby at_117) rfl (teq hc117_117).2 ?_
    show Steps p.tables e below (T115.setTop (mkF m 120 #[.val (.int p1), .val (.int p2), .val (.int p3), .val (.int p4), .val (.int p5), .val (.int (p5 &&& (3 : Int32))), .val (.int (((p5.toUInt32 >>> ((2 : Int32) &&& 31).toUInt32).toInt32) &&& (3 : Int32))), .val (.ref b2), .val (.ref b6), .val (.long (own_con (p5 &&& (3 : Int32)) p1)), .second, .val (.long (own_con (((p5.toUInt32 >>> ((2 : Int32) &&& 31).toUInt32).toInt32) &&& (3 : Int32)) p3)), .second, .val (.ref b18), .val (.ref b38), .val (.ref b77), .unset, .unset, .unset] [])) t
    refine XS.iconst X115.here hx rfl (hb hby at_120) ?_
    show Steps p.tables e below (T115.setTop (mkF m 121 #[.val (.int p1), .val (.int p2), .val (.int p3), .val (.int p4), .val (.int p5), .val (.int (p5 &&& (3 : Int32))), .val (.int (((p5.toUInt32 >>> ((2 : Int32) &&& 31).toUInt32).toInt32) &&& (3 : Int32))), .val (.ref b2), .val (.ref b6), .val (.long (own_con (p5 &&& (3 : Int32)) p1)), .second, .val (.long (own_con (((p5.toUInt32 >>> ((2 : Int32) &&& 31).toUInt32).toInt32) &&& (3 : Int32)) p3)), .second, .val (.ref b18), .val (.ref b38), .val (.ref b77), .unset, .unset, .unset] [(.int (1 : Int32))])) t
    refine XS.goto X115.here hx rfl (pc0 := 121) (pc' := 125) rfl (hb hby at_121) (by decide) (by decide) ?_
    show Steps p.tables e below (T115.setTop (mkF m 125 #[.val (.int p1), .val (.int p2), .val (.int p3), .val (.int p4), .val (.int p5), .val (.int (p5 &&& (3 : Int32))), .val (.int (((p5.toUInt32 >>> ((2 : Int32) &&& 31).toUInt32).toInt32) &&& (3 : Int32))), .val (.ref b2), .val (.ref b6), .val (.long (own_con (p5 &&& (3 : Int32)) p1)), .second, .val (.long (own_con (((p5.toUInt32 >>> ((2 : Int32) &&& 31).toUInt32).toInt32) &&& (3 : Int32)) p3)), .second, .val (.ref b18), .val (.ref b38), .val (.ref b77), .unset, .unset, .unset] [(.int (1 : Int32))])) t
    refine XS.istore X115.here hx rfl (hb hby at_125) rfl (l' := #[.val (.int p1), .val (.int p2), .val (.int p3), .val (.int p4), .val (.int p5), .val (.int (p5 &&& (3 : Int32))), .val (.int (((p5.toUInt32 >>> ((2 : Int32) &&& 31).toUInt32).toInt32) &&& (3 : Int32))), .val (.ref b2), .val (.ref b6), .val (.long (own_con (p5 &&& (3 : Int32)) p1)), .second, .val (.long (own_con (((p5.toUInt32 >>> ((2 : Int32) &&& 31).toUInt32).toInt32) &&& (3 : Int32)) p3)), .second, .val (.ref b18), .val (.ref b38), .val (.ref b77), .val (.int (1 : Int32)), .unset, .unset]) rfl ?_
    show Steps p.tables e below (T115.setTop (mkF m 127 #[.val (.int p1), .val (.int p2), .val (.int p3), .val (.int p4), .val (.int p5), .val (.int (p5 &&& (3 : Int32))), .val (.int (((p5.toUInt32 >>> ((2 : Int32) &&& 31).toUInt32).toInt32) &&& (3 : Int32))), .val (.ref b2), .val (.ref b6), .val (.long (own_con (p5 &&& (3 : Int32)) p1)), .second, .val (.long (own_con (((p5.toUInt32 >>> ((2 : Int32) &&& 31).toUInt32).toInt32) &&& (3 : Int32)) p3)), .second, .val (.ref b18), .val (.ref b38), .val (.ref b77), .val (.int (1 : Int32)), .unset, .unset] [])) t
    refine XS.aload X115.here hx rfl (hb hby at_127) rfl rfl ?_
    exact kt
  obtain ⟨cq119, kq119, q119a, q119b, q119c⟩ := isOf hZ e115 F103
  obtain ⟨_, _, ⟨T119, L119, k119c, n119⟩, -, X119, ⟨Lc119, hQ119, l119, y119, z119⟩, st119⟩ := X115.virtualBack hx (y := (⟨"com/example/disk_to_queue/disktoqueue/bench/BodySum", "hashCode", "()I"⟩ : MethodName)) (z := (⟨"com/example/disk_to_queue/disktoqueue/bench/BodySum", "hashCode", "()I"⟩ : MethodName)) hown (mvT hZ (hw _ (List.mem_of_getElem? (i := 26) rfl))) (mvT hZ (hw _ (List.mem_of_getElem? (i := 27) rfl))) (notFace_of_selects (args := #[]) (mvT hZ (hw _ (List.mem_of_getElem? (i := 29) rfl)))) (mvT hZ (hw _ (List.mem_of_getElem? (i := 29) rfl))) (mvT hZ (hw _ (List.mem_of_getElem? (i := 28) rfl))) (by decide) (backOf (W := 0) (rmH l Z a0 hw [] b38 (((0 : Int64) + (1 : Int64)) + (1 : Int64)) (((0 : Int64) + (own_add (p5 &&& (3 : Int32)) (p1.toInt8.toInt32))) + (own_add (((p5.toUInt32 >>> ((2 : Int32) &&& 31).toUInt32).toInt32) &&& (3 : Int32)) (p3.toInt8.toInt32))) T97.heap n0 Z109 F104 F105) hZ (hw _ (List.mem_of_getElem? (i := 30) rfl)) (hw _ (List.mem_of_getElem? (i := 10) rfl)) (by decide) (by decide)) q119a q119c (g := (mkF m 129 #[.val (.int p1), .val (.int p2), .val (.int p3), .val (.int p4), .val (.int p5), .val (.int (p5 &&& (3 : Int32))), .val (.int (((p5.toUInt32 >>> ((2 : Int32) &&& 31).toUInt32).toInt32) &&& (3 : Int32))), .val (.ref b2), .val (.ref b6), .val (.long (own_con (p5 &&& (3 : Int32)) p1)), .second, .val (.long (own_con (((p5.toUInt32 >>> ((2 : Int32) &&& 31).toUInt32).toInt32) &&& (3 : Int32)) p3)), .second, .val (.ref b18), .val (.ref b38), .val (.ref b77), .val (.int (1 : Int32)), .unset, .unset] [(.ref b38)])) rfl (by rw [hml]; rfl) (Steps.refl _) (argsL := []) (rest := []) (lenOf own_pd5 rfl) rfl (by show 2 * 0 + _ ≤ _; exact Nat.le_of_eq rfl) (hb hby at_129) (fun _ _ => ⟨rfl, e115, (by decide : 5 + 0 ≤ _), (by decide : 12 + 0 ≤ _)⟩)
  dsimp only [Pt.U, Pt.locs, Pt.cells, Pt.slots] at X119 l119 y119 z119 st119 hQ119
  subst l119 y119 z119
  obtain ⟨rfl, N119q, e119⟩ := hQ119
  have N119 := Fr.app N115 N119q
  have k120 : ∀ t, Steps p.tables e below (T119.setTop (mkF m 132 #[.val (.int p1), .val (.int p2), .val (.int p3), .val (.int p4), .val (.int p5), .val (.int (p5 &&& (3 : Int32))), .val (.int (((p5.toUInt32 >>> ((2 : Int32) &&& 31).toUInt32).toInt32) &&& (3 : Int32))), .val (.ref b2), .val (.ref b6), .val (.long (own_con (p5 &&& (3 : Int32)) p1)), .second, .val (.long (own_con (((p5.toUInt32 >>> ((2 : Int32) &&& 31).toUInt32).toInt32) &&& (3 : Int32)) p3)), .second, .val (.ref b18), .val (.ref b38), .val (.ref b77), .val (.int (1 : Int32)), .unset, .unset] [(.int (own_hash (((31 : Int64) * (((0 : Int64) + (1 : Int64)) + (1 : Int64))) + (((0 : Int64) + (own_add (p5 &&& (3 : Int32)) (p1.toInt8.toInt32))) + (own_add (((p5.toUInt32 >>> ((2 : Int32) &&& 31).toUInt32).toInt32) &&& (3 : Int32)) (p3.toInt8.toInt32))))))])) t → Steps p.tables e below (s₁.setTop (entryFrame m #[(.int p1), (.int p2), (.int p3), (.int p4), (.int p5)] maxLocals)) t := fun t kt => k118 t (st119.trans kt)
  have k121 : ∀ t, Steps p.tables e below (T119.setTop (mkF m 141 #[.val (.int p1), .val (.int p2), .val (.int p3), .val (.int p4), .val (.int p5), .val (.int (p5 &&& (3 : Int32))), .val (.int (((p5.toUInt32 >>> ((2 : Int32) &&& 31).toUInt32).toInt32) &&& (3 : Int32))), .val (.ref b2), .val (.ref b6), .val (.long (own_con (p5 &&& (3 : Int32)) p1)), .second, .val (.long (own_con (((p5.toUInt32 >>> ((2 : Int32) &&& 31).toUInt32).toInt32) &&& (3 : Int32)) p3)), .second, .val (.ref b18), .val (.ref b38), .val (.ref b77), .val (.int (1 : Int32)), .unset, .unset] [(.long (((62 : Int64) + (own_con (p5 &&& (3 : Int32)) p1)) + (own_con (((p5.toUInt32 >>> ((2 : Int32) &&& 31).toUInt32).toInt32) &&& (3 : Int32)) p3))), (.int (own_hash (((31 : Int64) * (((0 : Int64) + (1 : Int64)) + (1 : Int64))) + (((0 : Int64) + (own_add (p5 &&& (3 : Int32)) (p1.toInt8.toInt32))) + (own_add (((p5.toUInt32 >>> ((2 : Int32) &&& 31).toUInt32).toInt32) &&& (3 : Int32)) (p3.toInt8.toInt32))))))])) t → Steps p.tables e below (s₁.setTop (entryFrame m #[(.int p1), (.int p2), (.int p3), (.int p4), (.int p5)] maxLocals)) t := by
    intro t kt
    refine k120 t ?_
    show Steps p.tables e below (T119.setTop (mkF m 132 #[.val (.int p1), .val (.int p2), .val (.int p3), .val (.int p4), .val (.int p5), .val (.int (p5 &&& (3 : Int32))), .val (.int (((p5.toUInt32 >>> ((2 : Int32) &&& 31).toUInt32).toInt32) &&& (3 : Int32))), .val (.ref b2), .val (.ref b6), .val (.long (own_con (p5 &&& (3 : Int32)) p1)), .second, .val (.long (own_con (((p5.toUInt32 >>> ((2 : Int32) &&& 31).toUInt32).toInt32) &&& (3 : Int32)) p3)), .second, .val (.ref b18), .val (.ref b38), .val (.ref b77), .val (.int (1 : Int32)), .unset, .unset] [(.int (own_hash (((31 : Int64) * (((0 : Int64) + (1 : Int64)) + (1 : Int64))) + (((0 : Int64) + (own_add (p5 &&& (3 : Int32)) (p1.toInt8.toInt32))) + (own_add (((p5.toUInt32 >>> ((2 : Int32) &&& 31).toUInt32).toInt32) &&& (3 : Int32)) (p3.toInt8.toInt32))))))])) t
    refine X119.ldc2Long hx hown (mvT hZ (hw _ (List.mem_of_getElem? (i := 40) rfl))) (g := (mkF m 132 #[.val (.int p1), .val (.int p2), .val (.int p3), .val (.int p4), .val (.int p5), .val (.int (p5 &&& (3 : Int32))), .val (.int (((p5.toUInt32 >>> ((2 : Int32) &&& 31).toUInt32).toInt32) &&& (3 : Int32))), .val (.ref b2), .val (.ref b6), .val (.long (own_con (p5 &&& (3 : Int32)) p1)), .second, .val (.long (own_con (((p5.toUInt32 >>> ((2 : Int32) &&& 31).toUInt32).toInt32) &&& (3 : Int32)) p3)), .second, .val (.ref b18), .val (.ref b38), .val (.ref b77), .val (.int (1 : Int32)), .unset, .unset] [(.int (own_hash (((31 : Int64) * (((0 : Int64) + (1 : Int64)) + (1 : Int64))) + (((0 : Int64) + (own_add (p5 &&& (3 : Int32)) (p1.toInt8.toInt32))) + (own_add (((p5.toUInt32 >>> ((2 : Int32) &&& 31).toUInt32).toInt32) &&& (3 : Int32)) (p3.toInt8.toInt32))))))])) rfl (hb hby at_132) _ ?_
    show Steps p.tables e below (T119.setTop (mkF m 135 #[.val (.int p1), .val (.int p2), .val (.int p3), .val (.int p4), .val (.int p5), .val (.int (p5 &&& (3 : Int32))), .val (.int (((p5.toUInt32 >>> ((2 : Int32) &&& 31).toUInt32).toInt32) &&& (3 : Int32))), .val (.ref b2), .val (.ref b6), .val (.long (own_con (p5 &&& (3 : Int32)) p1)), .second, .val (.long (own_con (((p5.toUInt32 >>> ((2 : Int32) &&& 31).toUInt32).toInt32) &&& (3 : Int32)) p3)), .second, .val (.ref b18), .val (.ref b38), .val (.ref b77), .val (.int (1 : Int32)), .unset, .unset] [(.long (62 : Int64)), (.int (own_hash (((31 : Int64) * (((0 : Int64) + (1 : Int64)) + (1 : Int64))) + (((0 : Int64) + (own_add (p5 &&& (3 : Int32)) (p1.toInt8.toInt32))) + (own_add (((p5.toUInt32 >>> ((2 : Int32) &&& 31).toUInt32).toInt32) &&& (3 : Int32)) (p3.toInt8.toInt32))))))])) t
    refine XS.lload X119.here hx rfl (hb hby at_135) rfl ?_
    show Steps p.tables e below (T119.setTop (mkF m 137 #[.val (.int p1), .val (.int p2), .val (.int p3), .val (.int p4), .val (.int p5), .val (.int (p5 &&& (3 : Int32))), .val (.int (((p5.toUInt32 >>> ((2 : Int32) &&& 31).toUInt32).toInt32) &&& (3 : Int32))), .val (.ref b2), .val (.ref b6), .val (.long (own_con (p5 &&& (3 : Int32)) p1)), .second, .val (.long (own_con (((p5.toUInt32 >>> ((2 : Int32) &&& 31).toUInt32).toInt32) &&& (3 : Int32)) p3)), .second, .val (.ref b18), .val (.ref b38), .val (.ref b77), .val (.int (1 : Int32)), .unset, .unset] [(.long (own_con (p5 &&& (3 : Int32)) p1)), (.long (62 : Int64)), (.int (own_hash (((31 : Int64) * (((0 : Int64) + (1 : Int64)) + (1 : Int64))) + (((0 : Int64) + (own_add (p5 &&& (3 : Int32)) (p1.toInt8.toInt32))) + (own_add (((p5.toUInt32 >>> ((2 : Int32) &&& 31).toUInt32).toInt32) &&& (3 : Int32)) (p3.toInt8.toInt32))))))])) t
    refine XS.ladd X119.here hx rfl (hb hby at_137) rfl ?_
    show Steps p.tables e below (T119.setTop (mkF m 138 #[.val (.int p1), .val (.int p2), .val (.int p3), .val (.int p4), .val (.int p5), .val (.int (p5 &&& (3 : Int32))), .val (.int (((p5.toUInt32 >>> ((2 : Int32) &&& 31).toUInt32).toInt32) &&& (3 : Int32))), .val (.ref b2), .val (.ref b6), .val (.long (own_con (p5 &&& (3 : Int32)) p1)), .second, .val (.long (own_con (((p5.toUInt32 >>> ((2 : Int32) &&& 31).toUInt32).toInt32) &&& (3 : Int32)) p3)), .second, .val (.ref b18), .val (.ref b38), .val (.ref b77), .val (.int (1 : Int32)), .unset, .unset] [(.long ((62 : Int64) + (own_con (p5 &&& (3 : Int32)) p1))), (.int (own_hash (((31 : Int64) * (((0 : Int64) + (1 : Int64)) + (1 : Int64))) + (((0 : Int64) + (own_add (p5 &&& (3 : Int32)) (p1.toInt8.toInt32))) + (own_add (((p5.toUInt32 >>> ((2 : Int32) &&& 31).toUInt32).toInt32) &&& (3 : Int32)) (p3.toInt8.toInt32))))))])) t
    refine XS.lload X119.here hx rfl (hb hby at_138) rfl ?_
    show Steps p.tables e below (T119.setTop (mkF m 140 #[.val (.int p1), .val (.int p2), .val (.int p3), .val (.int p4), .val (.int p5), .val (.int (p5 &&& (3 : Int32))), .val (.int (((p5.toUInt32 >>> ((2 : Int32) &&& 31).toUInt32).toInt32) &&& (3 : Int32))), .val (.ref b2), .val (.ref b6), .val (.long (own_con (p5 &&& (3 : Int32)) p1)), .second, .val (.long (own_con (((p5.toUInt32 >>> ((2 : Int32) &&& 31).toUInt32).toInt32) &&& (3 : Int32)) p3)), .second, .val (.ref b18), .val (.ref b38), .val (.ref b77), .val (.int (1 : Int32)), .unset, .unset] [(.long (own_con (((p5.toUInt32 >>> ((2 : Int32) &&& 31).toUInt32).toInt32) &&& (3 : Int32)) p3)), (.long ((62 : Int64) + (own_con (p5 &&& (3 : Int32)) p1))), (.int (own_hash (((31 : Int64) * (((0 : Int64) + (1 : Int64)) + (1 : Int64))) + (((0 : Int64) + (own_add (p5 &&& (3 : Int32)) (p1.toInt8.toInt32))) + (own_add (((p5.toUInt32 >>> ((2 : Int32) &&& 31).toUInt32).toInt32) &&& (3 : Int32)) (p3.toInt8.toInt32))))))])) t
    refine XS.ladd X119.here hx rfl (hb hby at_140) rfl ?_
    exact kt
  obtain ⟨_, _, ⟨T122, L122, k122c, n122⟩, -, X122, ⟨Lc122, hQ122, l122, y122, z122⟩, st122⟩ := Jvm.LawKit.callS X119 hx (y := (⟨"com/example/disk_to_queue/disktoqueue/bench/BodySumAddPinLaw", "hashOf", "(J)I"⟩ : MethodName)) hown (mvT hZ (hw _ (List.mem_of_getElem? (i := 37) rfl))) (mvT hZ (hw _ (List.mem_of_getElem? (i := 38) rfl))) (mvT hZ (hw _ (List.mem_of_getElem? (i := 2) rfl))) (mvT hZ (hw _ (List.mem_of_getElem? (i := 39) rfl))) (by decide) (backOf (W := 1) (rmO l Z a0 hw [] (((62 : Int64) + (own_con (p5 &&& (3 : Int32)) p1)) + (own_con (((p5.toUInt32 >>> ((2 : Int32) &&& 31).toUInt32).toInt32) &&& (3 : Int32)) p3)) T97.heap n0 Z109) hZ (hw _ (List.mem_of_getElem? (i := 39) rfl)) (hw _ (List.mem_of_getElem? (i := 2) rfl)) (by decide) (by decide)) (g := (mkF m 141 #[.val (.int p1), .val (.int p2), .val (.int p3), .val (.int p4), .val (.int p5), .val (.int (p5 &&& (3 : Int32))), .val (.int (((p5.toUInt32 >>> ((2 : Int32) &&& 31).toUInt32).toInt32) &&& (3 : Int32))), .val (.ref b2), .val (.ref b6), .val (.long (own_con (p5 &&& (3 : Int32)) p1)), .second, .val (.long (own_con (((p5.toUInt32 >>> ((2 : Int32) &&& 31).toUInt32).toInt32) &&& (3 : Int32)) p3)), .second, .val (.ref b18), .val (.ref b38), .val (.ref b77), .val (.int (1 : Int32)), .unset, .unset] [(.long (((62 : Int64) + (own_con (p5 &&& (3 : Int32)) p1)) + (own_con (((p5.toUInt32 >>> ((2 : Int32) &&& 31).toUInt32).toInt32) &&& (3 : Int32)) p3))), (.int (own_hash (((31 : Int64) * (((0 : Int64) + (1 : Int64)) + (1 : Int64))) + (((0 : Int64) + (own_add (p5 &&& (3 : Int32)) (p1.toInt8.toInt32))) + (own_add (((p5.toUInt32 >>> ((2 : Int32) &&& 31).toUInt32).toInt32) &&& (3 : Int32)) (p3.toInt8.toInt32))))))])) rfl (by rw [hml]; rfl) (argsL := [(.long (((62 : Int64) + (own_con (p5 &&& (3 : Int32)) p1)) + (own_con (((p5.toUInt32 >>> ((2 : Int32) &&& 31).toUInt32).toInt32) &&& (3 : Int32)) p3)))]) (rest := [(.int (own_hash (((31 : Int64) * (((0 : Int64) + (1 : Int64)) + (1 : Int64))) + (((0 : Int64) + (own_add (p5 &&& (3 : Int32)) (p1.toInt8.toInt32))) + (own_add (((p5.toUInt32 >>> ((2 : Int32) &&& 31).toUInt32).toInt32) &&& (3 : Int32)) (p3.toInt8.toInt32))))))]) (lenOf own_pd0 rfl) rfl (by show 2 * 0 + _ ≤ _; exact Nat.le_of_eq rfl) (hb hby at_141) (fun _ _ => ⟨rfl, e119, (by decide : 5 + 0 ≤ _), (by decide : 12 + 0 ≤ _)⟩)
  dsimp only [Pt.U, Pt.locs, Pt.cells, Pt.slots] at X122 l122 y122 z122 st122 hQ122
  subst l122 y122 z122
  obtain ⟨rfl, N122q, e122⟩ := hQ122
  have N122 := Fr.app N119 N122q
  have k123 : ∀ t, Steps p.tables e below (T122.setTop (mkF m 144 #[.val (.int p1), .val (.int p2), .val (.int p3), .val (.int p4), .val (.int p5), .val (.int (p5 &&& (3 : Int32))), .val (.int (((p5.toUInt32 >>> ((2 : Int32) &&& 31).toUInt32).toInt32) &&& (3 : Int32))), .val (.ref b2), .val (.ref b6), .val (.long (own_con (p5 &&& (3 : Int32)) p1)), .second, .val (.long (own_con (((p5.toUInt32 >>> ((2 : Int32) &&& 31).toUInt32).toInt32) &&& (3 : Int32)) p3)), .second, .val (.ref b18), .val (.ref b38), .val (.ref b77), .val (.int (1 : Int32)), .unset, .unset] [(.int (own_hash (((62 : Int64) + (own_con (p5 &&& (3 : Int32)) p1)) + (own_con (((p5.toUInt32 >>> ((2 : Int32) &&& 31).toUInt32).toInt32) &&& (3 : Int32)) p3)))), (.int (own_hash (((31 : Int64) * (((0 : Int64) + (1 : Int64)) + (1 : Int64))) + (((0 : Int64) + (own_add (p5 &&& (3 : Int32)) (p1.toInt8.toInt32))) + (own_add (((p5.toUInt32 >>> ((2 : Int32) &&& 31).toUInt32).toInt32) &&& (3 : Int32)) (p3.toInt8.toInt32))))))])) t → Steps p.tables e below (s₁.setTop (entryFrame m #[(.int p1), (.int p2), (.int p3), (.int p4), (.int p5)] maxLocals)) t := fun t kt => k121 t (st122 t kt)
  have hc144_124 : (own_hash (((31 : Int64) * (((0 : Int64) + (1 : Int64)) + (1 : Int64))) + (((0 : Int64) + (own_add (p5 &&& (3 : Int32)) (p1.toInt8.toInt32))) + (own_add (((p5.toUInt32 >>> ((2 : Int32) &&& 31).toUInt32).toInt32) &&& (3 : Int32)) (p3.toInt8.toInt32))))) = (own_hash (((62 : Int64) + (own_con (p5 &&& (3 : Int32)) p1)) + (own_con (((p5.toUInt32 >>> ((2 : Int32) &&& 31).toUInt32).toInt32) &&& (3 : Int32)) p3))) := congrArg own_hash (own_h2 _ _ _ _ (own_m3 _) (own_m3 _))
  have k125 : ∀ t, Steps p.tables e below (T122.setTop (mkF m 158 #[.val (.int p1), .val (.int p2), .val (.int p3), .val (.int p4), .val (.int p5), .val (.int (p5 &&& (3 : Int32))), .val (.int (((p5.toUInt32 >>> ((2 : Int32) &&& 31).toUInt32).toInt32) &&& (3 : Int32))), .val (.ref b2), .val (.ref b6), .val (.long (own_con (p5 &&& (3 : Int32)) p1)), .second, .val (.long (own_con (((p5.toUInt32 >>> ((2 : Int32) &&& 31).toUInt32).toInt32) &&& (3 : Int32)) p3)), .second, .val (.ref b18), .val (.ref b38), .val (.ref b77), .val (.int (1 : Int32)), .val (.int (1 : Int32)), .unset] [(.ref b77), (.ref b18)])) t → Steps p.tables e below (s₁.setTop (entryFrame m #[(.int p1), (.int p2), (.int p3), (.int p4), (.int p5)] maxLocals)) t := by
    intro t kt
    refine k123 t ?_
    show Steps p.tables e below (T122.setTop (mkF m 144 #[.val (.int p1), .val (.int p2), .val (.int p3), .val (.int p4), .val (.int p5), .val (.int (p5 &&& (3 : Int32))), .val (.int (((p5.toUInt32 >>> ((2 : Int32) &&& 31).toUInt32).toInt32) &&& (3 : Int32))), .val (.ref b2), .val (.ref b6), .val (.long (own_con (p5 &&& (3 : Int32)) p1)), .second, .val (.long (own_con (((p5.toUInt32 >>> ((2 : Int32) &&& 31).toUInt32).toInt32) &&& (3 : Int32)) p3)), .second, .val (.ref b18), .val (.ref b38), .val (.ref b77), .val (.int (1 : Int32)), .unset, .unset] [(.int (own_hash (((62 : Int64) + (own_con (p5 &&& (3 : Int32)) p1)) + (own_con (((p5.toUInt32 >>> ((2 : Int32) &&& 31).toUInt32).toInt32) &&& (3 : Int32)) p3)))), (.int (own_hash (((31 : Int64) * (((0 : Int64) + (1 : Int64)) + (1 : Int64))) + (((0 : Int64) + (own_add (p5 &&& (3 : Int32)) (p1.toInt8.toInt32))) + (own_add (((p5.toUInt32 >>> ((2 : Int32) &&& 31).toUInt32).toInt32) &&& (3 : Int32)) (p3.toInt8.toInt32))))))])) t
    refine XS.icmpNo X122.here hx rfl (hb hby at_144) rfl (teq hc144_124).2 ?_
    show Steps p.tables e below (T122.setTop (mkF m 147 #[.val (.int p1), .val (.int p2), .val (.int p3), .val (.int p4), .val (.int p5), .val (.int (p5 &&& (3 : Int32))), .val (.int (((p5.toUInt32 >>> ((2 : Int32) &&& 31).toUInt32).toInt32) &&& (3 : Int32))), .val (.ref b2), .val (.ref b6), .val (.long (own_con (p5 &&& (3 : Int32)) p1)), .second, .val (.long (own_con (((p5.toUInt32 >>> ((2 : Int32) &&& 31).toUInt32).toInt32) &&& (3 : Int32)) p3)), .second, .val (.ref b18), .val (.ref b38), .val (.ref b77), .val (.int (1 : Int32)), .unset, .unset] [])) t
    refine XS.iconst X122.here hx rfl (hb hby at_147) ?_
    show Steps p.tables e below (T122.setTop (mkF m 148 #[.val (.int p1), .val (.int p2), .val (.int p3), .val (.int p4), .val (.int p5), .val (.int (p5 &&& (3 : Int32))), .val (.int (((p5.toUInt32 >>> ((2 : Int32) &&& 31).toUInt32).toInt32) &&& (3 : Int32))), .val (.ref b2), .val (.ref b6), .val (.long (own_con (p5 &&& (3 : Int32)) p1)), .second, .val (.long (own_con (((p5.toUInt32 >>> ((2 : Int32) &&& 31).toUInt32).toInt32) &&& (3 : Int32)) p3)), .second, .val (.ref b18), .val (.ref b38), .val (.ref b77), .val (.int (1 : Int32)), .unset, .unset] [(.int (1 : Int32))])) t
    refine XS.goto X122.here hx rfl (pc0 := 148) (pc' := 152) rfl (hb hby at_148) (by decide) (by decide) ?_
    show Steps p.tables e below (T122.setTop (mkF m 152 #[.val (.int p1), .val (.int p2), .val (.int p3), .val (.int p4), .val (.int p5), .val (.int (p5 &&& (3 : Int32))), .val (.int (((p5.toUInt32 >>> ((2 : Int32) &&& 31).toUInt32).toInt32) &&& (3 : Int32))), .val (.ref b2), .val (.ref b6), .val (.long (own_con (p5 &&& (3 : Int32)) p1)), .second, .val (.long (own_con (((p5.toUInt32 >>> ((2 : Int32) &&& 31).toUInt32).toInt32) &&& (3 : Int32)) p3)), .second, .val (.ref b18), .val (.ref b38), .val (.ref b77), .val (.int (1 : Int32)), .unset, .unset] [(.int (1 : Int32))])) t
    refine XS.istore X122.here hx rfl (hb hby at_152) rfl (l' := #[.val (.int p1), .val (.int p2), .val (.int p3), .val (.int p4), .val (.int p5), .val (.int (p5 &&& (3 : Int32))), .val (.int (((p5.toUInt32 >>> ((2 : Int32) &&& 31).toUInt32).toInt32) &&& (3 : Int32))), .val (.ref b2), .val (.ref b6), .val (.long (own_con (p5 &&& (3 : Int32)) p1)), .second, .val (.long (own_con (((p5.toUInt32 >>> ((2 : Int32) &&& 31).toUInt32).toInt32) &&& (3 : Int32)) p3)), .second, .val (.ref b18), .val (.ref b38), .val (.ref b77), .val (.int (1 : Int32)), .val (.int (1 : Int32)), .unset]) rfl ?_
    show Steps p.tables e below (T122.setTop (mkF m 154 #[.val (.int p1), .val (.int p2), .val (.int p3), .val (.int p4), .val (.int p5), .val (.int (p5 &&& (3 : Int32))), .val (.int (((p5.toUInt32 >>> ((2 : Int32) &&& 31).toUInt32).toInt32) &&& (3 : Int32))), .val (.ref b2), .val (.ref b6), .val (.long (own_con (p5 &&& (3 : Int32)) p1)), .second, .val (.long (own_con (((p5.toUInt32 >>> ((2 : Int32) &&& 31).toUInt32).toInt32) &&& (3 : Int32)) p3)), .second, .val (.ref b18), .val (.ref b38), .val (.ref b77), .val (.int (1 : Int32)), .val (.int (1 : Int32)), .unset] [])) t
    refine XS.aload X122.here hx rfl (hb hby at_154) rfl rfl ?_
    show Steps p.tables e below (T122.setTop (mkF m 156 #[.val (.int p1), .val (.int p2), .val (.int p3), .val (.int p4), .val (.int p5), .val (.int (p5 &&& (3 : Int32))), .val (.int (((p5.toUInt32 >>> ((2 : Int32) &&& 31).toUInt32).toInt32) &&& (3 : Int32))), .val (.ref b2), .val (.ref b6), .val (.long (own_con (p5 &&& (3 : Int32)) p1)), .second, .val (.long (own_con (((p5.toUInt32 >>> ((2 : Int32) &&& 31).toUInt32).toInt32) &&& (3 : Int32)) p3)), .second, .val (.ref b18), .val (.ref b38), .val (.ref b77), .val (.int (1 : Int32)), .val (.int (1 : Int32)), .unset] [(.ref b18)])) t
    refine XS.aload X122.here hx rfl (hb hby at_156) rfl rfl ?_
    exact kt
  obtain ⟨cq126, kq126, q126a, q126b, q126c⟩ := isOf hZ e122 F100
  obtain ⟨_, _, ⟨T126, L126, k126c, n126⟩, -, X126, ⟨Lc126, hQ126, l126, y126, z126⟩, st126⟩ := X122.virtualBack hx (y := (⟨"com/example/disk_to_queue/disktoqueue/bench/BodySum", "equals", "(Ljava/lang/Object;)Z"⟩ : MethodName)) (z := (⟨"com/example/disk_to_queue/disktoqueue/bench/BodySum", "equals", "(Ljava/lang/Object;)Z"⟩ : MethodName)) hown (mvT hZ (hw _ (List.mem_of_getElem? (i := 41) rfl))) (mvT hZ (hw _ (List.mem_of_getElem? (i := 42) rfl))) (notFace_of_selects (args := #[]) (mvT hZ (hw _ (List.mem_of_getElem? (i := 44) rfl)))) (mvT hZ (hw _ (List.mem_of_getElem? (i := 44) rfl))) (mvT hZ (hw _ (List.mem_of_getElem? (i := 43) rfl))) (by decide) (backOf (W := 0) (rmQ l Z a0 hw [] b18 b77 ((0 : Int64) + (1 : Int64)) ((0 : Int64) + (own_add (p5 &&& (3 : Int32)) (p1.toInt8.toInt32))) ((0 : Int64) + (1 : Int64)) ((0 : Int64) + (own_add (((p5.toUInt32 >>> ((2 : Int32) &&& 31).toUInt32).toInt32) &&& (3 : Int32)) (p3.toInt8.toInt32))) T97.heap n0 Z109 F101 F102 Fc97 Fs97 F106) hZ (hw _ (List.mem_of_getElem? (i := 45) rfl)) (hw _ (List.mem_of_getElem? (i := 10) rfl)) (by decide) (by decide)) q126a q126c (g := (mkF m 158 #[.val (.int p1), .val (.int p2), .val (.int p3), .val (.int p4), .val (.int p5), .val (.int (p5 &&& (3 : Int32))), .val (.int (((p5.toUInt32 >>> ((2 : Int32) &&& 31).toUInt32).toInt32) &&& (3 : Int32))), .val (.ref b2), .val (.ref b6), .val (.long (own_con (p5 &&& (3 : Int32)) p1)), .second, .val (.long (own_con (((p5.toUInt32 >>> ((2 : Int32) &&& 31).toUInt32).toInt32) &&& (3 : Int32)) p3)), .second, .val (.ref b18), .val (.ref b38), .val (.ref b77), .val (.int (1 : Int32)), .val (.int (1 : Int32)), .unset] [(.ref b77), (.ref b18)])) rfl (by rw [hml]; rfl) (Steps.refl _) (argsL := [(.ref b77)]) (rest := []) (lenOf own_pd6 rfl) rfl (by show 2 * 0 + _ ≤ _; exact Nat.le_of_eq rfl) (hb hby at_158) (fun _ _ => ⟨rfl, e122, (by decide : 5 + 0 ≤ _), (by decide : 12 + 0 ≤ _)⟩)
  dsimp only [Pt.U, Pt.locs, Pt.cells, Pt.slots] at X126 l126 y126 z126 st126 hQ126
  subst l126 y126 z126
  obtain ⟨rfl, N126q, e126⟩ := hQ126
  have N126 := Fr.app N122 N126q
  have k127 : ∀ t, Steps p.tables e below (T126.setTop (mkF m 161 #[.val (.int p1), .val (.int p2), .val (.int p3), .val (.int p4), .val (.int p5), .val (.int (p5 &&& (3 : Int32))), .val (.int (((p5.toUInt32 >>> ((2 : Int32) &&& 31).toUInt32).toInt32) &&& (3 : Int32))), .val (.ref b2), .val (.ref b6), .val (.long (own_con (p5 &&& (3 : Int32)) p1)), .second, .val (.long (own_con (((p5.toUInt32 >>> ((2 : Int32) &&& 31).toUInt32).toInt32) &&& (3 : Int32)) p3)), .second, .val (.ref b18), .val (.ref b38), .val (.ref b77), .val (.int (1 : Int32)), .val (.int (1 : Int32)), .unset] [(.int (own_eq ((0 : Int64) + (1 : Int64)) ((0 : Int64) + (own_add (p5 &&& (3 : Int32)) (p1.toInt8.toInt32))) ((0 : Int64) + (1 : Int64)) ((0 : Int64) + (own_add (((p5.toUInt32 >>> ((2 : Int32) &&& 31).toUInt32).toInt32) &&& (3 : Int32)) (p3.toInt8.toInt32)))))])) t → Steps p.tables e below (s₁.setTop (entryFrame m #[(.int p1), (.int p2), (.int p3), (.int p4), (.int p5)] maxLocals)) t := fun t kt => k125 t (st126.trans kt)
  have k128 : ∀ t, Steps p.tables e below (T126.setTop (mkF m 166 #[.val (.int p1), .val (.int p2), .val (.int p3), .val (.int p4), .val (.int p5), .val (.int (p5 &&& (3 : Int32))), .val (.int (((p5.toUInt32 >>> ((2 : Int32) &&& 31).toUInt32).toInt32) &&& (3 : Int32))), .val (.ref b2), .val (.ref b6), .val (.long (own_con (p5 &&& (3 : Int32)) p1)), .second, .val (.long (own_con (((p5.toUInt32 >>> ((2 : Int32) &&& 31).toUInt32).toInt32) &&& (3 : Int32)) p3)), .second, .val (.ref b18), .val (.ref b38), .val (.ref b77), .val (.int (1 : Int32)), .val (.int (1 : Int32)), .unset] [(.int (lcmpW (own_con (p5 &&& (3 : Int32)) p1) (own_con (((p5.toUInt32 >>> ((2 : Int32) &&& 31).toUInt32).toInt32) &&& (3 : Int32)) p3))), (.int (own_eq ((0 : Int64) + (1 : Int64)) ((0 : Int64) + (own_add (p5 &&& (3 : Int32)) (p1.toInt8.toInt32))) ((0 : Int64) + (1 : Int64)) ((0 : Int64) + (own_add (((p5.toUInt32 >>> ((2 : Int32) &&& 31).toUInt32).toInt32) &&& (3 : Int32)) (p3.toInt8.toInt32)))))])) t → Steps p.tables e below (s₁.setTop (entryFrame m #[(.int p1), (.int p2), (.int p3), (.int p4), (.int p5)] maxLocals)) t := by
    intro t kt
    refine k127 t ?_
    show Steps p.tables e below (T126.setTop (mkF m 161 #[.val (.int p1), .val (.int p2), .val (.int p3), .val (.int p4), .val (.int p5), .val (.int (p5 &&& (3 : Int32))), .val (.int (((p5.toUInt32 >>> ((2 : Int32) &&& 31).toUInt32).toInt32) &&& (3 : Int32))), .val (.ref b2), .val (.ref b6), .val (.long (own_con (p5 &&& (3 : Int32)) p1)), .second, .val (.long (own_con (((p5.toUInt32 >>> ((2 : Int32) &&& 31).toUInt32).toInt32) &&& (3 : Int32)) p3)), .second, .val (.ref b18), .val (.ref b38), .val (.ref b77), .val (.int (1 : Int32)), .val (.int (1 : Int32)), .unset] [(.int (own_eq ((0 : Int64) + (1 : Int64)) ((0 : Int64) + (own_add (p5 &&& (3 : Int32)) (p1.toInt8.toInt32))) ((0 : Int64) + (1 : Int64)) ((0 : Int64) + (own_add (((p5.toUInt32 >>> ((2 : Int32) &&& 31).toUInt32).toInt32) &&& (3 : Int32)) (p3.toInt8.toInt32)))))])) t
    refine XS.lload X126.here hx rfl (hb hby at_161) rfl ?_
    show Steps p.tables e below (T126.setTop (mkF m 163 #[.val (.int p1), .val (.int p2), .val (.int p3), .val (.int p4), .val (.int p5), .val (.int (p5 &&& (3 : Int32))), .val (.int (((p5.toUInt32 >>> ((2 : Int32) &&& 31).toUInt32).toInt32) &&& (3 : Int32))), .val (.ref b2), .val (.ref b6), .val (.long (own_con (p5 &&& (3 : Int32)) p1)), .second, .val (.long (own_con (((p5.toUInt32 >>> ((2 : Int32) &&& 31).toUInt32).toInt32) &&& (3 : Int32)) p3)), .second, .val (.ref b18), .val (.ref b38), .val (.ref b77), .val (.int (1 : Int32)), .val (.int (1 : Int32)), .unset] [(.long (own_con (p5 &&& (3 : Int32)) p1)), (.int (own_eq ((0 : Int64) + (1 : Int64)) ((0 : Int64) + (own_add (p5 &&& (3 : Int32)) (p1.toInt8.toInt32))) ((0 : Int64) + (1 : Int64)) ((0 : Int64) + (own_add (((p5.toUInt32 >>> ((2 : Int32) &&& 31).toUInt32).toInt32) &&& (3 : Int32)) (p3.toInt8.toInt32)))))])) t
    refine XS.lload X126.here hx rfl (hb hby at_163) rfl ?_
    show Steps p.tables e below (T126.setTop (mkF m 165 #[.val (.int p1), .val (.int p2), .val (.int p3), .val (.int p4), .val (.int p5), .val (.int (p5 &&& (3 : Int32))), .val (.int (((p5.toUInt32 >>> ((2 : Int32) &&& 31).toUInt32).toInt32) &&& (3 : Int32))), .val (.ref b2), .val (.ref b6), .val (.long (own_con (p5 &&& (3 : Int32)) p1)), .second, .val (.long (own_con (((p5.toUInt32 >>> ((2 : Int32) &&& 31).toUInt32).toInt32) &&& (3 : Int32)) p3)), .second, .val (.ref b18), .val (.ref b38), .val (.ref b77), .val (.int (1 : Int32)), .val (.int (1 : Int32)), .unset] [(.long (own_con (((p5.toUInt32 >>> ((2 : Int32) &&& 31).toUInt32).toInt32) &&& (3 : Int32)) p3)), (.long (own_con (p5 &&& (3 : Int32)) p1)), (.int (own_eq ((0 : Int64) + (1 : Int64)) ((0 : Int64) + (own_add (p5 &&& (3 : Int32)) (p1.toInt8.toInt32))) ((0 : Int64) + (1 : Int64)) ((0 : Int64) + (own_add (((p5.toUInt32 >>> ((2 : Int32) &&& 31).toUInt32).toInt32) &&& (3 : Int32)) (p3.toInt8.toInt32)))))])) t
    refine XS.lcmp X126.here hx rfl (hb hby at_165) rfl ?_
    exact kt
  have k129 : ∀ t, Steps p.tables e below (T126.setTop (mkF m 174 #[.val (.int p1), .val (.int p2), .val (.int p3), .val (.int p4), .val (.int p5), .val (.int (p5 &&& (3 : Int32))), .val (.int (((p5.toUInt32 >>> ((2 : Int32) &&& 31).toUInt32).toInt32) &&& (3 : Int32))), .val (.ref b2), .val (.ref b6), .val (.long (own_con (p5 &&& (3 : Int32)) p1)), .second, .val (.long (own_con (((p5.toUInt32 >>> ((2 : Int32) &&& 31).toUInt32).toInt32) &&& (3 : Int32)) p3)), .second, .val (.ref b18), .val (.ref b38), .val (.ref b77), .val (.int (1 : Int32)), .val (.int (1 : Int32)), .unset] [(.int (if (lcmpW (own_con (p5 &&& (3 : Int32)) p1) (own_con (((p5.toUInt32 >>> ((2 : Int32) &&& 31).toUInt32).toInt32) &&& (3 : Int32)) p3)) = (0 : Int32) then (1 : Int32) else (0 : Int32))), (.int (own_eq ((0 : Int64) + (1 : Int64)) ((0 : Int64) + (own_add (p5 &&& (3 : Int32)) (p1.toInt8.toInt32))) ((0 : Int64) + (1 : Int64)) ((0 : Int64) + (own_add (((p5.toUInt32 >>> ((2 : Int32) &&& 31).toUInt32).toInt32) &&& (3 : Int32)) (p3.toInt8.toInt32)))))])) t → Steps p.tables e below (s₁.setTop (entryFrame m #[(.int p1), (.int p2), (.int p3), (.int p4), (.int p5)] maxLocals)) t := by
    intro t kt
    by_cases hc166_130 : (lcmpW (own_con (p5 &&& (3 : Int32)) p1) (own_con (((p5.toUInt32 >>> ((2 : Int32) &&& 31).toUInt32).toInt32) &&& (3 : Int32)) p3)) = (0 : Int32)
    · have k131 : ∀ t, Steps p.tables e below (T126.setTop (mkF m 174 #[.val (.int p1), .val (.int p2), .val (.int p3), .val (.int p4), .val (.int p5), .val (.int (p5 &&& (3 : Int32))), .val (.int (((p5.toUInt32 >>> ((2 : Int32) &&& 31).toUInt32).toInt32) &&& (3 : Int32))), .val (.ref b2), .val (.ref b6), .val (.long (own_con (p5 &&& (3 : Int32)) p1)), .second, .val (.long (own_con (((p5.toUInt32 >>> ((2 : Int32) &&& 31).toUInt32).toInt32) &&& (3 : Int32)) p3)), .second, .val (.ref b18), .val (.ref b38), .val (.ref b77), .val (.int (1 : Int32)), .val (.int (1 : Int32)), .unset] [(.int (1 : Int32)), (.int (own_eq ((0 : Int64) + (1 : Int64)) ((0 : Int64) + (own_add (p5 &&& (3 : Int32)) (p1.toInt8.toInt32))) ((0 : Int64) + (1 : Int64)) ((0 : Int64) + (own_add (((p5.toUInt32 >>> ((2 : Int32) &&& 31).toUInt32).toInt32) &&& (3 : Int32)) (p3.toInt8.toInt32)))))])) t → Steps p.tables e below (s₁.setTop (entryFrame m #[(.int p1), (.int p2), (.int p3), (.int p4), (.int p5)] maxLocals)) t := by
        intro t kt
        refine k128 t ?_
        show Steps p.tables e below (T126.setTop (mkF m 166 #[.val (.int p1), .val (.int p2), .val (.int p3), .val (.int p4), .val (.int p5), .val (.int (p5 &&& (3 : Int32))), .val (.int (((p5.toUInt32 >>> ((2 : Int32) &&& 31).toUInt32).toInt32) &&& (3 : Int32))), .val (.ref b2), .val (.ref b6), .val (.long (own_con (p5 &&& (3 : Int32)) p1)), .second, .val (.long (own_con (((p5.toUInt32 >>> ((2 : Int32) &&& 31).toUInt32).toInt32) &&& (3 : Int32)) p3)), .second, .val (.ref b18), .val (.ref b38), .val (.ref b77), .val (.int (1 : Int32)), .val (.int (1 : Int32)), .unset] [(.int (lcmpW (own_con (p5 &&& (3 : Int32)) p1) (own_con (((p5.toUInt32 >>> ((2 : Int32) &&& 31).toUInt32).toInt32) &&& (3 : Int32)) p3))), (.int (own_eq ((0 : Int64) + (1 : Int64)) ((0 : Int64) + (own_add (p5 &&& (3 : Int32)) (p1.toInt8.toInt32))) ((0 : Int64) + (1 : Int64)) ((0 : Int64) + (own_add (((p5.toUInt32 >>> ((2 : Int32) &&& 31).toUInt32).toInt32) &&& (3 : Int32)) (p3.toInt8.toInt32)))))])) t
        refine XS.ifNo X126.here hx rfl (hb hby at_166) rfl ((if0 _ _).trans (teq hc166_130).2) ?_
        show Steps p.tables e below (T126.setTop (mkF m 169 #[.val (.int p1), .val (.int p2), .val (.int p3), .val (.int p4), .val (.int p5), .val (.int (p5 &&& (3 : Int32))), .val (.int (((p5.toUInt32 >>> ((2 : Int32) &&& 31).toUInt32).toInt32) &&& (3 : Int32))), .val (.ref b2), .val (.ref b6), .val (.long (own_con (p5 &&& (3 : Int32)) p1)), .second, .val (.long (own_con (((p5.toUInt32 >>> ((2 : Int32) &&& 31).toUInt32).toInt32) &&& (3 : Int32)) p3)), .second, .val (.ref b18), .val (.ref b38), .val (.ref b77), .val (.int (1 : Int32)), .val (.int (1 : Int32)), .unset] [(.int (own_eq ((0 : Int64) + (1 : Int64)) ((0 : Int64) + (own_add (p5 &&& (3 : Int32)) (p1.toInt8.toInt32))) ((0 : Int64) + (1 : Int64)) ((0 : Int64) + (own_add (((p5.toUInt32 >>> ((2 : Int32) &&& 31).toUInt32).toInt32) &&& (3 : Int32)) (p3.toInt8.toInt32)))))])) t
        refine XS.iconst X126.here hx rfl (hb hby at_169) ?_
        show Steps p.tables e below (T126.setTop (mkF m 170 #[.val (.int p1), .val (.int p2), .val (.int p3), .val (.int p4), .val (.int p5), .val (.int (p5 &&& (3 : Int32))), .val (.int (((p5.toUInt32 >>> ((2 : Int32) &&& 31).toUInt32).toInt32) &&& (3 : Int32))), .val (.ref b2), .val (.ref b6), .val (.long (own_con (p5 &&& (3 : Int32)) p1)), .second, .val (.long (own_con (((p5.toUInt32 >>> ((2 : Int32) &&& 31).toUInt32).toInt32) &&& (3 : Int32)) p3)), .second, .val (.ref b18), .val (.ref b38), .val (.ref b77), .val (.int (1 : Int32)), .val (.int (1 : Int32)), .unset] [(.int (1 : Int32)), (.int (own_eq ((0 : Int64) + (1 : Int64)) ((0 : Int64) + (own_add (p5 &&& (3 : Int32)) (p1.toInt8.toInt32))) ((0 : Int64) + (1 : Int64)) ((0 : Int64) + (own_add (((p5.toUInt32 >>> ((2 : Int32) &&& 31).toUInt32).toInt32) &&& (3 : Int32)) (p3.toInt8.toInt32)))))])) t
        refine XS.goto X126.here hx rfl (pc0 := 170) (pc' := 174) rfl (hb hby at_170) (by decide) (by decide) ?_
        exact kt
      rw [show ((if (lcmpW (own_con (p5 &&& (3 : Int32)) p1) (own_con (((p5.toUInt32 >>> ((2 : Int32) &&& 31).toUInt32).toInt32) &&& (3 : Int32)) p3)) = (0 : Int32) then (1 : Int32) else (0 : Int32))) = (1 : Int32) from by first | exact if_pos hc166_130 | exact if_neg hc166_130 | simp [hc166_130]] at kt
      exact k131 t kt
    · have k132 : ∀ t, Steps p.tables e below (T126.setTop (mkF m 174 #[.val (.int p1), .val (.int p2), .val (.int p3), .val (.int p4), .val (.int p5), .val (.int (p5 &&& (3 : Int32))), .val (.int (((p5.toUInt32 >>> ((2 : Int32) &&& 31).toUInt32).toInt32) &&& (3 : Int32))), .val (.ref b2), .val (.ref b6), .val (.long (own_con (p5 &&& (3 : Int32)) p1)), .second, .val (.long (own_con (((p5.toUInt32 >>> ((2 : Int32) &&& 31).toUInt32).toInt32) &&& (3 : Int32)) p3)), .second, .val (.ref b18), .val (.ref b38), .val (.ref b77), .val (.int (1 : Int32)), .val (.int (1 : Int32)), .unset] [(.int (0 : Int32)), (.int (own_eq ((0 : Int64) + (1 : Int64)) ((0 : Int64) + (own_add (p5 &&& (3 : Int32)) (p1.toInt8.toInt32))) ((0 : Int64) + (1 : Int64)) ((0 : Int64) + (own_add (((p5.toUInt32 >>> ((2 : Int32) &&& 31).toUInt32).toInt32) &&& (3 : Int32)) (p3.toInt8.toInt32)))))])) t → Steps p.tables e below (s₁.setTop (entryFrame m #[(.int p1), (.int p2), (.int p3), (.int p4), (.int p5)] maxLocals)) t := by
        intro t kt
        refine k128 t ?_
        show Steps p.tables e below (T126.setTop (mkF m 166 #[.val (.int p1), .val (.int p2), .val (.int p3), .val (.int p4), .val (.int p5), .val (.int (p5 &&& (3 : Int32))), .val (.int (((p5.toUInt32 >>> ((2 : Int32) &&& 31).toUInt32).toInt32) &&& (3 : Int32))), .val (.ref b2), .val (.ref b6), .val (.long (own_con (p5 &&& (3 : Int32)) p1)), .second, .val (.long (own_con (((p5.toUInt32 >>> ((2 : Int32) &&& 31).toUInt32).toInt32) &&& (3 : Int32)) p3)), .second, .val (.ref b18), .val (.ref b38), .val (.ref b77), .val (.int (1 : Int32)), .val (.int (1 : Int32)), .unset] [(.int (lcmpW (own_con (p5 &&& (3 : Int32)) p1) (own_con (((p5.toUInt32 >>> ((2 : Int32) &&& 31).toUInt32).toInt32) &&& (3 : Int32)) p3))), (.int (own_eq ((0 : Int64) + (1 : Int64)) ((0 : Int64) + (own_add (p5 &&& (3 : Int32)) (p1.toInt8.toInt32))) ((0 : Int64) + (1 : Int64)) ((0 : Int64) + (own_add (((p5.toUInt32 >>> ((2 : Int32) &&& 31).toUInt32).toInt32) &&& (3 : Int32)) (p3.toInt8.toInt32)))))])) t
        refine XS.ifYes X126.here hx rfl (pc0 := 166) (pc' := 173) rfl (hb hby at_166) rfl ((if0 _ _).trans (feq hc166_130).2) (by decide) (by decide) ?_
        show Steps p.tables e below (T126.setTop (mkF m 173 #[.val (.int p1), .val (.int p2), .val (.int p3), .val (.int p4), .val (.int p5), .val (.int (p5 &&& (3 : Int32))), .val (.int (((p5.toUInt32 >>> ((2 : Int32) &&& 31).toUInt32).toInt32) &&& (3 : Int32))), .val (.ref b2), .val (.ref b6), .val (.long (own_con (p5 &&& (3 : Int32)) p1)), .second, .val (.long (own_con (((p5.toUInt32 >>> ((2 : Int32) &&& 31).toUInt32).toInt32) &&& (3 : Int32)) p3)), .second, .val (.ref b18), .val (.ref b38), .val (.ref b77), .val (.int (1 : Int32)), .val (.int (1 : Int32)), .unset] [(.int (own_eq ((0 : Int64) + (1 : Int64)) ((0 : Int64) + (own_add (p5 &&& (3 : Int32)) (p1.toInt8.toInt32))) ((0 : Int64) + (1 : Int64)) ((0 : Int64) + (own_add (((p5.toUInt32 >>> ((2 : Int32) &&& 31).toUInt32).toInt32) &&& (3 : Int32)) (p3.toInt8.toInt32)))))])) t
        refine XS.iconst X126.here hx rfl (hb hby at_173) ?_
        exact kt
      rw [show ((if (lcmpW (own_con (p5 &&& (3 : Int32)) p1) (own_con (((p5.toUInt32 >>> ((2 : Int32) &&& 31).toUInt32).toInt32) &&& (3 : Int32)) p3)) = (0 : Int32) then (1 : Int32) else (0 : Int32))) = (0 : Int32) from by first | exact if_pos hc166_130 | exact if_neg hc166_130 | simp [hc166_130]] at kt
      exact k132 t kt
  have hc174_133 : (own_eq ((0 : Int64) + (1 : Int64)) ((0 : Int64) + (own_add (p5 &&& (3 : Int32)) (p1.toInt8.toInt32))) ((0 : Int64) + (1 : Int64)) ((0 : Int64) + (own_add (((p5.toUInt32 >>> ((2 : Int32) &&& 31).toUInt32).toInt32) &&& (3 : Int32)) (p3.toInt8.toInt32)))) = (if (lcmpW (own_con (p5 &&& (3 : Int32)) p1) (own_con (((p5.toUInt32 >>> ((2 : Int32) &&& 31).toUInt32).toInt32) &&& (3 : Int32)) p3)) = (0 : Int32) then (1 : Int32) else (0 : Int32)) := own_e1 _ _ _ _ (own_m3 _) (own_m3 _)
  have hc186_134 : ¬ ((1 : Int32) = (0 : Int32)) := by decide
  have k137 : ∀ t, Steps p.tables e below (T126.setTop (mkF m 204 #[.val (.int p1), .val (.int p2), .val (.int p3), .val (.int p4), .val (.int p5), .val (.int (p5 &&& (3 : Int32))), .val (.int (((p5.toUInt32 >>> ((2 : Int32) &&& 31).toUInt32).toInt32) &&& (3 : Int32))), .val (.ref b2), .val (.ref b6), .val (.long (own_con (p5 &&& (3 : Int32)) p1)), .second, .val (.long (own_con (((p5.toUInt32 >>> ((2 : Int32) &&& 31).toUInt32).toInt32) &&& (3 : Int32)) p3)), .second, .val (.ref b18), .val (.ref b38), .val (.ref b77), .val (.int (1 : Int32)), .val (.int (1 : Int32)), .val (.int (1 : Int32))] [(.int (1 : Int32))])) t → Steps p.tables e below (s₁.setTop (entryFrame m #[(.int p1), (.int p2), (.int p3), (.int p4), (.int p5)] maxLocals)) t := by
    intro t kt
    refine k129 t ?_
    show Steps p.tables e below (T126.setTop (mkF m 174 #[.val (.int p1), .val (.int p2), .val (.int p3), .val (.int p4), .val (.int p5), .val (.int (p5 &&& (3 : Int32))), .val (.int (((p5.toUInt32 >>> ((2 : Int32) &&& 31).toUInt32).toInt32) &&& (3 : Int32))), .val (.ref b2), .val (.ref b6), .val (.long (own_con (p5 &&& (3 : Int32)) p1)), .second, .val (.long (own_con (((p5.toUInt32 >>> ((2 : Int32) &&& 31).toUInt32).toInt32) &&& (3 : Int32)) p3)), .second, .val (.ref b18), .val (.ref b38), .val (.ref b77), .val (.int (1 : Int32)), .val (.int (1 : Int32)), .unset] [(.int (if (lcmpW (own_con (p5 &&& (3 : Int32)) p1) (own_con (((p5.toUInt32 >>> ((2 : Int32) &&& 31).toUInt32).toInt32) &&& (3 : Int32)) p3)) = (0 : Int32) then (1 : Int32) else (0 : Int32))), (.int (own_eq ((0 : Int64) + (1 : Int64)) ((0 : Int64) + (own_add (p5 &&& (3 : Int32)) (p1.toInt8.toInt32))) ((0 : Int64) + (1 : Int64)) ((0 : Int64) + (own_add (((p5.toUInt32 >>> ((2 : Int32) &&& 31).toUInt32).toInt32) &&& (3 : Int32)) (p3.toInt8.toInt32)))))])) t
    refine XS.icmpNo X126.here hx rfl (hb hby at_174) rfl (teq hc174_133).2 ?_
    show Steps p.tables e below (T126.setTop (mkF m 177 #[.val (.int p1), .val (.int p2), .val (.int p3), .val (.int p4), .val (.int p5), .val (.int (p5 &&& (3 : Int32))), .val (.int (((p5.toUInt32 >>> ((2 : Int32) &&& 31).toUInt32).toInt32) &&& (3 : Int32))), .val (.ref b2), .val (.ref b6), .val (.long (own_con (p5 &&& (3 : Int32)) p1)), .second, .val (.long (own_con (((p5.toUInt32 >>> ((2 : Int32) &&& 31).toUInt32).toInt32) &&& (3 : Int32)) p3)), .second, .val (.ref b18), .val (.ref b38), .val (.ref b77), .val (.int (1 : Int32)), .val (.int (1 : Int32)), .unset] [])) t
    refine XS.iconst X126.here hx rfl (hb hby at_177) ?_
    show Steps p.tables e below (T126.setTop (mkF m 178 #[.val (.int p1), .val (.int p2), .val (.int p3), .val (.int p4), .val (.int p5), .val (.int (p5 &&& (3 : Int32))), .val (.int (((p5.toUInt32 >>> ((2 : Int32) &&& 31).toUInt32).toInt32) &&& (3 : Int32))), .val (.ref b2), .val (.ref b6), .val (.long (own_con (p5 &&& (3 : Int32)) p1)), .second, .val (.long (own_con (((p5.toUInt32 >>> ((2 : Int32) &&& 31).toUInt32).toInt32) &&& (3 : Int32)) p3)), .second, .val (.ref b18), .val (.ref b38), .val (.ref b77), .val (.int (1 : Int32)), .val (.int (1 : Int32)), .unset] [(.int (1 : Int32))])) t
    refine XS.goto X126.here hx rfl (pc0 := 178) (pc' := 182) rfl (hb hby at_178) (by decide) (by decide) ?_
    show Steps p.tables e below (T126.setTop (mkF m 182 #[.val (.int p1), .val (.int p2), .val (.int p3), .val (.int p4), .val (.int p5), .val (.int (p5 &&& (3 : Int32))), .val (.int (((p5.toUInt32 >>> ((2 : Int32) &&& 31).toUInt32).toInt32) &&& (3 : Int32))), .val (.ref b2), .val (.ref b6), .val (.long (own_con (p5 &&& (3 : Int32)) p1)), .second, .val (.long (own_con (((p5.toUInt32 >>> ((2 : Int32) &&& 31).toUInt32).toInt32) &&& (3 : Int32)) p3)), .second, .val (.ref b18), .val (.ref b38), .val (.ref b77), .val (.int (1 : Int32)), .val (.int (1 : Int32)), .unset] [(.int (1 : Int32))])) t
    refine XS.istore X126.here hx rfl (hb hby at_182) rfl (l' := #[.val (.int p1), .val (.int p2), .val (.int p3), .val (.int p4), .val (.int p5), .val (.int (p5 &&& (3 : Int32))), .val (.int (((p5.toUInt32 >>> ((2 : Int32) &&& 31).toUInt32).toInt32) &&& (3 : Int32))), .val (.ref b2), .val (.ref b6), .val (.long (own_con (p5 &&& (3 : Int32)) p1)), .second, .val (.long (own_con (((p5.toUInt32 >>> ((2 : Int32) &&& 31).toUInt32).toInt32) &&& (3 : Int32)) p3)), .second, .val (.ref b18), .val (.ref b38), .val (.ref b77), .val (.int (1 : Int32)), .val (.int (1 : Int32)), .val (.int (1 : Int32))]) rfl ?_
    show Steps p.tables e below (T126.setTop (mkF m 184 #[.val (.int p1), .val (.int p2), .val (.int p3), .val (.int p4), .val (.int p5), .val (.int (p5 &&& (3 : Int32))), .val (.int (((p5.toUInt32 >>> ((2 : Int32) &&& 31).toUInt32).toInt32) &&& (3 : Int32))), .val (.ref b2), .val (.ref b6), .val (.long (own_con (p5 &&& (3 : Int32)) p1)), .second, .val (.long (own_con (((p5.toUInt32 >>> ((2 : Int32) &&& 31).toUInt32).toInt32) &&& (3 : Int32)) p3)), .second, .val (.ref b18), .val (.ref b38), .val (.ref b77), .val (.int (1 : Int32)), .val (.int (1 : Int32)), .val (.int (1 : Int32))] [])) t
    refine XS.iload X126.here hx rfl (hb hby at_184) rfl ?_
    show Steps p.tables e below (T126.setTop (mkF m 186 #[.val (.int p1), .val (.int p2), .val (.int p3), .val (.int p4), .val (.int p5), .val (.int (p5 &&& (3 : Int32))), .val (.int (((p5.toUInt32 >>> ((2 : Int32) &&& 31).toUInt32).toInt32) &&& (3 : Int32))), .val (.ref b2), .val (.ref b6), .val (.long (own_con (p5 &&& (3 : Int32)) p1)), .second, .val (.long (own_con (((p5.toUInt32 >>> ((2 : Int32) &&& 31).toUInt32).toInt32) &&& (3 : Int32)) p3)), .second, .val (.ref b18), .val (.ref b38), .val (.ref b77), .val (.int (1 : Int32)), .val (.int (1 : Int32)), .val (.int (1 : Int32))] [(.int (1 : Int32))])) t
    refine XS.ifNo X126.here hx rfl (hb hby at_186) rfl ((if0 _ _).trans (feq hc186_134).1) ?_
    show Steps p.tables e below (T126.setTop (mkF m 189 #[.val (.int p1), .val (.int p2), .val (.int p3), .val (.int p4), .val (.int p5), .val (.int (p5 &&& (3 : Int32))), .val (.int (((p5.toUInt32 >>> ((2 : Int32) &&& 31).toUInt32).toInt32) &&& (3 : Int32))), .val (.ref b2), .val (.ref b6), .val (.long (own_con (p5 &&& (3 : Int32)) p1)), .second, .val (.long (own_con (((p5.toUInt32 >>> ((2 : Int32) &&& 31).toUInt32).toInt32) &&& (3 : Int32)) p3)), .second, .val (.ref b18), .val (.ref b38), .val (.ref b77), .val (.int (1 : Int32)), .val (.int (1 : Int32)), .val (.int (1 : Int32))] [])) t
    refine XS.iload X126.here hx rfl (hb hby at_189) rfl ?_
    show Steps p.tables e below (T126.setTop (mkF m 191 #[.val (.int p1), .val (.int p2), .val (.int p3), .val (.int p4), .val (.int p5), .val (.int (p5 &&& (3 : Int32))), .val (.int (((p5.toUInt32 >>> ((2 : Int32) &&& 31).toUInt32).toInt32) &&& (3 : Int32))), .val (.ref b2), .val (.ref b6), .val (.long (own_con (p5 &&& (3 : Int32)) p1)), .second, .val (.long (own_con (((p5.toUInt32 >>> ((2 : Int32) &&& 31).toUInt32).toInt32) &&& (3 : Int32)) p3)), .second, .val (.ref b18), .val (.ref b38), .val (.ref b77), .val (.int (1 : Int32)), .val (.int (1 : Int32)), .val (.int (1 : Int32))] [(.int (1 : Int32))])) t
    refine XS.ifNo X126.here hx rfl (hb hby at_191) rfl ((if0 _ _).trans (feq hc186_134).1) ?_
    show Steps p.tables e below (T126.setTop (mkF m 194 #[.val (.int p1), .val (.int p2), .val (.int p3), .val (.int p4), .val (.int p5), .val (.int (p5 &&& (3 : Int32))), .val (.int (((p5.toUInt32 >>> ((2 : Int32) &&& 31).toUInt32).toInt32) &&& (3 : Int32))), .val (.ref b2), .val (.ref b6), .val (.long (own_con (p5 &&& (3 : Int32)) p1)), .second, .val (.long (own_con (((p5.toUInt32 >>> ((2 : Int32) &&& 31).toUInt32).toInt32) &&& (3 : Int32)) p3)), .second, .val (.ref b18), .val (.ref b38), .val (.ref b77), .val (.int (1 : Int32)), .val (.int (1 : Int32)), .val (.int (1 : Int32))] [])) t
    refine XS.iload X126.here hx rfl (hb hby at_194) rfl ?_
    show Steps p.tables e below (T126.setTop (mkF m 196 #[.val (.int p1), .val (.int p2), .val (.int p3), .val (.int p4), .val (.int p5), .val (.int (p5 &&& (3 : Int32))), .val (.int (((p5.toUInt32 >>> ((2 : Int32) &&& 31).toUInt32).toInt32) &&& (3 : Int32))), .val (.ref b2), .val (.ref b6), .val (.long (own_con (p5 &&& (3 : Int32)) p1)), .second, .val (.long (own_con (((p5.toUInt32 >>> ((2 : Int32) &&& 31).toUInt32).toInt32) &&& (3 : Int32)) p3)), .second, .val (.ref b18), .val (.ref b38), .val (.ref b77), .val (.int (1 : Int32)), .val (.int (1 : Int32)), .val (.int (1 : Int32))] [(.int (1 : Int32))])) t
    refine XS.ifNo X126.here hx rfl (hb hby at_196) rfl ((if0 _ _).trans (feq hc186_134).1) ?_
    show Steps p.tables e below (T126.setTop (mkF m 199 #[.val (.int p1), .val (.int p2), .val (.int p3), .val (.int p4), .val (.int p5), .val (.int (p5 &&& (3 : Int32))), .val (.int (((p5.toUInt32 >>> ((2 : Int32) &&& 31).toUInt32).toInt32) &&& (3 : Int32))), .val (.ref b2), .val (.ref b6), .val (.long (own_con (p5 &&& (3 : Int32)) p1)), .second, .val (.long (own_con (((p5.toUInt32 >>> ((2 : Int32) &&& 31).toUInt32).toInt32) &&& (3 : Int32)) p3)), .second, .val (.ref b18), .val (.ref b38), .val (.ref b77), .val (.int (1 : Int32)), .val (.int (1 : Int32)), .val (.int (1 : Int32))] [])) t
    refine XS.iconst X126.here hx rfl (hb hby at_199) ?_
    show Steps p.tables e below (T126.setTop (mkF m 200 #[.val (.int p1), .val (.int p2), .val (.int p3), .val (.int p4), .val (.int p5), .val (.int (p5 &&& (3 : Int32))), .val (.int (((p5.toUInt32 >>> ((2 : Int32) &&& 31).toUInt32).toInt32) &&& (3 : Int32))), .val (.ref b2), .val (.ref b6), .val (.long (own_con (p5 &&& (3 : Int32)) p1)), .second, .val (.long (own_con (((p5.toUInt32 >>> ((2 : Int32) &&& 31).toUInt32).toInt32) &&& (3 : Int32)) p3)), .second, .val (.ref b18), .val (.ref b38), .val (.ref b77), .val (.int (1 : Int32)), .val (.int (1 : Int32)), .val (.int (1 : Int32))] [(.int (1 : Int32))])) t
    refine XS.goto X126.here hx rfl (pc0 := 200) (pc' := 204) rfl (hb hby at_200) (by decide) (by decide) ?_
    exact kt
  obtain ⟨fs, hr, hrun, hended, hW, hsame⟩ := X126.leave (v := some (.int (1 : Int32))) (fun h => by rw [Bd.returns] at h; cases h)
  refine ⟨_, _, k137 _ ?_, hrun, hended, _, _, rfl, ?_, ⟨_, rfl⟩, hW, hsame.mono (by decide) (by decide)⟩
  · show Steps p.tables e below (T126.setTop (mkF m 204 #[.val (.int p1), .val (.int p2), .val (.int p3), .val (.int p4), .val (.int p5), .val (.int (p5 &&& (3 : Int32))), .val (.int (((p5.toUInt32 >>> ((2 : Int32) &&& 31).toUInt32).toInt32) &&& (3 : Int32))), .val (.ref b2), .val (.ref b6), .val (.long (own_con (p5 &&& (3 : Int32)) p1)), .second, .val (.long (own_con (((p5.toUInt32 >>> ((2 : Int32) &&& 31).toUInt32).toInt32) &&& (3 : Int32)) p3)), .second, .val (.ref b18), .val (.ref b38), .val (.ref b77), .val (.int (1 : Int32)), .val (.int (1 : Int32)), .val (.int (1 : Int32))] [(.int (1 : Int32))])) _
    exact retN X126 hx (t := .boolean) Bd.returns (by simp) (hb hby at_204) hr
  · show Q0 Z p1 p2 p3 p4 p5 h0 n0 _ T126.heap _
    rw [e126]
    exact ⟨rfl, N126⟩
set_option maxRecDepth 65536 in
set_option maxHeartbeats 40000000 in
theorem comes_1 {Post : Tables → Env → Array Value → State → Outcome → State → Prop} (hpost : ∀ tb e args s v u, (limb_1_1.after args s (.returned v) u = true ∧ limb_1_2.after args s (.returned v) u = true ∧ True) → FrameEnd s (.returned v) u (Jvm.fieldLocs frame_1_writes args s ++ Jvm.arrayLocs frame_1_arrays args s ++ Jvm.staticLocs frame_1_statics s) 24 128 → Post tb e args s (.returned v) u) :
    ArmFor flags0 classFile x code maxLocals ret World_1 tables_1 room_1 Calls_1 rest_1 Pre_1 Post := by
  intro l hfl _ _ p e ha hc hk s m args below hf hA hF happ hP
  obtain ⟨hcalls, hrest, hpre⟩ := hP
  obtain ⟨-, -, -, hnamed, -, -, -, hat⟩ := (Spec.applies_iff hf).mp happ
  obtain ⟨hg, hn⟩ := and_e (Cond.before_iff.mp (show (Jvm.Cond.and given_1 narrow_1).before args s = true from hpre))
  obtain ⟨gc, gr0⟩ := and_e hg
  obtain ⟨ga0, gr1⟩ := and_e gr0
  obtain ⟨ga1, gr2⟩ := and_e gr1
  obtain ⟨ga2, gr3⟩ := and_e gr2
  obtain ⟨ga3, gr4⟩ := and_e gr3
  have ga4 := gr4
  obtain ⟨w0, w1, w2, w3, w4, rfl⟩ : ∃ w0 w1 w2 w3 w4 : Value, args = #[w0, w1, w2, w3, w4] := by
    have hs : args.size = 5 := by simpa [Cond.value, given_1] using gc
    obtain ⟨L⟩ := args
    match L, hs with
    | [w0, w1, w2, w3, w4], _ => exact ⟨w0, w1, w2, w3, w4, rfl⟩
  have hw := fun d (hd : d ∈ tables_1) => atoms_spec (ws := Jvm.Cond.code x code maxLocals ret :: tables_1) hat d (List.mem_cons_of_mem _ hd)
  have hfit : Fit s := fun {y c} hc i hi => by
    obtain ⟨ha, rfl⟩ := Array.getElem?_eq_some_iff.mp hc
    have q := List.all_eq_true.mp ((Array.all_eq_true_iff_forall_mem.mp hF) _ (Array.getElem_mem ha)) i (List.mem_range.mpr hi)
    simpa [Array.getElem?_eq_getElem hi] using q
  obtain ⟨i0, ei0⟩ := is_v ga0
  obtain rfl : w0 = (.int i0) := Option.some.inj ei0
  obtain ⟨i1, ei1⟩ := is_v ga1
  obtain rfl : w1 = (.int i1) := Option.some.inj ei1
  obtain ⟨i2, ei2⟩ := is_v ga2
  obtain rfl : w2 = (.int i2) := Option.some.inj ei2
  obtain ⟨i3, ei3⟩ := is_v ga3
  obtain rfl : w3 = (.int i3) := Option.some.inj ei3
  obtain ⟨i4, ei4⟩ := is_v ga4
  obtain rfl : w4 = (.int i4) := Option.some.inj ei4
  obtain ⟨n, o, h1, h2, h3, _, L, rfl, ⟨rfl, N⟩, hq⟩ := rm0 l s _ hw tables_1 i0 i1 i2 i3 i4  s.heap s.heap.size (Nat.le_refl _)  p e ha hc hk s m _ below hf ((Spec.applies_iff_loose hf).mp happ).1 ⟨rfl, State.Warmed39.refl s, rfl⟩ trivial
  refine ⟨n, _, h1, h2, h3, hpost _ _ _ _ _ _ ⟨Cond.after_iff.mpr rfl, Cond.after_iff.mpr (eq_i res_at (Term.int_eval (1)) rfl), trivial⟩ ⟨hq.1, hq.2.1, (hq.2.2.sift fun y hy => Or.inr (N y hy)).mono (by decide) (by decide)⟩⟩
theorem main_1_1 : Claimed_1_1 := comes_1 fun _ _ _ _ _ _ h hF => ⟨h.1, hF⟩
theorem main_1_2 : Claimed_1_2 := comes_1 fun _ _ _ _ _ _ h hF => ⟨h.2.1, hF⟩
end Jvm.Pilot.@@N@@
namespace Jvm.Pilot.@@N@@
open Jvm Jvm.ClassFile Sem Op Lib Jvm.Free Jvm.Stand Jvm.Pilot.@@N@@.Jvm.D
/-! MADE BY PROGRAM (witnessworld.py) out of the Statement's table words and the real class files: 14 classes; the members and pool entries that the words name. The judged class is class 1, her method 1. -/
namespace start1
open Jvm.ClassFile
def u (s : String) : CpInfo := .utf8 (stringToUtf16 s)
/-- a pool by its gaps: so many unusable entries, then the entry; so many at the end -/
def gap : Nat → List CpInfo → List CpInfo
  | 0, r => r
  | n + 1, r => .unusable :: gap n r
def poolList (es : List (Nat × CpInfo)) (last : Nat) : List CpInfo := es.foldr (fun e r => gap e.1 (e.2 :: r)) (gap last [])
def pool (es : List (Nat × CpInfo)) (last : Nat) : Array CpInfo := ⟨poolList es last⟩
def fileOf (pool : Array CpInfo) (this : Nat) (attrs : Array Attribute := #[]) (ms : Array MethodInfo := #[]) (fl : Nat := 33) (sup : Nat := 0) (ifs : Array Nat := #[]) (fds : Array FieldInfo := #[]) : ClassFile where
  minorVersion := 0
  majorVersion := 65
  constantPool := pool
  accessFlags := fl
  thisClass := this
  superClass := sup
  interfaces := ifs
  fields := fds
  methods := ms
  attributes := attrs
def plain (name : String) (sup : Option ClassId) : Class where
  name := name
  kind := .ordinary
  loader := none
  accessFlags := 33
  super := sup
  interfaces := #[]
  cf := none
  fields := #[]
  methods := #[]
  instanceTypes := #[]
  staticTypes := #[]
  resolved := #[]
  callSites := []
  init := .initialized
  statics := none
  mirror := none

def pool0 : Array CpInfo := pool [(5, u "<init>"), (0, u "()V"), (1, .class_ 10), (1, u "java/lang/Object")] 113

def k0c0 : Code := { maxStack := 0, maxLocals := 1, code := object_method_1_code, exceptionTable := #[], attributes := #[] }
def k0m0 : Method := { name := "<init>", desc := "()V", sig := { parameters := [], returnType := none }, accessFlags := 1, code := some k0c0 }
/-- java/lang/Object -/
def k0 : Class := { plain "java/lang/Object" none with
  accessFlags := 33
  interfaces := #[]
  cf := some (fileOf pool0 8 #[] #[{ accessFlags := 1, nameIndex := 5, descriptorIndex := 6, attributes := #[] }] 33 0 #[] #[])
  fields := #[]
  methods := #[k0m0]
  instanceTypes := #[]
  staticTypes := #[]
  resolved := Array.replicate 124 none
  statics := none }

def pool1 : Array CpInfo := pool [(2, .class_ 4), (0, .nameAndType 5 6), (0, u "java/lang/Object"), (0, u "<init>"), (0, u "()V"), (0, .methodref 8 9), (0, .class_ 10), (0, .nameAndType 11 12), (0, u "com/example/disk_to_queue/disktoqueue/bench/BodySumAddPinLaw"), (0, u "body"), (0, u "(III)[B"), (0, .methodref 8 14), (0, .nameAndType 15 16), (0, u "contrib"), (0, u "(II)J"), (0, .class_ 18), (0, u "com/example/disk_to_queue/disktoqueue/bench/BodySum"), (0, .methodref 17 3), (0, .methodref 17 21), (0, .nameAndType 22 23), (0, u "add"), (0, u "([B)V"), (0, .methodref 17 25), (0, .nameAndType 26 27), (0, u "hashCode"), (0, u "()I"), (0, .long 31), (1, .methodref 8 31), (0, .nameAndType 32 33), (0, u "hashOf"), (0, u "(J)I"), (0, .long 62), (1, .methodref 17 37), (0, .nameAndType 38 39), (0, u "equals"), (0, u "(Ljava/lang/Object;)Z"), (2, u "law"), (0, u "(IIIII)Z")] 5

def k1m0 : Method := { name := "<init>", desc := "()V", sig := { parameters := [], returnType := none }, accessFlags := 2, code := none }
def k1c1 : Code := { maxStack := 5, maxLocals := 19, code := code, exceptionTable := #[], attributes := #[] }
def k1m1 : Method := { name := "law", desc := "(IIIII)Z", sig := { parameters := [.int, .int, .int, .int, .int], returnType := some .boolean }, accessFlags := 9, code := some k1c1 }
def k1c2 : Code := { maxStack := 4, maxLocals := 4, code := method_3_code, exceptionTable := #[], attributes := #[] }
def k1m2 : Method := { name := "body", desc := "(III)[B", sig := { parameters := [.int, .int, .int], returnType := some (.array .byte) }, accessFlags := 10, code := some k1c2 }
def k1c3 : Code := { maxStack := 4, maxLocals := 3, code := method_4_code, exceptionTable := #[], attributes := #[] }
def k1m3 : Method := { name := "contrib", desc := "(II)J", sig := { parameters := [.int, .int], returnType := some .long }, accessFlags := 10, code := some k1c3 }
def k1c4 : Code := { maxStack := 5, maxLocals := 2, code := method_5_code, exceptionTable := #[], attributes := #[] }
def k1m4 : Method := { name := "hashOf", desc := "(J)I", sig := { parameters := [.long], returnType := some .int }, accessFlags := 10, code := some k1c4 }
/-- com/example/disk_to_queue/disktoqueue/bench/BodySumAddPinLaw -/
def k1 : Class := { plain "com/example/disk_to_queue/disktoqueue/bench/BodySumAddPinLaw" (some 0) with
  accessFlags := 49
  interfaces := #[]
  cf := some (fileOf pool1 8 #[] #[{ accessFlags := 2, nameIndex := 5, descriptorIndex := 6, attributes := #[] }, { accessFlags := 9, nameIndex := 42, descriptorIndex := 43, attributes := #[] }, { accessFlags := 10, nameIndex := 11, descriptorIndex := 12, attributes := #[] }, { accessFlags := 10, nameIndex := 15, descriptorIndex := 16, attributes := #[] }, { accessFlags := 10, nameIndex := 32, descriptorIndex := 33, attributes := #[] }] 49 2 #[] #[])
  fields := #[]
  methods := #[k1m0, k1m1, k1m2, k1m3, k1m4]
  instanceTypes := #[]
  staticTypes := #[]
  resolved := Array.replicate 49 none
  statics := none }

def pool2 : Array CpInfo := pool [(1, .methodref 2 3), (0, .class_ 4), (0, .nameAndType 5 6), (0, u "java/lang/Object"), (0, u "<init>"), (0, u "()V"), (0, .class_ 8), (0, u "com/example/disk_to_queue/disktoqueue/bench/BodySum"), (3, u "add"), (0, u "([B)V"), (0, .fieldref 7 15), (0, .nameAndType 16 17), (0, u "count"), (0, u "J"), (0, .fieldref 7 19), (0, .nameAndType 20 17), (0, u "sum"), (5, u "()I"), (7, .long 31), (1, .methodref 37 38), (0, .class_ 39), (0, .nameAndType 40 41), (0, u "java/lang/Long"), (0, u "hashCode"), (0, u "(J)I"), (12, u "equals"), (0, u "(Ljava/lang/Object;)Z")] 19

def k2c0 : Code := { maxStack := 1, maxLocals := 1, code := prog_1_method_1_code, exceptionTable := #[], attributes := #[] }
def k2m0 : Method := { name := "<init>", desc := "()V", sig := { parameters := [], returnType := none }, accessFlags := 0, code := some k2c0 }
def k2c1 : Code := { maxStack := 6, maxLocals := 2, code := prog_1_method_3_code, exceptionTable := #[], attributes := #[] }
def k2m1 : Method := { name := "add", desc := "([B)V", sig := { parameters := [(.array .byte)], returnType := none }, accessFlags := 0, code := some k2c1 }
def k2c2 : Code := { maxStack := 4, maxLocals := 2, code := prog_1_method_5_code, exceptionTable := #[], attributes := #[] }
def k2m2 : Method := { name := "equals", desc := "(Ljava/lang/Object;)Z", sig := { parameters := [(.object "java/lang/Object")], returnType := some .boolean }, accessFlags := 1, code := some k2c2 }
def k2c3 : Code := { maxStack := 4, maxLocals := 1, code := prog_1_method_6_code, exceptionTable := #[], attributes := #[] }
def k2m3 : Method := { name := "hashCode", desc := "()I", sig := { parameters := [], returnType := some .int }, accessFlags := 1, code := some k2c3 }
/-- com/example/disk_to_queue/disktoqueue/bench/BodySum -/
def k2 : Class := { plain "com/example/disk_to_queue/disktoqueue/bench/BodySum" (some 0) with
  accessFlags := 32
  interfaces := #[]
  cf := some (fileOf pool2 7 #[] #[{ accessFlags := 0, nameIndex := 5, descriptorIndex := 6, attributes := #[] }, { accessFlags := 0, nameIndex := 12, descriptorIndex := 13, attributes := #[] }, { accessFlags := 1, nameIndex := 54, descriptorIndex := 55, attributes := #[] }, { accessFlags := 1, nameIndex := 40, descriptorIndex := 26, attributes := #[] }] 32 2 #[] #[{ accessFlags := 2, nameIndex := 16, descriptorIndex := 17, attributes := #[] }, { accessFlags := 2, nameIndex := 20, descriptorIndex := 17, attributes := #[] }])
  fields := #[{ name := "count", type := .long, accessFlags := 2, slot := 0, constantValue := 0 }, { name := "sum", type := .long, accessFlags := 2, slot := 1, constantValue := 0 }]
  methods := #[k2m0, k2m1, k2m2, k2m3]
  instanceTypes := #[.long, .long]
  staticTypes := #[]
  resolved := Array.replicate 75 none
  statics := none }

def pool3 : Array CpInfo := pool [(1, .class_ 2), (0, u "java/io/Serializable"), (0, .class_ 4), (0, u "java/lang/Object")] 2

/-- java/io/Serializable -/
def k3 : Class := { plain "java/io/Serializable" (some 0) with
  accessFlags := 1537
  interfaces := #[]
  cf := some (fileOf pool3 1 #[] #[] 1537 3 #[] #[])
  fields := #[]
  methods := #[]
  instanceTypes := #[]
  staticTypes := #[]
  resolved := Array.replicate 7 none
  statics := none }

def pool4 : Array CpInfo := pool [(2, .class_ 4), (1, u "java/lang/Object"), (0, u "<init>"), (0, u "()V"), (1, .class_ 10), (1, u "java/lang/Number"), (2, .class_ 14), (0, u "java/io/Serializable"), (0, u "serialVersionUID"), (0, u "J")] 20

def k4m0 : Method := { name := "<init>", desc := "()V", sig := { parameters := [], returnType := none }, accessFlags := 1, code := none }
/-- java/lang/Number -/
def k4 : Class := { plain "java/lang/Number" (some 0) with
  accessFlags := 1057
  interfaces := #[3]
  cf := some (fileOf pool4 8 #[] #[{ accessFlags := 1, nameIndex := 5, descriptorIndex := 6, attributes := #[] }] 1057 2 #[13] #[{ accessFlags := 26, nameIndex := 15, descriptorIndex := 16, attributes := #[] }])
  fields := #[{ name := "serialVersionUID", type := .long, accessFlags := 26, slot := 0, constantValue := 0 }]
  methods := #[k4m0]
  instanceTypes := #[]
  staticTypes := #[.long]
  resolved := Array.replicate 37 none
  statics := none }

def pool5 : Array CpInfo := pool [(1, .class_ 2), (0, u "java/lang/Comparable"), (0, .class_ 4), (0, u "java/lang/Object")] 7

/-- java/lang/Comparable -/
def k5 : Class := { plain "java/lang/Comparable" (some 0) with
  accessFlags := 1537
  interfaces := #[]
  cf := some (fileOf pool5 1 #[] #[] 1537 3 #[] #[])
  fields := #[]
  methods := #[]
  instanceTypes := #[]
  staticTypes := #[]
  resolved := Array.replicate 12 none
  statics := none }

def pool6 : Array CpInfo := pool [(1, .class_ 2), (0, u "java/lang/constant/Constable"), (0, .class_ 4), (0, u "java/lang/Object")] 6

/-- java/lang/constant/Constable -/
def k6 : Class := { plain "java/lang/constant/Constable" (some 0) with
  accessFlags := 1537
  interfaces := #[]
  cf := some (fileOf pool6 1 #[] #[] 1537 3 #[] #[])
  fields := #[]
  methods := #[]
  instanceTypes := #[]
  staticTypes := #[]
  resolved := Array.replicate 11 none
  statics := none }

def pool7 : Array CpInfo := pool [(1, .class_ 2), (0, u "java/lang/constant/ConstantDesc"), (0, .class_ 4), (0, u "java/lang/Object")] 32

/-- java/lang/constant/ConstantDesc -/
def k7 : Class := { plain "java/lang/constant/ConstantDesc" (some 0) with
  accessFlags := 1537
  interfaces := #[]
  cf := some (fileOf pool7 1 #[] #[] 1537 3 #[] #[])
  fields := #[]
  methods := #[]
  instanceTypes := #[]
  staticTypes := #[]
  resolved := Array.replicate 37 none
  statics := none }

def pool8 : Array CpInfo := pool [(1, .class_ 2), (0, u "java/lang/Long"), (98, u "(J)I"), (133, .class_ 237), (1, u "java/lang/Long$LongCache"), (33, .class_ 272), (0, u "java/lang/Number"), (2, u "value"), (0, u "J"), (2, u "hashCode"), (81, u "TYPE"), (0, u "Ljava/lang/Class;"), (0, .class_ 364), (0, u "java/lang/Comparable"), (0, .class_ 366), (0, u "java/lang/constant/Constable"), (0, .class_ 368), (0, u "java/lang/constant/ConstantDesc"), (0, u "MIN_VALUE"), (1, u "MAX_VALUE"), (4, u "SIZE"), (0, u "I"), (1, u "BYTES"), (1, u "serialVersionUID")] 142

def k8c0 : Code := { maxStack := 5, maxLocals := 2, code := jdk_35_method_36_code, exceptionTable := #[], attributes := #[] }
def k8m0 : Method := { name := "hashCode", desc := "(J)I", sig := { parameters := [.long], returnType := some .int }, accessFlags := 9, code := some k8c0 }
/-- java/lang/Long -/
def k8 : Class := { plain "java/lang/Long" (some 4) with
  accessFlags := 49
  interfaces := #[5, 6, 7]
  cf := some (fileOf pool8 1 #[.nestMembers #[235]] #[{ accessFlags := 9, nameIndex := 279, descriptorIndex := 101, attributes := #[] }] 49 271 #[363, 365, 367] #[{ accessFlags := 25, nameIndex := 369, descriptorIndex := 276, attributes := #[] }, { accessFlags := 25, nameIndex := 371, descriptorIndex := 276, attributes := #[] }, { accessFlags := 25, nameIndex := 361, descriptorIndex := 362, attributes := #[] }, { accessFlags := 18, nameIndex := 275, descriptorIndex := 276, attributes := #[] }, { accessFlags := 25, nameIndex := 376, descriptorIndex := 377, attributes := #[] }, { accessFlags := 25, nameIndex := 379, descriptorIndex := 377, attributes := #[] }, { accessFlags := 26, nameIndex := 381, descriptorIndex := 276, attributes := #[] }])
  fields := #[{ name := "MIN_VALUE", type := .long, accessFlags := 25, slot := 0, constantValue := 0 }, { name := "MAX_VALUE", type := .long, accessFlags := 25, slot := 1, constantValue := 0 }, { name := "TYPE", type := (.object "java/lang/Class"), accessFlags := 25, slot := 2, constantValue := 0 }, { name := "value", type := .long, accessFlags := 18, slot := 0, constantValue := 0 }, { name := "SIZE", type := .int, accessFlags := 25, slot := 3, constantValue := 0 }, { name := "BYTES", type := .int, accessFlags := 25, slot := 4, constantValue := 0 }, { name := "serialVersionUID", type := .long, accessFlags := 26, slot := 5, constantValue := 0 }]
  methods := #[k8m0]
  instanceTypes := #[.long]
  staticTypes := #[.long, .long, (.object "java/lang/Class"), .int, .int, .long]
  resolved := Array.replicate 524 none
  statics := none }

def pool9 : Array CpInfo := pool [(1, u "java/lang/Cloneable"), (0, .class_ 1), (0, u "java/lang/Object"), (0, .class_ 3)] 3

/-- java/lang/Cloneable -/
def k9 : Class := { plain "java/lang/Cloneable" (some 0) with
  accessFlags := 1537
  interfaces := #[]
  cf := some (fileOf pool9 2 #[] #[] 1537 4 #[] #[])
  fields := #[]
  methods := #[]
  instanceTypes := #[]
  staticTypes := #[]
  resolved := Array.replicate 8 none
  statics := none }

/-- the primitive byte -/
def k10 : Class := { plain "byte" none with kind := .primitive 'B', accessFlags := 0x411 }
/-- [B -/
def k11 : Class := { plain "[B" (some 0) with kind := .array 10 .byte, interfaces := #[9, 3], accessFlags := 1041 }

/-- the primitive int -/
def k12 : Class := { plain "int" none with kind := .primitive 'I', accessFlags := 0x411 }
/-- [I -/
def k13 : Class := { plain "[I" (some 0) with kind := .array 12 .int, interfaces := #[9, 3], accessFlags := 1041 }

def heap : Heap := #[]
def classes : Array Class := #[k0, k1, k2, k3, k4, k5, k6, k7, k8, k9, k10, k11, k12, k13]
def interned : List (Array UInt16 × Addr) := []
def slotsUsed : Nat := 0
def theMethod : MethodId := ⟨1, 1⟩
def args0 : Array Value := #[.int 5, .int 1, .int 1, .int 1, .int 1]
def aboutOver (below : List Frame) : State where
  vm := { classes := classes, interned := interned.toArray }
  heap := heap
  slotsUsed := slotsUsed
  threads := #[{ frames := .invoking theMethod args0 :: below }]
def below0 : List Frame := [.native { method := ⟨0, 0⟩, args := #[] }]
def about1 : State := aboutOver below0
def p0 : Program := .bare "" "" ""
def e0 : Env := launch0.env 0 0 0
theorem w_frames : about1.frames = Frame.invoking theMethod args0 :: below0 := rfl
set_option maxRecDepth 65536 in
theorem w_args : argsFit about1.vm theMethod args0 = true := by decide +kernel
set_option maxRecDepth 65536 in
theorem w_heap : heapFits about1 = true := by decide +kernel
set_option maxRecDepth 65536 in
theorem w_runnable : about1.curStatus? = some .runnable := by decide +kernel
set_option maxRecDepth 65536 in
theorem w_alone : about1.alone = true := by decide +kernel
set_option maxRecDepth 65536 in
theorem w_named : about1.methodNamed? x = some theMethod := by decide +kernel
set_option maxRecDepth 65536 in
theorem w_hears : about1.hears theMethod below0 = true := by decide +kernel
set_option maxRecDepth 65536 in
theorem w_ripe : about1.ripe theMethod args0 below0 = true := by decide +kernel
theorem w_running : about1.status = .running := rfl
set_option maxRecDepth 65536 in
theorem w_room : about1.hasRoom e0.platform room_1 = true :=
  launch0.hasRoom_least _ room_1 (by decide +kernel) (by decide +kernel) (by decide +kernel) (by decide +kernel) (by decide +kernel) (by decide +kernel)
theorem allAtoms_all (ts : List Jvm.Cond) (a : Array Jvm.Value) (st : Jvm.State) : (allAtoms ts).before a st = ts.all (fun c => c.before a st) := by
  induction ts with
  | nil => rfl
  | cons c t ih =>
    show (Jvm.Cond.and c (allAtoms t)).before a st = _
    rw [Jvm.Cond.before_and, ih, List.all_cons]
def words1 : List Jvm.Cond := Jvm.Cond.code x code maxLocals ret :: tables_1
/-- a 'code' word, met by the world's own term for the bytes: nothing is compared byte by byte -/
theorem code_word {y : MethodName} {bytes : ByteArray} {mx : Nat} {rt : Option FieldType} {a : Array Value} {s : State} {m : MethodId} {meth : Method} {c : Code} (h1 : s.methodNamed? y = some m) (h2 : s.vm.method? m = some meth) (h3 : meth.code = some c) (h4 : c.code = bytes)
    (h5 : (c.maxLocals == mx && c.exceptionTable.isEmpty && decide (c.maxStack ≤ mostOperands) && decide (meth.sig.returnType = rt) && !meth.locks && decide (parseMethodDescriptor y.desc = some meth.sig)) = true) : (Jvm.Cond.code y bytes mx rt).before a s = true := by
  simp only [Bool.and_eq_true, beq_iff_eq, Bool.not_eq_true', decide_eq_true_eq] at h5
  obtain ⟨⟨⟨⟨⟨g1, g2⟩, g3⟩, g4⟩, g5⟩, g6⟩ := h5
  simp [Cond.before, Cond.holds, Cond.value, h1, h2, h3, h4, g1, g2, g3, g4, g5, g6]
def isCode : Jvm.Cond → Bool
  | .code _ _ _ _ => true
  | _ => false
theorem all_split {L : List Jvm.Cond} {P : Jvm.Cond → Bool} (h1 : L.all (fun c => isCode c || P c) = true) (h2 : ∀ c ∈ L.filter isCode, P c = true) : L.all P = true := by
  refine List.all_eq_true.mpr fun c hc => ?_
  have h := List.all_eq_true.mp h1 c hc
  rcases Bool.eq_false_or_eq_true (isCode c) with hi | hi
  · exact h2 c (List.mem_filter.mpr ⟨hc, hi⟩)
  · simpa [hi] using h
set_option maxRecDepth 65536 in
theorem w_c0 : (Jvm.Cond.code x code maxLocals ret).before args0 about1 = true := code_word (m := ⟨1, 1⟩) (meth := k1m1) (c := k1c1) (by decide +kernel) rfl rfl rfl (by decide +kernel)
set_option maxRecDepth 65536 in
theorem w_c1 : (Jvm.Cond.code ({ cls := "com/example/disk_to_queue/disktoqueue/bench/BodySumAddPinLaw", name := "body", desc := "(III)[B" } : Jvm.MethodName) method_3_code (4 : Nat) (Option.some (Jvm.ClassFile.FieldType.array Jvm.ClassFile.FieldType.byte))).before args0 about1 = true := code_word (m := ⟨1, 2⟩) (meth := k1m2) (c := k1c2) (by decide +kernel) rfl rfl rfl (by decide +kernel)
set_option maxRecDepth 65536 in
theorem w_c2 : (Jvm.Cond.code ({ cls := "com/example/disk_to_queue/disktoqueue/bench/BodySumAddPinLaw", name := "contrib", desc := "(II)J" } : Jvm.MethodName) method_4_code (3 : Nat) (Option.some Jvm.ClassFile.FieldType.long)).before args0 about1 = true := code_word (m := ⟨1, 3⟩) (meth := k1m3) (c := k1c3) (by decide +kernel) rfl rfl rfl (by decide +kernel)
set_option maxRecDepth 65536 in
theorem w_c3 : (Jvm.Cond.code ({ cls := "com/example/disk_to_queue/disktoqueue/bench/BodySum", name := "<init>", desc := "()V" } : Jvm.MethodName) prog_1_method_1_code (1 : Nat) (Option.none : Option Jvm.ClassFile.FieldType)).before args0 about1 = true := code_word (m := ⟨2, 0⟩) (meth := k2m0) (c := k2c0) (by decide +kernel) rfl rfl rfl (by decide +kernel)
set_option maxRecDepth 65536 in
theorem w_c4 : (Jvm.Cond.code ({ cls := "java/lang/Object", name := "<init>", desc := "()V" } : Jvm.MethodName) object_method_1_code (1 : Nat) (Option.none : Option Jvm.ClassFile.FieldType)).before args0 about1 = true := code_word (m := ⟨0, 0⟩) (meth := k0m0) (c := k0c0) (by decide +kernel) rfl rfl rfl (by decide +kernel)
set_option maxRecDepth 65536 in
theorem w_c5 : (Jvm.Cond.code ({ cls := "com/example/disk_to_queue/disktoqueue/bench/BodySum", name := "add", desc := "([B)V" } : Jvm.MethodName) prog_1_method_3_code (2 : Nat) (Option.none : Option Jvm.ClassFile.FieldType)).before args0 about1 = true := code_word (m := ⟨2, 1⟩) (meth := k2m1) (c := k2c1) (by decide +kernel) rfl rfl rfl (by decide +kernel)
set_option maxRecDepth 65536 in
theorem w_c6 : (Jvm.Cond.code ({ cls := "com/example/disk_to_queue/disktoqueue/bench/BodySum", name := "hashCode", desc := "()I" } : Jvm.MethodName) prog_1_method_6_code (1 : Nat) (Option.some Jvm.ClassFile.FieldType.int)).before args0 about1 = true := code_word (m := ⟨2, 3⟩) (meth := k2m3) (c := k2c3) (by decide +kernel) rfl rfl rfl (by decide +kernel)
set_option maxRecDepth 65536 in
theorem w_c7 : (Jvm.Cond.code ({ cls := "java/lang/Long", name := "hashCode", desc := "(J)I" } : Jvm.MethodName) jdk_35_method_36_code (2 : Nat) (Option.some Jvm.ClassFile.FieldType.int)).before args0 about1 = true := code_word (m := ⟨8, 0⟩) (meth := k8m0) (c := k8c0) (by decide +kernel) rfl rfl rfl (by decide +kernel)
set_option maxRecDepth 65536 in
theorem w_c8 : (Jvm.Cond.code ({ cls := "com/example/disk_to_queue/disktoqueue/bench/BodySumAddPinLaw", name := "hashOf", desc := "(J)I" } : Jvm.MethodName) method_5_code (2 : Nat) (Option.some Jvm.ClassFile.FieldType.int)).before args0 about1 = true := code_word (m := ⟨1, 4⟩) (meth := k1m4) (c := k1c4) (by decide +kernel) rfl rfl rfl (by decide +kernel)
set_option maxRecDepth 65536 in
theorem w_c9 : (Jvm.Cond.code ({ cls := "com/example/disk_to_queue/disktoqueue/bench/BodySum", name := "equals", desc := "(Ljava/lang/Object;)Z" } : Jvm.MethodName) prog_1_method_5_code (2 : Nat) (Option.some Jvm.ClassFile.FieldType.boolean)).before args0 about1 = true := code_word (m := ⟨2, 2⟩) (meth := k2m2) (c := k2c2) (by decide +kernel) rfl rfl rfl (by decide +kernel)
def codes1 : List Jvm.Cond := [Jvm.Cond.code x code maxLocals ret, Jvm.Cond.code ({ cls := "com/example/disk_to_queue/disktoqueue/bench/BodySumAddPinLaw", name := "body", desc := "(III)[B" } : Jvm.MethodName) method_3_code (4 : Nat) (Option.some (Jvm.ClassFile.FieldType.array Jvm.ClassFile.FieldType.byte)), Jvm.Cond.code ({ cls := "com/example/disk_to_queue/disktoqueue/bench/BodySumAddPinLaw", name := "contrib", desc := "(II)J" } : Jvm.MethodName) method_4_code (3 : Nat) (Option.some Jvm.ClassFile.FieldType.long), Jvm.Cond.code ({ cls := "com/example/disk_to_queue/disktoqueue/bench/BodySum", name := "<init>", desc := "()V" } : Jvm.MethodName) prog_1_method_1_code (1 : Nat) (Option.none : Option Jvm.ClassFile.FieldType), Jvm.Cond.code ({ cls := "java/lang/Object", name := "<init>", desc := "()V" } : Jvm.MethodName) object_method_1_code (1 : Nat) (Option.none : Option Jvm.ClassFile.FieldType), Jvm.Cond.code ({ cls := "com/example/disk_to_queue/disktoqueue/bench/BodySum", name := "add", desc := "([B)V" } : Jvm.MethodName) prog_1_method_3_code (2 : Nat) (Option.none : Option Jvm.ClassFile.FieldType), Jvm.Cond.code ({ cls := "com/example/disk_to_queue/disktoqueue/bench/BodySum", name := "hashCode", desc := "()I" } : Jvm.MethodName) prog_1_method_6_code (1 : Nat) (Option.some Jvm.ClassFile.FieldType.int), Jvm.Cond.code ({ cls := "java/lang/Long", name := "hashCode", desc := "(J)I" } : Jvm.MethodName) jdk_35_method_36_code (2 : Nat) (Option.some Jvm.ClassFile.FieldType.int), Jvm.Cond.code ({ cls := "com/example/disk_to_queue/disktoqueue/bench/BodySumAddPinLaw", name := "hashOf", desc := "(J)I" } : Jvm.MethodName) method_5_code (2 : Nat) (Option.some Jvm.ClassFile.FieldType.int), Jvm.Cond.code ({ cls := "com/example/disk_to_queue/disktoqueue/bench/BodySum", name := "equals", desc := "(Ljava/lang/Object;)Z" } : Jvm.MethodName) prog_1_method_5_code (2 : Nat) (Option.some Jvm.ClassFile.FieldType.boolean)]
set_option maxRecDepth 65536 in
theorem codes_eq : words1.filter isCode = codes1 := rfl
theorem w_codes : ∀ c ∈ words1.filter isCode, c.before args0 about1 = true := by
  rw [codes_eq]
  intro c hc
  simp only [codes1, List.mem_cons, List.not_mem_nil, or_false] at hc
  rcases hc with rfl | rfl | rfl | rfl | rfl | rfl | rfl | rfl | rfl | rfl
  · exact w_c0
  · exact w_c1
  · exact w_c2
  · exact w_c3
  · exact w_c4
  · exact w_c5
  · exact w_c6
  · exact w_c7
  · exact w_c8
  · exact w_c9
set_option maxRecDepth 65536 in
theorem w_t1 : (words1.take 24).all (fun c => isCode c || c.before args0 about1) = true := by decide +kernel
set_option maxRecDepth 65536 in
theorem w_t2 : ((words1.drop 24).take 24).all (fun c => isCode c || c.before args0 about1) = true := by decide +kernel
set_option maxRecDepth 65536 in
theorem w_t3 : ((words1.drop 24).drop 24).all (fun c => isCode c || c.before args0 about1) = true := by decide +kernel
theorem w_tables : (allAtoms (Jvm.Cond.code x code maxLocals ret :: tables_1)).before args0 about1 = true := by
  rw [allAtoms_all]
  show words1.all (fun c => c.before args0 about1) = true
  refine all_split ?_ w_codes
  rw [← List.take_append_drop 24 words1, List.all_append, w_t1, ← List.take_append_drop 24 (words1.drop 24), List.all_append, w_t2, w_t3]
  rfl
set_option maxRecDepth 65536 in
theorem w_case : (Jvm.Cond.and given_1 narrow_1).before args0 about1 = true := by decide +kernel
theorem w_applies : (headSpec (Jvm.Cond.code x code maxLocals ret :: tables_1) room_1).applies x e0.platform about1 = true :=
  (Spec.applies_iff w_frames).mpr ⟨w_running, w_runnable, w_alone, w_named, w_hears, w_ripe, w_room, w_tables⟩
theorem atStart : AtStart classFile x code maxLocals ret World_1 tables_1 room_1 Calls_1 rest_1 Pre_1 launch0 p0 e0 about1 theMethod args0 below0 :=
  ⟨lists_1, trivial, launch0.admits_env _ _ _, launch0.least_env, fairChoices_fair.cas, fairChoices_fair.clock, w_frames, w_args, w_heap, w_applies, trivial, trivial, w_case⟩
end start1
theorem witness_1 : WitnessClaimed_1 := ⟨start1.p0, start1.e0, start1.about1, start1.theMethod, start1.args0, start1.below0, start1.atStart⟩
end Jvm.Pilot.@@N@@
