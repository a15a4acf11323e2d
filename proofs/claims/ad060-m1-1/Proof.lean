import JvmDerived
import JvmDerived.Pilot.@@N@@Statement
import JvmDerived.Pilot.@@N@@Code
set_option linter.unusedVariables false
set_option linter.unusedSimpArgs false
namespace Jvm.RoadKit
open Sem ClassFile Op Lib Jvm.Stand Jvm.Free Jvm.LawKit
section New
variable {p : Program} {l : Launch} {e : Env} {R : Room} {s : State} {m : MethodId} {args : Array Value} {below : List Frame} {meth : Method} {c : Code} {T : State} {locs : List Loc} {cells slots : Nat}
theorem retI (X : Stand p l e R s m args below meth c T locs cells slots) (hx : p.tables.exec = Jvm.exec) {pc : Nat} {Ls : Array Slot} {z : Int32} {rest : List Value} (hret : meth.sig.returnType = some .int) (hd : decode c.code pc = .ok (.ireturn, 1)) {fs : List Frame}
    (hl : ∀ (f : JFrame) (acts : List Action), f.method = m → f.locked = none → f.entered = [] → (doReturn e (T.setTop f) acts (some (.int z))).1 = T.setFrames fs) : Steps p.tables e below (T.setTop (mkF m pc Ls (.int z :: rest))) (T.setFrames fs) := by
  have hm' : T.vm.method? m = some meth := X.method'
  have hn : narrow .int (.int z) = .int z := rfl
  show Steps p.tables e below (T.setTop { method := m, pc := pc, locals := Ls, stack := _ :: rest, locked := none }) _
  jvm_step X.here [X.here.top, hx, hd, hm', hret, hn]
  first | (intro acts; rw [hl _ acts rfl rfl rfl]) | rw [hl _ _ rfl rfl rfl]
  exact Steps.refl _
end New
end Jvm.RoadKit
namespace Jvm.Pilot.@@N@@
open Jvm Jvm.ClassFile Sem Op Lib Jvm.Free Jvm.Stand Jvm.LawKit Jvm.RoadKit Bundle Jvm.Pilot.@@N@@.Jvm.D
def own_g (l : List Int32) (j : Int32) : Int32 := l.getD j.toNatClampNeg 0
theorem own_getg (l : List Int32) (j : Int32) : (l.map Value.int).getD j.toNatClampNeg (.int (0 : Int32)) = .int (own_g l j) := by
  unfold own_g
  generalize j.toNatClampNeg = i
  induction l generalizing i with
  | nil => rfl
  | cons a t ih => cases i with
    | zero => rfl
    | succ n => exact ih n
def own_step (g : Int32 → Int32) (to r i : Int32) : Int32 :=
  if g i = (10 : Int32) ∧ (i + (1 : Int32)) < to ∧ g (i + (1 : Int32)) = (10 : Int32) then i + (2 : Int32)
  else if g i = (10 : Int32) ∧ (i + (2 : Int32)) < to ∧ g (i + (1 : Int32)) = (13 : Int32) ∧ g (i + (2 : Int32)) = (10 : Int32) then i + (3 : Int32) else r
def own_loop (g : Int32 → Int32) (to : Int32) : Nat → Int32 → Int32 → Int32
  | 0, r, _ => r
  | n + 1, r, i => if r < (0 : Int32) then (if i < to then own_loop g to n (own_step g to r i) (i + (1 : Int32)) else r) else r
def own_first (g : Int32 → Int32) (w p fr to : Int32) : Int32 :=
  if ¬ w < (0 : Int32) then w else if p < fr then w else if ¬ p < to then w else if ¬ g p = (10 : Int32) then w
  else if (p + (1 : Int32)) < to ∧ g (p + (1 : Int32)) = (10 : Int32) then p + (2 : Int32)
  else if (p + (2 : Int32)) < to ∧ g (p + (1 : Int32)) = (13 : Int32) ∧ g (p + (2 : Int32)) = (10 : Int32) then p + (3 : Int32) else (-1 : Int32)
def own_chain (g : Int32 → Int32) (fr to : Int32) : Nat → Int32 → Int32 → Int32
  | 0, w, _ => w
  | n + 1, w, p => own_chain g fr to n (own_first g w p fr to) (p + (1 : Int32))
theorem own_ladd (p : Int32) (k : Int32) (h0 : 0 ≤ p.toInt) (h1 : p.toInt ≤ 1000) (k0 : 0 ≤ k.toInt) (k1 : k.toInt ≤ 1000) : (p + k).toInt = p.toInt + k.toInt := by
  have e := c_iadd p k; have r := rng32 (p + k); omega
theorem own_c1 (g : Int32 → Int32) (fr to : Int32) : ∀ (n : Nat) (w p : Int32), ¬ w < (0 : Int32) → own_chain g fr to n w p = w
  | 0, _, _, _ => rfl
  | n + 1, w, p, h => by
    show own_chain g fr to n (own_first g w p fr to) _ = w
    rw [show own_first g w p fr to = w from by unfold own_first; rw [if_pos h]]; exact own_c1 g fr to n w _ h
theorem own_c2 (g : Int32 → Int32) (fr to : Int32) : ∀ (n : Nat) (w p : Int32), 0 ≤ p.toInt → p.toInt + (n : Int) ≤ 1000 → ¬ p < to → own_chain g fr to n w p = w
  | 0, _, _, _, _, _ => rfl
  | n + 1, w, p, h0, h1, h => by
    show own_chain g fr to n (own_first g w p fr to) _ = w
    have e0 : own_first g w p fr to = w := by
      unfold own_first
      by_cases h1 : w < (0 : Int32)
      · rw [if_neg (fun z => z h1)]
        by_cases h2 : p < fr
        · rw [if_pos h2]
        · rw [if_neg h2, if_pos h]
      · rw [if_pos h1]
    rw [e0]
    have e := own_ladd p 1 h0 (by omega) (by decide) (by decide)
    have e1 : (1 : Int32).toInt = 1 := rfl
    refine own_c2 g fr to n w _ (by omega) (by omega) ?_
    rw [Int32.lt_iff_toInt_lt] at h ⊢; omega
theorem own_ne0 (x : Int32) (h : 0 ≤ x.toInt) : ¬ x < (0 : Int32) := by rw [Int32.lt_iff_toInt_lt]; have : (0 : Int32).toInt = 0 := rfl; omega
theorem own_lc (g : Int32 → Int32) (fr to : Int32) : ∀ (n : Nat) (w p : Int32), 0 ≤ p.toInt → p.toInt + (n : Int) ≤ 900 → ¬ p < fr → (w = (-1 : Int32) ∨ ¬ w < (0 : Int32)) → own_loop g to n w p = own_chain g fr to n w p
  | 0, _, _, _, _, _, _ => rfl
  | n + 1, w, p, h0, h1, hf, hw => by
    by_cases hn : w < (0 : Int32)
    · have hw1 : w = (-1 : Int32) := hw.resolve_right (fun z => z hn)
      unfold own_loop
      rw [if_pos hn]
      by_cases hp : p < to
      · rw [if_pos hp]
        show _ = own_chain g fr to n (own_first g w p fr to) _
        have e := own_ladd p 1 h0 (by omega) (by decide) (by decide)
        have e2 := own_ladd p 2 h0 (by omega) (by decide) (by decide)
        have e3 := own_ladd p 3 h0 (by omega) (by decide) (by decide)
        have q1 : (1 : Int32).toInt = 1 := rfl
        have q2 : (2 : Int32).toInt = 2 := rfl
        have q3 : (3 : Int32).toInt = 3 := rfl
        have es : own_first g w p fr to = own_step g to w p := by
          unfold own_first own_step
          rw [if_neg (fun z => z hn), if_neg hf, if_neg (fun z => z hp), hw1]
          by_cases g1 : g p = (10 : Int32)
          · simp [g1]
          · simp [g1]
        have hs : own_step g to w p = (-1 : Int32) ∨ ¬ own_step g to w p < (0 : Int32) := by
          unfold own_step
          split
          · exact Or.inr (own_ne0 _ (by omega))
          · split
            · exact Or.inr (own_ne0 _ (by omega))
            · exact Or.inl hw1
        rw [es]
        refine own_lc g fr to n _ _ (by omega) (by omega) ?_ hs
        rw [Int32.lt_iff_toInt_lt] at hf ⊢; omega
      · rw [if_neg hp]; exact (own_c2 g fr to (n + 1) w p h0 (by omega) hp).symm
    · unfold own_loop; rw [if_neg hn]; exact (own_c1 g fr to (n + 1) w p hn).symm
theorem own_skip (g : Int32 → Int32) (fr to p : Int32) (h : p < fr) : own_first g (-1) p fr to = (-1 : Int32) := by
  unfold own_first; rw [if_neg (by decide), if_pos h]
theorem own_adv (g : Int32 → Int32) (fr to : Int32) (h9 : fr.toInt ≤ 900) : ∀ (k n : Nat) (p : Int32), 0 ≤ p.toInt → p.toInt + (k : Int) = fr.toInt → own_chain g fr to (n + k) (-1) p = own_chain g fr to n (-1) fr
  | 0, n, p, h0, h => by rw [show p = fr from Int32.toInt_inj.mp (by omega)]; rfl
  | k + 1, n, p, h0, h => by
    show own_chain g fr to (n + k) (own_first g (-1) p fr to) (p + (1 : Int32)) = _
    have e := own_ladd p 1 h0 (by omega) (by decide) (by decide)
    have e1 : (1 : Int32).toInt = 1 := rfl
    rw [own_skip g fr to p (by rw [Int32.lt_iff_toInt_lt]; omega)]
    exact own_adv g fr to h9 k n _ (by omega) (by omega)
theorem own_same (g : Int32 → Int32) (fr to : Int32) (h0 : 0 ≤ fr.toInt) (h6 : fr.toInt ≤ 6) : own_loop g to (6 - fr.toInt.toNat) (-1) fr = own_chain g fr to 6 (-1) 0 := by
  have e := own_adv g fr to (by omega) fr.toInt.toNat (6 - fr.toInt.toNat) 0 (by decide) (by have : (0 : Int32).toInt = 0 := rfl; omega)
  rw [show 6 - fr.toInt.toNat + fr.toInt.toNat = 6 from by omega] at e
  rw [e]
  exact own_lc g fr to _ _ _ h0 (by omega) (by rw [Int32.lt_iff_toInt_lt]; omega) (Or.inl rfl)
theorem own_m7 (x : Int32) : 0 ≤ ((x &&& (2147483647 : Int32)) % (7 : Int32)).toInt ∧ ((x &&& (2147483647 : Int32)) % (7 : Int32)).toInt ≤ 6 := by
  have h := (c_and x 2147483647 (by decide)).1
  have e := (c_irem (x &&& 2147483647) 7 7 rfl).1 h
  omega
theorem own_in0 {i to : Int32} (h0 : 0 ≤ i.toInt) (h6 : to.toInt ≤ 6) (h : i < to) : ¬ i < 0 ∧ i < (6 : Int32) := by
  rw [Int32.lt_iff_toInt_lt] at h
  refine ⟨own_ne0 _ h0, ?_⟩
  rw [Int32.lt_iff_toInt_lt]; have : (6 : Int32).toInt = 6 := rfl; omega
theorem own_in1 {i to : Int32} (h0 : 0 ≤ i.toInt) (h6 : to.toInt ≤ 6) (h : i < to) (h1 : (i + (1 : Int32)) < to) : ¬ (i + (1 : Int32)) < 0 ∧ (i + (1 : Int32)) < (6 : Int32) := by
  rw [Int32.lt_iff_toInt_lt] at h
  have e := own_ladd i 1 h0 (by omega) (by decide) (by decide)
  have e1 : (1 : Int32).toInt = 1 := rfl
  exact own_in0 (by omega) h6 h1
theorem own_in2 {i to : Int32} (h0 : 0 ≤ i.toInt) (h6 : to.toInt ≤ 6) (h : i < to) (h2 : (i + (2 : Int32)) < to) : (¬ (i + (1 : Int32)) < 0 ∧ (i + (1 : Int32)) < (6 : Int32)) ∧ (¬ (i + (2 : Int32)) < 0 ∧ (i + (2 : Int32)) < (6 : Int32)) := by
  rw [Int32.lt_iff_toInt_lt] at h
  have e := own_ladd i 1 h0 (by omega) (by decide) (by decide)
  have e2 := own_ladd i 2 h0 (by omega) (by decide) (by decide)
  have e1 : (1 : Int32).toInt = 1 := rfl
  have e3 : (2 : Int32).toInt = 2 := rfl
  refine ⟨own_in0 (i := i + 1) (to := to) (by omega) h6 ?_, own_in0 (by omega) h6 h2⟩
  rw [Int32.lt_iff_toInt_lt] at h2 ⊢; omega
theorem d1_0 : decode method_3_code 0 = .ok (.iload_n 0, 1) := by decide +kernel
theorem d1_1 : decode method_3_code 1 = .ok (.iconst 2, 1) := by decide +kernel
theorem d1_2 : decode method_3_code 2 = .ok (.iload_n 3, 1) := by decide +kernel
theorem d1_3 : decode method_3_code 3 = .ok (.imul, 1) := by decide +kernel
theorem d1_4 : decode method_3_code 4 = .ok (.iushr, 1) := by decide +kernel
theorem d1_5 : decode method_3_code 5 = .ok (.iconst 3, 1) := by decide +kernel
theorem d1_6 : decode method_3_code 6 = .ok (.iand, 1) := by decide +kernel
theorem d1_7 : decode method_3_code 7 = .ok (.istore 4, 2) := by decide +kernel
theorem d1_9 : decode method_3_code 9 = .ok (.iload 4, 2) := by decide +kernel
theorem d1_11 : decode method_3_code 11 = .ok (.ifCond .ne 6, 3) := by decide +kernel
theorem d1_14 : decode method_3_code 14 = .ok (.bipush 10, 2) := by decide +kernel
theorem d1_16 : decode method_3_code 16 = .ok (.ireturn, 1) := by decide +kernel
theorem d1_17 : decode method_3_code 17 = .ok (.iload 4, 2) := by decide +kernel
theorem d1_19 : decode method_3_code 19 = .ok (.iconst 1, 1) := by decide +kernel
theorem d1_20 : decode method_3_code 20 = .ok (.if_icmp .ne 6, 3) := by decide +kernel
theorem d1_23 : decode method_3_code 23 = .ok (.bipush 13, 2) := by decide +kernel
theorem d1_25 : decode method_3_code 25 = .ok (.ireturn, 1) := by decide +kernel
theorem d1_26 : decode method_3_code 26 = .ok (.iload 4, 2) := by decide +kernel
theorem d1_28 : decode method_3_code 28 = .ok (.iconst 2, 1) := by decide +kernel
theorem d1_29 : decode method_3_code 29 = .ok (.if_icmp .ne 6, 3) := by decide +kernel
theorem d1_32 : decode method_3_code 32 = .ok (.bipush 97, 2) := by decide +kernel
theorem d1_34 : decode method_3_code 34 = .ok (.ireturn, 1) := by decide +kernel
theorem d1_35 : decode method_3_code 35 = .ok (.lload_n 1, 1) := by decide +kernel
theorem d1_36 : decode method_3_code 36 = .ok (.bipush 8, 2) := by decide +kernel
theorem d1_38 : decode method_3_code 38 = .ok (.iload_n 3, 1) := by decide +kernel
theorem d1_39 : decode method_3_code 39 = .ok (.imul, 1) := by decide +kernel
theorem d1_40 : decode method_3_code 40 = .ok (.lushr, 1) := by decide +kernel
theorem d1_41 : decode method_3_code 41 = .ok (.l2i, 1) := by decide +kernel
theorem d1_42 : decode method_3_code 42 = .ok (.i2b, 1) := by decide +kernel
theorem d1_43 : decode method_3_code 43 = .ok (.ireturn, 1) := by decide +kernel
theorem own_pn0 : plainName "com/example/ruleward/ruleward/http/HttpHeadEndPinLaw" = true := by first | (simp [plainName, overriddenIn]; done) | decide +kernel
theorem rmP_ef (m : MethodId) (x0 : Int32) (x1 : Int64) (x2 : Int32) : entryFrame m #[(.int x0), (.long x1), (.int x2)] 5 = mkF m 0 #[.val (.int x0), .val (.long x1), .second, .val (.int x2), .unset] [] := by first | (simp [entryFrame, mkF, argsToLocals, Value.category]; done) | rfl
def QP (Z : State) (p1 : Int32) (q1 : Int64) (p2 : Int32) (h0 : Heap) (n0 : Nat) (v : Option Value) (h : Heap) (L : List Loc) : Prop := ∃ z : Int32, v = some (.int z) ∧ Fr n0 L ∧ h = h0
set_option maxRecDepth 65536 in
set_option maxHeartbeats 40000000 in
theorem rmP (l : Launch) (Z : State) (a0 : Array Value) (hw : ∀ d ∈ tables_1, d.before a0 Z = true) (ws : List Jvm.Cond) (p1 : Int32) (q1 : Int64) (p2 : Int32) (h0 : Heap) (n0 : Nat) (Z0 : n0 ≤ h0.size) :
    MetFree l (⟨"com/example/ruleward/ruleward/http/HttpHeadEndPinLaw", "pick", "(IJI)B"⟩ : MethodName) (head1 (Jvm.Cond.code (⟨"com/example/ruleward/ruleward/http/HttpHeadEndPinLaw", "pick", "(IJI)B"⟩ : MethodName) method_3_code 5 (some .byte) :: ws) ({ frames := 0, cells := 0, slots := 0, locals := 0 } : Room)) (fun aA' U => aA' = #[(.int p1), (.long q1), (.int p2)] ∧ Z.Warmed39 U.vm ∧ U.heap = h0) (fun _ _ _ _ _ => True) (fun _ U oO' U' => ∃ vV' L, oO' = .returned vV' ∧ QP Z p1 q1 p2 h0 n0 vV' U'.heap L ∧ FrameEnd U oO' U' L ({ frames := 0, cells := 0, slots := 0, locals := 0 } : Room).cells ({ frames := 0, cells := 0, slots := 0, locals := 0 } : Room).slots) := by
  refine MetFree.of_bodySF (plainFor_of_name own_pn0) hisR ?_
  intro p e s m args below meth c s₁ Bd hml0 hP hK
  obtain ⟨rfl, hZ, hh⟩ := hP
  have hx := Bd.exec
  have hby := Bd.bytes
  have hml : c.maxLocals = 5 := hml0
  have hown : s.vm.findClass "com/example/ruleward/ruleward/http/HttpHeadEndPinLaw" = some m.cls := findClass_of_methodNamed Bd.named
  have hnm := (name_of_methodNamed Bd.named Bd.method).1
  have X0 : Stand p l e ({ frames := 0, cells := 0, slots := 0, locals := 0 } : Room) s m #[(.int p1), (.long q1), (.int p2)] below meth c s₁ [] 0 0 := Stand.of_body Bd
  have e0 : s₁.heap = h0 := by rw [← hh, Bd.state]; rfl
  have N0 := Fr.nil n0
  have K0 : Keep h0 h0 [] := Keep.refl _ _
  have k0 : ∀ t, Steps p.tables e below (s₁.setTop (mkF m 0 #[.val (.int p1), .val (.long q1), .second, .val (.int p2), .unset] [])) t → Steps p.tables e below (s₁.setTop (entryFrame m #[(.int p1), (.long q1), (.int p2)] 5)) t := fun t k => castTop (rmP_ef m (p1) (q1) (p2)) k
  have k2 : ∀ t, Steps p.tables e below (s₁.setTop (mkF m 11 #[.val (.int p1), .val (.long q1), .second, .val (.int p2), .val (.int (((p1.toUInt32 >>> (((2 : Int32) * p2) &&& 31).toUInt32).toInt32) &&& (3 : Int32)))] [(.int (((p1.toUInt32 >>> (((2 : Int32) * p2) &&& 31).toUInt32).toInt32) &&& (3 : Int32)))])) t → Steps p.tables e below (s₁.setTop (entryFrame m #[(.int p1), (.long q1), (.int p2)] 5)) t := by
    intro t kt
    refine k0 t ?_
    show Steps p.tables e below (s₁.setTop (mkF m 0 #[.val (.int p1), .val (.long q1), .second, .val (.int p2), .unset] [])) t
    refine XS.iloadN X0.here hx rfl (hb hby d1_0) rfl ?_
    show Steps p.tables e below (s₁.setTop (mkF m 1 #[.val (.int p1), .val (.long q1), .second, .val (.int p2), .unset] [(.int p1)])) t
    refine XS.iconst X0.here hx rfl (hb hby d1_1) ?_
    show Steps p.tables e below (s₁.setTop (mkF m 2 #[.val (.int p1), .val (.long q1), .second, .val (.int p2), .unset] [(.int (2 : Int32)), (.int p1)])) t
    refine XS.iloadN X0.here hx rfl (hb hby d1_2) rfl ?_
    show Steps p.tables e below (s₁.setTop (mkF m 3 #[.val (.int p1), .val (.long q1), .second, .val (.int p2), .unset] [(.int p2), (.int (2 : Int32)), (.int p1)])) t
    refine XS.imul X0.here hx rfl (hb hby d1_3) rfl ?_
    show Steps p.tables e below (s₁.setTop (mkF m 4 #[.val (.int p1), .val (.long q1), .second, .val (.int p2), .unset] [(.int ((2 : Int32) * p2)), (.int p1)])) t
    refine XS.iushr X0.here hx rfl (hb hby d1_4) rfl ?_
    show Steps p.tables e below (s₁.setTop (mkF m 5 #[.val (.int p1), .val (.long q1), .second, .val (.int p2), .unset] [(.int ((p1.toUInt32 >>> (((2 : Int32) * p2) &&& 31).toUInt32).toInt32))])) t
    refine XS.iconst X0.here hx rfl (hb hby d1_5) ?_
    show Steps p.tables e below (s₁.setTop (mkF m 6 #[.val (.int p1), .val (.long q1), .second, .val (.int p2), .unset] [(.int (3 : Int32)), (.int ((p1.toUInt32 >>> (((2 : Int32) * p2) &&& 31).toUInt32).toInt32))])) t
    refine XS.iand X0.here hx rfl (hb hby d1_6) rfl ?_
    show Steps p.tables e below (s₁.setTop (mkF m 7 #[.val (.int p1), .val (.long q1), .second, .val (.int p2), .unset] [(.int (((p1.toUInt32 >>> (((2 : Int32) * p2) &&& 31).toUInt32).toInt32) &&& (3 : Int32)))])) t
    refine XS.istore X0.here hx rfl (hb hby d1_7) rfl (l' := #[.val (.int p1), .val (.long q1), .second, .val (.int p2), .val (.int (((p1.toUInt32 >>> (((2 : Int32) * p2) &&& 31).toUInt32).toInt32) &&& (3 : Int32)))]) rfl ?_
    show Steps p.tables e below (s₁.setTop (mkF m 9 #[.val (.int p1), .val (.long q1), .second, .val (.int p2), .val (.int (((p1.toUInt32 >>> (((2 : Int32) * p2) &&& 31).toUInt32).toInt32) &&& (3 : Int32)))] [])) t
    refine XS.iload X0.here hx rfl (hb hby d1_9) rfl ?_
    exact kt
  by_cases hc11_1 : (((p1.toUInt32 >>> (((2 : Int32) * p2) &&& 31).toUInt32).toInt32) &&& (3 : Int32)) = (0 : Int32)
  · have k3 : ∀ t, Steps p.tables e below (s₁.setTop (mkF m 16 #[.val (.int p1), .val (.long q1), .second, .val (.int p2), .val (.int (((p1.toUInt32 >>> (((2 : Int32) * p2) &&& 31).toUInt32).toInt32) &&& (3 : Int32)))] [(.int (10 : Int32))])) t → Steps p.tables e below (s₁.setTop (entryFrame m #[(.int p1), (.long q1), (.int p2)] 5)) t := by
      intro t kt
      refine k2 t ?_
      show Steps p.tables e below (s₁.setTop (mkF m 11 #[.val (.int p1), .val (.long q1), .second, .val (.int p2), .val (.int (((p1.toUInt32 >>> (((2 : Int32) * p2) &&& 31).toUInt32).toInt32) &&& (3 : Int32)))] [(.int (((p1.toUInt32 >>> (((2 : Int32) * p2) &&& 31).toUInt32).toInt32) &&& (3 : Int32)))])) t
      refine XS.ifNo X0.here hx rfl (hb hby d1_11) rfl ((if0 _ _).trans (teq hc11_1).2) ?_
      show Steps p.tables e below (s₁.setTop (mkF m 14 #[.val (.int p1), .val (.long q1), .second, .val (.int p2), .val (.int (((p1.toUInt32 >>> (((2 : Int32) * p2) &&& 31).toUInt32).toInt32) &&& (3 : Int32)))] [])) t
      refine XS.bipush X0.here hx rfl (hb hby d1_14) ?_
      exact kt
    obtain ⟨fs, hr, hrun, hended, hW, hsame⟩ := X0.leave (v := some (.int (10 : Int32))) (fun h => by rw [Bd.returns] at h; cases h)
    refine ⟨_, _, k3 _ ?_, hrun, hended, _, _, rfl, ?_, ⟨_, rfl⟩, hW, hsame.mono (by decide) (by decide)⟩
    · show Steps p.tables e below (s₁.setTop (mkF m 16 #[.val (.int p1), .val (.long q1), .second, .val (.int p2), .val (.int (((p1.toUInt32 >>> (((2 : Int32) * p2) &&& 31).toUInt32).toInt32) &&& (3 : Int32)))] [(.int (10 : Int32))])) _
      exact retN X0 hx (t := .byte) Bd.returns (by simp) (hb hby d1_16) hr
    · show QP Z p1 q1 p2 h0 n0 _ s₁.heap _
      rw [e0]
      exact ⟨_, rfl, N0, rfl⟩
  · have k5 : ∀ t, Steps p.tables e below (s₁.setTop (mkF m 20 #[.val (.int p1), .val (.long q1), .second, .val (.int p2), .val (.int (((p1.toUInt32 >>> (((2 : Int32) * p2) &&& 31).toUInt32).toInt32) &&& (3 : Int32)))] [(.int (1 : Int32)), (.int (((p1.toUInt32 >>> (((2 : Int32) * p2) &&& 31).toUInt32).toInt32) &&& (3 : Int32)))])) t → Steps p.tables e below (s₁.setTop (entryFrame m #[(.int p1), (.long q1), (.int p2)] 5)) t := by
      intro t kt
      refine k2 t ?_
      show Steps p.tables e below (s₁.setTop (mkF m 11 #[.val (.int p1), .val (.long q1), .second, .val (.int p2), .val (.int (((p1.toUInt32 >>> (((2 : Int32) * p2) &&& 31).toUInt32).toInt32) &&& (3 : Int32)))] [(.int (((p1.toUInt32 >>> (((2 : Int32) * p2) &&& 31).toUInt32).toInt32) &&& (3 : Int32)))])) t
      refine XS.ifYes X0.here hx rfl (pc0 := 11) (pc' := 17) rfl (hb hby d1_11) rfl ((if0 _ _).trans (feq hc11_1).2) (by decide) (by decide) ?_
      show Steps p.tables e below (s₁.setTop (mkF m 17 #[.val (.int p1), .val (.long q1), .second, .val (.int p2), .val (.int (((p1.toUInt32 >>> (((2 : Int32) * p2) &&& 31).toUInt32).toInt32) &&& (3 : Int32)))] [])) t
      refine XS.iload X0.here hx rfl (hb hby d1_17) rfl ?_
      show Steps p.tables e below (s₁.setTop (mkF m 19 #[.val (.int p1), .val (.long q1), .second, .val (.int p2), .val (.int (((p1.toUInt32 >>> (((2 : Int32) * p2) &&& 31).toUInt32).toInt32) &&& (3 : Int32)))] [(.int (((p1.toUInt32 >>> (((2 : Int32) * p2) &&& 31).toUInt32).toInt32) &&& (3 : Int32)))])) t
      refine XS.iconst X0.here hx rfl (hb hby d1_19) ?_
      exact kt
    by_cases hc20_4 : (((p1.toUInt32 >>> (((2 : Int32) * p2) &&& 31).toUInt32).toInt32) &&& (3 : Int32)) = (1 : Int32)
    · have k6 : ∀ t, Steps p.tables e below (s₁.setTop (mkF m 25 #[.val (.int p1), .val (.long q1), .second, .val (.int p2), .val (.int (((p1.toUInt32 >>> (((2 : Int32) * p2) &&& 31).toUInt32).toInt32) &&& (3 : Int32)))] [(.int (13 : Int32))])) t → Steps p.tables e below (s₁.setTop (entryFrame m #[(.int p1), (.long q1), (.int p2)] 5)) t := by
        intro t kt
        refine k5 t ?_
        show Steps p.tables e below (s₁.setTop (mkF m 20 #[.val (.int p1), .val (.long q1), .second, .val (.int p2), .val (.int (((p1.toUInt32 >>> (((2 : Int32) * p2) &&& 31).toUInt32).toInt32) &&& (3 : Int32)))] [(.int (1 : Int32)), (.int (((p1.toUInt32 >>> (((2 : Int32) * p2) &&& 31).toUInt32).toInt32) &&& (3 : Int32)))])) t
        refine XS.icmpNo X0.here hx rfl (hb hby d1_20) rfl (teq hc20_4).2 ?_
        show Steps p.tables e below (s₁.setTop (mkF m 23 #[.val (.int p1), .val (.long q1), .second, .val (.int p2), .val (.int (((p1.toUInt32 >>> (((2 : Int32) * p2) &&& 31).toUInt32).toInt32) &&& (3 : Int32)))] [])) t
        refine XS.bipush X0.here hx rfl (hb hby d1_23) ?_
        exact kt
      obtain ⟨fs, hr, hrun, hended, hW, hsame⟩ := X0.leave (v := some (.int (13 : Int32))) (fun h => by rw [Bd.returns] at h; cases h)
      refine ⟨_, _, k6 _ ?_, hrun, hended, _, _, rfl, ?_, ⟨_, rfl⟩, hW, hsame.mono (by decide) (by decide)⟩
      · show Steps p.tables e below (s₁.setTop (mkF m 25 #[.val (.int p1), .val (.long q1), .second, .val (.int p2), .val (.int (((p1.toUInt32 >>> (((2 : Int32) * p2) &&& 31).toUInt32).toInt32) &&& (3 : Int32)))] [(.int (13 : Int32))])) _
        exact retN X0 hx (t := .byte) Bd.returns (by simp) (hb hby d1_25) hr
      · show QP Z p1 q1 p2 h0 n0 _ s₁.heap _
        rw [e0]
        exact ⟨_, rfl, N0, rfl⟩
    · have k8 : ∀ t, Steps p.tables e below (s₁.setTop (mkF m 29 #[.val (.int p1), .val (.long q1), .second, .val (.int p2), .val (.int (((p1.toUInt32 >>> (((2 : Int32) * p2) &&& 31).toUInt32).toInt32) &&& (3 : Int32)))] [(.int (2 : Int32)), (.int (((p1.toUInt32 >>> (((2 : Int32) * p2) &&& 31).toUInt32).toInt32) &&& (3 : Int32)))])) t → Steps p.tables e below (s₁.setTop (entryFrame m #[(.int p1), (.long q1), (.int p2)] 5)) t := by
        intro t kt
        refine k5 t ?_
        show Steps p.tables e below (s₁.setTop (mkF m 20 #[.val (.int p1), .val (.long q1), .second, .val (.int p2), .val (.int (((p1.toUInt32 >>> (((2 : Int32) * p2) &&& 31).toUInt32).toInt32) &&& (3 : Int32)))] [(.int (1 : Int32)), (.int (((p1.toUInt32 >>> (((2 : Int32) * p2) &&& 31).toUInt32).toInt32) &&& (3 : Int32)))])) t
        refine XS.icmpYes X0.here hx rfl (pc0 := 20) (pc' := 26) rfl (hb hby d1_20) rfl (feq hc20_4).2 (by decide) (by decide) ?_
        show Steps p.tables e below (s₁.setTop (mkF m 26 #[.val (.int p1), .val (.long q1), .second, .val (.int p2), .val (.int (((p1.toUInt32 >>> (((2 : Int32) * p2) &&& 31).toUInt32).toInt32) &&& (3 : Int32)))] [])) t
        refine XS.iload X0.here hx rfl (hb hby d1_26) rfl ?_
        show Steps p.tables e below (s₁.setTop (mkF m 28 #[.val (.int p1), .val (.long q1), .second, .val (.int p2), .val (.int (((p1.toUInt32 >>> (((2 : Int32) * p2) &&& 31).toUInt32).toInt32) &&& (3 : Int32)))] [(.int (((p1.toUInt32 >>> (((2 : Int32) * p2) &&& 31).toUInt32).toInt32) &&& (3 : Int32)))])) t
        refine XS.iconst X0.here hx rfl (hb hby d1_28) ?_
        exact kt
      by_cases hc29_7 : (((p1.toUInt32 >>> (((2 : Int32) * p2) &&& 31).toUInt32).toInt32) &&& (3 : Int32)) = (2 : Int32)
      · have k9 : ∀ t, Steps p.tables e below (s₁.setTop (mkF m 34 #[.val (.int p1), .val (.long q1), .second, .val (.int p2), .val (.int (((p1.toUInt32 >>> (((2 : Int32) * p2) &&& 31).toUInt32).toInt32) &&& (3 : Int32)))] [(.int (97 : Int32))])) t → Steps p.tables e below (s₁.setTop (entryFrame m #[(.int p1), (.long q1), (.int p2)] 5)) t := by
          intro t kt
          refine k8 t ?_
          show Steps p.tables e below (s₁.setTop (mkF m 29 #[.val (.int p1), .val (.long q1), .second, .val (.int p2), .val (.int (((p1.toUInt32 >>> (((2 : Int32) * p2) &&& 31).toUInt32).toInt32) &&& (3 : Int32)))] [(.int (2 : Int32)), (.int (((p1.toUInt32 >>> (((2 : Int32) * p2) &&& 31).toUInt32).toInt32) &&& (3 : Int32)))])) t
          refine XS.icmpNo X0.here hx rfl (hb hby d1_29) rfl (teq hc29_7).2 ?_
          show Steps p.tables e below (s₁.setTop (mkF m 32 #[.val (.int p1), .val (.long q1), .second, .val (.int p2), .val (.int (((p1.toUInt32 >>> (((2 : Int32) * p2) &&& 31).toUInt32).toInt32) &&& (3 : Int32)))] [])) t
          refine XS.bipush X0.here hx rfl (hb hby d1_32) ?_
          exact kt
        obtain ⟨fs, hr, hrun, hended, hW, hsame⟩ := X0.leave (v := some (.int (97 : Int32))) (fun h => by rw [Bd.returns] at h; cases h)
        refine ⟨_, _, k9 _ ?_, hrun, hended, _, _, rfl, ?_, ⟨_, rfl⟩, hW, hsame.mono (by decide) (by decide)⟩
        · show Steps p.tables e below (s₁.setTop (mkF m 34 #[.val (.int p1), .val (.long q1), .second, .val (.int p2), .val (.int (((p1.toUInt32 >>> (((2 : Int32) * p2) &&& 31).toUInt32).toInt32) &&& (3 : Int32)))] [(.int (97 : Int32))])) _
          exact retN X0 hx (t := .byte) Bd.returns (by simp) (hb hby d1_34) hr
        · show QP Z p1 q1 p2 h0 n0 _ s₁.heap _
          rw [e0]
          exact ⟨_, rfl, N0, rfl⟩
      · have k10 : ∀ t, Steps p.tables e below (s₁.setTop (mkF m 43 #[.val (.int p1), .val (.long q1), .second, .val (.int p2), .val (.int (((p1.toUInt32 >>> (((2 : Int32) * p2) &&& 31).toUInt32).toInt32) &&& (3 : Int32)))] [(.int ((((q1.toUInt64 >>> (((8 : Int32) * p2) &&& 0x3f).toInt64.toUInt64).toInt64).toInt32).toInt8.toInt32))])) t → Steps p.tables e below (s₁.setTop (entryFrame m #[(.int p1), (.long q1), (.int p2)] 5)) t := by
          intro t kt
          refine k8 t ?_
          show Steps p.tables e below (s₁.setTop (mkF m 29 #[.val (.int p1), .val (.long q1), .second, .val (.int p2), .val (.int (((p1.toUInt32 >>> (((2 : Int32) * p2) &&& 31).toUInt32).toInt32) &&& (3 : Int32)))] [(.int (2 : Int32)), (.int (((p1.toUInt32 >>> (((2 : Int32) * p2) &&& 31).toUInt32).toInt32) &&& (3 : Int32)))])) t
          refine XS.icmpYes X0.here hx rfl (pc0 := 29) (pc' := 35) rfl (hb hby d1_29) rfl (feq hc29_7).2 (by decide) (by decide) ?_
          show Steps p.tables e below (s₁.setTop (mkF m 35 #[.val (.int p1), .val (.long q1), .second, .val (.int p2), .val (.int (((p1.toUInt32 >>> (((2 : Int32) * p2) &&& 31).toUInt32).toInt32) &&& (3 : Int32)))] [])) t
          refine XS.lloadN X0.here hx rfl (hb hby d1_35) rfl ?_
          show Steps p.tables e below (s₁.setTop (mkF m 36 #[.val (.int p1), .val (.long q1), .second, .val (.int p2), .val (.int (((p1.toUInt32 >>> (((2 : Int32) * p2) &&& 31).toUInt32).toInt32) &&& (3 : Int32)))] [(.long q1)])) t
          refine XS.bipush X0.here hx rfl (hb hby d1_36) ?_
          show Steps p.tables e below (s₁.setTop (mkF m 38 #[.val (.int p1), .val (.long q1), .second, .val (.int p2), .val (.int (((p1.toUInt32 >>> (((2 : Int32) * p2) &&& 31).toUInt32).toInt32) &&& (3 : Int32)))] [(.int (8 : Int32)), (.long q1)])) t
          refine XS.iloadN X0.here hx rfl (hb hby d1_38) rfl ?_
          show Steps p.tables e below (s₁.setTop (mkF m 39 #[.val (.int p1), .val (.long q1), .second, .val (.int p2), .val (.int (((p1.toUInt32 >>> (((2 : Int32) * p2) &&& 31).toUInt32).toInt32) &&& (3 : Int32)))] [(.int p2), (.int (8 : Int32)), (.long q1)])) t
          refine XS.imul X0.here hx rfl (hb hby d1_39) rfl ?_
          show Steps p.tables e below (s₁.setTop (mkF m 40 #[.val (.int p1), .val (.long q1), .second, .val (.int p2), .val (.int (((p1.toUInt32 >>> (((2 : Int32) * p2) &&& 31).toUInt32).toInt32) &&& (3 : Int32)))] [(.int ((8 : Int32) * p2)), (.long q1)])) t
          refine XS.lushr X0.here hx rfl (hb hby d1_40) rfl ?_
          show Steps p.tables e below (s₁.setTop (mkF m 41 #[.val (.int p1), .val (.long q1), .second, .val (.int p2), .val (.int (((p1.toUInt32 >>> (((2 : Int32) * p2) &&& 31).toUInt32).toInt32) &&& (3 : Int32)))] [(.long ((q1.toUInt64 >>> (((8 : Int32) * p2) &&& 0x3f).toInt64.toUInt64).toInt64))])) t
          refine XS.l2i X0.here hx rfl (hb hby d1_41) rfl ?_
          show Steps p.tables e below (s₁.setTop (mkF m 42 #[.val (.int p1), .val (.long q1), .second, .val (.int p2), .val (.int (((p1.toUInt32 >>> (((2 : Int32) * p2) &&& 31).toUInt32).toInt32) &&& (3 : Int32)))] [(.int (((q1.toUInt64 >>> (((8 : Int32) * p2) &&& 0x3f).toInt64.toUInt64).toInt64).toInt32))])) t
          refine XS.i2b X0.here hx rfl (hb hby d1_42) rfl ?_
          exact kt
        obtain ⟨fs, hr, hrun, hended, hW, hsame⟩ := X0.leave (v := some (.int (((((q1.toUInt64 >>> (((8 : Int32) * p2) &&& 0x3f).toInt64.toUInt64).toInt64).toInt32).toInt8.toInt32).toInt8.toInt32))) (fun h => by rw [Bd.returns] at h; cases h)
        refine ⟨_, _, k10 _ ?_, hrun, hended, _, _, rfl, ?_, ⟨_, rfl⟩, hW, hsame.mono (by decide) (by decide)⟩
        · show Steps p.tables e below (s₁.setTop (mkF m 43 #[.val (.int p1), .val (.long q1), .second, .val (.int p2), .val (.int (((p1.toUInt32 >>> (((2 : Int32) * p2) &&& 31).toUInt32).toInt32) &&& (3 : Int32)))] [(.int ((((q1.toUInt64 >>> (((8 : Int32) * p2) &&& 0x3f).toInt64.toUInt64).toInt64).toInt32).toInt8.toInt32))])) _
          exact retN X0 hx (t := .byte) Bd.returns (by simp) (hb hby d1_43) hr
        · show QP Z p1 q1 p2 h0 n0 _ s₁.heap _
          rw [e0]
          exact ⟨_, rfl, N0, rfl⟩
theorem d3_0 : decode method_4_code 0 = .ok (.iload_n 0, 1) := by decide +kernel
theorem d3_1 : decode method_4_code 1 = .ok (.ifCond .ge 22, 3) := by decide +kernel
theorem d3_4 : decode method_4_code 4 = .ok (.iload_n 2, 1) := by decide +kernel
theorem d3_5 : decode method_4_code 5 = .ok (.iload_n 3, 1) := by decide +kernel
theorem d3_6 : decode method_4_code 6 = .ok (.if_icmp .lt 17, 3) := by decide +kernel
theorem d3_9 : decode method_4_code 9 = .ok (.iload_n 2, 1) := by decide +kernel
theorem d3_10 : decode method_4_code 10 = .ok (.iload 4, 2) := by decide +kernel
theorem d3_12 : decode method_4_code 12 = .ok (.if_icmp .ge 11, 3) := by decide +kernel
theorem d3_15 : decode method_4_code 15 = .ok (.aload_n 1, 1) := by decide +kernel
theorem d3_16 : decode method_4_code 16 = .ok (.iload_n 2, 1) := by decide +kernel
theorem d3_17 : decode method_4_code 17 = .ok (.baload, 1) := by decide +kernel
theorem d3_18 : decode method_4_code 18 = .ok (.bipush 10, 2) := by decide +kernel
theorem d3_20 : decode method_4_code 20 = .ok (.if_icmp .eq 5, 3) := by decide +kernel
theorem d3_23 : decode method_4_code 23 = .ok (.iload_n 0, 1) := by decide +kernel
theorem d3_24 : decode method_4_code 24 = .ok (.ireturn, 1) := by decide +kernel
theorem d3_25 : decode method_4_code 25 = .ok (.iload_n 2, 1) := by decide +kernel
theorem d3_26 : decode method_4_code 26 = .ok (.iconst 1, 1) := by decide +kernel
theorem d3_27 : decode method_4_code 27 = .ok (.iadd, 1) := by decide +kernel
theorem d3_28 : decode method_4_code 28 = .ok (.iload 4, 2) := by decide +kernel
theorem d3_30 : decode method_4_code 30 = .ok (.if_icmp .ge 17, 3) := by decide +kernel
theorem d3_33 : decode method_4_code 33 = .ok (.aload_n 1, 1) := by decide +kernel
theorem d3_34 : decode method_4_code 34 = .ok (.iload_n 2, 1) := by decide +kernel
theorem d3_35 : decode method_4_code 35 = .ok (.iconst 1, 1) := by decide +kernel
theorem d3_36 : decode method_4_code 36 = .ok (.iadd, 1) := by decide +kernel
theorem d3_37 : decode method_4_code 37 = .ok (.baload, 1) := by decide +kernel
theorem d3_38 : decode method_4_code 38 = .ok (.bipush 10, 2) := by decide +kernel
theorem d3_40 : decode method_4_code 40 = .ok (.if_icmp .ne 7, 3) := by decide +kernel
theorem d3_43 : decode method_4_code 43 = .ok (.iload_n 2, 1) := by decide +kernel
theorem d3_44 : decode method_4_code 44 = .ok (.iconst 2, 1) := by decide +kernel
theorem d3_45 : decode method_4_code 45 = .ok (.iadd, 1) := by decide +kernel
theorem d3_46 : decode method_4_code 46 = .ok (.ireturn, 1) := by decide +kernel
theorem d3_47 : decode method_4_code 47 = .ok (.iload_n 2, 1) := by decide +kernel
theorem d3_48 : decode method_4_code 48 = .ok (.iconst 2, 1) := by decide +kernel
theorem d3_49 : decode method_4_code 49 = .ok (.iadd, 1) := by decide +kernel
theorem d3_50 : decode method_4_code 50 = .ok (.iload 4, 2) := by decide +kernel
theorem d3_52 : decode method_4_code 52 = .ok (.if_icmp .ge 27, 3) := by decide +kernel
theorem d3_55 : decode method_4_code 55 = .ok (.aload_n 1, 1) := by decide +kernel
theorem d3_56 : decode method_4_code 56 = .ok (.iload_n 2, 1) := by decide +kernel
theorem d3_57 : decode method_4_code 57 = .ok (.iconst 1, 1) := by decide +kernel
theorem d3_58 : decode method_4_code 58 = .ok (.iadd, 1) := by decide +kernel
theorem d3_59 : decode method_4_code 59 = .ok (.baload, 1) := by decide +kernel
theorem d3_60 : decode method_4_code 60 = .ok (.bipush 13, 2) := by decide +kernel
theorem d3_62 : decode method_4_code 62 = .ok (.if_icmp .ne 17, 3) := by decide +kernel
theorem d3_65 : decode method_4_code 65 = .ok (.aload_n 1, 1) := by decide +kernel
theorem d3_66 : decode method_4_code 66 = .ok (.iload_n 2, 1) := by decide +kernel
theorem d3_67 : decode method_4_code 67 = .ok (.iconst 2, 1) := by decide +kernel
theorem d3_68 : decode method_4_code 68 = .ok (.iadd, 1) := by decide +kernel
theorem d3_69 : decode method_4_code 69 = .ok (.baload, 1) := by decide +kernel
theorem d3_70 : decode method_4_code 70 = .ok (.bipush 10, 2) := by decide +kernel
theorem d3_72 : decode method_4_code 72 = .ok (.if_icmp .ne 7, 3) := by decide +kernel
theorem d3_75 : decode method_4_code 75 = .ok (.iload_n 2, 1) := by decide +kernel
theorem d3_76 : decode method_4_code 76 = .ok (.iconst 3, 1) := by decide +kernel
theorem d3_77 : decode method_4_code 77 = .ok (.iadd, 1) := by decide +kernel
theorem d3_78 : decode method_4_code 78 = .ok (.ireturn, 1) := by decide +kernel
theorem d3_79 : decode method_4_code 79 = .ok (.iconst (-1), 1) := by decide +kernel
theorem d3_80 : decode method_4_code 80 = .ok (.ireturn, 1) := by decide +kernel
theorem rmF_ef (m : MethodId) (x0 : Int32) (x1 : Addr) (x2 : Int32) (x3 : Int32) (x4 : Int32) : entryFrame m #[(.int x0), (.ref x1), (.int x2), (.int x3), (.int x4)] 5 = mkF m 0 #[.val (.int x0), .val (.ref x1), .val (.int x2), .val (.int x3), .val (.int x4)] [] := by first | (simp [entryFrame, mkF, argsToLocals, Value.category]; done) | rfl
def QF (Z : State) (p1 : Int32) (a : Addr) (kc : ClassId) (vs : List Value) (g : Int32 → Int32) (p2 : Int32) (p3 : Int32) (p4 : Int32) (h0 : Heap) (n0 : Nat) (v : Option Value) (h : Heap) (L : List Loc) : Prop := v = some (.int (own_first g p1 p2 p3 p4)) ∧ Fr n0 L ∧ h = h0
set_option maxRecDepth 65536 in
set_option maxHeartbeats 40000000 in
theorem rmF (l : Launch) (Z : State) (a0 : Array Value) (hw : ∀ d ∈ tables_1, d.before a0 Z = true) (ws : List Jvm.Cond) (p1 : Int32) (a : Addr) (kc : ClassId) (vs : List Value) (g : Int32 → Int32) (p2 : Int32) (p3 : Int32) (p4 : Int32) (h0 : Heap) (n0 : Nat) (Z0 : n0 ≤ h0.size) (Av : Arv Z h0 a kc .byte (6 : Int32) vs (.int (0 : Int32))) (hg : ∀ j : Int32, ¬ j < 0 ∧ j < (6 : Int32) → vs.getD j.toNatClampNeg (.int (0 : Int32)) = .int (g j)) (hi0 : 0 ≤ p2.toInt) (ht6 : p4.toInt ≤ 6) :
    MetFree l (⟨"com/example/ruleward/ruleward/http/HttpHeadEndPinLaw", "first", "(I[BIII)I"⟩ : MethodName) (head1 (Jvm.Cond.code (⟨"com/example/ruleward/ruleward/http/HttpHeadEndPinLaw", "first", "(I[BIII)I"⟩ : MethodName) method_4_code 5 (some .int) :: ws) ({ frames := 0, cells := 0, slots := 0, locals := 0 } : Room)) (fun aA' U => aA' = #[(.int p1), (.ref a), (.int p2), (.int p3), (.int p4)] ∧ Z.Warmed39 U.vm ∧ U.heap = h0) (fun _ _ _ _ _ => True) (fun _ U oO' U' => ∃ vV' L, oO' = .returned vV' ∧ QF Z p1 a kc vs g p2 p3 p4 h0 n0 vV' U'.heap L ∧ FrameEnd U oO' U' L ({ frames := 0, cells := 0, slots := 0, locals := 0 } : Room).cells ({ frames := 0, cells := 0, slots := 0, locals := 0 } : Room).slots) := by
  refine MetFree.of_bodySF (plainFor_of_name own_pn0) hisR ?_
  intro p e s m args below meth c s₁ Bd hml0 hP hK
  obtain ⟨rfl, hZ, hh⟩ := hP
  have hx := Bd.exec
  have hby := Bd.bytes
  have hml : c.maxLocals = 5 := hml0
  have hown : s.vm.findClass "com/example/ruleward/ruleward/http/HttpHeadEndPinLaw" = some m.cls := findClass_of_methodNamed Bd.named
  have hnm := (name_of_methodNamed Bd.named Bd.method).1
  have X0 : Stand p l e ({ frames := 0, cells := 0, slots := 0, locals := 0 } : Room) s m #[(.int p1), (.ref a), (.int p2), (.int p3), (.int p4)] below meth c s₁ [] 0 0 := Stand.of_body Bd
  have e0 : s₁.heap = h0 := by rw [← hh, Bd.state]; rfl
  have N0 := Fr.nil n0
  have K0 : Keep h0 h0 [] := Keep.refl _ _
  have k0 : ∀ t, Steps p.tables e below (s₁.setTop (mkF m 0 #[.val (.int p1), .val (.ref a), .val (.int p2), .val (.int p3), .val (.int p4)] [])) t → Steps p.tables e below (s₁.setTop (entryFrame m #[(.int p1), (.ref a), (.int p2), (.int p3), (.int p4)] 5)) t := fun t k => castTop (rmF_ef m (p1) (a) (p2) (p3) (p4)) k
  have k2 : ∀ t, Steps p.tables e below (s₁.setTop (mkF m 1 #[.val (.int p1), .val (.ref a), .val (.int p2), .val (.int p3), .val (.int p4)] [(.int p1)])) t → Steps p.tables e below (s₁.setTop (entryFrame m #[(.int p1), (.ref a), (.int p2), (.int p3), (.int p4)] 5)) t := by
    intro t kt
    refine k0 t ?_
    show Steps p.tables e below (s₁.setTop (mkF m 0 #[.val (.int p1), .val (.ref a), .val (.int p2), .val (.int p3), .val (.int p4)] [])) t
    refine XS.iloadN X0.here hx rfl (hb hby d3_0) rfl ?_
    exact kt
  by_cases hc1_1 : p1 < (0 : Int32)
  · have k4 : ∀ t, Steps p.tables e below (s₁.setTop (mkF m 6 #[.val (.int p1), .val (.ref a), .val (.int p2), .val (.int p3), .val (.int p4)] [(.int p3), (.int p2)])) t → Steps p.tables e below (s₁.setTop (entryFrame m #[(.int p1), (.ref a), (.int p2), (.int p3), (.int p4)] 5)) t := by
      intro t kt
      refine k2 t ?_
      show Steps p.tables e below (s₁.setTop (mkF m 1 #[.val (.int p1), .val (.ref a), .val (.int p2), .val (.int p3), .val (.int p4)] [(.int p1)])) t
      refine XS.ifNo X0.here hx rfl (hb hby d3_1) rfl ((if0 _ _).trans (tlt hc1_1).2.1) ?_
      show Steps p.tables e below (s₁.setTop (mkF m 4 #[.val (.int p1), .val (.ref a), .val (.int p2), .val (.int p3), .val (.int p4)] [])) t
      refine XS.iloadN X0.here hx rfl (hb hby d3_4) rfl ?_
      show Steps p.tables e below (s₁.setTop (mkF m 5 #[.val (.int p1), .val (.ref a), .val (.int p2), .val (.int p3), .val (.int p4)] [(.int p2)])) t
      refine XS.iloadN X0.here hx rfl (hb hby d3_5) rfl ?_
      exact kt
    by_cases hc6_3 : p2 < p3
    · have k5 : ∀ t, Steps p.tables e below (s₁.setTop (mkF m 24 #[.val (.int p1), .val (.ref a), .val (.int p2), .val (.int p3), .val (.int p4)] [(.int p1)])) t → Steps p.tables e below (s₁.setTop (entryFrame m #[(.int p1), (.ref a), (.int p2), (.int p3), (.int p4)] 5)) t := by
        intro t kt
        refine k4 t ?_
        show Steps p.tables e below (s₁.setTop (mkF m 6 #[.val (.int p1), .val (.ref a), .val (.int p2), .val (.int p3), .val (.int p4)] [(.int p3), (.int p2)])) t
        refine XS.icmpYes X0.here hx rfl (pc0 := 6) (pc' := 23) rfl (hb hby d3_6) rfl (tlt hc6_3).1 (by decide) (by decide) ?_
        show Steps p.tables e below (s₁.setTop (mkF m 23 #[.val (.int p1), .val (.ref a), .val (.int p2), .val (.int p3), .val (.int p4)] [])) t
        refine XS.iloadN X0.here hx rfl (hb hby d3_23) rfl ?_
        exact kt
      obtain ⟨fs, hr, hrun, hended, hW, hsame⟩ := X0.leave (v := some (.int p1)) (fun h => by rw [Bd.returns] at h; cases h)
      refine ⟨_, _, k5 _ ?_, hrun, hended, _, _, rfl, ?_, ⟨_, rfl⟩, hW, hsame.mono (by decide) (by decide)⟩
      · show Steps p.tables e below (s₁.setTop (mkF m 24 #[.val (.int p1), .val (.ref a), .val (.int p2), .val (.int p3), .val (.int p4)] [(.int p1)])) _
        exact retI X0 hx Bd.returns (hb hby d3_24) hr
      · show QF Z p1 a kc vs g p2 p3 p4 h0 n0 _ s₁.heap _
        rw [e0]
        refine ⟨congrArg (fun z => some (Value.int z)) ?_, N0, rfl⟩
        simp [own_first, hc1_1, hc6_3]
    · have k7 : ∀ t, Steps p.tables e below (s₁.setTop (mkF m 12 #[.val (.int p1), .val (.ref a), .val (.int p2), .val (.int p3), .val (.int p4)] [(.int p4), (.int p2)])) t → Steps p.tables e below (s₁.setTop (entryFrame m #[(.int p1), (.ref a), (.int p2), (.int p3), (.int p4)] 5)) t := by
        intro t kt
        refine k4 t ?_
        show Steps p.tables e below (s₁.setTop (mkF m 6 #[.val (.int p1), .val (.ref a), .val (.int p2), .val (.int p3), .val (.int p4)] [(.int p3), (.int p2)])) t
        refine XS.icmpNo X0.here hx rfl (hb hby d3_6) rfl (flt hc6_3).1 ?_
        show Steps p.tables e below (s₁.setTop (mkF m 9 #[.val (.int p1), .val (.ref a), .val (.int p2), .val (.int p3), .val (.int p4)] [])) t
        refine XS.iloadN X0.here hx rfl (hb hby d3_9) rfl ?_
        show Steps p.tables e below (s₁.setTop (mkF m 10 #[.val (.int p1), .val (.ref a), .val (.int p2), .val (.int p3), .val (.int p4)] [(.int p2)])) t
        refine XS.iload X0.here hx rfl (hb hby d3_10) rfl ?_
        exact kt
      by_cases hc12_6 : p2 < p4
      · have k8 : ∀ t, Steps p.tables e below (s₁.setTop (mkF m 17 #[.val (.int p1), .val (.ref a), .val (.int p2), .val (.int p3), .val (.int p4)] [(.int p2), (.ref a)])) t → Steps p.tables e below (s₁.setTop (entryFrame m #[(.int p1), (.ref a), (.int p2), (.int p3), (.int p4)] 5)) t := by
          intro t kt
          refine k7 t ?_
          show Steps p.tables e below (s₁.setTop (mkF m 12 #[.val (.int p1), .val (.ref a), .val (.int p2), .val (.int p3), .val (.int p4)] [(.int p4), (.int p2)])) t
          refine XS.icmpNo X0.here hx rfl (hb hby d3_12) rfl (tlt hc12_6).2.1 ?_
          show Steps p.tables e below (s₁.setTop (mkF m 15 #[.val (.int p1), .val (.ref a), .val (.int p2), .val (.int p3), .val (.int p4)] [])) t
          refine XS.aloadN X0.here hx rfl (hb hby d3_15) rfl rfl ?_
          show Steps p.tables e below (s₁.setTop (mkF m 16 #[.val (.int p1), .val (.ref a), .val (.int p2), .val (.int p3), .val (.int p4)] [(.ref a)])) t
          refine XS.iloadN X0.here hx rfl (hb hby d3_16) rfl ?_
          exact kt
        obtain ⟨cl9, Ar9, q9, S9, M9, H9, G9⟩ := id Av
        have hin9 : ¬ (p2 < 0 ∨ cl9.slots.size ≤ (p2).toNatClampNeg) := inb_of S9 (own_in0 hi0 ht6 hc12_6)
        have hat9 : cl9.slots[(p2).toNatClampNeg]? = some (.int (g p2)) := Has.at H9 hin9 (hg _ (own_in0 hi0 ht6 hc12_6))
        have k10 : ∀ t, Steps p.tables e below (s₁.setTop (mkF m 18 #[.val (.int p1), .val (.ref a), .val (.int p2), .val (.int p3), .val (.int p4)] [(.int (g p2))])) t → Steps p.tables e below (s₁.setTop (entryFrame m #[(.int p1), (.ref a), (.int p2), (.int p3), (.int p4)] 5)) t := fun t kt => k8 t (X0.baloadBytes hx (j := p2) (v := (.int (g p2))) (by rw [e0]; exact Ar9.1) (State.isArrayOf_alike hZ.alike Ar9.2.1) Ar9.2.2 hin9 hat9 (g := (mkF m 17 #[.val (.int p1), .val (.ref a), .val (.int p2), .val (.int p3), .val (.int p4)] [(.int p2), (.ref a)])) rfl rfl (hb hby d3_17) t kt)
        have k12 : ∀ t, Steps p.tables e below (s₁.setTop (mkF m 20 #[.val (.int p1), .val (.ref a), .val (.int p2), .val (.int p3), .val (.int p4)] [(.int (10 : Int32)), (.int (g p2))])) t → Steps p.tables e below (s₁.setTop (entryFrame m #[(.int p1), (.ref a), (.int p2), (.int p3), (.int p4)] 5)) t := by
          intro t kt
          refine k10 t ?_
          show Steps p.tables e below (s₁.setTop (mkF m 18 #[.val (.int p1), .val (.ref a), .val (.int p2), .val (.int p3), .val (.int p4)] [(.int (g p2))])) t
          refine XS.bipush X0.here hx rfl (hb hby d3_18) ?_
          exact kt
        by_cases hc20_11 : (g p2) = (10 : Int32)
        · have k14 : ∀ t, Steps p.tables e below (s₁.setTop (mkF m 30 #[.val (.int p1), .val (.ref a), .val (.int p2), .val (.int p3), .val (.int p4)] [(.int p4), (.int (p2 + (1 : Int32)))])) t → Steps p.tables e below (s₁.setTop (entryFrame m #[(.int p1), (.ref a), (.int p2), (.int p3), (.int p4)] 5)) t := by
            intro t kt
            refine k12 t ?_
            show Steps p.tables e below (s₁.setTop (mkF m 20 #[.val (.int p1), .val (.ref a), .val (.int p2), .val (.int p3), .val (.int p4)] [(.int (10 : Int32)), (.int (g p2))])) t
            refine XS.icmpYes X0.here hx rfl (pc0 := 20) (pc' := 25) rfl (hb hby d3_20) rfl (teq hc20_11).1 (by decide) (by decide) ?_
            show Steps p.tables e below (s₁.setTop (mkF m 25 #[.val (.int p1), .val (.ref a), .val (.int p2), .val (.int p3), .val (.int p4)] [])) t
            refine XS.iloadN X0.here hx rfl (hb hby d3_25) rfl ?_
            show Steps p.tables e below (s₁.setTop (mkF m 26 #[.val (.int p1), .val (.ref a), .val (.int p2), .val (.int p3), .val (.int p4)] [(.int p2)])) t
            refine XS.iconst X0.here hx rfl (hb hby d3_26) ?_
            show Steps p.tables e below (s₁.setTop (mkF m 27 #[.val (.int p1), .val (.ref a), .val (.int p2), .val (.int p3), .val (.int p4)] [(.int (1 : Int32)), (.int p2)])) t
            refine XS.iadd X0.here hx rfl (hb hby d3_27) rfl ?_
            show Steps p.tables e below (s₁.setTop (mkF m 28 #[.val (.int p1), .val (.ref a), .val (.int p2), .val (.int p3), .val (.int p4)] [(.int (p2 + (1 : Int32)))])) t
            refine XS.iload X0.here hx rfl (hb hby d3_28) rfl ?_
            exact kt
          by_cases hc30_13 : (p2 + (1 : Int32)) < p4
          · have k15 : ∀ t, Steps p.tables e below (s₁.setTop (mkF m 37 #[.val (.int p1), .val (.ref a), .val (.int p2), .val (.int p3), .val (.int p4)] [(.int (p2 + (1 : Int32))), (.ref a)])) t → Steps p.tables e below (s₁.setTop (entryFrame m #[(.int p1), (.ref a), (.int p2), (.int p3), (.int p4)] 5)) t := by
              intro t kt
              refine k14 t ?_
              show Steps p.tables e below (s₁.setTop (mkF m 30 #[.val (.int p1), .val (.ref a), .val (.int p2), .val (.int p3), .val (.int p4)] [(.int p4), (.int (p2 + (1 : Int32)))])) t
              refine XS.icmpNo X0.here hx rfl (hb hby d3_30) rfl (tlt hc30_13).2.1 ?_
              show Steps p.tables e below (s₁.setTop (mkF m 33 #[.val (.int p1), .val (.ref a), .val (.int p2), .val (.int p3), .val (.int p4)] [])) t
              refine XS.aloadN X0.here hx rfl (hb hby d3_33) rfl rfl ?_
              show Steps p.tables e below (s₁.setTop (mkF m 34 #[.val (.int p1), .val (.ref a), .val (.int p2), .val (.int p3), .val (.int p4)] [(.ref a)])) t
              refine XS.iloadN X0.here hx rfl (hb hby d3_34) rfl ?_
              show Steps p.tables e below (s₁.setTop (mkF m 35 #[.val (.int p1), .val (.ref a), .val (.int p2), .val (.int p3), .val (.int p4)] [(.int p2), (.ref a)])) t
              refine XS.iconst X0.here hx rfl (hb hby d3_35) ?_
              show Steps p.tables e below (s₁.setTop (mkF m 36 #[.val (.int p1), .val (.ref a), .val (.int p2), .val (.int p3), .val (.int p4)] [(.int (1 : Int32)), (.int p2), (.ref a)])) t
              refine XS.iadd X0.here hx rfl (hb hby d3_36) rfl ?_
              exact kt
            obtain ⟨cl16, Ar16, q16, S16, M16, H16, G16⟩ := id Av
            have hin16 : ¬ ((p2 + (1 : Int32)) < 0 ∨ cl16.slots.size ≤ ((p2 + (1 : Int32))).toNatClampNeg) := inb_of S16 (own_in1 hi0 ht6 hc12_6 hc30_13)
            have hat16 : cl16.slots[((p2 + (1 : Int32))).toNatClampNeg]? = some (.int (g (p2 + (1 : Int32)))) := Has.at H16 hin16 (hg _ (own_in1 hi0 ht6 hc12_6 hc30_13))
            have k17 : ∀ t, Steps p.tables e below (s₁.setTop (mkF m 38 #[.val (.int p1), .val (.ref a), .val (.int p2), .val (.int p3), .val (.int p4)] [(.int (g (p2 + (1 : Int32))))])) t → Steps p.tables e below (s₁.setTop (entryFrame m #[(.int p1), (.ref a), (.int p2), (.int p3), (.int p4)] 5)) t := fun t kt => k15 t (X0.baloadBytes hx (j := (p2 + (1 : Int32))) (v := (.int (g (p2 + (1 : Int32))))) (by rw [e0]; exact Ar16.1) (State.isArrayOf_alike hZ.alike Ar16.2.1) Ar16.2.2 hin16 hat16 (g := (mkF m 37 #[.val (.int p1), .val (.ref a), .val (.int p2), .val (.int p3), .val (.int p4)] [(.int (p2 + (1 : Int32))), (.ref a)])) rfl rfl (hb hby d3_37) t kt)
            have k19 : ∀ t, Steps p.tables e below (s₁.setTop (mkF m 40 #[.val (.int p1), .val (.ref a), .val (.int p2), .val (.int p3), .val (.int p4)] [(.int (10 : Int32)), (.int (g (p2 + (1 : Int32))))])) t → Steps p.tables e below (s₁.setTop (entryFrame m #[(.int p1), (.ref a), (.int p2), (.int p3), (.int p4)] 5)) t := by
              intro t kt
              refine k17 t ?_
              show Steps p.tables e below (s₁.setTop (mkF m 38 #[.val (.int p1), .val (.ref a), .val (.int p2), .val (.int p3), .val (.int p4)] [(.int (g (p2 + (1 : Int32))))])) t
              refine XS.bipush X0.here hx rfl (hb hby d3_38) ?_
              exact kt
            by_cases hc40_18 : (g (p2 + (1 : Int32))) = (10 : Int32)
            · have k20 : ∀ t, Steps p.tables e below (s₁.setTop (mkF m 46 #[.val (.int p1), .val (.ref a), .val (.int p2), .val (.int p3), .val (.int p4)] [(.int (p2 + (2 : Int32)))])) t → Steps p.tables e below (s₁.setTop (entryFrame m #[(.int p1), (.ref a), (.int p2), (.int p3), (.int p4)] 5)) t := by
                intro t kt
                refine k19 t ?_
                show Steps p.tables e below (s₁.setTop (mkF m 40 #[.val (.int p1), .val (.ref a), .val (.int p2), .val (.int p3), .val (.int p4)] [(.int (10 : Int32)), (.int (g (p2 + (1 : Int32))))])) t
                refine XS.icmpNo X0.here hx rfl (hb hby d3_40) rfl (teq hc40_18).2 ?_
                show Steps p.tables e below (s₁.setTop (mkF m 43 #[.val (.int p1), .val (.ref a), .val (.int p2), .val (.int p3), .val (.int p4)] [])) t
                refine XS.iloadN X0.here hx rfl (hb hby d3_43) rfl ?_
                show Steps p.tables e below (s₁.setTop (mkF m 44 #[.val (.int p1), .val (.ref a), .val (.int p2), .val (.int p3), .val (.int p4)] [(.int p2)])) t
                refine XS.iconst X0.here hx rfl (hb hby d3_44) ?_
                show Steps p.tables e below (s₁.setTop (mkF m 45 #[.val (.int p1), .val (.ref a), .val (.int p2), .val (.int p3), .val (.int p4)] [(.int (2 : Int32)), (.int p2)])) t
                refine XS.iadd X0.here hx rfl (hb hby d3_45) rfl ?_
                exact kt
              obtain ⟨fs, hr, hrun, hended, hW, hsame⟩ := X0.leave (v := some (.int (p2 + (2 : Int32)))) (fun h => by rw [Bd.returns] at h; cases h)
              refine ⟨_, _, k20 _ ?_, hrun, hended, _, _, rfl, ?_, ⟨_, rfl⟩, hW, hsame.mono (by decide) (by decide)⟩
              · show Steps p.tables e below (s₁.setTop (mkF m 46 #[.val (.int p1), .val (.ref a), .val (.int p2), .val (.int p3), .val (.int p4)] [(.int (p2 + (2 : Int32)))])) _
                exact retI X0 hx Bd.returns (hb hby d3_46) hr
              · show QF Z p1 a kc vs g p2 p3 p4 h0 n0 _ s₁.heap _
                rw [e0]
                refine ⟨congrArg (fun z => some (Value.int z)) ?_, N0, rfl⟩
                simp [own_first, hc1_1, hc6_3, hc12_6, hc20_11, hc30_13, hc40_18]
            · have k22 : ∀ t, Steps p.tables e below (s₁.setTop (mkF m 52 #[.val (.int p1), .val (.ref a), .val (.int p2), .val (.int p3), .val (.int p4)] [(.int p4), (.int (p2 + (2 : Int32)))])) t → Steps p.tables e below (s₁.setTop (entryFrame m #[(.int p1), (.ref a), (.int p2), (.int p3), (.int p4)] 5)) t := by
                intro t kt
                refine k19 t ?_
                show Steps p.tables e below (s₁.setTop (mkF m 40 #[.val (.int p1), .val (.ref a), .val (.int p2), .val (.int p3), .val (.int p4)] [(.int (10 : Int32)), (.int (g (p2 + (1 : Int32))))])) t
                refine XS.icmpYes X0.here hx rfl (pc0 := 40) (pc' := 47) rfl (hb hby d3_40) rfl (feq hc40_18).2 (by decide) (by decide) ?_
                show Steps p.tables e below (s₁.setTop (mkF m 47 #[.val (.int p1), .val (.ref a), .val (.int p2), .val (.int p3), .val (.int p4)] [])) t
                refine XS.iloadN X0.here hx rfl (hb hby d3_47) rfl ?_
                show Steps p.tables e below (s₁.setTop (mkF m 48 #[.val (.int p1), .val (.ref a), .val (.int p2), .val (.int p3), .val (.int p4)] [(.int p2)])) t
                refine XS.iconst X0.here hx rfl (hb hby d3_48) ?_
                show Steps p.tables e below (s₁.setTop (mkF m 49 #[.val (.int p1), .val (.ref a), .val (.int p2), .val (.int p3), .val (.int p4)] [(.int (2 : Int32)), (.int p2)])) t
                refine XS.iadd X0.here hx rfl (hb hby d3_49) rfl ?_
                show Steps p.tables e below (s₁.setTop (mkF m 50 #[.val (.int p1), .val (.ref a), .val (.int p2), .val (.int p3), .val (.int p4)] [(.int (p2 + (2 : Int32)))])) t
                refine XS.iload X0.here hx rfl (hb hby d3_50) rfl ?_
                exact kt
              by_cases hc52_21 : (p2 + (2 : Int32)) < p4
              · have k23 : ∀ t, Steps p.tables e below (s₁.setTop (mkF m 59 #[.val (.int p1), .val (.ref a), .val (.int p2), .val (.int p3), .val (.int p4)] [(.int (p2 + (1 : Int32))), (.ref a)])) t → Steps p.tables e below (s₁.setTop (entryFrame m #[(.int p1), (.ref a), (.int p2), (.int p3), (.int p4)] 5)) t := by
                  intro t kt
                  refine k22 t ?_
                  show Steps p.tables e below (s₁.setTop (mkF m 52 #[.val (.int p1), .val (.ref a), .val (.int p2), .val (.int p3), .val (.int p4)] [(.int p4), (.int (p2 + (2 : Int32)))])) t
                  refine XS.icmpNo X0.here hx rfl (hb hby d3_52) rfl (tlt hc52_21).2.1 ?_
                  show Steps p.tables e below (s₁.setTop (mkF m 55 #[.val (.int p1), .val (.ref a), .val (.int p2), .val (.int p3), .val (.int p4)] [])) t
                  refine XS.aloadN X0.here hx rfl (hb hby d3_55) rfl rfl ?_
                  show Steps p.tables e below (s₁.setTop (mkF m 56 #[.val (.int p1), .val (.ref a), .val (.int p2), .val (.int p3), .val (.int p4)] [(.ref a)])) t
                  refine XS.iloadN X0.here hx rfl (hb hby d3_56) rfl ?_
                  show Steps p.tables e below (s₁.setTop (mkF m 57 #[.val (.int p1), .val (.ref a), .val (.int p2), .val (.int p3), .val (.int p4)] [(.int p2), (.ref a)])) t
                  refine XS.iconst X0.here hx rfl (hb hby d3_57) ?_
                  show Steps p.tables e below (s₁.setTop (mkF m 58 #[.val (.int p1), .val (.ref a), .val (.int p2), .val (.int p3), .val (.int p4)] [(.int (1 : Int32)), (.int p2), (.ref a)])) t
                  refine XS.iadd X0.here hx rfl (hb hby d3_58) rfl ?_
                  exact kt
                obtain ⟨cl24, Ar24, q24, S24, M24, H24, G24⟩ := id Av
                have hin24 : ¬ ((p2 + (1 : Int32)) < 0 ∨ cl24.slots.size ≤ ((p2 + (1 : Int32))).toNatClampNeg) := inb_of S24 (own_in1 hi0 ht6 hc12_6 hc30_13)
                have hat24 : cl24.slots[((p2 + (1 : Int32))).toNatClampNeg]? = some (.int (g (p2 + (1 : Int32)))) := Has.at H24 hin24 (hg _ (own_in1 hi0 ht6 hc12_6 hc30_13))
                have k25 : ∀ t, Steps p.tables e below (s₁.setTop (mkF m 60 #[.val (.int p1), .val (.ref a), .val (.int p2), .val (.int p3), .val (.int p4)] [(.int (g (p2 + (1 : Int32))))])) t → Steps p.tables e below (s₁.setTop (entryFrame m #[(.int p1), (.ref a), (.int p2), (.int p3), (.int p4)] 5)) t := fun t kt => k23 t (X0.baloadBytes hx (j := (p2 + (1 : Int32))) (v := (.int (g (p2 + (1 : Int32))))) (by rw [e0]; exact Ar24.1) (State.isArrayOf_alike hZ.alike Ar24.2.1) Ar24.2.2 hin24 hat24 (g := (mkF m 59 #[.val (.int p1), .val (.ref a), .val (.int p2), .val (.int p3), .val (.int p4)] [(.int (p2 + (1 : Int32))), (.ref a)])) rfl rfl (hb hby d3_59) t kt)
                have k27 : ∀ t, Steps p.tables e below (s₁.setTop (mkF m 62 #[.val (.int p1), .val (.ref a), .val (.int p2), .val (.int p3), .val (.int p4)] [(.int (13 : Int32)), (.int (g (p2 + (1 : Int32))))])) t → Steps p.tables e below (s₁.setTop (entryFrame m #[(.int p1), (.ref a), (.int p2), (.int p3), (.int p4)] 5)) t := by
                  intro t kt
                  refine k25 t ?_
                  show Steps p.tables e below (s₁.setTop (mkF m 60 #[.val (.int p1), .val (.ref a), .val (.int p2), .val (.int p3), .val (.int p4)] [(.int (g (p2 + (1 : Int32))))])) t
                  refine XS.bipush X0.here hx rfl (hb hby d3_60) ?_
                  exact kt
                by_cases hc62_26 : (g (p2 + (1 : Int32))) = (13 : Int32)
                · have k28 : ∀ t, Steps p.tables e below (s₁.setTop (mkF m 69 #[.val (.int p1), .val (.ref a), .val (.int p2), .val (.int p3), .val (.int p4)] [(.int (p2 + (2 : Int32))), (.ref a)])) t → Steps p.tables e below (s₁.setTop (entryFrame m #[(.int p1), (.ref a), (.int p2), (.int p3), (.int p4)] 5)) t := by
                    intro t kt
                    refine k27 t ?_
                    show Steps p.tables e below (s₁.setTop (mkF m 62 #[.val (.int p1), .val (.ref a), .val (.int p2), .val (.int p3), .val (.int p4)] [(.int (13 : Int32)), (.int (g (p2 + (1 : Int32))))])) t
                    refine XS.icmpNo X0.here hx rfl (hb hby d3_62) rfl (teq hc62_26).2 ?_
                    show Steps p.tables e below (s₁.setTop (mkF m 65 #[.val (.int p1), .val (.ref a), .val (.int p2), .val (.int p3), .val (.int p4)] [])) t
                    refine XS.aloadN X0.here hx rfl (hb hby d3_65) rfl rfl ?_
                    show Steps p.tables e below (s₁.setTop (mkF m 66 #[.val (.int p1), .val (.ref a), .val (.int p2), .val (.int p3), .val (.int p4)] [(.ref a)])) t
                    refine XS.iloadN X0.here hx rfl (hb hby d3_66) rfl ?_
                    show Steps p.tables e below (s₁.setTop (mkF m 67 #[.val (.int p1), .val (.ref a), .val (.int p2), .val (.int p3), .val (.int p4)] [(.int p2), (.ref a)])) t
                    refine XS.iconst X0.here hx rfl (hb hby d3_67) ?_
                    show Steps p.tables e below (s₁.setTop (mkF m 68 #[.val (.int p1), .val (.ref a), .val (.int p2), .val (.int p3), .val (.int p4)] [(.int (2 : Int32)), (.int p2), (.ref a)])) t
                    refine XS.iadd X0.here hx rfl (hb hby d3_68) rfl ?_
                    exact kt
                  obtain ⟨cl29, Ar29, q29, S29, M29, H29, G29⟩ := id Av
                  have hin29 : ¬ ((p2 + (2 : Int32)) < 0 ∨ cl29.slots.size ≤ ((p2 + (2 : Int32))).toNatClampNeg) := inb_of S29 (own_in2 hi0 ht6 hc12_6 hc52_21).2
                  have hat29 : cl29.slots[((p2 + (2 : Int32))).toNatClampNeg]? = some (.int (g (p2 + (2 : Int32)))) := Has.at H29 hin29 (hg _ (own_in2 hi0 ht6 hc12_6 hc52_21).2)
                  have k30 : ∀ t, Steps p.tables e below (s₁.setTop (mkF m 70 #[.val (.int p1), .val (.ref a), .val (.int p2), .val (.int p3), .val (.int p4)] [(.int (g (p2 + (2 : Int32))))])) t → Steps p.tables e below (s₁.setTop (entryFrame m #[(.int p1), (.ref a), (.int p2), (.int p3), (.int p4)] 5)) t := fun t kt => k28 t (X0.baloadBytes hx (j := (p2 + (2 : Int32))) (v := (.int (g (p2 + (2 : Int32))))) (by rw [e0]; exact Ar29.1) (State.isArrayOf_alike hZ.alike Ar29.2.1) Ar29.2.2 hin29 hat29 (g := (mkF m 69 #[.val (.int p1), .val (.ref a), .val (.int p2), .val (.int p3), .val (.int p4)] [(.int (p2 + (2 : Int32))), (.ref a)])) rfl rfl (hb hby d3_69) t kt)
                  have k32 : ∀ t, Steps p.tables e below (s₁.setTop (mkF m 72 #[.val (.int p1), .val (.ref a), .val (.int p2), .val (.int p3), .val (.int p4)] [(.int (10 : Int32)), (.int (g (p2 + (2 : Int32))))])) t → Steps p.tables e below (s₁.setTop (entryFrame m #[(.int p1), (.ref a), (.int p2), (.int p3), (.int p4)] 5)) t := by
                    intro t kt
                    refine k30 t ?_
                    show Steps p.tables e below (s₁.setTop (mkF m 70 #[.val (.int p1), .val (.ref a), .val (.int p2), .val (.int p3), .val (.int p4)] [(.int (g (p2 + (2 : Int32))))])) t
                    refine XS.bipush X0.here hx rfl (hb hby d3_70) ?_
                    exact kt
                  by_cases hc72_31 : (g (p2 + (2 : Int32))) = (10 : Int32)
                  · have k33 : ∀ t, Steps p.tables e below (s₁.setTop (mkF m 78 #[.val (.int p1), .val (.ref a), .val (.int p2), .val (.int p3), .val (.int p4)] [(.int (p2 + (3 : Int32)))])) t → Steps p.tables e below (s₁.setTop (entryFrame m #[(.int p1), (.ref a), (.int p2), (.int p3), (.int p4)] 5)) t := by
                      intro t kt
                      refine k32 t ?_
                      show Steps p.tables e below (s₁.setTop (mkF m 72 #[.val (.int p1), .val (.ref a), .val (.int p2), .val (.int p3), .val (.int p4)] [(.int (10 : Int32)), (.int (g (p2 + (2 : Int32))))])) t
                      refine XS.icmpNo X0.here hx rfl (hb hby d3_72) rfl (teq hc72_31).2 ?_
                      show Steps p.tables e below (s₁.setTop (mkF m 75 #[.val (.int p1), .val (.ref a), .val (.int p2), .val (.int p3), .val (.int p4)] [])) t
                      refine XS.iloadN X0.here hx rfl (hb hby d3_75) rfl ?_
                      show Steps p.tables e below (s₁.setTop (mkF m 76 #[.val (.int p1), .val (.ref a), .val (.int p2), .val (.int p3), .val (.int p4)] [(.int p2)])) t
                      refine XS.iconst X0.here hx rfl (hb hby d3_76) ?_
                      show Steps p.tables e below (s₁.setTop (mkF m 77 #[.val (.int p1), .val (.ref a), .val (.int p2), .val (.int p3), .val (.int p4)] [(.int (3 : Int32)), (.int p2)])) t
                      refine XS.iadd X0.here hx rfl (hb hby d3_77) rfl ?_
                      exact kt
                    obtain ⟨fs, hr, hrun, hended, hW, hsame⟩ := X0.leave (v := some (.int (p2 + (3 : Int32)))) (fun h => by rw [Bd.returns] at h; cases h)
                    refine ⟨_, _, k33 _ ?_, hrun, hended, _, _, rfl, ?_, ⟨_, rfl⟩, hW, hsame.mono (by decide) (by decide)⟩
                    · show Steps p.tables e below (s₁.setTop (mkF m 78 #[.val (.int p1), .val (.ref a), .val (.int p2), .val (.int p3), .val (.int p4)] [(.int (p2 + (3 : Int32)))])) _
                      exact retI X0 hx Bd.returns (hb hby d3_78) hr
                    · show QF Z p1 a kc vs g p2 p3 p4 h0 n0 _ s₁.heap _
                      rw [e0]
                      refine ⟨congrArg (fun z => some (Value.int z)) ?_, N0, rfl⟩
                      simp [own_first, hc1_1, hc6_3, hc12_6, hc20_11, hc30_13, hc40_18, hc52_21, hc62_26, hc72_31]
                  · have k34 : ∀ t, Steps p.tables e below (s₁.setTop (mkF m 80 #[.val (.int p1), .val (.ref a), .val (.int p2), .val (.int p3), .val (.int p4)] [(.int (-1 : Int32))])) t → Steps p.tables e below (s₁.setTop (entryFrame m #[(.int p1), (.ref a), (.int p2), (.int p3), (.int p4)] 5)) t := by
                      intro t kt
                      refine k32 t ?_
                      show Steps p.tables e below (s₁.setTop (mkF m 72 #[.val (.int p1), .val (.ref a), .val (.int p2), .val (.int p3), .val (.int p4)] [(.int (10 : Int32)), (.int (g (p2 + (2 : Int32))))])) t
                      refine XS.icmpYes X0.here hx rfl (pc0 := 72) (pc' := 79) rfl (hb hby d3_72) rfl (feq hc72_31).2 (by decide) (by decide) ?_
                      show Steps p.tables e below (s₁.setTop (mkF m 79 #[.val (.int p1), .val (.ref a), .val (.int p2), .val (.int p3), .val (.int p4)] [])) t
                      refine XS.iconst X0.here hx rfl (hb hby d3_79) ?_
                      exact kt
                    obtain ⟨fs, hr, hrun, hended, hW, hsame⟩ := X0.leave (v := some (.int (-1 : Int32))) (fun h => by rw [Bd.returns] at h; cases h)
                    refine ⟨_, _, k34 _ ?_, hrun, hended, _, _, rfl, ?_, ⟨_, rfl⟩, hW, hsame.mono (by decide) (by decide)⟩
                    · show Steps p.tables e below (s₁.setTop (mkF m 80 #[.val (.int p1), .val (.ref a), .val (.int p2), .val (.int p3), .val (.int p4)] [(.int (-1 : Int32))])) _
                      exact retI X0 hx Bd.returns (hb hby d3_80) hr
                    · show QF Z p1 a kc vs g p2 p3 p4 h0 n0 _ s₁.heap _
                      rw [e0]
                      refine ⟨congrArg (fun z => some (Value.int z)) ?_, N0, rfl⟩
                      simp [own_first, hc1_1, hc6_3, hc12_6, hc20_11, hc30_13, hc40_18, hc52_21, hc62_26, hc72_31]
                · have k35 : ∀ t, Steps p.tables e below (s₁.setTop (mkF m 80 #[.val (.int p1), .val (.ref a), .val (.int p2), .val (.int p3), .val (.int p4)] [(.int (-1 : Int32))])) t → Steps p.tables e below (s₁.setTop (entryFrame m #[(.int p1), (.ref a), (.int p2), (.int p3), (.int p4)] 5)) t := by
                    intro t kt
                    refine k27 t ?_
                    show Steps p.tables e below (s₁.setTop (mkF m 62 #[.val (.int p1), .val (.ref a), .val (.int p2), .val (.int p3), .val (.int p4)] [(.int (13 : Int32)), (.int (g (p2 + (1 : Int32))))])) t
                    refine XS.icmpYes X0.here hx rfl (pc0 := 62) (pc' := 79) rfl (hb hby d3_62) rfl (feq hc62_26).2 (by decide) (by decide) ?_
                    show Steps p.tables e below (s₁.setTop (mkF m 79 #[.val (.int p1), .val (.ref a), .val (.int p2), .val (.int p3), .val (.int p4)] [])) t
                    refine XS.iconst X0.here hx rfl (hb hby d3_79) ?_
                    exact kt
                  obtain ⟨fs, hr, hrun, hended, hW, hsame⟩ := X0.leave (v := some (.int (-1 : Int32))) (fun h => by rw [Bd.returns] at h; cases h)
                  refine ⟨_, _, k35 _ ?_, hrun, hended, _, _, rfl, ?_, ⟨_, rfl⟩, hW, hsame.mono (by decide) (by decide)⟩
                  · show Steps p.tables e below (s₁.setTop (mkF m 80 #[.val (.int p1), .val (.ref a), .val (.int p2), .val (.int p3), .val (.int p4)] [(.int (-1 : Int32))])) _
                    exact retI X0 hx Bd.returns (hb hby d3_80) hr
                  · show QF Z p1 a kc vs g p2 p3 p4 h0 n0 _ s₁.heap _
                    rw [e0]
                    refine ⟨congrArg (fun z => some (Value.int z)) ?_, N0, rfl⟩
                    simp [own_first, hc1_1, hc6_3, hc12_6, hc20_11, hc30_13, hc40_18, hc52_21, hc62_26]
              · have k36 : ∀ t, Steps p.tables e below (s₁.setTop (mkF m 80 #[.val (.int p1), .val (.ref a), .val (.int p2), .val (.int p3), .val (.int p4)] [(.int (-1 : Int32))])) t → Steps p.tables e below (s₁.setTop (entryFrame m #[(.int p1), (.ref a), (.int p2), (.int p3), (.int p4)] 5)) t := by
                  intro t kt
                  refine k22 t ?_
                  show Steps p.tables e below (s₁.setTop (mkF m 52 #[.val (.int p1), .val (.ref a), .val (.int p2), .val (.int p3), .val (.int p4)] [(.int p4), (.int (p2 + (2 : Int32)))])) t
                  refine XS.icmpYes X0.here hx rfl (pc0 := 52) (pc' := 79) rfl (hb hby d3_52) rfl (flt hc52_21).2.1 (by decide) (by decide) ?_
                  show Steps p.tables e below (s₁.setTop (mkF m 79 #[.val (.int p1), .val (.ref a), .val (.int p2), .val (.int p3), .val (.int p4)] [])) t
                  refine XS.iconst X0.here hx rfl (hb hby d3_79) ?_
                  exact kt
                obtain ⟨fs, hr, hrun, hended, hW, hsame⟩ := X0.leave (v := some (.int (-1 : Int32))) (fun h => by rw [Bd.returns] at h; cases h)
                refine ⟨_, _, k36 _ ?_, hrun, hended, _, _, rfl, ?_, ⟨_, rfl⟩, hW, hsame.mono (by decide) (by decide)⟩
                · show Steps p.tables e below (s₁.setTop (mkF m 80 #[.val (.int p1), .val (.ref a), .val (.int p2), .val (.int p3), .val (.int p4)] [(.int (-1 : Int32))])) _
                  exact retI X0 hx Bd.returns (hb hby d3_80) hr
                · show QF Z p1 a kc vs g p2 p3 p4 h0 n0 _ s₁.heap _
                  rw [e0]
                  refine ⟨congrArg (fun z => some (Value.int z)) ?_, N0, rfl⟩
                  simp [own_first, hc1_1, hc6_3, hc12_6, hc20_11, hc30_13, hc40_18, hc52_21]
          · have k38 : ∀ t, Steps p.tables e below (s₁.setTop (mkF m 52 #[.val (.int p1), .val (.ref a), .val (.int p2), .val (.int p3), .val (.int p4)] [(.int p4), (.int (p2 + (2 : Int32)))])) t → Steps p.tables e below (s₁.setTop (entryFrame m #[(.int p1), (.ref a), (.int p2), (.int p3), (.int p4)] 5)) t := by
              intro t kt
              refine k14 t ?_
              show Steps p.tables e below (s₁.setTop (mkF m 30 #[.val (.int p1), .val (.ref a), .val (.int p2), .val (.int p3), .val (.int p4)] [(.int p4), (.int (p2 + (1 : Int32)))])) t
              refine XS.icmpYes X0.here hx rfl (pc0 := 30) (pc' := 47) rfl (hb hby d3_30) rfl (flt hc30_13).2.1 (by decide) (by decide) ?_
              show Steps p.tables e below (s₁.setTop (mkF m 47 #[.val (.int p1), .val (.ref a), .val (.int p2), .val (.int p3), .val (.int p4)] [])) t
              refine XS.iloadN X0.here hx rfl (hb hby d3_47) rfl ?_
              show Steps p.tables e below (s₁.setTop (mkF m 48 #[.val (.int p1), .val (.ref a), .val (.int p2), .val (.int p3), .val (.int p4)] [(.int p2)])) t
              refine XS.iconst X0.here hx rfl (hb hby d3_48) ?_
              show Steps p.tables e below (s₁.setTop (mkF m 49 #[.val (.int p1), .val (.ref a), .val (.int p2), .val (.int p3), .val (.int p4)] [(.int (2 : Int32)), (.int p2)])) t
              refine XS.iadd X0.here hx rfl (hb hby d3_49) rfl ?_
              show Steps p.tables e below (s₁.setTop (mkF m 50 #[.val (.int p1), .val (.ref a), .val (.int p2), .val (.int p3), .val (.int p4)] [(.int (p2 + (2 : Int32)))])) t
              refine XS.iload X0.here hx rfl (hb hby d3_50) rfl ?_
              exact kt
            by_cases hc52_37 : (p2 + (2 : Int32)) < p4
            · have k39 : ∀ t, Steps p.tables e below (s₁.setTop (mkF m 59 #[.val (.int p1), .val (.ref a), .val (.int p2), .val (.int p3), .val (.int p4)] [(.int (p2 + (1 : Int32))), (.ref a)])) t → Steps p.tables e below (s₁.setTop (entryFrame m #[(.int p1), (.ref a), (.int p2), (.int p3), (.int p4)] 5)) t := by
                intro t kt
                refine k38 t ?_
                show Steps p.tables e below (s₁.setTop (mkF m 52 #[.val (.int p1), .val (.ref a), .val (.int p2), .val (.int p3), .val (.int p4)] [(.int p4), (.int (p2 + (2 : Int32)))])) t
                refine XS.icmpNo X0.here hx rfl (hb hby d3_52) rfl (tlt hc52_37).2.1 ?_
                show Steps p.tables e below (s₁.setTop (mkF m 55 #[.val (.int p1), .val (.ref a), .val (.int p2), .val (.int p3), .val (.int p4)] [])) t
                refine XS.aloadN X0.here hx rfl (hb hby d3_55) rfl rfl ?_
                show Steps p.tables e below (s₁.setTop (mkF m 56 #[.val (.int p1), .val (.ref a), .val (.int p2), .val (.int p3), .val (.int p4)] [(.ref a)])) t
                refine XS.iloadN X0.here hx rfl (hb hby d3_56) rfl ?_
                show Steps p.tables e below (s₁.setTop (mkF m 57 #[.val (.int p1), .val (.ref a), .val (.int p2), .val (.int p3), .val (.int p4)] [(.int p2), (.ref a)])) t
                refine XS.iconst X0.here hx rfl (hb hby d3_57) ?_
                show Steps p.tables e below (s₁.setTop (mkF m 58 #[.val (.int p1), .val (.ref a), .val (.int p2), .val (.int p3), .val (.int p4)] [(.int (1 : Int32)), (.int p2), (.ref a)])) t
                refine XS.iadd X0.here hx rfl (hb hby d3_58) rfl ?_
                exact kt
              obtain ⟨cl40, Ar40, q40, S40, M40, H40, G40⟩ := id Av
              have hin40 : ¬ ((p2 + (1 : Int32)) < 0 ∨ cl40.slots.size ≤ ((p2 + (1 : Int32))).toNatClampNeg) := inb_of S40 (own_in2 hi0 ht6 hc12_6 hc52_37).1
              have hat40 : cl40.slots[((p2 + (1 : Int32))).toNatClampNeg]? = some (.int (g (p2 + (1 : Int32)))) := Has.at H40 hin40 (hg _ (own_in2 hi0 ht6 hc12_6 hc52_37).1)
              have k41 : ∀ t, Steps p.tables e below (s₁.setTop (mkF m 60 #[.val (.int p1), .val (.ref a), .val (.int p2), .val (.int p3), .val (.int p4)] [(.int (g (p2 + (1 : Int32))))])) t → Steps p.tables e below (s₁.setTop (entryFrame m #[(.int p1), (.ref a), (.int p2), (.int p3), (.int p4)] 5)) t := fun t kt => k39 t (X0.baloadBytes hx (j := (p2 + (1 : Int32))) (v := (.int (g (p2 + (1 : Int32))))) (by rw [e0]; exact Ar40.1) (State.isArrayOf_alike hZ.alike Ar40.2.1) Ar40.2.2 hin40 hat40 (g := (mkF m 59 #[.val (.int p1), .val (.ref a), .val (.int p2), .val (.int p3), .val (.int p4)] [(.int (p2 + (1 : Int32))), (.ref a)])) rfl rfl (hb hby d3_59) t kt)
              have k43 : ∀ t, Steps p.tables e below (s₁.setTop (mkF m 62 #[.val (.int p1), .val (.ref a), .val (.int p2), .val (.int p3), .val (.int p4)] [(.int (13 : Int32)), (.int (g (p2 + (1 : Int32))))])) t → Steps p.tables e below (s₁.setTop (entryFrame m #[(.int p1), (.ref a), (.int p2), (.int p3), (.int p4)] 5)) t := by
                intro t kt
                refine k41 t ?_
                show Steps p.tables e below (s₁.setTop (mkF m 60 #[.val (.int p1), .val (.ref a), .val (.int p2), .val (.int p3), .val (.int p4)] [(.int (g (p2 + (1 : Int32))))])) t
                refine XS.bipush X0.here hx rfl (hb hby d3_60) ?_
                exact kt
              by_cases hc62_42 : (g (p2 + (1 : Int32))) = (13 : Int32)
              · have k44 : ∀ t, Steps p.tables e below (s₁.setTop (mkF m 69 #[.val (.int p1), .val (.ref a), .val (.int p2), .val (.int p3), .val (.int p4)] [(.int (p2 + (2 : Int32))), (.ref a)])) t → Steps p.tables e below (s₁.setTop (entryFrame m #[(.int p1), (.ref a), (.int p2), (.int p3), (.int p4)] 5)) t := by
                  intro t kt
                  refine k43 t ?_
                  show Steps p.tables e below (s₁.setTop (mkF m 62 #[.val (.int p1), .val (.ref a), .val (.int p2), .val (.int p3), .val (.int p4)] [(.int (13 : Int32)), (.int (g (p2 + (1 : Int32))))])) t
                  refine XS.icmpNo X0.here hx rfl (hb hby d3_62) rfl (teq hc62_42).2 ?_
                  show Steps p.tables e below (s₁.setTop (mkF m 65 #[.val (.int p1), .val (.ref a), .val (.int p2), .val (.int p3), .val (.int p4)] [])) t
                  refine XS.aloadN X0.here hx rfl (hb hby d3_65) rfl rfl ?_
                  show Steps p.tables e below (s₁.setTop (mkF m 66 #[.val (.int p1), .val (.ref a), .val (.int p2), .val (.int p3), .val (.int p4)] [(.ref a)])) t
                  refine XS.iloadN X0.here hx rfl (hb hby d3_66) rfl ?_
                  show Steps p.tables e below (s₁.setTop (mkF m 67 #[.val (.int p1), .val (.ref a), .val (.int p2), .val (.int p3), .val (.int p4)] [(.int p2), (.ref a)])) t
                  refine XS.iconst X0.here hx rfl (hb hby d3_67) ?_
                  show Steps p.tables e below (s₁.setTop (mkF m 68 #[.val (.int p1), .val (.ref a), .val (.int p2), .val (.int p3), .val (.int p4)] [(.int (2 : Int32)), (.int p2), (.ref a)])) t
                  refine XS.iadd X0.here hx rfl (hb hby d3_68) rfl ?_
                  exact kt
                obtain ⟨cl45, Ar45, q45, S45, M45, H45, G45⟩ := id Av
                have hin45 : ¬ ((p2 + (2 : Int32)) < 0 ∨ cl45.slots.size ≤ ((p2 + (2 : Int32))).toNatClampNeg) := inb_of S45 (own_in2 hi0 ht6 hc12_6 hc52_37).2
                have hat45 : cl45.slots[((p2 + (2 : Int32))).toNatClampNeg]? = some (.int (g (p2 + (2 : Int32)))) := Has.at H45 hin45 (hg _ (own_in2 hi0 ht6 hc12_6 hc52_37).2)
                have k46 : ∀ t, Steps p.tables e below (s₁.setTop (mkF m 70 #[.val (.int p1), .val (.ref a), .val (.int p2), .val (.int p3), .val (.int p4)] [(.int (g (p2 + (2 : Int32))))])) t → Steps p.tables e below (s₁.setTop (entryFrame m #[(.int p1), (.ref a), (.int p2), (.int p3), (.int p4)] 5)) t := fun t kt => k44 t (X0.baloadBytes hx (j := (p2 + (2 : Int32))) (v := (.int (g (p2 + (2 : Int32))))) (by rw [e0]; exact Ar45.1) (State.isArrayOf_alike hZ.alike Ar45.2.1) Ar45.2.2 hin45 hat45 (g := (mkF m 69 #[.val (.int p1), .val (.ref a), .val (.int p2), .val (.int p3), .val (.int p4)] [(.int (p2 + (2 : Int32))), (.ref a)])) rfl rfl (hb hby d3_69) t kt)
                have k48 : ∀ t, Steps p.tables e below (s₁.setTop (mkF m 72 #[.val (.int p1), .val (.ref a), .val (.int p2), .val (.int p3), .val (.int p4)] [(.int (10 : Int32)), (.int (g (p2 + (2 : Int32))))])) t → Steps p.tables e below (s₁.setTop (entryFrame m #[(.int p1), (.ref a), (.int p2), (.int p3), (.int p4)] 5)) t := by
                  intro t kt
                  refine k46 t ?_
                  show Steps p.tables e below (s₁.setTop (mkF m 70 #[.val (.int p1), .val (.ref a), .val (.int p2), .val (.int p3), .val (.int p4)] [(.int (g (p2 + (2 : Int32))))])) t
                  refine XS.bipush X0.here hx rfl (hb hby d3_70) ?_
                  exact kt
                by_cases hc72_47 : (g (p2 + (2 : Int32))) = (10 : Int32)
                · have k49 : ∀ t, Steps p.tables e below (s₁.setTop (mkF m 78 #[.val (.int p1), .val (.ref a), .val (.int p2), .val (.int p3), .val (.int p4)] [(.int (p2 + (3 : Int32)))])) t → Steps p.tables e below (s₁.setTop (entryFrame m #[(.int p1), (.ref a), (.int p2), (.int p3), (.int p4)] 5)) t := by
                    intro t kt
                    refine k48 t ?_
                    show Steps p.tables e below (s₁.setTop (mkF m 72 #[.val (.int p1), .val (.ref a), .val (.int p2), .val (.int p3), .val (.int p4)] [(.int (10 : Int32)), (.int (g (p2 + (2 : Int32))))])) t
                    refine XS.icmpNo X0.here hx rfl (hb hby d3_72) rfl (teq hc72_47).2 ?_
                    show Steps p.tables e below (s₁.setTop (mkF m 75 #[.val (.int p1), .val (.ref a), .val (.int p2), .val (.int p3), .val (.int p4)] [])) t
                    refine XS.iloadN X0.here hx rfl (hb hby d3_75) rfl ?_
                    show Steps p.tables e below (s₁.setTop (mkF m 76 #[.val (.int p1), .val (.ref a), .val (.int p2), .val (.int p3), .val (.int p4)] [(.int p2)])) t
                    refine XS.iconst X0.here hx rfl (hb hby d3_76) ?_
                    show Steps p.tables e below (s₁.setTop (mkF m 77 #[.val (.int p1), .val (.ref a), .val (.int p2), .val (.int p3), .val (.int p4)] [(.int (3 : Int32)), (.int p2)])) t
                    refine XS.iadd X0.here hx rfl (hb hby d3_77) rfl ?_
                    exact kt
                  obtain ⟨fs, hr, hrun, hended, hW, hsame⟩ := X0.leave (v := some (.int (p2 + (3 : Int32)))) (fun h => by rw [Bd.returns] at h; cases h)
                  refine ⟨_, _, k49 _ ?_, hrun, hended, _, _, rfl, ?_, ⟨_, rfl⟩, hW, hsame.mono (by decide) (by decide)⟩
                  · show Steps p.tables e below (s₁.setTop (mkF m 78 #[.val (.int p1), .val (.ref a), .val (.int p2), .val (.int p3), .val (.int p4)] [(.int (p2 + (3 : Int32)))])) _
                    exact retI X0 hx Bd.returns (hb hby d3_78) hr
                  · show QF Z p1 a kc vs g p2 p3 p4 h0 n0 _ s₁.heap _
                    rw [e0]
                    refine ⟨congrArg (fun z => some (Value.int z)) ?_, N0, rfl⟩
                    simp [own_first, hc1_1, hc6_3, hc12_6, hc20_11, hc30_13, hc52_37, hc62_42, hc72_47]
                · have k50 : ∀ t, Steps p.tables e below (s₁.setTop (mkF m 80 #[.val (.int p1), .val (.ref a), .val (.int p2), .val (.int p3), .val (.int p4)] [(.int (-1 : Int32))])) t → Steps p.tables e below (s₁.setTop (entryFrame m #[(.int p1), (.ref a), (.int p2), (.int p3), (.int p4)] 5)) t := by
                    intro t kt
                    refine k48 t ?_
                    show Steps p.tables e below (s₁.setTop (mkF m 72 #[.val (.int p1), .val (.ref a), .val (.int p2), .val (.int p3), .val (.int p4)] [(.int (10 : Int32)), (.int (g (p2 + (2 : Int32))))])) t
                    refine XS.icmpYes X0.here hx rfl (pc0 := 72) (pc' := 79) rfl (hb hby d3_72) rfl (feq hc72_47).2 (by decide) (by decide) ?_
                    show Steps p.tables e below (s₁.setTop (mkF m 79 #[.val (.int p1), .val (.ref a), .val (.int p2), .val (.int p3), .val (.int p4)] [])) t
                    refine XS.iconst X0.here hx rfl (hb hby d3_79) ?_
                    exact kt
                  obtain ⟨fs, hr, hrun, hended, hW, hsame⟩ := X0.leave (v := some (.int (-1 : Int32))) (fun h => by rw [Bd.returns] at h; cases h)
                  refine ⟨_, _, k50 _ ?_, hrun, hended, _, _, rfl, ?_, ⟨_, rfl⟩, hW, hsame.mono (by decide) (by decide)⟩
                  · show Steps p.tables e below (s₁.setTop (mkF m 80 #[.val (.int p1), .val (.ref a), .val (.int p2), .val (.int p3), .val (.int p4)] [(.int (-1 : Int32))])) _
                    exact retI X0 hx Bd.returns (hb hby d3_80) hr
                  · show QF Z p1 a kc vs g p2 p3 p4 h0 n0 _ s₁.heap _
                    rw [e0]
                    refine ⟨congrArg (fun z => some (Value.int z)) ?_, N0, rfl⟩
                    simp [own_first, hc1_1, hc6_3, hc12_6, hc20_11, hc30_13, hc52_37, hc62_42, hc72_47]
              · have k51 : ∀ t, Steps p.tables e below (s₁.setTop (mkF m 80 #[.val (.int p1), .val (.ref a), .val (.int p2), .val (.int p3), .val (.int p4)] [(.int (-1 : Int32))])) t → Steps p.tables e below (s₁.setTop (entryFrame m #[(.int p1), (.ref a), (.int p2), (.int p3), (.int p4)] 5)) t := by
                  intro t kt
                  refine k43 t ?_
                  show Steps p.tables e below (s₁.setTop (mkF m 62 #[.val (.int p1), .val (.ref a), .val (.int p2), .val (.int p3), .val (.int p4)] [(.int (13 : Int32)), (.int (g (p2 + (1 : Int32))))])) t
                  refine XS.icmpYes X0.here hx rfl (pc0 := 62) (pc' := 79) rfl (hb hby d3_62) rfl (feq hc62_42).2 (by decide) (by decide) ?_
                  show Steps p.tables e below (s₁.setTop (mkF m 79 #[.val (.int p1), .val (.ref a), .val (.int p2), .val (.int p3), .val (.int p4)] [])) t
                  refine XS.iconst X0.here hx rfl (hb hby d3_79) ?_
                  exact kt
                obtain ⟨fs, hr, hrun, hended, hW, hsame⟩ := X0.leave (v := some (.int (-1 : Int32))) (fun h => by rw [Bd.returns] at h; cases h)
                refine ⟨_, _, k51 _ ?_, hrun, hended, _, _, rfl, ?_, ⟨_, rfl⟩, hW, hsame.mono (by decide) (by decide)⟩
                · show Steps p.tables e below (s₁.setTop (mkF m 80 #[.val (.int p1), .val (.ref a), .val (.int p2), .val (.int p3), .val (.int p4)] [(.int (-1 : Int32))])) _
                  exact retI X0 hx Bd.returns (hb hby d3_80) hr
                · show QF Z p1 a kc vs g p2 p3 p4 h0 n0 _ s₁.heap _
                  rw [e0]
                  refine ⟨congrArg (fun z => some (Value.int z)) ?_, N0, rfl⟩
                  simp [own_first, hc1_1, hc6_3, hc12_6, hc20_11, hc30_13, hc52_37, hc62_42]
            · have k52 : ∀ t, Steps p.tables e below (s₁.setTop (mkF m 80 #[.val (.int p1), .val (.ref a), .val (.int p2), .val (.int p3), .val (.int p4)] [(.int (-1 : Int32))])) t → Steps p.tables e below (s₁.setTop (entryFrame m #[(.int p1), (.ref a), (.int p2), (.int p3), (.int p4)] 5)) t := by
                intro t kt
                refine k38 t ?_
                show Steps p.tables e below (s₁.setTop (mkF m 52 #[.val (.int p1), .val (.ref a), .val (.int p2), .val (.int p3), .val (.int p4)] [(.int p4), (.int (p2 + (2 : Int32)))])) t
                refine XS.icmpYes X0.here hx rfl (pc0 := 52) (pc' := 79) rfl (hb hby d3_52) rfl (flt hc52_37).2.1 (by decide) (by decide) ?_
                show Steps p.tables e below (s₁.setTop (mkF m 79 #[.val (.int p1), .val (.ref a), .val (.int p2), .val (.int p3), .val (.int p4)] [])) t
                refine XS.iconst X0.here hx rfl (hb hby d3_79) ?_
                exact kt
              obtain ⟨fs, hr, hrun, hended, hW, hsame⟩ := X0.leave (v := some (.int (-1 : Int32))) (fun h => by rw [Bd.returns] at h; cases h)
              refine ⟨_, _, k52 _ ?_, hrun, hended, _, _, rfl, ?_, ⟨_, rfl⟩, hW, hsame.mono (by decide) (by decide)⟩
              · show Steps p.tables e below (s₁.setTop (mkF m 80 #[.val (.int p1), .val (.ref a), .val (.int p2), .val (.int p3), .val (.int p4)] [(.int (-1 : Int32))])) _
                exact retI X0 hx Bd.returns (hb hby d3_80) hr
              · show QF Z p1 a kc vs g p2 p3 p4 h0 n0 _ s₁.heap _
                rw [e0]
                refine ⟨congrArg (fun z => some (Value.int z)) ?_, N0, rfl⟩
                simp [own_first, hc1_1, hc6_3, hc12_6, hc20_11, hc30_13, hc52_37]
        · have k53 : ∀ t, Steps p.tables e below (s₁.setTop (mkF m 24 #[.val (.int p1), .val (.ref a), .val (.int p2), .val (.int p3), .val (.int p4)] [(.int p1)])) t → Steps p.tables e below (s₁.setTop (entryFrame m #[(.int p1), (.ref a), (.int p2), (.int p3), (.int p4)] 5)) t := by
            intro t kt
            refine k12 t ?_
            show Steps p.tables e below (s₁.setTop (mkF m 20 #[.val (.int p1), .val (.ref a), .val (.int p2), .val (.int p3), .val (.int p4)] [(.int (10 : Int32)), (.int (g p2))])) t
            refine XS.icmpNo X0.here hx rfl (hb hby d3_20) rfl (feq hc20_11).1 ?_
            show Steps p.tables e below (s₁.setTop (mkF m 23 #[.val (.int p1), .val (.ref a), .val (.int p2), .val (.int p3), .val (.int p4)] [])) t
            refine XS.iloadN X0.here hx rfl (hb hby d3_23) rfl ?_
            exact kt
          obtain ⟨fs, hr, hrun, hended, hW, hsame⟩ := X0.leave (v := some (.int p1)) (fun h => by rw [Bd.returns] at h; cases h)
          refine ⟨_, _, k53 _ ?_, hrun, hended, _, _, rfl, ?_, ⟨_, rfl⟩, hW, hsame.mono (by decide) (by decide)⟩
          · show Steps p.tables e below (s₁.setTop (mkF m 24 #[.val (.int p1), .val (.ref a), .val (.int p2), .val (.int p3), .val (.int p4)] [(.int p1)])) _
            exact retI X0 hx Bd.returns (hb hby d3_24) hr
          · show QF Z p1 a kc vs g p2 p3 p4 h0 n0 _ s₁.heap _
            rw [e0]
            refine ⟨congrArg (fun z => some (Value.int z)) ?_, N0, rfl⟩
            simp [own_first, hc1_1, hc6_3, hc12_6, hc20_11]
      · have k54 : ∀ t, Steps p.tables e below (s₁.setTop (mkF m 24 #[.val (.int p1), .val (.ref a), .val (.int p2), .val (.int p3), .val (.int p4)] [(.int p1)])) t → Steps p.tables e below (s₁.setTop (entryFrame m #[(.int p1), (.ref a), (.int p2), (.int p3), (.int p4)] 5)) t := by
          intro t kt
          refine k7 t ?_
          show Steps p.tables e below (s₁.setTop (mkF m 12 #[.val (.int p1), .val (.ref a), .val (.int p2), .val (.int p3), .val (.int p4)] [(.int p4), (.int p2)])) t
          refine XS.icmpYes X0.here hx rfl (pc0 := 12) (pc' := 23) rfl (hb hby d3_12) rfl (flt hc12_6).2.1 (by decide) (by decide) ?_
          show Steps p.tables e below (s₁.setTop (mkF m 23 #[.val (.int p1), .val (.ref a), .val (.int p2), .val (.int p3), .val (.int p4)] [])) t
          refine XS.iloadN X0.here hx rfl (hb hby d3_23) rfl ?_
          exact kt
        obtain ⟨fs, hr, hrun, hended, hW, hsame⟩ := X0.leave (v := some (.int p1)) (fun h => by rw [Bd.returns] at h; cases h)
        refine ⟨_, _, k54 _ ?_, hrun, hended, _, _, rfl, ?_, ⟨_, rfl⟩, hW, hsame.mono (by decide) (by decide)⟩
        · show Steps p.tables e below (s₁.setTop (mkF m 24 #[.val (.int p1), .val (.ref a), .val (.int p2), .val (.int p3), .val (.int p4)] [(.int p1)])) _
          exact retI X0 hx Bd.returns (hb hby d3_24) hr
        · show QF Z p1 a kc vs g p2 p3 p4 h0 n0 _ s₁.heap _
          rw [e0]
          refine ⟨congrArg (fun z => some (Value.int z)) ?_, N0, rfl⟩
          simp [own_first, hc1_1, hc6_3, hc12_6]
  · have k55 : ∀ t, Steps p.tables e below (s₁.setTop (mkF m 24 #[.val (.int p1), .val (.ref a), .val (.int p2), .val (.int p3), .val (.int p4)] [(.int p1)])) t → Steps p.tables e below (s₁.setTop (entryFrame m #[(.int p1), (.ref a), (.int p2), (.int p3), (.int p4)] 5)) t := by
      intro t kt
      refine k2 t ?_
      show Steps p.tables e below (s₁.setTop (mkF m 1 #[.val (.int p1), .val (.ref a), .val (.int p2), .val (.int p3), .val (.int p4)] [(.int p1)])) t
      refine XS.ifYes X0.here hx rfl (pc0 := 1) (pc' := 23) rfl (hb hby d3_1) rfl ((if0 _ _).trans (flt hc1_1).2.1) (by decide) (by decide) ?_
      show Steps p.tables e below (s₁.setTop (mkF m 23 #[.val (.int p1), .val (.ref a), .val (.int p2), .val (.int p3), .val (.int p4)] [])) t
      refine XS.iloadN X0.here hx rfl (hb hby d3_23) rfl ?_
      exact kt
    obtain ⟨fs, hr, hrun, hended, hW, hsame⟩ := X0.leave (v := some (.int p1)) (fun h => by rw [Bd.returns] at h; cases h)
    refine ⟨_, _, k55 _ ?_, hrun, hended, _, _, rfl, ?_, ⟨_, rfl⟩, hW, hsame.mono (by decide) (by decide)⟩
    · show Steps p.tables e below (s₁.setTop (mkF m 24 #[.val (.int p1), .val (.ref a), .val (.int p2), .val (.int p3), .val (.int p4)] [(.int p1)])) _
      exact retI X0 hx Bd.returns (hb hby d3_24) hr
    · show QF Z p1 a kc vs g p2 p3 p4 h0 n0 _ s₁.heap _
      rw [e0]
      refine ⟨congrArg (fun z => some (Value.int z)) ?_, N0, rfl⟩
      simp [own_first, hc1_1]
theorem d2_0 : decode prog_32_method_2_code 0 = .ok (.iconst (-1), 1) := by decide +kernel
theorem d2_1 : decode prog_32_method_2_code 1 = .ok (.istore_n 3, 1) := by decide +kernel
theorem d2_2 : decode prog_32_method_2_code 2 = .ok (.iload_n 1, 1) := by decide +kernel
theorem d2_3 : decode prog_32_method_2_code 3 = .ok (.istore 4, 2) := by decide +kernel
theorem d2_5 : decode prog_32_method_2_code 5 = .ok (.iload_n 3, 1) := by decide +kernel
theorem d2_6 : decode prog_32_method_2_code 6 = .ok (.ifCond .ge 95, 3) := by decide +kernel
theorem d2_9 : decode prog_32_method_2_code 9 = .ok (.iload 4, 2) := by decide +kernel
theorem d2_11 : decode prog_32_method_2_code 11 = .ok (.iload_n 2, 1) := by decide +kernel
theorem d2_12 : decode prog_32_method_2_code 12 = .ok (.if_icmp .ge 89, 3) := by decide +kernel
theorem d2_15 : decode prog_32_method_2_code 15 = .ok (.aload_n 0, 1) := by decide +kernel
theorem d2_16 : decode prog_32_method_2_code 16 = .ok (.iload 4, 2) := by decide +kernel
theorem d2_18 : decode prog_32_method_2_code 18 = .ok (.baload, 1) := by decide +kernel
theorem d2_19 : decode prog_32_method_2_code 19 = .ok (.bipush 10, 2) := by decide +kernel
theorem d2_21 : decode prog_32_method_2_code 21 = .ok (.if_icmp .ne 30, 3) := by decide +kernel
theorem d2_24 : decode prog_32_method_2_code 24 = .ok (.iload 4, 2) := by decide +kernel
theorem d2_26 : decode prog_32_method_2_code 26 = .ok (.iconst 1, 1) := by decide +kernel
theorem d2_27 : decode prog_32_method_2_code 27 = .ok (.iadd, 1) := by decide +kernel
theorem d2_28 : decode prog_32_method_2_code 28 = .ok (.iload_n 2, 1) := by decide +kernel
theorem d2_29 : decode prog_32_method_2_code 29 = .ok (.if_icmp .ge 22, 3) := by decide +kernel
theorem d2_32 : decode prog_32_method_2_code 32 = .ok (.aload_n 0, 1) := by decide +kernel
theorem d2_33 : decode prog_32_method_2_code 33 = .ok (.iload 4, 2) := by decide +kernel
theorem d2_35 : decode prog_32_method_2_code 35 = .ok (.iconst 1, 1) := by decide +kernel
theorem d2_36 : decode prog_32_method_2_code 36 = .ok (.iadd, 1) := by decide +kernel
theorem d2_37 : decode prog_32_method_2_code 37 = .ok (.baload, 1) := by decide +kernel
theorem d2_38 : decode prog_32_method_2_code 38 = .ok (.bipush 10, 2) := by decide +kernel
theorem d2_40 : decode prog_32_method_2_code 40 = .ok (.if_icmp .ne 11, 3) := by decide +kernel
theorem d2_43 : decode prog_32_method_2_code 43 = .ok (.iload 4, 2) := by decide +kernel
theorem d2_45 : decode prog_32_method_2_code 45 = .ok (.iconst 2, 1) := by decide +kernel
theorem d2_46 : decode prog_32_method_2_code 46 = .ok (.iadd, 1) := by decide +kernel
theorem d2_47 : decode prog_32_method_2_code 47 = .ok (.istore_n 3, 1) := by decide +kernel
theorem d2_48 : decode prog_32_method_2_code 48 = .ok (.goto 47, 3) := by decide +kernel
theorem d2_51 : decode prog_32_method_2_code 51 = .ok (.aload_n 0, 1) := by decide +kernel
theorem d2_52 : decode prog_32_method_2_code 52 = .ok (.iload 4, 2) := by decide +kernel
theorem d2_54 : decode prog_32_method_2_code 54 = .ok (.baload, 1) := by decide +kernel
theorem d2_55 : decode prog_32_method_2_code 55 = .ok (.bipush 10, 2) := by decide +kernel
theorem d2_57 : decode prog_32_method_2_code 57 = .ok (.if_icmp .ne 38, 3) := by decide +kernel
theorem d2_60 : decode prog_32_method_2_code 60 = .ok (.iload 4, 2) := by decide +kernel
theorem d2_62 : decode prog_32_method_2_code 62 = .ok (.iconst 2, 1) := by decide +kernel
theorem d2_63 : decode prog_32_method_2_code 63 = .ok (.iadd, 1) := by decide +kernel
theorem d2_64 : decode prog_32_method_2_code 64 = .ok (.iload_n 2, 1) := by decide +kernel
theorem d2_65 : decode prog_32_method_2_code 65 = .ok (.if_icmp .ge 30, 3) := by decide +kernel
theorem d2_68 : decode prog_32_method_2_code 68 = .ok (.aload_n 0, 1) := by decide +kernel
theorem d2_69 : decode prog_32_method_2_code 69 = .ok (.iload 4, 2) := by decide +kernel
theorem d2_71 : decode prog_32_method_2_code 71 = .ok (.iconst 1, 1) := by decide +kernel
theorem d2_72 : decode prog_32_method_2_code 72 = .ok (.iadd, 1) := by decide +kernel
theorem d2_73 : decode prog_32_method_2_code 73 = .ok (.baload, 1) := by decide +kernel
theorem d2_74 : decode prog_32_method_2_code 74 = .ok (.bipush 13, 2) := by decide +kernel
theorem d2_76 : decode prog_32_method_2_code 76 = .ok (.if_icmp .ne 19, 3) := by decide +kernel
theorem d2_79 : decode prog_32_method_2_code 79 = .ok (.aload_n 0, 1) := by decide +kernel
theorem d2_80 : decode prog_32_method_2_code 80 = .ok (.iload 4, 2) := by decide +kernel
theorem d2_82 : decode prog_32_method_2_code 82 = .ok (.iconst 2, 1) := by decide +kernel
theorem d2_83 : decode prog_32_method_2_code 83 = .ok (.iadd, 1) := by decide +kernel
theorem d2_84 : decode prog_32_method_2_code 84 = .ok (.baload, 1) := by decide +kernel
theorem d2_85 : decode prog_32_method_2_code 85 = .ok (.bipush 10, 2) := by decide +kernel
theorem d2_87 : decode prog_32_method_2_code 87 = .ok (.if_icmp .ne 8, 3) := by decide +kernel
theorem d2_90 : decode prog_32_method_2_code 90 = .ok (.iload 4, 2) := by decide +kernel
theorem d2_92 : decode prog_32_method_2_code 92 = .ok (.iconst 3, 1) := by decide +kernel
theorem d2_93 : decode prog_32_method_2_code 93 = .ok (.iadd, 1) := by decide +kernel
theorem d2_94 : decode prog_32_method_2_code 94 = .ok (.istore_n 3, 1) := by decide +kernel
theorem d2_95 : decode prog_32_method_2_code 95 = .ok (.iinc 4 1, 3) := by decide +kernel
theorem d2_98 : decode prog_32_method_2_code 98 = .ok (.goto (-93), 3) := by decide +kernel
theorem d2_101 : decode prog_32_method_2_code 101 = .ok (.iload_n 3, 1) := by decide +kernel
theorem d2_102 : decode prog_32_method_2_code 102 = .ok (.ireturn, 1) := by decide +kernel
set_option maxRecDepth 65536 in
set_option maxHeartbeats 40000000 in
theorem own_turn {p : Program} {l : Launch} {e : Env} {R : Room} {s : State} {m : MethodId} {args : Array Value} {below : List Frame} {meth : Method} {c : Code} {T0 : State} {locs : List Loc} {cells slots : Nat} {Z : State} {a0 : Array Value} {h0 : Heap} {a : Addr} {kc : ClassId} {vs : List Value} {g : Int32 → Int32} {p1 p2 r i : Int32}
    (X0 : Stand p l e R s m args below meth c T0 locs cells slots) (hx : p.tables.exec = Jvm.exec) (hZ : Z.Warmed39 s.vm) (hw : ∀ d ∈ tables_1, d.before a0 Z = true) (hby : c.code = prog_32_method_2_code) (hml : c.maxLocals = 5) (hown : s.vm.findClass "com/example/ruleward/ruleward/http/HttpHead" = some m.cls) (e0 : T0.heap = h0) (Av : Arv Z h0 a kc .byte (6 : Int32) vs (.int (0 : Int32))) (hg : ∀ j : Int32, ¬ j < 0 ∧ j < (6 : Int32) → vs.getD j.toNatClampNeg (.int (0 : Int32)) = .int (g j)) (hi0 : 0 ≤ i.toInt) (ht6 : p2.toInt ≤ 6) (hr : r < (0 : Int32)) (hi : i < p2) :
    ∀ t, Steps p.tables e below (T0.setTop (mkF m 5 #[.val (.ref a), .val (.int p1), .val (.int p2), .val (.int (own_step g p2 r i)), .val (.int (i + (1 : Int32)))] [])) t → Steps p.tables e below (T0.setTop (mkF m 5 #[.val (.ref a), .val (.int p1), .val (.int p2), .val (.int r), .val (.int i)] [])) t := by
  have k0 : ∀ t, Steps p.tables e below (T0.setTop (mkF m 5 #[.val (.ref a), .val (.int p1), .val (.int p2), .val (.int r), .val (.int i)] [])) t → Steps p.tables e below (T0.setTop (mkF m 5 #[.val (.ref a), .val (.int p1), .val (.int p2), .val (.int r), .val (.int i)] [])) t := fun t k => k
  have k3 : ∀ t, Steps p.tables e below (T0.setTop (mkF m 15 #[.val (.ref a), .val (.int p1), .val (.int p2), .val (.int r), .val (.int i)] [])) t → Steps p.tables e below (T0.setTop (mkF m 5 #[.val (.ref a), .val (.int p1), .val (.int p2), .val (.int r), .val (.int i)] [])) t := by
    intro t kt
    refine k0 t ?_
    show Steps p.tables e below (T0.setTop (mkF m 5 #[.val (.ref a), .val (.int p1), .val (.int p2), .val (.int r), .val (.int i)] [])) t
    refine XS.iloadN X0.here hx rfl (hb hby d2_5) rfl ?_
    show Steps p.tables e below (T0.setTop (mkF m 6 #[.val (.ref a), .val (.int p1), .val (.int p2), .val (.int r), .val (.int i)] [(.int r)])) t
    refine XS.ifNo X0.here hx rfl (hb hby d2_6) rfl ((if0 _ _).trans (tlt hr).2.1) ?_
    show Steps p.tables e below (T0.setTop (mkF m 9 #[.val (.ref a), .val (.int p1), .val (.int p2), .val (.int r), .val (.int i)] [])) t
    refine XS.iload X0.here hx rfl (hb hby d2_9) rfl ?_
    show Steps p.tables e below (T0.setTop (mkF m 11 #[.val (.ref a), .val (.int p1), .val (.int p2), .val (.int r), .val (.int i)] [(.int i)])) t
    refine XS.iloadN X0.here hx rfl (hb hby d2_11) rfl ?_
    show Steps p.tables e below (T0.setTop (mkF m 12 #[.val (.ref a), .val (.int p1), .val (.int p2), .val (.int r), .val (.int i)] [(.int p2), (.int i)])) t
    refine XS.icmpNo X0.here hx rfl (hb hby d2_12) rfl (tlt hi).2.1 ?_
    exact kt
  have k4 : ∀ t, Steps p.tables e below (T0.setTop (mkF m 95 #[.val (.ref a), .val (.int p1), .val (.int p2), .val (.int (own_step g p2 r i)), .val (.int i)] [])) t → Steps p.tables e below (T0.setTop (mkF m 5 #[.val (.ref a), .val (.int p1), .val (.int p2), .val (.int r), .val (.int i)] [])) t := by
    intro t kt
    have k5 : ∀ t, Steps p.tables e below (T0.setTop (mkF m 18 #[.val (.ref a), .val (.int p1), .val (.int p2), .val (.int r), .val (.int i)] [(.int i), (.ref a)])) t → Steps p.tables e below (T0.setTop (mkF m 5 #[.val (.ref a), .val (.int p1), .val (.int p2), .val (.int r), .val (.int i)] [])) t := by
      intro t kt
      refine k3 t ?_
      show Steps p.tables e below (T0.setTop (mkF m 15 #[.val (.ref a), .val (.int p1), .val (.int p2), .val (.int r), .val (.int i)] [])) t
      refine XS.aloadN X0.here hx rfl (hb hby d2_15) rfl rfl ?_
      show Steps p.tables e below (T0.setTop (mkF m 16 #[.val (.ref a), .val (.int p1), .val (.int p2), .val (.int r), .val (.int i)] [(.ref a)])) t
      refine XS.iload X0.here hx rfl (hb hby d2_16) rfl ?_
      exact kt
    obtain ⟨cl6, Ar6, q6, S6, M6, H6, G6⟩ := id Av
    have hin6 : ¬ (i < 0 ∨ cl6.slots.size ≤ (i).toNatClampNeg) := inb_of S6 (own_in0 hi0 ht6 hi)
    have hat6 : cl6.slots[(i).toNatClampNeg]? = some (.int (g i)) := Has.at H6 hin6 (hg _ (own_in0 hi0 ht6 hi))
    have k7 : ∀ t, Steps p.tables e below (T0.setTop (mkF m 19 #[.val (.ref a), .val (.int p1), .val (.int p2), .val (.int r), .val (.int i)] [(.int (g i))])) t → Steps p.tables e below (T0.setTop (mkF m 5 #[.val (.ref a), .val (.int p1), .val (.int p2), .val (.int r), .val (.int i)] [])) t := fun t kt => k5 t (X0.baloadBytes hx (j := i) (v := (.int (g i))) (by rw [e0]; exact Ar6.1) (State.isArrayOf_alike hZ.alike Ar6.2.1) Ar6.2.2 hin6 hat6 (g := (mkF m 18 #[.val (.ref a), .val (.int p1), .val (.int p2), .val (.int r), .val (.int i)] [(.int i), (.ref a)])) rfl rfl (hb hby d2_18) t kt)
    have k9 : ∀ t, Steps p.tables e below (T0.setTop (mkF m 21 #[.val (.ref a), .val (.int p1), .val (.int p2), .val (.int r), .val (.int i)] [(.int (10 : Int32)), (.int (g i))])) t → Steps p.tables e below (T0.setTop (mkF m 5 #[.val (.ref a), .val (.int p1), .val (.int p2), .val (.int r), .val (.int i)] [])) t := by
      intro t kt
      refine k7 t ?_
      show Steps p.tables e below (T0.setTop (mkF m 19 #[.val (.ref a), .val (.int p1), .val (.int p2), .val (.int r), .val (.int i)] [(.int (g i))])) t
      refine XS.bipush X0.here hx rfl (hb hby d2_19) ?_
      exact kt
    by_cases hc21_8 : (g i) = (10 : Int32)
    · have k11 : ∀ t, Steps p.tables e below (T0.setTop (mkF m 29 #[.val (.ref a), .val (.int p1), .val (.int p2), .val (.int r), .val (.int i)] [(.int p2), (.int (i + (1 : Int32)))])) t → Steps p.tables e below (T0.setTop (mkF m 5 #[.val (.ref a), .val (.int p1), .val (.int p2), .val (.int r), .val (.int i)] [])) t := by
        intro t kt
        refine k9 t ?_
        show Steps p.tables e below (T0.setTop (mkF m 21 #[.val (.ref a), .val (.int p1), .val (.int p2), .val (.int r), .val (.int i)] [(.int (10 : Int32)), (.int (g i))])) t
        refine XS.icmpNo X0.here hx rfl (hb hby d2_21) rfl (teq hc21_8).2 ?_
        show Steps p.tables e below (T0.setTop (mkF m 24 #[.val (.ref a), .val (.int p1), .val (.int p2), .val (.int r), .val (.int i)] [])) t
        refine XS.iload X0.here hx rfl (hb hby d2_24) rfl ?_
        show Steps p.tables e below (T0.setTop (mkF m 26 #[.val (.ref a), .val (.int p1), .val (.int p2), .val (.int r), .val (.int i)] [(.int i)])) t
        refine XS.iconst X0.here hx rfl (hb hby d2_26) ?_
        show Steps p.tables e below (T0.setTop (mkF m 27 #[.val (.ref a), .val (.int p1), .val (.int p2), .val (.int r), .val (.int i)] [(.int (1 : Int32)), (.int i)])) t
        refine XS.iadd X0.here hx rfl (hb hby d2_27) rfl ?_
        show Steps p.tables e below (T0.setTop (mkF m 28 #[.val (.ref a), .val (.int p1), .val (.int p2), .val (.int r), .val (.int i)] [(.int (i + (1 : Int32)))])) t
        refine XS.iloadN X0.here hx rfl (hb hby d2_28) rfl ?_
        exact kt
      by_cases hc29_10 : (i + (1 : Int32)) < p2
      · have k12 : ∀ t, Steps p.tables e below (T0.setTop (mkF m 37 #[.val (.ref a), .val (.int p1), .val (.int p2), .val (.int r), .val (.int i)] [(.int (i + (1 : Int32))), (.ref a)])) t → Steps p.tables e below (T0.setTop (mkF m 5 #[.val (.ref a), .val (.int p1), .val (.int p2), .val (.int r), .val (.int i)] [])) t := by
          intro t kt
          refine k11 t ?_
          show Steps p.tables e below (T0.setTop (mkF m 29 #[.val (.ref a), .val (.int p1), .val (.int p2), .val (.int r), .val (.int i)] [(.int p2), (.int (i + (1 : Int32)))])) t
          refine XS.icmpNo X0.here hx rfl (hb hby d2_29) rfl (tlt hc29_10).2.1 ?_
          show Steps p.tables e below (T0.setTop (mkF m 32 #[.val (.ref a), .val (.int p1), .val (.int p2), .val (.int r), .val (.int i)] [])) t
          refine XS.aloadN X0.here hx rfl (hb hby d2_32) rfl rfl ?_
          show Steps p.tables e below (T0.setTop (mkF m 33 #[.val (.ref a), .val (.int p1), .val (.int p2), .val (.int r), .val (.int i)] [(.ref a)])) t
          refine XS.iload X0.here hx rfl (hb hby d2_33) rfl ?_
          show Steps p.tables e below (T0.setTop (mkF m 35 #[.val (.ref a), .val (.int p1), .val (.int p2), .val (.int r), .val (.int i)] [(.int i), (.ref a)])) t
          refine XS.iconst X0.here hx rfl (hb hby d2_35) ?_
          show Steps p.tables e below (T0.setTop (mkF m 36 #[.val (.ref a), .val (.int p1), .val (.int p2), .val (.int r), .val (.int i)] [(.int (1 : Int32)), (.int i), (.ref a)])) t
          refine XS.iadd X0.here hx rfl (hb hby d2_36) rfl ?_
          exact kt
        obtain ⟨cl13, Ar13, q13, S13, M13, H13, G13⟩ := id Av
        have hin13 : ¬ ((i + (1 : Int32)) < 0 ∨ cl13.slots.size ≤ ((i + (1 : Int32))).toNatClampNeg) := inb_of S13 (own_in1 hi0 ht6 hi hc29_10)
        have hat13 : cl13.slots[((i + (1 : Int32))).toNatClampNeg]? = some (.int (g (i + (1 : Int32)))) := Has.at H13 hin13 (hg _ (own_in1 hi0 ht6 hi hc29_10))
        have k14 : ∀ t, Steps p.tables e below (T0.setTop (mkF m 38 #[.val (.ref a), .val (.int p1), .val (.int p2), .val (.int r), .val (.int i)] [(.int (g (i + (1 : Int32))))])) t → Steps p.tables e below (T0.setTop (mkF m 5 #[.val (.ref a), .val (.int p1), .val (.int p2), .val (.int r), .val (.int i)] [])) t := fun t kt => k12 t (X0.baloadBytes hx (j := (i + (1 : Int32))) (v := (.int (g (i + (1 : Int32))))) (by rw [e0]; exact Ar13.1) (State.isArrayOf_alike hZ.alike Ar13.2.1) Ar13.2.2 hin13 hat13 (g := (mkF m 37 #[.val (.ref a), .val (.int p1), .val (.int p2), .val (.int r), .val (.int i)] [(.int (i + (1 : Int32))), (.ref a)])) rfl rfl (hb hby d2_37) t kt)
        have k16 : ∀ t, Steps p.tables e below (T0.setTop (mkF m 40 #[.val (.ref a), .val (.int p1), .val (.int p2), .val (.int r), .val (.int i)] [(.int (10 : Int32)), (.int (g (i + (1 : Int32))))])) t → Steps p.tables e below (T0.setTop (mkF m 5 #[.val (.ref a), .val (.int p1), .val (.int p2), .val (.int r), .val (.int i)] [])) t := by
          intro t kt
          refine k14 t ?_
          show Steps p.tables e below (T0.setTop (mkF m 38 #[.val (.ref a), .val (.int p1), .val (.int p2), .val (.int r), .val (.int i)] [(.int (g (i + (1 : Int32))))])) t
          refine XS.bipush X0.here hx rfl (hb hby d2_38) ?_
          exact kt
        by_cases hc40_15 : (g (i + (1 : Int32))) = (10 : Int32)
        · have k17 : ∀ t, Steps p.tables e below (T0.setTop (mkF m 95 #[.val (.ref a), .val (.int p1), .val (.int p2), .val (.int (i + (2 : Int32))), .val (.int i)] [])) t → Steps p.tables e below (T0.setTop (mkF m 5 #[.val (.ref a), .val (.int p1), .val (.int p2), .val (.int r), .val (.int i)] [])) t := by
            intro t kt
            refine k16 t ?_
            show Steps p.tables e below (T0.setTop (mkF m 40 #[.val (.ref a), .val (.int p1), .val (.int p2), .val (.int r), .val (.int i)] [(.int (10 : Int32)), (.int (g (i + (1 : Int32))))])) t
            refine XS.icmpNo X0.here hx rfl (hb hby d2_40) rfl (teq hc40_15).2 ?_
            show Steps p.tables e below (T0.setTop (mkF m 43 #[.val (.ref a), .val (.int p1), .val (.int p2), .val (.int r), .val (.int i)] [])) t
            refine XS.iload X0.here hx rfl (hb hby d2_43) rfl ?_
            show Steps p.tables e below (T0.setTop (mkF m 45 #[.val (.ref a), .val (.int p1), .val (.int p2), .val (.int r), .val (.int i)] [(.int i)])) t
            refine XS.iconst X0.here hx rfl (hb hby d2_45) ?_
            show Steps p.tables e below (T0.setTop (mkF m 46 #[.val (.ref a), .val (.int p1), .val (.int p2), .val (.int r), .val (.int i)] [(.int (2 : Int32)), (.int i)])) t
            refine XS.iadd X0.here hx rfl (hb hby d2_46) rfl ?_
            show Steps p.tables e below (T0.setTop (mkF m 47 #[.val (.ref a), .val (.int p1), .val (.int p2), .val (.int r), .val (.int i)] [(.int (i + (2 : Int32)))])) t
            refine XS.istoreN X0.here hx rfl (hb hby d2_47) rfl (l' := #[.val (.ref a), .val (.int p1), .val (.int p2), .val (.int (i + (2 : Int32))), .val (.int i)]) rfl ?_
            show Steps p.tables e below (T0.setTop (mkF m 48 #[.val (.ref a), .val (.int p1), .val (.int p2), .val (.int (i + (2 : Int32))), .val (.int i)] [])) t
            refine XS.goto X0.here hx rfl (pc0 := 48) (pc' := 95) rfl (hb hby d2_48) (by decide) (by decide) ?_
            exact kt
          rw [show ((own_step g p2 r i)) = (i + (2 : Int32)) from by first | exact if_pos hc21_8 | exact if_neg hc21_8 | exact if_pos hc29_10 | exact if_neg hc29_10 | exact if_pos hc40_15 | exact if_neg hc40_15 | simp [hc21_8, hc29_10, hc40_15, own_step]] at kt
          exact k17 t kt
        · have k18 : ∀ t, Steps p.tables e below (T0.setTop (mkF m 54 #[.val (.ref a), .val (.int p1), .val (.int p2), .val (.int r), .val (.int i)] [(.int i), (.ref a)])) t → Steps p.tables e below (T0.setTop (mkF m 5 #[.val (.ref a), .val (.int p1), .val (.int p2), .val (.int r), .val (.int i)] [])) t := by
            intro t kt
            refine k16 t ?_
            show Steps p.tables e below (T0.setTop (mkF m 40 #[.val (.ref a), .val (.int p1), .val (.int p2), .val (.int r), .val (.int i)] [(.int (10 : Int32)), (.int (g (i + (1 : Int32))))])) t
            refine XS.icmpYes X0.here hx rfl (pc0 := 40) (pc' := 51) rfl (hb hby d2_40) rfl (feq hc40_15).2 (by decide) (by decide) ?_
            show Steps p.tables e below (T0.setTop (mkF m 51 #[.val (.ref a), .val (.int p1), .val (.int p2), .val (.int r), .val (.int i)] [])) t
            refine XS.aloadN X0.here hx rfl (hb hby d2_51) rfl rfl ?_
            show Steps p.tables e below (T0.setTop (mkF m 52 #[.val (.ref a), .val (.int p1), .val (.int p2), .val (.int r), .val (.int i)] [(.ref a)])) t
            refine XS.iload X0.here hx rfl (hb hby d2_52) rfl ?_
            exact kt
          obtain ⟨cl19, Ar19, q19, S19, M19, H19, G19⟩ := id Av
          have hin19 : ¬ (i < 0 ∨ cl19.slots.size ≤ (i).toNatClampNeg) := inb_of S19 (own_in0 hi0 ht6 hi)
          have hat19 : cl19.slots[(i).toNatClampNeg]? = some (.int (g i)) := Has.at H19 hin19 (hg _ (own_in0 hi0 ht6 hi))
          have k20 : ∀ t, Steps p.tables e below (T0.setTop (mkF m 55 #[.val (.ref a), .val (.int p1), .val (.int p2), .val (.int r), .val (.int i)] [(.int (g i))])) t → Steps p.tables e below (T0.setTop (mkF m 5 #[.val (.ref a), .val (.int p1), .val (.int p2), .val (.int r), .val (.int i)] [])) t := fun t kt => k18 t (X0.baloadBytes hx (j := i) (v := (.int (g i))) (by rw [e0]; exact Ar19.1) (State.isArrayOf_alike hZ.alike Ar19.2.1) Ar19.2.2 hin19 hat19 (g := (mkF m 54 #[.val (.ref a), .val (.int p1), .val (.int p2), .val (.int r), .val (.int i)] [(.int i), (.ref a)])) rfl rfl (hb hby d2_54) t kt)
          have k23 : ∀ t, Steps p.tables e below (T0.setTop (mkF m 65 #[.val (.ref a), .val (.int p1), .val (.int p2), .val (.int r), .val (.int i)] [(.int p2), (.int (i + (2 : Int32)))])) t → Steps p.tables e below (T0.setTop (mkF m 5 #[.val (.ref a), .val (.int p1), .val (.int p2), .val (.int r), .val (.int i)] [])) t := by
            intro t kt
            refine k20 t ?_
            show Steps p.tables e below (T0.setTop (mkF m 55 #[.val (.ref a), .val (.int p1), .val (.int p2), .val (.int r), .val (.int i)] [(.int (g i))])) t
            refine XS.bipush X0.here hx rfl (hb hby d2_55) ?_
            show Steps p.tables e below (T0.setTop (mkF m 57 #[.val (.ref a), .val (.int p1), .val (.int p2), .val (.int r), .val (.int i)] [(.int (10 : Int32)), (.int (g i))])) t
            refine XS.icmpNo X0.here hx rfl (hb hby d2_57) rfl (teq hc21_8).2 ?_
            show Steps p.tables e below (T0.setTop (mkF m 60 #[.val (.ref a), .val (.int p1), .val (.int p2), .val (.int r), .val (.int i)] [])) t
            refine XS.iload X0.here hx rfl (hb hby d2_60) rfl ?_
            show Steps p.tables e below (T0.setTop (mkF m 62 #[.val (.ref a), .val (.int p1), .val (.int p2), .val (.int r), .val (.int i)] [(.int i)])) t
            refine XS.iconst X0.here hx rfl (hb hby d2_62) ?_
            show Steps p.tables e below (T0.setTop (mkF m 63 #[.val (.ref a), .val (.int p1), .val (.int p2), .val (.int r), .val (.int i)] [(.int (2 : Int32)), (.int i)])) t
            refine XS.iadd X0.here hx rfl (hb hby d2_63) rfl ?_
            show Steps p.tables e below (T0.setTop (mkF m 64 #[.val (.ref a), .val (.int p1), .val (.int p2), .val (.int r), .val (.int i)] [(.int (i + (2 : Int32)))])) t
            refine XS.iloadN X0.here hx rfl (hb hby d2_64) rfl ?_
            exact kt
          by_cases hc65_22 : (i + (2 : Int32)) < p2
          · have k24 : ∀ t, Steps p.tables e below (T0.setTop (mkF m 73 #[.val (.ref a), .val (.int p1), .val (.int p2), .val (.int r), .val (.int i)] [(.int (i + (1 : Int32))), (.ref a)])) t → Steps p.tables e below (T0.setTop (mkF m 5 #[.val (.ref a), .val (.int p1), .val (.int p2), .val (.int r), .val (.int i)] [])) t := by
              intro t kt
              refine k23 t ?_
              show Steps p.tables e below (T0.setTop (mkF m 65 #[.val (.ref a), .val (.int p1), .val (.int p2), .val (.int r), .val (.int i)] [(.int p2), (.int (i + (2 : Int32)))])) t
              refine XS.icmpNo X0.here hx rfl (hb hby d2_65) rfl (tlt hc65_22).2.1 ?_
              show Steps p.tables e below (T0.setTop (mkF m 68 #[.val (.ref a), .val (.int p1), .val (.int p2), .val (.int r), .val (.int i)] [])) t
              refine XS.aloadN X0.here hx rfl (hb hby d2_68) rfl rfl ?_
              show Steps p.tables e below (T0.setTop (mkF m 69 #[.val (.ref a), .val (.int p1), .val (.int p2), .val (.int r), .val (.int i)] [(.ref a)])) t
              refine XS.iload X0.here hx rfl (hb hby d2_69) rfl ?_
              show Steps p.tables e below (T0.setTop (mkF m 71 #[.val (.ref a), .val (.int p1), .val (.int p2), .val (.int r), .val (.int i)] [(.int i), (.ref a)])) t
              refine XS.iconst X0.here hx rfl (hb hby d2_71) ?_
              show Steps p.tables e below (T0.setTop (mkF m 72 #[.val (.ref a), .val (.int p1), .val (.int p2), .val (.int r), .val (.int i)] [(.int (1 : Int32)), (.int i), (.ref a)])) t
              refine XS.iadd X0.here hx rfl (hb hby d2_72) rfl ?_
              exact kt
            obtain ⟨cl25, Ar25, q25, S25, M25, H25, G25⟩ := id Av
            have hin25 : ¬ ((i + (1 : Int32)) < 0 ∨ cl25.slots.size ≤ ((i + (1 : Int32))).toNatClampNeg) := inb_of S25 (own_in1 hi0 ht6 hi hc29_10)
            have hat25 : cl25.slots[((i + (1 : Int32))).toNatClampNeg]? = some (.int (g (i + (1 : Int32)))) := Has.at H25 hin25 (hg _ (own_in1 hi0 ht6 hi hc29_10))
            have k26 : ∀ t, Steps p.tables e below (T0.setTop (mkF m 74 #[.val (.ref a), .val (.int p1), .val (.int p2), .val (.int r), .val (.int i)] [(.int (g (i + (1 : Int32))))])) t → Steps p.tables e below (T0.setTop (mkF m 5 #[.val (.ref a), .val (.int p1), .val (.int p2), .val (.int r), .val (.int i)] [])) t := fun t kt => k24 t (X0.baloadBytes hx (j := (i + (1 : Int32))) (v := (.int (g (i + (1 : Int32))))) (by rw [e0]; exact Ar25.1) (State.isArrayOf_alike hZ.alike Ar25.2.1) Ar25.2.2 hin25 hat25 (g := (mkF m 73 #[.val (.ref a), .val (.int p1), .val (.int p2), .val (.int r), .val (.int i)] [(.int (i + (1 : Int32))), (.ref a)])) rfl rfl (hb hby d2_73) t kt)
            have k28 : ∀ t, Steps p.tables e below (T0.setTop (mkF m 76 #[.val (.ref a), .val (.int p1), .val (.int p2), .val (.int r), .val (.int i)] [(.int (13 : Int32)), (.int (g (i + (1 : Int32))))])) t → Steps p.tables e below (T0.setTop (mkF m 5 #[.val (.ref a), .val (.int p1), .val (.int p2), .val (.int r), .val (.int i)] [])) t := by
              intro t kt
              refine k26 t ?_
              show Steps p.tables e below (T0.setTop (mkF m 74 #[.val (.ref a), .val (.int p1), .val (.int p2), .val (.int r), .val (.int i)] [(.int (g (i + (1 : Int32))))])) t
              refine XS.bipush X0.here hx rfl (hb hby d2_74) ?_
              exact kt
            by_cases hc76_27 : (g (i + (1 : Int32))) = (13 : Int32)
            · have k29 : ∀ t, Steps p.tables e below (T0.setTop (mkF m 84 #[.val (.ref a), .val (.int p1), .val (.int p2), .val (.int r), .val (.int i)] [(.int (i + (2 : Int32))), (.ref a)])) t → Steps p.tables e below (T0.setTop (mkF m 5 #[.val (.ref a), .val (.int p1), .val (.int p2), .val (.int r), .val (.int i)] [])) t := by
                intro t kt
                refine k28 t ?_
                show Steps p.tables e below (T0.setTop (mkF m 76 #[.val (.ref a), .val (.int p1), .val (.int p2), .val (.int r), .val (.int i)] [(.int (13 : Int32)), (.int (g (i + (1 : Int32))))])) t
                refine XS.icmpNo X0.here hx rfl (hb hby d2_76) rfl (teq hc76_27).2 ?_
                show Steps p.tables e below (T0.setTop (mkF m 79 #[.val (.ref a), .val (.int p1), .val (.int p2), .val (.int r), .val (.int i)] [])) t
                refine XS.aloadN X0.here hx rfl (hb hby d2_79) rfl rfl ?_
                show Steps p.tables e below (T0.setTop (mkF m 80 #[.val (.ref a), .val (.int p1), .val (.int p2), .val (.int r), .val (.int i)] [(.ref a)])) t
                refine XS.iload X0.here hx rfl (hb hby d2_80) rfl ?_
                show Steps p.tables e below (T0.setTop (mkF m 82 #[.val (.ref a), .val (.int p1), .val (.int p2), .val (.int r), .val (.int i)] [(.int i), (.ref a)])) t
                refine XS.iconst X0.here hx rfl (hb hby d2_82) ?_
                show Steps p.tables e below (T0.setTop (mkF m 83 #[.val (.ref a), .val (.int p1), .val (.int p2), .val (.int r), .val (.int i)] [(.int (2 : Int32)), (.int i), (.ref a)])) t
                refine XS.iadd X0.here hx rfl (hb hby d2_83) rfl ?_
                exact kt
              obtain ⟨cl30, Ar30, q30, S30, M30, H30, G30⟩ := id Av
              have hin30 : ¬ ((i + (2 : Int32)) < 0 ∨ cl30.slots.size ≤ ((i + (2 : Int32))).toNatClampNeg) := inb_of S30 (own_in2 hi0 ht6 hi hc65_22).2
              have hat30 : cl30.slots[((i + (2 : Int32))).toNatClampNeg]? = some (.int (g (i + (2 : Int32)))) := Has.at H30 hin30 (hg _ (own_in2 hi0 ht6 hi hc65_22).2)
              have k31 : ∀ t, Steps p.tables e below (T0.setTop (mkF m 85 #[.val (.ref a), .val (.int p1), .val (.int p2), .val (.int r), .val (.int i)] [(.int (g (i + (2 : Int32))))])) t → Steps p.tables e below (T0.setTop (mkF m 5 #[.val (.ref a), .val (.int p1), .val (.int p2), .val (.int r), .val (.int i)] [])) t := fun t kt => k29 t (X0.baloadBytes hx (j := (i + (2 : Int32))) (v := (.int (g (i + (2 : Int32))))) (by rw [e0]; exact Ar30.1) (State.isArrayOf_alike hZ.alike Ar30.2.1) Ar30.2.2 hin30 hat30 (g := (mkF m 84 #[.val (.ref a), .val (.int p1), .val (.int p2), .val (.int r), .val (.int i)] [(.int (i + (2 : Int32))), (.ref a)])) rfl rfl (hb hby d2_84) t kt)
              have k33 : ∀ t, Steps p.tables e below (T0.setTop (mkF m 87 #[.val (.ref a), .val (.int p1), .val (.int p2), .val (.int r), .val (.int i)] [(.int (10 : Int32)), (.int (g (i + (2 : Int32))))])) t → Steps p.tables e below (T0.setTop (mkF m 5 #[.val (.ref a), .val (.int p1), .val (.int p2), .val (.int r), .val (.int i)] [])) t := by
                intro t kt
                refine k31 t ?_
                show Steps p.tables e below (T0.setTop (mkF m 85 #[.val (.ref a), .val (.int p1), .val (.int p2), .val (.int r), .val (.int i)] [(.int (g (i + (2 : Int32))))])) t
                refine XS.bipush X0.here hx rfl (hb hby d2_85) ?_
                exact kt
              by_cases hc87_32 : (g (i + (2 : Int32))) = (10 : Int32)
              · have k34 : ∀ t, Steps p.tables e below (T0.setTop (mkF m 95 #[.val (.ref a), .val (.int p1), .val (.int p2), .val (.int (i + (3 : Int32))), .val (.int i)] [])) t → Steps p.tables e below (T0.setTop (mkF m 5 #[.val (.ref a), .val (.int p1), .val (.int p2), .val (.int r), .val (.int i)] [])) t := by
                  intro t kt
                  refine k33 t ?_
                  show Steps p.tables e below (T0.setTop (mkF m 87 #[.val (.ref a), .val (.int p1), .val (.int p2), .val (.int r), .val (.int i)] [(.int (10 : Int32)), (.int (g (i + (2 : Int32))))])) t
                  refine XS.icmpNo X0.here hx rfl (hb hby d2_87) rfl (teq hc87_32).2 ?_
                  show Steps p.tables e below (T0.setTop (mkF m 90 #[.val (.ref a), .val (.int p1), .val (.int p2), .val (.int r), .val (.int i)] [])) t
                  refine XS.iload X0.here hx rfl (hb hby d2_90) rfl ?_
                  show Steps p.tables e below (T0.setTop (mkF m 92 #[.val (.ref a), .val (.int p1), .val (.int p2), .val (.int r), .val (.int i)] [(.int i)])) t
                  refine XS.iconst X0.here hx rfl (hb hby d2_92) ?_
                  show Steps p.tables e below (T0.setTop (mkF m 93 #[.val (.ref a), .val (.int p1), .val (.int p2), .val (.int r), .val (.int i)] [(.int (3 : Int32)), (.int i)])) t
                  refine XS.iadd X0.here hx rfl (hb hby d2_93) rfl ?_
                  show Steps p.tables e below (T0.setTop (mkF m 94 #[.val (.ref a), .val (.int p1), .val (.int p2), .val (.int r), .val (.int i)] [(.int (i + (3 : Int32)))])) t
                  refine XS.istoreN X0.here hx rfl (hb hby d2_94) rfl (l' := #[.val (.ref a), .val (.int p1), .val (.int p2), .val (.int (i + (3 : Int32))), .val (.int i)]) rfl ?_
                  exact kt
                rw [show ((own_step g p2 r i)) = (i + (3 : Int32)) from by first | exact if_pos hc21_8 | exact if_neg hc21_8 | exact if_pos hc29_10 | exact if_neg hc29_10 | exact if_pos hc40_15 | exact if_neg hc40_15 | exact if_pos hc65_22 | exact if_neg hc65_22 | exact if_pos hc76_27 | exact if_neg hc76_27 | exact if_pos hc87_32 | exact if_neg hc87_32 | simp [hc21_8, hc29_10, hc40_15, hc65_22, hc76_27, hc87_32, own_step]] at kt
                exact k34 t kt
              · have k35 : ∀ t, Steps p.tables e below (T0.setTop (mkF m 95 #[.val (.ref a), .val (.int p1), .val (.int p2), .val (.int r), .val (.int i)] [])) t → Steps p.tables e below (T0.setTop (mkF m 5 #[.val (.ref a), .val (.int p1), .val (.int p2), .val (.int r), .val (.int i)] [])) t := by
                  intro t kt
                  refine k33 t ?_
                  show Steps p.tables e below (T0.setTop (mkF m 87 #[.val (.ref a), .val (.int p1), .val (.int p2), .val (.int r), .val (.int i)] [(.int (10 : Int32)), (.int (g (i + (2 : Int32))))])) t
                  refine XS.icmpYes X0.here hx rfl (pc0 := 87) (pc' := 95) rfl (hb hby d2_87) rfl (feq hc87_32).2 (by decide) (by decide) ?_
                  exact kt
                rw [show ((own_step g p2 r i)) = r from by first | exact if_pos hc21_8 | exact if_neg hc21_8 | exact if_pos hc29_10 | exact if_neg hc29_10 | exact if_pos hc40_15 | exact if_neg hc40_15 | exact if_pos hc65_22 | exact if_neg hc65_22 | exact if_pos hc76_27 | exact if_neg hc76_27 | exact if_pos hc87_32 | exact if_neg hc87_32 | simp [hc21_8, hc29_10, hc40_15, hc65_22, hc76_27, hc87_32, own_step]] at kt
                exact k35 t kt
            · have k36 : ∀ t, Steps p.tables e below (T0.setTop (mkF m 95 #[.val (.ref a), .val (.int p1), .val (.int p2), .val (.int r), .val (.int i)] [])) t → Steps p.tables e below (T0.setTop (mkF m 5 #[.val (.ref a), .val (.int p1), .val (.int p2), .val (.int r), .val (.int i)] [])) t := by
                intro t kt
                refine k28 t ?_
                show Steps p.tables e below (T0.setTop (mkF m 76 #[.val (.ref a), .val (.int p1), .val (.int p2), .val (.int r), .val (.int i)] [(.int (13 : Int32)), (.int (g (i + (1 : Int32))))])) t
                refine XS.icmpYes X0.here hx rfl (pc0 := 76) (pc' := 95) rfl (hb hby d2_76) rfl (feq hc76_27).2 (by decide) (by decide) ?_
                exact kt
              rw [show ((own_step g p2 r i)) = r from by first | exact if_pos hc21_8 | exact if_neg hc21_8 | exact if_pos hc29_10 | exact if_neg hc29_10 | exact if_pos hc40_15 | exact if_neg hc40_15 | exact if_pos hc65_22 | exact if_neg hc65_22 | exact if_pos hc76_27 | exact if_neg hc76_27 | simp [hc21_8, hc29_10, hc40_15, hc65_22, hc76_27, own_step]] at kt
              exact k36 t kt
          · have k37 : ∀ t, Steps p.tables e below (T0.setTop (mkF m 95 #[.val (.ref a), .val (.int p1), .val (.int p2), .val (.int r), .val (.int i)] [])) t → Steps p.tables e below (T0.setTop (mkF m 5 #[.val (.ref a), .val (.int p1), .val (.int p2), .val (.int r), .val (.int i)] [])) t := by
              intro t kt
              refine k23 t ?_
              show Steps p.tables e below (T0.setTop (mkF m 65 #[.val (.ref a), .val (.int p1), .val (.int p2), .val (.int r), .val (.int i)] [(.int p2), (.int (i + (2 : Int32)))])) t
              refine XS.icmpYes X0.here hx rfl (pc0 := 65) (pc' := 95) rfl (hb hby d2_65) rfl (flt hc65_22).2.1 (by decide) (by decide) ?_
              exact kt
            rw [show ((own_step g p2 r i)) = r from by first | exact if_pos hc21_8 | exact if_neg hc21_8 | exact if_pos hc29_10 | exact if_neg hc29_10 | exact if_pos hc40_15 | exact if_neg hc40_15 | exact if_pos hc65_22 | exact if_neg hc65_22 | simp [hc21_8, hc29_10, hc40_15, hc65_22, own_step]] at kt
            exact k37 t kt
      · have k38 : ∀ t, Steps p.tables e below (T0.setTop (mkF m 54 #[.val (.ref a), .val (.int p1), .val (.int p2), .val (.int r), .val (.int i)] [(.int i), (.ref a)])) t → Steps p.tables e below (T0.setTop (mkF m 5 #[.val (.ref a), .val (.int p1), .val (.int p2), .val (.int r), .val (.int i)] [])) t := by
          intro t kt
          refine k11 t ?_
          show Steps p.tables e below (T0.setTop (mkF m 29 #[.val (.ref a), .val (.int p1), .val (.int p2), .val (.int r), .val (.int i)] [(.int p2), (.int (i + (1 : Int32)))])) t
          refine XS.icmpYes X0.here hx rfl (pc0 := 29) (pc' := 51) rfl (hb hby d2_29) rfl (flt hc29_10).2.1 (by decide) (by decide) ?_
          show Steps p.tables e below (T0.setTop (mkF m 51 #[.val (.ref a), .val (.int p1), .val (.int p2), .val (.int r), .val (.int i)] [])) t
          refine XS.aloadN X0.here hx rfl (hb hby d2_51) rfl rfl ?_
          show Steps p.tables e below (T0.setTop (mkF m 52 #[.val (.ref a), .val (.int p1), .val (.int p2), .val (.int r), .val (.int i)] [(.ref a)])) t
          refine XS.iload X0.here hx rfl (hb hby d2_52) rfl ?_
          exact kt
        obtain ⟨cl39, Ar39, q39, S39, M39, H39, G39⟩ := id Av
        have hin39 : ¬ (i < 0 ∨ cl39.slots.size ≤ (i).toNatClampNeg) := inb_of S39 (own_in0 hi0 ht6 hi)
        have hat39 : cl39.slots[(i).toNatClampNeg]? = some (.int (g i)) := Has.at H39 hin39 (hg _ (own_in0 hi0 ht6 hi))
        have k40 : ∀ t, Steps p.tables e below (T0.setTop (mkF m 55 #[.val (.ref a), .val (.int p1), .val (.int p2), .val (.int r), .val (.int i)] [(.int (g i))])) t → Steps p.tables e below (T0.setTop (mkF m 5 #[.val (.ref a), .val (.int p1), .val (.int p2), .val (.int r), .val (.int i)] [])) t := fun t kt => k38 t (X0.baloadBytes hx (j := i) (v := (.int (g i))) (by rw [e0]; exact Ar39.1) (State.isArrayOf_alike hZ.alike Ar39.2.1) Ar39.2.2 hin39 hat39 (g := (mkF m 54 #[.val (.ref a), .val (.int p1), .val (.int p2), .val (.int r), .val (.int i)] [(.int i), (.ref a)])) rfl rfl (hb hby d2_54) t kt)
        have k43 : ∀ t, Steps p.tables e below (T0.setTop (mkF m 65 #[.val (.ref a), .val (.int p1), .val (.int p2), .val (.int r), .val (.int i)] [(.int p2), (.int (i + (2 : Int32)))])) t → Steps p.tables e below (T0.setTop (mkF m 5 #[.val (.ref a), .val (.int p1), .val (.int p2), .val (.int r), .val (.int i)] [])) t := by
          intro t kt
          refine k40 t ?_
          show Steps p.tables e below (T0.setTop (mkF m 55 #[.val (.ref a), .val (.int p1), .val (.int p2), .val (.int r), .val (.int i)] [(.int (g i))])) t
          refine XS.bipush X0.here hx rfl (hb hby d2_55) ?_
          show Steps p.tables e below (T0.setTop (mkF m 57 #[.val (.ref a), .val (.int p1), .val (.int p2), .val (.int r), .val (.int i)] [(.int (10 : Int32)), (.int (g i))])) t
          refine XS.icmpNo X0.here hx rfl (hb hby d2_57) rfl (teq hc21_8).2 ?_
          show Steps p.tables e below (T0.setTop (mkF m 60 #[.val (.ref a), .val (.int p1), .val (.int p2), .val (.int r), .val (.int i)] [])) t
          refine XS.iload X0.here hx rfl (hb hby d2_60) rfl ?_
          show Steps p.tables e below (T0.setTop (mkF m 62 #[.val (.ref a), .val (.int p1), .val (.int p2), .val (.int r), .val (.int i)] [(.int i)])) t
          refine XS.iconst X0.here hx rfl (hb hby d2_62) ?_
          show Steps p.tables e below (T0.setTop (mkF m 63 #[.val (.ref a), .val (.int p1), .val (.int p2), .val (.int r), .val (.int i)] [(.int (2 : Int32)), (.int i)])) t
          refine XS.iadd X0.here hx rfl (hb hby d2_63) rfl ?_
          show Steps p.tables e below (T0.setTop (mkF m 64 #[.val (.ref a), .val (.int p1), .val (.int p2), .val (.int r), .val (.int i)] [(.int (i + (2 : Int32)))])) t
          refine XS.iloadN X0.here hx rfl (hb hby d2_64) rfl ?_
          exact kt
        by_cases hc65_42 : (i + (2 : Int32)) < p2
        · have k44 : ∀ t, Steps p.tables e below (T0.setTop (mkF m 73 #[.val (.ref a), .val (.int p1), .val (.int p2), .val (.int r), .val (.int i)] [(.int (i + (1 : Int32))), (.ref a)])) t → Steps p.tables e below (T0.setTop (mkF m 5 #[.val (.ref a), .val (.int p1), .val (.int p2), .val (.int r), .val (.int i)] [])) t := by
            intro t kt
            refine k43 t ?_
            show Steps p.tables e below (T0.setTop (mkF m 65 #[.val (.ref a), .val (.int p1), .val (.int p2), .val (.int r), .val (.int i)] [(.int p2), (.int (i + (2 : Int32)))])) t
            refine XS.icmpNo X0.here hx rfl (hb hby d2_65) rfl (tlt hc65_42).2.1 ?_
            show Steps p.tables e below (T0.setTop (mkF m 68 #[.val (.ref a), .val (.int p1), .val (.int p2), .val (.int r), .val (.int i)] [])) t
            refine XS.aloadN X0.here hx rfl (hb hby d2_68) rfl rfl ?_
            show Steps p.tables e below (T0.setTop (mkF m 69 #[.val (.ref a), .val (.int p1), .val (.int p2), .val (.int r), .val (.int i)] [(.ref a)])) t
            refine XS.iload X0.here hx rfl (hb hby d2_69) rfl ?_
            show Steps p.tables e below (T0.setTop (mkF m 71 #[.val (.ref a), .val (.int p1), .val (.int p2), .val (.int r), .val (.int i)] [(.int i), (.ref a)])) t
            refine XS.iconst X0.here hx rfl (hb hby d2_71) ?_
            show Steps p.tables e below (T0.setTop (mkF m 72 #[.val (.ref a), .val (.int p1), .val (.int p2), .val (.int r), .val (.int i)] [(.int (1 : Int32)), (.int i), (.ref a)])) t
            refine XS.iadd X0.here hx rfl (hb hby d2_72) rfl ?_
            exact kt
          obtain ⟨cl45, Ar45, q45, S45, M45, H45, G45⟩ := id Av
          have hin45 : ¬ ((i + (1 : Int32)) < 0 ∨ cl45.slots.size ≤ ((i + (1 : Int32))).toNatClampNeg) := inb_of S45 (own_in2 hi0 ht6 hi hc65_42).1
          have hat45 : cl45.slots[((i + (1 : Int32))).toNatClampNeg]? = some (.int (g (i + (1 : Int32)))) := Has.at H45 hin45 (hg _ (own_in2 hi0 ht6 hi hc65_42).1)
          have k46 : ∀ t, Steps p.tables e below (T0.setTop (mkF m 74 #[.val (.ref a), .val (.int p1), .val (.int p2), .val (.int r), .val (.int i)] [(.int (g (i + (1 : Int32))))])) t → Steps p.tables e below (T0.setTop (mkF m 5 #[.val (.ref a), .val (.int p1), .val (.int p2), .val (.int r), .val (.int i)] [])) t := fun t kt => k44 t (X0.baloadBytes hx (j := (i + (1 : Int32))) (v := (.int (g (i + (1 : Int32))))) (by rw [e0]; exact Ar45.1) (State.isArrayOf_alike hZ.alike Ar45.2.1) Ar45.2.2 hin45 hat45 (g := (mkF m 73 #[.val (.ref a), .val (.int p1), .val (.int p2), .val (.int r), .val (.int i)] [(.int (i + (1 : Int32))), (.ref a)])) rfl rfl (hb hby d2_73) t kt)
          have k48 : ∀ t, Steps p.tables e below (T0.setTop (mkF m 76 #[.val (.ref a), .val (.int p1), .val (.int p2), .val (.int r), .val (.int i)] [(.int (13 : Int32)), (.int (g (i + (1 : Int32))))])) t → Steps p.tables e below (T0.setTop (mkF m 5 #[.val (.ref a), .val (.int p1), .val (.int p2), .val (.int r), .val (.int i)] [])) t := by
            intro t kt
            refine k46 t ?_
            show Steps p.tables e below (T0.setTop (mkF m 74 #[.val (.ref a), .val (.int p1), .val (.int p2), .val (.int r), .val (.int i)] [(.int (g (i + (1 : Int32))))])) t
            refine XS.bipush X0.here hx rfl (hb hby d2_74) ?_
            exact kt
          by_cases hc76_47 : (g (i + (1 : Int32))) = (13 : Int32)
          · have k49 : ∀ t, Steps p.tables e below (T0.setTop (mkF m 84 #[.val (.ref a), .val (.int p1), .val (.int p2), .val (.int r), .val (.int i)] [(.int (i + (2 : Int32))), (.ref a)])) t → Steps p.tables e below (T0.setTop (mkF m 5 #[.val (.ref a), .val (.int p1), .val (.int p2), .val (.int r), .val (.int i)] [])) t := by
              intro t kt
              refine k48 t ?_
              show Steps p.tables e below (T0.setTop (mkF m 76 #[.val (.ref a), .val (.int p1), .val (.int p2), .val (.int r), .val (.int i)] [(.int (13 : Int32)), (.int (g (i + (1 : Int32))))])) t
              refine XS.icmpNo X0.here hx rfl (hb hby d2_76) rfl (teq hc76_47).2 ?_
              show Steps p.tables e below (T0.setTop (mkF m 79 #[.val (.ref a), .val (.int p1), .val (.int p2), .val (.int r), .val (.int i)] [])) t
              refine XS.aloadN X0.here hx rfl (hb hby d2_79) rfl rfl ?_
              show Steps p.tables e below (T0.setTop (mkF m 80 #[.val (.ref a), .val (.int p1), .val (.int p2), .val (.int r), .val (.int i)] [(.ref a)])) t
              refine XS.iload X0.here hx rfl (hb hby d2_80) rfl ?_
              show Steps p.tables e below (T0.setTop (mkF m 82 #[.val (.ref a), .val (.int p1), .val (.int p2), .val (.int r), .val (.int i)] [(.int i), (.ref a)])) t
              refine XS.iconst X0.here hx rfl (hb hby d2_82) ?_
              show Steps p.tables e below (T0.setTop (mkF m 83 #[.val (.ref a), .val (.int p1), .val (.int p2), .val (.int r), .val (.int i)] [(.int (2 : Int32)), (.int i), (.ref a)])) t
              refine XS.iadd X0.here hx rfl (hb hby d2_83) rfl ?_
              exact kt
            obtain ⟨cl50, Ar50, q50, S50, M50, H50, G50⟩ := id Av
            have hin50 : ¬ ((i + (2 : Int32)) < 0 ∨ cl50.slots.size ≤ ((i + (2 : Int32))).toNatClampNeg) := inb_of S50 (own_in2 hi0 ht6 hi hc65_42).2
            have hat50 : cl50.slots[((i + (2 : Int32))).toNatClampNeg]? = some (.int (g (i + (2 : Int32)))) := Has.at H50 hin50 (hg _ (own_in2 hi0 ht6 hi hc65_42).2)
            have k51 : ∀ t, Steps p.tables e below (T0.setTop (mkF m 85 #[.val (.ref a), .val (.int p1), .val (.int p2), .val (.int r), .val (.int i)] [(.int (g (i + (2 : Int32))))])) t → Steps p.tables e below (T0.setTop (mkF m 5 #[.val (.ref a), .val (.int p1), .val (.int p2), .val (.int r), .val (.int i)] [])) t := fun t kt => k49 t (X0.baloadBytes hx (j := (i + (2 : Int32))) (v := (.int (g (i + (2 : Int32))))) (by rw [e0]; exact Ar50.1) (State.isArrayOf_alike hZ.alike Ar50.2.1) Ar50.2.2 hin50 hat50 (g := (mkF m 84 #[.val (.ref a), .val (.int p1), .val (.int p2), .val (.int r), .val (.int i)] [(.int (i + (2 : Int32))), (.ref a)])) rfl rfl (hb hby d2_84) t kt)
            have k53 : ∀ t, Steps p.tables e below (T0.setTop (mkF m 87 #[.val (.ref a), .val (.int p1), .val (.int p2), .val (.int r), .val (.int i)] [(.int (10 : Int32)), (.int (g (i + (2 : Int32))))])) t → Steps p.tables e below (T0.setTop (mkF m 5 #[.val (.ref a), .val (.int p1), .val (.int p2), .val (.int r), .val (.int i)] [])) t := by
              intro t kt
              refine k51 t ?_
              show Steps p.tables e below (T0.setTop (mkF m 85 #[.val (.ref a), .val (.int p1), .val (.int p2), .val (.int r), .val (.int i)] [(.int (g (i + (2 : Int32))))])) t
              refine XS.bipush X0.here hx rfl (hb hby d2_85) ?_
              exact kt
            by_cases hc87_52 : (g (i + (2 : Int32))) = (10 : Int32)
            · have k54 : ∀ t, Steps p.tables e below (T0.setTop (mkF m 95 #[.val (.ref a), .val (.int p1), .val (.int p2), .val (.int (i + (3 : Int32))), .val (.int i)] [])) t → Steps p.tables e below (T0.setTop (mkF m 5 #[.val (.ref a), .val (.int p1), .val (.int p2), .val (.int r), .val (.int i)] [])) t := by
                intro t kt
                refine k53 t ?_
                show Steps p.tables e below (T0.setTop (mkF m 87 #[.val (.ref a), .val (.int p1), .val (.int p2), .val (.int r), .val (.int i)] [(.int (10 : Int32)), (.int (g (i + (2 : Int32))))])) t
                refine XS.icmpNo X0.here hx rfl (hb hby d2_87) rfl (teq hc87_52).2 ?_
                show Steps p.tables e below (T0.setTop (mkF m 90 #[.val (.ref a), .val (.int p1), .val (.int p2), .val (.int r), .val (.int i)] [])) t
                refine XS.iload X0.here hx rfl (hb hby d2_90) rfl ?_
                show Steps p.tables e below (T0.setTop (mkF m 92 #[.val (.ref a), .val (.int p1), .val (.int p2), .val (.int r), .val (.int i)] [(.int i)])) t
                refine XS.iconst X0.here hx rfl (hb hby d2_92) ?_
                show Steps p.tables e below (T0.setTop (mkF m 93 #[.val (.ref a), .val (.int p1), .val (.int p2), .val (.int r), .val (.int i)] [(.int (3 : Int32)), (.int i)])) t
                refine XS.iadd X0.here hx rfl (hb hby d2_93) rfl ?_
                show Steps p.tables e below (T0.setTop (mkF m 94 #[.val (.ref a), .val (.int p1), .val (.int p2), .val (.int r), .val (.int i)] [(.int (i + (3 : Int32)))])) t
                refine XS.istoreN X0.here hx rfl (hb hby d2_94) rfl (l' := #[.val (.ref a), .val (.int p1), .val (.int p2), .val (.int (i + (3 : Int32))), .val (.int i)]) rfl ?_
                exact kt
              rw [show ((own_step g p2 r i)) = (i + (3 : Int32)) from by first | exact if_pos hc21_8 | exact if_neg hc21_8 | exact if_pos hc29_10 | exact if_neg hc29_10 | exact if_pos hc65_42 | exact if_neg hc65_42 | exact if_pos hc76_47 | exact if_neg hc76_47 | exact if_pos hc87_52 | exact if_neg hc87_52 | simp [hc21_8, hc29_10, hc65_42, hc76_47, hc87_52, own_step]] at kt
              exact k54 t kt
            · have k55 : ∀ t, Steps p.tables e below (T0.setTop (mkF m 95 #[.val (.ref a), .val (.int p1), .val (.int p2), .val (.int r), .val (.int i)] [])) t → Steps p.tables e below (T0.setTop (mkF m 5 #[.val (.ref a), .val (.int p1), .val (.int p2), .val (.int r), .val (.int i)] [])) t := by
                intro t kt
                refine k53 t ?_
                show Steps p.tables e below (T0.setTop (mkF m 87 #[.val (.ref a), .val (.int p1), .val (.int p2), .val (.int r), .val (.int i)] [(.int (10 : Int32)), (.int (g (i + (2 : Int32))))])) t
                refine XS.icmpYes X0.here hx rfl (pc0 := 87) (pc' := 95) rfl (hb hby d2_87) rfl (feq hc87_52).2 (by decide) (by decide) ?_
                exact kt
              rw [show ((own_step g p2 r i)) = r from by first | exact if_pos hc21_8 | exact if_neg hc21_8 | exact if_pos hc29_10 | exact if_neg hc29_10 | exact if_pos hc65_42 | exact if_neg hc65_42 | exact if_pos hc76_47 | exact if_neg hc76_47 | exact if_pos hc87_52 | exact if_neg hc87_52 | simp [hc21_8, hc29_10, hc65_42, hc76_47, hc87_52, own_step]] at kt
              exact k55 t kt
          · have k56 : ∀ t, Steps p.tables e below (T0.setTop (mkF m 95 #[.val (.ref a), .val (.int p1), .val (.int p2), .val (.int r), .val (.int i)] [])) t → Steps p.tables e below (T0.setTop (mkF m 5 #[.val (.ref a), .val (.int p1), .val (.int p2), .val (.int r), .val (.int i)] [])) t := by
              intro t kt
              refine k48 t ?_
              show Steps p.tables e below (T0.setTop (mkF m 76 #[.val (.ref a), .val (.int p1), .val (.int p2), .val (.int r), .val (.int i)] [(.int (13 : Int32)), (.int (g (i + (1 : Int32))))])) t
              refine XS.icmpYes X0.here hx rfl (pc0 := 76) (pc' := 95) rfl (hb hby d2_76) rfl (feq hc76_47).2 (by decide) (by decide) ?_
              exact kt
            rw [show ((own_step g p2 r i)) = r from by first | exact if_pos hc21_8 | exact if_neg hc21_8 | exact if_pos hc29_10 | exact if_neg hc29_10 | exact if_pos hc65_42 | exact if_neg hc65_42 | exact if_pos hc76_47 | exact if_neg hc76_47 | simp [hc21_8, hc29_10, hc65_42, hc76_47, own_step]] at kt
            exact k56 t kt
        · have k57 : ∀ t, Steps p.tables e below (T0.setTop (mkF m 95 #[.val (.ref a), .val (.int p1), .val (.int p2), .val (.int r), .val (.int i)] [])) t → Steps p.tables e below (T0.setTop (mkF m 5 #[.val (.ref a), .val (.int p1), .val (.int p2), .val (.int r), .val (.int i)] [])) t := by
            intro t kt
            refine k43 t ?_
            show Steps p.tables e below (T0.setTop (mkF m 65 #[.val (.ref a), .val (.int p1), .val (.int p2), .val (.int r), .val (.int i)] [(.int p2), (.int (i + (2 : Int32)))])) t
            refine XS.icmpYes X0.here hx rfl (pc0 := 65) (pc' := 95) rfl (hb hby d2_65) rfl (flt hc65_42).2.1 (by decide) (by decide) ?_
            exact kt
          rw [show ((own_step g p2 r i)) = r from by first | exact if_pos hc21_8 | exact if_neg hc21_8 | exact if_pos hc29_10 | exact if_neg hc29_10 | exact if_pos hc65_42 | exact if_neg hc65_42 | simp [hc21_8, hc29_10, hc65_42, own_step]] at kt
          exact k57 t kt
    · have k58 : ∀ t, Steps p.tables e below (T0.setTop (mkF m 54 #[.val (.ref a), .val (.int p1), .val (.int p2), .val (.int r), .val (.int i)] [(.int i), (.ref a)])) t → Steps p.tables e below (T0.setTop (mkF m 5 #[.val (.ref a), .val (.int p1), .val (.int p2), .val (.int r), .val (.int i)] [])) t := by
        intro t kt
        refine k9 t ?_
        show Steps p.tables e below (T0.setTop (mkF m 21 #[.val (.ref a), .val (.int p1), .val (.int p2), .val (.int r), .val (.int i)] [(.int (10 : Int32)), (.int (g i))])) t
        refine XS.icmpYes X0.here hx rfl (pc0 := 21) (pc' := 51) rfl (hb hby d2_21) rfl (feq hc21_8).2 (by decide) (by decide) ?_
        show Steps p.tables e below (T0.setTop (mkF m 51 #[.val (.ref a), .val (.int p1), .val (.int p2), .val (.int r), .val (.int i)] [])) t
        refine XS.aloadN X0.here hx rfl (hb hby d2_51) rfl rfl ?_
        show Steps p.tables e below (T0.setTop (mkF m 52 #[.val (.ref a), .val (.int p1), .val (.int p2), .val (.int r), .val (.int i)] [(.ref a)])) t
        refine XS.iload X0.here hx rfl (hb hby d2_52) rfl ?_
        exact kt
      obtain ⟨cl59, Ar59, q59, S59, M59, H59, G59⟩ := id Av
      have hin59 : ¬ (i < 0 ∨ cl59.slots.size ≤ (i).toNatClampNeg) := inb_of S59 (own_in0 hi0 ht6 hi)
      have hat59 : cl59.slots[(i).toNatClampNeg]? = some (.int (g i)) := Has.at H59 hin59 (hg _ (own_in0 hi0 ht6 hi))
      have k60 : ∀ t, Steps p.tables e below (T0.setTop (mkF m 55 #[.val (.ref a), .val (.int p1), .val (.int p2), .val (.int r), .val (.int i)] [(.int (g i))])) t → Steps p.tables e below (T0.setTop (mkF m 5 #[.val (.ref a), .val (.int p1), .val (.int p2), .val (.int r), .val (.int i)] [])) t := fun t kt => k58 t (X0.baloadBytes hx (j := i) (v := (.int (g i))) (by rw [e0]; exact Ar59.1) (State.isArrayOf_alike hZ.alike Ar59.2.1) Ar59.2.2 hin59 hat59 (g := (mkF m 54 #[.val (.ref a), .val (.int p1), .val (.int p2), .val (.int r), .val (.int i)] [(.int i), (.ref a)])) rfl rfl (hb hby d2_54) t kt)
      have k62 : ∀ t, Steps p.tables e below (T0.setTop (mkF m 95 #[.val (.ref a), .val (.int p1), .val (.int p2), .val (.int r), .val (.int i)] [])) t → Steps p.tables e below (T0.setTop (mkF m 5 #[.val (.ref a), .val (.int p1), .val (.int p2), .val (.int r), .val (.int i)] [])) t := by
        intro t kt
        refine k60 t ?_
        show Steps p.tables e below (T0.setTop (mkF m 55 #[.val (.ref a), .val (.int p1), .val (.int p2), .val (.int r), .val (.int i)] [(.int (g i))])) t
        refine XS.bipush X0.here hx rfl (hb hby d2_55) ?_
        show Steps p.tables e below (T0.setTop (mkF m 57 #[.val (.ref a), .val (.int p1), .val (.int p2), .val (.int r), .val (.int i)] [(.int (10 : Int32)), (.int (g i))])) t
        refine XS.icmpYes X0.here hx rfl (pc0 := 57) (pc' := 95) rfl (hb hby d2_57) rfl (feq hc21_8).2 (by decide) (by decide) ?_
        exact kt
      rw [show ((own_step g p2 r i)) = r from by first | exact if_pos hc21_8 | exact if_neg hc21_8 | simp [hc21_8, own_step]] at kt
      exact k62 t kt
  have k63 : ∀ t, Steps p.tables e below (T0.setTop (mkF m 5 #[.val (.ref a), .val (.int p1), .val (.int p2), .val (.int (own_step g p2 r i)), .val (.int (i + (1 : Int32)))] [])) t → Steps p.tables e below (T0.setTop (mkF m 5 #[.val (.ref a), .val (.int p1), .val (.int p2), .val (.int r), .val (.int i)] [])) t := by
    intro t kt
    refine k4 t ?_
    show Steps p.tables e below (T0.setTop (mkF m 95 #[.val (.ref a), .val (.int p1), .val (.int p2), .val (.int (own_step g p2 r i)), .val (.int i)] [])) t
    refine XS.iinc X0.here hx rfl (hb hby d2_95) rfl (l' := #[.val (.ref a), .val (.int p1), .val (.int p2), .val (.int (own_step g p2 r i)), .val (.int (i + (1 : Int32)))]) rfl ?_
    show Steps p.tables e below (T0.setTop (mkF m 98 #[.val (.ref a), .val (.int p1), .val (.int p2), .val (.int (own_step g p2 r i)), .val (.int (i + (1 : Int32)))] [])) t
    refine XS.goto X0.here hx rfl (pc0 := 98) (pc' := 5) rfl (hb hby d2_98) (by decide) (by decide) ?_
    exact kt
  exact k63
set_option maxRecDepth 65536 in
set_option maxHeartbeats 40000000 in
theorem own_out1 {p : Program} {l : Launch} {e : Env} {R : Room} {s : State} {m : MethodId} {args : Array Value} {below : List Frame} {meth : Method} {c : Code} {T0 : State} {locs : List Loc} {cells slots : Nat} {Z : State} {a0 : Array Value} {h0 : Heap} {a : Addr} {p1 p2 r i : Int32}
    (X0 : Stand p l e R s m args below meth c T0 locs cells slots) (hx : p.tables.exec = Jvm.exec) (hZ : Z.Warmed39 s.vm) (hw : ∀ d ∈ tables_1, d.before a0 Z = true) (hby : c.code = prog_32_method_2_code) (hml : c.maxLocals = 5) (hown : s.vm.findClass "com/example/ruleward/ruleward/http/HttpHead" = some m.cls) (e0 : T0.heap = h0) (hr : ¬ (r < (0 : Int32))) :
    ∀ t, Steps p.tables e below (T0.setTop (mkF m 101 #[.val (.ref a), .val (.int p1), .val (.int p2), .val (.int r), .val (.int i)] [])) t → Steps p.tables e below (T0.setTop (mkF m 5 #[.val (.ref a), .val (.int p1), .val (.int p2), .val (.int r), .val (.int i)] [])) t := by
  have k0 : ∀ t, Steps p.tables e below (T0.setTop (mkF m 5 #[.val (.ref a), .val (.int p1), .val (.int p2), .val (.int r), .val (.int i)] [])) t → Steps p.tables e below (T0.setTop (mkF m 5 #[.val (.ref a), .val (.int p1), .val (.int p2), .val (.int r), .val (.int i)] [])) t := fun t k => k
  have k2 : ∀ t, Steps p.tables e below (T0.setTop (mkF m 101 #[.val (.ref a), .val (.int p1), .val (.int p2), .val (.int r), .val (.int i)] [])) t → Steps p.tables e below (T0.setTop (mkF m 5 #[.val (.ref a), .val (.int p1), .val (.int p2), .val (.int r), .val (.int i)] [])) t := by
    intro t kt
    refine k0 t ?_
    show Steps p.tables e below (T0.setTop (mkF m 5 #[.val (.ref a), .val (.int p1), .val (.int p2), .val (.int r), .val (.int i)] [])) t
    refine XS.iloadN X0.here hx rfl (hb hby d2_5) rfl ?_
    show Steps p.tables e below (T0.setTop (mkF m 6 #[.val (.ref a), .val (.int p1), .val (.int p2), .val (.int r), .val (.int i)] [(.int r)])) t
    refine XS.ifYes X0.here hx rfl (pc0 := 6) (pc' := 101) rfl (hb hby d2_6) rfl ((if0 _ _).trans (flt hr).2.1) (by decide) (by decide) ?_
    exact kt
  exact k2
set_option maxRecDepth 65536 in
set_option maxHeartbeats 40000000 in
theorem own_out2 {p : Program} {l : Launch} {e : Env} {R : Room} {s : State} {m : MethodId} {args : Array Value} {below : List Frame} {meth : Method} {c : Code} {T0 : State} {locs : List Loc} {cells slots : Nat} {Z : State} {a0 : Array Value} {h0 : Heap} {a : Addr} {p1 p2 r i : Int32}
    (X0 : Stand p l e R s m args below meth c T0 locs cells slots) (hx : p.tables.exec = Jvm.exec) (hZ : Z.Warmed39 s.vm) (hw : ∀ d ∈ tables_1, d.before a0 Z = true) (hby : c.code = prog_32_method_2_code) (hml : c.maxLocals = 5) (hown : s.vm.findClass "com/example/ruleward/ruleward/http/HttpHead" = some m.cls) (e0 : T0.heap = h0) (hr : r < (0 : Int32)) (hi : ¬ (i < p2)) :
    ∀ t, Steps p.tables e below (T0.setTop (mkF m 101 #[.val (.ref a), .val (.int p1), .val (.int p2), .val (.int r), .val (.int i)] [])) t → Steps p.tables e below (T0.setTop (mkF m 5 #[.val (.ref a), .val (.int p1), .val (.int p2), .val (.int r), .val (.int i)] [])) t := by
  have k0 : ∀ t, Steps p.tables e below (T0.setTop (mkF m 5 #[.val (.ref a), .val (.int p1), .val (.int p2), .val (.int r), .val (.int i)] [])) t → Steps p.tables e below (T0.setTop (mkF m 5 #[.val (.ref a), .val (.int p1), .val (.int p2), .val (.int r), .val (.int i)] [])) t := fun t k => k
  have k3 : ∀ t, Steps p.tables e below (T0.setTop (mkF m 101 #[.val (.ref a), .val (.int p1), .val (.int p2), .val (.int r), .val (.int i)] [])) t → Steps p.tables e below (T0.setTop (mkF m 5 #[.val (.ref a), .val (.int p1), .val (.int p2), .val (.int r), .val (.int i)] [])) t := by
    intro t kt
    refine k0 t ?_
    show Steps p.tables e below (T0.setTop (mkF m 5 #[.val (.ref a), .val (.int p1), .val (.int p2), .val (.int r), .val (.int i)] [])) t
    refine XS.iloadN X0.here hx rfl (hb hby d2_5) rfl ?_
    show Steps p.tables e below (T0.setTop (mkF m 6 #[.val (.ref a), .val (.int p1), .val (.int p2), .val (.int r), .val (.int i)] [(.int r)])) t
    refine XS.ifNo X0.here hx rfl (hb hby d2_6) rfl ((if0 _ _).trans (tlt hr).2.1) ?_
    show Steps p.tables e below (T0.setTop (mkF m 9 #[.val (.ref a), .val (.int p1), .val (.int p2), .val (.int r), .val (.int i)] [])) t
    refine XS.iload X0.here hx rfl (hb hby d2_9) rfl ?_
    show Steps p.tables e below (T0.setTop (mkF m 11 #[.val (.ref a), .val (.int p1), .val (.int p2), .val (.int r), .val (.int i)] [(.int i)])) t
    refine XS.iloadN X0.here hx rfl (hb hby d2_11) rfl ?_
    show Steps p.tables e below (T0.setTop (mkF m 12 #[.val (.ref a), .val (.int p1), .val (.int p2), .val (.int r), .val (.int i)] [(.int p2), (.int i)])) t
    refine XS.icmpYes X0.here hx rfl (pc0 := 12) (pc' := 101) rfl (hb hby d2_12) rfl (flt hi).2.1 (by decide) (by decide) ?_
    exact kt
  exact k3
set_option maxRecDepth 65536 in
set_option maxHeartbeats 40000000 in
theorem own_run {p : Program} {l : Launch} {e : Env} {R : Room} {s : State} {m : MethodId} {args : Array Value} {below : List Frame} {meth : Method} {c : Code} {T0 : State} {locs : List Loc} {cells slots : Nat} {Z : State} {a0 : Array Value} {h0 : Heap} {a : Addr} {kc : ClassId} {vs : List Value} {g : Int32 → Int32} {p1 p2 : Int32}
    (X0 : Stand p l e R s m args below meth c T0 locs cells slots) (hx : p.tables.exec = Jvm.exec) (hZ : Z.Warmed39 s.vm) (hw : ∀ d ∈ tables_1, d.before a0 Z = true) (hby : c.code = prog_32_method_2_code) (hml : c.maxLocals = 5) (hown : s.vm.findClass "com/example/ruleward/ruleward/http/HttpHead" = some m.cls) (e0 : T0.heap = h0) (Av : Arv Z h0 a kc .byte (6 : Int32) vs (.int (0 : Int32))) (hg : ∀ j : Int32, ¬ j < 0 ∧ j < (6 : Int32) → vs.getD j.toNatClampNeg (.int (0 : Int32)) = .int (g j)) (ht6 : p2.toInt ≤ 6) :
    ∀ (n : Nat) (r i : Int32), 0 ≤ i.toInt → i.toInt ≤ 6 → p2.toInt - i.toInt ≤ (n : Int) → ∃ i', ∀ t, Steps p.tables e below (T0.setTop (mkF m 101 #[.val (.ref a), .val (.int p1), .val (.int p2), .val (.int (own_loop g p2 n r i)), .val (.int i')] [])) t → Steps p.tables e below (T0.setTop (mkF m 5 #[.val (.ref a), .val (.int p1), .val (.int p2), .val (.int r), .val (.int i)] [])) t
  | 0, r, i, hi0, hi6, hn => ⟨i, by
      by_cases hr : r < (0 : Int32)
      · exact own_out2 X0 hx hZ hw hby hml hown e0 hr (by rw [Int32.lt_iff_toInt_lt]; omega)
      · exact own_out1 X0 hx hZ hw hby hml hown e0 hr⟩
  | n + 1, r, i, hi0, hi6, hn => by
      unfold own_loop
      by_cases hr : r < (0 : Int32)
      · rw [if_pos hr]
        by_cases hi : i < p2
        · rw [if_pos hi]
          have hi' := hi
          rw [Int32.lt_iff_toInt_lt] at hi'
          have e1 := own_ladd i 1 hi0 (by omega) (by decide) (by decide)
          have q1 : (1 : Int32).toInt = 1 := rfl
          obtain ⟨i', hk⟩ := own_run X0 hx hZ hw hby hml hown e0 Av hg ht6 n (own_step g p2 r i) (i + (1 : Int32)) (by omega) (by omega) (by omega)
          exact ⟨i', fun t kt => own_turn X0 hx hZ hw hby hml hown e0 Av hg hi0 ht6 hr hi t (hk t kt)⟩
        · rw [if_neg hi]
          exact ⟨i, own_out2 X0 hx hZ hw hby hml hown e0 hr hi⟩
      · rw [if_neg hr]
        exact ⟨i, own_out1 X0 hx hZ hw hby hml hown e0 hr⟩
theorem own_pn1 : plainName "com/example/ruleward/ruleward/http/HttpHead" = true := by first | (simp [plainName, overriddenIn]; done) | decide +kernel
theorem rmE_ef (m : MethodId) (x0 : Addr) (x1 : Int32) (x2 : Int32) : entryFrame m #[(.ref x0), (.int x1), (.int x2)] 5 = mkF m 0 #[.val (.ref x0), .val (.int x1), .val (.int x2), .unset, .unset] [] := by first | (simp [entryFrame, mkF, argsToLocals, Value.category]; done) | rfl
def QE (Z : State) (a : Addr) (p1 : Int32) (p2 : Int32) (kc : ClassId) (vs : List Value) (g : Int32 → Int32) (h0 : Heap) (n0 : Nat) (v : Option Value) (h : Heap) (L : List Loc) : Prop := v = some (.int (own_loop g p2 (6 - p1.toInt.toNat) (-1 : Int32) p1)) ∧ Fr n0 L ∧ h = h0
set_option maxRecDepth 65536 in
set_option maxHeartbeats 40000000 in
theorem rmE (l : Launch) (Z : State) (a0 : Array Value) (hw : ∀ d ∈ tables_1, d.before a0 Z = true) (ws : List Jvm.Cond) (a : Addr) (p1 : Int32) (p2 : Int32) (kc : ClassId) (vs : List Value) (g : Int32 → Int32) (h0 : Heap) (n0 : Nat) (Z0 : n0 ≤ h0.size) (Av : Arv Z h0 a kc .byte (6 : Int32) vs (.int (0 : Int32))) (hg : ∀ j : Int32, ¬ j < 0 ∧ j < (6 : Int32) → vs.getD j.toNatClampNeg (.int (0 : Int32)) = .int (g j)) (hf0 : 0 ≤ p1.toInt) (hf6 : p1.toInt ≤ 6) (ht6 : p2.toInt ≤ 6) :
    MetFree l (⟨"com/example/ruleward/ruleward/http/HttpHead", "end", "([BII)I"⟩ : MethodName) (head1 (Jvm.Cond.code (⟨"com/example/ruleward/ruleward/http/HttpHead", "end", "([BII)I"⟩ : MethodName) prog_32_method_2_code 5 (some .int) :: ws) ({ frames := 0, cells := 0, slots := 0, locals := 0 } : Room)) (fun aA' U => aA' = #[(.ref a), (.int p1), (.int p2)] ∧ Z.Warmed39 U.vm ∧ U.heap = h0) (fun _ _ _ _ _ => True) (fun _ U oO' U' => ∃ vV' L, oO' = .returned vV' ∧ QE Z a p1 p2 kc vs g h0 n0 vV' U'.heap L ∧ FrameEnd U oO' U' L ({ frames := 0, cells := 0, slots := 0, locals := 0 } : Room).cells ({ frames := 0, cells := 0, slots := 0, locals := 0 } : Room).slots) := by
  refine MetFree.of_bodySF (plainFor_of_name own_pn1) hisR ?_
  intro p e s m args below meth c s₁ Bd hml0 hP hK
  obtain ⟨rfl, hZ, hh⟩ := hP
  have hx := Bd.exec
  have hby := Bd.bytes
  have hml : c.maxLocals = 5 := hml0
  have hown : s.vm.findClass "com/example/ruleward/ruleward/http/HttpHead" = some m.cls := findClass_of_methodNamed Bd.named
  have hnm := (name_of_methodNamed Bd.named Bd.method).1
  have X0 : Stand p l e ({ frames := 0, cells := 0, slots := 0, locals := 0 } : Room) s m #[(.ref a), (.int p1), (.int p2)] below meth c s₁ [] 0 0 := Stand.of_body Bd
  have e0 : s₁.heap = h0 := by rw [← hh, Bd.state]; rfl
  have N0 := Fr.nil n0
  have K0 : Keep h0 h0 [] := Keep.refl _ _
  have k0 : ∀ t, Steps p.tables e below (s₁.setTop (mkF m 0 #[.val (.ref a), .val (.int p1), .val (.int p2), .unset, .unset] [])) t → Steps p.tables e below (s₁.setTop (entryFrame m #[(.ref a), (.int p1), (.int p2)] 5)) t := fun t k => castTop (rmE_ef m (a) (p1) (p2)) k
  have k1 : ∀ t, Steps p.tables e below (s₁.setTop (mkF m 5 #[.val (.ref a), .val (.int p1), .val (.int p2), .val (.int (-1 : Int32)), .val (.int p1)] [])) t → Steps p.tables e below (s₁.setTop (entryFrame m #[(.ref a), (.int p1), (.int p2)] 5)) t := by
    intro t kt
    refine k0 t ?_
    show Steps p.tables e below (s₁.setTop (mkF m 0 #[.val (.ref a), .val (.int p1), .val (.int p2), .unset, .unset] [])) t
    refine XS.iconst X0.here hx rfl (hb hby d2_0) ?_
    show Steps p.tables e below (s₁.setTop (mkF m 1 #[.val (.ref a), .val (.int p1), .val (.int p2), .unset, .unset] [(.int (-1 : Int32))])) t
    refine XS.istoreN X0.here hx rfl (hb hby d2_1) rfl (l' := #[.val (.ref a), .val (.int p1), .val (.int p2), .val (.int (-1 : Int32)), .unset]) rfl ?_
    show Steps p.tables e below (s₁.setTop (mkF m 2 #[.val (.ref a), .val (.int p1), .val (.int p2), .val (.int (-1 : Int32)), .unset] [])) t
    refine XS.iloadN X0.here hx rfl (hb hby d2_2) rfl ?_
    show Steps p.tables e below (s₁.setTop (mkF m 3 #[.val (.ref a), .val (.int p1), .val (.int p2), .val (.int (-1 : Int32)), .unset] [(.int p1)])) t
    refine XS.istore X0.here hx rfl (hb hby d2_3) rfl (l' := #[.val (.ref a), .val (.int p1), .val (.int p2), .val (.int (-1 : Int32)), .val (.int p1)]) rfl ?_
    exact kt
  obtain ⟨i2, kr2⟩ := own_run X0 hx hZ hw hby hml hown e0 Av hg ht6 (6 - p1.toInt.toNat) (-1 : Int32) p1 hf0 hf6 (by omega)
  have k3 : ∀ t, Steps p.tables e below (s₁.setTop (mkF m 101 #[.val (.ref a), .val (.int p1), .val (.int p2), .val (.int (own_loop g p2 (6 - p1.toInt.toNat) (-1 : Int32) p1)), .val (.int i2)] [])) t → Steps p.tables e below (s₁.setTop (entryFrame m #[(.ref a), (.int p1), (.int p2)] 5)) t := fun t kt => k1 t (kr2 t kt)
  have k4 : ∀ t, Steps p.tables e below (s₁.setTop (mkF m 102 #[.val (.ref a), .val (.int p1), .val (.int p2), .val (.int (own_loop g p2 (6 - p1.toInt.toNat) (-1 : Int32) p1)), .val (.int i2)] [(.int (own_loop g p2 (6 - p1.toInt.toNat) (-1 : Int32) p1))])) t → Steps p.tables e below (s₁.setTop (entryFrame m #[(.ref a), (.int p1), (.int p2)] 5)) t := by
    intro t kt
    refine k3 t ?_
    show Steps p.tables e below (s₁.setTop (mkF m 101 #[.val (.ref a), .val (.int p1), .val (.int p2), .val (.int (own_loop g p2 (6 - p1.toInt.toNat) (-1 : Int32) p1)), .val (.int i2)] [])) t
    refine XS.iloadN X0.here hx rfl (hb hby d2_101) rfl ?_
    exact kt
  obtain ⟨fs, hr, hrun, hended, hW, hsame⟩ := X0.leave (v := some (.int (own_loop g p2 (6 - p1.toInt.toNat) (-1 : Int32) p1))) (fun h => by rw [Bd.returns] at h; cases h)
  refine ⟨_, _, k4 _ ?_, hrun, hended, _, _, rfl, ?_, ⟨_, rfl⟩, hW, hsame.mono (by decide) (by decide)⟩
  · show Steps p.tables e below (s₁.setTop (mkF m 102 #[.val (.ref a), .val (.int p1), .val (.int p2), .val (.int (own_loop g p2 (6 - p1.toInt.toNat) (-1 : Int32) p1)), .val (.int i2)] [(.int (own_loop g p2 (6 - p1.toInt.toNat) (-1 : Int32) p1))])) _
    exact retI X0 hx Bd.returns (hb hby d2_102) hr
  · show QE Z a p1 p2 kc vs g h0 n0 _ s₁.heap _
    rw [e0]
    exact ⟨rfl, N0, rfl⟩
theorem rm0_ef (m : MethodId) (x0 : Int32) (x1 : Int64) (x2 : Int32) (x3 : Int32) : entryFrame m #[(.int x0), (.long x1), (.int x2), (.int x3)] maxLocals = mkF m 0 #[.val (.int x0), .val (.long x1), .second, .val (.int x2), .val (.int x3), .unset, .unset, .unset, .unset, .unset] [] := by first | (simp [entryFrame, mkF, argsToLocals, Value.category, maxLocals]; done) | rfl
def Q0 (Z : State) (p1 : Int32) (q1 : Int64) (p2 : Int32) (p3 : Int32) (h0 : Heap) (n0 : Nat) (v : Option Value) (h : Heap) (L : List Loc) : Prop := v = some (.int 1) ∧ Fr n0 L
theorem own_pd0 : parseMethodDescriptor "(IJI)B" = some ⟨[.int, .long, .int], some .byte⟩ := by decide +kernel
theorem own_pd1 : parseMethodDescriptor "([BII)I" = some ⟨[(.array .byte), .int, .int], some .int⟩ := by decide +kernel
theorem own_pd2 : parseMethodDescriptor "(I[BIII)I" = some ⟨[.int, (.array .byte), .int, .int, .int], some .int⟩ := by decide +kernel
set_option maxRecDepth 65536 in
set_option maxHeartbeats 40000000 in
theorem rm0 (l : Launch) (Z : State) (a0 : Array Value) (hw : ∀ d ∈ tables_1, d.before a0 Z = true) (ws : List Jvm.Cond) (p1 : Int32) (q1 : Int64) (p2 : Int32) (p3 : Int32) (h0 : Heap) (n0 : Nat) (Z0 : n0 ≤ h0.size) :
    MetFree l x (head1 (Jvm.Cond.code x code maxLocals ret :: ws) room_1) (fun aA' U => aA' = #[(.int p1), (.long q1), (.int p2), (.int p3)] ∧ Z.Warmed39 U.vm ∧ U.heap = h0) (fun _ _ _ _ _ => True) (fun _ U oO' U' => ∃ vV' L, oO' = .returned vV' ∧ Q0 Z p1 q1 p2 p3 h0 n0 vV' U'.heap L ∧ FrameEnd U oO' U' L 16 128) := by
  refine MetFree.of_bodySF (plainFor_of_name own_pn0) hisR ?_
  intro p e s m args below meth c s₁ Bd hml0 hP hK
  obtain ⟨rfl, hZ, hh⟩ := hP
  have hx := Bd.exec
  have hby := Bd.bytes
  have hml : c.maxLocals = 10 := hml0
  have hown : s.vm.findClass "com/example/ruleward/ruleward/http/HttpHeadEndPinLaw" = some m.cls := findClass_of_methodNamed Bd.named
  have hnm := (name_of_methodNamed Bd.named Bd.method).1
  have X0 : Stand p l e room_1 s m #[(.int p1), (.long q1), (.int p2), (.int p3)] below meth c s₁ [] 0 0 := Stand.of_body Bd
  have e0 : s₁.heap = h0 := by rw [← hh, Bd.state]; rfl
  have N0 := Fr.nil n0
  have K0 : Keep h0 h0 [] := Keep.refl _ _
  have k0 : ∀ t, Steps p.tables e below (s₁.setTop (mkF m 0 #[.val (.int p1), .val (.long q1), .second, .val (.int p2), .val (.int p3), .unset, .unset, .unset, .unset, .unset] [])) t → Steps p.tables e below (s₁.setTop (entryFrame m #[(.int p1), (.long q1), (.int p2), (.int p3)] maxLocals)) t := fun t k => castTop (rm0_ef m (p1) (q1) (p2) (p3)) k
  have k1 : ∀ t, Steps p.tables e below (s₁.setTop (mkF m 2 #[.val (.int p1), .val (.long q1), .second, .val (.int p2), .val (.int p3), .unset, .unset, .unset, .unset, .unset] [(.int (6 : Int32))])) t → Steps p.tables e below (s₁.setTop (entryFrame m #[(.int p1), (.long q1), (.int p2), (.int p3)] maxLocals)) t := by
    intro t kt
    refine k0 t ?_
    show Steps p.tables e below (s₁.setTop (mkF m 0 #[.val (.int p1), .val (.long q1), .second, .val (.int p2), .val (.int p3), .unset, .unset, .unset, .unset, .unset] [])) t
    refine XS.bipush X0.here hx rfl (hb hby at_0) ?_
    exact kt
  obtain ⟨T2, h2, c2, X2, e2, E2, A2, st2⟩ := newP X0 hx hZ (hw _ (List.mem_of_getElem? (i := 0) rfl)) e0 (g := (mkF m 2 #[.val (.int p1), .val (.long q1), .second, .val (.int p2), .val (.int p3), .unset, .unset, .unset, .unset, .unset] [(.int (6 : Int32))])) rfl (hb hby at_2) rfl (by decide) (cap := 6) (by decide) (by decide) (by decide) (by decide)
  obtain ⟨b2, g2⟩ : ∃ z, z = h0.size := ⟨_, rfl⟩
  rw [← g2] at A2 st2
  have g_b2 : n0 ≤ b2 := Nat.le_trans Z0 (Nat.le_of_eq g2.symm)
  have sz_b2 : h0.size ≤ b2 := Nat.le_trans K0.1 (Nat.le_of_eq g2.symm)
  have Z2 : n0 ≤ h2.size := Nat.le_trans Z0 E2.1
  have K2 : Keep h0 h2 [] := K0.ext E2
  have F3 : Arv Z h2 b2 c2 .byte (6 : Int32) [(.int (0 : Int32)), (.int (0 : Int32)), (.int (0 : Int32)), (.int (0 : Int32)), (.int (0 : Int32)), (.int (0 : Int32))] (.int (0 : Int32)) := (Arv.new A2 (by decide)).pad (pad_rep [] (.int (0 : Int32)) 6)
  have k4 : ∀ t, Steps p.tables e below (T2.setTop (mkF m 4 #[.val (.int p1), .val (.long q1), .second, .val (.int p2), .val (.int p3), .unset, .unset, .unset, .unset, .unset] [(.ref b2)])) t → Steps p.tables e below (s₁.setTop (entryFrame m #[(.int p1), (.long q1), (.int p2), (.int p3)] maxLocals)) t := fun t kt => k1 t (st2 t kt)
  have k5 : ∀ t, Steps p.tables e below (T2.setTop (mkF m 12 #[.val (.int p1), .val (.long q1), .second, .val (.int p2), .val (.int p3), .val (.ref b2), .unset, .unset, .unset, .unset] [(.int (0 : Int32)), (.long q1), (.int p1), (.int (0 : Int32)), (.ref b2)])) t → Steps p.tables e below (s₁.setTop (entryFrame m #[(.int p1), (.long q1), (.int p2), (.int p3)] maxLocals)) t := by
    intro t kt
    refine k4 t ?_
    show Steps p.tables e below (T2.setTop (mkF m 4 #[.val (.int p1), .val (.long q1), .second, .val (.int p2), .val (.int p3), .unset, .unset, .unset, .unset, .unset] [(.ref b2)])) t
    refine XS.astore X2.here hx rfl (hb hby at_4) rfl rfl (l' := #[.val (.int p1), .val (.long q1), .second, .val (.int p2), .val (.int p3), .val (.ref b2), .unset, .unset, .unset, .unset]) rfl ?_
    show Steps p.tables e below (T2.setTop (mkF m 6 #[.val (.int p1), .val (.long q1), .second, .val (.int p2), .val (.int p3), .val (.ref b2), .unset, .unset, .unset, .unset] [])) t
    refine XS.aload X2.here hx rfl (hb hby at_6) rfl rfl ?_
    show Steps p.tables e below (T2.setTop (mkF m 8 #[.val (.int p1), .val (.long q1), .second, .val (.int p2), .val (.int p3), .val (.ref b2), .unset, .unset, .unset, .unset] [(.ref b2)])) t
    refine XS.iconst X2.here hx rfl (hb hby at_8) ?_
    show Steps p.tables e below (T2.setTop (mkF m 9 #[.val (.int p1), .val (.long q1), .second, .val (.int p2), .val (.int p3), .val (.ref b2), .unset, .unset, .unset, .unset] [(.int (0 : Int32)), (.ref b2)])) t
    refine XS.iloadN X2.here hx rfl (hb hby at_9) rfl ?_
    show Steps p.tables e below (T2.setTop (mkF m 10 #[.val (.int p1), .val (.long q1), .second, .val (.int p2), .val (.int p3), .val (.ref b2), .unset, .unset, .unset, .unset] [(.int p1), (.int (0 : Int32)), (.ref b2)])) t
    refine XS.lloadN X2.here hx rfl (hb hby at_10) rfl ?_
    show Steps p.tables e below (T2.setTop (mkF m 11 #[.val (.int p1), .val (.long q1), .second, .val (.int p2), .val (.int p3), .val (.ref b2), .unset, .unset, .unset, .unset] [(.long q1), (.int p1), (.int (0 : Int32)), (.ref b2)])) t
    refine XS.iconst X2.here hx rfl (hb hby at_11) ?_
    exact kt
  obtain ⟨_, _, ⟨T6, L6, k6c, n6⟩, -, X6, ⟨Lc6, hQ6, l6, y6, z6⟩, st6⟩ := Jvm.LawKit.callS X2 hx (y := (⟨"com/example/ruleward/ruleward/http/HttpHeadEndPinLaw", "pick", "(IJI)B"⟩ : MethodName)) hown (mvT hZ (hw _ (List.mem_of_getElem? (i := 1) rfl))) (mvT hZ (hw _ (List.mem_of_getElem? (i := 2) rfl))) (mvT hZ (hw _ (List.mem_of_getElem? (i := 3) rfl))) (mvT hZ (hw _ (List.mem_of_getElem? (i := 4) rfl))) (by decide) (backOf (W := 2) (rmP l Z a0 hw [] p1 q1 (0 : Int32) h2 n0 Z2) hZ (hw _ (List.mem_of_getElem? (i := 4) rfl)) (hw _ (List.mem_of_getElem? (i := 3) rfl)) (by decide) (by decide)) (g := (mkF m 12 #[.val (.int p1), .val (.long q1), .second, .val (.int p2), .val (.int p3), .val (.ref b2), .unset, .unset, .unset, .unset] [(.int (0 : Int32)), (.long q1), (.int p1), (.int (0 : Int32)), (.ref b2)])) rfl (by rw [hml]; rfl) (argsL := [(.int p1), (.long q1), (.int (0 : Int32))]) (rest := [(.int (0 : Int32)), (.ref b2)]) (lenOf own_pd0 rfl) rfl (by show 2 * 0 + _ ≤ _; exact Nat.le_of_eq rfl) (hb hby at_12) (fun _ _ => ⟨rfl, e2, (by decide : 1 + 0 ≤ _), (by decide : 6 + 0 ≤ _)⟩)
  dsimp only [Pt.U, Pt.locs, Pt.cells, Pt.slots] at X6 l6 y6 z6 st6 hQ6
  subst l6 y6 z6
  obtain ⟨z6, rfl, N6q, e6⟩ := hQ6
  have N6 := Fr.app N0 N6q
  have k7 : ∀ t, Steps p.tables e below (T6.setTop (mkF m 15 #[.val (.int p1), .val (.long q1), .second, .val (.int p2), .val (.int p3), .val (.ref b2), .unset, .unset, .unset, .unset] [(.int z6), (.int (0 : Int32)), (.ref b2)])) t → Steps p.tables e below (s₁.setTop (entryFrame m #[(.int p1), (.long q1), (.int p2), (.int p3)] maxLocals)) t := fun t kt => k5 t (st6 t kt)
  obtain ⟨cl8, Ar8, q8, S8, M8, H8, G8⟩ := id F3
  have hin8 : ¬ ((0 : Int32) < 0 ∨ cl8.slots.size ≤ ((0 : Int32)).toNatClampNeg) := inb_of S8 ⟨by decide, by decide⟩
  obtain ⟨T8, h8, X8, e8, W8, st8⟩ := stB X6 hx hZ e6 Ar8 (j := (0 : Int32)) hin8 (g := (mkF m 15 #[.val (.int p1), .val (.long q1), .second, .val (.int p2), .val (.int p3), .val (.ref b2), .unset, .unset, .unset, .unset] [(.int z6), (.int (0 : Int32)), (.ref b2)])) rfl rfl (hb hby at_15)
  have F9 : Arv Z h8 b2 c2 .byte (6 : Int32) [(.int (z6.toInt8.toInt32)), (.int (0 : Int32)), (.int (0 : Int32)), (.int (0 : Int32)), (.int (0 : Int32)), (.int (0 : Int32))] (.int (0 : Int32)) := Arv.set Ar8 q8 S8 M8 H8 G8 (fits_nar_byte _) W8 0 rfl (Nat.le_of_ble_eq_true rfl)
  have Z8 : n0 ≤ h8.size := Nat.le_trans Z2 (Keep.of_wr W8).1
  have K8 : Keep h0 h8 [] := K2.wr W8 (Or.inr sz_b2)
  have N8 := Fr.snoc X8 N6 g_b2
  have k11 : ∀ t, Steps p.tables e below (T8.setTop (mkF m 16 #[.val (.int p1), .val (.long q1), .second, .val (.int p2), .val (.int p3), .val (.ref b2), .unset, .unset, .unset, .unset] [])) t → Steps p.tables e below (s₁.setTop (entryFrame m #[(.int p1), (.long q1), (.int p2), (.int p3)] maxLocals)) t := fun t kt => k7 t (st8 t kt)
  have k12 : ∀ t, Steps p.tables e below (T8.setTop (mkF m 22 #[.val (.int p1), .val (.long q1), .second, .val (.int p2), .val (.int p3), .val (.ref b2), .unset, .unset, .unset, .unset] [(.int (1 : Int32)), (.long q1), (.int p1), (.int (1 : Int32)), (.ref b2)])) t → Steps p.tables e below (s₁.setTop (entryFrame m #[(.int p1), (.long q1), (.int p2), (.int p3)] maxLocals)) t := by
    intro t kt
    refine k11 t ?_
    show Steps p.tables e below (T8.setTop (mkF m 16 #[.val (.int p1), .val (.long q1), .second, .val (.int p2), .val (.int p3), .val (.ref b2), .unset, .unset, .unset, .unset] [])) t
    refine XS.aload X8.here hx rfl (hb hby at_16) rfl rfl ?_
    show Steps p.tables e below (T8.setTop (mkF m 18 #[.val (.int p1), .val (.long q1), .second, .val (.int p2), .val (.int p3), .val (.ref b2), .unset, .unset, .unset, .unset] [(.ref b2)])) t
    refine XS.iconst X8.here hx rfl (hb hby at_18) ?_
    show Steps p.tables e below (T8.setTop (mkF m 19 #[.val (.int p1), .val (.long q1), .second, .val (.int p2), .val (.int p3), .val (.ref b2), .unset, .unset, .unset, .unset] [(.int (1 : Int32)), (.ref b2)])) t
    refine XS.iloadN X8.here hx rfl (hb hby at_19) rfl ?_
    show Steps p.tables e below (T8.setTop (mkF m 20 #[.val (.int p1), .val (.long q1), .second, .val (.int p2), .val (.int p3), .val (.ref b2), .unset, .unset, .unset, .unset] [(.int p1), (.int (1 : Int32)), (.ref b2)])) t
    refine XS.lloadN X8.here hx rfl (hb hby at_20) rfl ?_
    show Steps p.tables e below (T8.setTop (mkF m 21 #[.val (.int p1), .val (.long q1), .second, .val (.int p2), .val (.int p3), .val (.ref b2), .unset, .unset, .unset, .unset] [(.long q1), (.int p1), (.int (1 : Int32)), (.ref b2)])) t
    refine XS.iconst X8.here hx rfl (hb hby at_21) ?_
    exact kt
  obtain ⟨_, _, ⟨T13, L13, k13c, n13⟩, -, X13, ⟨Lc13, hQ13, l13, y13, z13⟩, st13⟩ := Jvm.LawKit.callS X8 hx (y := (⟨"com/example/ruleward/ruleward/http/HttpHeadEndPinLaw", "pick", "(IJI)B"⟩ : MethodName)) hown (mvT hZ (hw _ (List.mem_of_getElem? (i := 1) rfl))) (mvT hZ (hw _ (List.mem_of_getElem? (i := 2) rfl))) (mvT hZ (hw _ (List.mem_of_getElem? (i := 3) rfl))) (mvT hZ (hw _ (List.mem_of_getElem? (i := 4) rfl))) (by decide) (backOf (W := 2) (rmP l Z a0 hw [] p1 q1 (1 : Int32) h8 n0 Z8) hZ (hw _ (List.mem_of_getElem? (i := 4) rfl)) (hw _ (List.mem_of_getElem? (i := 3) rfl)) (by decide) (by decide)) (g := (mkF m 22 #[.val (.int p1), .val (.long q1), .second, .val (.int p2), .val (.int p3), .val (.ref b2), .unset, .unset, .unset, .unset] [(.int (1 : Int32)), (.long q1), (.int p1), (.int (1 : Int32)), (.ref b2)])) rfl (by rw [hml]; rfl) (argsL := [(.int p1), (.long q1), (.int (1 : Int32))]) (rest := [(.int (1 : Int32)), (.ref b2)]) (lenOf own_pd0 rfl) rfl (by show 2 * 0 + _ ≤ _; exact Nat.le_of_eq rfl) (hb hby at_22) (fun _ _ => ⟨rfl, e8, (by decide : 1 + 0 ≤ _), (by decide : 6 + 0 ≤ _)⟩)
  dsimp only [Pt.U, Pt.locs, Pt.cells, Pt.slots] at X13 l13 y13 z13 st13 hQ13
  subst l13 y13 z13
  obtain ⟨z13, rfl, N13q, e13⟩ := hQ13
  have N13 := Fr.app N8 N13q
  have k14 : ∀ t, Steps p.tables e below (T13.setTop (mkF m 25 #[.val (.int p1), .val (.long q1), .second, .val (.int p2), .val (.int p3), .val (.ref b2), .unset, .unset, .unset, .unset] [(.int z13), (.int (1 : Int32)), (.ref b2)])) t → Steps p.tables e below (s₁.setTop (entryFrame m #[(.int p1), (.long q1), (.int p2), (.int p3)] maxLocals)) t := fun t kt => k12 t (st13 t kt)
  obtain ⟨cl15, Ar15, q15, S15, M15, H15, G15⟩ := id F9
  have hin15 : ¬ ((1 : Int32) < 0 ∨ cl15.slots.size ≤ ((1 : Int32)).toNatClampNeg) := inb_of S15 ⟨by decide, by decide⟩
  obtain ⟨T15, h15, X15, e15, W15, st15⟩ := stB X13 hx hZ e13 Ar15 (j := (1 : Int32)) hin15 (g := (mkF m 25 #[.val (.int p1), .val (.long q1), .second, .val (.int p2), .val (.int p3), .val (.ref b2), .unset, .unset, .unset, .unset] [(.int z13), (.int (1 : Int32)), (.ref b2)])) rfl rfl (hb hby at_25)
  have F16 : Arv Z h15 b2 c2 .byte (6 : Int32) [(.int (z6.toInt8.toInt32)), (.int (z13.toInt8.toInt32)), (.int (0 : Int32)), (.int (0 : Int32)), (.int (0 : Int32)), (.int (0 : Int32))] (.int (0 : Int32)) := Arv.set Ar15 q15 S15 M15 H15 G15 (fits_nar_byte _) W15 1 rfl (Nat.le_of_ble_eq_true rfl)
  have Z15 : n0 ≤ h15.size := Nat.le_trans Z8 (Keep.of_wr W15).1
  have K15 : Keep h0 h15 [] := K8.wr W15 (Or.inr sz_b2)
  have N15 := Fr.snoc X15 N13 g_b2
  have k18 : ∀ t, Steps p.tables e below (T15.setTop (mkF m 26 #[.val (.int p1), .val (.long q1), .second, .val (.int p2), .val (.int p3), .val (.ref b2), .unset, .unset, .unset, .unset] [])) t → Steps p.tables e below (s₁.setTop (entryFrame m #[(.int p1), (.long q1), (.int p2), (.int p3)] maxLocals)) t := fun t kt => k14 t (st15 t kt)
  have k19 : ∀ t, Steps p.tables e below (T15.setTop (mkF m 32 #[.val (.int p1), .val (.long q1), .second, .val (.int p2), .val (.int p3), .val (.ref b2), .unset, .unset, .unset, .unset] [(.int (2 : Int32)), (.long q1), (.int p1), (.int (2 : Int32)), (.ref b2)])) t → Steps p.tables e below (s₁.setTop (entryFrame m #[(.int p1), (.long q1), (.int p2), (.int p3)] maxLocals)) t := by
    intro t kt
    refine k18 t ?_
    show Steps p.tables e below (T15.setTop (mkF m 26 #[.val (.int p1), .val (.long q1), .second, .val (.int p2), .val (.int p3), .val (.ref b2), .unset, .unset, .unset, .unset] [])) t
    refine XS.aload X15.here hx rfl (hb hby at_26) rfl rfl ?_
    show Steps p.tables e below (T15.setTop (mkF m 28 #[.val (.int p1), .val (.long q1), .second, .val (.int p2), .val (.int p3), .val (.ref b2), .unset, .unset, .unset, .unset] [(.ref b2)])) t
    refine XS.iconst X15.here hx rfl (hb hby at_28) ?_
    show Steps p.tables e below (T15.setTop (mkF m 29 #[.val (.int p1), .val (.long q1), .second, .val (.int p2), .val (.int p3), .val (.ref b2), .unset, .unset, .unset, .unset] [(.int (2 : Int32)), (.ref b2)])) t
    refine XS.iloadN X15.here hx rfl (hb hby at_29) rfl ?_
    show Steps p.tables e below (T15.setTop (mkF m 30 #[.val (.int p1), .val (.long q1), .second, .val (.int p2), .val (.int p3), .val (.ref b2), .unset, .unset, .unset, .unset] [(.int p1), (.int (2 : Int32)), (.ref b2)])) t
    refine XS.lloadN X15.here hx rfl (hb hby at_30) rfl ?_
    show Steps p.tables e below (T15.setTop (mkF m 31 #[.val (.int p1), .val (.long q1), .second, .val (.int p2), .val (.int p3), .val (.ref b2), .unset, .unset, .unset, .unset] [(.long q1), (.int p1), (.int (2 : Int32)), (.ref b2)])) t
    refine XS.iconst X15.here hx rfl (hb hby at_31) ?_
    exact kt
  obtain ⟨_, _, ⟨T20, L20, k20c, n20⟩, -, X20, ⟨Lc20, hQ20, l20, y20, z20⟩, st20⟩ := Jvm.LawKit.callS X15 hx (y := (⟨"com/example/ruleward/ruleward/http/HttpHeadEndPinLaw", "pick", "(IJI)B"⟩ : MethodName)) hown (mvT hZ (hw _ (List.mem_of_getElem? (i := 1) rfl))) (mvT hZ (hw _ (List.mem_of_getElem? (i := 2) rfl))) (mvT hZ (hw _ (List.mem_of_getElem? (i := 3) rfl))) (mvT hZ (hw _ (List.mem_of_getElem? (i := 4) rfl))) (by decide) (backOf (W := 2) (rmP l Z a0 hw [] p1 q1 (2 : Int32) h15 n0 Z15) hZ (hw _ (List.mem_of_getElem? (i := 4) rfl)) (hw _ (List.mem_of_getElem? (i := 3) rfl)) (by decide) (by decide)) (g := (mkF m 32 #[.val (.int p1), .val (.long q1), .second, .val (.int p2), .val (.int p3), .val (.ref b2), .unset, .unset, .unset, .unset] [(.int (2 : Int32)), (.long q1), (.int p1), (.int (2 : Int32)), (.ref b2)])) rfl (by rw [hml]; rfl) (argsL := [(.int p1), (.long q1), (.int (2 : Int32))]) (rest := [(.int (2 : Int32)), (.ref b2)]) (lenOf own_pd0 rfl) rfl (by show 2 * 0 + _ ≤ _; exact Nat.le_of_eq rfl) (hb hby at_32) (fun _ _ => ⟨rfl, e15, (by decide : 1 + 0 ≤ _), (by decide : 6 + 0 ≤ _)⟩)
  dsimp only [Pt.U, Pt.locs, Pt.cells, Pt.slots] at X20 l20 y20 z20 st20 hQ20
  subst l20 y20 z20
  obtain ⟨z20, rfl, N20q, e20⟩ := hQ20
  have N20 := Fr.app N15 N20q
  have k21 : ∀ t, Steps p.tables e below (T20.setTop (mkF m 35 #[.val (.int p1), .val (.long q1), .second, .val (.int p2), .val (.int p3), .val (.ref b2), .unset, .unset, .unset, .unset] [(.int z20), (.int (2 : Int32)), (.ref b2)])) t → Steps p.tables e below (s₁.setTop (entryFrame m #[(.int p1), (.long q1), (.int p2), (.int p3)] maxLocals)) t := fun t kt => k19 t (st20 t kt)
  obtain ⟨cl22, Ar22, q22, S22, M22, H22, G22⟩ := id F16
  have hin22 : ¬ ((2 : Int32) < 0 ∨ cl22.slots.size ≤ ((2 : Int32)).toNatClampNeg) := inb_of S22 ⟨by decide, by decide⟩
  obtain ⟨T22, h22, X22, e22, W22, st22⟩ := stB X20 hx hZ e20 Ar22 (j := (2 : Int32)) hin22 (g := (mkF m 35 #[.val (.int p1), .val (.long q1), .second, .val (.int p2), .val (.int p3), .val (.ref b2), .unset, .unset, .unset, .unset] [(.int z20), (.int (2 : Int32)), (.ref b2)])) rfl rfl (hb hby at_35)
  have F23 : Arv Z h22 b2 c2 .byte (6 : Int32) [(.int (z6.toInt8.toInt32)), (.int (z13.toInt8.toInt32)), (.int (z20.toInt8.toInt32)), (.int (0 : Int32)), (.int (0 : Int32)), (.int (0 : Int32))] (.int (0 : Int32)) := Arv.set Ar22 q22 S22 M22 H22 G22 (fits_nar_byte _) W22 2 rfl (Nat.le_of_ble_eq_true rfl)
  have Z22 : n0 ≤ h22.size := Nat.le_trans Z15 (Keep.of_wr W22).1
  have K22 : Keep h0 h22 [] := K15.wr W22 (Or.inr sz_b2)
  have N22 := Fr.snoc X22 N20 g_b2
  have k25 : ∀ t, Steps p.tables e below (T22.setTop (mkF m 36 #[.val (.int p1), .val (.long q1), .second, .val (.int p2), .val (.int p3), .val (.ref b2), .unset, .unset, .unset, .unset] [])) t → Steps p.tables e below (s₁.setTop (entryFrame m #[(.int p1), (.long q1), (.int p2), (.int p3)] maxLocals)) t := fun t kt => k21 t (st22 t kt)
  have k26 : ∀ t, Steps p.tables e below (T22.setTop (mkF m 42 #[.val (.int p1), .val (.long q1), .second, .val (.int p2), .val (.int p3), .val (.ref b2), .unset, .unset, .unset, .unset] [(.int (3 : Int32)), (.long q1), (.int p1), (.int (3 : Int32)), (.ref b2)])) t → Steps p.tables e below (s₁.setTop (entryFrame m #[(.int p1), (.long q1), (.int p2), (.int p3)] maxLocals)) t := by
    intro t kt
    refine k25 t ?_
    show Steps p.tables e below (T22.setTop (mkF m 36 #[.val (.int p1), .val (.long q1), .second, .val (.int p2), .val (.int p3), .val (.ref b2), .unset, .unset, .unset, .unset] [])) t
    refine XS.aload X22.here hx rfl (hb hby at_36) rfl rfl ?_
    show Steps p.tables e below (T22.setTop (mkF m 38 #[.val (.int p1), .val (.long q1), .second, .val (.int p2), .val (.int p3), .val (.ref b2), .unset, .unset, .unset, .unset] [(.ref b2)])) t
    refine XS.iconst X22.here hx rfl (hb hby at_38) ?_
    show Steps p.tables e below (T22.setTop (mkF m 39 #[.val (.int p1), .val (.long q1), .second, .val (.int p2), .val (.int p3), .val (.ref b2), .unset, .unset, .unset, .unset] [(.int (3 : Int32)), (.ref b2)])) t
    refine XS.iloadN X22.here hx rfl (hb hby at_39) rfl ?_
    show Steps p.tables e below (T22.setTop (mkF m 40 #[.val (.int p1), .val (.long q1), .second, .val (.int p2), .val (.int p3), .val (.ref b2), .unset, .unset, .unset, .unset] [(.int p1), (.int (3 : Int32)), (.ref b2)])) t
    refine XS.lloadN X22.here hx rfl (hb hby at_40) rfl ?_
    show Steps p.tables e below (T22.setTop (mkF m 41 #[.val (.int p1), .val (.long q1), .second, .val (.int p2), .val (.int p3), .val (.ref b2), .unset, .unset, .unset, .unset] [(.long q1), (.int p1), (.int (3 : Int32)), (.ref b2)])) t
    refine XS.iconst X22.here hx rfl (hb hby at_41) ?_
    exact kt
  obtain ⟨_, _, ⟨T27, L27, k27c, n27⟩, -, X27, ⟨Lc27, hQ27, l27, y27, z27⟩, st27⟩ := Jvm.LawKit.callS X22 hx (y := (⟨"com/example/ruleward/ruleward/http/HttpHeadEndPinLaw", "pick", "(IJI)B"⟩ : MethodName)) hown (mvT hZ (hw _ (List.mem_of_getElem? (i := 1) rfl))) (mvT hZ (hw _ (List.mem_of_getElem? (i := 2) rfl))) (mvT hZ (hw _ (List.mem_of_getElem? (i := 3) rfl))) (mvT hZ (hw _ (List.mem_of_getElem? (i := 4) rfl))) (by decide) (backOf (W := 2) (rmP l Z a0 hw [] p1 q1 (3 : Int32) h22 n0 Z22) hZ (hw _ (List.mem_of_getElem? (i := 4) rfl)) (hw _ (List.mem_of_getElem? (i := 3) rfl)) (by decide) (by decide)) (g := (mkF m 42 #[.val (.int p1), .val (.long q1), .second, .val (.int p2), .val (.int p3), .val (.ref b2), .unset, .unset, .unset, .unset] [(.int (3 : Int32)), (.long q1), (.int p1), (.int (3 : Int32)), (.ref b2)])) rfl (by rw [hml]; rfl) (argsL := [(.int p1), (.long q1), (.int (3 : Int32))]) (rest := [(.int (3 : Int32)), (.ref b2)]) (lenOf own_pd0 rfl) rfl (by show 2 * 0 + _ ≤ _; exact Nat.le_of_eq rfl) (hb hby at_42) (fun _ _ => ⟨rfl, e22, (by decide : 1 + 0 ≤ _), (by decide : 6 + 0 ≤ _)⟩)
  dsimp only [Pt.U, Pt.locs, Pt.cells, Pt.slots] at X27 l27 y27 z27 st27 hQ27
  subst l27 y27 z27
  obtain ⟨z27, rfl, N27q, e27⟩ := hQ27
  have N27 := Fr.app N22 N27q
  have k28 : ∀ t, Steps p.tables e below (T27.setTop (mkF m 45 #[.val (.int p1), .val (.long q1), .second, .val (.int p2), .val (.int p3), .val (.ref b2), .unset, .unset, .unset, .unset] [(.int z27), (.int (3 : Int32)), (.ref b2)])) t → Steps p.tables e below (s₁.setTop (entryFrame m #[(.int p1), (.long q1), (.int p2), (.int p3)] maxLocals)) t := fun t kt => k26 t (st27 t kt)
  obtain ⟨cl29, Ar29, q29, S29, M29, H29, G29⟩ := id F23
  have hin29 : ¬ ((3 : Int32) < 0 ∨ cl29.slots.size ≤ ((3 : Int32)).toNatClampNeg) := inb_of S29 ⟨by decide, by decide⟩
  obtain ⟨T29, h29, X29, e29, W29, st29⟩ := stB X27 hx hZ e27 Ar29 (j := (3 : Int32)) hin29 (g := (mkF m 45 #[.val (.int p1), .val (.long q1), .second, .val (.int p2), .val (.int p3), .val (.ref b2), .unset, .unset, .unset, .unset] [(.int z27), (.int (3 : Int32)), (.ref b2)])) rfl rfl (hb hby at_45)
  have F30 : Arv Z h29 b2 c2 .byte (6 : Int32) [(.int (z6.toInt8.toInt32)), (.int (z13.toInt8.toInt32)), (.int (z20.toInt8.toInt32)), (.int (z27.toInt8.toInt32)), (.int (0 : Int32)), (.int (0 : Int32))] (.int (0 : Int32)) := Arv.set Ar29 q29 S29 M29 H29 G29 (fits_nar_byte _) W29 3 rfl (Nat.le_of_ble_eq_true rfl)
  have Z29 : n0 ≤ h29.size := Nat.le_trans Z22 (Keep.of_wr W29).1
  have K29 : Keep h0 h29 [] := K22.wr W29 (Or.inr sz_b2)
  have N29 := Fr.snoc X29 N27 g_b2
  have k32 : ∀ t, Steps p.tables e below (T29.setTop (mkF m 46 #[.val (.int p1), .val (.long q1), .second, .val (.int p2), .val (.int p3), .val (.ref b2), .unset, .unset, .unset, .unset] [])) t → Steps p.tables e below (s₁.setTop (entryFrame m #[(.int p1), (.long q1), (.int p2), (.int p3)] maxLocals)) t := fun t kt => k28 t (st29 t kt)
  have k33 : ∀ t, Steps p.tables e below (T29.setTop (mkF m 52 #[.val (.int p1), .val (.long q1), .second, .val (.int p2), .val (.int p3), .val (.ref b2), .unset, .unset, .unset, .unset] [(.int (4 : Int32)), (.long q1), (.int p1), (.int (4 : Int32)), (.ref b2)])) t → Steps p.tables e below (s₁.setTop (entryFrame m #[(.int p1), (.long q1), (.int p2), (.int p3)] maxLocals)) t := by
    intro t kt
    refine k32 t ?_
    show Steps p.tables e below (T29.setTop (mkF m 46 #[.val (.int p1), .val (.long q1), .second, .val (.int p2), .val (.int p3), .val (.ref b2), .unset, .unset, .unset, .unset] [])) t
    refine XS.aload X29.here hx rfl (hb hby at_46) rfl rfl ?_
    show Steps p.tables e below (T29.setTop (mkF m 48 #[.val (.int p1), .val (.long q1), .second, .val (.int p2), .val (.int p3), .val (.ref b2), .unset, .unset, .unset, .unset] [(.ref b2)])) t
    refine XS.iconst X29.here hx rfl (hb hby at_48) ?_
    show Steps p.tables e below (T29.setTop (mkF m 49 #[.val (.int p1), .val (.long q1), .second, .val (.int p2), .val (.int p3), .val (.ref b2), .unset, .unset, .unset, .unset] [(.int (4 : Int32)), (.ref b2)])) t
    refine XS.iloadN X29.here hx rfl (hb hby at_49) rfl ?_
    show Steps p.tables e below (T29.setTop (mkF m 50 #[.val (.int p1), .val (.long q1), .second, .val (.int p2), .val (.int p3), .val (.ref b2), .unset, .unset, .unset, .unset] [(.int p1), (.int (4 : Int32)), (.ref b2)])) t
    refine XS.lloadN X29.here hx rfl (hb hby at_50) rfl ?_
    show Steps p.tables e below (T29.setTop (mkF m 51 #[.val (.int p1), .val (.long q1), .second, .val (.int p2), .val (.int p3), .val (.ref b2), .unset, .unset, .unset, .unset] [(.long q1), (.int p1), (.int (4 : Int32)), (.ref b2)])) t
    refine XS.iconst X29.here hx rfl (hb hby at_51) ?_
    exact kt
  obtain ⟨_, _, ⟨T34, L34, k34c, n34⟩, -, X34, ⟨Lc34, hQ34, l34, y34, z34⟩, st34⟩ := Jvm.LawKit.callS X29 hx (y := (⟨"com/example/ruleward/ruleward/http/HttpHeadEndPinLaw", "pick", "(IJI)B"⟩ : MethodName)) hown (mvT hZ (hw _ (List.mem_of_getElem? (i := 1) rfl))) (mvT hZ (hw _ (List.mem_of_getElem? (i := 2) rfl))) (mvT hZ (hw _ (List.mem_of_getElem? (i := 3) rfl))) (mvT hZ (hw _ (List.mem_of_getElem? (i := 4) rfl))) (by decide) (backOf (W := 2) (rmP l Z a0 hw [] p1 q1 (4 : Int32) h29 n0 Z29) hZ (hw _ (List.mem_of_getElem? (i := 4) rfl)) (hw _ (List.mem_of_getElem? (i := 3) rfl)) (by decide) (by decide)) (g := (mkF m 52 #[.val (.int p1), .val (.long q1), .second, .val (.int p2), .val (.int p3), .val (.ref b2), .unset, .unset, .unset, .unset] [(.int (4 : Int32)), (.long q1), (.int p1), (.int (4 : Int32)), (.ref b2)])) rfl (by rw [hml]; rfl) (argsL := [(.int p1), (.long q1), (.int (4 : Int32))]) (rest := [(.int (4 : Int32)), (.ref b2)]) (lenOf own_pd0 rfl) rfl (by show 2 * 0 + _ ≤ _; exact Nat.le_of_eq rfl) (hb hby at_52) (fun _ _ => ⟨rfl, e29, (by decide : 1 + 0 ≤ _), (by decide : 6 + 0 ≤ _)⟩)
  dsimp only [Pt.U, Pt.locs, Pt.cells, Pt.slots] at X34 l34 y34 z34 st34 hQ34
  subst l34 y34 z34
  obtain ⟨z34, rfl, N34q, e34⟩ := hQ34
  have N34 := Fr.app N29 N34q
  have k35 : ∀ t, Steps p.tables e below (T34.setTop (mkF m 55 #[.val (.int p1), .val (.long q1), .second, .val (.int p2), .val (.int p3), .val (.ref b2), .unset, .unset, .unset, .unset] [(.int z34), (.int (4 : Int32)), (.ref b2)])) t → Steps p.tables e below (s₁.setTop (entryFrame m #[(.int p1), (.long q1), (.int p2), (.int p3)] maxLocals)) t := fun t kt => k33 t (st34 t kt)
  obtain ⟨cl36, Ar36, q36, S36, M36, H36, G36⟩ := id F30
  have hin36 : ¬ ((4 : Int32) < 0 ∨ cl36.slots.size ≤ ((4 : Int32)).toNatClampNeg) := inb_of S36 ⟨by decide, by decide⟩
  obtain ⟨T36, h36, X36, e36, W36, st36⟩ := stB X34 hx hZ e34 Ar36 (j := (4 : Int32)) hin36 (g := (mkF m 55 #[.val (.int p1), .val (.long q1), .second, .val (.int p2), .val (.int p3), .val (.ref b2), .unset, .unset, .unset, .unset] [(.int z34), (.int (4 : Int32)), (.ref b2)])) rfl rfl (hb hby at_55)
  have F37 : Arv Z h36 b2 c2 .byte (6 : Int32) [(.int (z6.toInt8.toInt32)), (.int (z13.toInt8.toInt32)), (.int (z20.toInt8.toInt32)), (.int (z27.toInt8.toInt32)), (.int (z34.toInt8.toInt32)), (.int (0 : Int32))] (.int (0 : Int32)) := Arv.set Ar36 q36 S36 M36 H36 G36 (fits_nar_byte _) W36 4 rfl (Nat.le_of_ble_eq_true rfl)
  have Z36 : n0 ≤ h36.size := Nat.le_trans Z29 (Keep.of_wr W36).1
  have K36 : Keep h0 h36 [] := K29.wr W36 (Or.inr sz_b2)
  have N36 := Fr.snoc X36 N34 g_b2
  have k39 : ∀ t, Steps p.tables e below (T36.setTop (mkF m 56 #[.val (.int p1), .val (.long q1), .second, .val (.int p2), .val (.int p3), .val (.ref b2), .unset, .unset, .unset, .unset] [])) t → Steps p.tables e below (s₁.setTop (entryFrame m #[(.int p1), (.long q1), (.int p2), (.int p3)] maxLocals)) t := fun t kt => k35 t (st36 t kt)
  have k40 : ∀ t, Steps p.tables e below (T36.setTop (mkF m 62 #[.val (.int p1), .val (.long q1), .second, .val (.int p2), .val (.int p3), .val (.ref b2), .unset, .unset, .unset, .unset] [(.int (5 : Int32)), (.long q1), (.int p1), (.int (5 : Int32)), (.ref b2)])) t → Steps p.tables e below (s₁.setTop (entryFrame m #[(.int p1), (.long q1), (.int p2), (.int p3)] maxLocals)) t := by
    intro t kt
    refine k39 t ?_
    show Steps p.tables e below (T36.setTop (mkF m 56 #[.val (.int p1), .val (.long q1), .second, .val (.int p2), .val (.int p3), .val (.ref b2), .unset, .unset, .unset, .unset] [])) t
    refine XS.aload X36.here hx rfl (hb hby at_56) rfl rfl ?_
    show Steps p.tables e below (T36.setTop (mkF m 58 #[.val (.int p1), .val (.long q1), .second, .val (.int p2), .val (.int p3), .val (.ref b2), .unset, .unset, .unset, .unset] [(.ref b2)])) t
    refine XS.iconst X36.here hx rfl (hb hby at_58) ?_
    show Steps p.tables e below (T36.setTop (mkF m 59 #[.val (.int p1), .val (.long q1), .second, .val (.int p2), .val (.int p3), .val (.ref b2), .unset, .unset, .unset, .unset] [(.int (5 : Int32)), (.ref b2)])) t
    refine XS.iloadN X36.here hx rfl (hb hby at_59) rfl ?_
    show Steps p.tables e below (T36.setTop (mkF m 60 #[.val (.int p1), .val (.long q1), .second, .val (.int p2), .val (.int p3), .val (.ref b2), .unset, .unset, .unset, .unset] [(.int p1), (.int (5 : Int32)), (.ref b2)])) t
    refine XS.lloadN X36.here hx rfl (hb hby at_60) rfl ?_
    show Steps p.tables e below (T36.setTop (mkF m 61 #[.val (.int p1), .val (.long q1), .second, .val (.int p2), .val (.int p3), .val (.ref b2), .unset, .unset, .unset, .unset] [(.long q1), (.int p1), (.int (5 : Int32)), (.ref b2)])) t
    refine XS.iconst X36.here hx rfl (hb hby at_61) ?_
    exact kt
  obtain ⟨_, _, ⟨T41, L41, k41c, n41⟩, -, X41, ⟨Lc41, hQ41, l41, y41, z41⟩, st41⟩ := Jvm.LawKit.callS X36 hx (y := (⟨"com/example/ruleward/ruleward/http/HttpHeadEndPinLaw", "pick", "(IJI)B"⟩ : MethodName)) hown (mvT hZ (hw _ (List.mem_of_getElem? (i := 1) rfl))) (mvT hZ (hw _ (List.mem_of_getElem? (i := 2) rfl))) (mvT hZ (hw _ (List.mem_of_getElem? (i := 3) rfl))) (mvT hZ (hw _ (List.mem_of_getElem? (i := 4) rfl))) (by decide) (backOf (W := 2) (rmP l Z a0 hw [] p1 q1 (5 : Int32) h36 n0 Z36) hZ (hw _ (List.mem_of_getElem? (i := 4) rfl)) (hw _ (List.mem_of_getElem? (i := 3) rfl)) (by decide) (by decide)) (g := (mkF m 62 #[.val (.int p1), .val (.long q1), .second, .val (.int p2), .val (.int p3), .val (.ref b2), .unset, .unset, .unset, .unset] [(.int (5 : Int32)), (.long q1), (.int p1), (.int (5 : Int32)), (.ref b2)])) rfl (by rw [hml]; rfl) (argsL := [(.int p1), (.long q1), (.int (5 : Int32))]) (rest := [(.int (5 : Int32)), (.ref b2)]) (lenOf own_pd0 rfl) rfl (by show 2 * 0 + _ ≤ _; exact Nat.le_of_eq rfl) (hb hby at_62) (fun _ _ => ⟨rfl, e36, (by decide : 1 + 0 ≤ _), (by decide : 6 + 0 ≤ _)⟩)
  dsimp only [Pt.U, Pt.locs, Pt.cells, Pt.slots] at X41 l41 y41 z41 st41 hQ41
  subst l41 y41 z41
  obtain ⟨z41, rfl, N41q, e41⟩ := hQ41
  have N41 := Fr.app N36 N41q
  have k42 : ∀ t, Steps p.tables e below (T41.setTop (mkF m 65 #[.val (.int p1), .val (.long q1), .second, .val (.int p2), .val (.int p3), .val (.ref b2), .unset, .unset, .unset, .unset] [(.int z41), (.int (5 : Int32)), (.ref b2)])) t → Steps p.tables e below (s₁.setTop (entryFrame m #[(.int p1), (.long q1), (.int p2), (.int p3)] maxLocals)) t := fun t kt => k40 t (st41 t kt)
  obtain ⟨cl43, Ar43, q43, S43, M43, H43, G43⟩ := id F37
  have hin43 : ¬ ((5 : Int32) < 0 ∨ cl43.slots.size ≤ ((5 : Int32)).toNatClampNeg) := inb_of S43 ⟨by decide, by decide⟩
  obtain ⟨T43, h43, X43, e43, W43, st43⟩ := stB X41 hx hZ e41 Ar43 (j := (5 : Int32)) hin43 (g := (mkF m 65 #[.val (.int p1), .val (.long q1), .second, .val (.int p2), .val (.int p3), .val (.ref b2), .unset, .unset, .unset, .unset] [(.int z41), (.int (5 : Int32)), (.ref b2)])) rfl rfl (hb hby at_65)
  have F44 : Arv Z h43 b2 c2 .byte (6 : Int32) [(.int (z6.toInt8.toInt32)), (.int (z13.toInt8.toInt32)), (.int (z20.toInt8.toInt32)), (.int (z27.toInt8.toInt32)), (.int (z34.toInt8.toInt32)), (.int (z41.toInt8.toInt32))] (.int (0 : Int32)) := Arv.set Ar43 q43 S43 M43 H43 G43 (fits_nar_byte _) W43 5 rfl (Nat.le_of_ble_eq_true rfl)
  have Z43 : n0 ≤ h43.size := Nat.le_trans Z36 (Keep.of_wr W43).1
  have K43 : Keep h0 h43 [] := K36.wr W43 (Or.inr sz_b2)
  have N43 := Fr.snoc X43 N41 g_b2
  have k46 : ∀ t, Steps p.tables e below (T43.setTop (mkF m 66 #[.val (.int p1), .val (.long q1), .second, .val (.int p2), .val (.int p3), .val (.ref b2), .unset, .unset, .unset, .unset] [])) t → Steps p.tables e below (s₁.setTop (entryFrame m #[(.int p1), (.long q1), (.int p2), (.int p3)] maxLocals)) t := fun t kt => k42 t (st43 t kt)
  have k47 : ∀ t, Steps p.tables e below (T43.setTop (mkF m 91 #[.val (.int p1), .val (.long q1), .second, .val (.int p2), .val (.int p3), .val (.ref b2), .val (.int ((p2 &&& (2147483647 : Int32)) % (7 : Int32))), .val (.int ((p3 &&& (2147483647 : Int32)) % (7 : Int32))), .unset, .unset] [(.int ((p3 &&& (2147483647 : Int32)) % (7 : Int32))), (.int ((p2 &&& (2147483647 : Int32)) % (7 : Int32))), (.ref b2)])) t → Steps p.tables e below (s₁.setTop (entryFrame m #[(.int p1), (.long q1), (.int p2), (.int p3)] maxLocals)) t := by
    intro t kt
    refine k46 t ?_
    show Steps p.tables e below (T43.setTop (mkF m 66 #[.val (.int p1), .val (.long q1), .second, .val (.int p2), .val (.int p3), .val (.ref b2), .unset, .unset, .unset, .unset] [])) t
    refine XS.iloadN X43.here hx rfl (hb hby at_66) rfl ?_
    show Steps p.tables e below (T43.setTop (mkF m 67 #[.val (.int p1), .val (.long q1), .second, .val (.int p2), .val (.int p3), .val (.ref b2), .unset, .unset, .unset, .unset] [(.int p2)])) t
    refine X43.ldcInt hx hown (mvT hZ (hw _ (List.mem_of_getElem? (i := 5) rfl))) (g := (mkF m 67 #[.val (.int p1), .val (.long q1), .second, .val (.int p2), .val (.int p3), .val (.ref b2), .unset, .unset, .unset, .unset] [(.int p2)])) rfl (hb hby at_67) _ ?_
    show Steps p.tables e below (T43.setTop (mkF m 69 #[.val (.int p1), .val (.long q1), .second, .val (.int p2), .val (.int p3), .val (.ref b2), .unset, .unset, .unset, .unset] [(.int (2147483647 : Int32)), (.int p2)])) t
    refine XS.iand X43.here hx rfl (hb hby at_69) rfl ?_
    show Steps p.tables e below (T43.setTop (mkF m 70 #[.val (.int p1), .val (.long q1), .second, .val (.int p2), .val (.int p3), .val (.ref b2), .unset, .unset, .unset, .unset] [(.int (p2 &&& (2147483647 : Int32)))])) t
    refine XS.bipush X43.here hx rfl (hb hby at_70) ?_
    show Steps p.tables e below (T43.setTop (mkF m 72 #[.val (.int p1), .val (.long q1), .second, .val (.int p2), .val (.int p3), .val (.ref b2), .unset, .unset, .unset, .unset] [(.int (7 : Int32)), (.int (p2 &&& (2147483647 : Int32)))])) t
    refine iremM X43 hx rfl (hb hby at_72) rfl (by decide) ?_
    show Steps p.tables e below (T43.setTop (mkF m 73 #[.val (.int p1), .val (.long q1), .second, .val (.int p2), .val (.int p3), .val (.ref b2), .unset, .unset, .unset, .unset] [(.int ((p2 &&& (2147483647 : Int32)) % (7 : Int32)))])) t
    refine XS.istore X43.here hx rfl (hb hby at_73) rfl (l' := #[.val (.int p1), .val (.long q1), .second, .val (.int p2), .val (.int p3), .val (.ref b2), .val (.int ((p2 &&& (2147483647 : Int32)) % (7 : Int32))), .unset, .unset, .unset]) rfl ?_
    show Steps p.tables e below (T43.setTop (mkF m 75 #[.val (.int p1), .val (.long q1), .second, .val (.int p2), .val (.int p3), .val (.ref b2), .val (.int ((p2 &&& (2147483647 : Int32)) % (7 : Int32))), .unset, .unset, .unset] [])) t
    refine XS.iload X43.here hx rfl (hb hby at_75) rfl ?_
    show Steps p.tables e below (T43.setTop (mkF m 77 #[.val (.int p1), .val (.long q1), .second, .val (.int p2), .val (.int p3), .val (.ref b2), .val (.int ((p2 &&& (2147483647 : Int32)) % (7 : Int32))), .unset, .unset, .unset] [(.int p3)])) t
    refine X43.ldcInt hx hown (mvT hZ (hw _ (List.mem_of_getElem? (i := 5) rfl))) (g := (mkF m 77 #[.val (.int p1), .val (.long q1), .second, .val (.int p2), .val (.int p3), .val (.ref b2), .val (.int ((p2 &&& (2147483647 : Int32)) % (7 : Int32))), .unset, .unset, .unset] [(.int p3)])) rfl (hb hby at_77) _ ?_
    show Steps p.tables e below (T43.setTop (mkF m 79 #[.val (.int p1), .val (.long q1), .second, .val (.int p2), .val (.int p3), .val (.ref b2), .val (.int ((p2 &&& (2147483647 : Int32)) % (7 : Int32))), .unset, .unset, .unset] [(.int (2147483647 : Int32)), (.int p3)])) t
    refine XS.iand X43.here hx rfl (hb hby at_79) rfl ?_
    show Steps p.tables e below (T43.setTop (mkF m 80 #[.val (.int p1), .val (.long q1), .second, .val (.int p2), .val (.int p3), .val (.ref b2), .val (.int ((p2 &&& (2147483647 : Int32)) % (7 : Int32))), .unset, .unset, .unset] [(.int (p3 &&& (2147483647 : Int32)))])) t
    refine XS.bipush X43.here hx rfl (hb hby at_80) ?_
    show Steps p.tables e below (T43.setTop (mkF m 82 #[.val (.int p1), .val (.long q1), .second, .val (.int p2), .val (.int p3), .val (.ref b2), .val (.int ((p2 &&& (2147483647 : Int32)) % (7 : Int32))), .unset, .unset, .unset] [(.int (7 : Int32)), (.int (p3 &&& (2147483647 : Int32)))])) t
    refine iremM X43 hx rfl (hb hby at_82) rfl (by decide) ?_
    show Steps p.tables e below (T43.setTop (mkF m 83 #[.val (.int p1), .val (.long q1), .second, .val (.int p2), .val (.int p3), .val (.ref b2), .val (.int ((p2 &&& (2147483647 : Int32)) % (7 : Int32))), .unset, .unset, .unset] [(.int ((p3 &&& (2147483647 : Int32)) % (7 : Int32)))])) t
    refine XS.istore X43.here hx rfl (hb hby at_83) rfl (l' := #[.val (.int p1), .val (.long q1), .second, .val (.int p2), .val (.int p3), .val (.ref b2), .val (.int ((p2 &&& (2147483647 : Int32)) % (7 : Int32))), .val (.int ((p3 &&& (2147483647 : Int32)) % (7 : Int32))), .unset, .unset]) rfl ?_
    show Steps p.tables e below (T43.setTop (mkF m 85 #[.val (.int p1), .val (.long q1), .second, .val (.int p2), .val (.int p3), .val (.ref b2), .val (.int ((p2 &&& (2147483647 : Int32)) % (7 : Int32))), .val (.int ((p3 &&& (2147483647 : Int32)) % (7 : Int32))), .unset, .unset] [])) t
    refine XS.aload X43.here hx rfl (hb hby at_85) rfl rfl ?_
    show Steps p.tables e below (T43.setTop (mkF m 87 #[.val (.int p1), .val (.long q1), .second, .val (.int p2), .val (.int p3), .val (.ref b2), .val (.int ((p2 &&& (2147483647 : Int32)) % (7 : Int32))), .val (.int ((p3 &&& (2147483647 : Int32)) % (7 : Int32))), .unset, .unset] [(.ref b2)])) t
    refine XS.iload X43.here hx rfl (hb hby at_87) rfl ?_
    show Steps p.tables e below (T43.setTop (mkF m 89 #[.val (.int p1), .val (.long q1), .second, .val (.int p2), .val (.int p3), .val (.ref b2), .val (.int ((p2 &&& (2147483647 : Int32)) % (7 : Int32))), .val (.int ((p3 &&& (2147483647 : Int32)) % (7 : Int32))), .unset, .unset] [(.int ((p2 &&& (2147483647 : Int32)) % (7 : Int32))), (.ref b2)])) t
    refine XS.iload X43.here hx rfl (hb hby at_89) rfl ?_
    exact kt
  obtain ⟨_, _, ⟨T48, L48, k48c, n48⟩, -, X48, ⟨Lc48, hQ48, l48, y48, z48⟩, st48⟩ := Jvm.LawKit.callS X43 hx (y := (⟨"com/example/ruleward/ruleward/http/HttpHead", "end", "([BII)I"⟩ : MethodName)) hown (mvT hZ (hw _ (List.mem_of_getElem? (i := 6) rfl))) (mvT hZ (hw _ (List.mem_of_getElem? (i := 7) rfl))) (mvT hZ (hw _ (List.mem_of_getElem? (i := 8) rfl))) (mvT hZ (hw _ (List.mem_of_getElem? (i := 9) rfl))) (by decide) (backOf (W := 0) (rmE l Z a0 hw [] b2 ((p2 &&& (2147483647 : Int32)) % (7 : Int32)) ((p3 &&& (2147483647 : Int32)) % (7 : Int32)) c2 [(.int (z6.toInt8.toInt32)), (.int (z13.toInt8.toInt32)), (.int (z20.toInt8.toInt32)), (.int (z27.toInt8.toInt32)), (.int (z34.toInt8.toInt32)), (.int (z41.toInt8.toInt32))] (own_g [(z6.toInt8.toInt32), (z13.toInt8.toInt32), (z20.toInt8.toInt32), (z27.toInt8.toInt32), (z34.toInt8.toInt32), (z41.toInt8.toInt32)]) h43 n0 Z43 F44 (fun j _ => own_getg [(z6.toInt8.toInt32), (z13.toInt8.toInt32), (z20.toInt8.toInt32), (z27.toInt8.toInt32), (z34.toInt8.toInt32), (z41.toInt8.toInt32)] j) (own_m7 _).1 (own_m7 _).2 (own_m7 _).2) hZ (hw _ (List.mem_of_getElem? (i := 9) rfl)) (hw _ (List.mem_of_getElem? (i := 8) rfl)) (by decide) (by decide)) (g := (mkF m 91 #[.val (.int p1), .val (.long q1), .second, .val (.int p2), .val (.int p3), .val (.ref b2), .val (.int ((p2 &&& (2147483647 : Int32)) % (7 : Int32))), .val (.int ((p3 &&& (2147483647 : Int32)) % (7 : Int32))), .unset, .unset] [(.int ((p3 &&& (2147483647 : Int32)) % (7 : Int32))), (.int ((p2 &&& (2147483647 : Int32)) % (7 : Int32))), (.ref b2)])) rfl (by rw [hml]; rfl) (argsL := [(.ref b2), (.int ((p2 &&& (2147483647 : Int32)) % (7 : Int32))), (.int ((p3 &&& (2147483647 : Int32)) % (7 : Int32)))]) (rest := []) (lenOf own_pd1 rfl) rfl (by show 2 * 0 + _ ≤ _; exact Nat.le_of_eq rfl) (hb hby at_91) (fun _ _ => ⟨rfl, e43, (by decide : 1 + 0 ≤ _), (by decide : 6 + 0 ≤ _)⟩)
  dsimp only [Pt.U, Pt.locs, Pt.cells, Pt.slots] at X48 l48 y48 z48 st48 hQ48
  subst l48 y48 z48
  obtain ⟨rfl, N48q, e48⟩ := hQ48
  have N48 := Fr.app N43 N48q
  have k49 : ∀ t, Steps p.tables e below (T48.setTop (mkF m 94 #[.val (.int p1), .val (.long q1), .second, .val (.int p2), .val (.int p3), .val (.ref b2), .val (.int ((p2 &&& (2147483647 : Int32)) % (7 : Int32))), .val (.int ((p3 &&& (2147483647 : Int32)) % (7 : Int32))), .unset, .unset] [(.int (own_loop (own_g [(z6.toInt8.toInt32), (z13.toInt8.toInt32), (z20.toInt8.toInt32), (z27.toInt8.toInt32), (z34.toInt8.toInt32), (z41.toInt8.toInt32)]) ((p3 &&& (2147483647 : Int32)) % (7 : Int32)) (6 - ((p2 &&& (2147483647 : Int32)) % (7 : Int32)).toInt.toNat) (-1 : Int32) ((p2 &&& (2147483647 : Int32)) % (7 : Int32))))])) t → Steps p.tables e below (s₁.setTop (entryFrame m #[(.int p1), (.long q1), (.int p2), (.int p3)] maxLocals)) t := fun t kt => k47 t (st48 t kt)
  have k50 : ∀ t, Steps p.tables e below (T48.setTop (mkF m 108 #[.val (.int p1), .val (.long q1), .second, .val (.int p2), .val (.int p3), .val (.ref b2), .val (.int ((p2 &&& (2147483647 : Int32)) % (7 : Int32))), .val (.int ((p3 &&& (2147483647 : Int32)) % (7 : Int32))), .val (.int (own_loop (own_g [(z6.toInt8.toInt32), (z13.toInt8.toInt32), (z20.toInt8.toInt32), (z27.toInt8.toInt32), (z34.toInt8.toInt32), (z41.toInt8.toInt32)]) ((p3 &&& (2147483647 : Int32)) % (7 : Int32)) (6 - ((p2 &&& (2147483647 : Int32)) % (7 : Int32)).toInt.toNat) (-1 : Int32) ((p2 &&& (2147483647 : Int32)) % (7 : Int32)))), .val (.int (-1 : Int32))] [(.int ((p3 &&& (2147483647 : Int32)) % (7 : Int32))), (.int ((p2 &&& (2147483647 : Int32)) % (7 : Int32))), (.int (0 : Int32)), (.ref b2), (.int (-1 : Int32))])) t → Steps p.tables e below (s₁.setTop (entryFrame m #[(.int p1), (.long q1), (.int p2), (.int p3)] maxLocals)) t := by
    intro t kt
    refine k49 t ?_
    show Steps p.tables e below (T48.setTop (mkF m 94 #[.val (.int p1), .val (.long q1), .second, .val (.int p2), .val (.int p3), .val (.ref b2), .val (.int ((p2 &&& (2147483647 : Int32)) % (7 : Int32))), .val (.int ((p3 &&& (2147483647 : Int32)) % (7 : Int32))), .unset, .unset] [(.int (own_loop (own_g [(z6.toInt8.toInt32), (z13.toInt8.toInt32), (z20.toInt8.toInt32), (z27.toInt8.toInt32), (z34.toInt8.toInt32), (z41.toInt8.toInt32)]) ((p3 &&& (2147483647 : Int32)) % (7 : Int32)) (6 - ((p2 &&& (2147483647 : Int32)) % (7 : Int32)).toInt.toNat) (-1 : Int32) ((p2 &&& (2147483647 : Int32)) % (7 : Int32))))])) t
    refine XS.istore X48.here hx rfl (hb hby at_94) rfl (l' := #[.val (.int p1), .val (.long q1), .second, .val (.int p2), .val (.int p3), .val (.ref b2), .val (.int ((p2 &&& (2147483647 : Int32)) % (7 : Int32))), .val (.int ((p3 &&& (2147483647 : Int32)) % (7 : Int32))), .val (.int (own_loop (own_g [(z6.toInt8.toInt32), (z13.toInt8.toInt32), (z20.toInt8.toInt32), (z27.toInt8.toInt32), (z34.toInt8.toInt32), (z41.toInt8.toInt32)]) ((p3 &&& (2147483647 : Int32)) % (7 : Int32)) (6 - ((p2 &&& (2147483647 : Int32)) % (7 : Int32)).toInt.toNat) (-1 : Int32) ((p2 &&& (2147483647 : Int32)) % (7 : Int32)))), .unset]) rfl ?_
    show Steps p.tables e below (T48.setTop (mkF m 96 #[.val (.int p1), .val (.long q1), .second, .val (.int p2), .val (.int p3), .val (.ref b2), .val (.int ((p2 &&& (2147483647 : Int32)) % (7 : Int32))), .val (.int ((p3 &&& (2147483647 : Int32)) % (7 : Int32))), .val (.int (own_loop (own_g [(z6.toInt8.toInt32), (z13.toInt8.toInt32), (z20.toInt8.toInt32), (z27.toInt8.toInt32), (z34.toInt8.toInt32), (z41.toInt8.toInt32)]) ((p3 &&& (2147483647 : Int32)) % (7 : Int32)) (6 - ((p2 &&& (2147483647 : Int32)) % (7 : Int32)).toInt.toNat) (-1 : Int32) ((p2 &&& (2147483647 : Int32)) % (7 : Int32)))), .unset] [])) t
    refine XS.iconst X48.here hx rfl (hb hby at_96) ?_
    show Steps p.tables e below (T48.setTop (mkF m 97 #[.val (.int p1), .val (.long q1), .second, .val (.int p2), .val (.int p3), .val (.ref b2), .val (.int ((p2 &&& (2147483647 : Int32)) % (7 : Int32))), .val (.int ((p3 &&& (2147483647 : Int32)) % (7 : Int32))), .val (.int (own_loop (own_g [(z6.toInt8.toInt32), (z13.toInt8.toInt32), (z20.toInt8.toInt32), (z27.toInt8.toInt32), (z34.toInt8.toInt32), (z41.toInt8.toInt32)]) ((p3 &&& (2147483647 : Int32)) % (7 : Int32)) (6 - ((p2 &&& (2147483647 : Int32)) % (7 : Int32)).toInt.toNat) (-1 : Int32) ((p2 &&& (2147483647 : Int32)) % (7 : Int32)))), .unset] [(.int (-1 : Int32))])) t
    refine XS.istore X48.here hx rfl (hb hby at_97) rfl (l' := #[.val (.int p1), .val (.long q1), .second, .val (.int p2), .val (.int p3), .val (.ref b2), .val (.int ((p2 &&& (2147483647 : Int32)) % (7 : Int32))), .val (.int ((p3 &&& (2147483647 : Int32)) % (7 : Int32))), .val (.int (own_loop (own_g [(z6.toInt8.toInt32), (z13.toInt8.toInt32), (z20.toInt8.toInt32), (z27.toInt8.toInt32), (z34.toInt8.toInt32), (z41.toInt8.toInt32)]) ((p3 &&& (2147483647 : Int32)) % (7 : Int32)) (6 - ((p2 &&& (2147483647 : Int32)) % (7 : Int32)).toInt.toNat) (-1 : Int32) ((p2 &&& (2147483647 : Int32)) % (7 : Int32)))), .val (.int (-1 : Int32))]) rfl ?_
    show Steps p.tables e below (T48.setTop (mkF m 99 #[.val (.int p1), .val (.long q1), .second, .val (.int p2), .val (.int p3), .val (.ref b2), .val (.int ((p2 &&& (2147483647 : Int32)) % (7 : Int32))), .val (.int ((p3 &&& (2147483647 : Int32)) % (7 : Int32))), .val (.int (own_loop (own_g [(z6.toInt8.toInt32), (z13.toInt8.toInt32), (z20.toInt8.toInt32), (z27.toInt8.toInt32), (z34.toInt8.toInt32), (z41.toInt8.toInt32)]) ((p3 &&& (2147483647 : Int32)) % (7 : Int32)) (6 - ((p2 &&& (2147483647 : Int32)) % (7 : Int32)).toInt.toNat) (-1 : Int32) ((p2 &&& (2147483647 : Int32)) % (7 : Int32)))), .val (.int (-1 : Int32))] [])) t
    refine XS.iload X48.here hx rfl (hb hby at_99) rfl ?_
    show Steps p.tables e below (T48.setTop (mkF m 101 #[.val (.int p1), .val (.long q1), .second, .val (.int p2), .val (.int p3), .val (.ref b2), .val (.int ((p2 &&& (2147483647 : Int32)) % (7 : Int32))), .val (.int ((p3 &&& (2147483647 : Int32)) % (7 : Int32))), .val (.int (own_loop (own_g [(z6.toInt8.toInt32), (z13.toInt8.toInt32), (z20.toInt8.toInt32), (z27.toInt8.toInt32), (z34.toInt8.toInt32), (z41.toInt8.toInt32)]) ((p3 &&& (2147483647 : Int32)) % (7 : Int32)) (6 - ((p2 &&& (2147483647 : Int32)) % (7 : Int32)).toInt.toNat) (-1 : Int32) ((p2 &&& (2147483647 : Int32)) % (7 : Int32)))), .val (.int (-1 : Int32))] [(.int (-1 : Int32))])) t
    refine XS.aload X48.here hx rfl (hb hby at_101) rfl rfl ?_
    show Steps p.tables e below (T48.setTop (mkF m 103 #[.val (.int p1), .val (.long q1), .second, .val (.int p2), .val (.int p3), .val (.ref b2), .val (.int ((p2 &&& (2147483647 : Int32)) % (7 : Int32))), .val (.int ((p3 &&& (2147483647 : Int32)) % (7 : Int32))), .val (.int (own_loop (own_g [(z6.toInt8.toInt32), (z13.toInt8.toInt32), (z20.toInt8.toInt32), (z27.toInt8.toInt32), (z34.toInt8.toInt32), (z41.toInt8.toInt32)]) ((p3 &&& (2147483647 : Int32)) % (7 : Int32)) (6 - ((p2 &&& (2147483647 : Int32)) % (7 : Int32)).toInt.toNat) (-1 : Int32) ((p2 &&& (2147483647 : Int32)) % (7 : Int32)))), .val (.int (-1 : Int32))] [(.ref b2), (.int (-1 : Int32))])) t
    refine XS.iconst X48.here hx rfl (hb hby at_103) ?_
    show Steps p.tables e below (T48.setTop (mkF m 104 #[.val (.int p1), .val (.long q1), .second, .val (.int p2), .val (.int p3), .val (.ref b2), .val (.int ((p2 &&& (2147483647 : Int32)) % (7 : Int32))), .val (.int ((p3 &&& (2147483647 : Int32)) % (7 : Int32))), .val (.int (own_loop (own_g [(z6.toInt8.toInt32), (z13.toInt8.toInt32), (z20.toInt8.toInt32), (z27.toInt8.toInt32), (z34.toInt8.toInt32), (z41.toInt8.toInt32)]) ((p3 &&& (2147483647 : Int32)) % (7 : Int32)) (6 - ((p2 &&& (2147483647 : Int32)) % (7 : Int32)).toInt.toNat) (-1 : Int32) ((p2 &&& (2147483647 : Int32)) % (7 : Int32)))), .val (.int (-1 : Int32))] [(.int (0 : Int32)), (.ref b2), (.int (-1 : Int32))])) t
    refine XS.iload X48.here hx rfl (hb hby at_104) rfl ?_
    show Steps p.tables e below (T48.setTop (mkF m 106 #[.val (.int p1), .val (.long q1), .second, .val (.int p2), .val (.int p3), .val (.ref b2), .val (.int ((p2 &&& (2147483647 : Int32)) % (7 : Int32))), .val (.int ((p3 &&& (2147483647 : Int32)) % (7 : Int32))), .val (.int (own_loop (own_g [(z6.toInt8.toInt32), (z13.toInt8.toInt32), (z20.toInt8.toInt32), (z27.toInt8.toInt32), (z34.toInt8.toInt32), (z41.toInt8.toInt32)]) ((p3 &&& (2147483647 : Int32)) % (7 : Int32)) (6 - ((p2 &&& (2147483647 : Int32)) % (7 : Int32)).toInt.toNat) (-1 : Int32) ((p2 &&& (2147483647 : Int32)) % (7 : Int32)))), .val (.int (-1 : Int32))] [(.int ((p2 &&& (2147483647 : Int32)) % (7 : Int32))), (.int (0 : Int32)), (.ref b2), (.int (-1 : Int32))])) t
    refine XS.iload X48.here hx rfl (hb hby at_106) rfl ?_
    exact kt
  obtain ⟨_, _, ⟨T51, L51, k51c, n51⟩, -, X51, ⟨Lc51, hQ51, l51, y51, z51⟩, st51⟩ := Jvm.LawKit.callS X48 hx (y := (⟨"com/example/ruleward/ruleward/http/HttpHeadEndPinLaw", "first", "(I[BIII)I"⟩ : MethodName)) hown (mvT hZ (hw _ (List.mem_of_getElem? (i := 10) rfl))) (mvT hZ (hw _ (List.mem_of_getElem? (i := 11) rfl))) (mvT hZ (hw _ (List.mem_of_getElem? (i := 3) rfl))) (mvT hZ (hw _ (List.mem_of_getElem? (i := 12) rfl))) (by decide) (backOf (W := 0) (rmF l Z a0 hw [] (-1 : Int32) b2 c2 [(.int (z6.toInt8.toInt32)), (.int (z13.toInt8.toInt32)), (.int (z20.toInt8.toInt32)), (.int (z27.toInt8.toInt32)), (.int (z34.toInt8.toInt32)), (.int (z41.toInt8.toInt32))] (own_g [(z6.toInt8.toInt32), (z13.toInt8.toInt32), (z20.toInt8.toInt32), (z27.toInt8.toInt32), (z34.toInt8.toInt32), (z41.toInt8.toInt32)]) (0 : Int32) ((p2 &&& (2147483647 : Int32)) % (7 : Int32)) ((p3 &&& (2147483647 : Int32)) % (7 : Int32)) h43 n0 Z43 F44 (fun j _ => own_getg [(z6.toInt8.toInt32), (z13.toInt8.toInt32), (z20.toInt8.toInt32), (z27.toInt8.toInt32), (z34.toInt8.toInt32), (z41.toInt8.toInt32)] j) (by decide) (own_m7 _).2) hZ (hw _ (List.mem_of_getElem? (i := 12) rfl)) (hw _ (List.mem_of_getElem? (i := 3) rfl)) (by decide) (by decide)) (g := (mkF m 108 #[.val (.int p1), .val (.long q1), .second, .val (.int p2), .val (.int p3), .val (.ref b2), .val (.int ((p2 &&& (2147483647 : Int32)) % (7 : Int32))), .val (.int ((p3 &&& (2147483647 : Int32)) % (7 : Int32))), .val (.int (own_loop (own_g [(z6.toInt8.toInt32), (z13.toInt8.toInt32), (z20.toInt8.toInt32), (z27.toInt8.toInt32), (z34.toInt8.toInt32), (z41.toInt8.toInt32)]) ((p3 &&& (2147483647 : Int32)) % (7 : Int32)) (6 - ((p2 &&& (2147483647 : Int32)) % (7 : Int32)).toInt.toNat) (-1 : Int32) ((p2 &&& (2147483647 : Int32)) % (7 : Int32)))), .val (.int (-1 : Int32))] [(.int ((p3 &&& (2147483647 : Int32)) % (7 : Int32))), (.int ((p2 &&& (2147483647 : Int32)) % (7 : Int32))), (.int (0 : Int32)), (.ref b2), (.int (-1 : Int32))])) rfl (by rw [hml]; rfl) (argsL := [(.int (-1 : Int32)), (.ref b2), (.int (0 : Int32)), (.int ((p2 &&& (2147483647 : Int32)) % (7 : Int32))), (.int ((p3 &&& (2147483647 : Int32)) % (7 : Int32)))]) (rest := []) (lenOf own_pd2 rfl) rfl (by show 2 * 0 + _ ≤ _; exact Nat.le_of_eq rfl) (hb hby at_108) (fun _ _ => ⟨rfl, e48, (by decide : 1 + 0 ≤ _), (by decide : 6 + 0 ≤ _)⟩)
  dsimp only [Pt.U, Pt.locs, Pt.cells, Pt.slots] at X51 l51 y51 z51 st51 hQ51
  subst l51 y51 z51
  obtain ⟨rfl, N51q, e51⟩ := hQ51
  have N51 := Fr.app N48 N51q
  have k52 : ∀ t, Steps p.tables e below (T51.setTop (mkF m 111 #[.val (.int p1), .val (.long q1), .second, .val (.int p2), .val (.int p3), .val (.ref b2), .val (.int ((p2 &&& (2147483647 : Int32)) % (7 : Int32))), .val (.int ((p3 &&& (2147483647 : Int32)) % (7 : Int32))), .val (.int (own_loop (own_g [(z6.toInt8.toInt32), (z13.toInt8.toInt32), (z20.toInt8.toInt32), (z27.toInt8.toInt32), (z34.toInt8.toInt32), (z41.toInt8.toInt32)]) ((p3 &&& (2147483647 : Int32)) % (7 : Int32)) (6 - ((p2 &&& (2147483647 : Int32)) % (7 : Int32)).toInt.toNat) (-1 : Int32) ((p2 &&& (2147483647 : Int32)) % (7 : Int32)))), .val (.int (-1 : Int32))] [(.int (own_first (own_g [(z6.toInt8.toInt32), (z13.toInt8.toInt32), (z20.toInt8.toInt32), (z27.toInt8.toInt32), (z34.toInt8.toInt32), (z41.toInt8.toInt32)]) (-1 : Int32) (0 : Int32) ((p2 &&& (2147483647 : Int32)) % (7 : Int32)) ((p3 &&& (2147483647 : Int32)) % (7 : Int32))))])) t → Steps p.tables e below (s₁.setTop (entryFrame m #[(.int p1), (.long q1), (.int p2), (.int p3)] maxLocals)) t := fun t kt => k50 t (st51 t kt)
  have k53 : ∀ t, Steps p.tables e below (T51.setTop (mkF m 122 #[.val (.int p1), .val (.long q1), .second, .val (.int p2), .val (.int p3), .val (.ref b2), .val (.int ((p2 &&& (2147483647 : Int32)) % (7 : Int32))), .val (.int ((p3 &&& (2147483647 : Int32)) % (7 : Int32))), .val (.int (own_loop (own_g [(z6.toInt8.toInt32), (z13.toInt8.toInt32), (z20.toInt8.toInt32), (z27.toInt8.toInt32), (z34.toInt8.toInt32), (z41.toInt8.toInt32)]) ((p3 &&& (2147483647 : Int32)) % (7 : Int32)) (6 - ((p2 &&& (2147483647 : Int32)) % (7 : Int32)).toInt.toNat) (-1 : Int32) ((p2 &&& (2147483647 : Int32)) % (7 : Int32)))), .val (.int (own_first (own_g [(z6.toInt8.toInt32), (z13.toInt8.toInt32), (z20.toInt8.toInt32), (z27.toInt8.toInt32), (z34.toInt8.toInt32), (z41.toInt8.toInt32)]) (-1 : Int32) (0 : Int32) ((p2 &&& (2147483647 : Int32)) % (7 : Int32)) ((p3 &&& (2147483647 : Int32)) % (7 : Int32))))] [(.int ((p3 &&& (2147483647 : Int32)) % (7 : Int32))), (.int ((p2 &&& (2147483647 : Int32)) % (7 : Int32))), (.int (1 : Int32)), (.ref b2), (.int (own_first (own_g [(z6.toInt8.toInt32), (z13.toInt8.toInt32), (z20.toInt8.toInt32), (z27.toInt8.toInt32), (z34.toInt8.toInt32), (z41.toInt8.toInt32)]) (-1 : Int32) (0 : Int32) ((p2 &&& (2147483647 : Int32)) % (7 : Int32)) ((p3 &&& (2147483647 : Int32)) % (7 : Int32))))])) t → Steps p.tables e below (s₁.setTop (entryFrame m #[(.int p1), (.long q1), (.int p2), (.int p3)] maxLocals)) t := by
    intro t kt
    refine k52 t ?_
    show Steps p.tables e below (T51.setTop (mkF m 111 #[.val (.int p1), .val (.long q1), .second, .val (.int p2), .val (.int p3), .val (.ref b2), .val (.int ((p2 &&& (2147483647 : Int32)) % (7 : Int32))), .val (.int ((p3 &&& (2147483647 : Int32)) % (7 : Int32))), .val (.int (own_loop (own_g [(z6.toInt8.toInt32), (z13.toInt8.toInt32), (z20.toInt8.toInt32), (z27.toInt8.toInt32), (z34.toInt8.toInt32), (z41.toInt8.toInt32)]) ((p3 &&& (2147483647 : Int32)) % (7 : Int32)) (6 - ((p2 &&& (2147483647 : Int32)) % (7 : Int32)).toInt.toNat) (-1 : Int32) ((p2 &&& (2147483647 : Int32)) % (7 : Int32)))), .val (.int (-1 : Int32))] [(.int (own_first (own_g [(z6.toInt8.toInt32), (z13.toInt8.toInt32), (z20.toInt8.toInt32), (z27.toInt8.toInt32), (z34.toInt8.toInt32), (z41.toInt8.toInt32)]) (-1 : Int32) (0 : Int32) ((p2 &&& (2147483647 : Int32)) % (7 : Int32)) ((p3 &&& (2147483647 : Int32)) % (7 : Int32))))])) t
    refine XS.istore X51.here hx rfl (hb hby at_111) rfl (l' := #[.val (.int p1), .val (.long q1), .second, .val (.int p2), .val (.int p3), .val (.ref b2), .val (.int ((p2 &&& (2147483647 : Int32)) % (7 : Int32))), .val (.int ((p3 &&& (2147483647 : Int32)) % (7 : Int32))), .val (.int (own_loop (own_g [(z6.toInt8.toInt32), (z13.toInt8.toInt32), (z20.toInt8.toInt32), (z27.toInt8.toInt32), (z34.toInt8.toInt32), (z41.toInt8.toInt32)]) ((p3 &&& (2147483647 : Int32)) % (7 : Int32)) (6 - ((p2 &&& (2147483647 : Int32)) % (7 : Int32)).toInt.toNat) (-1 : Int32) ((p2 &&& (2147483647 : Int32)) % (7 : Int32)))), .val (.int (own_first (own_g [(z6.toInt8.toInt32), (z13.toInt8.toInt32), (z20.toInt8.toInt32), (z27.toInt8.toInt32), (z34.toInt8.toInt32), (z41.toInt8.toInt32)]) (-1 : Int32) (0 : Int32) ((p2 &&& (2147483647 : Int32)) % (7 : Int32)) ((p3 &&& (2147483647 : Int32)) % (7 : Int32))))]) rfl ?_
    show Steps p.tables e below (T51.setTop (mkF m 113 #[.val (.int p1), .val (.long q1), .second, .val (.int p2), .val (.int p3), .val (.ref b2), .val (.int ((p2 &&& (2147483647 : Int32)) % (7 : Int32))), .val (.int ((p3 &&& (2147483647 : Int32)) % (7 : Int32))), .val (.int (own_loop (own_g [(z6.toInt8.toInt32), (z13.toInt8.toInt32), (z20.toInt8.toInt32), (z27.toInt8.toInt32), (z34.toInt8.toInt32), (z41.toInt8.toInt32)]) ((p3 &&& (2147483647 : Int32)) % (7 : Int32)) (6 - ((p2 &&& (2147483647 : Int32)) % (7 : Int32)).toInt.toNat) (-1 : Int32) ((p2 &&& (2147483647 : Int32)) % (7 : Int32)))), .val (.int (own_first (own_g [(z6.toInt8.toInt32), (z13.toInt8.toInt32), (z20.toInt8.toInt32), (z27.toInt8.toInt32), (z34.toInt8.toInt32), (z41.toInt8.toInt32)]) (-1 : Int32) (0 : Int32) ((p2 &&& (2147483647 : Int32)) % (7 : Int32)) ((p3 &&& (2147483647 : Int32)) % (7 : Int32))))] [])) t
    refine XS.iload X51.here hx rfl (hb hby at_113) rfl ?_
    show Steps p.tables e below (T51.setTop (mkF m 115 #[.val (.int p1), .val (.long q1), .second, .val (.int p2), .val (.int p3), .val (.ref b2), .val (.int ((p2 &&& (2147483647 : Int32)) % (7 : Int32))), .val (.int ((p3 &&& (2147483647 : Int32)) % (7 : Int32))), .val (.int (own_loop (own_g [(z6.toInt8.toInt32), (z13.toInt8.toInt32), (z20.toInt8.toInt32), (z27.toInt8.toInt32), (z34.toInt8.toInt32), (z41.toInt8.toInt32)]) ((p3 &&& (2147483647 : Int32)) % (7 : Int32)) (6 - ((p2 &&& (2147483647 : Int32)) % (7 : Int32)).toInt.toNat) (-1 : Int32) ((p2 &&& (2147483647 : Int32)) % (7 : Int32)))), .val (.int (own_first (own_g [(z6.toInt8.toInt32), (z13.toInt8.toInt32), (z20.toInt8.toInt32), (z27.toInt8.toInt32), (z34.toInt8.toInt32), (z41.toInt8.toInt32)]) (-1 : Int32) (0 : Int32) ((p2 &&& (2147483647 : Int32)) % (7 : Int32)) ((p3 &&& (2147483647 : Int32)) % (7 : Int32))))] [(.int (own_first (own_g [(z6.toInt8.toInt32), (z13.toInt8.toInt32), (z20.toInt8.toInt32), (z27.toInt8.toInt32), (z34.toInt8.toInt32), (z41.toInt8.toInt32)]) (-1 : Int32) (0 : Int32) ((p2 &&& (2147483647 : Int32)) % (7 : Int32)) ((p3 &&& (2147483647 : Int32)) % (7 : Int32))))])) t
    refine XS.aload X51.here hx rfl (hb hby at_115) rfl rfl ?_
    show Steps p.tables e below (T51.setTop (mkF m 117 #[.val (.int p1), .val (.long q1), .second, .val (.int p2), .val (.int p3), .val (.ref b2), .val (.int ((p2 &&& (2147483647 : Int32)) % (7 : Int32))), .val (.int ((p3 &&& (2147483647 : Int32)) % (7 : Int32))), .val (.int (own_loop (own_g [(z6.toInt8.toInt32), (z13.toInt8.toInt32), (z20.toInt8.toInt32), (z27.toInt8.toInt32), (z34.toInt8.toInt32), (z41.toInt8.toInt32)]) ((p3 &&& (2147483647 : Int32)) % (7 : Int32)) (6 - ((p2 &&& (2147483647 : Int32)) % (7 : Int32)).toInt.toNat) (-1 : Int32) ((p2 &&& (2147483647 : Int32)) % (7 : Int32)))), .val (.int (own_first (own_g [(z6.toInt8.toInt32), (z13.toInt8.toInt32), (z20.toInt8.toInt32), (z27.toInt8.toInt32), (z34.toInt8.toInt32), (z41.toInt8.toInt32)]) (-1 : Int32) (0 : Int32) ((p2 &&& (2147483647 : Int32)) % (7 : Int32)) ((p3 &&& (2147483647 : Int32)) % (7 : Int32))))] [(.ref b2), (.int (own_first (own_g [(z6.toInt8.toInt32), (z13.toInt8.toInt32), (z20.toInt8.toInt32), (z27.toInt8.toInt32), (z34.toInt8.toInt32), (z41.toInt8.toInt32)]) (-1 : Int32) (0 : Int32) ((p2 &&& (2147483647 : Int32)) % (7 : Int32)) ((p3 &&& (2147483647 : Int32)) % (7 : Int32))))])) t
    refine XS.iconst X51.here hx rfl (hb hby at_117) ?_
    show Steps p.tables e below (T51.setTop (mkF m 118 #[.val (.int p1), .val (.long q1), .second, .val (.int p2), .val (.int p3), .val (.ref b2), .val (.int ((p2 &&& (2147483647 : Int32)) % (7 : Int32))), .val (.int ((p3 &&& (2147483647 : Int32)) % (7 : Int32))), .val (.int (own_loop (own_g [(z6.toInt8.toInt32), (z13.toInt8.toInt32), (z20.toInt8.toInt32), (z27.toInt8.toInt32), (z34.toInt8.toInt32), (z41.toInt8.toInt32)]) ((p3 &&& (2147483647 : Int32)) % (7 : Int32)) (6 - ((p2 &&& (2147483647 : Int32)) % (7 : Int32)).toInt.toNat) (-1 : Int32) ((p2 &&& (2147483647 : Int32)) % (7 : Int32)))), .val (.int (own_first (own_g [(z6.toInt8.toInt32), (z13.toInt8.toInt32), (z20.toInt8.toInt32), (z27.toInt8.toInt32), (z34.toInt8.toInt32), (z41.toInt8.toInt32)]) (-1 : Int32) (0 : Int32) ((p2 &&& (2147483647 : Int32)) % (7 : Int32)) ((p3 &&& (2147483647 : Int32)) % (7 : Int32))))] [(.int (1 : Int32)), (.ref b2), (.int (own_first (own_g [(z6.toInt8.toInt32), (z13.toInt8.toInt32), (z20.toInt8.toInt32), (z27.toInt8.toInt32), (z34.toInt8.toInt32), (z41.toInt8.toInt32)]) (-1 : Int32) (0 : Int32) ((p2 &&& (2147483647 : Int32)) % (7 : Int32)) ((p3 &&& (2147483647 : Int32)) % (7 : Int32))))])) t
    refine XS.iload X51.here hx rfl (hb hby at_118) rfl ?_
    show Steps p.tables e below (T51.setTop (mkF m 120 #[.val (.int p1), .val (.long q1), .second, .val (.int p2), .val (.int p3), .val (.ref b2), .val (.int ((p2 &&& (2147483647 : Int32)) % (7 : Int32))), .val (.int ((p3 &&& (2147483647 : Int32)) % (7 : Int32))), .val (.int (own_loop (own_g [(z6.toInt8.toInt32), (z13.toInt8.toInt32), (z20.toInt8.toInt32), (z27.toInt8.toInt32), (z34.toInt8.toInt32), (z41.toInt8.toInt32)]) ((p3 &&& (2147483647 : Int32)) % (7 : Int32)) (6 - ((p2 &&& (2147483647 : Int32)) % (7 : Int32)).toInt.toNat) (-1 : Int32) ((p2 &&& (2147483647 : Int32)) % (7 : Int32)))), .val (.int (own_first (own_g [(z6.toInt8.toInt32), (z13.toInt8.toInt32), (z20.toInt8.toInt32), (z27.toInt8.toInt32), (z34.toInt8.toInt32), (z41.toInt8.toInt32)]) (-1 : Int32) (0 : Int32) ((p2 &&& (2147483647 : Int32)) % (7 : Int32)) ((p3 &&& (2147483647 : Int32)) % (7 : Int32))))] [(.int ((p2 &&& (2147483647 : Int32)) % (7 : Int32))), (.int (1 : Int32)), (.ref b2), (.int (own_first (own_g [(z6.toInt8.toInt32), (z13.toInt8.toInt32), (z20.toInt8.toInt32), (z27.toInt8.toInt32), (z34.toInt8.toInt32), (z41.toInt8.toInt32)]) (-1 : Int32) (0 : Int32) ((p2 &&& (2147483647 : Int32)) % (7 : Int32)) ((p3 &&& (2147483647 : Int32)) % (7 : Int32))))])) t
    refine XS.iload X51.here hx rfl (hb hby at_120) rfl ?_
    exact kt
  obtain ⟨_, _, ⟨T54, L54, k54c, n54⟩, -, X54, ⟨Lc54, hQ54, l54, y54, z54⟩, st54⟩ := Jvm.LawKit.callS X51 hx (y := (⟨"com/example/ruleward/ruleward/http/HttpHeadEndPinLaw", "first", "(I[BIII)I"⟩ : MethodName)) hown (mvT hZ (hw _ (List.mem_of_getElem? (i := 10) rfl))) (mvT hZ (hw _ (List.mem_of_getElem? (i := 11) rfl))) (mvT hZ (hw _ (List.mem_of_getElem? (i := 3) rfl))) (mvT hZ (hw _ (List.mem_of_getElem? (i := 12) rfl))) (by decide) (backOf (W := 0) (rmF l Z a0 hw [] (own_first (own_g [(z6.toInt8.toInt32), (z13.toInt8.toInt32), (z20.toInt8.toInt32), (z27.toInt8.toInt32), (z34.toInt8.toInt32), (z41.toInt8.toInt32)]) (-1 : Int32) (0 : Int32) ((p2 &&& (2147483647 : Int32)) % (7 : Int32)) ((p3 &&& (2147483647 : Int32)) % (7 : Int32))) b2 c2 [(.int (z6.toInt8.toInt32)), (.int (z13.toInt8.toInt32)), (.int (z20.toInt8.toInt32)), (.int (z27.toInt8.toInt32)), (.int (z34.toInt8.toInt32)), (.int (z41.toInt8.toInt32))] (own_g [(z6.toInt8.toInt32), (z13.toInt8.toInt32), (z20.toInt8.toInt32), (z27.toInt8.toInt32), (z34.toInt8.toInt32), (z41.toInt8.toInt32)]) (1 : Int32) ((p2 &&& (2147483647 : Int32)) % (7 : Int32)) ((p3 &&& (2147483647 : Int32)) % (7 : Int32)) h43 n0 Z43 F44 (fun j _ => own_getg [(z6.toInt8.toInt32), (z13.toInt8.toInt32), (z20.toInt8.toInt32), (z27.toInt8.toInt32), (z34.toInt8.toInt32), (z41.toInt8.toInt32)] j) (by decide) (own_m7 _).2) hZ (hw _ (List.mem_of_getElem? (i := 12) rfl)) (hw _ (List.mem_of_getElem? (i := 3) rfl)) (by decide) (by decide)) (g := (mkF m 122 #[.val (.int p1), .val (.long q1), .second, .val (.int p2), .val (.int p3), .val (.ref b2), .val (.int ((p2 &&& (2147483647 : Int32)) % (7 : Int32))), .val (.int ((p3 &&& (2147483647 : Int32)) % (7 : Int32))), .val (.int (own_loop (own_g [(z6.toInt8.toInt32), (z13.toInt8.toInt32), (z20.toInt8.toInt32), (z27.toInt8.toInt32), (z34.toInt8.toInt32), (z41.toInt8.toInt32)]) ((p3 &&& (2147483647 : Int32)) % (7 : Int32)) (6 - ((p2 &&& (2147483647 : Int32)) % (7 : Int32)).toInt.toNat) (-1 : Int32) ((p2 &&& (2147483647 : Int32)) % (7 : Int32)))), .val (.int (own_first (own_g [(z6.toInt8.toInt32), (z13.toInt8.toInt32), (z20.toInt8.toInt32), (z27.toInt8.toInt32), (z34.toInt8.toInt32), (z41.toInt8.toInt32)]) (-1 : Int32) (0 : Int32) ((p2 &&& (2147483647 : Int32)) % (7 : Int32)) ((p3 &&& (2147483647 : Int32)) % (7 : Int32))))] [(.int ((p3 &&& (2147483647 : Int32)) % (7 : Int32))), (.int ((p2 &&& (2147483647 : Int32)) % (7 : Int32))), (.int (1 : Int32)), (.ref b2), (.int (own_first (own_g [(z6.toInt8.toInt32), (z13.toInt8.toInt32), (z20.toInt8.toInt32), (z27.toInt8.toInt32), (z34.toInt8.toInt32), (z41.toInt8.toInt32)]) (-1 : Int32) (0 : Int32) ((p2 &&& (2147483647 : Int32)) % (7 : Int32)) ((p3 &&& (2147483647 : Int32)) % (7 : Int32))))])) rfl (by rw [hml]; rfl) (argsL := [(.int (own_first (own_g [(z6.toInt8.toInt32), (z13.toInt8.toInt32), (z20.toInt8.toInt32), (z27.toInt8.toInt32), (z34.toInt8.toInt32), (z41.toInt8.toInt32)]) (-1 : Int32) (0 : Int32) ((p2 &&& (2147483647 : Int32)) % (7 : Int32)) ((p3 &&& (2147483647 : Int32)) % (7 : Int32)))), (.ref b2), (.int (1 : Int32)), (.int ((p2 &&& (2147483647 : Int32)) % (7 : Int32))), (.int ((p3 &&& (2147483647 : Int32)) % (7 : Int32)))]) (rest := []) (lenOf own_pd2 rfl) rfl (by show 2 * 0 + _ ≤ _; exact Nat.le_of_eq rfl) (hb hby at_122) (fun _ _ => ⟨rfl, e51, (by decide : 1 + 0 ≤ _), (by decide : 6 + 0 ≤ _)⟩)
  dsimp only [Pt.U, Pt.locs, Pt.cells, Pt.slots] at X54 l54 y54 z54 st54 hQ54
  subst l54 y54 z54
  obtain ⟨rfl, N54q, e54⟩ := hQ54
  have N54 := Fr.app N51 N54q
  have k55 : ∀ t, Steps p.tables e below (T54.setTop (mkF m 125 #[.val (.int p1), .val (.long q1), .second, .val (.int p2), .val (.int p3), .val (.ref b2), .val (.int ((p2 &&& (2147483647 : Int32)) % (7 : Int32))), .val (.int ((p3 &&& (2147483647 : Int32)) % (7 : Int32))), .val (.int (own_loop (own_g [(z6.toInt8.toInt32), (z13.toInt8.toInt32), (z20.toInt8.toInt32), (z27.toInt8.toInt32), (z34.toInt8.toInt32), (z41.toInt8.toInt32)]) ((p3 &&& (2147483647 : Int32)) % (7 : Int32)) (6 - ((p2 &&& (2147483647 : Int32)) % (7 : Int32)).toInt.toNat) (-1 : Int32) ((p2 &&& (2147483647 : Int32)) % (7 : Int32)))), .val (.int (own_first (own_g [(z6.toInt8.toInt32), (z13.toInt8.toInt32), (z20.toInt8.toInt32), (z27.toInt8.toInt32), (z34.toInt8.toInt32), (z41.toInt8.toInt32)]) (-1 : Int32) (0 : Int32) ((p2 &&& (2147483647 : Int32)) % (7 : Int32)) ((p3 &&& (2147483647 : Int32)) % (7 : Int32))))] [(.int (own_first (own_g [(z6.toInt8.toInt32), (z13.toInt8.toInt32), (z20.toInt8.toInt32), (z27.toInt8.toInt32), (z34.toInt8.toInt32), (z41.toInt8.toInt32)]) (own_first (own_g [(z6.toInt8.toInt32), (z13.toInt8.toInt32), (z20.toInt8.toInt32), (z27.toInt8.toInt32), (z34.toInt8.toInt32), (z41.toInt8.toInt32)]) (-1 : Int32) (0 : Int32) ((p2 &&& (2147483647 : Int32)) % (7 : Int32)) ((p3 &&& (2147483647 : Int32)) % (7 : Int32))) (1 : Int32) ((p2 &&& (2147483647 : Int32)) % (7 : Int32)) ((p3 &&& (2147483647 : Int32)) % (7 : Int32))))])) t → Steps p.tables e below (s₁.setTop (entryFrame m #[(.int p1), (.long q1), (.int p2), (.int p3)] maxLocals)) t := fun t kt => k53 t (st54 t kt)
  have k56 : ∀ t, Steps p.tables e below (T54.setTop (mkF m 136 #[.val (.int p1), .val (.long q1), .second, .val (.int p2), .val (.int p3), .val (.ref b2), .val (.int ((p2 &&& (2147483647 : Int32)) % (7 : Int32))), .val (.int ((p3 &&& (2147483647 : Int32)) % (7 : Int32))), .val (.int (own_loop (own_g [(z6.toInt8.toInt32), (z13.toInt8.toInt32), (z20.toInt8.toInt32), (z27.toInt8.toInt32), (z34.toInt8.toInt32), (z41.toInt8.toInt32)]) ((p3 &&& (2147483647 : Int32)) % (7 : Int32)) (6 - ((p2 &&& (2147483647 : Int32)) % (7 : Int32)).toInt.toNat) (-1 : Int32) ((p2 &&& (2147483647 : Int32)) % (7 : Int32)))), .val (.int (own_first (own_g [(z6.toInt8.toInt32), (z13.toInt8.toInt32), (z20.toInt8.toInt32), (z27.toInt8.toInt32), (z34.toInt8.toInt32), (z41.toInt8.toInt32)]) (own_first (own_g [(z6.toInt8.toInt32), (z13.toInt8.toInt32), (z20.toInt8.toInt32), (z27.toInt8.toInt32), (z34.toInt8.toInt32), (z41.toInt8.toInt32)]) (-1 : Int32) (0 : Int32) ((p2 &&& (2147483647 : Int32)) % (7 : Int32)) ((p3 &&& (2147483647 : Int32)) % (7 : Int32))) (1 : Int32) ((p2 &&& (2147483647 : Int32)) % (7 : Int32)) ((p3 &&& (2147483647 : Int32)) % (7 : Int32))))] [(.int ((p3 &&& (2147483647 : Int32)) % (7 : Int32))), (.int ((p2 &&& (2147483647 : Int32)) % (7 : Int32))), (.int (2 : Int32)), (.ref b2), (.int (own_first (own_g [(z6.toInt8.toInt32), (z13.toInt8.toInt32), (z20.toInt8.toInt32), (z27.toInt8.toInt32), (z34.toInt8.toInt32), (z41.toInt8.toInt32)]) (own_first (own_g [(z6.toInt8.toInt32), (z13.toInt8.toInt32), (z20.toInt8.toInt32), (z27.toInt8.toInt32), (z34.toInt8.toInt32), (z41.toInt8.toInt32)]) (-1 : Int32) (0 : Int32) ((p2 &&& (2147483647 : Int32)) % (7 : Int32)) ((p3 &&& (2147483647 : Int32)) % (7 : Int32))) (1 : Int32) ((p2 &&& (2147483647 : Int32)) % (7 : Int32)) ((p3 &&& (2147483647 : Int32)) % (7 : Int32))))])) t → Steps p.tables e below (s₁.setTop (entryFrame m #[(.int p1), (.long q1), (.int p2), (.int p3)] maxLocals)) t := by
    intro t kt
    refine k55 t ?_
    show Steps p.tables e below (T54.setTop (mkF m 125 #[.val (.int p1), .val (.long q1), .second, .val (.int p2), .val (.int p3), .val (.ref b2), .val (.int ((p2 &&& (2147483647 : Int32)) % (7 : Int32))), .val (.int ((p3 &&& (2147483647 : Int32)) % (7 : Int32))), .val (.int (own_loop (own_g [(z6.toInt8.toInt32), (z13.toInt8.toInt32), (z20.toInt8.toInt32), (z27.toInt8.toInt32), (z34.toInt8.toInt32), (z41.toInt8.toInt32)]) ((p3 &&& (2147483647 : Int32)) % (7 : Int32)) (6 - ((p2 &&& (2147483647 : Int32)) % (7 : Int32)).toInt.toNat) (-1 : Int32) ((p2 &&& (2147483647 : Int32)) % (7 : Int32)))), .val (.int (own_first (own_g [(z6.toInt8.toInt32), (z13.toInt8.toInt32), (z20.toInt8.toInt32), (z27.toInt8.toInt32), (z34.toInt8.toInt32), (z41.toInt8.toInt32)]) (-1 : Int32) (0 : Int32) ((p2 &&& (2147483647 : Int32)) % (7 : Int32)) ((p3 &&& (2147483647 : Int32)) % (7 : Int32))))] [(.int (own_first (own_g [(z6.toInt8.toInt32), (z13.toInt8.toInt32), (z20.toInt8.toInt32), (z27.toInt8.toInt32), (z34.toInt8.toInt32), (z41.toInt8.toInt32)]) (own_first (own_g [(z6.toInt8.toInt32), (z13.toInt8.toInt32), (z20.toInt8.toInt32), (z27.toInt8.toInt32), (z34.toInt8.toInt32), (z41.toInt8.toInt32)]) (-1 : Int32) (0 : Int32) ((p2 &&& (2147483647 : Int32)) % (7 : Int32)) ((p3 &&& (2147483647 : Int32)) % (7 : Int32))) (1 : Int32) ((p2 &&& (2147483647 : Int32)) % (7 : Int32)) ((p3 &&& (2147483647 : Int32)) % (7 : Int32))))])) t
    refine XS.istore X54.here hx rfl (hb hby at_125) rfl (l' := #[.val (.int p1), .val (.long q1), .second, .val (.int p2), .val (.int p3), .val (.ref b2), .val (.int ((p2 &&& (2147483647 : Int32)) % (7 : Int32))), .val (.int ((p3 &&& (2147483647 : Int32)) % (7 : Int32))), .val (.int (own_loop (own_g [(z6.toInt8.toInt32), (z13.toInt8.toInt32), (z20.toInt8.toInt32), (z27.toInt8.toInt32), (z34.toInt8.toInt32), (z41.toInt8.toInt32)]) ((p3 &&& (2147483647 : Int32)) % (7 : Int32)) (6 - ((p2 &&& (2147483647 : Int32)) % (7 : Int32)).toInt.toNat) (-1 : Int32) ((p2 &&& (2147483647 : Int32)) % (7 : Int32)))), .val (.int (own_first (own_g [(z6.toInt8.toInt32), (z13.toInt8.toInt32), (z20.toInt8.toInt32), (z27.toInt8.toInt32), (z34.toInt8.toInt32), (z41.toInt8.toInt32)]) (own_first (own_g [(z6.toInt8.toInt32), (z13.toInt8.toInt32), (z20.toInt8.toInt32), (z27.toInt8.toInt32), (z34.toInt8.toInt32), (z41.toInt8.toInt32)]) (-1 : Int32) (0 : Int32) ((p2 &&& (2147483647 : Int32)) % (7 : Int32)) ((p3 &&& (2147483647 : Int32)) % (7 : Int32))) (1 : Int32) ((p2 &&& (2147483647 : Int32)) % (7 : Int32)) ((p3 &&& (2147483647 : Int32)) % (7 : Int32))))]) rfl ?_
    show Steps p.tables e below (T54.setTop (mkF m 127 #[.val (.int p1), .val (.long q1), .second, .val (.int p2), .val (.int p3), .val (.ref b2), .val (.int ((p2 &&& (2147483647 : Int32)) % (7 : Int32))), .val (.int ((p3 &&& (2147483647 : Int32)) % (7 : Int32))), .val (.int (own_loop (own_g [(z6.toInt8.toInt32), (z13.toInt8.toInt32), (z20.toInt8.toInt32), (z27.toInt8.toInt32), (z34.toInt8.toInt32), (z41.toInt8.toInt32)]) ((p3 &&& (2147483647 : Int32)) % (7 : Int32)) (6 - ((p2 &&& (2147483647 : Int32)) % (7 : Int32)).toInt.toNat) (-1 : Int32) ((p2 &&& (2147483647 : Int32)) % (7 : Int32)))), .val (.int (own_first (own_g [(z6.toInt8.toInt32), (z13.toInt8.toInt32), (z20.toInt8.toInt32), (z27.toInt8.toInt32), (z34.toInt8.toInt32), (z41.toInt8.toInt32)]) (own_first (own_g [(z6.toInt8.toInt32), (z13.toInt8.toInt32), (z20.toInt8.toInt32), (z27.toInt8.toInt32), (z34.toInt8.toInt32), (z41.toInt8.toInt32)]) (-1 : Int32) (0 : Int32) ((p2 &&& (2147483647 : Int32)) % (7 : Int32)) ((p3 &&& (2147483647 : Int32)) % (7 : Int32))) (1 : Int32) ((p2 &&& (2147483647 : Int32)) % (7 : Int32)) ((p3 &&& (2147483647 : Int32)) % (7 : Int32))))] [])) t
    refine XS.iload X54.here hx rfl (hb hby at_127) rfl ?_
    show Steps p.tables e below (T54.setTop (mkF m 129 #[.val (.int p1), .val (.long q1), .second, .val (.int p2), .val (.int p3), .val (.ref b2), .val (.int ((p2 &&& (2147483647 : Int32)) % (7 : Int32))), .val (.int ((p3 &&& (2147483647 : Int32)) % (7 : Int32))), .val (.int (own_loop (own_g [(z6.toInt8.toInt32), (z13.toInt8.toInt32), (z20.toInt8.toInt32), (z27.toInt8.toInt32), (z34.toInt8.toInt32), (z41.toInt8.toInt32)]) ((p3 &&& (2147483647 : Int32)) % (7 : Int32)) (6 - ((p2 &&& (2147483647 : Int32)) % (7 : Int32)).toInt.toNat) (-1 : Int32) ((p2 &&& (2147483647 : Int32)) % (7 : Int32)))), .val (.int (own_first (own_g [(z6.toInt8.toInt32), (z13.toInt8.toInt32), (z20.toInt8.toInt32), (z27.toInt8.toInt32), (z34.toInt8.toInt32), (z41.toInt8.toInt32)]) (own_first (own_g [(z6.toInt8.toInt32), (z13.toInt8.toInt32), (z20.toInt8.toInt32), (z27.toInt8.toInt32), (z34.toInt8.toInt32), (z41.toInt8.toInt32)]) (-1 : Int32) (0 : Int32) ((p2 &&& (2147483647 : Int32)) % (7 : Int32)) ((p3 &&& (2147483647 : Int32)) % (7 : Int32))) (1 : Int32) ((p2 &&& (2147483647 : Int32)) % (7 : Int32)) ((p3 &&& (2147483647 : Int32)) % (7 : Int32))))] [(.int (own_first (own_g [(z6.toInt8.toInt32), (z13.toInt8.toInt32), (z20.toInt8.toInt32), (z27.toInt8.toInt32), (z34.toInt8.toInt32), (z41.toInt8.toInt32)]) (own_first (own_g [(z6.toInt8.toInt32), (z13.toInt8.toInt32), (z20.toInt8.toInt32), (z27.toInt8.toInt32), (z34.toInt8.toInt32), (z41.toInt8.toInt32)]) (-1 : Int32) (0 : Int32) ((p2 &&& (2147483647 : Int32)) % (7 : Int32)) ((p3 &&& (2147483647 : Int32)) % (7 : Int32))) (1 : Int32) ((p2 &&& (2147483647 : Int32)) % (7 : Int32)) ((p3 &&& (2147483647 : Int32)) % (7 : Int32))))])) t
    refine XS.aload X54.here hx rfl (hb hby at_129) rfl rfl ?_
    show Steps p.tables e below (T54.setTop (mkF m 131 #[.val (.int p1), .val (.long q1), .second, .val (.int p2), .val (.int p3), .val (.ref b2), .val (.int ((p2 &&& (2147483647 : Int32)) % (7 : Int32))), .val (.int ((p3 &&& (2147483647 : Int32)) % (7 : Int32))), .val (.int (own_loop (own_g [(z6.toInt8.toInt32), (z13.toInt8.toInt32), (z20.toInt8.toInt32), (z27.toInt8.toInt32), (z34.toInt8.toInt32), (z41.toInt8.toInt32)]) ((p3 &&& (2147483647 : Int32)) % (7 : Int32)) (6 - ((p2 &&& (2147483647 : Int32)) % (7 : Int32)).toInt.toNat) (-1 : Int32) ((p2 &&& (2147483647 : Int32)) % (7 : Int32)))), .val (.int (own_first (own_g [(z6.toInt8.toInt32), (z13.toInt8.toInt32), (z20.toInt8.toInt32), (z27.toInt8.toInt32), (z34.toInt8.toInt32), (z41.toInt8.toInt32)]) (own_first (own_g [(z6.toInt8.toInt32), (z13.toInt8.toInt32), (z20.toInt8.toInt32), (z27.toInt8.toInt32), (z34.toInt8.toInt32), (z41.toInt8.toInt32)]) (-1 : Int32) (0 : Int32) ((p2 &&& (2147483647 : Int32)) % (7 : Int32)) ((p3 &&& (2147483647 : Int32)) % (7 : Int32))) (1 : Int32) ((p2 &&& (2147483647 : Int32)) % (7 : Int32)) ((p3 &&& (2147483647 : Int32)) % (7 : Int32))))] [(.ref b2), (.int (own_first (own_g [(z6.toInt8.toInt32), (z13.toInt8.toInt32), (z20.toInt8.toInt32), (z27.toInt8.toInt32), (z34.toInt8.toInt32), (z41.toInt8.toInt32)]) (own_first (own_g [(z6.toInt8.toInt32), (z13.toInt8.toInt32), (z20.toInt8.toInt32), (z27.toInt8.toInt32), (z34.toInt8.toInt32), (z41.toInt8.toInt32)]) (-1 : Int32) (0 : Int32) ((p2 &&& (2147483647 : Int32)) % (7 : Int32)) ((p3 &&& (2147483647 : Int32)) % (7 : Int32))) (1 : Int32) ((p2 &&& (2147483647 : Int32)) % (7 : Int32)) ((p3 &&& (2147483647 : Int32)) % (7 : Int32))))])) t
    refine XS.iconst X54.here hx rfl (hb hby at_131) ?_
    show Steps p.tables e below (T54.setTop (mkF m 132 #[.val (.int p1), .val (.long q1), .second, .val (.int p2), .val (.int p3), .val (.ref b2), .val (.int ((p2 &&& (2147483647 : Int32)) % (7 : Int32))), .val (.int ((p3 &&& (2147483647 : Int32)) % (7 : Int32))), .val (.int (own_loop (own_g [(z6.toInt8.toInt32), (z13.toInt8.toInt32), (z20.toInt8.toInt32), (z27.toInt8.toInt32), (z34.toInt8.toInt32), (z41.toInt8.toInt32)]) ((p3 &&& (2147483647 : Int32)) % (7 : Int32)) (6 - ((p2 &&& (2147483647 : Int32)) % (7 : Int32)).toInt.toNat) (-1 : Int32) ((p2 &&& (2147483647 : Int32)) % (7 : Int32)))), .val (.int (own_first (own_g [(z6.toInt8.toInt32), (z13.toInt8.toInt32), (z20.toInt8.toInt32), (z27.toInt8.toInt32), (z34.toInt8.toInt32), (z41.toInt8.toInt32)]) (own_first (own_g [(z6.toInt8.toInt32), (z13.toInt8.toInt32), (z20.toInt8.toInt32), (z27.toInt8.toInt32), (z34.toInt8.toInt32), (z41.toInt8.toInt32)]) (-1 : Int32) (0 : Int32) ((p2 &&& (2147483647 : Int32)) % (7 : Int32)) ((p3 &&& (2147483647 : Int32)) % (7 : Int32))) (1 : Int32) ((p2 &&& (2147483647 : Int32)) % (7 : Int32)) ((p3 &&& (2147483647 : Int32)) % (7 : Int32))))] [(.int (2 : Int32)), (.ref b2), (.int (own_first (own_g [(z6.toInt8.toInt32), (z13.toInt8.toInt32), (z20.toInt8.toInt32), (z27.toInt8.toInt32), (z34.toInt8.toInt32), (z41.toInt8.toInt32)]) (own_first (own_g [(z6.toInt8.toInt32), (z13.toInt8.toInt32), (z20.toInt8.toInt32), (z27.toInt8.toInt32), (z34.toInt8.toInt32), (z41.toInt8.toInt32)]) (-1 : Int32) (0 : Int32) ((p2 &&& (2147483647 : Int32)) % (7 : Int32)) ((p3 &&& (2147483647 : Int32)) % (7 : Int32))) (1 : Int32) ((p2 &&& (2147483647 : Int32)) % (7 : Int32)) ((p3 &&& (2147483647 : Int32)) % (7 : Int32))))])) t
    refine XS.iload X54.here hx rfl (hb hby at_132) rfl ?_
    show Steps p.tables e below (T54.setTop (mkF m 134 #[.val (.int p1), .val (.long q1), .second, .val (.int p2), .val (.int p3), .val (.ref b2), .val (.int ((p2 &&& (2147483647 : Int32)) % (7 : Int32))), .val (.int ((p3 &&& (2147483647 : Int32)) % (7 : Int32))), .val (.int (own_loop (own_g [(z6.toInt8.toInt32), (z13.toInt8.toInt32), (z20.toInt8.toInt32), (z27.toInt8.toInt32), (z34.toInt8.toInt32), (z41.toInt8.toInt32)]) ((p3 &&& (2147483647 : Int32)) % (7 : Int32)) (6 - ((p2 &&& (2147483647 : Int32)) % (7 : Int32)).toInt.toNat) (-1 : Int32) ((p2 &&& (2147483647 : Int32)) % (7 : Int32)))), .val (.int (own_first (own_g [(z6.toInt8.toInt32), (z13.toInt8.toInt32), (z20.toInt8.toInt32), (z27.toInt8.toInt32), (z34.toInt8.toInt32), (z41.toInt8.toInt32)]) (own_first (own_g [(z6.toInt8.toInt32), (z13.toInt8.toInt32), (z20.toInt8.toInt32), (z27.toInt8.toInt32), (z34.toInt8.toInt32), (z41.toInt8.toInt32)]) (-1 : Int32) (0 : Int32) ((p2 &&& (2147483647 : Int32)) % (7 : Int32)) ((p3 &&& (2147483647 : Int32)) % (7 : Int32))) (1 : Int32) ((p2 &&& (2147483647 : Int32)) % (7 : Int32)) ((p3 &&& (2147483647 : Int32)) % (7 : Int32))))] [(.int ((p2 &&& (2147483647 : Int32)) % (7 : Int32))), (.int (2 : Int32)), (.ref b2), (.int (own_first (own_g [(z6.toInt8.toInt32), (z13.toInt8.toInt32), (z20.toInt8.toInt32), (z27.toInt8.toInt32), (z34.toInt8.toInt32), (z41.toInt8.toInt32)]) (own_first (own_g [(z6.toInt8.toInt32), (z13.toInt8.toInt32), (z20.toInt8.toInt32), (z27.toInt8.toInt32), (z34.toInt8.toInt32), (z41.toInt8.toInt32)]) (-1 : Int32) (0 : Int32) ((p2 &&& (2147483647 : Int32)) % (7 : Int32)) ((p3 &&& (2147483647 : Int32)) % (7 : Int32))) (1 : Int32) ((p2 &&& (2147483647 : Int32)) % (7 : Int32)) ((p3 &&& (2147483647 : Int32)) % (7 : Int32))))])) t
    refine XS.iload X54.here hx rfl (hb hby at_134) rfl ?_
    exact kt
  obtain ⟨_, _, ⟨T57, L57, k57c, n57⟩, -, X57, ⟨Lc57, hQ57, l57, y57, z57⟩, st57⟩ := Jvm.LawKit.callS X54 hx (y := (⟨"com/example/ruleward/ruleward/http/HttpHeadEndPinLaw", "first", "(I[BIII)I"⟩ : MethodName)) hown (mvT hZ (hw _ (List.mem_of_getElem? (i := 10) rfl))) (mvT hZ (hw _ (List.mem_of_getElem? (i := 11) rfl))) (mvT hZ (hw _ (List.mem_of_getElem? (i := 3) rfl))) (mvT hZ (hw _ (List.mem_of_getElem? (i := 12) rfl))) (by decide) (backOf (W := 0) (rmF l Z a0 hw [] (own_first (own_g [(z6.toInt8.toInt32), (z13.toInt8.toInt32), (z20.toInt8.toInt32), (z27.toInt8.toInt32), (z34.toInt8.toInt32), (z41.toInt8.toInt32)]) (own_first (own_g [(z6.toInt8.toInt32), (z13.toInt8.toInt32), (z20.toInt8.toInt32), (z27.toInt8.toInt32), (z34.toInt8.toInt32), (z41.toInt8.toInt32)]) (-1 : Int32) (0 : Int32) ((p2 &&& (2147483647 : Int32)) % (7 : Int32)) ((p3 &&& (2147483647 : Int32)) % (7 : Int32))) (1 : Int32) ((p2 &&& (2147483647 : Int32)) % (7 : Int32)) ((p3 &&& (2147483647 : Int32)) % (7 : Int32))) b2 c2 [(.int (z6.toInt8.toInt32)), (.int (z13.toInt8.toInt32)), (.int (z20.toInt8.toInt32)), (.int (z27.toInt8.toInt32)), (.int (z34.toInt8.toInt32)), (.int (z41.toInt8.toInt32))] (own_g [(z6.toInt8.toInt32), (z13.toInt8.toInt32), (z20.toInt8.toInt32), (z27.toInt8.toInt32), (z34.toInt8.toInt32), (z41.toInt8.toInt32)]) (2 : Int32) ((p2 &&& (2147483647 : Int32)) % (7 : Int32)) ((p3 &&& (2147483647 : Int32)) % (7 : Int32)) h43 n0 Z43 F44 (fun j _ => own_getg [(z6.toInt8.toInt32), (z13.toInt8.toInt32), (z20.toInt8.toInt32), (z27.toInt8.toInt32), (z34.toInt8.toInt32), (z41.toInt8.toInt32)] j) (by decide) (own_m7 _).2) hZ (hw _ (List.mem_of_getElem? (i := 12) rfl)) (hw _ (List.mem_of_getElem? (i := 3) rfl)) (by decide) (by decide)) (g := (mkF m 136 #[.val (.int p1), .val (.long q1), .second, .val (.int p2), .val (.int p3), .val (.ref b2), .val (.int ((p2 &&& (2147483647 : Int32)) % (7 : Int32))), .val (.int ((p3 &&& (2147483647 : Int32)) % (7 : Int32))), .val (.int (own_loop (own_g [(z6.toInt8.toInt32), (z13.toInt8.toInt32), (z20.toInt8.toInt32), (z27.toInt8.toInt32), (z34.toInt8.toInt32), (z41.toInt8.toInt32)]) ((p3 &&& (2147483647 : Int32)) % (7 : Int32)) (6 - ((p2 &&& (2147483647 : Int32)) % (7 : Int32)).toInt.toNat) (-1 : Int32) ((p2 &&& (2147483647 : Int32)) % (7 : Int32)))), .val (.int (own_first (own_g [(z6.toInt8.toInt32), (z13.toInt8.toInt32), (z20.toInt8.toInt32), (z27.toInt8.toInt32), (z34.toInt8.toInt32), (z41.toInt8.toInt32)]) (own_first (own_g [(z6.toInt8.toInt32), (z13.toInt8.toInt32), (z20.toInt8.toInt32), (z27.toInt8.toInt32), (z34.toInt8.toInt32), (z41.toInt8.toInt32)]) (-1 : Int32) (0 : Int32) ((p2 &&& (2147483647 : Int32)) % (7 : Int32)) ((p3 &&& (2147483647 : Int32)) % (7 : Int32))) (1 : Int32) ((p2 &&& (2147483647 : Int32)) % (7 : Int32)) ((p3 &&& (2147483647 : Int32)) % (7 : Int32))))] [(.int ((p3 &&& (2147483647 : Int32)) % (7 : Int32))), (.int ((p2 &&& (2147483647 : Int32)) % (7 : Int32))), (.int (2 : Int32)), (.ref b2), (.int (own_first (own_g [(z6.toInt8.toInt32), (z13.toInt8.toInt32), (z20.toInt8.toInt32), (z27.toInt8.toInt32), (z34.toInt8.toInt32), (z41.toInt8.toInt32)]) (own_first (own_g [(z6.toInt8.toInt32), (z13.toInt8.toInt32), (z20.toInt8.toInt32), (z27.toInt8.toInt32), (z34.toInt8.toInt32), (z41.toInt8.toInt32)]) (-1 : Int32) (0 : Int32) ((p2 &&& (2147483647 : Int32)) % (7 : Int32)) ((p3 &&& (2147483647 : Int32)) % (7 : Int32))) (1 : Int32) ((p2 &&& (2147483647 : Int32)) % (7 : Int32)) ((p3 &&& (2147483647 : Int32)) % (7 : Int32))))])) rfl (by rw [hml]; rfl) (argsL := [(.int (own_first (own_g [(z6.toInt8.toInt32), (z13.toInt8.toInt32), (z20.toInt8.toInt32), (z27.toInt8.toInt32), (z34.toInt8.toInt32), (z41.toInt8.toInt32)]) (own_first (own_g [(z6.toInt8.toInt32), (z13.toInt8.toInt32), (z20.toInt8.toInt32), (z27.toInt8.toInt32), (z34.toInt8.toInt32), (z41.toInt8.toInt32)]) (-1 : Int32) (0 : Int32) ((p2 &&& (2147483647 : Int32)) % (7 : Int32)) ((p3 &&& (2147483647 : Int32)) % (7 : Int32))) (1 : Int32) ((p2 &&& (2147483647 : Int32)) % (7 : Int32)) ((p3 &&& (2147483647 : Int32)) % (7 : Int32)))), (.ref b2), (.int (2 : Int32)), (.int ((p2 &&& (2147483647 : Int32)) % (7 : Int32))), (.int ((p3 &&& (2147483647 : Int32)) % (7 : Int32)))]) (rest := []) (lenOf own_pd2 rfl) rfl (by show 2 * 0 + _ ≤ _; exact Nat.le_of_eq rfl) (hb hby at_136) (fun _ _ => ⟨rfl, e54, (by decide : 1 + 0 ≤ _), (by decide : 6 + 0 ≤ _)⟩)
  dsimp only [Pt.U, Pt.locs, Pt.cells, Pt.slots] at X57 l57 y57 z57 st57 hQ57
  subst l57 y57 z57
  obtain ⟨rfl, N57q, e57⟩ := hQ57
  have N57 := Fr.app N54 N57q
  have k58 : ∀ t, Steps p.tables e below (T57.setTop (mkF m 139 #[.val (.int p1), .val (.long q1), .second, .val (.int p2), .val (.int p3), .val (.ref b2), .val (.int ((p2 &&& (2147483647 : Int32)) % (7 : Int32))), .val (.int ((p3 &&& (2147483647 : Int32)) % (7 : Int32))), .val (.int (own_loop (own_g [(z6.toInt8.toInt32), (z13.toInt8.toInt32), (z20.toInt8.toInt32), (z27.toInt8.toInt32), (z34.toInt8.toInt32), (z41.toInt8.toInt32)]) ((p3 &&& (2147483647 : Int32)) % (7 : Int32)) (6 - ((p2 &&& (2147483647 : Int32)) % (7 : Int32)).toInt.toNat) (-1 : Int32) ((p2 &&& (2147483647 : Int32)) % (7 : Int32)))), .val (.int (own_first (own_g [(z6.toInt8.toInt32), (z13.toInt8.toInt32), (z20.toInt8.toInt32), (z27.toInt8.toInt32), (z34.toInt8.toInt32), (z41.toInt8.toInt32)]) (own_first (own_g [(z6.toInt8.toInt32), (z13.toInt8.toInt32), (z20.toInt8.toInt32), (z27.toInt8.toInt32), (z34.toInt8.toInt32), (z41.toInt8.toInt32)]) (-1 : Int32) (0 : Int32) ((p2 &&& (2147483647 : Int32)) % (7 : Int32)) ((p3 &&& (2147483647 : Int32)) % (7 : Int32))) (1 : Int32) ((p2 &&& (2147483647 : Int32)) % (7 : Int32)) ((p3 &&& (2147483647 : Int32)) % (7 : Int32))))] [(.int (own_first (own_g [(z6.toInt8.toInt32), (z13.toInt8.toInt32), (z20.toInt8.toInt32), (z27.toInt8.toInt32), (z34.toInt8.toInt32), (z41.toInt8.toInt32)]) (own_first (own_g [(z6.toInt8.toInt32), (z13.toInt8.toInt32), (z20.toInt8.toInt32), (z27.toInt8.toInt32), (z34.toInt8.toInt32), (z41.toInt8.toInt32)]) (own_first (own_g [(z6.toInt8.toInt32), (z13.toInt8.toInt32), (z20.toInt8.toInt32), (z27.toInt8.toInt32), (z34.toInt8.toInt32), (z41.toInt8.toInt32)]) (-1 : Int32) (0 : Int32) ((p2 &&& (2147483647 : Int32)) % (7 : Int32)) ((p3 &&& (2147483647 : Int32)) % (7 : Int32))) (1 : Int32) ((p2 &&& (2147483647 : Int32)) % (7 : Int32)) ((p3 &&& (2147483647 : Int32)) % (7 : Int32))) (2 : Int32) ((p2 &&& (2147483647 : Int32)) % (7 : Int32)) ((p3 &&& (2147483647 : Int32)) % (7 : Int32))))])) t → Steps p.tables e below (s₁.setTop (entryFrame m #[(.int p1), (.long q1), (.int p2), (.int p3)] maxLocals)) t := fun t kt => k56 t (st57 t kt)
  have k59 : ∀ t, Steps p.tables e below (T57.setTop (mkF m 150 #[.val (.int p1), .val (.long q1), .second, .val (.int p2), .val (.int p3), .val (.ref b2), .val (.int ((p2 &&& (2147483647 : Int32)) % (7 : Int32))), .val (.int ((p3 &&& (2147483647 : Int32)) % (7 : Int32))), .val (.int (own_loop (own_g [(z6.toInt8.toInt32), (z13.toInt8.toInt32), (z20.toInt8.toInt32), (z27.toInt8.toInt32), (z34.toInt8.toInt32), (z41.toInt8.toInt32)]) ((p3 &&& (2147483647 : Int32)) % (7 : Int32)) (6 - ((p2 &&& (2147483647 : Int32)) % (7 : Int32)).toInt.toNat) (-1 : Int32) ((p2 &&& (2147483647 : Int32)) % (7 : Int32)))), .val (.int (own_first (own_g [(z6.toInt8.toInt32), (z13.toInt8.toInt32), (z20.toInt8.toInt32), (z27.toInt8.toInt32), (z34.toInt8.toInt32), (z41.toInt8.toInt32)]) (own_first (own_g [(z6.toInt8.toInt32), (z13.toInt8.toInt32), (z20.toInt8.toInt32), (z27.toInt8.toInt32), (z34.toInt8.toInt32), (z41.toInt8.toInt32)]) (own_first (own_g [(z6.toInt8.toInt32), (z13.toInt8.toInt32), (z20.toInt8.toInt32), (z27.toInt8.toInt32), (z34.toInt8.toInt32), (z41.toInt8.toInt32)]) (-1 : Int32) (0 : Int32) ((p2 &&& (2147483647 : Int32)) % (7 : Int32)) ((p3 &&& (2147483647 : Int32)) % (7 : Int32))) (1 : Int32) ((p2 &&& (2147483647 : Int32)) % (7 : Int32)) ((p3 &&& (2147483647 : Int32)) % (7 : Int32))) (2 : Int32) ((p2 &&& (2147483647 : Int32)) % (7 : Int32)) ((p3 &&& (2147483647 : Int32)) % (7 : Int32))))] [(.int ((p3 &&& (2147483647 : Int32)) % (7 : Int32))), (.int ((p2 &&& (2147483647 : Int32)) % (7 : Int32))), (.int (3 : Int32)), (.ref b2), (.int (own_first (own_g [(z6.toInt8.toInt32), (z13.toInt8.toInt32), (z20.toInt8.toInt32), (z27.toInt8.toInt32), (z34.toInt8.toInt32), (z41.toInt8.toInt32)]) (own_first (own_g [(z6.toInt8.toInt32), (z13.toInt8.toInt32), (z20.toInt8.toInt32), (z27.toInt8.toInt32), (z34.toInt8.toInt32), (z41.toInt8.toInt32)]) (own_first (own_g [(z6.toInt8.toInt32), (z13.toInt8.toInt32), (z20.toInt8.toInt32), (z27.toInt8.toInt32), (z34.toInt8.toInt32), (z41.toInt8.toInt32)]) (-1 : Int32) (0 : Int32) ((p2 &&& (2147483647 : Int32)) % (7 : Int32)) ((p3 &&& (2147483647 : Int32)) % (7 : Int32))) (1 : Int32) ((p2 &&& (2147483647 : Int32)) % (7 : Int32)) ((p3 &&& (2147483647 : Int32)) % (7 : Int32))) (2 : Int32) ((p2 &&& (2147483647 : Int32)) % (7 : Int32)) ((p3 &&& (2147483647 : Int32)) % (7 : Int32))))])) t → Steps p.tables e below (s₁.setTop (entryFrame m #[(.int p1), (.long q1), (.int p2), (.int p3)] maxLocals)) t := by
    intro t kt
    refine k58 t ?_
    show Steps p.tables e below (T57.setTop (mkF m 139 #[.val (.int p1), .val (.long q1), .second, .val (.int p2), .val (.int p3), .val (.ref b2), .val (.int ((p2 &&& (2147483647 : Int32)) % (7 : Int32))), .val (.int ((p3 &&& (2147483647 : Int32)) % (7 : Int32))), .val (.int (own_loop (own_g [(z6.toInt8.toInt32), (z13.toInt8.toInt32), (z20.toInt8.toInt32), (z27.toInt8.toInt32), (z34.toInt8.toInt32), (z41.toInt8.toInt32)]) ((p3 &&& (2147483647 : Int32)) % (7 : Int32)) (6 - ((p2 &&& (2147483647 : Int32)) % (7 : Int32)).toInt.toNat) (-1 : Int32) ((p2 &&& (2147483647 : Int32)) % (7 : Int32)))), .val (.int (own_first (own_g [(z6.toInt8.toInt32), (z13.toInt8.toInt32), (z20.toInt8.toInt32), (z27.toInt8.toInt32), (z34.toInt8.toInt32), (z41.toInt8.toInt32)]) (own_first (own_g [(z6.toInt8.toInt32), (z13.toInt8.toInt32), (z20.toInt8.toInt32), (z27.toInt8.toInt32), (z34.toInt8.toInt32), (z41.toInt8.toInt32)]) (-1 : Int32) (0 : Int32) ((p2 &&& (2147483647 : Int32)) % (7 : Int32)) ((p3 &&& (2147483647 : Int32)) % (7 : Int32))) (1 : Int32) ((p2 &&& (2147483647 : Int32)) % (7 : Int32)) ((p3 &&& (2147483647 : Int32)) % (7 : Int32))))] [(.int (own_first (own_g [(z6.toInt8.toInt32), (z13.toInt8.toInt32), (z20.toInt8.toInt32), (z27.toInt8.toInt32), (z34.toInt8.toInt32), (z41.toInt8.toInt32)]) (own_first (own_g [(z6.toInt8.toInt32), (z13.toInt8.toInt32), (z20.toInt8.toInt32), (z27.toInt8.toInt32), (z34.toInt8.toInt32), (z41.toInt8.toInt32)]) (own_first (own_g [(z6.toInt8.toInt32), (z13.toInt8.toInt32), (z20.toInt8.toInt32), (z27.toInt8.toInt32), (z34.toInt8.toInt32), (z41.toInt8.toInt32)]) (-1 : Int32) (0 : Int32) ((p2 &&& (2147483647 : Int32)) % (7 : Int32)) ((p3 &&& (2147483647 : Int32)) % (7 : Int32))) (1 : Int32) ((p2 &&& (2147483647 : Int32)) % (7 : Int32)) ((p3 &&& (2147483647 : Int32)) % (7 : Int32))) (2 : Int32) ((p2 &&& (2147483647 : Int32)) % (7 : Int32)) ((p3 &&& (2147483647 : Int32)) % (7 : Int32))))])) t
    refine XS.istore X57.here hx rfl (hb hby at_139) rfl (l' := #[.val (.int p1), .val (.long q1), .second, .val (.int p2), .val (.int p3), .val (.ref b2), .val (.int ((p2 &&& (2147483647 : Int32)) % (7 : Int32))), .val (.int ((p3 &&& (2147483647 : Int32)) % (7 : Int32))), .val (.int (own_loop (own_g [(z6.toInt8.toInt32), (z13.toInt8.toInt32), (z20.toInt8.toInt32), (z27.toInt8.toInt32), (z34.toInt8.toInt32), (z41.toInt8.toInt32)]) ((p3 &&& (2147483647 : Int32)) % (7 : Int32)) (6 - ((p2 &&& (2147483647 : Int32)) % (7 : Int32)).toInt.toNat) (-1 : Int32) ((p2 &&& (2147483647 : Int32)) % (7 : Int32)))), .val (.int (own_first (own_g [(z6.toInt8.toInt32), (z13.toInt8.toInt32), (z20.toInt8.toInt32), (z27.toInt8.toInt32), (z34.toInt8.toInt32), (z41.toInt8.toInt32)]) (own_first (own_g [(z6.toInt8.toInt32), (z13.toInt8.toInt32), (z20.toInt8.toInt32), (z27.toInt8.toInt32), (z34.toInt8.toInt32), (z41.toInt8.toInt32)]) (own_first (own_g [(z6.toInt8.toInt32), (z13.toInt8.toInt32), (z20.toInt8.toInt32), (z27.toInt8.toInt32), (z34.toInt8.toInt32), (z41.toInt8.toInt32)]) (-1 : Int32) (0 : Int32) ((p2 &&& (2147483647 : Int32)) % (7 : Int32)) ((p3 &&& (2147483647 : Int32)) % (7 : Int32))) (1 : Int32) ((p2 &&& (2147483647 : Int32)) % (7 : Int32)) ((p3 &&& (2147483647 : Int32)) % (7 : Int32))) (2 : Int32) ((p2 &&& (2147483647 : Int32)) % (7 : Int32)) ((p3 &&& (2147483647 : Int32)) % (7 : Int32))))]) rfl ?_
    show Steps p.tables e below (T57.setTop (mkF m 141 #[.val (.int p1), .val (.long q1), .second, .val (.int p2), .val (.int p3), .val (.ref b2), .val (.int ((p2 &&& (2147483647 : Int32)) % (7 : Int32))), .val (.int ((p3 &&& (2147483647 : Int32)) % (7 : Int32))), .val (.int (own_loop (own_g [(z6.toInt8.toInt32), (z13.toInt8.toInt32), (z20.toInt8.toInt32), (z27.toInt8.toInt32), (z34.toInt8.toInt32), (z41.toInt8.toInt32)]) ((p3 &&& (2147483647 : Int32)) % (7 : Int32)) (6 - ((p2 &&& (2147483647 : Int32)) % (7 : Int32)).toInt.toNat) (-1 : Int32) ((p2 &&& (2147483647 : Int32)) % (7 : Int32)))), .val (.int (own_first (own_g [(z6.toInt8.toInt32), (z13.toInt8.toInt32), (z20.toInt8.toInt32), (z27.toInt8.toInt32), (z34.toInt8.toInt32), (z41.toInt8.toInt32)]) (own_first (own_g [(z6.toInt8.toInt32), (z13.toInt8.toInt32), (z20.toInt8.toInt32), (z27.toInt8.toInt32), (z34.toInt8.toInt32), (z41.toInt8.toInt32)]) (own_first (own_g [(z6.toInt8.toInt32), (z13.toInt8.toInt32), (z20.toInt8.toInt32), (z27.toInt8.toInt32), (z34.toInt8.toInt32), (z41.toInt8.toInt32)]) (-1 : Int32) (0 : Int32) ((p2 &&& (2147483647 : Int32)) % (7 : Int32)) ((p3 &&& (2147483647 : Int32)) % (7 : Int32))) (1 : Int32) ((p2 &&& (2147483647 : Int32)) % (7 : Int32)) ((p3 &&& (2147483647 : Int32)) % (7 : Int32))) (2 : Int32) ((p2 &&& (2147483647 : Int32)) % (7 : Int32)) ((p3 &&& (2147483647 : Int32)) % (7 : Int32))))] [])) t
    refine XS.iload X57.here hx rfl (hb hby at_141) rfl ?_
    show Steps p.tables e below (T57.setTop (mkF m 143 #[.val (.int p1), .val (.long q1), .second, .val (.int p2), .val (.int p3), .val (.ref b2), .val (.int ((p2 &&& (2147483647 : Int32)) % (7 : Int32))), .val (.int ((p3 &&& (2147483647 : Int32)) % (7 : Int32))), .val (.int (own_loop (own_g [(z6.toInt8.toInt32), (z13.toInt8.toInt32), (z20.toInt8.toInt32), (z27.toInt8.toInt32), (z34.toInt8.toInt32), (z41.toInt8.toInt32)]) ((p3 &&& (2147483647 : Int32)) % (7 : Int32)) (6 - ((p2 &&& (2147483647 : Int32)) % (7 : Int32)).toInt.toNat) (-1 : Int32) ((p2 &&& (2147483647 : Int32)) % (7 : Int32)))), .val (.int (own_first (own_g [(z6.toInt8.toInt32), (z13.toInt8.toInt32), (z20.toInt8.toInt32), (z27.toInt8.toInt32), (z34.toInt8.toInt32), (z41.toInt8.toInt32)]) (own_first (own_g [(z6.toInt8.toInt32), (z13.toInt8.toInt32), (z20.toInt8.toInt32), (z27.toInt8.toInt32), (z34.toInt8.toInt32), (z41.toInt8.toInt32)]) (own_first (own_g [(z6.toInt8.toInt32), (z13.toInt8.toInt32), (z20.toInt8.toInt32), (z27.toInt8.toInt32), (z34.toInt8.toInt32), (z41.toInt8.toInt32)]) (-1 : Int32) (0 : Int32) ((p2 &&& (2147483647 : Int32)) % (7 : Int32)) ((p3 &&& (2147483647 : Int32)) % (7 : Int32))) (1 : Int32) ((p2 &&& (2147483647 : Int32)) % (7 : Int32)) ((p3 &&& (2147483647 : Int32)) % (7 : Int32))) (2 : Int32) ((p2 &&& (2147483647 : Int32)) % (7 : Int32)) ((p3 &&& (2147483647 : Int32)) % (7 : Int32))))] [(.int (own_first (own_g [(z6.toInt8.toInt32), (z13.toInt8.toInt32), (z20.toInt8.toInt32), (z27.toInt8.toInt32), (z34.toInt8.toInt32), (z41.toInt8.toInt32)]) (own_first (own_g [(z6.toInt8.toInt32), (z13.toInt8.toInt32), (z20.toInt8.toInt32), (z27.toInt8.toInt32), (z34.toInt8.toInt32), (z41.toInt8.toInt32)]) (own_first (own_g [(z6.toInt8.toInt32), (z13.toInt8.toInt32), (z20.toInt8.toInt32), (z27.toInt8.toInt32), (z34.toInt8.toInt32), (z41.toInt8.toInt32)]) (-1 : Int32) (0 : Int32) ((p2 &&& (2147483647 : Int32)) % (7 : Int32)) ((p3 &&& (2147483647 : Int32)) % (7 : Int32))) (1 : Int32) ((p2 &&& (2147483647 : Int32)) % (7 : Int32)) ((p3 &&& (2147483647 : Int32)) % (7 : Int32))) (2 : Int32) ((p2 &&& (2147483647 : Int32)) % (7 : Int32)) ((p3 &&& (2147483647 : Int32)) % (7 : Int32))))])) t
    refine XS.aload X57.here hx rfl (hb hby at_143) rfl rfl ?_
    show Steps p.tables e below (T57.setTop (mkF m 145 #[.val (.int p1), .val (.long q1), .second, .val (.int p2), .val (.int p3), .val (.ref b2), .val (.int ((p2 &&& (2147483647 : Int32)) % (7 : Int32))), .val (.int ((p3 &&& (2147483647 : Int32)) % (7 : Int32))), .val (.int (own_loop (own_g [(z6.toInt8.toInt32), (z13.toInt8.toInt32), (z20.toInt8.toInt32), (z27.toInt8.toInt32), (z34.toInt8.toInt32), (z41.toInt8.toInt32)]) ((p3 &&& (2147483647 : Int32)) % (7 : Int32)) (6 - ((p2 &&& (2147483647 : Int32)) % (7 : Int32)).toInt.toNat) (-1 : Int32) ((p2 &&& (2147483647 : Int32)) % (7 : Int32)))), .val (.int (own_first (own_g [(z6.toInt8.toInt32), (z13.toInt8.toInt32), (z20.toInt8.toInt32), (z27.toInt8.toInt32), (z34.toInt8.toInt32), (z41.toInt8.toInt32)]) (own_first (own_g [(z6.toInt8.toInt32), (z13.toInt8.toInt32), (z20.toInt8.toInt32), (z27.toInt8.toInt32), (z34.toInt8.toInt32), (z41.toInt8.toInt32)]) (own_first (own_g [(z6.toInt8.toInt32), (z13.toInt8.toInt32), (z20.toInt8.toInt32), (z27.toInt8.toInt32), (z34.toInt8.toInt32), (z41.toInt8.toInt32)]) (-1 : Int32) (0 : Int32) ((p2 &&& (2147483647 : Int32)) % (7 : Int32)) ((p3 &&& (2147483647 : Int32)) % (7 : Int32))) (1 : Int32) ((p2 &&& (2147483647 : Int32)) % (7 : Int32)) ((p3 &&& (2147483647 : Int32)) % (7 : Int32))) (2 : Int32) ((p2 &&& (2147483647 : Int32)) % (7 : Int32)) ((p3 &&& (2147483647 : Int32)) % (7 : Int32))))] [(.ref b2), (.int (own_first (own_g [(z6.toInt8.toInt32), (z13.toInt8.toInt32), (z20.toInt8.toInt32), (z27.toInt8.toInt32), (z34.toInt8.toInt32), (z41.toInt8.toInt32)]) (own_first (own_g [(z6.toInt8.toInt32), (z13.toInt8.toInt32), (z20.toInt8.toInt32), (z27.toInt8.toInt32), (z34.toInt8.toInt32), (z41.toInt8.toInt32)]) (own_first (own_g [(z6.toInt8.toInt32), (z13.toInt8.toInt32), (z20.toInt8.toInt32), (z27.toInt8.toInt32), (z34.toInt8.toInt32), (z41.toInt8.toInt32)]) (-1 : Int32) (0 : Int32) ((p2 &&& (2147483647 : Int32)) % (7 : Int32)) ((p3 &&& (2147483647 : Int32)) % (7 : Int32))) (1 : Int32) ((p2 &&& (2147483647 : Int32)) % (7 : Int32)) ((p3 &&& (2147483647 : Int32)) % (7 : Int32))) (2 : Int32) ((p2 &&& (2147483647 : Int32)) % (7 : Int32)) ((p3 &&& (2147483647 : Int32)) % (7 : Int32))))])) t
    refine XS.iconst X57.here hx rfl (hb hby at_145) ?_
    show Steps p.tables e below (T57.setTop (mkF m 146 #[.val (.int p1), .val (.long q1), .second, .val (.int p2), .val (.int p3), .val (.ref b2), .val (.int ((p2 &&& (2147483647 : Int32)) % (7 : Int32))), .val (.int ((p3 &&& (2147483647 : Int32)) % (7 : Int32))), .val (.int (own_loop (own_g [(z6.toInt8.toInt32), (z13.toInt8.toInt32), (z20.toInt8.toInt32), (z27.toInt8.toInt32), (z34.toInt8.toInt32), (z41.toInt8.toInt32)]) ((p3 &&& (2147483647 : Int32)) % (7 : Int32)) (6 - ((p2 &&& (2147483647 : Int32)) % (7 : Int32)).toInt.toNat) (-1 : Int32) ((p2 &&& (2147483647 : Int32)) % (7 : Int32)))), .val (.int (own_first (own_g [(z6.toInt8.toInt32), (z13.toInt8.toInt32), (z20.toInt8.toInt32), (z27.toInt8.toInt32), (z34.toInt8.toInt32), (z41.toInt8.toInt32)]) (own_first (own_g [(z6.toInt8.toInt32), (z13.toInt8.toInt32), (z20.toInt8.toInt32), (z27.toInt8.toInt32), (z34.toInt8.toInt32), (z41.toInt8.toInt32)]) (own_first (own_g [(z6.toInt8.toInt32), (z13.toInt8.toInt32), (z20.toInt8.toInt32), (z27.toInt8.toInt32), (z34.toInt8.toInt32), (z41.toInt8.toInt32)]) (-1 : Int32) (0 : Int32) ((p2 &&& (2147483647 : Int32)) % (7 : Int32)) ((p3 &&& (2147483647 : Int32)) % (7 : Int32))) (1 : Int32) ((p2 &&& (2147483647 : Int32)) % (7 : Int32)) ((p3 &&& (2147483647 : Int32)) % (7 : Int32))) (2 : Int32) ((p2 &&& (2147483647 : Int32)) % (7 : Int32)) ((p3 &&& (2147483647 : Int32)) % (7 : Int32))))] [(.int (3 : Int32)), (.ref b2), (.int (own_first (own_g [(z6.toInt8.toInt32), (z13.toInt8.toInt32), (z20.toInt8.toInt32), (z27.toInt8.toInt32), (z34.toInt8.toInt32), (z41.toInt8.toInt32)]) (own_first (own_g [(z6.toInt8.toInt32), (z13.toInt8.toInt32), (z20.toInt8.toInt32), (z27.toInt8.toInt32), (z34.toInt8.toInt32), (z41.toInt8.toInt32)]) (own_first (own_g [(z6.toInt8.toInt32), (z13.toInt8.toInt32), (z20.toInt8.toInt32), (z27.toInt8.toInt32), (z34.toInt8.toInt32), (z41.toInt8.toInt32)]) (-1 : Int32) (0 : Int32) ((p2 &&& (2147483647 : Int32)) % (7 : Int32)) ((p3 &&& (2147483647 : Int32)) % (7 : Int32))) (1 : Int32) ((p2 &&& (2147483647 : Int32)) % (7 : Int32)) ((p3 &&& (2147483647 : Int32)) % (7 : Int32))) (2 : Int32) ((p2 &&& (2147483647 : Int32)) % (7 : Int32)) ((p3 &&& (2147483647 : Int32)) % (7 : Int32))))])) t
    refine XS.iload X57.here hx rfl (hb hby at_146) rfl ?_
    show Steps p.tables e below (T57.setTop (mkF m 148 #[.val (.int p1), .val (.long q1), .second, .val (.int p2), .val (.int p3), .val (.ref b2), .val (.int ((p2 &&& (2147483647 : Int32)) % (7 : Int32))), .val (.int ((p3 &&& (2147483647 : Int32)) % (7 : Int32))), .val (.int (own_loop (own_g [(z6.toInt8.toInt32), (z13.toInt8.toInt32), (z20.toInt8.toInt32), (z27.toInt8.toInt32), (z34.toInt8.toInt32), (z41.toInt8.toInt32)]) ((p3 &&& (2147483647 : Int32)) % (7 : Int32)) (6 - ((p2 &&& (2147483647 : Int32)) % (7 : Int32)).toInt.toNat) (-1 : Int32) ((p2 &&& (2147483647 : Int32)) % (7 : Int32)))), .val (.int (own_first (own_g [(z6.toInt8.toInt32), (z13.toInt8.toInt32), (z20.toInt8.toInt32), (z27.toInt8.toInt32), (z34.toInt8.toInt32), (z41.toInt8.toInt32)]) (own_first (own_g [(z6.toInt8.toInt32), (z13.toInt8.toInt32), (z20.toInt8.toInt32), (z27.toInt8.toInt32), (z34.toInt8.toInt32), (z41.toInt8.toInt32)]) (own_first (own_g [(z6.toInt8.toInt32), (z13.toInt8.toInt32), (z20.toInt8.toInt32), (z27.toInt8.toInt32), (z34.toInt8.toInt32), (z41.toInt8.toInt32)]) (-1 : Int32) (0 : Int32) ((p2 &&& (2147483647 : Int32)) % (7 : Int32)) ((p3 &&& (2147483647 : Int32)) % (7 : Int32))) (1 : Int32) ((p2 &&& (2147483647 : Int32)) % (7 : Int32)) ((p3 &&& (2147483647 : Int32)) % (7 : Int32))) (2 : Int32) ((p2 &&& (2147483647 : Int32)) % (7 : Int32)) ((p3 &&& (2147483647 : Int32)) % (7 : Int32))))] [(.int ((p2 &&& (2147483647 : Int32)) % (7 : Int32))), (.int (3 : Int32)), (.ref b2), (.int (own_first (own_g [(z6.toInt8.toInt32), (z13.toInt8.toInt32), (z20.toInt8.toInt32), (z27.toInt8.toInt32), (z34.toInt8.toInt32), (z41.toInt8.toInt32)]) (own_first (own_g [(z6.toInt8.toInt32), (z13.toInt8.toInt32), (z20.toInt8.toInt32), (z27.toInt8.toInt32), (z34.toInt8.toInt32), (z41.toInt8.toInt32)]) (own_first (own_g [(z6.toInt8.toInt32), (z13.toInt8.toInt32), (z20.toInt8.toInt32), (z27.toInt8.toInt32), (z34.toInt8.toInt32), (z41.toInt8.toInt32)]) (-1 : Int32) (0 : Int32) ((p2 &&& (2147483647 : Int32)) % (7 : Int32)) ((p3 &&& (2147483647 : Int32)) % (7 : Int32))) (1 : Int32) ((p2 &&& (2147483647 : Int32)) % (7 : Int32)) ((p3 &&& (2147483647 : Int32)) % (7 : Int32))) (2 : Int32) ((p2 &&& (2147483647 : Int32)) % (7 : Int32)) ((p3 &&& (2147483647 : Int32)) % (7 : Int32))))])) t
    refine XS.iload X57.here hx rfl (hb hby at_148) rfl ?_
    exact kt
  obtain ⟨_, _, ⟨T60, L60, k60c, n60⟩, -, X60, ⟨Lc60, hQ60, l60, y60, z60⟩, st60⟩ := Jvm.LawKit.callS X57 hx (y := (⟨"com/example/ruleward/ruleward/http/HttpHeadEndPinLaw", "first", "(I[BIII)I"⟩ : MethodName)) hown (mvT hZ (hw _ (List.mem_of_getElem? (i := 10) rfl))) (mvT hZ (hw _ (List.mem_of_getElem? (i := 11) rfl))) (mvT hZ (hw _ (List.mem_of_getElem? (i := 3) rfl))) (mvT hZ (hw _ (List.mem_of_getElem? (i := 12) rfl))) (by decide) (backOf (W := 0) (rmF l Z a0 hw [] (own_first (own_g [(z6.toInt8.toInt32), (z13.toInt8.toInt32), (z20.toInt8.toInt32), (z27.toInt8.toInt32), (z34.toInt8.toInt32), (z41.toInt8.toInt32)]) (own_first (own_g [(z6.toInt8.toInt32), (z13.toInt8.toInt32), (z20.toInt8.toInt32), (z27.toInt8.toInt32), (z34.toInt8.toInt32), (z41.toInt8.toInt32)]) (own_first (own_g [(z6.toInt8.toInt32), (z13.toInt8.toInt32), (z20.toInt8.toInt32), (z27.toInt8.toInt32), (z34.toInt8.toInt32), (z41.toInt8.toInt32)]) (-1 : Int32) (0 : Int32) ((p2 &&& (2147483647 : Int32)) % (7 : Int32)) ((p3 &&& (2147483647 : Int32)) % (7 : Int32))) (1 : Int32) ((p2 &&& (2147483647 : Int32)) % (7 : Int32)) ((p3 &&& (2147483647 : Int32)) % (7 : Int32))) (2 : Int32) ((p2 &&& (2147483647 : Int32)) % (7 : Int32)) ((p3 &&& (2147483647 : Int32)) % (7 : Int32))) b2 c2 [(.int (z6.toInt8.toInt32)), (.int (z13.toInt8.toInt32)), (.int (z20.toInt8.toInt32)), (.int (z27.toInt8.toInt32)), (.int (z34.toInt8.toInt32)), (.int (z41.toInt8.toInt32))] (own_g [(z6.toInt8.toInt32), (z13.toInt8.toInt32), (z20.toInt8.toInt32), (z27.toInt8.toInt32), (z34.toInt8.toInt32), (z41.toInt8.toInt32)]) (3 : Int32) ((p2 &&& (2147483647 : Int32)) % (7 : Int32)) ((p3 &&& (2147483647 : Int32)) % (7 : Int32)) h43 n0 Z43 F44 (fun j _ => own_getg [(z6.toInt8.toInt32), (z13.toInt8.toInt32), (z20.toInt8.toInt32), (z27.toInt8.toInt32), (z34.toInt8.toInt32), (z41.toInt8.toInt32)] j) (by decide) (own_m7 _).2) hZ (hw _ (List.mem_of_getElem? (i := 12) rfl)) (hw _ (List.mem_of_getElem? (i := 3) rfl)) (by decide) (by decide)) (g := (mkF m 150 #[.val (.int p1), .val (.long q1), .second, .val (.int p2), .val (.int p3), .val (.ref b2), .val (.int ((p2 &&& (2147483647 : Int32)) % (7 : Int32))), .val (.int ((p3 &&& (2147483647 : Int32)) % (7 : Int32))), .val (.int (own_loop (own_g [(z6.toInt8.toInt32), (z13.toInt8.toInt32), (z20.toInt8.toInt32), (z27.toInt8.toInt32), (z34.toInt8.toInt32), (z41.toInt8.toInt32)]) ((p3 &&& (2147483647 : Int32)) % (7 : Int32)) (6 - ((p2 &&& (2147483647 : Int32)) % (7 : Int32)).toInt.toNat) (-1 : Int32) ((p2 &&& (2147483647 : Int32)) % (7 : Int32)))), .val (.int (own_first (own_g [(z6.toInt8.toInt32), (z13.toInt8.toInt32), (z20.toInt8.toInt32), (z27.toInt8.toInt32), (z34.toInt8.toInt32), (z41.toInt8.toInt32)]) (own_first (own_g [(z6.toInt8.toInt32), (z13.toInt8.toInt32), (z20.toInt8.toInt32), (z27.toInt8.toInt32), (z34.toInt8.toInt32), (z41.toInt8.toInt32)]) (own_first (own_g [(z6.toInt8.toInt32), (z13.toInt8.toInt32), (z20.toInt8.toInt32), (z27.toInt8.toInt32), (z34.toInt8.toInt32), (z41.toInt8.toInt32)]) (-1 : Int32) (0 : Int32) ((p2 &&& (2147483647 : Int32)) % (7 : Int32)) ((p3 &&& (2147483647 : Int32)) % (7 : Int32))) (1 : Int32) ((p2 &&& (2147483647 : Int32)) % (7 : Int32)) ((p3 &&& (2147483647 : Int32)) % (7 : Int32))) (2 : Int32) ((p2 &&& (2147483647 : Int32)) % (7 : Int32)) ((p3 &&& (2147483647 : Int32)) % (7 : Int32))))] [(.int ((p3 &&& (2147483647 : Int32)) % (7 : Int32))), (.int ((p2 &&& (2147483647 : Int32)) % (7 : Int32))), (.int (3 : Int32)), (.ref b2), (.int (own_first (own_g [(z6.toInt8.toInt32), (z13.toInt8.toInt32), (z20.toInt8.toInt32), (z27.toInt8.toInt32), (z34.toInt8.toInt32), (z41.toInt8.toInt32)]) (own_first (own_g [(z6.toInt8.toInt32), (z13.toInt8.toInt32), (z20.toInt8.toInt32), (z27.toInt8.toInt32), (z34.toInt8.toInt32), (z41.toInt8.toInt32)]) (own_first (own_g [(z6.toInt8.toInt32), (z13.toInt8.toInt32), (z20.toInt8.toInt32), (z27.toInt8.toInt32), (z34.toInt8.toInt32), (z41.toInt8.toInt32)]) (-1 : Int32) (0 : Int32) ((p2 &&& (2147483647 : Int32)) % (7 : Int32)) ((p3 &&& (2147483647 : Int32)) % (7 : Int32))) (1 : Int32) ((p2 &&& (2147483647 : Int32)) % (7 : Int32)) ((p3 &&& (2147483647 : Int32)) % (7 : Int32))) (2 : Int32) ((p2 &&& (2147483647 : Int32)) % (7 : Int32)) ((p3 &&& (2147483647 : Int32)) % (7 : Int32))))])) rfl (by rw [hml]; rfl) (argsL := [(.int (own_first (own_g [(z6.toInt8.toInt32), (z13.toInt8.toInt32), (z20.toInt8.toInt32), (z27.toInt8.toInt32), (z34.toInt8.toInt32), (z41.toInt8.toInt32)]) (own_first (own_g [(z6.toInt8.toInt32), (z13.toInt8.toInt32), (z20.toInt8.toInt32), (z27.toInt8.toInt32), (z34.toInt8.toInt32), (z41.toInt8.toInt32)]) (own_first (own_g [(z6.toInt8.toInt32), (z13.toInt8.toInt32), (z20.toInt8.toInt32), (z27.toInt8.toInt32), (z34.toInt8.toInt32), (z41.toInt8.toInt32)]) (-1 : Int32) (0 : Int32) ((p2 &&& (2147483647 : Int32)) % (7 : Int32)) ((p3 &&& (2147483647 : Int32)) % (7 : Int32))) (1 : Int32) ((p2 &&& (2147483647 : Int32)) % (7 : Int32)) ((p3 &&& (2147483647 : Int32)) % (7 : Int32))) (2 : Int32) ((p2 &&& (2147483647 : Int32)) % (7 : Int32)) ((p3 &&& (2147483647 : Int32)) % (7 : Int32)))), (.ref b2), (.int (3 : Int32)), (.int ((p2 &&& (2147483647 : Int32)) % (7 : Int32))), (.int ((p3 &&& (2147483647 : Int32)) % (7 : Int32)))]) (rest := []) (lenOf own_pd2 rfl) rfl (by show 2 * 0 + _ ≤ _; exact Nat.le_of_eq rfl) (hb hby at_150) (fun _ _ => ⟨rfl, e57, (by decide : 1 + 0 ≤ _), (by decide : 6 + 0 ≤ _)⟩)
  dsimp only [Pt.U, Pt.locs, Pt.cells, Pt.slots] at X60 l60 y60 z60 st60 hQ60
  subst l60 y60 z60
  obtain ⟨rfl, N60q, e60⟩ := hQ60
  have N60 := Fr.app N57 N60q
  have k61 : ∀ t, Steps p.tables e below (T60.setTop (mkF m 153 #[.val (.int p1), .val (.long q1), .second, .val (.int p2), .val (.int p3), .val (.ref b2), .val (.int ((p2 &&& (2147483647 : Int32)) % (7 : Int32))), .val (.int ((p3 &&& (2147483647 : Int32)) % (7 : Int32))), .val (.int (own_loop (own_g [(z6.toInt8.toInt32), (z13.toInt8.toInt32), (z20.toInt8.toInt32), (z27.toInt8.toInt32), (z34.toInt8.toInt32), (z41.toInt8.toInt32)]) ((p3 &&& (2147483647 : Int32)) % (7 : Int32)) (6 - ((p2 &&& (2147483647 : Int32)) % (7 : Int32)).toInt.toNat) (-1 : Int32) ((p2 &&& (2147483647 : Int32)) % (7 : Int32)))), .val (.int (own_first (own_g [(z6.toInt8.toInt32), (z13.toInt8.toInt32), (z20.toInt8.toInt32), (z27.toInt8.toInt32), (z34.toInt8.toInt32), (z41.toInt8.toInt32)]) (own_first (own_g [(z6.toInt8.toInt32), (z13.toInt8.toInt32), (z20.toInt8.toInt32), (z27.toInt8.toInt32), (z34.toInt8.toInt32), (z41.toInt8.toInt32)]) (own_first (own_g [(z6.toInt8.toInt32), (z13.toInt8.toInt32), (z20.toInt8.toInt32), (z27.toInt8.toInt32), (z34.toInt8.toInt32), (z41.toInt8.toInt32)]) (-1 : Int32) (0 : Int32) ((p2 &&& (2147483647 : Int32)) % (7 : Int32)) ((p3 &&& (2147483647 : Int32)) % (7 : Int32))) (1 : Int32) ((p2 &&& (2147483647 : Int32)) % (7 : Int32)) ((p3 &&& (2147483647 : Int32)) % (7 : Int32))) (2 : Int32) ((p2 &&& (2147483647 : Int32)) % (7 : Int32)) ((p3 &&& (2147483647 : Int32)) % (7 : Int32))))] [(.int (own_first (own_g [(z6.toInt8.toInt32), (z13.toInt8.toInt32), (z20.toInt8.toInt32), (z27.toInt8.toInt32), (z34.toInt8.toInt32), (z41.toInt8.toInt32)]) (own_first (own_g [(z6.toInt8.toInt32), (z13.toInt8.toInt32), (z20.toInt8.toInt32), (z27.toInt8.toInt32), (z34.toInt8.toInt32), (z41.toInt8.toInt32)]) (own_first (own_g [(z6.toInt8.toInt32), (z13.toInt8.toInt32), (z20.toInt8.toInt32), (z27.toInt8.toInt32), (z34.toInt8.toInt32), (z41.toInt8.toInt32)]) (own_first (own_g [(z6.toInt8.toInt32), (z13.toInt8.toInt32), (z20.toInt8.toInt32), (z27.toInt8.toInt32), (z34.toInt8.toInt32), (z41.toInt8.toInt32)]) (-1 : Int32) (0 : Int32) ((p2 &&& (2147483647 : Int32)) % (7 : Int32)) ((p3 &&& (2147483647 : Int32)) % (7 : Int32))) (1 : Int32) ((p2 &&& (2147483647 : Int32)) % (7 : Int32)) ((p3 &&& (2147483647 : Int32)) % (7 : Int32))) (2 : Int32) ((p2 &&& (2147483647 : Int32)) % (7 : Int32)) ((p3 &&& (2147483647 : Int32)) % (7 : Int32))) (3 : Int32) ((p2 &&& (2147483647 : Int32)) % (7 : Int32)) ((p3 &&& (2147483647 : Int32)) % (7 : Int32))))])) t → Steps p.tables e below (s₁.setTop (entryFrame m #[(.int p1), (.long q1), (.int p2), (.int p3)] maxLocals)) t := fun t kt => k59 t (st60 t kt)
  have k62 : ∀ t, Steps p.tables e below (T60.setTop (mkF m 164 #[.val (.int p1), .val (.long q1), .second, .val (.int p2), .val (.int p3), .val (.ref b2), .val (.int ((p2 &&& (2147483647 : Int32)) % (7 : Int32))), .val (.int ((p3 &&& (2147483647 : Int32)) % (7 : Int32))), .val (.int (own_loop (own_g [(z6.toInt8.toInt32), (z13.toInt8.toInt32), (z20.toInt8.toInt32), (z27.toInt8.toInt32), (z34.toInt8.toInt32), (z41.toInt8.toInt32)]) ((p3 &&& (2147483647 : Int32)) % (7 : Int32)) (6 - ((p2 &&& (2147483647 : Int32)) % (7 : Int32)).toInt.toNat) (-1 : Int32) ((p2 &&& (2147483647 : Int32)) % (7 : Int32)))), .val (.int (own_first (own_g [(z6.toInt8.toInt32), (z13.toInt8.toInt32), (z20.toInt8.toInt32), (z27.toInt8.toInt32), (z34.toInt8.toInt32), (z41.toInt8.toInt32)]) (own_first (own_g [(z6.toInt8.toInt32), (z13.toInt8.toInt32), (z20.toInt8.toInt32), (z27.toInt8.toInt32), (z34.toInt8.toInt32), (z41.toInt8.toInt32)]) (own_first (own_g [(z6.toInt8.toInt32), (z13.toInt8.toInt32), (z20.toInt8.toInt32), (z27.toInt8.toInt32), (z34.toInt8.toInt32), (z41.toInt8.toInt32)]) (own_first (own_g [(z6.toInt8.toInt32), (z13.toInt8.toInt32), (z20.toInt8.toInt32), (z27.toInt8.toInt32), (z34.toInt8.toInt32), (z41.toInt8.toInt32)]) (-1 : Int32) (0 : Int32) ((p2 &&& (2147483647 : Int32)) % (7 : Int32)) ((p3 &&& (2147483647 : Int32)) % (7 : Int32))) (1 : Int32) ((p2 &&& (2147483647 : Int32)) % (7 : Int32)) ((p3 &&& (2147483647 : Int32)) % (7 : Int32))) (2 : Int32) ((p2 &&& (2147483647 : Int32)) % (7 : Int32)) ((p3 &&& (2147483647 : Int32)) % (7 : Int32))) (3 : Int32) ((p2 &&& (2147483647 : Int32)) % (7 : Int32)) ((p3 &&& (2147483647 : Int32)) % (7 : Int32))))] [(.int ((p3 &&& (2147483647 : Int32)) % (7 : Int32))), (.int ((p2 &&& (2147483647 : Int32)) % (7 : Int32))), (.int (4 : Int32)), (.ref b2), (.int (own_first (own_g [(z6.toInt8.toInt32), (z13.toInt8.toInt32), (z20.toInt8.toInt32), (z27.toInt8.toInt32), (z34.toInt8.toInt32), (z41.toInt8.toInt32)]) (own_first (own_g [(z6.toInt8.toInt32), (z13.toInt8.toInt32), (z20.toInt8.toInt32), (z27.toInt8.toInt32), (z34.toInt8.toInt32), (z41.toInt8.toInt32)]) (own_first (own_g [(z6.toInt8.toInt32), (z13.toInt8.toInt32), (z20.toInt8.toInt32), (z27.toInt8.toInt32), (z34.toInt8.toInt32), (z41.toInt8.toInt32)]) (own_first (own_g [(z6.toInt8.toInt32), (z13.toInt8.toInt32), (z20.toInt8.toInt32), (z27.toInt8.toInt32), (z34.toInt8.toInt32), (z41.toInt8.toInt32)]) (-1 : Int32) (0 : Int32) ((p2 &&& (2147483647 : Int32)) % (7 : Int32)) ((p3 &&& (2147483647 : Int32)) % (7 : Int32))) (1 : Int32) ((p2 &&& (2147483647 : Int32)) % (7 : Int32)) ((p3 &&& (2147483647 : Int32)) % (7 : Int32))) (2 : Int32) ((p2 &&& (2147483647 : Int32)) % (7 : Int32)) ((p3 &&& (2147483647 : Int32)) % (7 : Int32))) (3 : Int32) ((p2 &&& (2147483647 : Int32)) % (7 : Int32)) ((p3 &&& (2147483647 : Int32)) % (7 : Int32))))])) t → Steps p.tables e below (s₁.setTop (entryFrame m #[(.int p1), (.long q1), (.int p2), (.int p3)] maxLocals)) t := by
    intro t kt
    refine k61 t ?_
    show Steps p.tables e below (T60.setTop (mkF m 153 #[.val (.int p1), .val (.long q1), .second, .val (.int p2), .val (.int p3), .val (.ref b2), .val (.int ((p2 &&& (2147483647 : Int32)) % (7 : Int32))), .val (.int ((p3 &&& (2147483647 : Int32)) % (7 : Int32))), .val (.int (own_loop (own_g [(z6.toInt8.toInt32), (z13.toInt8.toInt32), (z20.toInt8.toInt32), (z27.toInt8.toInt32), (z34.toInt8.toInt32), (z41.toInt8.toInt32)]) ((p3 &&& (2147483647 : Int32)) % (7 : Int32)) (6 - ((p2 &&& (2147483647 : Int32)) % (7 : Int32)).toInt.toNat) (-1 : Int32) ((p2 &&& (2147483647 : Int32)) % (7 : Int32)))), .val (.int (own_first (own_g [(z6.toInt8.toInt32), (z13.toInt8.toInt32), (z20.toInt8.toInt32), (z27.toInt8.toInt32), (z34.toInt8.toInt32), (z41.toInt8.toInt32)]) (own_first (own_g [(z6.toInt8.toInt32), (z13.toInt8.toInt32), (z20.toInt8.toInt32), (z27.toInt8.toInt32), (z34.toInt8.toInt32), (z41.toInt8.toInt32)]) (own_first (own_g [(z6.toInt8.toInt32), (z13.toInt8.toInt32), (z20.toInt8.toInt32), (z27.toInt8.toInt32), (z34.toInt8.toInt32), (z41.toInt8.toInt32)]) (-1 : Int32) (0 : Int32) ((p2 &&& (2147483647 : Int32)) % (7 : Int32)) ((p3 &&& (2147483647 : Int32)) % (7 : Int32))) (1 : Int32) ((p2 &&& (2147483647 : Int32)) % (7 : Int32)) ((p3 &&& (2147483647 : Int32)) % (7 : Int32))) (2 : Int32) ((p2 &&& (2147483647 : Int32)) % (7 : Int32)) ((p3 &&& (2147483647 : Int32)) % (7 : Int32))))] [(.int (own_first (own_g [(z6.toInt8.toInt32), (z13.toInt8.toInt32), (z20.toInt8.toInt32), (z27.toInt8.toInt32), (z34.toInt8.toInt32), (z41.toInt8.toInt32)]) (own_first (own_g [(z6.toInt8.toInt32), (z13.toInt8.toInt32), (z20.toInt8.toInt32), (z27.toInt8.toInt32), (z34.toInt8.toInt32), (z41.toInt8.toInt32)]) (own_first (own_g [(z6.toInt8.toInt32), (z13.toInt8.toInt32), (z20.toInt8.toInt32), (z27.toInt8.toInt32), (z34.toInt8.toInt32), (z41.toInt8.toInt32)]) (own_first (own_g [(z6.toInt8.toInt32), (z13.toInt8.toInt32), (z20.toInt8.toInt32), (z27.toInt8.toInt32), (z34.toInt8.toInt32), (z41.toInt8.toInt32)]) (-1 : Int32) (0 : Int32) ((p2 &&& (2147483647 : Int32)) % (7 : Int32)) ((p3 &&& (2147483647 : Int32)) % (7 : Int32))) (1 : Int32) ((p2 &&& (2147483647 : Int32)) % (7 : Int32)) ((p3 &&& (2147483647 : Int32)) % (7 : Int32))) (2 : Int32) ((p2 &&& (2147483647 : Int32)) % (7 : Int32)) ((p3 &&& (2147483647 : Int32)) % (7 : Int32))) (3 : Int32) ((p2 &&& (2147483647 : Int32)) % (7 : Int32)) ((p3 &&& (2147483647 : Int32)) % (7 : Int32))))])) t
    refine XS.istore X60.here hx rfl (hb hby at_153) rfl (l' := #[.val (.int p1), .val (.long q1), .second, .val (.int p2), .val (.int p3), .val (.ref b2), .val (.int ((p2 &&& (2147483647 : Int32)) % (7 : Int32))), .val (.int ((p3 &&& (2147483647 : Int32)) % (7 : Int32))), .val (.int (own_loop (own_g [(z6.toInt8.toInt32), (z13.toInt8.toInt32), (z20.toInt8.toInt32), (z27.toInt8.toInt32), (z34.toInt8.toInt32), (z41.toInt8.toInt32)]) ((p3 &&& (2147483647 : Int32)) % (7 : Int32)) (6 - ((p2 &&& (2147483647 : Int32)) % (7 : Int32)).toInt.toNat) (-1 : Int32) ((p2 &&& (2147483647 : Int32)) % (7 : Int32)))), .val (.int (own_first (own_g [(z6.toInt8.toInt32), (z13.toInt8.toInt32), (z20.toInt8.toInt32), (z27.toInt8.toInt32), (z34.toInt8.toInt32), (z41.toInt8.toInt32)]) (own_first (own_g [(z6.toInt8.toInt32), (z13.toInt8.toInt32), (z20.toInt8.toInt32), (z27.toInt8.toInt32), (z34.toInt8.toInt32), (z41.toInt8.toInt32)]) (own_first (own_g [(z6.toInt8.toInt32), (z13.toInt8.toInt32), (z20.toInt8.toInt32), (z27.toInt8.toInt32), (z34.toInt8.toInt32), (z41.toInt8.toInt32)]) (own_first (own_g [(z6.toInt8.toInt32), (z13.toInt8.toInt32), (z20.toInt8.toInt32), (z27.toInt8.toInt32), (z34.toInt8.toInt32), (z41.toInt8.toInt32)]) (-1 : Int32) (0 : Int32) ((p2 &&& (2147483647 : Int32)) % (7 : Int32)) ((p3 &&& (2147483647 : Int32)) % (7 : Int32))) (1 : Int32) ((p2 &&& (2147483647 : Int32)) % (7 : Int32)) ((p3 &&& (2147483647 : Int32)) % (7 : Int32))) (2 : Int32) ((p2 &&& (2147483647 : Int32)) % (7 : Int32)) ((p3 &&& (2147483647 : Int32)) % (7 : Int32))) (3 : Int32) ((p2 &&& (2147483647 : Int32)) % (7 : Int32)) ((p3 &&& (2147483647 : Int32)) % (7 : Int32))))]) rfl ?_
    show Steps p.tables e below (T60.setTop (mkF m 155 #[.val (.int p1), .val (.long q1), .second, .val (.int p2), .val (.int p3), .val (.ref b2), .val (.int ((p2 &&& (2147483647 : Int32)) % (7 : Int32))), .val (.int ((p3 &&& (2147483647 : Int32)) % (7 : Int32))), .val (.int (own_loop (own_g [(z6.toInt8.toInt32), (z13.toInt8.toInt32), (z20.toInt8.toInt32), (z27.toInt8.toInt32), (z34.toInt8.toInt32), (z41.toInt8.toInt32)]) ((p3 &&& (2147483647 : Int32)) % (7 : Int32)) (6 - ((p2 &&& (2147483647 : Int32)) % (7 : Int32)).toInt.toNat) (-1 : Int32) ((p2 &&& (2147483647 : Int32)) % (7 : Int32)))), .val (.int (own_first (own_g [(z6.toInt8.toInt32), (z13.toInt8.toInt32), (z20.toInt8.toInt32), (z27.toInt8.toInt32), (z34.toInt8.toInt32), (z41.toInt8.toInt32)]) (own_first (own_g [(z6.toInt8.toInt32), (z13.toInt8.toInt32), (z20.toInt8.toInt32), (z27.toInt8.toInt32), (z34.toInt8.toInt32), (z41.toInt8.toInt32)]) (own_first (own_g [(z6.toInt8.toInt32), (z13.toInt8.toInt32), (z20.toInt8.toInt32), (z27.toInt8.toInt32), (z34.toInt8.toInt32), (z41.toInt8.toInt32)]) (own_first (own_g [(z6.toInt8.toInt32), (z13.toInt8.toInt32), (z20.toInt8.toInt32), (z27.toInt8.toInt32), (z34.toInt8.toInt32), (z41.toInt8.toInt32)]) (-1 : Int32) (0 : Int32) ((p2 &&& (2147483647 : Int32)) % (7 : Int32)) ((p3 &&& (2147483647 : Int32)) % (7 : Int32))) (1 : Int32) ((p2 &&& (2147483647 : Int32)) % (7 : Int32)) ((p3 &&& (2147483647 : Int32)) % (7 : Int32))) (2 : Int32) ((p2 &&& (2147483647 : Int32)) % (7 : Int32)) ((p3 &&& (2147483647 : Int32)) % (7 : Int32))) (3 : Int32) ((p2 &&& (2147483647 : Int32)) % (7 : Int32)) ((p3 &&& (2147483647 : Int32)) % (7 : Int32))))] [])) t
    refine XS.iload X60.here hx rfl (hb hby at_155) rfl ?_
    show Steps p.tables e below (T60.setTop (mkF m 157 #[.val (.int p1), .val (.long q1), .second, .val (.int p2), .val (.int p3), .val (.ref b2), .val (.int ((p2 &&& (2147483647 : Int32)) % (7 : Int32))), .val (.int ((p3 &&& (2147483647 : Int32)) % (7 : Int32))), .val (.int (own_loop (own_g [(z6.toInt8.toInt32), (z13.toInt8.toInt32), (z20.toInt8.toInt32), (z27.toInt8.toInt32), (z34.toInt8.toInt32), (z41.toInt8.toInt32)]) ((p3 &&& (2147483647 : Int32)) % (7 : Int32)) (6 - ((p2 &&& (2147483647 : Int32)) % (7 : Int32)).toInt.toNat) (-1 : Int32) ((p2 &&& (2147483647 : Int32)) % (7 : Int32)))), .val (.int (own_first (own_g [(z6.toInt8.toInt32), (z13.toInt8.toInt32), (z20.toInt8.toInt32), (z27.toInt8.toInt32), (z34.toInt8.toInt32), (z41.toInt8.toInt32)]) (own_first (own_g [(z6.toInt8.toInt32), (z13.toInt8.toInt32), (z20.toInt8.toInt32), (z27.toInt8.toInt32), (z34.toInt8.toInt32), (z41.toInt8.toInt32)]) (own_first (own_g [(z6.toInt8.toInt32), (z13.toInt8.toInt32), (z20.toInt8.toInt32), (z27.toInt8.toInt32), (z34.toInt8.toInt32), (z41.toInt8.toInt32)]) (own_first (own_g [(z6.toInt8.toInt32), (z13.toInt8.toInt32), (z20.toInt8.toInt32), (z27.toInt8.toInt32), (z34.toInt8.toInt32), (z41.toInt8.toInt32)]) (-1 : Int32) (0 : Int32) ((p2 &&& (2147483647 : Int32)) % (7 : Int32)) ((p3 &&& (2147483647 : Int32)) % (7 : Int32))) (1 : Int32) ((p2 &&& (2147483647 : Int32)) % (7 : Int32)) ((p3 &&& (2147483647 : Int32)) % (7 : Int32))) (2 : Int32) ((p2 &&& (2147483647 : Int32)) % (7 : Int32)) ((p3 &&& (2147483647 : Int32)) % (7 : Int32))) (3 : Int32) ((p2 &&& (2147483647 : Int32)) % (7 : Int32)) ((p3 &&& (2147483647 : Int32)) % (7 : Int32))))] [(.int (own_first (own_g [(z6.toInt8.toInt32), (z13.toInt8.toInt32), (z20.toInt8.toInt32), (z27.toInt8.toInt32), (z34.toInt8.toInt32), (z41.toInt8.toInt32)]) (own_first (own_g [(z6.toInt8.toInt32), (z13.toInt8.toInt32), (z20.toInt8.toInt32), (z27.toInt8.toInt32), (z34.toInt8.toInt32), (z41.toInt8.toInt32)]) (own_first (own_g [(z6.toInt8.toInt32), (z13.toInt8.toInt32), (z20.toInt8.toInt32), (z27.toInt8.toInt32), (z34.toInt8.toInt32), (z41.toInt8.toInt32)]) (own_first (own_g [(z6.toInt8.toInt32), (z13.toInt8.toInt32), (z20.toInt8.toInt32), (z27.toInt8.toInt32), (z34.toInt8.toInt32), (z41.toInt8.toInt32)]) (-1 : Int32) (0 : Int32) ((p2 &&& (2147483647 : Int32)) % (7 : Int32)) ((p3 &&& (2147483647 : Int32)) % (7 : Int32))) (1 : Int32) ((p2 &&& (2147483647 : Int32)) % (7 : Int32)) ((p3 &&& (2147483647 : Int32)) % (7 : Int32))) (2 : Int32) ((p2 &&& (2147483647 : Int32)) % (7 : Int32)) ((p3 &&& (2147483647 : Int32)) % (7 : Int32))) (3 : Int32) ((p2 &&& (2147483647 : Int32)) % (7 : Int32)) ((p3 &&& (2147483647 : Int32)) % (7 : Int32))))])) t
    refine XS.aload X60.here hx rfl (hb hby at_157) rfl rfl ?_
    show Steps p.tables e below (T60.setTop (mkF m 159 #[.val (.int p1), .val (.long q1), .second, .val (.int p2), .val (.int p3), .val (.ref b2), .val (.int ((p2 &&& (2147483647 : Int32)) % (7 : Int32))), .val (.int ((p3 &&& (2147483647 : Int32)) % (7 : Int32))), .val (.int (own_loop (own_g [(z6.toInt8.toInt32), (z13.toInt8.toInt32), (z20.toInt8.toInt32), (z27.toInt8.toInt32), (z34.toInt8.toInt32), (z41.toInt8.toInt32)]) ((p3 &&& (2147483647 : Int32)) % (7 : Int32)) (6 - ((p2 &&& (2147483647 : Int32)) % (7 : Int32)).toInt.toNat) (-1 : Int32) ((p2 &&& (2147483647 : Int32)) % (7 : Int32)))), .val (.int (own_first (own_g [(z6.toInt8.toInt32), (z13.toInt8.toInt32), (z20.toInt8.toInt32), (z27.toInt8.toInt32), (z34.toInt8.toInt32), (z41.toInt8.toInt32)]) (own_first (own_g [(z6.toInt8.toInt32), (z13.toInt8.toInt32), (z20.toInt8.toInt32), (z27.toInt8.toInt32), (z34.toInt8.toInt32), (z41.toInt8.toInt32)]) (own_first (own_g [(z6.toInt8.toInt32), (z13.toInt8.toInt32), (z20.toInt8.toInt32), (z27.toInt8.toInt32), (z34.toInt8.toInt32), (z41.toInt8.toInt32)]) (own_first (own_g [(z6.toInt8.toInt32), (z13.toInt8.toInt32), (z20.toInt8.toInt32), (z27.toInt8.toInt32), (z34.toInt8.toInt32), (z41.toInt8.toInt32)]) (-1 : Int32) (0 : Int32) ((p2 &&& (2147483647 : Int32)) % (7 : Int32)) ((p3 &&& (2147483647 : Int32)) % (7 : Int32))) (1 : Int32) ((p2 &&& (2147483647 : Int32)) % (7 : Int32)) ((p3 &&& (2147483647 : Int32)) % (7 : Int32))) (2 : Int32) ((p2 &&& (2147483647 : Int32)) % (7 : Int32)) ((p3 &&& (2147483647 : Int32)) % (7 : Int32))) (3 : Int32) ((p2 &&& (2147483647 : Int32)) % (7 : Int32)) ((p3 &&& (2147483647 : Int32)) % (7 : Int32))))] [(.ref b2), (.int (own_first (own_g [(z6.toInt8.toInt32), (z13.toInt8.toInt32), (z20.toInt8.toInt32), (z27.toInt8.toInt32), (z34.toInt8.toInt32), (z41.toInt8.toInt32)]) (own_first (own_g [(z6.toInt8.toInt32), (z13.toInt8.toInt32), (z20.toInt8.toInt32), (z27.toInt8.toInt32), (z34.toInt8.toInt32), (z41.toInt8.toInt32)]) (own_first (own_g [(z6.toInt8.toInt32), (z13.toInt8.toInt32), (z20.toInt8.toInt32), (z27.toInt8.toInt32), (z34.toInt8.toInt32), (z41.toInt8.toInt32)]) (own_first (own_g [(z6.toInt8.toInt32), (z13.toInt8.toInt32), (z20.toInt8.toInt32), (z27.toInt8.toInt32), (z34.toInt8.toInt32), (z41.toInt8.toInt32)]) (-1 : Int32) (0 : Int32) ((p2 &&& (2147483647 : Int32)) % (7 : Int32)) ((p3 &&& (2147483647 : Int32)) % (7 : Int32))) (1 : Int32) ((p2 &&& (2147483647 : Int32)) % (7 : Int32)) ((p3 &&& (2147483647 : Int32)) % (7 : Int32))) (2 : Int32) ((p2 &&& (2147483647 : Int32)) % (7 : Int32)) ((p3 &&& (2147483647 : Int32)) % (7 : Int32))) (3 : Int32) ((p2 &&& (2147483647 : Int32)) % (7 : Int32)) ((p3 &&& (2147483647 : Int32)) % (7 : Int32))))])) t
    refine XS.iconst X60.here hx rfl (hb hby at_159) ?_
    show Steps p.tables e below (T60.setTop (mkF m 160 #[.val (.int p1), .val (.long q1), .second, .val (.int p2), .val (.int p3), .val (.ref b2), .val (.int ((p2 &&& (2147483647 : Int32)) % (7 : Int32))), .val (.int ((p3 &&& (2147483647 : Int32)) % (7 : Int32))), .val (.int (own_loop (own_g [(z6.toInt8.toInt32), (z13.toInt8.toInt32), (z20.toInt8.toInt32), (z27.toInt8.toInt32), (z34.toInt8.toInt32), (z41.toInt8.toInt32)]) ((p3 &&& (2147483647 : Int32)) % (7 : Int32)) (6 - ((p2 &&& (2147483647 : Int32)) % (7 : Int32)).toInt.toNat) (-1 : Int32) ((p2 &&& (2147483647 : Int32)) % (7 : Int32)))), .val (.int (own_first (own_g [(z6.toInt8.toInt32), (z13.toInt8.toInt32), (z20.toInt8.toInt32), (z27.toInt8.toInt32), (z34.toInt8.toInt32), (z41.toInt8.toInt32)]) (own_first (own_g [(z6.toInt8.toInt32), (z13.toInt8.toInt32), (z20.toInt8.toInt32), (z27.toInt8.toInt32), (z34.toInt8.toInt32), (z41.toInt8.toInt32)]) (own_first (own_g [(z6.toInt8.toInt32), (z13.toInt8.toInt32), (z20.toInt8.toInt32), (z27.toInt8.toInt32), (z34.toInt8.toInt32), (z41.toInt8.toInt32)]) (own_first (own_g [(z6.toInt8.toInt32), (z13.toInt8.toInt32), (z20.toInt8.toInt32), (z27.toInt8.toInt32), (z34.toInt8.toInt32), (z41.toInt8.toInt32)]) (-1 : Int32) (0 : Int32) ((p2 &&& (2147483647 : Int32)) % (7 : Int32)) ((p3 &&& (2147483647 : Int32)) % (7 : Int32))) (1 : Int32) ((p2 &&& (2147483647 : Int32)) % (7 : Int32)) ((p3 &&& (2147483647 : Int32)) % (7 : Int32))) (2 : Int32) ((p2 &&& (2147483647 : Int32)) % (7 : Int32)) ((p3 &&& (2147483647 : Int32)) % (7 : Int32))) (3 : Int32) ((p2 &&& (2147483647 : Int32)) % (7 : Int32)) ((p3 &&& (2147483647 : Int32)) % (7 : Int32))))] [(.int (4 : Int32)), (.ref b2), (.int (own_first (own_g [(z6.toInt8.toInt32), (z13.toInt8.toInt32), (z20.toInt8.toInt32), (z27.toInt8.toInt32), (z34.toInt8.toInt32), (z41.toInt8.toInt32)]) (own_first (own_g [(z6.toInt8.toInt32), (z13.toInt8.toInt32), (z20.toInt8.toInt32), (z27.toInt8.toInt32), (z34.toInt8.toInt32), (z41.toInt8.toInt32)]) (own_first (own_g [(z6.toInt8.toInt32), (z13.toInt8.toInt32), (z20.toInt8.toInt32), (z27.toInt8.toInt32), (z34.toInt8.toInt32), (z41.toInt8.toInt32)]) (own_first (own_g [(z6.toInt8.toInt32), (z13.toInt8.toInt32), (z20.toInt8.toInt32), (z27.toInt8.toInt32), (z34.toInt8.toInt32), (z41.toInt8.toInt32)]) (-1 : Int32) (0 : Int32) ((p2 &&& (2147483647 : Int32)) % (7 : Int32)) ((p3 &&& (2147483647 : Int32)) % (7 : Int32))) (1 : Int32) ((p2 &&& (2147483647 : Int32)) % (7 : Int32)) ((p3 &&& (2147483647 : Int32)) % (7 : Int32))) (2 : Int32) ((p2 &&& (2147483647 : Int32)) % (7 : Int32)) ((p3 &&& (2147483647 : Int32)) % (7 : Int32))) (3 : Int32) ((p2 &&& (2147483647 : Int32)) % (7 : Int32)) ((p3 &&& (2147483647 : Int32)) % (7 : Int32))))])) t
    refine XS.iload X60.here hx rfl (hb hby at_160) rfl ?_
    show Steps p.tables e below (T60.setTop (mkF m 162 #[.val (.int p1), .val (.long q1), .second, .val (.int p2), .val (.int p3), .val (.ref b2), .val (.int ((p2 &&& (2147483647 : Int32)) % (7 : Int32))), .val (.int ((p3 &&& (2147483647 : Int32)) % (7 : Int32))), .val (.int (own_loop (own_g [(z6.toInt8.toInt32), (z13.toInt8.toInt32), (z20.toInt8.toInt32), (z27.toInt8.toInt32), (z34.toInt8.toInt32), (z41.toInt8.toInt32)]) ((p3 &&& (2147483647 : Int32)) % (7 : Int32)) (6 - ((p2 &&& (2147483647 : Int32)) % (7 : Int32)).toInt.toNat) (-1 : Int32) ((p2 &&& (2147483647 : Int32)) % (7 : Int32)))), .val (.int (own_first (own_g [(z6.toInt8.toInt32), (z13.toInt8.toInt32), (z20.toInt8.toInt32), (z27.toInt8.toInt32), (z34.toInt8.toInt32), (z41.toInt8.toInt32)]) (own_first (own_g [(z6.toInt8.toInt32), (z13.toInt8.toInt32), (z20.toInt8.toInt32), (z27.toInt8.toInt32), (z34.toInt8.toInt32), (z41.toInt8.toInt32)]) (own_first (own_g [(z6.toInt8.toInt32), (z13.toInt8.toInt32), (z20.toInt8.toInt32), (z27.toInt8.toInt32), (z34.toInt8.toInt32), (z41.toInt8.toInt32)]) (own_first (own_g [(z6.toInt8.toInt32), (z13.toInt8.toInt32), (z20.toInt8.toInt32), (z27.toInt8.toInt32), (z34.toInt8.toInt32), (z41.toInt8.toInt32)]) (-1 : Int32) (0 : Int32) ((p2 &&& (2147483647 : Int32)) % (7 : Int32)) ((p3 &&& (2147483647 : Int32)) % (7 : Int32))) (1 : Int32) ((p2 &&& (2147483647 : Int32)) % (7 : Int32)) ((p3 &&& (2147483647 : Int32)) % (7 : Int32))) (2 : Int32) ((p2 &&& (2147483647 : Int32)) % (7 : Int32)) ((p3 &&& (2147483647 : Int32)) % (7 : Int32))) (3 : Int32) ((p2 &&& (2147483647 : Int32)) % (7 : Int32)) ((p3 &&& (2147483647 : Int32)) % (7 : Int32))))] [(.int ((p2 &&& (2147483647 : Int32)) % (7 : Int32))), (.int (4 : Int32)), (.ref b2), (.int (own_first (own_g [(z6.toInt8.toInt32), (z13.toInt8.toInt32), (z20.toInt8.toInt32), (z27.toInt8.toInt32), (z34.toInt8.toInt32), (z41.toInt8.toInt32)]) (own_first (own_g [(z6.toInt8.toInt32), (z13.toInt8.toInt32), (z20.toInt8.toInt32), (z27.toInt8.toInt32), (z34.toInt8.toInt32), (z41.toInt8.toInt32)]) (own_first (own_g [(z6.toInt8.toInt32), (z13.toInt8.toInt32), (z20.toInt8.toInt32), (z27.toInt8.toInt32), (z34.toInt8.toInt32), (z41.toInt8.toInt32)]) (own_first (own_g [(z6.toInt8.toInt32), (z13.toInt8.toInt32), (z20.toInt8.toInt32), (z27.toInt8.toInt32), (z34.toInt8.toInt32), (z41.toInt8.toInt32)]) (-1 : Int32) (0 : Int32) ((p2 &&& (2147483647 : Int32)) % (7 : Int32)) ((p3 &&& (2147483647 : Int32)) % (7 : Int32))) (1 : Int32) ((p2 &&& (2147483647 : Int32)) % (7 : Int32)) ((p3 &&& (2147483647 : Int32)) % (7 : Int32))) (2 : Int32) ((p2 &&& (2147483647 : Int32)) % (7 : Int32)) ((p3 &&& (2147483647 : Int32)) % (7 : Int32))) (3 : Int32) ((p2 &&& (2147483647 : Int32)) % (7 : Int32)) ((p3 &&& (2147483647 : Int32)) % (7 : Int32))))])) t
    refine XS.iload X60.here hx rfl (hb hby at_162) rfl ?_
    exact kt
  obtain ⟨_, _, ⟨T63, L63, k63c, n63⟩, -, X63, ⟨Lc63, hQ63, l63, y63, z63⟩, st63⟩ := Jvm.LawKit.callS X60 hx (y := (⟨"com/example/ruleward/ruleward/http/HttpHeadEndPinLaw", "first", "(I[BIII)I"⟩ : MethodName)) hown (mvT hZ (hw _ (List.mem_of_getElem? (i := 10) rfl))) (mvT hZ (hw _ (List.mem_of_getElem? (i := 11) rfl))) (mvT hZ (hw _ (List.mem_of_getElem? (i := 3) rfl))) (mvT hZ (hw _ (List.mem_of_getElem? (i := 12) rfl))) (by decide) (backOf (W := 0) (rmF l Z a0 hw [] (own_first (own_g [(z6.toInt8.toInt32), (z13.toInt8.toInt32), (z20.toInt8.toInt32), (z27.toInt8.toInt32), (z34.toInt8.toInt32), (z41.toInt8.toInt32)]) (own_first (own_g [(z6.toInt8.toInt32), (z13.toInt8.toInt32), (z20.toInt8.toInt32), (z27.toInt8.toInt32), (z34.toInt8.toInt32), (z41.toInt8.toInt32)]) (own_first (own_g [(z6.toInt8.toInt32), (z13.toInt8.toInt32), (z20.toInt8.toInt32), (z27.toInt8.toInt32), (z34.toInt8.toInt32), (z41.toInt8.toInt32)]) (own_first (own_g [(z6.toInt8.toInt32), (z13.toInt8.toInt32), (z20.toInt8.toInt32), (z27.toInt8.toInt32), (z34.toInt8.toInt32), (z41.toInt8.toInt32)]) (-1 : Int32) (0 : Int32) ((p2 &&& (2147483647 : Int32)) % (7 : Int32)) ((p3 &&& (2147483647 : Int32)) % (7 : Int32))) (1 : Int32) ((p2 &&& (2147483647 : Int32)) % (7 : Int32)) ((p3 &&& (2147483647 : Int32)) % (7 : Int32))) (2 : Int32) ((p2 &&& (2147483647 : Int32)) % (7 : Int32)) ((p3 &&& (2147483647 : Int32)) % (7 : Int32))) (3 : Int32) ((p2 &&& (2147483647 : Int32)) % (7 : Int32)) ((p3 &&& (2147483647 : Int32)) % (7 : Int32))) b2 c2 [(.int (z6.toInt8.toInt32)), (.int (z13.toInt8.toInt32)), (.int (z20.toInt8.toInt32)), (.int (z27.toInt8.toInt32)), (.int (z34.toInt8.toInt32)), (.int (z41.toInt8.toInt32))] (own_g [(z6.toInt8.toInt32), (z13.toInt8.toInt32), (z20.toInt8.toInt32), (z27.toInt8.toInt32), (z34.toInt8.toInt32), (z41.toInt8.toInt32)]) (4 : Int32) ((p2 &&& (2147483647 : Int32)) % (7 : Int32)) ((p3 &&& (2147483647 : Int32)) % (7 : Int32)) h43 n0 Z43 F44 (fun j _ => own_getg [(z6.toInt8.toInt32), (z13.toInt8.toInt32), (z20.toInt8.toInt32), (z27.toInt8.toInt32), (z34.toInt8.toInt32), (z41.toInt8.toInt32)] j) (by decide) (own_m7 _).2) hZ (hw _ (List.mem_of_getElem? (i := 12) rfl)) (hw _ (List.mem_of_getElem? (i := 3) rfl)) (by decide) (by decide)) (g := (mkF m 164 #[.val (.int p1), .val (.long q1), .second, .val (.int p2), .val (.int p3), .val (.ref b2), .val (.int ((p2 &&& (2147483647 : Int32)) % (7 : Int32))), .val (.int ((p3 &&& (2147483647 : Int32)) % (7 : Int32))), .val (.int (own_loop (own_g [(z6.toInt8.toInt32), (z13.toInt8.toInt32), (z20.toInt8.toInt32), (z27.toInt8.toInt32), (z34.toInt8.toInt32), (z41.toInt8.toInt32)]) ((p3 &&& (2147483647 : Int32)) % (7 : Int32)) (6 - ((p2 &&& (2147483647 : Int32)) % (7 : Int32)).toInt.toNat) (-1 : Int32) ((p2 &&& (2147483647 : Int32)) % (7 : Int32)))), .val (.int (own_first (own_g [(z6.toInt8.toInt32), (z13.toInt8.toInt32), (z20.toInt8.toInt32), (z27.toInt8.toInt32), (z34.toInt8.toInt32), (z41.toInt8.toInt32)]) (own_first (own_g [(z6.toInt8.toInt32), (z13.toInt8.toInt32), (z20.toInt8.toInt32), (z27.toInt8.toInt32), (z34.toInt8.toInt32), (z41.toInt8.toInt32)]) (own_first (own_g [(z6.toInt8.toInt32), (z13.toInt8.toInt32), (z20.toInt8.toInt32), (z27.toInt8.toInt32), (z34.toInt8.toInt32), (z41.toInt8.toInt32)]) (own_first (own_g [(z6.toInt8.toInt32), (z13.toInt8.toInt32), (z20.toInt8.toInt32), (z27.toInt8.toInt32), (z34.toInt8.toInt32), (z41.toInt8.toInt32)]) (-1 : Int32) (0 : Int32) ((p2 &&& (2147483647 : Int32)) % (7 : Int32)) ((p3 &&& (2147483647 : Int32)) % (7 : Int32))) (1 : Int32) ((p2 &&& (2147483647 : Int32)) % (7 : Int32)) ((p3 &&& (2147483647 : Int32)) % (7 : Int32))) (2 : Int32) ((p2 &&& (2147483647 : Int32)) % (7 : Int32)) ((p3 &&& (2147483647 : Int32)) % (7 : Int32))) (3 : Int32) ((p2 &&& (2147483647 : Int32)) % (7 : Int32)) ((p3 &&& (2147483647 : Int32)) % (7 : Int32))))] [(.int ((p3 &&& (2147483647 : Int32)) % (7 : Int32))), (.int ((p2 &&& (2147483647 : Int32)) % (7 : Int32))), (.int (4 : Int32)), (.ref b2), (.int (own_first (own_g [(z6.toInt8.toInt32), (z13.toInt8.toInt32), (z20.toInt8.toInt32), (z27.toInt8.toInt32), (z34.toInt8.toInt32), (z41.toInt8.toInt32)]) (own_first (own_g [(z6.toInt8.toInt32), (z13.toInt8.toInt32), (z20.toInt8.toInt32), (z27.toInt8.toInt32), (z34.toInt8.toInt32), (z41.toInt8.toInt32)]) (own_first (own_g [(z6.toInt8.toInt32), (z13.toInt8.toInt32), (z20.toInt8.toInt32), (z27.toInt8.toInt32), (z34.toInt8.toInt32), (z41.toInt8.toInt32)]) (own_first (own_g [(z6.toInt8.toInt32), (z13.toInt8.toInt32), (z20.toInt8.toInt32), (z27.toInt8.toInt32), (z34.toInt8.toInt32), (z41.toInt8.toInt32)]) (-1 : Int32) (0 : Int32) ((p2 &&& (2147483647 : Int32)) % (7 : Int32)) ((p3 &&& (2147483647 : Int32)) % (7 : Int32))) (1 : Int32) ((p2 &&& (2147483647 : Int32)) % (7 : Int32)) ((p3 &&& (2147483647 : Int32)) % (7 : Int32))) (2 : Int32) ((p2 &&& (2147483647 : Int32)) % (7 : Int32)) ((p3 &&& (2147483647 : Int32)) % (7 : Int32))) (3 : Int32) ((p2 &&& (2147483647 : Int32)) % (7 : Int32)) ((p3 &&& (2147483647 : Int32)) % (7 : Int32))))])) rfl (by rw [hml]; rfl) (argsL := [(.int (own_first (own_g [(z6.toInt8.toInt32), (z13.toInt8.toInt32), (z20.toInt8.toInt32), (z27.toInt8.toInt32), (z34.toInt8.toInt32), (z41.toInt8.toInt32)]) (own_first (own_g [(z6.toInt8.toInt32), (z13.toInt8.toInt32), (z20.toInt8.toInt32), (z27.toInt8.toInt32), (z34.toInt8.toInt32), (z41.toInt8.toInt32)]) (own_first (own_g [(z6.toInt8.toInt32), (z13.toInt8.toInt32), (z20.toInt8.toInt32), (z27.toInt8.toInt32), (z34.toInt8.toInt32), (z41.toInt8.toInt32)]) (own_first (own_g [(z6.toInt8.toInt32), (z13.toInt8.toInt32), (z20.toInt8.toInt32), (z27.toInt8.toInt32), (z34.toInt8.toInt32), (z41.toInt8.toInt32)]) (-1 : Int32) (0 : Int32) ((p2 &&& (2147483647 : Int32)) % (7 : Int32)) ((p3 &&& (2147483647 : Int32)) % (7 : Int32))) (1 : Int32) ((p2 &&& (2147483647 : Int32)) % (7 : Int32)) ((p3 &&& (2147483647 : Int32)) % (7 : Int32))) (2 : Int32) ((p2 &&& (2147483647 : Int32)) % (7 : Int32)) ((p3 &&& (2147483647 : Int32)) % (7 : Int32))) (3 : Int32) ((p2 &&& (2147483647 : Int32)) % (7 : Int32)) ((p3 &&& (2147483647 : Int32)) % (7 : Int32)))), (.ref b2), (.int (4 : Int32)), (.int ((p2 &&& (2147483647 : Int32)) % (7 : Int32))), (.int ((p3 &&& (2147483647 : Int32)) % (7 : Int32)))]) (rest := []) (lenOf own_pd2 rfl) rfl (by show 2 * 0 + _ ≤ _; exact Nat.le_of_eq rfl) (hb hby at_164) (fun _ _ => ⟨rfl, e60, (by decide : 1 + 0 ≤ _), (by decide : 6 + 0 ≤ _)⟩)
  dsimp only [Pt.U, Pt.locs, Pt.cells, Pt.slots] at X63 l63 y63 z63 st63 hQ63
  subst l63 y63 z63
  obtain ⟨rfl, N63q, e63⟩ := hQ63
  have N63 := Fr.app N60 N63q
  have k64 : ∀ t, Steps p.tables e below (T63.setTop (mkF m 167 #[.val (.int p1), .val (.long q1), .second, .val (.int p2), .val (.int p3), .val (.ref b2), .val (.int ((p2 &&& (2147483647 : Int32)) % (7 : Int32))), .val (.int ((p3 &&& (2147483647 : Int32)) % (7 : Int32))), .val (.int (own_loop (own_g [(z6.toInt8.toInt32), (z13.toInt8.toInt32), (z20.toInt8.toInt32), (z27.toInt8.toInt32), (z34.toInt8.toInt32), (z41.toInt8.toInt32)]) ((p3 &&& (2147483647 : Int32)) % (7 : Int32)) (6 - ((p2 &&& (2147483647 : Int32)) % (7 : Int32)).toInt.toNat) (-1 : Int32) ((p2 &&& (2147483647 : Int32)) % (7 : Int32)))), .val (.int (own_first (own_g [(z6.toInt8.toInt32), (z13.toInt8.toInt32), (z20.toInt8.toInt32), (z27.toInt8.toInt32), (z34.toInt8.toInt32), (z41.toInt8.toInt32)]) (own_first (own_g [(z6.toInt8.toInt32), (z13.toInt8.toInt32), (z20.toInt8.toInt32), (z27.toInt8.toInt32), (z34.toInt8.toInt32), (z41.toInt8.toInt32)]) (own_first (own_g [(z6.toInt8.toInt32), (z13.toInt8.toInt32), (z20.toInt8.toInt32), (z27.toInt8.toInt32), (z34.toInt8.toInt32), (z41.toInt8.toInt32)]) (own_first (own_g [(z6.toInt8.toInt32), (z13.toInt8.toInt32), (z20.toInt8.toInt32), (z27.toInt8.toInt32), (z34.toInt8.toInt32), (z41.toInt8.toInt32)]) (-1 : Int32) (0 : Int32) ((p2 &&& (2147483647 : Int32)) % (7 : Int32)) ((p3 &&& (2147483647 : Int32)) % (7 : Int32))) (1 : Int32) ((p2 &&& (2147483647 : Int32)) % (7 : Int32)) ((p3 &&& (2147483647 : Int32)) % (7 : Int32))) (2 : Int32) ((p2 &&& (2147483647 : Int32)) % (7 : Int32)) ((p3 &&& (2147483647 : Int32)) % (7 : Int32))) (3 : Int32) ((p2 &&& (2147483647 : Int32)) % (7 : Int32)) ((p3 &&& (2147483647 : Int32)) % (7 : Int32))))] [(.int (own_first (own_g [(z6.toInt8.toInt32), (z13.toInt8.toInt32), (z20.toInt8.toInt32), (z27.toInt8.toInt32), (z34.toInt8.toInt32), (z41.toInt8.toInt32)]) (own_first (own_g [(z6.toInt8.toInt32), (z13.toInt8.toInt32), (z20.toInt8.toInt32), (z27.toInt8.toInt32), (z34.toInt8.toInt32), (z41.toInt8.toInt32)]) (own_first (own_g [(z6.toInt8.toInt32), (z13.toInt8.toInt32), (z20.toInt8.toInt32), (z27.toInt8.toInt32), (z34.toInt8.toInt32), (z41.toInt8.toInt32)]) (own_first (own_g [(z6.toInt8.toInt32), (z13.toInt8.toInt32), (z20.toInt8.toInt32), (z27.toInt8.toInt32), (z34.toInt8.toInt32), (z41.toInt8.toInt32)]) (own_first (own_g [(z6.toInt8.toInt32), (z13.toInt8.toInt32), (z20.toInt8.toInt32), (z27.toInt8.toInt32), (z34.toInt8.toInt32), (z41.toInt8.toInt32)]) (-1 : Int32) (0 : Int32) ((p2 &&& (2147483647 : Int32)) % (7 : Int32)) ((p3 &&& (2147483647 : Int32)) % (7 : Int32))) (1 : Int32) ((p2 &&& (2147483647 : Int32)) % (7 : Int32)) ((p3 &&& (2147483647 : Int32)) % (7 : Int32))) (2 : Int32) ((p2 &&& (2147483647 : Int32)) % (7 : Int32)) ((p3 &&& (2147483647 : Int32)) % (7 : Int32))) (3 : Int32) ((p2 &&& (2147483647 : Int32)) % (7 : Int32)) ((p3 &&& (2147483647 : Int32)) % (7 : Int32))) (4 : Int32) ((p2 &&& (2147483647 : Int32)) % (7 : Int32)) ((p3 &&& (2147483647 : Int32)) % (7 : Int32))))])) t → Steps p.tables e below (s₁.setTop (entryFrame m #[(.int p1), (.long q1), (.int p2), (.int p3)] maxLocals)) t := fun t kt => k62 t (st63 t kt)
  have k65 : ∀ t, Steps p.tables e below (T63.setTop (mkF m 178 #[.val (.int p1), .val (.long q1), .second, .val (.int p2), .val (.int p3), .val (.ref b2), .val (.int ((p2 &&& (2147483647 : Int32)) % (7 : Int32))), .val (.int ((p3 &&& (2147483647 : Int32)) % (7 : Int32))), .val (.int (own_loop (own_g [(z6.toInt8.toInt32), (z13.toInt8.toInt32), (z20.toInt8.toInt32), (z27.toInt8.toInt32), (z34.toInt8.toInt32), (z41.toInt8.toInt32)]) ((p3 &&& (2147483647 : Int32)) % (7 : Int32)) (6 - ((p2 &&& (2147483647 : Int32)) % (7 : Int32)).toInt.toNat) (-1 : Int32) ((p2 &&& (2147483647 : Int32)) % (7 : Int32)))), .val (.int (own_first (own_g [(z6.toInt8.toInt32), (z13.toInt8.toInt32), (z20.toInt8.toInt32), (z27.toInt8.toInt32), (z34.toInt8.toInt32), (z41.toInt8.toInt32)]) (own_first (own_g [(z6.toInt8.toInt32), (z13.toInt8.toInt32), (z20.toInt8.toInt32), (z27.toInt8.toInt32), (z34.toInt8.toInt32), (z41.toInt8.toInt32)]) (own_first (own_g [(z6.toInt8.toInt32), (z13.toInt8.toInt32), (z20.toInt8.toInt32), (z27.toInt8.toInt32), (z34.toInt8.toInt32), (z41.toInt8.toInt32)]) (own_first (own_g [(z6.toInt8.toInt32), (z13.toInt8.toInt32), (z20.toInt8.toInt32), (z27.toInt8.toInt32), (z34.toInt8.toInt32), (z41.toInt8.toInt32)]) (own_first (own_g [(z6.toInt8.toInt32), (z13.toInt8.toInt32), (z20.toInt8.toInt32), (z27.toInt8.toInt32), (z34.toInt8.toInt32), (z41.toInt8.toInt32)]) (-1 : Int32) (0 : Int32) ((p2 &&& (2147483647 : Int32)) % (7 : Int32)) ((p3 &&& (2147483647 : Int32)) % (7 : Int32))) (1 : Int32) ((p2 &&& (2147483647 : Int32)) % (7 : Int32)) ((p3 &&& (2147483647 : Int32)) % (7 : Int32))) (2 : Int32) ((p2 &&& (2147483647 : Int32)) % (7 : Int32)) ((p3 &&& (2147483647 : Int32)) % (7 : Int32))) (3 : Int32) ((p2 &&& (2147483647 : Int32)) % (7 : Int32)) ((p3 &&& (2147483647 : Int32)) % (7 : Int32))) (4 : Int32) ((p2 &&& (2147483647 : Int32)) % (7 : Int32)) ((p3 &&& (2147483647 : Int32)) % (7 : Int32))))] [(.int ((p3 &&& (2147483647 : Int32)) % (7 : Int32))), (.int ((p2 &&& (2147483647 : Int32)) % (7 : Int32))), (.int (5 : Int32)), (.ref b2), (.int (own_first (own_g [(z6.toInt8.toInt32), (z13.toInt8.toInt32), (z20.toInt8.toInt32), (z27.toInt8.toInt32), (z34.toInt8.toInt32), (z41.toInt8.toInt32)]) (own_first (own_g [(z6.toInt8.toInt32), (z13.toInt8.toInt32), (z20.toInt8.toInt32), (z27.toInt8.toInt32), (z34.toInt8.toInt32), (z41.toInt8.toInt32)]) (own_first (own_g [(z6.toInt8.toInt32), (z13.toInt8.toInt32), (z20.toInt8.toInt32), (z27.toInt8.toInt32), (z34.toInt8.toInt32), (z41.toInt8.toInt32)]) (own_first (own_g [(z6.toInt8.toInt32), (z13.toInt8.toInt32), (z20.toInt8.toInt32), (z27.toInt8.toInt32), (z34.toInt8.toInt32), (z41.toInt8.toInt32)]) (own_first (own_g [(z6.toInt8.toInt32), (z13.toInt8.toInt32), (z20.toInt8.toInt32), (z27.toInt8.toInt32), (z34.toInt8.toInt32), (z41.toInt8.toInt32)]) (-1 : Int32) (0 : Int32) ((p2 &&& (2147483647 : Int32)) % (7 : Int32)) ((p3 &&& (2147483647 : Int32)) % (7 : Int32))) (1 : Int32) ((p2 &&& (2147483647 : Int32)) % (7 : Int32)) ((p3 &&& (2147483647 : Int32)) % (7 : Int32))) (2 : Int32) ((p2 &&& (2147483647 : Int32)) % (7 : Int32)) ((p3 &&& (2147483647 : Int32)) % (7 : Int32))) (3 : Int32) ((p2 &&& (2147483647 : Int32)) % (7 : Int32)) ((p3 &&& (2147483647 : Int32)) % (7 : Int32))) (4 : Int32) ((p2 &&& (2147483647 : Int32)) % (7 : Int32)) ((p3 &&& (2147483647 : Int32)) % (7 : Int32))))])) t → Steps p.tables e below (s₁.setTop (entryFrame m #[(.int p1), (.long q1), (.int p2), (.int p3)] maxLocals)) t := by
    intro t kt
    refine k64 t ?_
    show Steps p.tables e below (T63.setTop (mkF m 167 #[.val (.int p1), .val (.long q1), .second, .val (.int p2), .val (.int p3), .val (.ref b2), .val (.int ((p2 &&& (2147483647 : Int32)) % (7 : Int32))), .val (.int ((p3 &&& (2147483647 : Int32)) % (7 : Int32))), .val (.int (own_loop (own_g [(z6.toInt8.toInt32), (z13.toInt8.toInt32), (z20.toInt8.toInt32), (z27.toInt8.toInt32), (z34.toInt8.toInt32), (z41.toInt8.toInt32)]) ((p3 &&& (2147483647 : Int32)) % (7 : Int32)) (6 - ((p2 &&& (2147483647 : Int32)) % (7 : Int32)).toInt.toNat) (-1 : Int32) ((p2 &&& (2147483647 : Int32)) % (7 : Int32)))), .val (.int (own_first (own_g [(z6.toInt8.toInt32), (z13.toInt8.toInt32), (z20.toInt8.toInt32), (z27.toInt8.toInt32), (z34.toInt8.toInt32), (z41.toInt8.toInt32)]) (own_first (own_g [(z6.toInt8.toInt32), (z13.toInt8.toInt32), (z20.toInt8.toInt32), (z27.toInt8.toInt32), (z34.toInt8.toInt32), (z41.toInt8.toInt32)]) (own_first (own_g [(z6.toInt8.toInt32), (z13.toInt8.toInt32), (z20.toInt8.toInt32), (z27.toInt8.toInt32), (z34.toInt8.toInt32), (z41.toInt8.toInt32)]) (own_first (own_g [(z6.toInt8.toInt32), (z13.toInt8.toInt32), (z20.toInt8.toInt32), (z27.toInt8.toInt32), (z34.toInt8.toInt32), (z41.toInt8.toInt32)]) (-1 : Int32) (0 : Int32) ((p2 &&& (2147483647 : Int32)) % (7 : Int32)) ((p3 &&& (2147483647 : Int32)) % (7 : Int32))) (1 : Int32) ((p2 &&& (2147483647 : Int32)) % (7 : Int32)) ((p3 &&& (2147483647 : Int32)) % (7 : Int32))) (2 : Int32) ((p2 &&& (2147483647 : Int32)) % (7 : Int32)) ((p3 &&& (2147483647 : Int32)) % (7 : Int32))) (3 : Int32) ((p2 &&& (2147483647 : Int32)) % (7 : Int32)) ((p3 &&& (2147483647 : Int32)) % (7 : Int32))))] [(.int (own_first (own_g [(z6.toInt8.toInt32), (z13.toInt8.toInt32), (z20.toInt8.toInt32), (z27.toInt8.toInt32), (z34.toInt8.toInt32), (z41.toInt8.toInt32)]) (own_first (own_g [(z6.toInt8.toInt32), (z13.toInt8.toInt32), (z20.toInt8.toInt32), (z27.toInt8.toInt32), (z34.toInt8.toInt32), (z41.toInt8.toInt32)]) (own_first (own_g [(z6.toInt8.toInt32), (z13.toInt8.toInt32), (z20.toInt8.toInt32), (z27.toInt8.toInt32), (z34.toInt8.toInt32), (z41.toInt8.toInt32)]) (own_first (own_g [(z6.toInt8.toInt32), (z13.toInt8.toInt32), (z20.toInt8.toInt32), (z27.toInt8.toInt32), (z34.toInt8.toInt32), (z41.toInt8.toInt32)]) (own_first (own_g [(z6.toInt8.toInt32), (z13.toInt8.toInt32), (z20.toInt8.toInt32), (z27.toInt8.toInt32), (z34.toInt8.toInt32), (z41.toInt8.toInt32)]) (-1 : Int32) (0 : Int32) ((p2 &&& (2147483647 : Int32)) % (7 : Int32)) ((p3 &&& (2147483647 : Int32)) % (7 : Int32))) (1 : Int32) ((p2 &&& (2147483647 : Int32)) % (7 : Int32)) ((p3 &&& (2147483647 : Int32)) % (7 : Int32))) (2 : Int32) ((p2 &&& (2147483647 : Int32)) % (7 : Int32)) ((p3 &&& (2147483647 : Int32)) % (7 : Int32))) (3 : Int32) ((p2 &&& (2147483647 : Int32)) % (7 : Int32)) ((p3 &&& (2147483647 : Int32)) % (7 : Int32))) (4 : Int32) ((p2 &&& (2147483647 : Int32)) % (7 : Int32)) ((p3 &&& (2147483647 : Int32)) % (7 : Int32))))])) t
    refine XS.istore X63.here hx rfl (hb hby at_167) rfl (l' := #[.val (.int p1), .val (.long q1), .second, .val (.int p2), .val (.int p3), .val (.ref b2), .val (.int ((p2 &&& (2147483647 : Int32)) % (7 : Int32))), .val (.int ((p3 &&& (2147483647 : Int32)) % (7 : Int32))), .val (.int (own_loop (own_g [(z6.toInt8.toInt32), (z13.toInt8.toInt32), (z20.toInt8.toInt32), (z27.toInt8.toInt32), (z34.toInt8.toInt32), (z41.toInt8.toInt32)]) ((p3 &&& (2147483647 : Int32)) % (7 : Int32)) (6 - ((p2 &&& (2147483647 : Int32)) % (7 : Int32)).toInt.toNat) (-1 : Int32) ((p2 &&& (2147483647 : Int32)) % (7 : Int32)))), .val (.int (own_first (own_g [(z6.toInt8.toInt32), (z13.toInt8.toInt32), (z20.toInt8.toInt32), (z27.toInt8.toInt32), (z34.toInt8.toInt32), (z41.toInt8.toInt32)]) (own_first (own_g [(z6.toInt8.toInt32), (z13.toInt8.toInt32), (z20.toInt8.toInt32), (z27.toInt8.toInt32), (z34.toInt8.toInt32), (z41.toInt8.toInt32)]) (own_first (own_g [(z6.toInt8.toInt32), (z13.toInt8.toInt32), (z20.toInt8.toInt32), (z27.toInt8.toInt32), (z34.toInt8.toInt32), (z41.toInt8.toInt32)]) (own_first (own_g [(z6.toInt8.toInt32), (z13.toInt8.toInt32), (z20.toInt8.toInt32), (z27.toInt8.toInt32), (z34.toInt8.toInt32), (z41.toInt8.toInt32)]) (own_first (own_g [(z6.toInt8.toInt32), (z13.toInt8.toInt32), (z20.toInt8.toInt32), (z27.toInt8.toInt32), (z34.toInt8.toInt32), (z41.toInt8.toInt32)]) (-1 : Int32) (0 : Int32) ((p2 &&& (2147483647 : Int32)) % (7 : Int32)) ((p3 &&& (2147483647 : Int32)) % (7 : Int32))) (1 : Int32) ((p2 &&& (2147483647 : Int32)) % (7 : Int32)) ((p3 &&& (2147483647 : Int32)) % (7 : Int32))) (2 : Int32) ((p2 &&& (2147483647 : Int32)) % (7 : Int32)) ((p3 &&& (2147483647 : Int32)) % (7 : Int32))) (3 : Int32) ((p2 &&& (2147483647 : Int32)) % (7 : Int32)) ((p3 &&& (2147483647 : Int32)) % (7 : Int32))) (4 : Int32) ((p2 &&& (2147483647 : Int32)) % (7 : Int32)) ((p3 &&& (2147483647 : Int32)) % (7 : Int32))))]) rfl ?_
    show Steps p.tables e below (T63.setTop (mkF m 169 #[.val (.int p1), .val (.long q1), .second, .val (.int p2), .val (.int p3), .val (.ref b2), .val (.int ((p2 &&& (2147483647 : Int32)) % (7 : Int32))), .val (.int ((p3 &&& (2147483647 : Int32)) % (7 : Int32))), .val (.int (own_loop (own_g [(z6.toInt8.toInt32), (z13.toInt8.toInt32), (z20.toInt8.toInt32), (z27.toInt8.toInt32), (z34.toInt8.toInt32), (z41.toInt8.toInt32)]) ((p3 &&& (2147483647 : Int32)) % (7 : Int32)) (6 - ((p2 &&& (2147483647 : Int32)) % (7 : Int32)).toInt.toNat) (-1 : Int32) ((p2 &&& (2147483647 : Int32)) % (7 : Int32)))), .val (.int (own_first (own_g [(z6.toInt8.toInt32), (z13.toInt8.toInt32), (z20.toInt8.toInt32), (z27.toInt8.toInt32), (z34.toInt8.toInt32), (z41.toInt8.toInt32)]) (own_first (own_g [(z6.toInt8.toInt32), (z13.toInt8.toInt32), (z20.toInt8.toInt32), (z27.toInt8.toInt32), (z34.toInt8.toInt32), (z41.toInt8.toInt32)]) (own_first (own_g [(z6.toInt8.toInt32), (z13.toInt8.toInt32), (z20.toInt8.toInt32), (z27.toInt8.toInt32), (z34.toInt8.toInt32), (z41.toInt8.toInt32)]) (own_first (own_g [(z6.toInt8.toInt32), (z13.toInt8.toInt32), (z20.toInt8.toInt32), (z27.toInt8.toInt32), (z34.toInt8.toInt32), (z41.toInt8.toInt32)]) (own_first (own_g [(z6.toInt8.toInt32), (z13.toInt8.toInt32), (z20.toInt8.toInt32), (z27.toInt8.toInt32), (z34.toInt8.toInt32), (z41.toInt8.toInt32)]) (-1 : Int32) (0 : Int32) ((p2 &&& (2147483647 : Int32)) % (7 : Int32)) ((p3 &&& (2147483647 : Int32)) % (7 : Int32))) (1 : Int32) ((p2 &&& (2147483647 : Int32)) % (7 : Int32)) ((p3 &&& (2147483647 : Int32)) % (7 : Int32))) (2 : Int32) ((p2 &&& (2147483647 : Int32)) % (7 : Int32)) ((p3 &&& (2147483647 : Int32)) % (7 : Int32))) (3 : Int32) ((p2 &&& (2147483647 : Int32)) % (7 : Int32)) ((p3 &&& (2147483647 : Int32)) % (7 : Int32))) (4 : Int32) ((p2 &&& (2147483647 : Int32)) % (7 : Int32)) ((p3 &&& (2147483647 : Int32)) % (7 : Int32))))] [])) t
    refine XS.iload X63.here hx rfl (hb hby at_169) rfl ?_
    show Steps p.tables e below (T63.setTop (mkF m 171 #[.val (.int p1), .val (.long q1), .second, .val (.int p2), .val (.int p3), .val (.ref b2), .val (.int ((p2 &&& (2147483647 : Int32)) % (7 : Int32))), .val (.int ((p3 &&& (2147483647 : Int32)) % (7 : Int32))), .val (.int (own_loop (own_g [(z6.toInt8.toInt32), (z13.toInt8.toInt32), (z20.toInt8.toInt32), (z27.toInt8.toInt32), (z34.toInt8.toInt32), (z41.toInt8.toInt32)]) ((p3 &&& (2147483647 : Int32)) % (7 : Int32)) (6 - ((p2 &&& (2147483647 : Int32)) % (7 : Int32)).toInt.toNat) (-1 : Int32) ((p2 &&& (2147483647 : Int32)) % (7 : Int32)))), .val (.int (own_first (own_g [(z6.toInt8.toInt32), (z13.toInt8.toInt32), (z20.toInt8.toInt32), (z27.toInt8.toInt32), (z34.toInt8.toInt32), (z41.toInt8.toInt32)]) (own_first (own_g [(z6.toInt8.toInt32), (z13.toInt8.toInt32), (z20.toInt8.toInt32), (z27.toInt8.toInt32), (z34.toInt8.toInt32), (z41.toInt8.toInt32)]) (own_first (own_g [(z6.toInt8.toInt32), (z13.toInt8.toInt32), (z20.toInt8.toInt32), (z27.toInt8.toInt32), (z34.toInt8.toInt32), (z41.toInt8.toInt32)]) (own_first (own_g [(z6.toInt8.toInt32), (z13.toInt8.toInt32), (z20.toInt8.toInt32), (z27.toInt8.toInt32), (z34.toInt8.toInt32), (z41.toInt8.toInt32)]) (own_first (own_g [(z6.toInt8.toInt32), (z13.toInt8.toInt32), (z20.toInt8.toInt32), (z27.toInt8.toInt32), (z34.toInt8.toInt32), (z41.toInt8.toInt32)]) (-1 : Int32) (0 : Int32) ((p2 &&& (2147483647 : Int32)) % (7 : Int32)) ((p3 &&& (2147483647 : Int32)) % (7 : Int32))) (1 : Int32) ((p2 &&& (2147483647 : Int32)) % (7 : Int32)) ((p3 &&& (2147483647 : Int32)) % (7 : Int32))) (2 : Int32) ((p2 &&& (2147483647 : Int32)) % (7 : Int32)) ((p3 &&& (2147483647 : Int32)) % (7 : Int32))) (3 : Int32) ((p2 &&& (2147483647 : Int32)) % (7 : Int32)) ((p3 &&& (2147483647 : Int32)) % (7 : Int32))) (4 : Int32) ((p2 &&& (2147483647 : Int32)) % (7 : Int32)) ((p3 &&& (2147483647 : Int32)) % (7 : Int32))))] [(.int (own_first (own_g [(z6.toInt8.toInt32), (z13.toInt8.toInt32), (z20.toInt8.toInt32), (z27.toInt8.toInt32), (z34.toInt8.toInt32), (z41.toInt8.toInt32)]) (own_first (own_g [(z6.toInt8.toInt32), (z13.toInt8.toInt32), (z20.toInt8.toInt32), (z27.toInt8.toInt32), (z34.toInt8.toInt32), (z41.toInt8.toInt32)]) (own_first (own_g [(z6.toInt8.toInt32), (z13.toInt8.toInt32), (z20.toInt8.toInt32), (z27.toInt8.toInt32), (z34.toInt8.toInt32), (z41.toInt8.toInt32)]) (own_first (own_g [(z6.toInt8.toInt32), (z13.toInt8.toInt32), (z20.toInt8.toInt32), (z27.toInt8.toInt32), (z34.toInt8.toInt32), (z41.toInt8.toInt32)]) (own_first (own_g [(z6.toInt8.toInt32), (z13.toInt8.toInt32), (z20.toInt8.toInt32), (z27.toInt8.toInt32), (z34.toInt8.toInt32), (z41.toInt8.toInt32)]) (-1 : Int32) (0 : Int32) ((p2 &&& (2147483647 : Int32)) % (7 : Int32)) ((p3 &&& (2147483647 : Int32)) % (7 : Int32))) (1 : Int32) ((p2 &&& (2147483647 : Int32)) % (7 : Int32)) ((p3 &&& (2147483647 : Int32)) % (7 : Int32))) (2 : Int32) ((p2 &&& (2147483647 : Int32)) % (7 : Int32)) ((p3 &&& (2147483647 : Int32)) % (7 : Int32))) (3 : Int32) ((p2 &&& (2147483647 : Int32)) % (7 : Int32)) ((p3 &&& (2147483647 : Int32)) % (7 : Int32))) (4 : Int32) ((p2 &&& (2147483647 : Int32)) % (7 : Int32)) ((p3 &&& (2147483647 : Int32)) % (7 : Int32))))])) t
    refine XS.aload X63.here hx rfl (hb hby at_171) rfl rfl ?_
    show Steps p.tables e below (T63.setTop (mkF m 173 #[.val (.int p1), .val (.long q1), .second, .val (.int p2), .val (.int p3), .val (.ref b2), .val (.int ((p2 &&& (2147483647 : Int32)) % (7 : Int32))), .val (.int ((p3 &&& (2147483647 : Int32)) % (7 : Int32))), .val (.int (own_loop (own_g [(z6.toInt8.toInt32), (z13.toInt8.toInt32), (z20.toInt8.toInt32), (z27.toInt8.toInt32), (z34.toInt8.toInt32), (z41.toInt8.toInt32)]) ((p3 &&& (2147483647 : Int32)) % (7 : Int32)) (6 - ((p2 &&& (2147483647 : Int32)) % (7 : Int32)).toInt.toNat) (-1 : Int32) ((p2 &&& (2147483647 : Int32)) % (7 : Int32)))), .val (.int (own_first (own_g [(z6.toInt8.toInt32), (z13.toInt8.toInt32), (z20.toInt8.toInt32), (z27.toInt8.toInt32), (z34.toInt8.toInt32), (z41.toInt8.toInt32)]) (own_first (own_g [(z6.toInt8.toInt32), (z13.toInt8.toInt32), (z20.toInt8.toInt32), (z27.toInt8.toInt32), (z34.toInt8.toInt32), (z41.toInt8.toInt32)]) (own_first (own_g [(z6.toInt8.toInt32), (z13.toInt8.toInt32), (z20.toInt8.toInt32), (z27.toInt8.toInt32), (z34.toInt8.toInt32), (z41.toInt8.toInt32)]) (own_first (own_g [(z6.toInt8.toInt32), (z13.toInt8.toInt32), (z20.toInt8.toInt32), (z27.toInt8.toInt32), (z34.toInt8.toInt32), (z41.toInt8.toInt32)]) (own_first (own_g [(z6.toInt8.toInt32), (z13.toInt8.toInt32), (z20.toInt8.toInt32), (z27.toInt8.toInt32), (z34.toInt8.toInt32), (z41.toInt8.toInt32)]) (-1 : Int32) (0 : Int32) ((p2 &&& (2147483647 : Int32)) % (7 : Int32)) ((p3 &&& (2147483647 : Int32)) % (7 : Int32))) (1 : Int32) ((p2 &&& (2147483647 : Int32)) % (7 : Int32)) ((p3 &&& (2147483647 : Int32)) % (7 : Int32))) (2 : Int32) ((p2 &&& (2147483647 : Int32)) % (7 : Int32)) ((p3 &&& (2147483647 : Int32)) % (7 : Int32))) (3 : Int32) ((p2 &&& (2147483647 : Int32)) % (7 : Int32)) ((p3 &&& (2147483647 : Int32)) % (7 : Int32))) (4 : Int32) ((p2 &&& (2147483647 : Int32)) % (7 : Int32)) ((p3 &&& (2147483647 : Int32)) % (7 : Int32))))] [(.ref b2), (.int (own_first (own_g [(z6.toInt8.toInt32), (z13.toInt8.toInt32), (z20.toInt8.toInt32), (z27.toInt8.toInt32), (z34.toInt8.toInt32), (z41.toInt8.toInt32)]) (own_first (own_g [(z6.toInt8.toInt32), (z13.toInt8.toInt32), (z20.toInt8.toInt32), (z27.toInt8.toInt32), (z34.toInt8.toInt32), (z41.toInt8.toInt32)]) (own_first (own_g [(z6.toInt8.toInt32), (z13.toInt8.toInt32), (z20.toInt8.toInt32), (z27.toInt8.toInt32), (z34.toInt8.toInt32), (z41.toInt8.toInt32)]) (own_first (own_g [(z6.toInt8.toInt32), (z13.toInt8.toInt32), (z20.toInt8.toInt32), (z27.toInt8.toInt32), (z34.toInt8.toInt32), (z41.toInt8.toInt32)]) (own_first (own_g [(z6.toInt8.toInt32), (z13.toInt8.toInt32), (z20.toInt8.toInt32), (z27.toInt8.toInt32), (z34.toInt8.toInt32), (z41.toInt8.toInt32)]) (-1 : Int32) (0 : Int32) ((p2 &&& (2147483647 : Int32)) % (7 : Int32)) ((p3 &&& (2147483647 : Int32)) % (7 : Int32))) (1 : Int32) ((p2 &&& (2147483647 : Int32)) % (7 : Int32)) ((p3 &&& (2147483647 : Int32)) % (7 : Int32))) (2 : Int32) ((p2 &&& (2147483647 : Int32)) % (7 : Int32)) ((p3 &&& (2147483647 : Int32)) % (7 : Int32))) (3 : Int32) ((p2 &&& (2147483647 : Int32)) % (7 : Int32)) ((p3 &&& (2147483647 : Int32)) % (7 : Int32))) (4 : Int32) ((p2 &&& (2147483647 : Int32)) % (7 : Int32)) ((p3 &&& (2147483647 : Int32)) % (7 : Int32))))])) t
    refine XS.iconst X63.here hx rfl (hb hby at_173) ?_
    show Steps p.tables e below (T63.setTop (mkF m 174 #[.val (.int p1), .val (.long q1), .second, .val (.int p2), .val (.int p3), .val (.ref b2), .val (.int ((p2 &&& (2147483647 : Int32)) % (7 : Int32))), .val (.int ((p3 &&& (2147483647 : Int32)) % (7 : Int32))), .val (.int (own_loop (own_g [(z6.toInt8.toInt32), (z13.toInt8.toInt32), (z20.toInt8.toInt32), (z27.toInt8.toInt32), (z34.toInt8.toInt32), (z41.toInt8.toInt32)]) ((p3 &&& (2147483647 : Int32)) % (7 : Int32)) (6 - ((p2 &&& (2147483647 : Int32)) % (7 : Int32)).toInt.toNat) (-1 : Int32) ((p2 &&& (2147483647 : Int32)) % (7 : Int32)))), .val (.int (own_first (own_g [(z6.toInt8.toInt32), (z13.toInt8.toInt32), (z20.toInt8.toInt32), (z27.toInt8.toInt32), (z34.toInt8.toInt32), (z41.toInt8.toInt32)]) (own_first (own_g [(z6.toInt8.toInt32), (z13.toInt8.toInt32), (z20.toInt8.toInt32), (z27.toInt8.toInt32), (z34.toInt8.toInt32), (z41.toInt8.toInt32)]) (own_first (own_g [(z6.toInt8.toInt32), (z13.toInt8.toInt32), (z20.toInt8.toInt32), (z27.toInt8.toInt32), (z34.toInt8.toInt32), (z41.toInt8.toInt32)]) (own_first (own_g [(z6.toInt8.toInt32), (z13.toInt8.toInt32), (z20.toInt8.toInt32), (z27.toInt8.toInt32), (z34.toInt8.toInt32), (z41.toInt8.toInt32)]) (own_first (own_g [(z6.toInt8.toInt32), (z13.toInt8.toInt32), (z20.toInt8.toInt32), (z27.toInt8.toInt32), (z34.toInt8.toInt32), (z41.toInt8.toInt32)]) (-1 : Int32) (0 : Int32) ((p2 &&& (2147483647 : Int32)) % (7 : Int32)) ((p3 &&& (2147483647 : Int32)) % (7 : Int32))) (1 : Int32) ((p2 &&& (2147483647 : Int32)) % (7 : Int32)) ((p3 &&& (2147483647 : Int32)) % (7 : Int32))) (2 : Int32) ((p2 &&& (2147483647 : Int32)) % (7 : Int32)) ((p3 &&& (2147483647 : Int32)) % (7 : Int32))) (3 : Int32) ((p2 &&& (2147483647 : Int32)) % (7 : Int32)) ((p3 &&& (2147483647 : Int32)) % (7 : Int32))) (4 : Int32) ((p2 &&& (2147483647 : Int32)) % (7 : Int32)) ((p3 &&& (2147483647 : Int32)) % (7 : Int32))))] [(.int (5 : Int32)), (.ref b2), (.int (own_first (own_g [(z6.toInt8.toInt32), (z13.toInt8.toInt32), (z20.toInt8.toInt32), (z27.toInt8.toInt32), (z34.toInt8.toInt32), (z41.toInt8.toInt32)]) (own_first (own_g [(z6.toInt8.toInt32), (z13.toInt8.toInt32), (z20.toInt8.toInt32), (z27.toInt8.toInt32), (z34.toInt8.toInt32), (z41.toInt8.toInt32)]) (own_first (own_g [(z6.toInt8.toInt32), (z13.toInt8.toInt32), (z20.toInt8.toInt32), (z27.toInt8.toInt32), (z34.toInt8.toInt32), (z41.toInt8.toInt32)]) (own_first (own_g [(z6.toInt8.toInt32), (z13.toInt8.toInt32), (z20.toInt8.toInt32), (z27.toInt8.toInt32), (z34.toInt8.toInt32), (z41.toInt8.toInt32)]) (own_first (own_g [(z6.toInt8.toInt32), (z13.toInt8.toInt32), (z20.toInt8.toInt32), (z27.toInt8.toInt32), (z34.toInt8.toInt32), (z41.toInt8.toInt32)]) (-1 : Int32) (0 : Int32) ((p2 &&& (2147483647 : Int32)) % (7 : Int32)) ((p3 &&& (2147483647 : Int32)) % (7 : Int32))) (1 : Int32) ((p2 &&& (2147483647 : Int32)) % (7 : Int32)) ((p3 &&& (2147483647 : Int32)) % (7 : Int32))) (2 : Int32) ((p2 &&& (2147483647 : Int32)) % (7 : Int32)) ((p3 &&& (2147483647 : Int32)) % (7 : Int32))) (3 : Int32) ((p2 &&& (2147483647 : Int32)) % (7 : Int32)) ((p3 &&& (2147483647 : Int32)) % (7 : Int32))) (4 : Int32) ((p2 &&& (2147483647 : Int32)) % (7 : Int32)) ((p3 &&& (2147483647 : Int32)) % (7 : Int32))))])) t
    refine XS.iload X63.here hx rfl (hb hby at_174) rfl ?_
    show Steps p.tables e below (T63.setTop (mkF m 176 #[.val (.int p1), .val (.long q1), .second, .val (.int p2), .val (.int p3), .val (.ref b2), .val (.int ((p2 &&& (2147483647 : Int32)) % (7 : Int32))), .val (.int ((p3 &&& (2147483647 : Int32)) % (7 : Int32))), .val (.int (own_loop (own_g [(z6.toInt8.toInt32), (z13.toInt8.toInt32), (z20.toInt8.toInt32), (z27.toInt8.toInt32), (z34.toInt8.toInt32), (z41.toInt8.toInt32)]) ((p3 &&& (2147483647 : Int32)) % (7 : Int32)) (6 - ((p2 &&& (2147483647 : Int32)) % (7 : Int32)).toInt.toNat) (-1 : Int32) ((p2 &&& (2147483647 : Int32)) % (7 : Int32)))), .val (.int (own_first (own_g [(z6.toInt8.toInt32), (z13.toInt8.toInt32), (z20.toInt8.toInt32), (z27.toInt8.toInt32), (z34.toInt8.toInt32), (z41.toInt8.toInt32)]) (own_first (own_g [(z6.toInt8.toInt32), (z13.toInt8.toInt32), (z20.toInt8.toInt32), (z27.toInt8.toInt32), (z34.toInt8.toInt32), (z41.toInt8.toInt32)]) (own_first (own_g [(z6.toInt8.toInt32), (z13.toInt8.toInt32), (z20.toInt8.toInt32), (z27.toInt8.toInt32), (z34.toInt8.toInt32), (z41.toInt8.toInt32)]) (own_first (own_g [(z6.toInt8.toInt32), (z13.toInt8.toInt32), (z20.toInt8.toInt32), (z27.toInt8.toInt32), (z34.toInt8.toInt32), (z41.toInt8.toInt32)]) (own_first (own_g [(z6.toInt8.toInt32), (z13.toInt8.toInt32), (z20.toInt8.toInt32), (z27.toInt8.toInt32), (z34.toInt8.toInt32), (z41.toInt8.toInt32)]) (-1 : Int32) (0 : Int32) ((p2 &&& (2147483647 : Int32)) % (7 : Int32)) ((p3 &&& (2147483647 : Int32)) % (7 : Int32))) (1 : Int32) ((p2 &&& (2147483647 : Int32)) % (7 : Int32)) ((p3 &&& (2147483647 : Int32)) % (7 : Int32))) (2 : Int32) ((p2 &&& (2147483647 : Int32)) % (7 : Int32)) ((p3 &&& (2147483647 : Int32)) % (7 : Int32))) (3 : Int32) ((p2 &&& (2147483647 : Int32)) % (7 : Int32)) ((p3 &&& (2147483647 : Int32)) % (7 : Int32))) (4 : Int32) ((p2 &&& (2147483647 : Int32)) % (7 : Int32)) ((p3 &&& (2147483647 : Int32)) % (7 : Int32))))] [(.int ((p2 &&& (2147483647 : Int32)) % (7 : Int32))), (.int (5 : Int32)), (.ref b2), (.int (own_first (own_g [(z6.toInt8.toInt32), (z13.toInt8.toInt32), (z20.toInt8.toInt32), (z27.toInt8.toInt32), (z34.toInt8.toInt32), (z41.toInt8.toInt32)]) (own_first (own_g [(z6.toInt8.toInt32), (z13.toInt8.toInt32), (z20.toInt8.toInt32), (z27.toInt8.toInt32), (z34.toInt8.toInt32), (z41.toInt8.toInt32)]) (own_first (own_g [(z6.toInt8.toInt32), (z13.toInt8.toInt32), (z20.toInt8.toInt32), (z27.toInt8.toInt32), (z34.toInt8.toInt32), (z41.toInt8.toInt32)]) (own_first (own_g [(z6.toInt8.toInt32), (z13.toInt8.toInt32), (z20.toInt8.toInt32), (z27.toInt8.toInt32), (z34.toInt8.toInt32), (z41.toInt8.toInt32)]) (own_first (own_g [(z6.toInt8.toInt32), (z13.toInt8.toInt32), (z20.toInt8.toInt32), (z27.toInt8.toInt32), (z34.toInt8.toInt32), (z41.toInt8.toInt32)]) (-1 : Int32) (0 : Int32) ((p2 &&& (2147483647 : Int32)) % (7 : Int32)) ((p3 &&& (2147483647 : Int32)) % (7 : Int32))) (1 : Int32) ((p2 &&& (2147483647 : Int32)) % (7 : Int32)) ((p3 &&& (2147483647 : Int32)) % (7 : Int32))) (2 : Int32) ((p2 &&& (2147483647 : Int32)) % (7 : Int32)) ((p3 &&& (2147483647 : Int32)) % (7 : Int32))) (3 : Int32) ((p2 &&& (2147483647 : Int32)) % (7 : Int32)) ((p3 &&& (2147483647 : Int32)) % (7 : Int32))) (4 : Int32) ((p2 &&& (2147483647 : Int32)) % (7 : Int32)) ((p3 &&& (2147483647 : Int32)) % (7 : Int32))))])) t
    refine XS.iload X63.here hx rfl (hb hby at_176) rfl ?_
    exact kt
  obtain ⟨_, _, ⟨T66, L66, k66c, n66⟩, -, X66, ⟨Lc66, hQ66, l66, y66, z66⟩, st66⟩ := Jvm.LawKit.callS X63 hx (y := (⟨"com/example/ruleward/ruleward/http/HttpHeadEndPinLaw", "first", "(I[BIII)I"⟩ : MethodName)) hown (mvT hZ (hw _ (List.mem_of_getElem? (i := 10) rfl))) (mvT hZ (hw _ (List.mem_of_getElem? (i := 11) rfl))) (mvT hZ (hw _ (List.mem_of_getElem? (i := 3) rfl))) (mvT hZ (hw _ (List.mem_of_getElem? (i := 12) rfl))) (by decide) (backOf (W := 0) (rmF l Z a0 hw [] (own_first (own_g [(z6.toInt8.toInt32), (z13.toInt8.toInt32), (z20.toInt8.toInt32), (z27.toInt8.toInt32), (z34.toInt8.toInt32), (z41.toInt8.toInt32)]) (own_first (own_g [(z6.toInt8.toInt32), (z13.toInt8.toInt32), (z20.toInt8.toInt32), (z27.toInt8.toInt32), (z34.toInt8.toInt32), (z41.toInt8.toInt32)]) (own_first (own_g [(z6.toInt8.toInt32), (z13.toInt8.toInt32), (z20.toInt8.toInt32), (z27.toInt8.toInt32), (z34.toInt8.toInt32), (z41.toInt8.toInt32)]) (own_first (own_g [(z6.toInt8.toInt32), (z13.toInt8.toInt32), (z20.toInt8.toInt32), (z27.toInt8.toInt32), (z34.toInt8.toInt32), (z41.toInt8.toInt32)]) (own_first (own_g [(z6.toInt8.toInt32), (z13.toInt8.toInt32), (z20.toInt8.toInt32), (z27.toInt8.toInt32), (z34.toInt8.toInt32), (z41.toInt8.toInt32)]) (-1 : Int32) (0 : Int32) ((p2 &&& (2147483647 : Int32)) % (7 : Int32)) ((p3 &&& (2147483647 : Int32)) % (7 : Int32))) (1 : Int32) ((p2 &&& (2147483647 : Int32)) % (7 : Int32)) ((p3 &&& (2147483647 : Int32)) % (7 : Int32))) (2 : Int32) ((p2 &&& (2147483647 : Int32)) % (7 : Int32)) ((p3 &&& (2147483647 : Int32)) % (7 : Int32))) (3 : Int32) ((p2 &&& (2147483647 : Int32)) % (7 : Int32)) ((p3 &&& (2147483647 : Int32)) % (7 : Int32))) (4 : Int32) ((p2 &&& (2147483647 : Int32)) % (7 : Int32)) ((p3 &&& (2147483647 : Int32)) % (7 : Int32))) b2 c2 [(.int (z6.toInt8.toInt32)), (.int (z13.toInt8.toInt32)), (.int (z20.toInt8.toInt32)), (.int (z27.toInt8.toInt32)), (.int (z34.toInt8.toInt32)), (.int (z41.toInt8.toInt32))] (own_g [(z6.toInt8.toInt32), (z13.toInt8.toInt32), (z20.toInt8.toInt32), (z27.toInt8.toInt32), (z34.toInt8.toInt32), (z41.toInt8.toInt32)]) (5 : Int32) ((p2 &&& (2147483647 : Int32)) % (7 : Int32)) ((p3 &&& (2147483647 : Int32)) % (7 : Int32)) h43 n0 Z43 F44 (fun j _ => own_getg [(z6.toInt8.toInt32), (z13.toInt8.toInt32), (z20.toInt8.toInt32), (z27.toInt8.toInt32), (z34.toInt8.toInt32), (z41.toInt8.toInt32)] j) (by decide) (own_m7 _).2) hZ (hw _ (List.mem_of_getElem? (i := 12) rfl)) (hw _ (List.mem_of_getElem? (i := 3) rfl)) (by decide) (by decide)) (g := (mkF m 178 #[.val (.int p1), .val (.long q1), .second, .val (.int p2), .val (.int p3), .val (.ref b2), .val (.int ((p2 &&& (2147483647 : Int32)) % (7 : Int32))), .val (.int ((p3 &&& (2147483647 : Int32)) % (7 : Int32))), .val (.int (own_loop (own_g [(z6.toInt8.toInt32), (z13.toInt8.toInt32), (z20.toInt8.toInt32), (z27.toInt8.toInt32), (z34.toInt8.toInt32), (z41.toInt8.toInt32)]) ((p3 &&& (2147483647 : Int32)) % (7 : Int32)) (6 - ((p2 &&& (2147483647 : Int32)) % (7 : Int32)).toInt.toNat) (-1 : Int32) ((p2 &&& (2147483647 : Int32)) % (7 : Int32)))), .val (.int (own_first (own_g [(z6.toInt8.toInt32), (z13.toInt8.toInt32), (z20.toInt8.toInt32), (z27.toInt8.toInt32), (z34.toInt8.toInt32), (z41.toInt8.toInt32)]) (own_first (own_g [(z6.toInt8.toInt32), (z13.toInt8.toInt32), (z20.toInt8.toInt32), (z27.toInt8.toInt32), (z34.toInt8.toInt32), (z41.toInt8.toInt32)]) (own_first (own_g [(z6.toInt8.toInt32), (z13.toInt8.toInt32), (z20.toInt8.toInt32), (z27.toInt8.toInt32), (z34.toInt8.toInt32), (z41.toInt8.toInt32)]) (own_first (own_g [(z6.toInt8.toInt32), (z13.toInt8.toInt32), (z20.toInt8.toInt32), (z27.toInt8.toInt32), (z34.toInt8.toInt32), (z41.toInt8.toInt32)]) (own_first (own_g [(z6.toInt8.toInt32), (z13.toInt8.toInt32), (z20.toInt8.toInt32), (z27.toInt8.toInt32), (z34.toInt8.toInt32), (z41.toInt8.toInt32)]) (-1 : Int32) (0 : Int32) ((p2 &&& (2147483647 : Int32)) % (7 : Int32)) ((p3 &&& (2147483647 : Int32)) % (7 : Int32))) (1 : Int32) ((p2 &&& (2147483647 : Int32)) % (7 : Int32)) ((p3 &&& (2147483647 : Int32)) % (7 : Int32))) (2 : Int32) ((p2 &&& (2147483647 : Int32)) % (7 : Int32)) ((p3 &&& (2147483647 : Int32)) % (7 : Int32))) (3 : Int32) ((p2 &&& (2147483647 : Int32)) % (7 : Int32)) ((p3 &&& (2147483647 : Int32)) % (7 : Int32))) (4 : Int32) ((p2 &&& (2147483647 : Int32)) % (7 : Int32)) ((p3 &&& (2147483647 : Int32)) % (7 : Int32))))] [(.int ((p3 &&& (2147483647 : Int32)) % (7 : Int32))), (.int ((p2 &&& (2147483647 : Int32)) % (7 : Int32))), (.int (5 : Int32)), (.ref b2), (.int (own_first (own_g [(z6.toInt8.toInt32), (z13.toInt8.toInt32), (z20.toInt8.toInt32), (z27.toInt8.toInt32), (z34.toInt8.toInt32), (z41.toInt8.toInt32)]) (own_first (own_g [(z6.toInt8.toInt32), (z13.toInt8.toInt32), (z20.toInt8.toInt32), (z27.toInt8.toInt32), (z34.toInt8.toInt32), (z41.toInt8.toInt32)]) (own_first (own_g [(z6.toInt8.toInt32), (z13.toInt8.toInt32), (z20.toInt8.toInt32), (z27.toInt8.toInt32), (z34.toInt8.toInt32), (z41.toInt8.toInt32)]) (own_first (own_g [(z6.toInt8.toInt32), (z13.toInt8.toInt32), (z20.toInt8.toInt32), (z27.toInt8.toInt32), (z34.toInt8.toInt32), (z41.toInt8.toInt32)]) (own_first (own_g [(z6.toInt8.toInt32), (z13.toInt8.toInt32), (z20.toInt8.toInt32), (z27.toInt8.toInt32), (z34.toInt8.toInt32), (z41.toInt8.toInt32)]) (-1 : Int32) (0 : Int32) ((p2 &&& (2147483647 : Int32)) % (7 : Int32)) ((p3 &&& (2147483647 : Int32)) % (7 : Int32))) (1 : Int32) ((p2 &&& (2147483647 : Int32)) % (7 : Int32)) ((p3 &&& (2147483647 : Int32)) % (7 : Int32))) (2 : Int32) ((p2 &&& (2147483647 : Int32)) % (7 : Int32)) ((p3 &&& (2147483647 : Int32)) % (7 : Int32))) (3 : Int32) ((p2 &&& (2147483647 : Int32)) % (7 : Int32)) ((p3 &&& (2147483647 : Int32)) % (7 : Int32))) (4 : Int32) ((p2 &&& (2147483647 : Int32)) % (7 : Int32)) ((p3 &&& (2147483647 : Int32)) % (7 : Int32))))])) rfl (by rw [hml]; rfl) (argsL := [(.int (own_first (own_g [(z6.toInt8.toInt32), (z13.toInt8.toInt32), (z20.toInt8.toInt32), (z27.toInt8.toInt32), (z34.toInt8.toInt32), (z41.toInt8.toInt32)]) (own_first (own_g [(z6.toInt8.toInt32), (z13.toInt8.toInt32), (z20.toInt8.toInt32), (z27.toInt8.toInt32), (z34.toInt8.toInt32), (z41.toInt8.toInt32)]) (own_first (own_g [(z6.toInt8.toInt32), (z13.toInt8.toInt32), (z20.toInt8.toInt32), (z27.toInt8.toInt32), (z34.toInt8.toInt32), (z41.toInt8.toInt32)]) (own_first (own_g [(z6.toInt8.toInt32), (z13.toInt8.toInt32), (z20.toInt8.toInt32), (z27.toInt8.toInt32), (z34.toInt8.toInt32), (z41.toInt8.toInt32)]) (own_first (own_g [(z6.toInt8.toInt32), (z13.toInt8.toInt32), (z20.toInt8.toInt32), (z27.toInt8.toInt32), (z34.toInt8.toInt32), (z41.toInt8.toInt32)]) (-1 : Int32) (0 : Int32) ((p2 &&& (2147483647 : Int32)) % (7 : Int32)) ((p3 &&& (2147483647 : Int32)) % (7 : Int32))) (1 : Int32) ((p2 &&& (2147483647 : Int32)) % (7 : Int32)) ((p3 &&& (2147483647 : Int32)) % (7 : Int32))) (2 : Int32) ((p2 &&& (2147483647 : Int32)) % (7 : Int32)) ((p3 &&& (2147483647 : Int32)) % (7 : Int32))) (3 : Int32) ((p2 &&& (2147483647 : Int32)) % (7 : Int32)) ((p3 &&& (2147483647 : Int32)) % (7 : Int32))) (4 : Int32) ((p2 &&& (2147483647 : Int32)) % (7 : Int32)) ((p3 &&& (2147483647 : Int32)) % (7 : Int32)))), (.ref b2), (.int (5 : Int32)), (.int ((p2 &&& (2147483647 : Int32)) % (7 : Int32))), (.int ((p3 &&& (2147483647 : Int32)) % (7 : Int32)))]) (rest := []) (lenOf own_pd2 rfl) rfl (by show 2 * 0 + _ ≤ _; exact Nat.le_of_eq rfl) (hb hby at_178) (fun _ _ => ⟨rfl, e63, (by decide : 1 + 0 ≤ _), (by decide : 6 + 0 ≤ _)⟩)
  dsimp only [Pt.U, Pt.locs, Pt.cells, Pt.slots] at X66 l66 y66 z66 st66 hQ66
  subst l66 y66 z66
  obtain ⟨rfl, N66q, e66⟩ := hQ66
  have N66 := Fr.app N63 N66q
  have k67 : ∀ t, Steps p.tables e below (T66.setTop (mkF m 181 #[.val (.int p1), .val (.long q1), .second, .val (.int p2), .val (.int p3), .val (.ref b2), .val (.int ((p2 &&& (2147483647 : Int32)) % (7 : Int32))), .val (.int ((p3 &&& (2147483647 : Int32)) % (7 : Int32))), .val (.int (own_loop (own_g [(z6.toInt8.toInt32), (z13.toInt8.toInt32), (z20.toInt8.toInt32), (z27.toInt8.toInt32), (z34.toInt8.toInt32), (z41.toInt8.toInt32)]) ((p3 &&& (2147483647 : Int32)) % (7 : Int32)) (6 - ((p2 &&& (2147483647 : Int32)) % (7 : Int32)).toInt.toNat) (-1 : Int32) ((p2 &&& (2147483647 : Int32)) % (7 : Int32)))), .val (.int (own_first (own_g [(z6.toInt8.toInt32), (z13.toInt8.toInt32), (z20.toInt8.toInt32), (z27.toInt8.toInt32), (z34.toInt8.toInt32), (z41.toInt8.toInt32)]) (own_first (own_g [(z6.toInt8.toInt32), (z13.toInt8.toInt32), (z20.toInt8.toInt32), (z27.toInt8.toInt32), (z34.toInt8.toInt32), (z41.toInt8.toInt32)]) (own_first (own_g [(z6.toInt8.toInt32), (z13.toInt8.toInt32), (z20.toInt8.toInt32), (z27.toInt8.toInt32), (z34.toInt8.toInt32), (z41.toInt8.toInt32)]) (own_first (own_g [(z6.toInt8.toInt32), (z13.toInt8.toInt32), (z20.toInt8.toInt32), (z27.toInt8.toInt32), (z34.toInt8.toInt32), (z41.toInt8.toInt32)]) (own_first (own_g [(z6.toInt8.toInt32), (z13.toInt8.toInt32), (z20.toInt8.toInt32), (z27.toInt8.toInt32), (z34.toInt8.toInt32), (z41.toInt8.toInt32)]) (-1 : Int32) (0 : Int32) ((p2 &&& (2147483647 : Int32)) % (7 : Int32)) ((p3 &&& (2147483647 : Int32)) % (7 : Int32))) (1 : Int32) ((p2 &&& (2147483647 : Int32)) % (7 : Int32)) ((p3 &&& (2147483647 : Int32)) % (7 : Int32))) (2 : Int32) ((p2 &&& (2147483647 : Int32)) % (7 : Int32)) ((p3 &&& (2147483647 : Int32)) % (7 : Int32))) (3 : Int32) ((p2 &&& (2147483647 : Int32)) % (7 : Int32)) ((p3 &&& (2147483647 : Int32)) % (7 : Int32))) (4 : Int32) ((p2 &&& (2147483647 : Int32)) % (7 : Int32)) ((p3 &&& (2147483647 : Int32)) % (7 : Int32))))] [(.int (own_first (own_g [(z6.toInt8.toInt32), (z13.toInt8.toInt32), (z20.toInt8.toInt32), (z27.toInt8.toInt32), (z34.toInt8.toInt32), (z41.toInt8.toInt32)]) (own_first (own_g [(z6.toInt8.toInt32), (z13.toInt8.toInt32), (z20.toInt8.toInt32), (z27.toInt8.toInt32), (z34.toInt8.toInt32), (z41.toInt8.toInt32)]) (own_first (own_g [(z6.toInt8.toInt32), (z13.toInt8.toInt32), (z20.toInt8.toInt32), (z27.toInt8.toInt32), (z34.toInt8.toInt32), (z41.toInt8.toInt32)]) (own_first (own_g [(z6.toInt8.toInt32), (z13.toInt8.toInt32), (z20.toInt8.toInt32), (z27.toInt8.toInt32), (z34.toInt8.toInt32), (z41.toInt8.toInt32)]) (own_first (own_g [(z6.toInt8.toInt32), (z13.toInt8.toInt32), (z20.toInt8.toInt32), (z27.toInt8.toInt32), (z34.toInt8.toInt32), (z41.toInt8.toInt32)]) (own_first (own_g [(z6.toInt8.toInt32), (z13.toInt8.toInt32), (z20.toInt8.toInt32), (z27.toInt8.toInt32), (z34.toInt8.toInt32), (z41.toInt8.toInt32)]) (-1 : Int32) (0 : Int32) ((p2 &&& (2147483647 : Int32)) % (7 : Int32)) ((p3 &&& (2147483647 : Int32)) % (7 : Int32))) (1 : Int32) ((p2 &&& (2147483647 : Int32)) % (7 : Int32)) ((p3 &&& (2147483647 : Int32)) % (7 : Int32))) (2 : Int32) ((p2 &&& (2147483647 : Int32)) % (7 : Int32)) ((p3 &&& (2147483647 : Int32)) % (7 : Int32))) (3 : Int32) ((p2 &&& (2147483647 : Int32)) % (7 : Int32)) ((p3 &&& (2147483647 : Int32)) % (7 : Int32))) (4 : Int32) ((p2 &&& (2147483647 : Int32)) % (7 : Int32)) ((p3 &&& (2147483647 : Int32)) % (7 : Int32))) (5 : Int32) ((p2 &&& (2147483647 : Int32)) % (7 : Int32)) ((p3 &&& (2147483647 : Int32)) % (7 : Int32))))])) t → Steps p.tables e below (s₁.setTop (entryFrame m #[(.int p1), (.long q1), (.int p2), (.int p3)] maxLocals)) t := fun t kt => k65 t (st66 t kt)
  have k69 : ∀ t, Steps p.tables e below (T66.setTop (mkF m 187 #[.val (.int p1), .val (.long q1), .second, .val (.int p2), .val (.int p3), .val (.ref b2), .val (.int ((p2 &&& (2147483647 : Int32)) % (7 : Int32))), .val (.int ((p3 &&& (2147483647 : Int32)) % (7 : Int32))), .val (.int (own_loop (own_g [(z6.toInt8.toInt32), (z13.toInt8.toInt32), (z20.toInt8.toInt32), (z27.toInt8.toInt32), (z34.toInt8.toInt32), (z41.toInt8.toInt32)]) ((p3 &&& (2147483647 : Int32)) % (7 : Int32)) (6 - ((p2 &&& (2147483647 : Int32)) % (7 : Int32)).toInt.toNat) (-1 : Int32) ((p2 &&& (2147483647 : Int32)) % (7 : Int32)))), .val (.int (own_first (own_g [(z6.toInt8.toInt32), (z13.toInt8.toInt32), (z20.toInt8.toInt32), (z27.toInt8.toInt32), (z34.toInt8.toInt32), (z41.toInt8.toInt32)]) (own_first (own_g [(z6.toInt8.toInt32), (z13.toInt8.toInt32), (z20.toInt8.toInt32), (z27.toInt8.toInt32), (z34.toInt8.toInt32), (z41.toInt8.toInt32)]) (own_first (own_g [(z6.toInt8.toInt32), (z13.toInt8.toInt32), (z20.toInt8.toInt32), (z27.toInt8.toInt32), (z34.toInt8.toInt32), (z41.toInt8.toInt32)]) (own_first (own_g [(z6.toInt8.toInt32), (z13.toInt8.toInt32), (z20.toInt8.toInt32), (z27.toInt8.toInt32), (z34.toInt8.toInt32), (z41.toInt8.toInt32)]) (own_first (own_g [(z6.toInt8.toInt32), (z13.toInt8.toInt32), (z20.toInt8.toInt32), (z27.toInt8.toInt32), (z34.toInt8.toInt32), (z41.toInt8.toInt32)]) (own_first (own_g [(z6.toInt8.toInt32), (z13.toInt8.toInt32), (z20.toInt8.toInt32), (z27.toInt8.toInt32), (z34.toInt8.toInt32), (z41.toInt8.toInt32)]) (-1 : Int32) (0 : Int32) ((p2 &&& (2147483647 : Int32)) % (7 : Int32)) ((p3 &&& (2147483647 : Int32)) % (7 : Int32))) (1 : Int32) ((p2 &&& (2147483647 : Int32)) % (7 : Int32)) ((p3 &&& (2147483647 : Int32)) % (7 : Int32))) (2 : Int32) ((p2 &&& (2147483647 : Int32)) % (7 : Int32)) ((p3 &&& (2147483647 : Int32)) % (7 : Int32))) (3 : Int32) ((p2 &&& (2147483647 : Int32)) % (7 : Int32)) ((p3 &&& (2147483647 : Int32)) % (7 : Int32))) (4 : Int32) ((p2 &&& (2147483647 : Int32)) % (7 : Int32)) ((p3 &&& (2147483647 : Int32)) % (7 : Int32))) (5 : Int32) ((p2 &&& (2147483647 : Int32)) % (7 : Int32)) ((p3 &&& (2147483647 : Int32)) % (7 : Int32))))] [(.int (own_first (own_g [(z6.toInt8.toInt32), (z13.toInt8.toInt32), (z20.toInt8.toInt32), (z27.toInt8.toInt32), (z34.toInt8.toInt32), (z41.toInt8.toInt32)]) (own_first (own_g [(z6.toInt8.toInt32), (z13.toInt8.toInt32), (z20.toInt8.toInt32), (z27.toInt8.toInt32), (z34.toInt8.toInt32), (z41.toInt8.toInt32)]) (own_first (own_g [(z6.toInt8.toInt32), (z13.toInt8.toInt32), (z20.toInt8.toInt32), (z27.toInt8.toInt32), (z34.toInt8.toInt32), (z41.toInt8.toInt32)]) (own_first (own_g [(z6.toInt8.toInt32), (z13.toInt8.toInt32), (z20.toInt8.toInt32), (z27.toInt8.toInt32), (z34.toInt8.toInt32), (z41.toInt8.toInt32)]) (own_first (own_g [(z6.toInt8.toInt32), (z13.toInt8.toInt32), (z20.toInt8.toInt32), (z27.toInt8.toInt32), (z34.toInt8.toInt32), (z41.toInt8.toInt32)]) (own_first (own_g [(z6.toInt8.toInt32), (z13.toInt8.toInt32), (z20.toInt8.toInt32), (z27.toInt8.toInt32), (z34.toInt8.toInt32), (z41.toInt8.toInt32)]) (-1 : Int32) (0 : Int32) ((p2 &&& (2147483647 : Int32)) % (7 : Int32)) ((p3 &&& (2147483647 : Int32)) % (7 : Int32))) (1 : Int32) ((p2 &&& (2147483647 : Int32)) % (7 : Int32)) ((p3 &&& (2147483647 : Int32)) % (7 : Int32))) (2 : Int32) ((p2 &&& (2147483647 : Int32)) % (7 : Int32)) ((p3 &&& (2147483647 : Int32)) % (7 : Int32))) (3 : Int32) ((p2 &&& (2147483647 : Int32)) % (7 : Int32)) ((p3 &&& (2147483647 : Int32)) % (7 : Int32))) (4 : Int32) ((p2 &&& (2147483647 : Int32)) % (7 : Int32)) ((p3 &&& (2147483647 : Int32)) % (7 : Int32))) (5 : Int32) ((p2 &&& (2147483647 : Int32)) % (7 : Int32)) ((p3 &&& (2147483647 : Int32)) % (7 : Int32)))), (.int (own_loop (own_g [(z6.toInt8.toInt32), (z13.toInt8.toInt32), (z20.toInt8.toInt32), (z27.toInt8.toInt32), (z34.toInt8.toInt32), (z41.toInt8.toInt32)]) ((p3 &&& (2147483647 : Int32)) % (7 : Int32)) (6 - ((p2 &&& (2147483647 : Int32)) % (7 : Int32)).toInt.toNat) (-1 : Int32) ((p2 &&& (2147483647 : Int32)) % (7 : Int32))))])) t → Steps p.tables e below (s₁.setTop (entryFrame m #[(.int p1), (.long q1), (.int p2), (.int p3)] maxLocals)) t := by
    intro t kt
    refine k67 t ?_
    show Steps p.tables e below (T66.setTop (mkF m 181 #[.val (.int p1), .val (.long q1), .second, .val (.int p2), .val (.int p3), .val (.ref b2), .val (.int ((p2 &&& (2147483647 : Int32)) % (7 : Int32))), .val (.int ((p3 &&& (2147483647 : Int32)) % (7 : Int32))), .val (.int (own_loop (own_g [(z6.toInt8.toInt32), (z13.toInt8.toInt32), (z20.toInt8.toInt32), (z27.toInt8.toInt32), (z34.toInt8.toInt32), (z41.toInt8.toInt32)]) ((p3 &&& (2147483647 : Int32)) % (7 : Int32)) (6 - ((p2 &&& (2147483647 : Int32)) % (7 : Int32)).toInt.toNat) (-1 : Int32) ((p2 &&& (2147483647 : Int32)) % (7 : Int32)))), .val (.int (own_first (own_g [(z6.toInt8.toInt32), (z13.toInt8.toInt32), (z20.toInt8.toInt32), (z27.toInt8.toInt32), (z34.toInt8.toInt32), (z41.toInt8.toInt32)]) (own_first (own_g [(z6.toInt8.toInt32), (z13.toInt8.toInt32), (z20.toInt8.toInt32), (z27.toInt8.toInt32), (z34.toInt8.toInt32), (z41.toInt8.toInt32)]) (own_first (own_g [(z6.toInt8.toInt32), (z13.toInt8.toInt32), (z20.toInt8.toInt32), (z27.toInt8.toInt32), (z34.toInt8.toInt32), (z41.toInt8.toInt32)]) (own_first (own_g [(z6.toInt8.toInt32), (z13.toInt8.toInt32), (z20.toInt8.toInt32), (z27.toInt8.toInt32), (z34.toInt8.toInt32), (z41.toInt8.toInt32)]) (own_first (own_g [(z6.toInt8.toInt32), (z13.toInt8.toInt32), (z20.toInt8.toInt32), (z27.toInt8.toInt32), (z34.toInt8.toInt32), (z41.toInt8.toInt32)]) (-1 : Int32) (0 : Int32) ((p2 &&& (2147483647 : Int32)) % (7 : Int32)) ((p3 &&& (2147483647 : Int32)) % (7 : Int32))) (1 : Int32) ((p2 &&& (2147483647 : Int32)) % (7 : Int32)) ((p3 &&& (2147483647 : Int32)) % (7 : Int32))) (2 : Int32) ((p2 &&& (2147483647 : Int32)) % (7 : Int32)) ((p3 &&& (2147483647 : Int32)) % (7 : Int32))) (3 : Int32) ((p2 &&& (2147483647 : Int32)) % (7 : Int32)) ((p3 &&& (2147483647 : Int32)) % (7 : Int32))) (4 : Int32) ((p2 &&& (2147483647 : Int32)) % (7 : Int32)) ((p3 &&& (2147483647 : Int32)) % (7 : Int32))))] [(.int (own_first (own_g [(z6.toInt8.toInt32), (z13.toInt8.toInt32), (z20.toInt8.toInt32), (z27.toInt8.toInt32), (z34.toInt8.toInt32), (z41.toInt8.toInt32)]) (own_first (own_g [(z6.toInt8.toInt32), (z13.toInt8.toInt32), (z20.toInt8.toInt32), (z27.toInt8.toInt32), (z34.toInt8.toInt32), (z41.toInt8.toInt32)]) (own_first (own_g [(z6.toInt8.toInt32), (z13.toInt8.toInt32), (z20.toInt8.toInt32), (z27.toInt8.toInt32), (z34.toInt8.toInt32), (z41.toInt8.toInt32)]) (own_first (own_g [(z6.toInt8.toInt32), (z13.toInt8.toInt32), (z20.toInt8.toInt32), (z27.toInt8.toInt32), (z34.toInt8.toInt32), (z41.toInt8.toInt32)]) (own_first (own_g [(z6.toInt8.toInt32), (z13.toInt8.toInt32), (z20.toInt8.toInt32), (z27.toInt8.toInt32), (z34.toInt8.toInt32), (z41.toInt8.toInt32)]) (own_first (own_g [(z6.toInt8.toInt32), (z13.toInt8.toInt32), (z20.toInt8.toInt32), (z27.toInt8.toInt32), (z34.toInt8.toInt32), (z41.toInt8.toInt32)]) (-1 : Int32) (0 : Int32) ((p2 &&& (2147483647 : Int32)) % (7 : Int32)) ((p3 &&& (2147483647 : Int32)) % (7 : Int32))) (1 : Int32) ((p2 &&& (2147483647 : Int32)) % (7 : Int32)) ((p3 &&& (2147483647 : Int32)) % (7 : Int32))) (2 : Int32) ((p2 &&& (2147483647 : Int32)) % (7 : Int32)) ((p3 &&& (2147483647 : Int32)) % (7 : Int32))) (3 : Int32) ((p2 &&& (2147483647 : Int32)) % (7 : Int32)) ((p3 &&& (2147483647 : Int32)) % (7 : Int32))) (4 : Int32) ((p2 &&& (2147483647 : Int32)) % (7 : Int32)) ((p3 &&& (2147483647 : Int32)) % (7 : Int32))) (5 : Int32) ((p2 &&& (2147483647 : Int32)) % (7 : Int32)) ((p3 &&& (2147483647 : Int32)) % (7 : Int32))))])) t
    refine XS.istore X66.here hx rfl (hb hby at_181) rfl (l' := #[.val (.int p1), .val (.long q1), .second, .val (.int p2), .val (.int p3), .val (.ref b2), .val (.int ((p2 &&& (2147483647 : Int32)) % (7 : Int32))), .val (.int ((p3 &&& (2147483647 : Int32)) % (7 : Int32))), .val (.int (own_loop (own_g [(z6.toInt8.toInt32), (z13.toInt8.toInt32), (z20.toInt8.toInt32), (z27.toInt8.toInt32), (z34.toInt8.toInt32), (z41.toInt8.toInt32)]) ((p3 &&& (2147483647 : Int32)) % (7 : Int32)) (6 - ((p2 &&& (2147483647 : Int32)) % (7 : Int32)).toInt.toNat) (-1 : Int32) ((p2 &&& (2147483647 : Int32)) % (7 : Int32)))), .val (.int (own_first (own_g [(z6.toInt8.toInt32), (z13.toInt8.toInt32), (z20.toInt8.toInt32), (z27.toInt8.toInt32), (z34.toInt8.toInt32), (z41.toInt8.toInt32)]) (own_first (own_g [(z6.toInt8.toInt32), (z13.toInt8.toInt32), (z20.toInt8.toInt32), (z27.toInt8.toInt32), (z34.toInt8.toInt32), (z41.toInt8.toInt32)]) (own_first (own_g [(z6.toInt8.toInt32), (z13.toInt8.toInt32), (z20.toInt8.toInt32), (z27.toInt8.toInt32), (z34.toInt8.toInt32), (z41.toInt8.toInt32)]) (own_first (own_g [(z6.toInt8.toInt32), (z13.toInt8.toInt32), (z20.toInt8.toInt32), (z27.toInt8.toInt32), (z34.toInt8.toInt32), (z41.toInt8.toInt32)]) (own_first (own_g [(z6.toInt8.toInt32), (z13.toInt8.toInt32), (z20.toInt8.toInt32), (z27.toInt8.toInt32), (z34.toInt8.toInt32), (z41.toInt8.toInt32)]) (own_first (own_g [(z6.toInt8.toInt32), (z13.toInt8.toInt32), (z20.toInt8.toInt32), (z27.toInt8.toInt32), (z34.toInt8.toInt32), (z41.toInt8.toInt32)]) (-1 : Int32) (0 : Int32) ((p2 &&& (2147483647 : Int32)) % (7 : Int32)) ((p3 &&& (2147483647 : Int32)) % (7 : Int32))) (1 : Int32) ((p2 &&& (2147483647 : Int32)) % (7 : Int32)) ((p3 &&& (2147483647 : Int32)) % (7 : Int32))) (2 : Int32) ((p2 &&& (2147483647 : Int32)) % (7 : Int32)) ((p3 &&& (2147483647 : Int32)) % (7 : Int32))) (3 : Int32) ((p2 &&& (2147483647 : Int32)) % (7 : Int32)) ((p3 &&& (2147483647 : Int32)) % (7 : Int32))) (4 : Int32) ((p2 &&& (2147483647 : Int32)) % (7 : Int32)) ((p3 &&& (2147483647 : Int32)) % (7 : Int32))) (5 : Int32) ((p2 &&& (2147483647 : Int32)) % (7 : Int32)) ((p3 &&& (2147483647 : Int32)) % (7 : Int32))))]) rfl ?_
    show Steps p.tables e below (T66.setTop (mkF m 183 #[.val (.int p1), .val (.long q1), .second, .val (.int p2), .val (.int p3), .val (.ref b2), .val (.int ((p2 &&& (2147483647 : Int32)) % (7 : Int32))), .val (.int ((p3 &&& (2147483647 : Int32)) % (7 : Int32))), .val (.int (own_loop (own_g [(z6.toInt8.toInt32), (z13.toInt8.toInt32), (z20.toInt8.toInt32), (z27.toInt8.toInt32), (z34.toInt8.toInt32), (z41.toInt8.toInt32)]) ((p3 &&& (2147483647 : Int32)) % (7 : Int32)) (6 - ((p2 &&& (2147483647 : Int32)) % (7 : Int32)).toInt.toNat) (-1 : Int32) ((p2 &&& (2147483647 : Int32)) % (7 : Int32)))), .val (.int (own_first (own_g [(z6.toInt8.toInt32), (z13.toInt8.toInt32), (z20.toInt8.toInt32), (z27.toInt8.toInt32), (z34.toInt8.toInt32), (z41.toInt8.toInt32)]) (own_first (own_g [(z6.toInt8.toInt32), (z13.toInt8.toInt32), (z20.toInt8.toInt32), (z27.toInt8.toInt32), (z34.toInt8.toInt32), (z41.toInt8.toInt32)]) (own_first (own_g [(z6.toInt8.toInt32), (z13.toInt8.toInt32), (z20.toInt8.toInt32), (z27.toInt8.toInt32), (z34.toInt8.toInt32), (z41.toInt8.toInt32)]) (own_first (own_g [(z6.toInt8.toInt32), (z13.toInt8.toInt32), (z20.toInt8.toInt32), (z27.toInt8.toInt32), (z34.toInt8.toInt32), (z41.toInt8.toInt32)]) (own_first (own_g [(z6.toInt8.toInt32), (z13.toInt8.toInt32), (z20.toInt8.toInt32), (z27.toInt8.toInt32), (z34.toInt8.toInt32), (z41.toInt8.toInt32)]) (own_first (own_g [(z6.toInt8.toInt32), (z13.toInt8.toInt32), (z20.toInt8.toInt32), (z27.toInt8.toInt32), (z34.toInt8.toInt32), (z41.toInt8.toInt32)]) (-1 : Int32) (0 : Int32) ((p2 &&& (2147483647 : Int32)) % (7 : Int32)) ((p3 &&& (2147483647 : Int32)) % (7 : Int32))) (1 : Int32) ((p2 &&& (2147483647 : Int32)) % (7 : Int32)) ((p3 &&& (2147483647 : Int32)) % (7 : Int32))) (2 : Int32) ((p2 &&& (2147483647 : Int32)) % (7 : Int32)) ((p3 &&& (2147483647 : Int32)) % (7 : Int32))) (3 : Int32) ((p2 &&& (2147483647 : Int32)) % (7 : Int32)) ((p3 &&& (2147483647 : Int32)) % (7 : Int32))) (4 : Int32) ((p2 &&& (2147483647 : Int32)) % (7 : Int32)) ((p3 &&& (2147483647 : Int32)) % (7 : Int32))) (5 : Int32) ((p2 &&& (2147483647 : Int32)) % (7 : Int32)) ((p3 &&& (2147483647 : Int32)) % (7 : Int32))))] [])) t
    refine XS.iload X66.here hx rfl (hb hby at_183) rfl ?_
    show Steps p.tables e below (T66.setTop (mkF m 185 #[.val (.int p1), .val (.long q1), .second, .val (.int p2), .val (.int p3), .val (.ref b2), .val (.int ((p2 &&& (2147483647 : Int32)) % (7 : Int32))), .val (.int ((p3 &&& (2147483647 : Int32)) % (7 : Int32))), .val (.int (own_loop (own_g [(z6.toInt8.toInt32), (z13.toInt8.toInt32), (z20.toInt8.toInt32), (z27.toInt8.toInt32), (z34.toInt8.toInt32), (z41.toInt8.toInt32)]) ((p3 &&& (2147483647 : Int32)) % (7 : Int32)) (6 - ((p2 &&& (2147483647 : Int32)) % (7 : Int32)).toInt.toNat) (-1 : Int32) ((p2 &&& (2147483647 : Int32)) % (7 : Int32)))), .val (.int (own_first (own_g [(z6.toInt8.toInt32), (z13.toInt8.toInt32), (z20.toInt8.toInt32), (z27.toInt8.toInt32), (z34.toInt8.toInt32), (z41.toInt8.toInt32)]) (own_first (own_g [(z6.toInt8.toInt32), (z13.toInt8.toInt32), (z20.toInt8.toInt32), (z27.toInt8.toInt32), (z34.toInt8.toInt32), (z41.toInt8.toInt32)]) (own_first (own_g [(z6.toInt8.toInt32), (z13.toInt8.toInt32), (z20.toInt8.toInt32), (z27.toInt8.toInt32), (z34.toInt8.toInt32), (z41.toInt8.toInt32)]) (own_first (own_g [(z6.toInt8.toInt32), (z13.toInt8.toInt32), (z20.toInt8.toInt32), (z27.toInt8.toInt32), (z34.toInt8.toInt32), (z41.toInt8.toInt32)]) (own_first (own_g [(z6.toInt8.toInt32), (z13.toInt8.toInt32), (z20.toInt8.toInt32), (z27.toInt8.toInt32), (z34.toInt8.toInt32), (z41.toInt8.toInt32)]) (own_first (own_g [(z6.toInt8.toInt32), (z13.toInt8.toInt32), (z20.toInt8.toInt32), (z27.toInt8.toInt32), (z34.toInt8.toInt32), (z41.toInt8.toInt32)]) (-1 : Int32) (0 : Int32) ((p2 &&& (2147483647 : Int32)) % (7 : Int32)) ((p3 &&& (2147483647 : Int32)) % (7 : Int32))) (1 : Int32) ((p2 &&& (2147483647 : Int32)) % (7 : Int32)) ((p3 &&& (2147483647 : Int32)) % (7 : Int32))) (2 : Int32) ((p2 &&& (2147483647 : Int32)) % (7 : Int32)) ((p3 &&& (2147483647 : Int32)) % (7 : Int32))) (3 : Int32) ((p2 &&& (2147483647 : Int32)) % (7 : Int32)) ((p3 &&& (2147483647 : Int32)) % (7 : Int32))) (4 : Int32) ((p2 &&& (2147483647 : Int32)) % (7 : Int32)) ((p3 &&& (2147483647 : Int32)) % (7 : Int32))) (5 : Int32) ((p2 &&& (2147483647 : Int32)) % (7 : Int32)) ((p3 &&& (2147483647 : Int32)) % (7 : Int32))))] [(.int (own_loop (own_g [(z6.toInt8.toInt32), (z13.toInt8.toInt32), (z20.toInt8.toInt32), (z27.toInt8.toInt32), (z34.toInt8.toInt32), (z41.toInt8.toInt32)]) ((p3 &&& (2147483647 : Int32)) % (7 : Int32)) (6 - ((p2 &&& (2147483647 : Int32)) % (7 : Int32)).toInt.toNat) (-1 : Int32) ((p2 &&& (2147483647 : Int32)) % (7 : Int32))))])) t
    refine XS.iload X66.here hx rfl (hb hby at_185) rfl ?_
    exact kt
  have hc187_68 : (own_loop (own_g [(z6.toInt8.toInt32), (z13.toInt8.toInt32), (z20.toInt8.toInt32), (z27.toInt8.toInt32), (z34.toInt8.toInt32), (z41.toInt8.toInt32)]) ((p3 &&& (2147483647 : Int32)) % (7 : Int32)) (6 - ((p2 &&& (2147483647 : Int32)) % (7 : Int32)).toInt.toNat) (-1 : Int32) ((p2 &&& (2147483647 : Int32)) % (7 : Int32))) = (own_first (own_g [(z6.toInt8.toInt32), (z13.toInt8.toInt32), (z20.toInt8.toInt32), (z27.toInt8.toInt32), (z34.toInt8.toInt32), (z41.toInt8.toInt32)]) (own_first (own_g [(z6.toInt8.toInt32), (z13.toInt8.toInt32), (z20.toInt8.toInt32), (z27.toInt8.toInt32), (z34.toInt8.toInt32), (z41.toInt8.toInt32)]) (own_first (own_g [(z6.toInt8.toInt32), (z13.toInt8.toInt32), (z20.toInt8.toInt32), (z27.toInt8.toInt32), (z34.toInt8.toInt32), (z41.toInt8.toInt32)]) (own_first (own_g [(z6.toInt8.toInt32), (z13.toInt8.toInt32), (z20.toInt8.toInt32), (z27.toInt8.toInt32), (z34.toInt8.toInt32), (z41.toInt8.toInt32)]) (own_first (own_g [(z6.toInt8.toInt32), (z13.toInt8.toInt32), (z20.toInt8.toInt32), (z27.toInt8.toInt32), (z34.toInt8.toInt32), (z41.toInt8.toInt32)]) (own_first (own_g [(z6.toInt8.toInt32), (z13.toInt8.toInt32), (z20.toInt8.toInt32), (z27.toInt8.toInt32), (z34.toInt8.toInt32), (z41.toInt8.toInt32)]) (-1 : Int32) (0 : Int32) ((p2 &&& (2147483647 : Int32)) % (7 : Int32)) ((p3 &&& (2147483647 : Int32)) % (7 : Int32))) (1 : Int32) ((p2 &&& (2147483647 : Int32)) % (7 : Int32)) ((p3 &&& (2147483647 : Int32)) % (7 : Int32))) (2 : Int32) ((p2 &&& (2147483647 : Int32)) % (7 : Int32)) ((p3 &&& (2147483647 : Int32)) % (7 : Int32))) (3 : Int32) ((p2 &&& (2147483647 : Int32)) % (7 : Int32)) ((p3 &&& (2147483647 : Int32)) % (7 : Int32))) (4 : Int32) ((p2 &&& (2147483647 : Int32)) % (7 : Int32)) ((p3 &&& (2147483647 : Int32)) % (7 : Int32))) (5 : Int32) ((p2 &&& (2147483647 : Int32)) % (7 : Int32)) ((p3 &&& (2147483647 : Int32)) % (7 : Int32))) := own_same _ _ _ (own_m7 _).1 (own_m7 _).2
  have k70 : ∀ t, Steps p.tables e below (T66.setTop (mkF m 195 #[.val (.int p1), .val (.long q1), .second, .val (.int p2), .val (.int p3), .val (.ref b2), .val (.int ((p2 &&& (2147483647 : Int32)) % (7 : Int32))), .val (.int ((p3 &&& (2147483647 : Int32)) % (7 : Int32))), .val (.int (own_loop (own_g [(z6.toInt8.toInt32), (z13.toInt8.toInt32), (z20.toInt8.toInt32), (z27.toInt8.toInt32), (z34.toInt8.toInt32), (z41.toInt8.toInt32)]) ((p3 &&& (2147483647 : Int32)) % (7 : Int32)) (6 - ((p2 &&& (2147483647 : Int32)) % (7 : Int32)).toInt.toNat) (-1 : Int32) ((p2 &&& (2147483647 : Int32)) % (7 : Int32)))), .val (.int (own_first (own_g [(z6.toInt8.toInt32), (z13.toInt8.toInt32), (z20.toInt8.toInt32), (z27.toInt8.toInt32), (z34.toInt8.toInt32), (z41.toInt8.toInt32)]) (own_first (own_g [(z6.toInt8.toInt32), (z13.toInt8.toInt32), (z20.toInt8.toInt32), (z27.toInt8.toInt32), (z34.toInt8.toInt32), (z41.toInt8.toInt32)]) (own_first (own_g [(z6.toInt8.toInt32), (z13.toInt8.toInt32), (z20.toInt8.toInt32), (z27.toInt8.toInt32), (z34.toInt8.toInt32), (z41.toInt8.toInt32)]) (own_first (own_g [(z6.toInt8.toInt32), (z13.toInt8.toInt32), (z20.toInt8.toInt32), (z27.toInt8.toInt32), (z34.toInt8.toInt32), (z41.toInt8.toInt32)]) (own_first (own_g [(z6.toInt8.toInt32), (z13.toInt8.toInt32), (z20.toInt8.toInt32), (z27.toInt8.toInt32), (z34.toInt8.toInt32), (z41.toInt8.toInt32)]) (own_first (own_g [(z6.toInt8.toInt32), (z13.toInt8.toInt32), (z20.toInt8.toInt32), (z27.toInt8.toInt32), (z34.toInt8.toInt32), (z41.toInt8.toInt32)]) (-1 : Int32) (0 : Int32) ((p2 &&& (2147483647 : Int32)) % (7 : Int32)) ((p3 &&& (2147483647 : Int32)) % (7 : Int32))) (1 : Int32) ((p2 &&& (2147483647 : Int32)) % (7 : Int32)) ((p3 &&& (2147483647 : Int32)) % (7 : Int32))) (2 : Int32) ((p2 &&& (2147483647 : Int32)) % (7 : Int32)) ((p3 &&& (2147483647 : Int32)) % (7 : Int32))) (3 : Int32) ((p2 &&& (2147483647 : Int32)) % (7 : Int32)) ((p3 &&& (2147483647 : Int32)) % (7 : Int32))) (4 : Int32) ((p2 &&& (2147483647 : Int32)) % (7 : Int32)) ((p3 &&& (2147483647 : Int32)) % (7 : Int32))) (5 : Int32) ((p2 &&& (2147483647 : Int32)) % (7 : Int32)) ((p3 &&& (2147483647 : Int32)) % (7 : Int32))))] [(.int (1 : Int32))])) t → Steps p.tables e below (s₁.setTop (entryFrame m #[(.int p1), (.long q1), (.int p2), (.int p3)] maxLocals)) t := by
    intro t kt
    refine k69 t ?_
    show Steps p.tables e below (T66.setTop (mkF m 187 #[.val (.int p1), .val (.long q1), .second, .val (.int p2), .val (.int p3), .val (.ref b2), .val (.int ((p2 &&& (2147483647 : Int32)) % (7 : Int32))), .val (.int ((p3 &&& (2147483647 : Int32)) % (7 : Int32))), .val (.int (own_loop (own_g [(z6.toInt8.toInt32), (z13.toInt8.toInt32), (z20.toInt8.toInt32), (z27.toInt8.toInt32), (z34.toInt8.toInt32), (z41.toInt8.toInt32)]) ((p3 &&& (2147483647 : Int32)) % (7 : Int32)) (6 - ((p2 &&& (2147483647 : Int32)) % (7 : Int32)).toInt.toNat) (-1 : Int32) ((p2 &&& (2147483647 : Int32)) % (7 : Int32)))), .val (.int (own_first (own_g [(z6.toInt8.toInt32), (z13.toInt8.toInt32), (z20.toInt8.toInt32), (z27.toInt8.toInt32), (z34.toInt8.toInt32), (z41.toInt8.toInt32)]) (own_first (own_g [(z6.toInt8.toInt32), (z13.toInt8.toInt32), (z20.toInt8.toInt32), (z27.toInt8.toInt32), (z34.toInt8.toInt32), (z41.toInt8.toInt32)]) (own_first (own_g [(z6.toInt8.toInt32), (z13.toInt8.toInt32), (z20.toInt8.toInt32), (z27.toInt8.toInt32), (z34.toInt8.toInt32), (z41.toInt8.toInt32)]) (own_first (own_g [(z6.toInt8.toInt32), (z13.toInt8.toInt32), (z20.toInt8.toInt32), (z27.toInt8.toInt32), (z34.toInt8.toInt32), (z41.toInt8.toInt32)]) (own_first (own_g [(z6.toInt8.toInt32), (z13.toInt8.toInt32), (z20.toInt8.toInt32), (z27.toInt8.toInt32), (z34.toInt8.toInt32), (z41.toInt8.toInt32)]) (own_first (own_g [(z6.toInt8.toInt32), (z13.toInt8.toInt32), (z20.toInt8.toInt32), (z27.toInt8.toInt32), (z34.toInt8.toInt32), (z41.toInt8.toInt32)]) (-1 : Int32) (0 : Int32) ((p2 &&& (2147483647 : Int32)) % (7 : Int32)) ((p3 &&& (2147483647 : Int32)) % (7 : Int32))) (1 : Int32) ((p2 &&& (2147483647 : Int32)) % (7 : Int32)) ((p3 &&& (2147483647 : Int32)) % (7 : Int32))) (2 : Int32) ((p2 &&& (2147483647 : Int32)) % (7 : Int32)) ((p3 &&& (2147483647 : Int32)) % (7 : Int32))) (3 : Int32) ((p2 &&& (2147483647 : Int32)) % (7 : Int32)) ((p3 &&& (2147483647 : Int32)) % (7 : Int32))) (4 : Int32) ((p2 &&& (2147483647 : Int32)) % (7 : Int32)) ((p3 &&& (2147483647 : Int32)) % (7 : Int32))) (5 : Int32) ((p2 &&& (2147483647 : Int32)) % (7 : Int32)) ((p3 &&& (2147483647 : Int32)) % (7 : Int32))))] [(.int (own_first (own_g [(z6.toInt8.toInt32), (z13.toInt8.toInt32), (z20.toInt8.toInt32), (z27.toInt8.toInt32), (z34.toInt8.toInt32), (z41.toInt8.toInt32)]) (own_first (own_g [(z6.toInt8.toInt32), (z13.toInt8.toInt32), (z20.toInt8.toInt32), (z27.toInt8.toInt32), (z34.toInt8.toInt32), (z41.toInt8.toInt32)]) (own_first (own_g [(z6.toInt8.toInt32), (z13.toInt8.toInt32), (z20.toInt8.toInt32), (z27.toInt8.toInt32), (z34.toInt8.toInt32), (z41.toInt8.toInt32)]) (own_first (own_g [(z6.toInt8.toInt32), (z13.toInt8.toInt32), (z20.toInt8.toInt32), (z27.toInt8.toInt32), (z34.toInt8.toInt32), (z41.toInt8.toInt32)]) (own_first (own_g [(z6.toInt8.toInt32), (z13.toInt8.toInt32), (z20.toInt8.toInt32), (z27.toInt8.toInt32), (z34.toInt8.toInt32), (z41.toInt8.toInt32)]) (own_first (own_g [(z6.toInt8.toInt32), (z13.toInt8.toInt32), (z20.toInt8.toInt32), (z27.toInt8.toInt32), (z34.toInt8.toInt32), (z41.toInt8.toInt32)]) (-1 : Int32) (0 : Int32) ((p2 &&& (2147483647 : Int32)) % (7 : Int32)) ((p3 &&& (2147483647 : Int32)) % (7 : Int32))) (1 : Int32) ((p2 &&& (2147483647 : Int32)) % (7 : Int32)) ((p3 &&& (2147483647 : Int32)) % (7 : Int32))) (2 : Int32) ((p2 &&& (2147483647 : Int32)) % (7 : Int32)) ((p3 &&& (2147483647 : Int32)) % (7 : Int32))) (3 : Int32) ((p2 &&& (2147483647 : Int32)) % (7 : Int32)) ((p3 &&& (2147483647 : Int32)) % (7 : Int32))) (4 : Int32) ((p2 &&& (2147483647 : Int32)) % (7 : Int32)) ((p3 &&& (2147483647 : Int32)) % (7 : Int32))) (5 : Int32) ((p2 &&& (2147483647 : Int32)) % (7 : Int32)) ((p3 &&& (2147483647 : Int32)) % (7 : Int32)))), (.int (own_loop (own_g [(z6.toInt8.toInt32), (z13.toInt8.toInt32), (z20.toInt8.toInt32), (z27.toInt8.toInt32), (z34.toInt8.toInt32), (z41.toInt8.toInt32)]) ((p3 &&& (2147483647 : Int32)) % (7 : Int32)) (6 - ((p2 &&& (2147483647 : Int32)) % (7 : Int32)).toInt.toNat) (-1 : Int32) ((p2 &&& (2147483647 : Int32)) % (7 : Int32))))])) t
    refine XS.icmpNo X66.here hx rfl (hb hby at_187) rfl (teq hc187_68).2 ?_
    show Steps p.tables e below (T66.setTop (mkF m 190 #[.val (.int p1), .val (.long q1), .second, .val (.int p2), .val (.int p3), .val (.ref b2), .val (.int ((p2 &&& (2147483647 : Int32)) % (7 : Int32))), .val (.int ((p3 &&& (2147483647 : Int32)) % (7 : Int32))), .val (.int (own_loop (own_g [(z6.toInt8.toInt32), (z13.toInt8.toInt32), (z20.toInt8.toInt32), (z27.toInt8.toInt32), (z34.toInt8.toInt32), (z41.toInt8.toInt32)]) ((p3 &&& (2147483647 : Int32)) % (7 : Int32)) (6 - ((p2 &&& (2147483647 : Int32)) % (7 : Int32)).toInt.toNat) (-1 : Int32) ((p2 &&& (2147483647 : Int32)) % (7 : Int32)))), .val (.int (own_first (own_g [(z6.toInt8.toInt32), (z13.toInt8.toInt32), (z20.toInt8.toInt32), (z27.toInt8.toInt32), (z34.toInt8.toInt32), (z41.toInt8.toInt32)]) (own_first (own_g [(z6.toInt8.toInt32), (z13.toInt8.toInt32), (z20.toInt8.toInt32), (z27.toInt8.toInt32), (z34.toInt8.toInt32), (z41.toInt8.toInt32)]) (own_first (own_g [(z6.toInt8.toInt32), (z13.toInt8.toInt32), (z20.toInt8.toInt32), (z27.toInt8.toInt32), (z34.toInt8.toInt32), (z41.toInt8.toInt32)]) (own_first (own_g [(z6.toInt8.toInt32), (z13.toInt8.toInt32), (z20.toInt8.toInt32), (z27.toInt8.toInt32), (z34.toInt8.toInt32), (z41.toInt8.toInt32)]) (own_first (own_g [(z6.toInt8.toInt32), (z13.toInt8.toInt32), (z20.toInt8.toInt32), (z27.toInt8.toInt32), (z34.toInt8.toInt32), (z41.toInt8.toInt32)]) (own_first (own_g [(z6.toInt8.toInt32), (z13.toInt8.toInt32), (z20.toInt8.toInt32), (z27.toInt8.toInt32), (z34.toInt8.toInt32), (z41.toInt8.toInt32)]) (-1 : Int32) (0 : Int32) ((p2 &&& (2147483647 : Int32)) % (7 : Int32)) ((p3 &&& (2147483647 : Int32)) % (7 : Int32))) (1 : Int32) ((p2 &&& (2147483647 : Int32)) % (7 : Int32)) ((p3 &&& (2147483647 : Int32)) % (7 : Int32))) (2 : Int32) ((p2 &&& (2147483647 : Int32)) % (7 : Int32)) ((p3 &&& (2147483647 : Int32)) % (7 : Int32))) (3 : Int32) ((p2 &&& (2147483647 : Int32)) % (7 : Int32)) ((p3 &&& (2147483647 : Int32)) % (7 : Int32))) (4 : Int32) ((p2 &&& (2147483647 : Int32)) % (7 : Int32)) ((p3 &&& (2147483647 : Int32)) % (7 : Int32))) (5 : Int32) ((p2 &&& (2147483647 : Int32)) % (7 : Int32)) ((p3 &&& (2147483647 : Int32)) % (7 : Int32))))] [])) t
    refine XS.iconst X66.here hx rfl (hb hby at_190) ?_
    show Steps p.tables e below (T66.setTop (mkF m 191 #[.val (.int p1), .val (.long q1), .second, .val (.int p2), .val (.int p3), .val (.ref b2), .val (.int ((p2 &&& (2147483647 : Int32)) % (7 : Int32))), .val (.int ((p3 &&& (2147483647 : Int32)) % (7 : Int32))), .val (.int (own_loop (own_g [(z6.toInt8.toInt32), (z13.toInt8.toInt32), (z20.toInt8.toInt32), (z27.toInt8.toInt32), (z34.toInt8.toInt32), (z41.toInt8.toInt32)]) ((p3 &&& (2147483647 : Int32)) % (7 : Int32)) (6 - ((p2 &&& (2147483647 : Int32)) % (7 : Int32)).toInt.toNat) (-1 : Int32) ((p2 &&& (2147483647 : Int32)) % (7 : Int32)))), .val (.int (own_first (own_g [(z6.toInt8.toInt32), (z13.toInt8.toInt32), (z20.toInt8.toInt32), (z27.toInt8.toInt32), (z34.toInt8.toInt32), (z41.toInt8.toInt32)]) (own_first (own_g [(z6.toInt8.toInt32), (z13.toInt8.toInt32), (z20.toInt8.toInt32), (z27.toInt8.toInt32), (z34.toInt8.toInt32), (z41.toInt8.toInt32)]) (own_first (own_g [(z6.toInt8.toInt32), (z13.toInt8.toInt32), (z20.toInt8.toInt32), (z27.toInt8.toInt32), (z34.toInt8.toInt32), (z41.toInt8.toInt32)]) (own_first (own_g [(z6.toInt8.toInt32), (z13.toInt8.toInt32), (z20.toInt8.toInt32), (z27.toInt8.toInt32), (z34.toInt8.toInt32), (z41.toInt8.toInt32)]) (own_first (own_g [(z6.toInt8.toInt32), (z13.toInt8.toInt32), (z20.toInt8.toInt32), (z27.toInt8.toInt32), (z34.toInt8.toInt32), (z41.toInt8.toInt32)]) (own_first (own_g [(z6.toInt8.toInt32), (z13.toInt8.toInt32), (z20.toInt8.toInt32), (z27.toInt8.toInt32), (z34.toInt8.toInt32), (z41.toInt8.toInt32)]) (-1 : Int32) (0 : Int32) ((p2 &&& (2147483647 : Int32)) % (7 : Int32)) ((p3 &&& (2147483647 : Int32)) % (7 : Int32))) (1 : Int32) ((p2 &&& (2147483647 : Int32)) % (7 : Int32)) ((p3 &&& (2147483647 : Int32)) % (7 : Int32))) (2 : Int32) ((p2 &&& (2147483647 : Int32)) % (7 : Int32)) ((p3 &&& (2147483647 : Int32)) % (7 : Int32))) (3 : Int32) ((p2 &&& (2147483647 : Int32)) % (7 : Int32)) ((p3 &&& (2147483647 : Int32)) % (7 : Int32))) (4 : Int32) ((p2 &&& (2147483647 : Int32)) % (7 : Int32)) ((p3 &&& (2147483647 : Int32)) % (7 : Int32))) (5 : Int32) ((p2 &&& (2147483647 : Int32)) % (7 : Int32)) ((p3 &&& (2147483647 : Int32)) % (7 : Int32))))] [(.int (1 : Int32))])) t
    refine XS.goto X66.here hx rfl (pc0 := 191) (pc' := 195) rfl (hb hby at_191) (by decide) (by decide) ?_
    exact kt
  obtain ⟨fs, hr, hrun, hended, hW, hsame⟩ := X66.leave (v := some (.int (1 : Int32))) (fun h => by rw [Bd.returns] at h; cases h)
  refine ⟨_, _, k70 _ ?_, hrun, hended, _, _, rfl, ?_, ⟨_, rfl⟩, hW, hsame.mono (by decide) (by decide)⟩
  · show Steps p.tables e below (T66.setTop (mkF m 195 #[.val (.int p1), .val (.long q1), .second, .val (.int p2), .val (.int p3), .val (.ref b2), .val (.int ((p2 &&& (2147483647 : Int32)) % (7 : Int32))), .val (.int ((p3 &&& (2147483647 : Int32)) % (7 : Int32))), .val (.int (own_loop (own_g [(z6.toInt8.toInt32), (z13.toInt8.toInt32), (z20.toInt8.toInt32), (z27.toInt8.toInt32), (z34.toInt8.toInt32), (z41.toInt8.toInt32)]) ((p3 &&& (2147483647 : Int32)) % (7 : Int32)) (6 - ((p2 &&& (2147483647 : Int32)) % (7 : Int32)).toInt.toNat) (-1 : Int32) ((p2 &&& (2147483647 : Int32)) % (7 : Int32)))), .val (.int (own_first (own_g [(z6.toInt8.toInt32), (z13.toInt8.toInt32), (z20.toInt8.toInt32), (z27.toInt8.toInt32), (z34.toInt8.toInt32), (z41.toInt8.toInt32)]) (own_first (own_g [(z6.toInt8.toInt32), (z13.toInt8.toInt32), (z20.toInt8.toInt32), (z27.toInt8.toInt32), (z34.toInt8.toInt32), (z41.toInt8.toInt32)]) (own_first (own_g [(z6.toInt8.toInt32), (z13.toInt8.toInt32), (z20.toInt8.toInt32), (z27.toInt8.toInt32), (z34.toInt8.toInt32), (z41.toInt8.toInt32)]) (own_first (own_g [(z6.toInt8.toInt32), (z13.toInt8.toInt32), (z20.toInt8.toInt32), (z27.toInt8.toInt32), (z34.toInt8.toInt32), (z41.toInt8.toInt32)]) (own_first (own_g [(z6.toInt8.toInt32), (z13.toInt8.toInt32), (z20.toInt8.toInt32), (z27.toInt8.toInt32), (z34.toInt8.toInt32), (z41.toInt8.toInt32)]) (own_first (own_g [(z6.toInt8.toInt32), (z13.toInt8.toInt32), (z20.toInt8.toInt32), (z27.toInt8.toInt32), (z34.toInt8.toInt32), (z41.toInt8.toInt32)]) (-1 : Int32) (0 : Int32) ((p2 &&& (2147483647 : Int32)) % (7 : Int32)) ((p3 &&& (2147483647 : Int32)) % (7 : Int32))) (1 : Int32) ((p2 &&& (2147483647 : Int32)) % (7 : Int32)) ((p3 &&& (2147483647 : Int32)) % (7 : Int32))) (2 : Int32) ((p2 &&& (2147483647 : Int32)) % (7 : Int32)) ((p3 &&& (2147483647 : Int32)) % (7 : Int32))) (3 : Int32) ((p2 &&& (2147483647 : Int32)) % (7 : Int32)) ((p3 &&& (2147483647 : Int32)) % (7 : Int32))) (4 : Int32) ((p2 &&& (2147483647 : Int32)) % (7 : Int32)) ((p3 &&& (2147483647 : Int32)) % (7 : Int32))) (5 : Int32) ((p2 &&& (2147483647 : Int32)) % (7 : Int32)) ((p3 &&& (2147483647 : Int32)) % (7 : Int32))))] [(.int (1 : Int32))])) _
    exact retN X66 hx (t := .boolean) Bd.returns (by simp) (hb hby at_195) hr
  · show Q0 Z p1 q1 p2 p3 h0 n0 _ T66.heap _
    rw [e66]
    exact ⟨rfl, N66⟩
set_option maxRecDepth 65536 in
set_option maxHeartbeats 40000000 in
theorem comes_1 {Post : Tables → Env → Array Value → State → Outcome → State → Prop} (hpost : ∀ tb e args s v u, (limb_1_1.after args s (.returned v) u = true ∧ limb_1_2.after args s (.returned v) u = true ∧ True) → FrameEnd s (.returned v) u (Jvm.fieldLocs frame_1_writes args s ++ Jvm.arrayLocs frame_1_arrays args s ++ Jvm.staticLocs frame_1_statics s) 16 128 → Post tb e args s (.returned v) u) :
    ArmFor flags0 classFile x code maxLocals ret World_1 tables_1 room_1 Calls_1 rest_1 Pre_1 Post := by
  intro l hfl _ _ p e ha hc hk s m args below hf hA hF happ hP
  obtain ⟨hcalls, hrest, hpre⟩ := hP
  obtain ⟨-, -, -, hnamed, -, -, -, hat⟩ := (Spec.applies_iff hf).mp happ
  obtain ⟨hg, hn⟩ := and_e (Cond.before_iff.mp (show (Jvm.Cond.and given_1 narrow_1).before args s = true from hpre))
  obtain ⟨gc, gr0⟩ := and_e hg
  obtain ⟨ga0, gr1⟩ := and_e gr0
  obtain ⟨ga1, gr2⟩ := and_e gr1
  obtain ⟨ga2, gr3⟩ := and_e gr2
  have ga3 := gr3
  obtain ⟨w0, w1, w2, w3, rfl⟩ : ∃ w0 w1 w2 w3 : Value, args = #[w0, w1, w2, w3] := by
    have hs : args.size = 4 := by simpa [Cond.value, given_1] using gc
    obtain ⟨L⟩ := args
    match L, hs with
    | [w0, w1, w2, w3], _ => exact ⟨w0, w1, w2, w3, rfl⟩
  have hw := fun d (hd : d ∈ tables_1) => atoms_spec (ws := Jvm.Cond.code x code maxLocals ret :: tables_1) hat d (List.mem_cons_of_mem _ hd)
  have hfit : Fit s := fun {y c} hc i hi => by
    obtain ⟨ha, rfl⟩ := Array.getElem?_eq_some_iff.mp hc
    have q := List.all_eq_true.mp ((Array.all_eq_true_iff_forall_mem.mp hF) _ (Array.getElem_mem ha)) i (List.mem_range.mpr hi)
    simpa [Array.getElem?_eq_getElem hi] using q
  obtain ⟨i0, ei0⟩ := is_v ga0
  obtain rfl : w0 = (.int i0) := Option.some.inj ei0
  obtain ⟨i1, ei1⟩ := isL_v ga1
  obtain rfl : w1 = (.long i1) := Option.some.inj ei1
  obtain ⟨i2, ei2⟩ := is_v ga2
  obtain rfl : w2 = (.int i2) := Option.some.inj ei2
  obtain ⟨i3, ei3⟩ := is_v ga3
  obtain rfl : w3 = (.int i3) := Option.some.inj ei3
  obtain ⟨n, o, h1, h2, h3, _, L, rfl, ⟨rfl, N⟩, hq⟩ := rm0 l s _ hw tables_1 i0 i1 i2 i3  s.heap s.heap.size (Nat.le_refl _)  p e ha hc hk s m _ below hf ((Spec.applies_iff_loose hf).mp happ).1 ⟨rfl, State.Warmed39.refl s, rfl⟩ trivial
  refine ⟨n, _, h1, h2, h3, hpost _ _ _ _ _ _ ⟨Cond.after_iff.mpr rfl, Cond.after_iff.mpr (eq_i res_at (Term.int_eval (1)) rfl), trivial⟩ ⟨hq.1, hq.2.1, (hq.2.2.sift fun y hy => Or.inr (N y hy)).mono (by decide) (by decide)⟩⟩
theorem main_1_1 : Claimed_1_1 := comes_1 fun _ _ _ _ _ _ h hF => ⟨h.1, hF⟩
theorem main_1_2 : Claimed_1_2 := comes_1 fun _ _ _ _ _ _ h hF => ⟨h.2.1, hF⟩
end Jvm.Pilot.@@N@@
namespace Jvm.Pilot.@@N@@
open Jvm Jvm.ClassFile Sem Op Lib Jvm.Free Jvm.Stand Jvm.Pilot.@@N@@.Jvm.D
/-! MADE BY PROGRAM (witnessworld.py) out of the Statement's table words and the real class files: 10 classes; the members and pool entries that the words name. The judged class is class 1, her method 1. -/
namespace start1
open Jvm.ClassFile
def u (s : String) : CpInfo := .utf8 (stringToUtf16 s)
/-- a pool by its gaps: so many unusable entries, then the entry; so many at the end -/
def gap : Nat → List CpInfo → List CpInfo
  | 0, r => r
  | n + 1, r => .unusable :: gap n r
def poolList (es : List (Nat × CpInfo)) (last : Nat) : List CpInfo := es.foldr (fun e r => gap e.1 (e.2 :: r)) (gap last [])
def pool (es : List (Nat × CpInfo)) (last : Nat) : Array CpInfo := ⟨poolList es last⟩
def fileOf (pool : Array CpInfo) (this : Nat) (attrs : Array Attribute := #[]) (ms : Array MethodInfo := #[]) (fl : Nat := 33) (sup : Nat := 0) (ifs : Array Nat := #[]) (fds : Array FieldInfo := #[]) : ClassFile where
  minorVersion := 0
  majorVersion := 65
  constantPool := pool
  accessFlags := fl
  thisClass := this
  superClass := sup
  interfaces := ifs
  fields := fds
  methods := ms
  attributes := attrs
def plain (name : String) (sup : Option ClassId) : Class where
  name := name
  kind := .ordinary
  loader := none
  accessFlags := 33
  super := sup
  interfaces := #[]
  cf := none
  fields := #[]
  methods := #[]
  instanceTypes := #[]
  staticTypes := #[]
  resolved := #[]
  callSites := []
  init := .initialized
  statics := none
  mirror := none

def pool0 : Array CpInfo := pool [(5, u "<init>"), (0, u "()V"), (1, .class_ 10), (1, u "java/lang/Object")] 113

def k0m0 : Method := { name := "<init>", desc := "()V", sig := { parameters := [], returnType := none }, accessFlags := 1, code := none }
/-- java/lang/Object -/
def k0 : Class := { plain "java/lang/Object" none with
  accessFlags := 33
  interfaces := #[]
  cf := some (fileOf pool0 8 #[] #[{ accessFlags := 1, nameIndex := 5, descriptorIndex := 6, attributes := #[] }] 33 0 #[] #[])
  fields := #[]
  methods := #[k0m0]
  instanceTypes := #[]
  staticTypes := #[]
  resolved := Array.replicate 124 none
  statics := none }

def pool1 : Array CpInfo := pool [(2, .class_ 4), (1, u "java/lang/Object"), (0, u "<init>"), (0, u "()V"), (0, .methodref 8 9), (0, .class_ 10), (0, .nameAndType 11 12), (0, u "com/example/ruleward/ruleward/http/HttpHeadEndPinLaw"), (0, u "pick"), (0, u "(IJI)B"), (0, .integer 2147483647), (0, .methodref 15 16), (0, .class_ 17), (0, .nameAndType 18 19), (0, u "com/example/ruleward/ruleward/http/HttpHead"), (0, u "end"), (0, u "([BII)I"), (0, .methodref 8 21), (0, .nameAndType 22 23), (0, u "first"), (0, u "(I[BIII)I"), (2, u "law"), (0, u "(IJII)Z")] 5

def k1m0 : Method := { name := "<init>", desc := "()V", sig := { parameters := [], returnType := none }, accessFlags := 1, code := none }
def k1c1 : Code := { maxStack := 6, maxLocals := 10, code := code, exceptionTable := #[], attributes := #[] }
def k1m1 : Method := { name := "law", desc := "(IJII)Z", sig := { parameters := [.int, .long, .int, .int], returnType := some .boolean }, accessFlags := 9, code := some k1c1 }
def k1c2 : Code := { maxStack := 4, maxLocals := 5, code := method_3_code, exceptionTable := #[], attributes := #[] }
def k1m2 : Method := { name := "pick", desc := "(IJI)B", sig := { parameters := [.int, .long, .int], returnType := some .byte }, accessFlags := 10, code := some k1c2 }
def k1c3 : Code := { maxStack := 3, maxLocals := 5, code := method_4_code, exceptionTable := #[], attributes := #[] }
def k1m3 : Method := { name := "first", desc := "(I[BIII)I", sig := { parameters := [.int, (.array .byte), .int, .int, .int], returnType := some .int }, accessFlags := 10, code := some k1c3 }
/-- com/example/ruleward/ruleward/http/HttpHeadEndPinLaw -/
def k1 : Class := { plain "com/example/ruleward/ruleward/http/HttpHeadEndPinLaw" (some 0) with
  accessFlags := 49
  interfaces := #[]
  cf := some (fileOf pool1 8 #[] #[{ accessFlags := 1, nameIndex := 5, descriptorIndex := 6, attributes := #[] }, { accessFlags := 9, nameIndex := 26, descriptorIndex := 27, attributes := #[] }, { accessFlags := 10, nameIndex := 11, descriptorIndex := 12, attributes := #[] }, { accessFlags := 10, nameIndex := 22, descriptorIndex := 23, attributes := #[] }] 49 2 #[] #[])
  fields := #[]
  methods := #[k1m0, k1m1, k1m2, k1m3]
  instanceTypes := #[]
  staticTypes := #[]
  resolved := Array.replicate 33 none
  statics := none }

def pool2 : Array CpInfo := pool [(2, .class_ 4), (1, u "java/lang/Object"), (0, u "<init>"), (0, u "()V"), (0, .class_ 8), (0, u "java/lang/Record")] 13

def k2m0 : Method := { name := "<init>", desc := "()V", sig := { parameters := [], returnType := none }, accessFlags := 4, code := none }
/-- java/lang/Record -/
def k2 : Class := { plain "java/lang/Record" (some 0) with
  accessFlags := 1057
  interfaces := #[]
  cf := some (fileOf pool2 7 #[] #[{ accessFlags := 4, nameIndex := 5, descriptorIndex := 6, attributes := #[] }] 1057 2 #[] #[])
  fields := #[]
  methods := #[k2m0]
  instanceTypes := #[]
  staticTypes := #[]
  resolved := Array.replicate 22 none
  statics := none }

def pool3 : Array CpInfo := pool [(2, .class_ 4), (1, u "java/lang/Record"), (3, .class_ 10), (1, u "com/example/ruleward/ruleward/http/HttpHead"), (0, u "method"), (0, u "Ljava/lang/String;"), (2, u "target"), (2, u "http10"), (0, u "Z"), (2, u "length"), (0, u "J"), (2, u "chunked"), (2, u "keepAlive"), (2, u "expectsContinue"), (2, u "authorization"), (0, u "Ljava/util/List;"), (36, u "TOKEN"), (0, u "Ljava/util/regex/Pattern;"), (16, u "VISIBLE"), (5, .class_ 98), (0, u "com/example/ruleward/ruleward/http/HttpHead$Headers"), (18, u "VERSION"), (22, u "ABSOLUTE"), (10, u "end"), (41, u "DIGITS"), (4, u "MOST"), (0, u "I"), (6, u "([BII)I")] 54

def k3c0 : Code := { maxStack := 3, maxLocals := 5, code := prog_32_method_2_code, exceptionTable := #[], attributes := #[] }
def k3m0 : Method := { name := "end", desc := "([BII)I", sig := { parameters := [(.array .byte), .int, .int], returnType := some .int }, accessFlags := 8, code := some k3c0 }
/-- com/example/ruleward/ruleward/http/HttpHead -/
def k3 : Class := { plain "com/example/ruleward/ruleward/http/HttpHead" (some 2) with
  accessFlags := 48
  interfaces := #[]
  cf := some (fileOf pool3 8 #[.nestMembers #[97]] #[{ accessFlags := 8, nameIndex := 151, descriptorIndex := 206, attributes := #[] }] 48 2 #[] #[{ accessFlags := 18, nameIndex := 11, descriptorIndex := 12, attributes := #[] }, { accessFlags := 18, nameIndex := 15, descriptorIndex := 12, attributes := #[] }, { accessFlags := 18, nameIndex := 18, descriptorIndex := 19, attributes := #[] }, { accessFlags := 18, nameIndex := 22, descriptorIndex := 23, attributes := #[] }, { accessFlags := 18, nameIndex := 26, descriptorIndex := 19, attributes := #[] }, { accessFlags := 18, nameIndex := 29, descriptorIndex := 19, attributes := #[] }, { accessFlags := 18, nameIndex := 32, descriptorIndex := 19, attributes := #[] }, { accessFlags := 18, nameIndex := 35, descriptorIndex := 36, attributes := #[] }, { accessFlags := 24, nameIndex := 198, descriptorIndex := 199, attributes := #[] }, { accessFlags := 26, nameIndex := 73, descriptorIndex := 74, attributes := #[] }, { accessFlags := 26, nameIndex := 91, descriptorIndex := 74, attributes := #[] }, { accessFlags := 26, nameIndex := 117, descriptorIndex := 74, attributes := #[] }, { accessFlags := 26, nameIndex := 193, descriptorIndex := 74, attributes := #[] }, { accessFlags := 26, nameIndex := 140, descriptorIndex := 74, attributes := #[] }])
  fields := #[{ name := "method", type := (.object "java/lang/String"), accessFlags := 18, slot := 0, constantValue := 0 }, { name := "target", type := (.object "java/lang/String"), accessFlags := 18, slot := 1, constantValue := 0 }, { name := "http10", type := .boolean, accessFlags := 18, slot := 2, constantValue := 0 }, { name := "length", type := .long, accessFlags := 18, slot := 3, constantValue := 0 }, { name := "chunked", type := .boolean, accessFlags := 18, slot := 4, constantValue := 0 }, { name := "keepAlive", type := .boolean, accessFlags := 18, slot := 5, constantValue := 0 }, { name := "expectsContinue", type := .boolean, accessFlags := 18, slot := 6, constantValue := 0 }, { name := "authorization", type := (.object "java/util/List"), accessFlags := 18, slot := 7, constantValue := 0 }, { name := "MOST", type := .int, accessFlags := 24, slot := 0, constantValue := 0 }, { name := "TOKEN", type := (.object "java/util/regex/Pattern"), accessFlags := 26, slot := 1, constantValue := 0 }, { name := "VISIBLE", type := (.object "java/util/regex/Pattern"), accessFlags := 26, slot := 2, constantValue := 0 }, { name := "VERSION", type := (.object "java/util/regex/Pattern"), accessFlags := 26, slot := 3, constantValue := 0 }, { name := "DIGITS", type := (.object "java/util/regex/Pattern"), accessFlags := 26, slot := 4, constantValue := 0 }, { name := "ABSOLUTE", type := (.object "java/util/regex/Pattern"), accessFlags := 26, slot := 5, constantValue := 0 }]
  methods := #[k3m0]
  instanceTypes := #[(.object "java/lang/String"), (.object "java/lang/String"), .boolean, .long, .boolean, .boolean, .boolean, (.object "java/util/List")]
  staticTypes := #[.int, (.object "java/util/regex/Pattern"), (.object "java/util/regex/Pattern"), (.object "java/util/regex/Pattern"), (.object "java/util/regex/Pattern"), (.object "java/util/regex/Pattern")]
  resolved := Array.replicate 261 none
  statics := none }

def pool4 : Array CpInfo := pool [(1, u "java/lang/Cloneable"), (0, .class_ 1), (0, u "java/lang/Object"), (0, .class_ 3)] 3

/-- java/lang/Cloneable -/
def k4 : Class := { plain "java/lang/Cloneable" (some 0) with
  accessFlags := 1537
  interfaces := #[]
  cf := some (fileOf pool4 2 #[] #[] 1537 4 #[] #[])
  fields := #[]
  methods := #[]
  instanceTypes := #[]
  staticTypes := #[]
  resolved := Array.replicate 8 none
  statics := none }

def pool5 : Array CpInfo := pool [(1, u "java/io/Serializable"), (0, .class_ 1), (0, u "java/lang/Object"), (0, .class_ 3)] 3

/-- java/io/Serializable -/
def k5 : Class := { plain "java/io/Serializable" (some 0) with
  accessFlags := 1537
  interfaces := #[]
  cf := some (fileOf pool5 2 #[] #[] 1537 4 #[] #[])
  fields := #[]
  methods := #[]
  instanceTypes := #[]
  staticTypes := #[]
  resolved := Array.replicate 8 none
  statics := none }

/-- the primitive byte -/
def k6 : Class := { plain "byte" none with kind := .primitive 'B', accessFlags := 0x411 }
/-- [B -/
def k7 : Class := { plain "[B" (some 0) with kind := .array 6 .byte, interfaces := #[4, 5], accessFlags := 1041 }

/-- the primitive int -/
def k8 : Class := { plain "int" none with kind := .primitive 'I', accessFlags := 0x411 }
/-- [I -/
def k9 : Class := { plain "[I" (some 0) with kind := .array 8 .int, interfaces := #[4, 5], accessFlags := 1041 }

def heap : Heap := #[]
def classes : Array Class := #[k0, k1, k2, k3, k4, k5, k6, k7, k8, k9]
def interned : List (Array UInt16 × Addr) := []
def slotsUsed : Nat := 0
def theMethod : MethodId := ⟨1, 1⟩
def args0 : Array Value := #[.int 5, .long 1, .int 1, .int 1]
def aboutOver (below : List Frame) : State where
  vm := { classes := classes, interned := interned.toArray }
  heap := heap
  slotsUsed := slotsUsed
  threads := #[{ frames := .invoking theMethod args0 :: below }]
def below0 : List Frame := [.native { method := ⟨0, 0⟩, args := #[] }]
def about1 : State := aboutOver below0
def p0 : Program := .bare "" "" ""
def e0 : Env := launch0.env 0 0 0
theorem w_frames : about1.frames = Frame.invoking theMethod args0 :: below0 := rfl
set_option maxRecDepth 65536 in
theorem w_args : argsFit about1.vm theMethod args0 = true := by decide +kernel
set_option maxRecDepth 65536 in
theorem w_heap : heapFits about1 = true := by decide +kernel
set_option maxRecDepth 65536 in
theorem w_runnable : about1.curStatus? = some .runnable := by decide +kernel
set_option maxRecDepth 65536 in
theorem w_alone : about1.alone = true := by decide +kernel
set_option maxRecDepth 65536 in
theorem w_named : about1.methodNamed? x = some theMethod := by decide +kernel
set_option maxRecDepth 65536 in
theorem w_hears : about1.hears theMethod below0 = true := by decide +kernel
set_option maxRecDepth 65536 in
theorem w_ripe : about1.ripe theMethod args0 below0 = true := by decide +kernel
theorem w_running : about1.status = .running := rfl
set_option maxRecDepth 65536 in
theorem w_room : about1.hasRoom e0.platform room_1 = true :=
  launch0.hasRoom_least _ room_1 (by decide +kernel) (by decide +kernel) (by decide +kernel) (by decide +kernel) (by decide +kernel) (by decide +kernel)
theorem allAtoms_all (ts : List Jvm.Cond) (a : Array Jvm.Value) (st : Jvm.State) : (allAtoms ts).before a st = ts.all (fun c => c.before a st) := by
  induction ts with
  | nil => rfl
  | cons c t ih =>
    show (Jvm.Cond.and c (allAtoms t)).before a st = _
    rw [Jvm.Cond.before_and, ih, List.all_cons]
def words1 : List Jvm.Cond := Jvm.Cond.code x code maxLocals ret :: tables_1
/-- a 'code' word, met by the world's own term for the bytes: nothing is compared byte by byte -/
theorem code_word {y : MethodName} {bytes : ByteArray} {mx : Nat} {rt : Option FieldType} {a : Array Value} {s : State} {m : MethodId} {meth : Method} {c : Code} (h1 : s.methodNamed? y = some m) (h2 : s.vm.method? m = some meth) (h3 : meth.code = some c) (h4 : c.code = bytes)
    (h5 : (c.maxLocals == mx && c.exceptionTable.isEmpty && decide (c.maxStack ≤ mostOperands) && decide (meth.sig.returnType = rt) && !meth.locks && decide (parseMethodDescriptor y.desc = some meth.sig)) = true) : (Jvm.Cond.code y bytes mx rt).before a s = true := by
  simp only [Bool.and_eq_true, beq_iff_eq, Bool.not_eq_true', decide_eq_true_eq] at h5
  obtain ⟨⟨⟨⟨⟨g1, g2⟩, g3⟩, g4⟩, g5⟩, g6⟩ := h5
  simp [Cond.before, Cond.holds, Cond.value, h1, h2, h3, h4, g1, g2, g3, g4, g5, g6]
def isCode : Jvm.Cond → Bool
  | .code _ _ _ _ => true
  | _ => false
theorem all_split {L : List Jvm.Cond} {P : Jvm.Cond → Bool} (h1 : L.all (fun c => isCode c || P c) = true) (h2 : ∀ c ∈ L.filter isCode, P c = true) : L.all P = true := by
  refine List.all_eq_true.mpr fun c hc => ?_
  have h := List.all_eq_true.mp h1 c hc
  rcases Bool.eq_false_or_eq_true (isCode c) with hi | hi
  · exact h2 c (List.mem_filter.mpr ⟨hc, hi⟩)
  · simpa [hi] using h
set_option maxRecDepth 65536 in
theorem w_c0 : (Jvm.Cond.code x code maxLocals ret).before args0 about1 = true := code_word (m := ⟨1, 1⟩) (meth := k1m1) (c := k1c1) (by decide +kernel) rfl rfl rfl (by decide +kernel)
set_option maxRecDepth 65536 in
theorem w_c1 : (Jvm.Cond.code ({ cls := "com/example/ruleward/ruleward/http/HttpHeadEndPinLaw", name := "pick", desc := "(IJI)B" } : Jvm.MethodName) method_3_code (5 : Nat) (Option.some Jvm.ClassFile.FieldType.byte)).before args0 about1 = true := code_word (m := ⟨1, 2⟩) (meth := k1m2) (c := k1c2) (by decide +kernel) rfl rfl rfl (by decide +kernel)
set_option maxRecDepth 65536 in
theorem w_c2 : (Jvm.Cond.code ({ cls := "com/example/ruleward/ruleward/http/HttpHead", name := "end", desc := "([BII)I" } : Jvm.MethodName) prog_32_method_2_code (5 : Nat) (Option.some Jvm.ClassFile.FieldType.int)).before args0 about1 = true := code_word (m := ⟨3, 0⟩) (meth := k3m0) (c := k3c0) (by decide +kernel) rfl rfl rfl (by decide +kernel)
set_option maxRecDepth 65536 in
theorem w_c3 : (Jvm.Cond.code ({ cls := "com/example/ruleward/ruleward/http/HttpHeadEndPinLaw", name := "first", desc := "(I[BIII)I" } : Jvm.MethodName) method_4_code (5 : Nat) (Option.some Jvm.ClassFile.FieldType.int)).before args0 about1 = true := code_word (m := ⟨1, 3⟩) (meth := k1m3) (c := k1c3) (by decide +kernel) rfl rfl rfl (by decide +kernel)
def codes1 : List Jvm.Cond := [Jvm.Cond.code x code maxLocals ret, Jvm.Cond.code ({ cls := "com/example/ruleward/ruleward/http/HttpHeadEndPinLaw", name := "pick", desc := "(IJI)B" } : Jvm.MethodName) method_3_code (5 : Nat) (Option.some Jvm.ClassFile.FieldType.byte), Jvm.Cond.code ({ cls := "com/example/ruleward/ruleward/http/HttpHead", name := "end", desc := "([BII)I" } : Jvm.MethodName) prog_32_method_2_code (5 : Nat) (Option.some Jvm.ClassFile.FieldType.int), Jvm.Cond.code ({ cls := "com/example/ruleward/ruleward/http/HttpHeadEndPinLaw", name := "first", desc := "(I[BIII)I" } : Jvm.MethodName) method_4_code (5 : Nat) (Option.some Jvm.ClassFile.FieldType.int)]
set_option maxRecDepth 65536 in
theorem codes_eq : words1.filter isCode = codes1 := rfl
theorem w_codes : ∀ c ∈ words1.filter isCode, c.before args0 about1 = true := by
  rw [codes_eq]
  intro c hc
  simp only [codes1, List.mem_cons, List.not_mem_nil, or_false] at hc
  rcases hc with rfl | rfl | rfl | rfl
  · exact w_c0
  · exact w_c1
  · exact w_c2
  · exact w_c3
set_option maxRecDepth 65536 in
theorem w_t1 : words1.all (fun c => isCode c || c.before args0 about1) = true := by decide +kernel
theorem w_tables : (allAtoms (Jvm.Cond.code x code maxLocals ret :: tables_1)).before args0 about1 = true := by
  rw [allAtoms_all]
  show words1.all (fun c => c.before args0 about1) = true
  refine all_split ?_ w_codes
  rw [w_t1]
set_option maxRecDepth 65536 in
theorem w_case : (Jvm.Cond.and given_1 narrow_1).before args0 about1 = true := by decide +kernel
theorem w_applies : (headSpec (Jvm.Cond.code x code maxLocals ret :: tables_1) room_1).applies x e0.platform about1 = true :=
  (Spec.applies_iff w_frames).mpr ⟨w_running, w_runnable, w_alone, w_named, w_hears, w_ripe, w_room, w_tables⟩
theorem atStart : AtStart classFile x code maxLocals ret World_1 tables_1 room_1 Calls_1 rest_1 Pre_1 launch0 p0 e0 about1 theMethod args0 below0 :=
  ⟨lists_1, trivial, launch0.admits_env _ _ _, launch0.least_env, fairChoices_fair.cas, fairChoices_fair.clock, w_frames, w_args, w_heap, w_applies, trivial, trivial, w_case⟩
end start1
theorem witness_1 : WitnessClaimed_1 := ⟨start1.p0, start1.e0, start1.about1, start1.theMethod, start1.args0, start1.below0, start1.atStart⟩
end Jvm.Pilot.@@N@@
