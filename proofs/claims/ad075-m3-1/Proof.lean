import JvmDerived
import JvmDerived.Pilot.@@N@@Statement
import JvmDerived.Pilot.@@N@@Code
set_option linter.unusedVariables false
set_option linter.unusedSimpArgs false
namespace Jvm.RoadKit
open Sem ClassFile Op Lib Jvm.Stand Jvm.Free Jvm.LawKit
section New
variable {p : Program} {l : Launch} {e : Env} {R : Room} {s : State} {m : MethodId} {args : Array Value} {below : List Frame} {meth : Method} {c : Code} {T : State} {locs : List Loc} {cells slots : Nat}
theorem retI (X : Stand p l e R s m args below meth c T locs cells slots) (hx : p.tables.exec = Jvm.exec) {pc : Nat} {Ls : Array Slot} {z : Int32} {rest : List Value} (hret : meth.sig.returnType = some .int) (hd : decode c.code pc = .ok (.ireturn, 1)) {fs : List Frame}
    (hl : ∀ (f : JFrame) (acts : List Action), f.method = m → f.locked = none → f.entered = [] → (doReturn e (T.setTop f) acts (some (.int z))).1 = T.setFrames fs) : Steps p.tables e below (T.setTop (mkF m pc Ls (.int z :: rest))) (T.setFrames fs) := by
  have hm' : T.vm.method? m = some meth := X.method'
  have hn : narrow .int (.int z) = .int z := rfl
  show Steps p.tables e below (T.setTop { method := m, pc := pc, locals := Ls, stack := _ :: rest, locked := none }) _
  jvm_step X.here [X.here.top, hx, hd, hm', hret, hn]
  first | (intro acts; rw [hl _ acts rfl rfl rfl]) | rw [hl _ _ rfl rfl rfl]
  exact Steps.refl _
end New
end Jvm.RoadKit
namespace Jvm.Pilot.@@N@@
open Jvm Jvm.ClassFile Sem Op Lib Jvm.Free Jvm.Stand Jvm.LawKit Jvm.RoadKit Bundle Jvm.Pilot.@@N@@.Jvm.D
theorem own_i2b (x : Int32) : x.toInt8.toInt32.toInt8.toInt32 = x.toInt8.toInt32 := by
  have h1 := c_i2b x; have h2 := c_i2b (x.toInt8.toInt32)
  rw [← Int32.toInt_inj]; omega
theorem own_ch (x : Int32) (h0 : 0 ≤ x.toInt) (h1 : x.toInt < 65536) : x.toUInt32.toUInt16.toUInt32.toInt32 = x := by
  have h := c_i2c x
  rw [← Int32.toInt_inj]; omega
theorem own_and255 (x : Int32) : 0 ≤ (x &&& (255 : Int32)).toInt ∧ (x &&& (255 : Int32)).toInt ≤ 255 := c_and x 255 (by decide)
theorem own_n255 (x : Int32) (h : x.toInt ≤ 255) : ¬ (255 : Int32) < x := by
  rw [Int32.lt_iff_toInt_lt]; have : (255 : Int32).toInt = 255 := rfl; omega
theorem own_lt1 (x : Int32) : ¬ (255 : Int32) < ((x &&& (255 : Int32)).toUInt32.toUInt16.toUInt32.toInt32) := by
  have h := own_and255 x
  rw [own_ch _ h.1 (by omega)]; exact own_n255 _ h.2
theorem own_lt2 (x : Int32) : ¬ (255 : Int32) < (((x &&& (255 : Int32)).toUInt32.toUInt16.toUInt32.toInt32).toUInt32.toUInt16.toUInt32.toInt32) := by
  have h := own_and255 x
  rw [own_ch _ h.1 (by omega), own_ch _ h.1 (by omega)]; exact own_n255 _ h.2
def own_e (n b0 b1 b2 x y z : Int32) : Int32 := if n = (3 : Int32) ∧ b0 = x ∧ b1 = y ∧ b2 = z then 1 else 0
def own_m (n b0 b1 b2 : Int32) : Int32 := if own_e n b0 b1 b2 50 53 48 = (0 : Int32) then (if own_e n b0 b1 b2 56 56 48 = (0 : Int32) then 0 else 1) else 1
def own_x (n c0 c1 c2 : Int32) : Int32 := if n = (3 : Int32) then (if (c0 = (50 : Int32) ∧ c1 = (53 : Int32) ∧ c2 = (48 : Int32)) ∨ (c0 = (56 : Int32) ∧ c1 = (56 : Int32) ∧ c2 = (48 : Int32)) then 1 else 0) else 0
theorem own_b (c : Int32) (h0 : 0 ≤ c.toInt) (h1 : c.toInt ≤ 255) (k : Int32) (k0 : 0 ≤ k.toInt) (k1 : k.toInt ≤ 127) : (c.toInt8.toInt32 = k) = (c = k) := by
  have h := c_i2b c
  rw [← Int32.toInt_inj, ← Int32.toInt_inj]
  apply propext; constructor <;> intro q <;> omega
theorem own_same (n c0 c1 c2 : Int32) (a0 : 0 ≤ c0.toInt ∧ c0.toInt ≤ 255) (a1 : 0 ≤ c1.toInt ∧ c1.toInt ≤ 255) (a2 : 0 ≤ c2.toInt ∧ c2.toInt ≤ 255) : own_m n (c0.toInt8.toInt32) (c1.toInt8.toInt32) (c2.toInt8.toInt32) = own_x n c0 c1 c2 := by
  unfold own_m own_e own_x
  simp only [own_b c0 a0.1 a0.2 50 (by decide) (by decide), own_b c0 a0.1 a0.2 56 (by decide) (by decide), own_b c1 a1.1 a1.2 53 (by decide) (by decide), own_b c1 a1.1 a1.2 56 (by decide) (by decide), own_b c2 a2.1 a2.2 48 (by decide) (by decide)]
  by_cases hn : n = (3 : Int32)
  · by_cases hA : c0 = (50 : Int32) ∧ c1 = (53 : Int32) ∧ c2 = (48 : Int32)
    · simp [hn, hA]
    · by_cases hB : c0 = (56 : Int32) ∧ c1 = (56 : Int32) ∧ c2 = (48 : Int32)
      · simp [hn, hA, hB]
      · simp [hn, hA, hB]
  · simp [hn]
theorem own_arvT {Z : State} {h : Heap} {a : Addr} {k : ClassId} {ty : FieldType} {z z' : Int32} {vs vs' : List Value} {d : Value} (F : Arv Z h a k ty z vs d) (e : z' = z) (q : ∀ i, i < z.toNatClampNeg → vs'.getD i d = vs.getD i d) : Arv Z h a k ty z' vs' d := by
  subst e
  obtain ⟨c, A, r1, r2, r3, H, G⟩ := F
  exact ⟨c, A, r1, r2, r3, fun i hi => by rw [q i (r2 ▸ hi)]; exact H i hi, fun i hi => by rw [q i (r2 ▸ hi)]; exact G i hi⟩
theorem own_eqT {Z : State} {h : Heap} {t o bt bo : Addr} {k1 k2 : ClassId} {n b0 b1 b2 b3 x y z : Int32} (F1 : Fld Z h t "java/lang/String" "value" "[B" (.ref bt)) (F2 : Fld Z h o "java/lang/String" "value" "[B" (.ref bo)) (A1 : Arv Z h bt k1 .byte n [(.int b0), (.int b1), (.int b2), (.int b3)] (.int (0 : Int32))) (A2 : Arv Z h bo k2 .byte (3 : Int32) [(.int x), (.int y), (.int z)] (.int (0 : Int32))) (e : t = o) : own_e n b0 b1 b2 x y z = 1 := by
  unfold own_e
  by_cases hc : n = (3 : Int32) ∧ b0 = x ∧ b1 = y ∧ b2 = z
  · rw [if_pos hc]
  · exfalso
    refine Fld.ne F1 F2 (fun q => arv_ne A1 A2 ?_ (Value.ref.inj q)) e
    by_cases h3 : n = (3 : Int32)
    · right
      subst h3
      by_cases g0 : b0 = x
      · by_cases g1 : b1 = y
        · have g2 : ¬ b2 = z := fun q => hc ⟨rfl, g0, g1, q⟩
          exact ⟨2, by decide, fun q => g2 (by simpa using q)⟩
        · exact ⟨1, by decide, fun q => g1 (by simpa using q)⟩
      · exact ⟨0, by decide, fun q => g0 (by simpa using q)⟩
    · left
      obtain ⟨-, -, -, -, r3, -⟩ := A1
      intro q
      apply h3
      have e3 : (3 : Int32).toNatClampNeg = 3 := rfl
      rw [e3] at q
      rw [← Int32.toInt_inj, nat_of r3, q]; rfl
def own_EL : List (String × Nat) := [("java/lang/String", 7), ("recensio/records/EditionField", 39), ("recensio/records/EditionField", 47)]
theorem own_EW {Z : State} {a0 : Array Value} (hw : ∀ d ∈ tables_1, d.before a0 Z = true) : EW Z a0 own_EL := (EW.cons (hw _ (List.mem_of_getElem? (i := 22) rfl)) (by decide) (EW.cons (hw _ (List.mem_of_getElem? (i := 34) rfl)) (by decide) (EW.cons (hw _ (List.mem_of_getElem? (i := 46) rfl)) (by decide) EW.nil)))
theorem own_wS {Z : State} {a0 : Array Value} (hw : ∀ d ∈ tables_1, d.before a0 Z = true) : ∀ d ∈ Bundle.stringAtoms, d.before a0 Z = true := fun d hd => by
  simp only [Bundle.stringAtoms, List.mem_cons, List.not_mem_nil, or_false] at hd
  rcases hd with rfl | rfl | rfl | rfl | rfl | rfl | rfl
  · exact (hw _ (List.mem_of_getElem? (i := 10) rfl))
  · exact (hw _ (List.mem_of_getElem? (i := 9) rfl))
  · exact (hw _ (List.mem_of_getElem? (i := 23) rfl))
  · exact (hw _ (List.mem_of_getElem? (i := 24) rfl))
  · exact (hw _ (List.mem_of_getElem? (i := 25) rfl))
  · exact (hw _ (List.mem_of_getElem? (i := 26) rfl))
  · exact (hw _ (List.mem_of_getElem? (i := 27) rfl))
theorem own_slS {Z : State} {EL : List (String × Nat)} {vm : Vm} {h : Heap} {x : Addr} {ws : List Addr} (q : x < h.size) (n : Safe Z EL vm h x) (r : ∀ y ∈ ws, y < h.size ∧ Safe Z EL vm h y) : ∀ y ∈ x :: ws, y < h.size ∧ Safe Z EL vm h y := fun y z => (List.mem_cons.mp z).elim (fun u => u ▸ ⟨q, n⟩) (r y)
theorem own_backSH {p : Program} {l : Launch} {e : Env} {R : Room} {s : State} {below : List Frame} {args : Array Value} {Z : State} {a0 : Array Value} {EL : List (String × Nat)} {h : Heap} {vm0 : Vm} {y : MethodName} {bytes : ByteArray} {maxL : Nat} {ret : Option FieldType} {rm : Room} {len W : Nat} {as' : Array Value} {ws : List Addr} {Q : Option Value → Heap → List Loc → Prop}
    (hM : MetFree l y (head1 [Jvm.Cond.code y bytes maxL ret] rm) (fun a U => a = as' ∧ Z.Warmed39 U.vm ∧ U.heap = h ∧ CHv Z EL U.vm h ∧ ∀ x ∈ ws, Safe Z EL U.vm h x) (fun _ _ _ _ _ => True) (fun _ U o U' => ∃ v L, o = .returned v ∧ Q v U'.heap L ∧ CHr Z EL U.vm U.heap U'.vm U'.heap ∧ ReturnedEndW U o U' L rm.cells rm.slots))
    (hZ : Z.Warmed39 vm0) (wc : (Jvm.Cond.code y bytes maxL ret).before a0 Z = true) (wz : (Jvm.Cond.initialized y.cls).before a0 Z = true) (hf : rm.frames + 1 ≤ R.frames) (hl : W + (maxL + 11) + rm.locals ≤ R.locals) (hEL : EW Z a0 EL) (H : CHv Z EL vm0 h) (hs : ∀ x ∈ ws, x < h.size ∧ Safe Z EL vm0 h x) :
    BackS l R p e below (s.setVm vm0) args y len W (fun A a => a = as' ∧ A.U.heap = h ∧ A.cells + rm.cells ≤ R.cells ∧ A.slots + rm.slots ≤ R.slots)
      (fun A _ v B => ∃ L, Q v B.U.heap L ∧ B.locs = A.locs ++ L ∧ B.cells = A.cells + rm.cells ∧ B.slots = A.slots + rm.slots ∧ CHr Z EL vm0 h B.U.vm B.U.heap) := by
  refine BackS.of_freeW (bytes := bytes) (maxL := maxL) (ret := ret) (E := fun _ first o t L k n => k = rm.cells ∧ n = rm.slots ∧ (∃ v, o = .returned v ∧ Q v t.heap L) ∧ CHr Z EL first.vm first.heap t.vm t.heap) hM hf hl ?_ ?_ (fun _ _ _ _ _ _ _ _ _ => trivial) ?_ ?_
  · intro m meth c A a Y hp
    have hU : Z.Warmed39 A.U.vm := wtrans (s := s.setVm vm0) hZ Y.warmed
    refine ⟨?_, mv hU wc, mv hU wz, hp.2.2.1, hp.2.2.2⟩
    show (Jvm.Cond.and _ .tt).before a A.U = true
    rw [Cond.before_and, mv hU wc]; rfl
  · intro m meth c A a g mk Y hp
    have q := CHv.at Y hZ hEL H
    exact ⟨hp.1, wtrans (s := s.setVm vm0) hZ Y.warmed, hp.2.1, q.1, fun x hx => q.safe (hs x hx).1 (hs x hx).2⟩
  · rintro a first o t ⟨v, L, h1, h2, h3, h4⟩
    exact ⟨L, _, _, h4, rfl, rfl, ⟨v, h1, h2⟩, h3⟩
  · rintro m meth c A a g mk v t L k n Y hp - - ⟨e1, e2, ⟨v', e3, e4⟩, e5⟩
    cases e3; subst e1 e2
    refine ⟨L, e4, rfl, rfl, rfl, (CHv.at Y hZ hEL H).trans ?_⟩
    rw [← hp.2.1]; exact e5
theorem d10_0 : decode jdk_52_method_21_code 0 = .ok (.iconst 0, 1) := by decide +kernel
theorem d10_1 : decode jdk_52_method_21_code 1 = .ok (.istore 5, 2) := by decide +kernel
theorem d10_3 : decode jdk_52_method_21_code 3 = .ok (.iload 5, 2) := by decide +kernel
theorem d10_5 : decode jdk_52_method_21_code 5 = .ok (.iload 4, 2) := by decide +kernel
theorem d10_7 : decode jdk_52_method_21_code 7 = .ok (.if_icmp .ge 37, 3) := by decide +kernel
theorem d10_10 : decode jdk_52_method_21_code 10 = .ok (.aload_n 0, 1) := by decide +kernel
theorem d10_11 : decode jdk_52_method_21_code 11 = .ok (.iload_n 1, 1) := by decide +kernel
theorem d10_12 : decode jdk_52_method_21_code 12 = .ok (.caload, 1) := by decide +kernel
theorem d10_13 : decode jdk_52_method_21_code 13 = .ok (.istore 6, 2) := by decide +kernel
theorem d10_15 : decode jdk_52_method_21_code 15 = .ok (.iload 6, 2) := by decide +kernel
theorem d10_17 : decode jdk_52_method_21_code 17 = .ok (.sipush 255, 3) := by decide +kernel
theorem d10_20 : decode jdk_52_method_21_code 20 = .ok (.if_icmp .le 6, 3) := by decide +kernel
theorem d10_23 : decode jdk_52_method_21_code 23 = .ok (.iload 5, 2) := by decide +kernel
theorem d10_25 : decode jdk_52_method_21_code 25 = .ok (.ireturn, 1) := by decide +kernel
theorem d10_26 : decode jdk_52_method_21_code 26 = .ok (.aload_n 2, 1) := by decide +kernel
theorem d10_27 : decode jdk_52_method_21_code 27 = .ok (.iload_n 3, 1) := by decide +kernel
theorem d10_28 : decode jdk_52_method_21_code 28 = .ok (.iload 6, 2) := by decide +kernel
theorem d10_30 : decode jdk_52_method_21_code 30 = .ok (.i2b, 1) := by decide +kernel
theorem d10_31 : decode jdk_52_method_21_code 31 = .ok (.bastore, 1) := by decide +kernel
theorem d10_32 : decode jdk_52_method_21_code 32 = .ok (.iinc 1 1, 3) := by decide +kernel
theorem d10_35 : decode jdk_52_method_21_code 35 = .ok (.iinc 3 1, 3) := by decide +kernel
theorem d10_38 : decode jdk_52_method_21_code 38 = .ok (.iinc 5 1, 3) := by decide +kernel
theorem d10_41 : decode jdk_52_method_21_code 41 = .ok (.goto (-38), 3) := by decide +kernel
theorem d10_44 : decode jdk_52_method_21_code 44 = .ok (.iload 4, 2) := by decide +kernel
theorem d10_46 : decode jdk_52_method_21_code 46 = .ok (.ireturn, 1) := by decide +kernel
theorem own_pn0 : plainName "java/lang/StringUTF16" = true := by first | (simp [plainName, overriddenIn]; done) | decide +kernel
theorem rmCmp1_ef (m : MethodId) (x0 : Addr) (x2 : Addr) : entryFrame m #[(.ref x0), (.int (0 : Int32)), (.ref x2), (.int (0 : Int32)), (.int (1 : Int32))] 7 = mkF m 0 #[.val (.ref x0), .val (.int (0 : Int32)), .val (.ref x2), .val (.int (0 : Int32)), .val (.int (1 : Int32)), .unset, .unset] [] := by first | (simp [entryFrame, mkF, argsToLocals, Value.category]; done) | rfl
def QCmp1 (Z : State) (a : Addr) (b : Addr) (ka : ClassId) (kb : ClassId) (ch0 : Int32) (h0 : Heap) (n0 : Nat) (v : Option Value) (h : Heap) (L : List Loc) : Prop := v = some (.int (1 : Int32)) ∧ Fr n0 L ∧ Keep h0 h [b] ∧ Arv Z h b kb .byte (1 : Int32) [(.int (ch0.toInt8.toInt32))] (.int (0 : Int32))
set_option maxRecDepth 65536 in
set_option maxHeartbeats 40000000 in
theorem rmCmp1 (l : Launch) (Z : State) (a0 : Array Value) (hw : ∀ d ∈ tables_1, d.before a0 Z = true) (ws : List Jvm.Cond) (a : Addr) (b : Addr) (ka : ClassId) (kb : ClassId) (ch0 : Int32) (h0 : Heap) (n0 : Nat) (Z0 : n0 ≤ h0.size) (Aa : Arv Z h0 a ka .char (1 : Int32) [(.int ch0)] (.int (0 : Int32))) (Ab : Arv Z h0 b kb .byte (1 : Int32) [(.int (0 : Int32))] (.int (0 : Int32))) (g_b : n0 ≤ b) (ne : a ≠ b) (hch0 : ¬ ((255 : Int32) < ch0)) :
    MetFree l (⟨"java/lang/StringUTF16", "compress", "([CI[BII)I"⟩ : MethodName) (head1 (Jvm.Cond.code (⟨"java/lang/StringUTF16", "compress", "([CI[BII)I"⟩ : MethodName) jdk_52_method_21_code 7 (some .int) :: ws) ({ frames := 0, cells := 0, slots := 0, locals := 0 } : Room)) (fun aA' U => aA' = #[(.ref a), (.int (0 : Int32)), (.ref b), (.int (0 : Int32)), (.int (1 : Int32))] ∧ Z.Warmed39 U.vm ∧ U.heap = h0) (fun _ _ _ _ _ => True) (fun _ U oO' U' => ∃ vV' L, oO' = .returned vV' ∧ QCmp1 Z a b ka kb ch0 h0 n0 vV' U'.heap L ∧ FrameEnd U oO' U' L ({ frames := 0, cells := 0, slots := 0, locals := 0 } : Room).cells ({ frames := 0, cells := 0, slots := 0, locals := 0 } : Room).slots) := by
  refine MetFree.of_bodySF (plainFor_of_name own_pn0) hisR ?_
  intro p e s m args below meth c s₁ Bd hml0 hP hK
  obtain ⟨rfl, hZ, hh⟩ := hP
  have hx := Bd.exec
  have hby := Bd.bytes
  have hml : c.maxLocals = 7 := hml0
  have hown : s.vm.findClass "java/lang/StringUTF16" = some m.cls := findClass_of_methodNamed Bd.named
  have hnm := (name_of_methodNamed Bd.named Bd.method).1
  have X0 : Stand p l e ({ frames := 0, cells := 0, slots := 0, locals := 0 } : Room) s m #[(.ref a), (.int (0 : Int32)), (.ref b), (.int (0 : Int32)), (.int (1 : Int32))] below meth c s₁ [] 0 0 := Stand.of_body Bd
  have e0 : s₁.heap = h0 := by rw [← hh, Bd.state]; rfl
  have N0 := Fr.nil n0
  have K0 : Keep h0 h0 [b] := Keep.refl _ _
  have k0 : ∀ t, Steps p.tables e below (s₁.setTop (mkF m 0 #[.val (.ref a), .val (.int (0 : Int32)), .val (.ref b), .val (.int (0 : Int32)), .val (.int (1 : Int32)), .unset, .unset] [])) t → Steps p.tables e below (s₁.setTop (entryFrame m #[(.ref a), (.int (0 : Int32)), (.ref b), (.int (0 : Int32)), (.int (1 : Int32))] 7)) t := fun t k => castTop (rmCmp1_ef m (a) (b)) k
  have hc7_1 : (0 : Int32) < (1 : Int32) := by decide
  have k2 : ∀ t, Steps p.tables e below (s₁.setTop (mkF m 12 #[.val (.ref a), .val (.int (0 : Int32)), .val (.ref b), .val (.int (0 : Int32)), .val (.int (1 : Int32)), .val (.int (0 : Int32)), .unset] [(.int (0 : Int32)), (.ref a)])) t → Steps p.tables e below (s₁.setTop (entryFrame m #[(.ref a), (.int (0 : Int32)), (.ref b), (.int (0 : Int32)), (.int (1 : Int32))] 7)) t := by
    intro t kt
    refine k0 t ?_
    show Steps p.tables e below (s₁.setTop (mkF m 0 #[.val (.ref a), .val (.int (0 : Int32)), .val (.ref b), .val (.int (0 : Int32)), .val (.int (1 : Int32)), .unset, .unset] [])) t
    refine XS.iconst X0.here hx rfl (hb hby d10_0) ?_
    show Steps p.tables e below (s₁.setTop (mkF m 1 #[.val (.ref a), .val (.int (0 : Int32)), .val (.ref b), .val (.int (0 : Int32)), .val (.int (1 : Int32)), .unset, .unset] [(.int (0 : Int32))])) t
    refine XS.istore X0.here hx rfl (hb hby d10_1) rfl (l' := #[.val (.ref a), .val (.int (0 : Int32)), .val (.ref b), .val (.int (0 : Int32)), .val (.int (1 : Int32)), .val (.int (0 : Int32)), .unset]) rfl ?_
    show Steps p.tables e below (s₁.setTop (mkF m 3 #[.val (.ref a), .val (.int (0 : Int32)), .val (.ref b), .val (.int (0 : Int32)), .val (.int (1 : Int32)), .val (.int (0 : Int32)), .unset] [])) t
    refine XS.iload X0.here hx rfl (hb hby d10_3) rfl ?_
    show Steps p.tables e below (s₁.setTop (mkF m 5 #[.val (.ref a), .val (.int (0 : Int32)), .val (.ref b), .val (.int (0 : Int32)), .val (.int (1 : Int32)), .val (.int (0 : Int32)), .unset] [(.int (0 : Int32))])) t
    refine XS.iload X0.here hx rfl (hb hby d10_5) rfl ?_
    show Steps p.tables e below (s₁.setTop (mkF m 7 #[.val (.ref a), .val (.int (0 : Int32)), .val (.ref b), .val (.int (0 : Int32)), .val (.int (1 : Int32)), .val (.int (0 : Int32)), .unset] [(.int (1 : Int32)), (.int (0 : Int32))])) t
    refine XS.icmpNo X0.here hx rfl (hb hby d10_7) rfl (tlt hc7_1).2.1 ?_
    show Steps p.tables e below (s₁.setTop (mkF m 10 #[.val (.ref a), .val (.int (0 : Int32)), .val (.ref b), .val (.int (0 : Int32)), .val (.int (1 : Int32)), .val (.int (0 : Int32)), .unset] [])) t
    refine XS.aloadN X0.here hx rfl (hb hby d10_10) rfl rfl ?_
    show Steps p.tables e below (s₁.setTop (mkF m 11 #[.val (.ref a), .val (.int (0 : Int32)), .val (.ref b), .val (.int (0 : Int32)), .val (.int (1 : Int32)), .val (.int (0 : Int32)), .unset] [(.ref a)])) t
    refine XS.iloadN X0.here hx rfl (hb hby d10_11) rfl ?_
    exact kt
  obtain ⟨cl3, Ar3, q3, S3, M3, H3, G3⟩ := id Aa
  have hin3 : ¬ ((0 : Int32) < 0 ∨ cl3.slots.size ≤ ((0 : Int32)).toNatClampNeg) := inb_of S3 ⟨by decide, by decide⟩
  have hat3 : cl3.slots[((0 : Int32)).toNatClampNeg]? = some (.int ch0) := Has.at H3 hin3 rfl
  have k4 : ∀ t, Steps p.tables e below (s₁.setTop (mkF m 13 #[.val (.ref a), .val (.int (0 : Int32)), .val (.ref b), .val (.int (0 : Int32)), .val (.int (1 : Int32)), .val (.int (0 : Int32)), .unset] [(.int ch0)])) t → Steps p.tables e below (s₁.setTop (entryFrame m #[(.ref a), (.int (0 : Int32)), (.ref b), (.int (0 : Int32)), (.int (1 : Int32))] 7)) t := fun t kt => k2 t (X0.caload hx (j := (0 : Int32)) (v := (.int ch0)) (by rw [e0]; exact Ar3.1) (State.isArrayOf_alike hZ.alike Ar3.2.1) Ar3.2.2 hin3 hat3 (g := (mkF m 12 #[.val (.ref a), .val (.int (0 : Int32)), .val (.ref b), .val (.int (0 : Int32)), .val (.int (1 : Int32)), .val (.int (0 : Int32)), .unset] [(.int (0 : Int32)), (.ref a)])) rfl rfl (hb hby d10_12) t kt)
  have k6 : ∀ t, Steps p.tables e below (s₁.setTop (mkF m 31 #[.val (.ref a), .val (.int (0 : Int32)), .val (.ref b), .val (.int (0 : Int32)), .val (.int (1 : Int32)), .val (.int (0 : Int32)), .val (.int ch0)] [(.int (ch0.toInt8.toInt32)), (.int (0 : Int32)), (.ref b)])) t → Steps p.tables e below (s₁.setTop (entryFrame m #[(.ref a), (.int (0 : Int32)), (.ref b), (.int (0 : Int32)), (.int (1 : Int32))] 7)) t := by
    intro t kt
    refine k4 t ?_
    show Steps p.tables e below (s₁.setTop (mkF m 13 #[.val (.ref a), .val (.int (0 : Int32)), .val (.ref b), .val (.int (0 : Int32)), .val (.int (1 : Int32)), .val (.int (0 : Int32)), .unset] [(.int ch0)])) t
    refine XS.istore X0.here hx rfl (hb hby d10_13) rfl (l' := #[.val (.ref a), .val (.int (0 : Int32)), .val (.ref b), .val (.int (0 : Int32)), .val (.int (1 : Int32)), .val (.int (0 : Int32)), .val (.int ch0)]) rfl ?_
    show Steps p.tables e below (s₁.setTop (mkF m 15 #[.val (.ref a), .val (.int (0 : Int32)), .val (.ref b), .val (.int (0 : Int32)), .val (.int (1 : Int32)), .val (.int (0 : Int32)), .val (.int ch0)] [])) t
    refine XS.iload X0.here hx rfl (hb hby d10_15) rfl ?_
    show Steps p.tables e below (s₁.setTop (mkF m 17 #[.val (.ref a), .val (.int (0 : Int32)), .val (.ref b), .val (.int (0 : Int32)), .val (.int (1 : Int32)), .val (.int (0 : Int32)), .val (.int ch0)] [(.int ch0)])) t
    refine XS.sipush X0.here hx rfl (hb hby d10_17) ?_
    show Steps p.tables e below (s₁.setTop (mkF m 20 #[.val (.ref a), .val (.int (0 : Int32)), .val (.ref b), .val (.int (0 : Int32)), .val (.int (1 : Int32)), .val (.int (0 : Int32)), .val (.int ch0)] [(.int (255 : Int32)), (.int ch0)])) t
    refine XS.icmpYes X0.here hx rfl (pc0 := 20) (pc' := 26) rfl (hb hby d10_20) rfl (flt hch0).2.2.2 (by decide) (by decide) ?_
    show Steps p.tables e below (s₁.setTop (mkF m 26 #[.val (.ref a), .val (.int (0 : Int32)), .val (.ref b), .val (.int (0 : Int32)), .val (.int (1 : Int32)), .val (.int (0 : Int32)), .val (.int ch0)] [])) t
    refine XS.aloadN X0.here hx rfl (hb hby d10_26) rfl rfl ?_
    show Steps p.tables e below (s₁.setTop (mkF m 27 #[.val (.ref a), .val (.int (0 : Int32)), .val (.ref b), .val (.int (0 : Int32)), .val (.int (1 : Int32)), .val (.int (0 : Int32)), .val (.int ch0)] [(.ref b)])) t
    refine XS.iloadN X0.here hx rfl (hb hby d10_27) rfl ?_
    show Steps p.tables e below (s₁.setTop (mkF m 28 #[.val (.ref a), .val (.int (0 : Int32)), .val (.ref b), .val (.int (0 : Int32)), .val (.int (1 : Int32)), .val (.int (0 : Int32)), .val (.int ch0)] [(.int (0 : Int32)), (.ref b)])) t
    refine XS.iload X0.here hx rfl (hb hby d10_28) rfl ?_
    show Steps p.tables e below (s₁.setTop (mkF m 30 #[.val (.ref a), .val (.int (0 : Int32)), .val (.ref b), .val (.int (0 : Int32)), .val (.int (1 : Int32)), .val (.int (0 : Int32)), .val (.int ch0)] [(.int ch0), (.int (0 : Int32)), (.ref b)])) t
    refine XS.i2b X0.here hx rfl (hb hby d10_30) rfl ?_
    exact kt
  obtain ⟨cl7, Ar7, q7, S7, M7, H7, G7⟩ := id Ab
  have hin7 : ¬ ((0 : Int32) < 0 ∨ cl7.slots.size ≤ ((0 : Int32)).toNatClampNeg) := inb_of S7 ⟨by decide, by decide⟩
  obtain ⟨T7, h7, X7, e7, W7, st7⟩ := stB X0 hx hZ e0 Ar7 (j := (0 : Int32)) hin7 (g := (mkF m 31 #[.val (.ref a), .val (.int (0 : Int32)), .val (.ref b), .val (.int (0 : Int32)), .val (.int (1 : Int32)), .val (.int (0 : Int32)), .val (.int ch0)] [(.int (ch0.toInt8.toInt32)), (.int (0 : Int32)), (.ref b)])) rfl rfl (hb hby d10_31)
  have F8 : Arv Z h7 b kb .byte (1 : Int32) [(.int ((ch0.toInt8.toInt32).toInt8.toInt32))] (.int (0 : Int32)) := Arv.set Ar7 q7 S7 M7 H7 G7 (fits_nar_byte _) W7 0 rfl (Nat.le_of_ble_eq_true rfl)
  have F9 := Aa.other W7 ne
  have Z7 : n0 ≤ h7.size := Nat.le_trans Z0 (Keep.of_wr W7).1
  have K7 : Keep h0 h7 [b] := K0.wr W7 (Or.inl (List.mem_of_getElem? (i := 0) rfl))
  have N7 := Fr.snoc X7 N0 g_b
  have k11 : ∀ t, Steps p.tables e below (T7.setTop (mkF m 32 #[.val (.ref a), .val (.int (0 : Int32)), .val (.ref b), .val (.int (0 : Int32)), .val (.int (1 : Int32)), .val (.int (0 : Int32)), .val (.int ch0)] [])) t → Steps p.tables e below (s₁.setTop (entryFrame m #[(.ref a), (.int (0 : Int32)), (.ref b), (.int (0 : Int32)), (.int (1 : Int32))] 7)) t := fun t kt => k6 t (st7 t kt)
  have hc7_12 : ¬ ((1 : Int32) < (1 : Int32)) := by decide
  have k13 : ∀ t, Steps p.tables e below (T7.setTop (mkF m 46 #[.val (.ref a), .val (.int (1 : Int32)), .val (.ref b), .val (.int (1 : Int32)), .val (.int (1 : Int32)), .val (.int (1 : Int32)), .val (.int ch0)] [(.int (1 : Int32))])) t → Steps p.tables e below (s₁.setTop (entryFrame m #[(.ref a), (.int (0 : Int32)), (.ref b), (.int (0 : Int32)), (.int (1 : Int32))] 7)) t := by
    intro t kt
    refine k11 t ?_
    show Steps p.tables e below (T7.setTop (mkF m 32 #[.val (.ref a), .val (.int (0 : Int32)), .val (.ref b), .val (.int (0 : Int32)), .val (.int (1 : Int32)), .val (.int (0 : Int32)), .val (.int ch0)] [])) t
    refine XS.iinc X7.here hx rfl (hb hby d10_32) rfl (l' := #[.val (.ref a), .val (.int (1 : Int32)), .val (.ref b), .val (.int (0 : Int32)), .val (.int (1 : Int32)), .val (.int (0 : Int32)), .val (.int ch0)]) rfl ?_
    show Steps p.tables e below (T7.setTop (mkF m 35 #[.val (.ref a), .val (.int (1 : Int32)), .val (.ref b), .val (.int (0 : Int32)), .val (.int (1 : Int32)), .val (.int (0 : Int32)), .val (.int ch0)] [])) t
    refine XS.iinc X7.here hx rfl (hb hby d10_35) rfl (l' := #[.val (.ref a), .val (.int (1 : Int32)), .val (.ref b), .val (.int (1 : Int32)), .val (.int (1 : Int32)), .val (.int (0 : Int32)), .val (.int ch0)]) rfl ?_
    show Steps p.tables e below (T7.setTop (mkF m 38 #[.val (.ref a), .val (.int (1 : Int32)), .val (.ref b), .val (.int (1 : Int32)), .val (.int (1 : Int32)), .val (.int (0 : Int32)), .val (.int ch0)] [])) t
    refine XS.iinc X7.here hx rfl (hb hby d10_38) rfl (l' := #[.val (.ref a), .val (.int (1 : Int32)), .val (.ref b), .val (.int (1 : Int32)), .val (.int (1 : Int32)), .val (.int (1 : Int32)), .val (.int ch0)]) rfl ?_
    show Steps p.tables e below (T7.setTop (mkF m 41 #[.val (.ref a), .val (.int (1 : Int32)), .val (.ref b), .val (.int (1 : Int32)), .val (.int (1 : Int32)), .val (.int (1 : Int32)), .val (.int ch0)] [])) t
    refine XS.goto X7.here hx rfl (pc0 := 41) (pc' := 3) rfl (hb hby d10_41) (by decide) (by decide) ?_
    show Steps p.tables e below (T7.setTop (mkF m 3 #[.val (.ref a), .val (.int (1 : Int32)), .val (.ref b), .val (.int (1 : Int32)), .val (.int (1 : Int32)), .val (.int (1 : Int32)), .val (.int ch0)] [])) t
    refine XS.iload X7.here hx rfl (hb hby d10_3) rfl ?_
    show Steps p.tables e below (T7.setTop (mkF m 5 #[.val (.ref a), .val (.int (1 : Int32)), .val (.ref b), .val (.int (1 : Int32)), .val (.int (1 : Int32)), .val (.int (1 : Int32)), .val (.int ch0)] [(.int (1 : Int32))])) t
    refine XS.iload X7.here hx rfl (hb hby d10_5) rfl ?_
    show Steps p.tables e below (T7.setTop (mkF m 7 #[.val (.ref a), .val (.int (1 : Int32)), .val (.ref b), .val (.int (1 : Int32)), .val (.int (1 : Int32)), .val (.int (1 : Int32)), .val (.int ch0)] [(.int (1 : Int32)), (.int (1 : Int32))])) t
    refine XS.icmpYes X7.here hx rfl (pc0 := 7) (pc' := 44) rfl (hb hby d10_7) rfl (flt hc7_12).2.1 (by decide) (by decide) ?_
    show Steps p.tables e below (T7.setTop (mkF m 44 #[.val (.ref a), .val (.int (1 : Int32)), .val (.ref b), .val (.int (1 : Int32)), .val (.int (1 : Int32)), .val (.int (1 : Int32)), .val (.int ch0)] [])) t
    refine XS.iload X7.here hx rfl (hb hby d10_44) rfl ?_
    exact kt
  obtain ⟨fs, hr, hrun, hended, hW, hsame⟩ := X7.leave (v := some (.int (1 : Int32))) (fun h => by rw [Bd.returns] at h; cases h)
  refine ⟨_, _, k13 _ ?_, hrun, hended, _, _, rfl, ?_, ⟨_, rfl⟩, hW, hsame.mono (by decide) (by decide)⟩
  · show Steps p.tables e below (T7.setTop (mkF m 46 #[.val (.ref a), .val (.int (1 : Int32)), .val (.ref b), .val (.int (1 : Int32)), .val (.int (1 : Int32)), .val (.int (1 : Int32)), .val (.int ch0)] [(.int (1 : Int32))])) _
    exact retI X7 hx Bd.returns (hb hby d10_46) hr
  · show QCmp1 Z a b ka kb ch0 h0 n0 _ T7.heap _
    rw [e7]
    exact ⟨rfl, N7, K7, by simp only [own_i2b] at F8; exact F8⟩
theorem d9_0 : decode jdk_52_method_16_code 0 = .ok (.iload_n 2, 1) := by decide +kernel
theorem d9_1 : decode jdk_52_method_16_code 1 = .ok (.newarray .byte, 2) := by decide +kernel
theorem d9_3 : decode jdk_52_method_16_code 3 = .ok (.astore_n 3, 1) := by decide +kernel
theorem d9_4 : decode jdk_52_method_16_code 4 = .ok (.aload_n 0, 1) := by decide +kernel
theorem d9_5 : decode jdk_52_method_16_code 5 = .ok (.iload_n 1, 1) := by decide +kernel
theorem d9_6 : decode jdk_52_method_16_code 6 = .ok (.aload_n 3, 1) := by decide +kernel
theorem d9_7 : decode jdk_52_method_16_code 7 = .ok (.iconst 0, 1) := by decide +kernel
theorem d9_8 : decode jdk_52_method_16_code 8 = .ok (.iload_n 2, 1) := by decide +kernel
theorem d9_9 : decode jdk_52_method_16_code 9 = .ok (.invokestatic 115, 3) := by decide +kernel
theorem d9_12 : decode jdk_52_method_16_code 12 = .ok (.istore 4, 2) := by decide +kernel
theorem d9_14 : decode jdk_52_method_16_code 14 = .ok (.iload 4, 2) := by decide +kernel
theorem d9_16 : decode jdk_52_method_16_code 16 = .ok (.iload_n 2, 1) := by decide +kernel
theorem d9_17 : decode jdk_52_method_16_code 17 = .ok (.if_icmp .eq 40, 3) := by decide +kernel
theorem d9_20 : decode jdk_52_method_16_code 20 = .ok (.aload_n 0, 1) := by decide +kernel
theorem d9_21 : decode jdk_52_method_16_code 21 = .ok (.iload_n 1, 1) := by decide +kernel
theorem d9_22 : decode jdk_52_method_16_code 22 = .ok (.iload_n 2, 1) := by decide +kernel
theorem d9_23 : decode jdk_52_method_16_code 23 = .ok (.invokestatic 119, 3) := by decide +kernel
theorem d9_26 : decode jdk_52_method_16_code 26 = .ok (.astore 5, 2) := by decide +kernel
theorem d9_28 : decode jdk_52_method_16_code 28 = .ok (.aload 5, 2) := by decide +kernel
theorem d9_30 : decode jdk_52_method_16_code 30 = .ok (.iload 4, 2) := by decide +kernel
theorem d9_32 : decode jdk_52_method_16_code 32 = .ok (.invokestatic 71, 3) := by decide +kernel
theorem d9_35 : decode jdk_52_method_16_code 35 = .ok (.sipush 255, 3) := by decide +kernel
theorem d9_38 : decode jdk_52_method_16_code 38 = .ok (.if_icmp .gt 16, 3) := by decide +kernel
theorem d9_41 : decode jdk_52_method_16_code 41 = .ok (.aload 5, 2) := by decide +kernel
theorem d9_43 : decode jdk_52_method_16_code 43 = .ok (.iconst 0, 1) := by decide +kernel
theorem d9_44 : decode jdk_52_method_16_code 44 = .ok (.aload_n 3, 1) := by decide +kernel
theorem d9_45 : decode jdk_52_method_16_code 45 = .ok (.iconst 0, 1) := by decide +kernel
theorem d9_46 : decode jdk_52_method_16_code 46 = .ok (.iload_n 2, 1) := by decide +kernel
theorem d9_47 : decode jdk_52_method_16_code 47 = .ok (.invokestatic 123, 3) := by decide +kernel
theorem d9_50 : decode jdk_52_method_16_code 50 = .ok (.iload_n 2, 1) := by decide +kernel
theorem d9_51 : decode jdk_52_method_16_code 51 = .ok (.if_icmp .eq 6, 3) := by decide +kernel
theorem d9_54 : decode jdk_52_method_16_code 54 = .ok (.aload 5, 2) := by decide +kernel
theorem d9_56 : decode jdk_52_method_16_code 56 = .ok (.areturn, 1) := by decide +kernel
theorem d9_57 : decode jdk_52_method_16_code 57 = .ok (.aload_n 3, 1) := by decide +kernel
theorem d9_58 : decode jdk_52_method_16_code 58 = .ok (.areturn, 1) := by decide +kernel
theorem rmCps1_ef (m : MethodId) (x0 : Addr) : entryFrame m #[(.ref x0), (.int (0 : Int32)), (.int (1 : Int32))] 6 = mkF m 0 #[.val (.ref x0), .val (.int (0 : Int32)), .val (.int (1 : Int32)), .unset, .unset, .unset] [] := by first | (simp [entryFrame, mkF, argsToLocals, Value.category]; done) | rfl
def QCps1 (Z : State) (a : Addr) (ka : ClassId) (ch0 : Int32) (h0 : Heap) (n0 : Nat) (v : Option Value) (h : Heap) (L : List Loc) : Prop := ∃ (b : Addr) (kb : ClassId), v = some (.ref b) ∧ Fr n0 L ∧ Keep h0 h [] ∧ h0.size ≤ b ∧ Arv Z h b kb .byte (1 : Int32) [(.int (ch0.toInt8.toInt32))] (.int (0 : Int32))
theorem own_pd0 : parseMethodDescriptor "([CI[BII)I" = some ⟨[(.array .char), .int, (.array .byte), .int, .int], some .int⟩ := by decide +kernel
set_option maxRecDepth 65536 in
set_option maxHeartbeats 40000000 in
theorem rmCps1 (l : Launch) (Z : State) (a0 : Array Value) (hw : ∀ d ∈ tables_1, d.before a0 Z = true) (ws : List Jvm.Cond) (a : Addr) (ka : ClassId) (ch0 : Int32) (h0 : Heap) (n0 : Nat) (Z0 : n0 ≤ h0.size) (Aa : Arv Z h0 a ka .char (1 : Int32) [(.int ch0)] (.int (0 : Int32))) (hch0 : ¬ ((255 : Int32) < ch0)) :
    MetFree l (⟨"java/lang/StringUTF16", "compress", "([CII)[B"⟩ : MethodName) (head1 (Jvm.Cond.code (⟨"java/lang/StringUTF16", "compress", "([CII)[B"⟩ : MethodName) jdk_52_method_16_code 6 (some (.array .byte)) :: ws) ({ frames := 1, cells := 1, slots := 1, locals := 18 } : Room)) (fun aA' U => aA' = #[(.ref a), (.int (0 : Int32)), (.int (1 : Int32))] ∧ Z.Warmed39 U.vm ∧ U.heap = h0) (fun _ _ _ _ _ => True) (fun _ U oO' U' => ∃ vV' L, oO' = .returned vV' ∧ QCps1 Z a ka ch0 h0 n0 vV' U'.heap L ∧ FrameEnd U oO' U' L ({ frames := 1, cells := 1, slots := 1, locals := 18 } : Room).cells ({ frames := 1, cells := 1, slots := 1, locals := 18 } : Room).slots) := by
  refine MetFree.of_bodySF (plainFor_of_name own_pn0) hisR ?_
  intro p e s m args below meth c s₁ Bd hml0 hP hK
  obtain ⟨rfl, hZ, hh⟩ := hP
  have hx := Bd.exec
  have hby := Bd.bytes
  have hml : c.maxLocals = 6 := hml0
  have hown : s.vm.findClass "java/lang/StringUTF16" = some m.cls := findClass_of_methodNamed Bd.named
  have hnm := (name_of_methodNamed Bd.named Bd.method).1
  have X0 : Stand p l e ({ frames := 1, cells := 1, slots := 1, locals := 18 } : Room) s m #[(.ref a), (.int (0 : Int32)), (.int (1 : Int32))] below meth c s₁ [] 0 0 := Stand.of_body Bd
  have e0 : s₁.heap = h0 := by rw [← hh, Bd.state]; rfl
  have N0 := Fr.nil n0
  have K0 : Keep h0 h0 [] := Keep.refl _ _
  have k0 : ∀ t, Steps p.tables e below (s₁.setTop (mkF m 0 #[.val (.ref a), .val (.int (0 : Int32)), .val (.int (1 : Int32)), .unset, .unset, .unset] [])) t → Steps p.tables e below (s₁.setTop (entryFrame m #[(.ref a), (.int (0 : Int32)), (.int (1 : Int32))] 6)) t := fun t k => castTop (rmCps1_ef m (a)) k
  have k1 : ∀ t, Steps p.tables e below (s₁.setTop (mkF m 1 #[.val (.ref a), .val (.int (0 : Int32)), .val (.int (1 : Int32)), .unset, .unset, .unset] [(.int (1 : Int32))])) t → Steps p.tables e below (s₁.setTop (entryFrame m #[(.ref a), (.int (0 : Int32)), (.int (1 : Int32))] 6)) t := by
    intro t kt
    refine k0 t ?_
    show Steps p.tables e below (s₁.setTop (mkF m 0 #[.val (.ref a), .val (.int (0 : Int32)), .val (.int (1 : Int32)), .unset, .unset, .unset] [])) t
    refine XS.iloadN X0.here hx rfl (hb hby d9_0) rfl ?_
    exact kt
  obtain ⟨T2, h2, c2, X2, e2, E2, A2, st2⟩ := newP X0 hx hZ (hw _ (List.mem_of_getElem? (i := 23) rfl)) e0 (g := (mkF m 1 #[.val (.ref a), .val (.int (0 : Int32)), .val (.int (1 : Int32)), .unset, .unset, .unset] [(.int (1 : Int32))])) rfl (hb hby d9_1) rfl (by decide) (cap := 1) (by decide) (by decide) (by decide) (by decide)
  obtain ⟨b2, g2⟩ : ∃ z, z = h0.size := ⟨_, rfl⟩
  rw [← g2] at A2 st2
  have g_b2 : n0 ≤ b2 := Nat.le_trans Z0 (Nat.le_of_eq g2.symm)
  have sz_b2 : h0.size ≤ b2 := Nat.le_trans K0.1 (Nat.le_of_eq g2.symm)
  have ne3 : a ≠ b2 := Nat.ne_of_lt (Nat.lt_of_lt_of_le Aa.lt (Nat.le_of_eq g2.symm))
  have F4 := Aa.ext E2
  have Z2 : n0 ≤ h2.size := Nat.le_trans Z0 E2.1
  have K2 : Keep h0 h2 [] := K0.ext E2
  have F5 : Arv Z h2 b2 c2 .byte (1 : Int32) [(.int (0 : Int32))] (.int (0 : Int32)) := (Arv.new A2 (by decide)).pad (pad_rep [] (.int (0 : Int32)) 1)
  have k6 : ∀ t, Steps p.tables e below (T2.setTop (mkF m 3 #[.val (.ref a), .val (.int (0 : Int32)), .val (.int (1 : Int32)), .unset, .unset, .unset] [(.ref b2)])) t → Steps p.tables e below (s₁.setTop (entryFrame m #[(.ref a), (.int (0 : Int32)), (.int (1 : Int32))] 6)) t := fun t kt => k1 t (st2 t kt)
  have k7 : ∀ t, Steps p.tables e below (T2.setTop (mkF m 9 #[.val (.ref a), .val (.int (0 : Int32)), .val (.int (1 : Int32)), .val (.ref b2), .unset, .unset] [(.int (1 : Int32)), (.int (0 : Int32)), (.ref b2), (.int (0 : Int32)), (.ref a)])) t → Steps p.tables e below (s₁.setTop (entryFrame m #[(.ref a), (.int (0 : Int32)), (.int (1 : Int32))] 6)) t := by
    intro t kt
    refine k6 t ?_
    show Steps p.tables e below (T2.setTop (mkF m 3 #[.val (.ref a), .val (.int (0 : Int32)), .val (.int (1 : Int32)), .unset, .unset, .unset] [(.ref b2)])) t
    refine XS.astoreN X2.here hx rfl (hb hby d9_3) rfl rfl (l' := #[.val (.ref a), .val (.int (0 : Int32)), .val (.int (1 : Int32)), .val (.ref b2), .unset, .unset]) rfl ?_
    show Steps p.tables e below (T2.setTop (mkF m 4 #[.val (.ref a), .val (.int (0 : Int32)), .val (.int (1 : Int32)), .val (.ref b2), .unset, .unset] [])) t
    refine XS.aloadN X2.here hx rfl (hb hby d9_4) rfl rfl ?_
    show Steps p.tables e below (T2.setTop (mkF m 5 #[.val (.ref a), .val (.int (0 : Int32)), .val (.int (1 : Int32)), .val (.ref b2), .unset, .unset] [(.ref a)])) t
    refine XS.iloadN X2.here hx rfl (hb hby d9_5) rfl ?_
    show Steps p.tables e below (T2.setTop (mkF m 6 #[.val (.ref a), .val (.int (0 : Int32)), .val (.int (1 : Int32)), .val (.ref b2), .unset, .unset] [(.int (0 : Int32)), (.ref a)])) t
    refine XS.aloadN X2.here hx rfl (hb hby d9_6) rfl rfl ?_
    show Steps p.tables e below (T2.setTop (mkF m 7 #[.val (.ref a), .val (.int (0 : Int32)), .val (.int (1 : Int32)), .val (.ref b2), .unset, .unset] [(.ref b2), (.int (0 : Int32)), (.ref a)])) t
    refine XS.iconst X2.here hx rfl (hb hby d9_7) ?_
    show Steps p.tables e below (T2.setTop (mkF m 8 #[.val (.ref a), .val (.int (0 : Int32)), .val (.int (1 : Int32)), .val (.ref b2), .unset, .unset] [(.int (0 : Int32)), (.ref b2), (.int (0 : Int32)), (.ref a)])) t
    refine XS.iloadN X2.here hx rfl (hb hby d9_8) rfl ?_
    exact kt
  obtain ⟨_, _, ⟨T8, L8, k8c, n8⟩, -, X8, ⟨Lc8, hQ8, l8, y8, z8⟩, st8⟩ := Jvm.LawKit.callS X2 hx (y := (⟨"java/lang/StringUTF16", "compress", "([CI[BII)I"⟩ : MethodName)) hown (mvT hZ (hw _ (List.mem_of_getElem? (i := 51) rfl))) (mvT hZ (hw _ (List.mem_of_getElem? (i := 52) rfl))) (mvT hZ (hw _ (List.mem_of_getElem? (i := 49) rfl))) (mvT hZ (hw _ (List.mem_of_getElem? (i := 53) rfl))) (by decide) (backOf (W := 0) (rmCmp1 l Z a0 hw [] a b2 ka c2 ch0 h2 n0 Z2 F4 F5 g_b2 ne3 hch0) hZ (hw _ (List.mem_of_getElem? (i := 53) rfl)) (hw _ (List.mem_of_getElem? (i := 49) rfl)) (by decide) (by decide)) (g := (mkF m 9 #[.val (.ref a), .val (.int (0 : Int32)), .val (.int (1 : Int32)), .val (.ref b2), .unset, .unset] [(.int (1 : Int32)), (.int (0 : Int32)), (.ref b2), (.int (0 : Int32)), (.ref a)])) rfl (by rw [hml]; rfl) (argsL := [(.ref a), (.int (0 : Int32)), (.ref b2), (.int (0 : Int32)), (.int (1 : Int32))]) (rest := []) (lenOf own_pd0 rfl) rfl (by show 2 * 0 + _ ≤ _; exact Nat.le_of_eq rfl) (hb hby d9_9) (fun _ _ => ⟨rfl, e2, (by decide : 1 + 0 ≤ _), (by decide : 1 + 0 ≤ _)⟩)
  dsimp only [Pt.U, Pt.locs, Pt.cells, Pt.slots] at X8 l8 y8 z8 st8 hQ8
  subst l8 y8 z8
  obtain ⟨rfl, N8q, K8k, A8⟩ := hQ8
  have N8 := Fr.app N0 N8q
  have F9 := F4.keep K8k (ninS ne3 nin0)
  have Z11 : n0 ≤ T8.heap.size := Nat.le_trans Z2 K8k.1
  have K11 : Keep h0 T8.heap [] := K2.trans K8k (allS (Or.inr sz_b2) all0)
  have k12 : ∀ t, Steps p.tables e below (T8.setTop (mkF m 12 #[.val (.ref a), .val (.int (0 : Int32)), .val (.int (1 : Int32)), .val (.ref b2), .unset, .unset] [(.int (1 : Int32))])) t → Steps p.tables e below (s₁.setTop (entryFrame m #[(.ref a), (.int (0 : Int32)), (.int (1 : Int32))] 6)) t := fun t kt => k7 t (st8 t kt)
  have k14 : ∀ t, Steps p.tables e below (T8.setTop (mkF m 17 #[.val (.ref a), .val (.int (0 : Int32)), .val (.int (1 : Int32)), .val (.ref b2), .val (.int (1 : Int32)), .unset] [(.int (1 : Int32)), (.int (1 : Int32))])) t → Steps p.tables e below (s₁.setTop (entryFrame m #[(.ref a), (.int (0 : Int32)), (.int (1 : Int32))] 6)) t := by
    intro t kt
    refine k12 t ?_
    show Steps p.tables e below (T8.setTop (mkF m 12 #[.val (.ref a), .val (.int (0 : Int32)), .val (.int (1 : Int32)), .val (.ref b2), .unset, .unset] [(.int (1 : Int32))])) t
    refine XS.istore X8.here hx rfl (hb hby d9_12) rfl (l' := #[.val (.ref a), .val (.int (0 : Int32)), .val (.int (1 : Int32)), .val (.ref b2), .val (.int (1 : Int32)), .unset]) rfl ?_
    show Steps p.tables e below (T8.setTop (mkF m 14 #[.val (.ref a), .val (.int (0 : Int32)), .val (.int (1 : Int32)), .val (.ref b2), .val (.int (1 : Int32)), .unset] [])) t
    refine XS.iload X8.here hx rfl (hb hby d9_14) rfl ?_
    show Steps p.tables e below (T8.setTop (mkF m 16 #[.val (.ref a), .val (.int (0 : Int32)), .val (.int (1 : Int32)), .val (.ref b2), .val (.int (1 : Int32)), .unset] [(.int (1 : Int32))])) t
    refine XS.iloadN X8.here hx rfl (hb hby d9_16) rfl ?_
    exact kt
  have hc17_13 : (1 : Int32) = (1 : Int32) := rfl
  have k15 : ∀ t, Steps p.tables e below (T8.setTop (mkF m 58 #[.val (.ref a), .val (.int (0 : Int32)), .val (.int (1 : Int32)), .val (.ref b2), .val (.int (1 : Int32)), .unset] [(.ref b2)])) t → Steps p.tables e below (s₁.setTop (entryFrame m #[(.ref a), (.int (0 : Int32)), (.int (1 : Int32))] 6)) t := by
    intro t kt
    refine k14 t ?_
    show Steps p.tables e below (T8.setTop (mkF m 17 #[.val (.ref a), .val (.int (0 : Int32)), .val (.int (1 : Int32)), .val (.ref b2), .val (.int (1 : Int32)), .unset] [(.int (1 : Int32)), (.int (1 : Int32))])) t
    refine XS.icmpYes X8.here hx rfl (pc0 := 17) (pc' := 57) rfl (hb hby d9_17) rfl (teq hc17_13).1 (by decide) (by decide) ?_
    show Steps p.tables e below (T8.setTop (mkF m 57 #[.val (.ref a), .val (.int (0 : Int32)), .val (.int (1 : Int32)), .val (.ref b2), .val (.int (1 : Int32)), .unset] [])) t
    refine XS.aloadN X8.here hx rfl (hb hby d9_57) rfl rfl ?_
    exact kt
  obtain ⟨fs, hr, hrun, hended, hW, hsame⟩ := X8.leave (v := some (.ref b2)) (fun h => by rw [Bd.returns] at h; cases h)
  refine ⟨_, _, k15 _ ?_, hrun, hended, _, _, rfl, ?_, ⟨_, rfl⟩, hW, hsame.mono (by decide) (by decide)⟩
  · show Steps p.tables e below (T8.setTop (mkF m 58 #[.val (.ref a), .val (.int (0 : Int32)), .val (.int (1 : Int32)), .val (.ref b2), .val (.int (1 : Int32)), .unset] [(.ref b2)])) _
    jvm_step X8.here [X8.here.top, hx, (hb hby d9_58), X8.method', Bd.returns, Value.isRef, FieldType.isReference]
    first | (intro acts; rw [hr _ acts rfl rfl rfl]) | rw [hr _ _ rfl rfl rfl]
    exact Steps.refl _
  · show QCps1 Z a ka ch0 h0 n0 _ T8.heap _
    exact ⟨b2, c2, rfl, N8, K11, sz_b2, A8⟩
theorem d11_0 : decode jdk_52_method_15_code 0 = .ok (.iload_n 1, 1) := by decide +kernel
theorem d11_1 : decode jdk_52_method_15_code 1 = .ok (.aload_n 0, 1) := by decide +kernel
theorem d11_2 : decode jdk_52_method_15_code 2 = .ok (.arraylength, 1) := by decide +kernel
theorem d11_3 : decode jdk_52_method_15_code 3 = .ok (.isub, 1) := by decide +kernel
theorem d11_4 : decode jdk_52_method_15_code 4 = .ok (.bipush 31, 2) := by decide +kernel
theorem d11_6 : decode jdk_52_method_15_code 6 = .ok (.iushr, 1) := by decide +kernel
theorem d11_7 : decode jdk_52_method_15_code 7 = .ok (.i2b, 1) := by decide +kernel
theorem d11_8 : decode jdk_52_method_15_code 8 = .ok (.ireturn, 1) := by decide +kernel
theorem rmCod1_ef (m : MethodId) (x0 : Addr) : entryFrame m #[(.ref x0), (.int (1 : Int32))] 2 = mkF m 0 #[.val (.ref x0), .val (.int (1 : Int32))] [] := by first | (simp [entryFrame, mkF, argsToLocals, Value.category]; done) | rfl
def QCod1 (Z : State) (b : Addr) (kb : ClassId) (vs : List Value) (h0 : Heap) (n0 : Nat) (v : Option Value) (h : Heap) (L : List Loc) : Prop := v = some (.int (0 : Int32)) ∧ Fr n0 L ∧ h = h0
set_option maxRecDepth 65536 in
set_option maxHeartbeats 40000000 in
theorem rmCod1 (l : Launch) (Z : State) (a0 : Array Value) (hw : ∀ d ∈ tables_1, d.before a0 Z = true) (ws : List Jvm.Cond) (b : Addr) (kb : ClassId) (vs : List Value) (h0 : Heap) (n0 : Nat) (Z0 : n0 ≤ h0.size) (Ab : Arv Z h0 b kb .byte (1 : Int32) vs (.int (0 : Int32))) :
    MetFree l (⟨"java/lang/StringUTF16", "coderFromArrayLen", "([BI)B"⟩ : MethodName) (head1 (Jvm.Cond.code (⟨"java/lang/StringUTF16", "coderFromArrayLen", "([BI)B"⟩ : MethodName) jdk_52_method_15_code 2 (some .byte) :: ws) ({ frames := 0, cells := 0, slots := 0, locals := 0 } : Room)) (fun aA' U => aA' = #[(.ref b), (.int (1 : Int32))] ∧ Z.Warmed39 U.vm ∧ U.heap = h0) (fun _ _ _ _ _ => True) (fun _ U oO' U' => ∃ vV' L, oO' = .returned vV' ∧ QCod1 Z b kb vs h0 n0 vV' U'.heap L ∧ FrameEnd U oO' U' L ({ frames := 0, cells := 0, slots := 0, locals := 0 } : Room).cells ({ frames := 0, cells := 0, slots := 0, locals := 0 } : Room).slots) := by
  refine MetFree.of_bodySF (plainFor_of_name own_pn0) hisR ?_
  intro p e s m args below meth c s₁ Bd hml0 hP hK
  obtain ⟨rfl, hZ, hh⟩ := hP
  have hx := Bd.exec
  have hby := Bd.bytes
  have hml : c.maxLocals = 2 := hml0
  have hown : s.vm.findClass "java/lang/StringUTF16" = some m.cls := findClass_of_methodNamed Bd.named
  have hnm := (name_of_methodNamed Bd.named Bd.method).1
  have X0 : Stand p l e ({ frames := 0, cells := 0, slots := 0, locals := 0 } : Room) s m #[(.ref b), (.int (1 : Int32))] below meth c s₁ [] 0 0 := Stand.of_body Bd
  have e0 : s₁.heap = h0 := by rw [← hh, Bd.state]; rfl
  have N0 := Fr.nil n0
  have K0 : Keep h0 h0 [] := Keep.refl _ _
  have k0 : ∀ t, Steps p.tables e below (s₁.setTop (mkF m 0 #[.val (.ref b), .val (.int (1 : Int32))] [])) t → Steps p.tables e below (s₁.setTop (entryFrame m #[(.ref b), (.int (1 : Int32))] 2)) t := fun t k => castTop (rmCod1_ef m (b)) k
  have k1 : ∀ t, Steps p.tables e below (s₁.setTop (mkF m 2 #[.val (.ref b), .val (.int (1 : Int32))] [(.ref b), (.int (1 : Int32))])) t → Steps p.tables e below (s₁.setTop (entryFrame m #[(.ref b), (.int (1 : Int32))] 2)) t := by
    intro t kt
    refine k0 t ?_
    show Steps p.tables e below (s₁.setTop (mkF m 0 #[.val (.ref b), .val (.int (1 : Int32))] [])) t
    refine XS.iloadN X0.here hx rfl (hb hby d11_0) rfl ?_
    show Steps p.tables e below (s₁.setTop (mkF m 1 #[.val (.ref b), .val (.int (1 : Int32))] [(.int (1 : Int32))])) t
    refine XS.aloadN X0.here hx rfl (hb hby d11_1) rfl rfl ?_
    exact kt
  obtain ⟨cl2, Ar2, -, S2, M2, -, -⟩ := id Ab
  have k3 : ∀ t, Steps p.tables e below (s₁.setTop (mkF m 3 #[.val (.ref b), .val (.int (1 : Int32))] [(.int (1 : Int32)), (.int (1 : Int32))])) t → Steps p.tables e below (s₁.setTop (entryFrame m #[(.ref b), (.int (1 : Int32))] 2)) t := fun t kt => k1 t (X0.arraylength hx (by rw [e0]; exact Ar2.1) (State.isArrayOf_alike hZ.alike Ar2.2.1) (g := (mkF m 2 #[.val (.ref b), .val (.int (1 : Int32))] [(.ref b), (.int (1 : Int32))])) rfl rfl (hb hby d11_2) t (by rw [len_of S2 M2]; exact kt))
  have k4 : ∀ t, Steps p.tables e below (s₁.setTop (mkF m 8 #[.val (.ref b), .val (.int (1 : Int32))] [(.int (((((1 : Int32) - (1 : Int32)).toUInt32 >>> ((31 : Int32) &&& 31).toUInt32).toInt32).toInt8.toInt32))])) t → Steps p.tables e below (s₁.setTop (entryFrame m #[(.ref b), (.int (1 : Int32))] 2)) t := by
    intro t kt
    refine k3 t ?_
    show Steps p.tables e below (s₁.setTop (mkF m 3 #[.val (.ref b), .val (.int (1 : Int32))] [(.int (1 : Int32)), (.int (1 : Int32))])) t
    refine XS.isub X0.here hx rfl (hb hby d11_3) rfl ?_
    show Steps p.tables e below (s₁.setTop (mkF m 4 #[.val (.ref b), .val (.int (1 : Int32))] [(.int ((1 : Int32) - (1 : Int32)))])) t
    refine XS.bipush X0.here hx rfl (hb hby d11_4) ?_
    show Steps p.tables e below (s₁.setTop (mkF m 6 #[.val (.ref b), .val (.int (1 : Int32))] [(.int (31 : Int32)), (.int ((1 : Int32) - (1 : Int32)))])) t
    refine XS.iushr X0.here hx rfl (hb hby d11_6) rfl ?_
    show Steps p.tables e below (s₁.setTop (mkF m 7 #[.val (.ref b), .val (.int (1 : Int32))] [(.int ((((1 : Int32) - (1 : Int32)).toUInt32 >>> ((31 : Int32) &&& 31).toUInt32).toInt32))])) t
    refine XS.i2b X0.here hx rfl (hb hby d11_7) rfl ?_
    exact kt
  obtain ⟨fs, hr, hrun, hended, hW, hsame⟩ := X0.leave (v := some (.int ((((((1 : Int32) - (1 : Int32)).toUInt32 >>> ((31 : Int32) &&& 31).toUInt32).toInt32).toInt8.toInt32).toInt8.toInt32))) (fun h => by rw [Bd.returns] at h; cases h)
  refine ⟨_, _, k4 _ ?_, hrun, hended, _, _, rfl, ?_, ⟨_, rfl⟩, hW, hsame.mono (by decide) (by decide)⟩
  · show Steps p.tables e below (s₁.setTop (mkF m 8 #[.val (.ref b), .val (.int (1 : Int32))] [(.int (((((1 : Int32) - (1 : Int32)).toUInt32 >>> ((31 : Int32) &&& 31).toUInt32).toInt32).toInt8.toInt32))])) _
    exact retN X0 hx (t := .byte) Bd.returns (by simp) (hb hby d11_8) hr
  · show QCod1 Z b kb vs h0 n0 _ s₁.heap _
    rw [e0]
    exact ⟨congrArg (fun z => some (Value.int z)) (by decide), N0, rfl⟩
theorem d4_0 : decode jdk_42_method_149_code 0 = .ok (.aload_n 0, 1) := by decide +kernel
theorem d4_1 : decode jdk_42_method_149_code 1 = .ok (.invokespecial 1, 3) := by decide +kernel
theorem d4_4 : decode jdk_42_method_149_code 4 = .ok (.iload_n 3, 1) := by decide +kernel
theorem d4_5 : decode jdk_42_method_149_code 5 = .ok (.ifCond .ne 22, 3) := by decide +kernel
theorem d4_8 : decode jdk_42_method_149_code 8 = .ok (.aload_n 0, 1) := by decide +kernel
theorem d4_9 : decode jdk_42_method_149_code 9 = .ok (.ldc 7, 2) := by decide +kernel
theorem d4_11 : decode jdk_42_method_149_code 11 = .ok (.getfield 9, 3) := by decide +kernel
theorem d4_14 : decode jdk_42_method_149_code 14 = .ok (.putfield 9, 3) := by decide +kernel
theorem d4_17 : decode jdk_42_method_149_code 17 = .ok (.aload_n 0, 1) := by decide +kernel
theorem d4_18 : decode jdk_42_method_149_code 18 = .ok (.ldc 7, 2) := by decide +kernel
theorem d4_20 : decode jdk_42_method_149_code 20 = .ok (.getfield 15, 3) := by decide +kernel
theorem d4_23 : decode jdk_42_method_149_code 23 = .ok (.putfield 15, 3) := by decide +kernel
theorem d4_26 : decode jdk_42_method_149_code 26 = .ok (.return_, 1) := by decide +kernel
theorem d4_27 : decode jdk_42_method_149_code 27 = .ok (.getstatic 38, 3) := by decide +kernel
theorem d4_30 : decode jdk_42_method_149_code 30 = .ok (.ifCond .eq 28, 3) := by decide +kernel
theorem d4_33 : decode jdk_42_method_149_code 33 = .ok (.aload_n 1, 1) := by decide +kernel
theorem d4_34 : decode jdk_42_method_149_code 34 = .ok (.iload_n 2, 1) := by decide +kernel
theorem d4_35 : decode jdk_42_method_149_code 35 = .ok (.iload_n 3, 1) := by decide +kernel
theorem d4_36 : decode jdk_42_method_149_code 36 = .ok (.invokestatic 177, 3) := by decide +kernel
theorem d4_39 : decode jdk_42_method_149_code 39 = .ok (.astore 5, 2) := by decide +kernel
theorem d4_41 : decode jdk_42_method_149_code 41 = .ok (.aload_n 0, 1) := by decide +kernel
theorem d4_42 : decode jdk_42_method_149_code 42 = .ok (.aload 5, 2) := by decide +kernel
theorem d4_44 : decode jdk_42_method_149_code 44 = .ok (.iload_n 3, 1) := by decide +kernel
theorem d4_45 : decode jdk_42_method_149_code 45 = .ok (.invokestatic 47, 3) := by decide +kernel
theorem d4_48 : decode jdk_42_method_149_code 48 = .ok (.putfield 15, 3) := by decide +kernel
theorem d4_51 : decode jdk_42_method_149_code 51 = .ok (.aload_n 0, 1) := by decide +kernel
theorem d4_52 : decode jdk_42_method_149_code 52 = .ok (.aload 5, 2) := by decide +kernel
theorem d4_54 : decode jdk_42_method_149_code 54 = .ok (.putfield 9, 3) := by decide +kernel
theorem d4_57 : decode jdk_42_method_149_code 57 = .ok (.return_, 1) := by decide +kernel
theorem d4_58 : decode jdk_42_method_149_code 58 = .ok (.aload_n 0, 1) := by decide +kernel
theorem d4_59 : decode jdk_42_method_149_code 59 = .ok (.iconst 1, 1) := by decide +kernel
theorem d4_60 : decode jdk_42_method_149_code 60 = .ok (.putfield 15, 3) := by decide +kernel
theorem d4_63 : decode jdk_42_method_149_code 63 = .ok (.aload_n 0, 1) := by decide +kernel
theorem d4_64 : decode jdk_42_method_149_code 64 = .ok (.aload_n 1, 1) := by decide +kernel
theorem d4_65 : decode jdk_42_method_149_code 65 = .ok (.iload_n 2, 1) := by decide +kernel
theorem d4_66 : decode jdk_42_method_149_code 66 = .ok (.iload_n 3, 1) := by decide +kernel
theorem d4_67 : decode jdk_42_method_149_code 67 = .ok (.invokestatic 180, 3) := by decide +kernel
theorem d4_70 : decode jdk_42_method_149_code 70 = .ok (.putfield 9, 3) := by decide +kernel
theorem d4_73 : decode jdk_42_method_149_code 73 = .ok (.return_, 1) := by decide +kernel
theorem own_pn1 : plainName "java/lang/String" = true := by first | (simp [plainName, overriddenIn]; done) | decide +kernel
theorem rmSv1_ef (m : MethodId) (x0 : Addr) (x1 : Addr) : entryFrame m #[(.ref x0), (.ref x1), (.int (0 : Int32)), (.int (1 : Int32)), .null] 6 = mkF m 0 #[.val (.ref x0), .val (.ref x1), .val (.int (0 : Int32)), .val (.int (1 : Int32)), .val .null, .unset] [] := by first | (simp [entryFrame, mkF, argsToLocals, Value.category]; done) | rfl
def QSv1 (Z : State) (ths : Addr) (a : Addr) (u : Value) (u' : Value) (ka : ClassId) (cs : Int32) (ch0 : Int32) (h0 : Heap) (n0 : Nat) (v : Option Value) (h : Heap) (L : List Loc) : Prop := v = none ∧ Fr n0 L ∧ Keep h0 h [ths] ∧ Exa Z h ths "java/lang/String" ∧ ∃ (b : Addr) (kb : ClassId), h0.size ≤ b ∧ Fld Z h ths "java/lang/String" "value" "[B" (.ref b) ∧ Fld Z h ths "java/lang/String" "coder" "B" (.int (0 : Int32)) ∧ Arv Z h b kb .byte (1 : Int32) [(.int (ch0.toInt8.toInt32))] (.int (0 : Int32))
theorem own_pd1 : parseMethodDescriptor "([CII)[B" = some ⟨[(.array .char), .int, .int], some (.array .byte)⟩ := by decide +kernel
theorem own_pd2 : parseMethodDescriptor "([BI)B" = some ⟨[(.array .byte), .int], some .byte⟩ := by decide +kernel
set_option maxRecDepth 65536 in
set_option maxHeartbeats 40000000 in
theorem rmSv1 (l : Launch) (Z : State) (a0 : Array Value) (hw : ∀ d ∈ tables_1, d.before a0 Z = true) (ws : List Jvm.Cond) (ths : Addr) (a : Addr) (u : Value) (u' : Value) (ka : ClassId) (cs : Int32) (ch0 : Int32) (h0 : Heap) (n0 : Nat) (Z0 : n0 ≤ h0.size) (Fv : Fld Z h0 ths "java/lang/String" "value" "[B" u) (Fc : Fld Z h0 ths "java/lang/String" "coder" "B" u') (Et : Exa Z h0 ths "java/lang/String") (g_t : n0 ≤ ths) (net : ths ≠ a) (Aa : Arv Z h0 a ka .char (1 : Int32) [(.int ch0)] (.int (0 : Int32))) (SC : Sta Z h0 "java/lang/String" "COMPACT_STRINGS" "Z" (.int cs)) (hcs : ¬ (cs = (0 : Int32))) (hch0 : ¬ ((255 : Int32) < ch0)) :
    MetFree l (⟨"java/lang/String", "<init>", "([CIILjava/lang/Void;)V"⟩ : MethodName) (head1 (Jvm.Cond.code (⟨"java/lang/String", "<init>", "([CIILjava/lang/Void;)V"⟩ : MethodName) jdk_42_method_149_code 6 none :: ws) ({ frames := 2, cells := 1, slots := 1, locals := 35 } : Room)) (fun aA' U => aA' = #[(.ref ths), (.ref a), (.int (0 : Int32)), (.int (1 : Int32)), .null] ∧ Z.Warmed39 U.vm ∧ U.heap = h0) (fun _ _ _ _ _ => True) (fun _ U oO' U' => ∃ vV' L, oO' = .returned vV' ∧ QSv1 Z ths a u u' ka cs ch0 h0 n0 vV' U'.heap L ∧ FrameEnd U oO' U' L ({ frames := 2, cells := 1, slots := 1, locals := 35 } : Room).cells ({ frames := 2, cells := 1, slots := 1, locals := 35 } : Room).slots) := by
  refine MetFree.of_bodySF (plainFor_of_name own_pn1) hisR ?_
  intro p e s m args below meth c s₁ Bd hml0 hP hK
  obtain ⟨rfl, hZ, hh⟩ := hP
  have hx := Bd.exec
  have hby := Bd.bytes
  have hml : c.maxLocals = 6 := hml0
  have hown : s.vm.findClass "java/lang/String" = some m.cls := findClass_of_methodNamed Bd.named
  have hnm := (name_of_methodNamed Bd.named Bd.method).1
  have X0 : Stand p l e ({ frames := 2, cells := 1, slots := 1, locals := 35 } : Room) s m #[(.ref ths), (.ref a), (.int (0 : Int32)), (.int (1 : Int32)), .null] below meth c s₁ [] 0 0 := Stand.of_body Bd
  have e0 : s₁.heap = h0 := by rw [← hh, Bd.state]; rfl
  have N0 := Fr.nil n0
  have K0 : Keep h0 h0 [ths] := Keep.refl _ _
  have k0 : ∀ t, Steps p.tables e below (s₁.setTop (mkF m 0 #[.val (.ref ths), .val (.ref a), .val (.int (0 : Int32)), .val (.int (1 : Int32)), .val .null, .unset] [])) t → Steps p.tables e below (s₁.setTop (entryFrame m #[(.ref ths), (.ref a), (.int (0 : Int32)), (.int (1 : Int32)), .null] 6)) t := fun t k => castTop (rmSv1_ef m (ths) (a)) k
  have k1 : ∀ t, Steps p.tables e below (s₁.setTop (mkF m 1 #[.val (.ref ths), .val (.ref a), .val (.int (0 : Int32)), .val (.int (1 : Int32)), .val .null, .unset] [(.ref ths)])) t → Steps p.tables e below (s₁.setTop (entryFrame m #[(.ref ths), (.ref a), (.int (0 : Int32)), (.int (1 : Int32)), .null] 6)) t := by
    intro t kt
    refine k0 t ?_
    show Steps p.tables e below (s₁.setTop (mkF m 0 #[.val (.ref ths), .val (.ref a), .val (.int (0 : Int32)), .val (.int (1 : Int32)), .val .null, .unset] [])) t
    refine XS.aloadN X0.here hx rfl (hb hby d4_0) rfl rfl ?_
    exact kt
  obtain ⟨T2, X2, e2, st2⟩ := initO X0 hx hZ hown (hw _ (List.mem_of_getElem? (i := 19) rfl)) (hw _ (List.mem_of_getElem? (i := 20) rfl)) (hw _ (List.mem_of_getElem? (i := 21) rfl)) e0 (g := (mkF m 1 #[.val (.ref ths), .val (.ref a), .val (.int (0 : Int32)), .val (.int (1 : Int32)), .val .null, .unset] [(.ref ths)])) rfl (by rw [hml]; rfl) rfl (hb hby d4_1) (by decide) (W := 0) (by show 2 * 0 + _ ≤ _; exact Nat.le_of_eq rfl) (by decide)
  have k3 : ∀ t, Steps p.tables e below (T2.setTop (mkF m 4 #[.val (.ref ths), .val (.ref a), .val (.int (0 : Int32)), .val (.int (1 : Int32)), .val .null, .unset] [])) t → Steps p.tables e below (s₁.setTop (entryFrame m #[(.ref ths), (.ref a), (.int (0 : Int32)), (.int (1 : Int32)), .null] 6)) t := fun t kt => k1 t (st2 t kt)
  have hc5_4 : ¬ ((1 : Int32) = (0 : Int32)) := by decide
  have k5 : ∀ t, Steps p.tables e below (T2.setTop (mkF m 27 #[.val (.ref ths), .val (.ref a), .val (.int (0 : Int32)), .val (.int (1 : Int32)), .val .null, .unset] [])) t → Steps p.tables e below (s₁.setTop (entryFrame m #[(.ref ths), (.ref a), (.int (0 : Int32)), (.int (1 : Int32)), .null] 6)) t := by
    intro t kt
    refine k3 t ?_
    show Steps p.tables e below (T2.setTop (mkF m 4 #[.val (.ref ths), .val (.ref a), .val (.int (0 : Int32)), .val (.int (1 : Int32)), .val .null, .unset] [])) t
    refine XS.iloadN X2.here hx rfl (hb hby d4_4) rfl ?_
    show Steps p.tables e below (T2.setTop (mkF m 5 #[.val (.ref ths), .val (.ref a), .val (.int (0 : Int32)), .val (.int (1 : Int32)), .val .null, .unset] [(.int (1 : Int32))])) t
    refine XS.ifYes X2.here hx rfl (pc0 := 5) (pc' := 27) rfl (hb hby d4_5) rfl ((if0 _ _).trans (feq hc5_4).2) (by decide) (by decide) ?_
    exact kt
  obtain ⟨T6, X6, e6, st6⟩ := getS2 X2 hx hZ hown (host := "") (Or.inl (hw _ (List.mem_of_getElem? (i := 41) rfl))) Via.refl e2 SC (g := (mkF m 27 #[.val (.ref ths), .val (.ref a), .val (.int (0 : Int32)), .val (.int (1 : Int32)), .val .null, .unset] [])) rfl (hb hby d4_27)
  have k7 : ∀ t, Steps p.tables e below (T6.setTop (mkF m 30 #[.val (.ref ths), .val (.ref a), .val (.int (0 : Int32)), .val (.int (1 : Int32)), .val .null, .unset] [(.int cs)])) t → Steps p.tables e below (s₁.setTop (entryFrame m #[(.ref ths), (.ref a), (.int (0 : Int32)), (.int (1 : Int32)), .null] 6)) t := fun t kt => k5 t (st6 t kt)
  have k9 : ∀ t, Steps p.tables e below (T6.setTop (mkF m 36 #[.val (.ref ths), .val (.ref a), .val (.int (0 : Int32)), .val (.int (1 : Int32)), .val .null, .unset] [(.int (1 : Int32)), (.int (0 : Int32)), (.ref a)])) t → Steps p.tables e below (s₁.setTop (entryFrame m #[(.ref ths), (.ref a), (.int (0 : Int32)), (.int (1 : Int32)), .null] 6)) t := by
    intro t kt
    refine k7 t ?_
    show Steps p.tables e below (T6.setTop (mkF m 30 #[.val (.ref ths), .val (.ref a), .val (.int (0 : Int32)), .val (.int (1 : Int32)), .val .null, .unset] [(.int cs)])) t
    refine XS.ifNo X6.here hx rfl (hb hby d4_30) rfl ((if0 _ _).trans (feq hcs).1) ?_
    show Steps p.tables e below (T6.setTop (mkF m 33 #[.val (.ref ths), .val (.ref a), .val (.int (0 : Int32)), .val (.int (1 : Int32)), .val .null, .unset] [])) t
    refine XS.aloadN X6.here hx rfl (hb hby d4_33) rfl rfl ?_
    show Steps p.tables e below (T6.setTop (mkF m 34 #[.val (.ref ths), .val (.ref a), .val (.int (0 : Int32)), .val (.int (1 : Int32)), .val .null, .unset] [(.ref a)])) t
    refine XS.iloadN X6.here hx rfl (hb hby d4_34) rfl ?_
    show Steps p.tables e below (T6.setTop (mkF m 35 #[.val (.ref ths), .val (.ref a), .val (.int (0 : Int32)), .val (.int (1 : Int32)), .val .null, .unset] [(.int (0 : Int32)), (.ref a)])) t
    refine XS.iloadN X6.here hx rfl (hb hby d4_35) rfl ?_
    exact kt
  obtain ⟨_, _, ⟨T10, L10, k10c, n10⟩, -, X10, ⟨Lc10, hQ10, l10, y10, z10⟩, st10⟩ := Jvm.LawKit.callS X6 hx (y := (⟨"java/lang/StringUTF16", "compress", "([CII)[B"⟩ : MethodName)) hown (mvT hZ (hw _ (List.mem_of_getElem? (i := 47) rfl))) (mvT hZ (hw _ (List.mem_of_getElem? (i := 48) rfl))) (mvT hZ (hw _ (List.mem_of_getElem? (i := 49) rfl))) (mvT hZ (hw _ (List.mem_of_getElem? (i := 50) rfl))) (by decide) (backOf (W := 0) (rmCps1 l Z a0 hw [] a ka ch0 h0 n0 Z0 Aa hch0) hZ (hw _ (List.mem_of_getElem? (i := 50) rfl)) (hw _ (List.mem_of_getElem? (i := 49) rfl)) (by decide) (by decide)) (g := (mkF m 36 #[.val (.ref ths), .val (.ref a), .val (.int (0 : Int32)), .val (.int (1 : Int32)), .val .null, .unset] [(.int (1 : Int32)), (.int (0 : Int32)), (.ref a)])) rfl (by rw [hml]; rfl) (argsL := [(.ref a), (.int (0 : Int32)), (.int (1 : Int32))]) (rest := []) (lenOf own_pd1 rfl) rfl (by show 2 * 0 + _ ≤ _; exact Nat.le_of_eq rfl) (hb hby d4_36) (fun _ _ => ⟨rfl, e6, (by decide : 0 + 1 ≤ _), (by decide : 0 + 1 ≤ _)⟩)
  dsimp only [Pt.U, Pt.locs, Pt.cells, Pt.slots] at X10 l10 y10 z10 st10 hQ10
  subst l10 y10 z10
  obtain ⟨b10, c10k, rfl, N10q, K10k, s10z, A10⟩ := hQ10
  have N10 := Fr.app N0 N10q
  have g_b10 : n0 ≤ b10 := Nat.le_trans Z0 s10z
  have sz_b10 : h0.size ≤ b10 := Nat.le_trans K0.1 s10z
  have ne11 : ths ≠ b10 := Nat.ne_of_lt (Nat.lt_of_lt_of_le Fv.lt s10z)
  have ne12 : a ≠ b10 := Nat.ne_of_lt (Nat.lt_of_lt_of_le Aa.lt s10z)
  have F13 := Fv.keep K10k nin0
  have F14 := Fc.keep K10k nin0
  have F15 := Et.keep K10k
  have F16 := Aa.keep K10k nin0
  have Z18 : n0 ≤ T10.heap.size := Nat.le_trans Z0 K10k.1
  have K18 : Keep h0 T10.heap [ths] := K0.trans K10k all0
  have k19 : ∀ t, Steps p.tables e below (T10.setTop (mkF m 39 #[.val (.ref ths), .val (.ref a), .val (.int (0 : Int32)), .val (.int (1 : Int32)), .val .null, .unset] [(.ref b10)])) t → Steps p.tables e below (s₁.setTop (entryFrame m #[(.ref ths), (.ref a), (.int (0 : Int32)), (.int (1 : Int32)), .null] 6)) t := fun t kt => k9 t (st10 t kt)
  have k20 : ∀ t, Steps p.tables e below (T10.setTop (mkF m 45 #[.val (.ref ths), .val (.ref a), .val (.int (0 : Int32)), .val (.int (1 : Int32)), .val .null, .val (.ref b10)] [(.int (1 : Int32)), (.ref b10), (.ref ths)])) t → Steps p.tables e below (s₁.setTop (entryFrame m #[(.ref ths), (.ref a), (.int (0 : Int32)), (.int (1 : Int32)), .null] 6)) t := by
    intro t kt
    refine k19 t ?_
    show Steps p.tables e below (T10.setTop (mkF m 39 #[.val (.ref ths), .val (.ref a), .val (.int (0 : Int32)), .val (.int (1 : Int32)), .val .null, .unset] [(.ref b10)])) t
    refine XS.astore X10.here hx rfl (hb hby d4_39) rfl rfl (l' := #[.val (.ref ths), .val (.ref a), .val (.int (0 : Int32)), .val (.int (1 : Int32)), .val .null, .val (.ref b10)]) rfl ?_
    show Steps p.tables e below (T10.setTop (mkF m 41 #[.val (.ref ths), .val (.ref a), .val (.int (0 : Int32)), .val (.int (1 : Int32)), .val .null, .val (.ref b10)] [])) t
    refine XS.aloadN X10.here hx rfl (hb hby d4_41) rfl rfl ?_
    show Steps p.tables e below (T10.setTop (mkF m 42 #[.val (.ref ths), .val (.ref a), .val (.int (0 : Int32)), .val (.int (1 : Int32)), .val .null, .val (.ref b10)] [(.ref ths)])) t
    refine XS.aload X10.here hx rfl (hb hby d4_42) rfl rfl ?_
    show Steps p.tables e below (T10.setTop (mkF m 44 #[.val (.ref ths), .val (.ref a), .val (.int (0 : Int32)), .val (.int (1 : Int32)), .val .null, .val (.ref b10)] [(.ref b10), (.ref ths)])) t
    refine XS.iloadN X10.here hx rfl (hb hby d4_44) rfl ?_
    exact kt
  obtain ⟨_, _, ⟨T21, L21, k21c, n21⟩, -, X21, ⟨Lc21, hQ21, l21, y21, z21⟩, st21⟩ := Jvm.LawKit.callS X10 hx (y := (⟨"java/lang/StringUTF16", "coderFromArrayLen", "([BI)B"⟩ : MethodName)) hown (mvT hZ (hw _ (List.mem_of_getElem? (i := 54) rfl))) (mvT hZ (hw _ (List.mem_of_getElem? (i := 55) rfl))) (mvT hZ (hw _ (List.mem_of_getElem? (i := 49) rfl))) (mvT hZ (hw _ (List.mem_of_getElem? (i := 56) rfl))) (by decide) (backOf (W := 1) (rmCod1 l Z a0 hw [] b10 c10k [(.int (ch0.toInt8.toInt32))] T10.heap n0 Z18 A10) hZ (hw _ (List.mem_of_getElem? (i := 56) rfl)) (hw _ (List.mem_of_getElem? (i := 49) rfl)) (by decide) (by decide)) (g := (mkF m 45 #[.val (.ref ths), .val (.ref a), .val (.int (0 : Int32)), .val (.int (1 : Int32)), .val .null, .val (.ref b10)] [(.int (1 : Int32)), (.ref b10), (.ref ths)])) rfl (by rw [hml]; rfl) (argsL := [(.ref b10), (.int (1 : Int32))]) (rest := [(.ref ths)]) (lenOf own_pd2 rfl) rfl (by show 2 * 0 + _ ≤ _; exact Nat.le_of_eq rfl) (hb hby d4_45) (fun _ _ => ⟨rfl, rfl, (by decide : 1 + 0 ≤ _), (by decide : 1 + 0 ≤ _)⟩)
  dsimp only [Pt.U, Pt.locs, Pt.cells, Pt.slots] at X21 l21 y21 z21 st21 hQ21
  subst l21 y21 z21
  obtain ⟨rfl, N21q, e21⟩ := hQ21
  have N21 := Fr.app N10 N21q
  have k22 : ∀ t, Steps p.tables e below (T21.setTop (mkF m 48 #[.val (.ref ths), .val (.ref a), .val (.int (0 : Int32)), .val (.int (1 : Int32)), .val .null, .val (.ref b10)] [(.int (0 : Int32)), (.ref ths)])) t → Steps p.tables e below (s₁.setTop (entryFrame m #[(.ref ths), (.ref a), (.int (0 : Int32)), (.int (1 : Int32)), .null] 6)) t := fun t kt => k20 t (st21 t kt)
  obtain ⟨T23, h23, X23, e23, W23, st23⟩ := putFN X21 hx hZ hown (hw _ (List.mem_of_getElem? (i := 29) rfl)) Via.refl e21 F14 F15 (Or.inr ⟨(hw _ (List.mem_of_getElem? (i := 25) rfl)), rfl, hnm⟩) (hw _ (List.mem_of_getElem? (i := 9) rfl)) (ty := .byte) (v' := (.int (0 : Int32))) (by decide) rfl (by decide) (g := (mkF m 48 #[.val (.ref ths), .val (.ref a), .val (.int (0 : Int32)), .val (.int (1 : Int32)), .val .null, .val (.ref b10)] [(.int (0 : Int32)), (.ref ths)])) rfl rfl (hb hby d4_48)
  have F24 := F13.other W23 (Or.inr (slot_ne (Or.inr (hw _ (List.mem_of_getElem? (i := 24) rfl))) (Or.inr (hw _ (List.mem_of_getElem? (i := 25) rfl))) (by decide) (t := (.array .byte)) (t' := .byte) (by decide) (by decide)))
  have F25 := F14.same W23
  have F26 := F15.wr W23
  have F27 := F16.other W23 (Ne.symm net)
  have F28 := A10.other W23 (Ne.symm ne11)
  have Z23 : n0 ≤ h23.size := Nat.le_trans Z18 (Keep.of_wr W23).1
  have K23 : Keep h0 h23 [ths] := K18.wr W23 (Or.inl (List.mem_of_getElem? (i := 0) rfl))
  have N23 := Fr.snoc X23 N21 g_t
  have k29 : ∀ t, Steps p.tables e below (T23.setTop (mkF m 51 #[.val (.ref ths), .val (.ref a), .val (.int (0 : Int32)), .val (.int (1 : Int32)), .val .null, .val (.ref b10)] [])) t → Steps p.tables e below (s₁.setTop (entryFrame m #[(.ref ths), (.ref a), (.int (0 : Int32)), (.int (1 : Int32)), .null] 6)) t := fun t kt => k22 t (st23 t kt)
  have k30 : ∀ t, Steps p.tables e below (T23.setTop (mkF m 54 #[.val (.ref ths), .val (.ref a), .val (.int (0 : Int32)), .val (.int (1 : Int32)), .val .null, .val (.ref b10)] [(.ref b10), (.ref ths)])) t → Steps p.tables e below (s₁.setTop (entryFrame m #[(.ref ths), (.ref a), (.int (0 : Int32)), (.int (1 : Int32)), .null] 6)) t := by
    intro t kt
    refine k29 t ?_
    show Steps p.tables e below (T23.setTop (mkF m 51 #[.val (.ref ths), .val (.ref a), .val (.int (0 : Int32)), .val (.int (1 : Int32)), .val .null, .val (.ref b10)] [])) t
    refine XS.aloadN X23.here hx rfl (hb hby d4_51) rfl rfl ?_
    show Steps p.tables e below (T23.setTop (mkF m 52 #[.val (.ref ths), .val (.ref a), .val (.int (0 : Int32)), .val (.int (1 : Int32)), .val .null, .val (.ref b10)] [(.ref ths)])) t
    refine XS.aload X23.here hx rfl (hb hby d4_52) rfl rfl ?_
    exact kt
  obtain ⟨T31, h31, X31, e31, W31, st31⟩ := putF X23 hx hZ hown (host := "") (Or.inl (hw _ (List.mem_of_getElem? (i := 28) rfl))) Via.refl e23 F24 F26 (Or.inr ⟨(hw _ (List.mem_of_getElem? (i := 24) rfl)), rfl, hnm⟩) (hw _ (List.mem_of_getElem? (i := 9) rfl)) (ty := (.array .byte)) (by decide) rfl rfl (g := (mkF m 54 #[.val (.ref ths), .val (.ref a), .val (.int (0 : Int32)), .val (.int (1 : Int32)), .val .null, .val (.ref b10)] [(.ref b10), (.ref ths)])) rfl rfl (hb hby d4_54)
  have F32 := F24.same W31
  have F33 := F25.other W31 (Or.inr (slot_ne (Or.inr (hw _ (List.mem_of_getElem? (i := 25) rfl))) (Or.inr (hw _ (List.mem_of_getElem? (i := 24) rfl))) (by decide) (t := .byte) (t' := (.array .byte)) (by decide) (by decide)))
  have F34 := F26.wr W31
  have F35 := F27.other W31 (Ne.symm net)
  have F36 := F28.other W31 (Ne.symm ne11)
  have Z31 : n0 ≤ h31.size := Nat.le_trans Z23 (Keep.of_wr W31).1
  have K31 : Keep h0 h31 [ths] := K23.wr W31 (Or.inl (List.mem_of_getElem? (i := 0) rfl))
  have N31 := Fr.snoc X31 N23 g_t
  have k37 : ∀ t, Steps p.tables e below (T31.setTop (mkF m 57 #[.val (.ref ths), .val (.ref a), .val (.int (0 : Int32)), .val (.int (1 : Int32)), .val .null, .val (.ref b10)] [])) t → Steps p.tables e below (s₁.setTop (entryFrame m #[(.ref ths), (.ref a), (.int (0 : Int32)), (.int (1 : Int32)), .null] 6)) t := fun t kt => k30 t (st31 t kt)
  obtain ⟨fs, hr, hrun, hended, hW, hsame⟩ := X31.leave (v := none) (fun _ => rfl)
  refine ⟨_, _, k37 _ ?_, hrun, hended, _, _, rfl, ?_, ⟨_, rfl⟩, hW, hsame.mono (by decide) (by decide)⟩
  · show Steps p.tables e below (T31.setTop (mkF m 57 #[.val (.ref ths), .val (.ref a), .val (.int (0 : Int32)), .val (.int (1 : Int32)), .val .null, .val (.ref b10)] [])) _
    exact X31.returnOut hx Bd.returns (hb hby d4_57) hr
  · show QSv1 Z ths a u u' ka cs ch0 h0 n0 _ T31.heap _
    rw [e31]
    exact ⟨rfl, N31, K31, F34, b10, c10k, sz_b10, F32, F33, F36⟩
theorem d3_0 : decode jdk_42_method_3_code 0 = .ok (.aload_n 0, 1) := by decide +kernel
theorem d3_1 : decode jdk_42_method_3_code 1 = .ok (.aload_n 1, 1) := by decide +kernel
theorem d3_2 : decode jdk_42_method_3_code 2 = .ok (.iconst 0, 1) := by decide +kernel
theorem d3_3 : decode jdk_42_method_3_code 3 = .ok (.aload_n 1, 1) := by decide +kernel
theorem d3_4 : decode jdk_42_method_3_code 4 = .ok (.arraylength, 1) := by decide +kernel
theorem d3_5 : decode jdk_42_method_3_code 5 = .ok (.aconst_null, 1) := by decide +kernel
theorem d3_6 : decode jdk_42_method_3_code 6 = .ok (.invokespecial 27, 3) := by decide +kernel
theorem d3_9 : decode jdk_42_method_3_code 9 = .ok (.return_, 1) := by decide +kernel
theorem rmSi1_ef (m : MethodId) (x0 : Addr) (x1 : Addr) : entryFrame m #[(.ref x0), (.ref x1)] 2 = mkF m 0 #[.val (.ref x0), .val (.ref x1)] [] := by first | (simp [entryFrame, mkF, argsToLocals, Value.category]; done) | rfl
def QSi1 (Z : State) (ths : Addr) (a : Addr) (u : Value) (u' : Value) (ka : ClassId) (cs : Int32) (ch0 : Int32) (h0 : Heap) (n0 : Nat) (v : Option Value) (h : Heap) (L : List Loc) : Prop := v = none ∧ Fr n0 L ∧ Keep h0 h [ths] ∧ Exa Z h ths "java/lang/String" ∧ ∃ (b : Addr) (kb : ClassId), h0.size ≤ b ∧ Fld Z h ths "java/lang/String" "value" "[B" (.ref b) ∧ Fld Z h ths "java/lang/String" "coder" "B" (.int (0 : Int32)) ∧ Arv Z h b kb .byte (1 : Int32) [(.int (ch0.toInt8.toInt32))] (.int (0 : Int32))
theorem own_pd3 : parseMethodDescriptor "([CIILjava/lang/Void;)V" = some ⟨[(.array .char), .int, .int, (.object "java/lang/Void")], none⟩ := by decide +kernel
set_option maxRecDepth 65536 in
set_option maxHeartbeats 40000000 in
theorem rmSi1 (l : Launch) (Z : State) (a0 : Array Value) (hw : ∀ d ∈ tables_1, d.before a0 Z = true) (ws : List Jvm.Cond) (ths : Addr) (a : Addr) (u : Value) (u' : Value) (ka : ClassId) (cs : Int32) (ch0 : Int32) (h0 : Heap) (n0 : Nat) (Z0 : n0 ≤ h0.size) (Fv : Fld Z h0 ths "java/lang/String" "value" "[B" u) (Fc : Fld Z h0 ths "java/lang/String" "coder" "B" u') (Et : Exa Z h0 ths "java/lang/String") (g_t : n0 ≤ ths) (net : ths ≠ a) (Aa : Arv Z h0 a ka .char (1 : Int32) [(.int ch0)] (.int (0 : Int32))) (SC : Sta Z h0 "java/lang/String" "COMPACT_STRINGS" "Z" (.int cs)) (hcs : ¬ (cs = (0 : Int32))) (hch0 : ¬ ((255 : Int32) < ch0)) :
    MetFree l (⟨"java/lang/String", "<init>", "([C)V"⟩ : MethodName) (head1 (Jvm.Cond.code (⟨"java/lang/String", "<init>", "([C)V"⟩ : MethodName) jdk_42_method_3_code 2 none :: ws) ({ frames := 3, cells := 1, slots := 1, locals := 52 } : Room)) (fun aA' U => aA' = #[(.ref ths), (.ref a)] ∧ Z.Warmed39 U.vm ∧ U.heap = h0) (fun _ _ _ _ _ => True) (fun _ U oO' U' => ∃ vV' L, oO' = .returned vV' ∧ QSi1 Z ths a u u' ka cs ch0 h0 n0 vV' U'.heap L ∧ FrameEnd U oO' U' L ({ frames := 3, cells := 1, slots := 1, locals := 52 } : Room).cells ({ frames := 3, cells := 1, slots := 1, locals := 52 } : Room).slots) := by
  refine MetFree.of_bodySF (plainFor_of_name own_pn1) hisR ?_
  intro p e s m args below meth c s₁ Bd hml0 hP hK
  obtain ⟨rfl, hZ, hh⟩ := hP
  have hx := Bd.exec
  have hby := Bd.bytes
  have hml : c.maxLocals = 2 := hml0
  have hown : s.vm.findClass "java/lang/String" = some m.cls := findClass_of_methodNamed Bd.named
  have hnm := (name_of_methodNamed Bd.named Bd.method).1
  have X0 : Stand p l e ({ frames := 3, cells := 1, slots := 1, locals := 52 } : Room) s m #[(.ref ths), (.ref a)] below meth c s₁ [] 0 0 := Stand.of_body Bd
  have e0 : s₁.heap = h0 := by rw [← hh, Bd.state]; rfl
  have N0 := Fr.nil n0
  have K0 : Keep h0 h0 [ths] := Keep.refl _ _
  have k0 : ∀ t, Steps p.tables e below (s₁.setTop (mkF m 0 #[.val (.ref ths), .val (.ref a)] [])) t → Steps p.tables e below (s₁.setTop (entryFrame m #[(.ref ths), (.ref a)] 2)) t := fun t k => castTop (rmSi1_ef m (ths) (a)) k
  have k1 : ∀ t, Steps p.tables e below (s₁.setTop (mkF m 4 #[.val (.ref ths), .val (.ref a)] [(.ref a), (.int (0 : Int32)), (.ref a), (.ref ths)])) t → Steps p.tables e below (s₁.setTop (entryFrame m #[(.ref ths), (.ref a)] 2)) t := by
    intro t kt
    refine k0 t ?_
    show Steps p.tables e below (s₁.setTop (mkF m 0 #[.val (.ref ths), .val (.ref a)] [])) t
    refine XS.aloadN X0.here hx rfl (hb hby d3_0) rfl rfl ?_
    show Steps p.tables e below (s₁.setTop (mkF m 1 #[.val (.ref ths), .val (.ref a)] [(.ref ths)])) t
    refine XS.aloadN X0.here hx rfl (hb hby d3_1) rfl rfl ?_
    show Steps p.tables e below (s₁.setTop (mkF m 2 #[.val (.ref ths), .val (.ref a)] [(.ref a), (.ref ths)])) t
    refine XS.iconst X0.here hx rfl (hb hby d3_2) ?_
    show Steps p.tables e below (s₁.setTop (mkF m 3 #[.val (.ref ths), .val (.ref a)] [(.int (0 : Int32)), (.ref a), (.ref ths)])) t
    refine XS.aloadN X0.here hx rfl (hb hby d3_3) rfl rfl ?_
    exact kt
  obtain ⟨cl2, Ar2, -, S2, M2, -, -⟩ := id Aa
  have k3 : ∀ t, Steps p.tables e below (s₁.setTop (mkF m 5 #[.val (.ref ths), .val (.ref a)] [(.int (1 : Int32)), (.int (0 : Int32)), (.ref a), (.ref ths)])) t → Steps p.tables e below (s₁.setTop (entryFrame m #[(.ref ths), (.ref a)] 2)) t := fun t kt => k1 t (X0.arraylength hx (by rw [e0]; exact Ar2.1) (State.isArrayOf_alike hZ.alike Ar2.2.1) (g := (mkF m 4 #[.val (.ref ths), .val (.ref a)] [(.ref a), (.int (0 : Int32)), (.ref a), (.ref ths)])) rfl rfl (hb hby d3_4) t (by rw [len_of S2 M2]; exact kt))
  have k4 : ∀ t, Steps p.tables e below (s₁.setTop (mkF m 6 #[.val (.ref ths), .val (.ref a)] [.null, (.int (1 : Int32)), (.int (0 : Int32)), (.ref a), (.ref ths)])) t → Steps p.tables e below (s₁.setTop (entryFrame m #[(.ref ths), (.ref a)] 2)) t := by
    intro t kt
    refine k3 t ?_
    show Steps p.tables e below (s₁.setTop (mkF m 5 #[.val (.ref ths), .val (.ref a)] [(.int (1 : Int32)), (.int (0 : Int32)), (.ref a), (.ref ths)])) t
    refine XS.aconstNull X0.here hx rfl (hb hby d3_5) ?_
    exact kt
  obtain ⟨_, _, ⟨T5, L5, k5c, n5⟩, -, X5, ⟨Lc5, hQ5, l5, y5, z5⟩, st5⟩ := X0.specialBack hx (y := (⟨"java/lang/String", "<init>", "([CIILjava/lang/Void;)V"⟩ : MethodName)) rfl hown (mvT hZ (hw _ (List.mem_of_getElem? (i := 15) rfl))) (mvT hZ (hw _ (List.mem_of_getElem? (i := 16) rfl))) (mvT hZ (hw _ (List.mem_of_getElem? (i := 18) rfl))) (by decide) (backOf (W := 0) (rmSv1 l Z a0 hw [] ths a u u' ka cs ch0 h0 n0 Z0 Fv Fc Et g_t net Aa SC hcs hch0) hZ (hw _ (List.mem_of_getElem? (i := 18) rfl)) (hw _ (List.mem_of_getElem? (i := 10) rfl)) (by decide) (by decide)) (g := (mkF m 6 #[.val (.ref ths), .val (.ref a)] [.null, (.int (1 : Int32)), (.int (0 : Int32)), (.ref a), (.ref ths)])) rfl (by rw [hml]; rfl) (Steps.refl _) (a := ths) (argsL := [(.ref a), (.int (0 : Int32)), (.int (1 : Int32)), .null]) (rest := []) (lenOf own_pd3 rfl) rfl (by show 2 * 0 + _ ≤ _; exact Nat.le_of_eq rfl) (hb hby d3_6) (fun _ _ => ⟨rfl, e0, (by decide : 0 + 1 ≤ _), (by decide : 0 + 1 ≤ _)⟩)
  dsimp only [Pt.U, Pt.locs, Pt.cells, Pt.slots] at X5 l5 y5 z5 st5 hQ5
  subst l5 y5 z5
  obtain ⟨rfl, N5q, K5k, E5t, b5, c5k, s5z, Fv5, Fc5, A5⟩ := hQ5
  have N5 := Fr.app N0 N5q
  have g_b5 : n0 ≤ b5 := Nat.le_trans Z0 s5z
  have sz_b5 : h0.size ≤ b5 := Nat.le_trans K0.1 s5z
  have ne6 : ths ≠ b5 := Nat.ne_of_lt (Nat.lt_of_lt_of_le Fv.lt s5z)
  have ne7 : a ≠ b5 := Nat.ne_of_lt (Nat.lt_of_lt_of_le Aa.lt s5z)
  have F10 := Et.keep K5k
  have F11 := Aa.keep K5k (ninS (Ne.symm net) nin0)
  have Z13 : n0 ≤ T5.heap.size := Nat.le_trans Z0 K5k.1
  have K13 : Keep h0 T5.heap [ths] := K0.trans K5k (allS (Or.inl (List.mem_of_getElem? (i := 0) rfl)) all0)
  have k14 : ∀ t, Steps p.tables e below (T5.setTop (mkF m 9 #[.val (.ref ths), .val (.ref a)] [])) t → Steps p.tables e below (s₁.setTop (entryFrame m #[(.ref ths), (.ref a)] 2)) t := fun t kt => k4 t (st5.trans kt)
  obtain ⟨fs, hr, hrun, hended, hW, hsame⟩ := X5.leave (v := none) (fun _ => rfl)
  refine ⟨_, _, k14 _ ?_, hrun, hended, _, _, rfl, ?_, ⟨_, rfl⟩, hW, hsame.mono (by decide) (by decide)⟩
  · show Steps p.tables e below (T5.setTop (mkF m 9 #[.val (.ref ths), .val (.ref a)] [])) _
    exact X5.returnOut hx Bd.returns (hb hby d3_9) hr
  · show QSi1 Z ths a u u' ka cs ch0 h0 n0 _ T5.heap _
    exact ⟨rfl, N5, K13, F10, b5, c5k, sz_b5, Fv5, Fc5, A5⟩
theorem rmCmp2_ef (m : MethodId) (x0 : Addr) (x2 : Addr) : entryFrame m #[(.ref x0), (.int (0 : Int32)), (.ref x2), (.int (0 : Int32)), (.int (2 : Int32))] 7 = mkF m 0 #[.val (.ref x0), .val (.int (0 : Int32)), .val (.ref x2), .val (.int (0 : Int32)), .val (.int (2 : Int32)), .unset, .unset] [] := by first | (simp [entryFrame, mkF, argsToLocals, Value.category]; done) | rfl
def QCmp2 (Z : State) (a : Addr) (b : Addr) (ka : ClassId) (kb : ClassId) (ch0 : Int32) (ch1 : Int32) (h0 : Heap) (n0 : Nat) (v : Option Value) (h : Heap) (L : List Loc) : Prop := v = some (.int (2 : Int32)) ∧ Fr n0 L ∧ Keep h0 h [b] ∧ Arv Z h b kb .byte (2 : Int32) [(.int (ch0.toInt8.toInt32)), (.int (ch1.toInt8.toInt32))] (.int (0 : Int32))
set_option maxRecDepth 65536 in
set_option maxHeartbeats 40000000 in
theorem rmCmp2 (l : Launch) (Z : State) (a0 : Array Value) (hw : ∀ d ∈ tables_1, d.before a0 Z = true) (ws : List Jvm.Cond) (a : Addr) (b : Addr) (ka : ClassId) (kb : ClassId) (ch0 : Int32) (ch1 : Int32) (h0 : Heap) (n0 : Nat) (Z0 : n0 ≤ h0.size) (Aa : Arv Z h0 a ka .char (2 : Int32) [(.int ch0), (.int ch1)] (.int (0 : Int32))) (Ab : Arv Z h0 b kb .byte (2 : Int32) [(.int (0 : Int32)), (.int (0 : Int32))] (.int (0 : Int32))) (g_b : n0 ≤ b) (ne : a ≠ b) (hch0 : ¬ ((255 : Int32) < ch0)) (hch1 : ¬ ((255 : Int32) < ch1)) :
    MetFree l (⟨"java/lang/StringUTF16", "compress", "([CI[BII)I"⟩ : MethodName) (head1 (Jvm.Cond.code (⟨"java/lang/StringUTF16", "compress", "([CI[BII)I"⟩ : MethodName) jdk_52_method_21_code 7 (some .int) :: ws) ({ frames := 0, cells := 0, slots := 0, locals := 0 } : Room)) (fun aA' U => aA' = #[(.ref a), (.int (0 : Int32)), (.ref b), (.int (0 : Int32)), (.int (2 : Int32))] ∧ Z.Warmed39 U.vm ∧ U.heap = h0) (fun _ _ _ _ _ => True) (fun _ U oO' U' => ∃ vV' L, oO' = .returned vV' ∧ QCmp2 Z a b ka kb ch0 ch1 h0 n0 vV' U'.heap L ∧ FrameEnd U oO' U' L ({ frames := 0, cells := 0, slots := 0, locals := 0 } : Room).cells ({ frames := 0, cells := 0, slots := 0, locals := 0 } : Room).slots) := by
  refine MetFree.of_bodySF (plainFor_of_name own_pn0) hisR ?_
  intro p e s m args below meth c s₁ Bd hml0 hP hK
  obtain ⟨rfl, hZ, hh⟩ := hP
  have hx := Bd.exec
  have hby := Bd.bytes
  have hml : c.maxLocals = 7 := hml0
  have hown : s.vm.findClass "java/lang/StringUTF16" = some m.cls := findClass_of_methodNamed Bd.named
  have hnm := (name_of_methodNamed Bd.named Bd.method).1
  have X0 : Stand p l e ({ frames := 0, cells := 0, slots := 0, locals := 0 } : Room) s m #[(.ref a), (.int (0 : Int32)), (.ref b), (.int (0 : Int32)), (.int (2 : Int32))] below meth c s₁ [] 0 0 := Stand.of_body Bd
  have e0 : s₁.heap = h0 := by rw [← hh, Bd.state]; rfl
  have N0 := Fr.nil n0
  have K0 : Keep h0 h0 [b] := Keep.refl _ _
  have k0 : ∀ t, Steps p.tables e below (s₁.setTop (mkF m 0 #[.val (.ref a), .val (.int (0 : Int32)), .val (.ref b), .val (.int (0 : Int32)), .val (.int (2 : Int32)), .unset, .unset] [])) t → Steps p.tables e below (s₁.setTop (entryFrame m #[(.ref a), (.int (0 : Int32)), (.ref b), (.int (0 : Int32)), (.int (2 : Int32))] 7)) t := fun t k => castTop (rmCmp2_ef m (a) (b)) k
  have hc7_1 : (0 : Int32) < (2 : Int32) := by decide
  have k2 : ∀ t, Steps p.tables e below (s₁.setTop (mkF m 12 #[.val (.ref a), .val (.int (0 : Int32)), .val (.ref b), .val (.int (0 : Int32)), .val (.int (2 : Int32)), .val (.int (0 : Int32)), .unset] [(.int (0 : Int32)), (.ref a)])) t → Steps p.tables e below (s₁.setTop (entryFrame m #[(.ref a), (.int (0 : Int32)), (.ref b), (.int (0 : Int32)), (.int (2 : Int32))] 7)) t := by
    intro t kt
    refine k0 t ?_
    show Steps p.tables e below (s₁.setTop (mkF m 0 #[.val (.ref a), .val (.int (0 : Int32)), .val (.ref b), .val (.int (0 : Int32)), .val (.int (2 : Int32)), .unset, .unset] [])) t
    refine XS.iconst X0.here hx rfl (hb hby d10_0) ?_
    show Steps p.tables e below (s₁.setTop (mkF m 1 #[.val (.ref a), .val (.int (0 : Int32)), .val (.ref b), .val (.int (0 : Int32)), .val (.int (2 : Int32)), .unset, .unset] [(.int (0 : Int32))])) t
    refine XS.istore X0.here hx rfl (hb hby d10_1) rfl (l' := #[.val (.ref a), .val (.int (0 : Int32)), .val (.ref b), .val (.int (0 : Int32)), .val (.int (2 : Int32)), .val (.int (0 : Int32)), .unset]) rfl ?_
    show Steps p.tables e below (s₁.setTop (mkF m 3 #[.val (.ref a), .val (.int (0 : Int32)), .val (.ref b), .val (.int (0 : Int32)), .val (.int (2 : Int32)), .val (.int (0 : Int32)), .unset] [])) t
    refine XS.iload X0.here hx rfl (hb hby d10_3) rfl ?_
    show Steps p.tables e below (s₁.setTop (mkF m 5 #[.val (.ref a), .val (.int (0 : Int32)), .val (.ref b), .val (.int (0 : Int32)), .val (.int (2 : Int32)), .val (.int (0 : Int32)), .unset] [(.int (0 : Int32))])) t
    refine XS.iload X0.here hx rfl (hb hby d10_5) rfl ?_
    show Steps p.tables e below (s₁.setTop (mkF m 7 #[.val (.ref a), .val (.int (0 : Int32)), .val (.ref b), .val (.int (0 : Int32)), .val (.int (2 : Int32)), .val (.int (0 : Int32)), .unset] [(.int (2 : Int32)), (.int (0 : Int32))])) t
    refine XS.icmpNo X0.here hx rfl (hb hby d10_7) rfl (tlt hc7_1).2.1 ?_
    show Steps p.tables e below (s₁.setTop (mkF m 10 #[.val (.ref a), .val (.int (0 : Int32)), .val (.ref b), .val (.int (0 : Int32)), .val (.int (2 : Int32)), .val (.int (0 : Int32)), .unset] [])) t
    refine XS.aloadN X0.here hx rfl (hb hby d10_10) rfl rfl ?_
    show Steps p.tables e below (s₁.setTop (mkF m 11 #[.val (.ref a), .val (.int (0 : Int32)), .val (.ref b), .val (.int (0 : Int32)), .val (.int (2 : Int32)), .val (.int (0 : Int32)), .unset] [(.ref a)])) t
    refine XS.iloadN X0.here hx rfl (hb hby d10_11) rfl ?_
    exact kt
  obtain ⟨cl3, Ar3, q3, S3, M3, H3, G3⟩ := id Aa
  have hin3 : ¬ ((0 : Int32) < 0 ∨ cl3.slots.size ≤ ((0 : Int32)).toNatClampNeg) := inb_of S3 ⟨by decide, by decide⟩
  have hat3 : cl3.slots[((0 : Int32)).toNatClampNeg]? = some (.int ch0) := Has.at H3 hin3 rfl
  have k4 : ∀ t, Steps p.tables e below (s₁.setTop (mkF m 13 #[.val (.ref a), .val (.int (0 : Int32)), .val (.ref b), .val (.int (0 : Int32)), .val (.int (2 : Int32)), .val (.int (0 : Int32)), .unset] [(.int ch0)])) t → Steps p.tables e below (s₁.setTop (entryFrame m #[(.ref a), (.int (0 : Int32)), (.ref b), (.int (0 : Int32)), (.int (2 : Int32))] 7)) t := fun t kt => k2 t (X0.caload hx (j := (0 : Int32)) (v := (.int ch0)) (by rw [e0]; exact Ar3.1) (State.isArrayOf_alike hZ.alike Ar3.2.1) Ar3.2.2 hin3 hat3 (g := (mkF m 12 #[.val (.ref a), .val (.int (0 : Int32)), .val (.ref b), .val (.int (0 : Int32)), .val (.int (2 : Int32)), .val (.int (0 : Int32)), .unset] [(.int (0 : Int32)), (.ref a)])) rfl rfl (hb hby d10_12) t kt)
  have k6 : ∀ t, Steps p.tables e below (s₁.setTop (mkF m 31 #[.val (.ref a), .val (.int (0 : Int32)), .val (.ref b), .val (.int (0 : Int32)), .val (.int (2 : Int32)), .val (.int (0 : Int32)), .val (.int ch0)] [(.int (ch0.toInt8.toInt32)), (.int (0 : Int32)), (.ref b)])) t → Steps p.tables e below (s₁.setTop (entryFrame m #[(.ref a), (.int (0 : Int32)), (.ref b), (.int (0 : Int32)), (.int (2 : Int32))] 7)) t := by
    intro t kt
    refine k4 t ?_
    show Steps p.tables e below (s₁.setTop (mkF m 13 #[.val (.ref a), .val (.int (0 : Int32)), .val (.ref b), .val (.int (0 : Int32)), .val (.int (2 : Int32)), .val (.int (0 : Int32)), .unset] [(.int ch0)])) t
    refine XS.istore X0.here hx rfl (hb hby d10_13) rfl (l' := #[.val (.ref a), .val (.int (0 : Int32)), .val (.ref b), .val (.int (0 : Int32)), .val (.int (2 : Int32)), .val (.int (0 : Int32)), .val (.int ch0)]) rfl ?_
    show Steps p.tables e below (s₁.setTop (mkF m 15 #[.val (.ref a), .val (.int (0 : Int32)), .val (.ref b), .val (.int (0 : Int32)), .val (.int (2 : Int32)), .val (.int (0 : Int32)), .val (.int ch0)] [])) t
    refine XS.iload X0.here hx rfl (hb hby d10_15) rfl ?_
    show Steps p.tables e below (s₁.setTop (mkF m 17 #[.val (.ref a), .val (.int (0 : Int32)), .val (.ref b), .val (.int (0 : Int32)), .val (.int (2 : Int32)), .val (.int (0 : Int32)), .val (.int ch0)] [(.int ch0)])) t
    refine XS.sipush X0.here hx rfl (hb hby d10_17) ?_
    show Steps p.tables e below (s₁.setTop (mkF m 20 #[.val (.ref a), .val (.int (0 : Int32)), .val (.ref b), .val (.int (0 : Int32)), .val (.int (2 : Int32)), .val (.int (0 : Int32)), .val (.int ch0)] [(.int (255 : Int32)), (.int ch0)])) t
    refine XS.icmpYes X0.here hx rfl (pc0 := 20) (pc' := 26) rfl (hb hby d10_20) rfl (flt hch0).2.2.2 (by decide) (by decide) ?_
    show Steps p.tables e below (s₁.setTop (mkF m 26 #[.val (.ref a), .val (.int (0 : Int32)), .val (.ref b), .val (.int (0 : Int32)), .val (.int (2 : Int32)), .val (.int (0 : Int32)), .val (.int ch0)] [])) t
    refine XS.aloadN X0.here hx rfl (hb hby d10_26) rfl rfl ?_
    show Steps p.tables e below (s₁.setTop (mkF m 27 #[.val (.ref a), .val (.int (0 : Int32)), .val (.ref b), .val (.int (0 : Int32)), .val (.int (2 : Int32)), .val (.int (0 : Int32)), .val (.int ch0)] [(.ref b)])) t
    refine XS.iloadN X0.here hx rfl (hb hby d10_27) rfl ?_
    show Steps p.tables e below (s₁.setTop (mkF m 28 #[.val (.ref a), .val (.int (0 : Int32)), .val (.ref b), .val (.int (0 : Int32)), .val (.int (2 : Int32)), .val (.int (0 : Int32)), .val (.int ch0)] [(.int (0 : Int32)), (.ref b)])) t
    refine XS.iload X0.here hx rfl (hb hby d10_28) rfl ?_
    show Steps p.tables e below (s₁.setTop (mkF m 30 #[.val (.ref a), .val (.int (0 : Int32)), .val (.ref b), .val (.int (0 : Int32)), .val (.int (2 : Int32)), .val (.int (0 : Int32)), .val (.int ch0)] [(.int ch0), (.int (0 : Int32)), (.ref b)])) t
    refine XS.i2b X0.here hx rfl (hb hby d10_30) rfl ?_
    exact kt
  obtain ⟨cl7, Ar7, q7, S7, M7, H7, G7⟩ := id Ab
  have hin7 : ¬ ((0 : Int32) < 0 ∨ cl7.slots.size ≤ ((0 : Int32)).toNatClampNeg) := inb_of S7 ⟨by decide, by decide⟩
  obtain ⟨T7, h7, X7, e7, W7, st7⟩ := stB X0 hx hZ e0 Ar7 (j := (0 : Int32)) hin7 (g := (mkF m 31 #[.val (.ref a), .val (.int (0 : Int32)), .val (.ref b), .val (.int (0 : Int32)), .val (.int (2 : Int32)), .val (.int (0 : Int32)), .val (.int ch0)] [(.int (ch0.toInt8.toInt32)), (.int (0 : Int32)), (.ref b)])) rfl rfl (hb hby d10_31)
  have F8 : Arv Z h7 b kb .byte (2 : Int32) [(.int ((ch0.toInt8.toInt32).toInt8.toInt32)), (.int (0 : Int32))] (.int (0 : Int32)) := Arv.set Ar7 q7 S7 M7 H7 G7 (fits_nar_byte _) W7 0 rfl (Nat.le_of_ble_eq_true rfl)
  have F9 := Aa.other W7 ne
  have Z7 : n0 ≤ h7.size := Nat.le_trans Z0 (Keep.of_wr W7).1
  have K7 : Keep h0 h7 [b] := K0.wr W7 (Or.inl (List.mem_of_getElem? (i := 0) rfl))
  have N7 := Fr.snoc X7 N0 g_b
  have k11 : ∀ t, Steps p.tables e below (T7.setTop (mkF m 32 #[.val (.ref a), .val (.int (0 : Int32)), .val (.ref b), .val (.int (0 : Int32)), .val (.int (2 : Int32)), .val (.int (0 : Int32)), .val (.int ch0)] [])) t → Steps p.tables e below (s₁.setTop (entryFrame m #[(.ref a), (.int (0 : Int32)), (.ref b), (.int (0 : Int32)), (.int (2 : Int32))] 7)) t := fun t kt => k6 t (st7 t kt)
  have hc7_12 : (1 : Int32) < (2 : Int32) := by decide
  have k13 : ∀ t, Steps p.tables e below (T7.setTop (mkF m 12 #[.val (.ref a), .val (.int (1 : Int32)), .val (.ref b), .val (.int (1 : Int32)), .val (.int (2 : Int32)), .val (.int (1 : Int32)), .val (.int ch0)] [(.int (1 : Int32)), (.ref a)])) t → Steps p.tables e below (s₁.setTop (entryFrame m #[(.ref a), (.int (0 : Int32)), (.ref b), (.int (0 : Int32)), (.int (2 : Int32))] 7)) t := by
    intro t kt
    refine k11 t ?_
    show Steps p.tables e below (T7.setTop (mkF m 32 #[.val (.ref a), .val (.int (0 : Int32)), .val (.ref b), .val (.int (0 : Int32)), .val (.int (2 : Int32)), .val (.int (0 : Int32)), .val (.int ch0)] [])) t
    refine XS.iinc X7.here hx rfl (hb hby d10_32) rfl (l' := #[.val (.ref a), .val (.int (1 : Int32)), .val (.ref b), .val (.int (0 : Int32)), .val (.int (2 : Int32)), .val (.int (0 : Int32)), .val (.int ch0)]) rfl ?_
    show Steps p.tables e below (T7.setTop (mkF m 35 #[.val (.ref a), .val (.int (1 : Int32)), .val (.ref b), .val (.int (0 : Int32)), .val (.int (2 : Int32)), .val (.int (0 : Int32)), .val (.int ch0)] [])) t
    refine XS.iinc X7.here hx rfl (hb hby d10_35) rfl (l' := #[.val (.ref a), .val (.int (1 : Int32)), .val (.ref b), .val (.int (1 : Int32)), .val (.int (2 : Int32)), .val (.int (0 : Int32)), .val (.int ch0)]) rfl ?_
    show Steps p.tables e below (T7.setTop (mkF m 38 #[.val (.ref a), .val (.int (1 : Int32)), .val (.ref b), .val (.int (1 : Int32)), .val (.int (2 : Int32)), .val (.int (0 : Int32)), .val (.int ch0)] [])) t
    refine XS.iinc X7.here hx rfl (hb hby d10_38) rfl (l' := #[.val (.ref a), .val (.int (1 : Int32)), .val (.ref b), .val (.int (1 : Int32)), .val (.int (2 : Int32)), .val (.int (1 : Int32)), .val (.int ch0)]) rfl ?_
    show Steps p.tables e below (T7.setTop (mkF m 41 #[.val (.ref a), .val (.int (1 : Int32)), .val (.ref b), .val (.int (1 : Int32)), .val (.int (2 : Int32)), .val (.int (1 : Int32)), .val (.int ch0)] [])) t
    refine XS.goto X7.here hx rfl (pc0 := 41) (pc' := 3) rfl (hb hby d10_41) (by decide) (by decide) ?_
    show Steps p.tables e below (T7.setTop (mkF m 3 #[.val (.ref a), .val (.int (1 : Int32)), .val (.ref b), .val (.int (1 : Int32)), .val (.int (2 : Int32)), .val (.int (1 : Int32)), .val (.int ch0)] [])) t
    refine XS.iload X7.here hx rfl (hb hby d10_3) rfl ?_
    show Steps p.tables e below (T7.setTop (mkF m 5 #[.val (.ref a), .val (.int (1 : Int32)), .val (.ref b), .val (.int (1 : Int32)), .val (.int (2 : Int32)), .val (.int (1 : Int32)), .val (.int ch0)] [(.int (1 : Int32))])) t
    refine XS.iload X7.here hx rfl (hb hby d10_5) rfl ?_
    show Steps p.tables e below (T7.setTop (mkF m 7 #[.val (.ref a), .val (.int (1 : Int32)), .val (.ref b), .val (.int (1 : Int32)), .val (.int (2 : Int32)), .val (.int (1 : Int32)), .val (.int ch0)] [(.int (2 : Int32)), (.int (1 : Int32))])) t
    refine XS.icmpNo X7.here hx rfl (hb hby d10_7) rfl (tlt hc7_12).2.1 ?_
    show Steps p.tables e below (T7.setTop (mkF m 10 #[.val (.ref a), .val (.int (1 : Int32)), .val (.ref b), .val (.int (1 : Int32)), .val (.int (2 : Int32)), .val (.int (1 : Int32)), .val (.int ch0)] [])) t
    refine XS.aloadN X7.here hx rfl (hb hby d10_10) rfl rfl ?_
    show Steps p.tables e below (T7.setTop (mkF m 11 #[.val (.ref a), .val (.int (1 : Int32)), .val (.ref b), .val (.int (1 : Int32)), .val (.int (2 : Int32)), .val (.int (1 : Int32)), .val (.int ch0)] [(.ref a)])) t
    refine XS.iloadN X7.here hx rfl (hb hby d10_11) rfl ?_
    exact kt
  obtain ⟨cl14, Ar14, q14, S14, M14, H14, G14⟩ := id F9
  have hin14 : ¬ ((1 : Int32) < 0 ∨ cl14.slots.size ≤ ((1 : Int32)).toNatClampNeg) := inb_of S14 ⟨by decide, by decide⟩
  have hat14 : cl14.slots[((1 : Int32)).toNatClampNeg]? = some (.int ch1) := Has.at H14 hin14 rfl
  have k15 : ∀ t, Steps p.tables e below (T7.setTop (mkF m 13 #[.val (.ref a), .val (.int (1 : Int32)), .val (.ref b), .val (.int (1 : Int32)), .val (.int (2 : Int32)), .val (.int (1 : Int32)), .val (.int ch0)] [(.int ch1)])) t → Steps p.tables e below (s₁.setTop (entryFrame m #[(.ref a), (.int (0 : Int32)), (.ref b), (.int (0 : Int32)), (.int (2 : Int32))] 7)) t := fun t kt => k13 t (X7.caload hx (j := (1 : Int32)) (v := (.int ch1)) (by rw [e7]; exact Ar14.1) (State.isArrayOf_alike hZ.alike Ar14.2.1) Ar14.2.2 hin14 hat14 (g := (mkF m 12 #[.val (.ref a), .val (.int (1 : Int32)), .val (.ref b), .val (.int (1 : Int32)), .val (.int (2 : Int32)), .val (.int (1 : Int32)), .val (.int ch0)] [(.int (1 : Int32)), (.ref a)])) rfl rfl (hb hby d10_12) t kt)
  have k17 : ∀ t, Steps p.tables e below (T7.setTop (mkF m 31 #[.val (.ref a), .val (.int (1 : Int32)), .val (.ref b), .val (.int (1 : Int32)), .val (.int (2 : Int32)), .val (.int (1 : Int32)), .val (.int ch1)] [(.int (ch1.toInt8.toInt32)), (.int (1 : Int32)), (.ref b)])) t → Steps p.tables e below (s₁.setTop (entryFrame m #[(.ref a), (.int (0 : Int32)), (.ref b), (.int (0 : Int32)), (.int (2 : Int32))] 7)) t := by
    intro t kt
    refine k15 t ?_
    show Steps p.tables e below (T7.setTop (mkF m 13 #[.val (.ref a), .val (.int (1 : Int32)), .val (.ref b), .val (.int (1 : Int32)), .val (.int (2 : Int32)), .val (.int (1 : Int32)), .val (.int ch0)] [(.int ch1)])) t
    refine XS.istore X7.here hx rfl (hb hby d10_13) rfl (l' := #[.val (.ref a), .val (.int (1 : Int32)), .val (.ref b), .val (.int (1 : Int32)), .val (.int (2 : Int32)), .val (.int (1 : Int32)), .val (.int ch1)]) rfl ?_
    show Steps p.tables e below (T7.setTop (mkF m 15 #[.val (.ref a), .val (.int (1 : Int32)), .val (.ref b), .val (.int (1 : Int32)), .val (.int (2 : Int32)), .val (.int (1 : Int32)), .val (.int ch1)] [])) t
    refine XS.iload X7.here hx rfl (hb hby d10_15) rfl ?_
    show Steps p.tables e below (T7.setTop (mkF m 17 #[.val (.ref a), .val (.int (1 : Int32)), .val (.ref b), .val (.int (1 : Int32)), .val (.int (2 : Int32)), .val (.int (1 : Int32)), .val (.int ch1)] [(.int ch1)])) t
    refine XS.sipush X7.here hx rfl (hb hby d10_17) ?_
    show Steps p.tables e below (T7.setTop (mkF m 20 #[.val (.ref a), .val (.int (1 : Int32)), .val (.ref b), .val (.int (1 : Int32)), .val (.int (2 : Int32)), .val (.int (1 : Int32)), .val (.int ch1)] [(.int (255 : Int32)), (.int ch1)])) t
    refine XS.icmpYes X7.here hx rfl (pc0 := 20) (pc' := 26) rfl (hb hby d10_20) rfl (flt hch1).2.2.2 (by decide) (by decide) ?_
    show Steps p.tables e below (T7.setTop (mkF m 26 #[.val (.ref a), .val (.int (1 : Int32)), .val (.ref b), .val (.int (1 : Int32)), .val (.int (2 : Int32)), .val (.int (1 : Int32)), .val (.int ch1)] [])) t
    refine XS.aloadN X7.here hx rfl (hb hby d10_26) rfl rfl ?_
    show Steps p.tables e below (T7.setTop (mkF m 27 #[.val (.ref a), .val (.int (1 : Int32)), .val (.ref b), .val (.int (1 : Int32)), .val (.int (2 : Int32)), .val (.int (1 : Int32)), .val (.int ch1)] [(.ref b)])) t
    refine XS.iloadN X7.here hx rfl (hb hby d10_27) rfl ?_
    show Steps p.tables e below (T7.setTop (mkF m 28 #[.val (.ref a), .val (.int (1 : Int32)), .val (.ref b), .val (.int (1 : Int32)), .val (.int (2 : Int32)), .val (.int (1 : Int32)), .val (.int ch1)] [(.int (1 : Int32)), (.ref b)])) t
    refine XS.iload X7.here hx rfl (hb hby d10_28) rfl ?_
    show Steps p.tables e below (T7.setTop (mkF m 30 #[.val (.ref a), .val (.int (1 : Int32)), .val (.ref b), .val (.int (1 : Int32)), .val (.int (2 : Int32)), .val (.int (1 : Int32)), .val (.int ch1)] [(.int ch1), (.int (1 : Int32)), (.ref b)])) t
    refine XS.i2b X7.here hx rfl (hb hby d10_30) rfl ?_
    exact kt
  obtain ⟨cl18, Ar18, q18, S18, M18, H18, G18⟩ := id F8
  have hin18 : ¬ ((1 : Int32) < 0 ∨ cl18.slots.size ≤ ((1 : Int32)).toNatClampNeg) := inb_of S18 ⟨by decide, by decide⟩
  obtain ⟨T18, h18, X18, e18, W18, st18⟩ := stB X7 hx hZ e7 Ar18 (j := (1 : Int32)) hin18 (g := (mkF m 31 #[.val (.ref a), .val (.int (1 : Int32)), .val (.ref b), .val (.int (1 : Int32)), .val (.int (2 : Int32)), .val (.int (1 : Int32)), .val (.int ch1)] [(.int (ch1.toInt8.toInt32)), (.int (1 : Int32)), (.ref b)])) rfl rfl (hb hby d10_31)
  have F19 : Arv Z h18 b kb .byte (2 : Int32) [(.int ((ch0.toInt8.toInt32).toInt8.toInt32)), (.int ((ch1.toInt8.toInt32).toInt8.toInt32))] (.int (0 : Int32)) := Arv.set Ar18 q18 S18 M18 H18 G18 (fits_nar_byte _) W18 1 rfl (Nat.le_of_ble_eq_true rfl)
  have F20 := F9.other W18 ne
  have Z18 : n0 ≤ h18.size := Nat.le_trans Z7 (Keep.of_wr W18).1
  have K18 : Keep h0 h18 [b] := K7.wr W18 (Or.inl (List.mem_of_getElem? (i := 0) rfl))
  have N18 := Fr.snoc X18 N7 g_b
  have k22 : ∀ t, Steps p.tables e below (T18.setTop (mkF m 32 #[.val (.ref a), .val (.int (1 : Int32)), .val (.ref b), .val (.int (1 : Int32)), .val (.int (2 : Int32)), .val (.int (1 : Int32)), .val (.int ch1)] [])) t → Steps p.tables e below (s₁.setTop (entryFrame m #[(.ref a), (.int (0 : Int32)), (.ref b), (.int (0 : Int32)), (.int (2 : Int32))] 7)) t := fun t kt => k17 t (st18 t kt)
  have hc7_23 : ¬ ((2 : Int32) < (2 : Int32)) := by decide
  have k24 : ∀ t, Steps p.tables e below (T18.setTop (mkF m 46 #[.val (.ref a), .val (.int (2 : Int32)), .val (.ref b), .val (.int (2 : Int32)), .val (.int (2 : Int32)), .val (.int (2 : Int32)), .val (.int ch1)] [(.int (2 : Int32))])) t → Steps p.tables e below (s₁.setTop (entryFrame m #[(.ref a), (.int (0 : Int32)), (.ref b), (.int (0 : Int32)), (.int (2 : Int32))] 7)) t := by
    intro t kt
    refine k22 t ?_
    show Steps p.tables e below (T18.setTop (mkF m 32 #[.val (.ref a), .val (.int (1 : Int32)), .val (.ref b), .val (.int (1 : Int32)), .val (.int (2 : Int32)), .val (.int (1 : Int32)), .val (.int ch1)] [])) t
    refine XS.iinc X18.here hx rfl (hb hby d10_32) rfl (l' := #[.val (.ref a), .val (.int (2 : Int32)), .val (.ref b), .val (.int (1 : Int32)), .val (.int (2 : Int32)), .val (.int (1 : Int32)), .val (.int ch1)]) rfl ?_
    show Steps p.tables e below (T18.setTop (mkF m 35 #[.val (.ref a), .val (.int (2 : Int32)), .val (.ref b), .val (.int (1 : Int32)), .val (.int (2 : Int32)), .val (.int (1 : Int32)), .val (.int ch1)] [])) t
    refine XS.iinc X18.here hx rfl (hb hby d10_35) rfl (l' := #[.val (.ref a), .val (.int (2 : Int32)), .val (.ref b), .val (.int (2 : Int32)), .val (.int (2 : Int32)), .val (.int (1 : Int32)), .val (.int ch1)]) rfl ?_
    show Steps p.tables e below (T18.setTop (mkF m 38 #[.val (.ref a), .val (.int (2 : Int32)), .val (.ref b), .val (.int (2 : Int32)), .val (.int (2 : Int32)), .val (.int (1 : Int32)), .val (.int ch1)] [])) t
    refine XS.iinc X18.here hx rfl (hb hby d10_38) rfl (l' := #[.val (.ref a), .val (.int (2 : Int32)), .val (.ref b), .val (.int (2 : Int32)), .val (.int (2 : Int32)), .val (.int (2 : Int32)), .val (.int ch1)]) rfl ?_
    show Steps p.tables e below (T18.setTop (mkF m 41 #[.val (.ref a), .val (.int (2 : Int32)), .val (.ref b), .val (.int (2 : Int32)), .val (.int (2 : Int32)), .val (.int (2 : Int32)), .val (.int ch1)] [])) t
    refine XS.goto X18.here hx rfl (pc0 := 41) (pc' := 3) rfl (hb hby d10_41) (by decide) (by decide) ?_
    show Steps p.tables e below (T18.setTop (mkF m 3 #[.val (.ref a), .val (.int (2 : Int32)), .val (.ref b), .val (.int (2 : Int32)), .val (.int (2 : Int32)), .val (.int (2 : Int32)), .val (.int ch1)] [])) t
    refine XS.iload X18.here hx rfl (hb hby d10_3) rfl ?_
    show Steps p.tables e below (T18.setTop (mkF m 5 #[.val (.ref a), .val (.int (2 : Int32)), .val (.ref b), .val (.int (2 : Int32)), .val (.int (2 : Int32)), .val (.int (2 : Int32)), .val (.int ch1)] [(.int (2 : Int32))])) t
    refine XS.iload X18.here hx rfl (hb hby d10_5) rfl ?_
    show Steps p.tables e below (T18.setTop (mkF m 7 #[.val (.ref a), .val (.int (2 : Int32)), .val (.ref b), .val (.int (2 : Int32)), .val (.int (2 : Int32)), .val (.int (2 : Int32)), .val (.int ch1)] [(.int (2 : Int32)), (.int (2 : Int32))])) t
    refine XS.icmpYes X18.here hx rfl (pc0 := 7) (pc' := 44) rfl (hb hby d10_7) rfl (flt hc7_23).2.1 (by decide) (by decide) ?_
    show Steps p.tables e below (T18.setTop (mkF m 44 #[.val (.ref a), .val (.int (2 : Int32)), .val (.ref b), .val (.int (2 : Int32)), .val (.int (2 : Int32)), .val (.int (2 : Int32)), .val (.int ch1)] [])) t
    refine XS.iload X18.here hx rfl (hb hby d10_44) rfl ?_
    exact kt
  obtain ⟨fs, hr, hrun, hended, hW, hsame⟩ := X18.leave (v := some (.int (2 : Int32))) (fun h => by rw [Bd.returns] at h; cases h)
  refine ⟨_, _, k24 _ ?_, hrun, hended, _, _, rfl, ?_, ⟨_, rfl⟩, hW, hsame.mono (by decide) (by decide)⟩
  · show Steps p.tables e below (T18.setTop (mkF m 46 #[.val (.ref a), .val (.int (2 : Int32)), .val (.ref b), .val (.int (2 : Int32)), .val (.int (2 : Int32)), .val (.int (2 : Int32)), .val (.int ch1)] [(.int (2 : Int32))])) _
    exact retI X18 hx Bd.returns (hb hby d10_46) hr
  · show QCmp2 Z a b ka kb ch0 ch1 h0 n0 _ T18.heap _
    rw [e18]
    exact ⟨rfl, N18, K18, by simp only [own_i2b] at F19; exact F19⟩
theorem rmCps2_ef (m : MethodId) (x0 : Addr) : entryFrame m #[(.ref x0), (.int (0 : Int32)), (.int (2 : Int32))] 6 = mkF m 0 #[.val (.ref x0), .val (.int (0 : Int32)), .val (.int (2 : Int32)), .unset, .unset, .unset] [] := by first | (simp [entryFrame, mkF, argsToLocals, Value.category]; done) | rfl
def QCps2 (Z : State) (a : Addr) (ka : ClassId) (ch0 : Int32) (ch1 : Int32) (h0 : Heap) (n0 : Nat) (v : Option Value) (h : Heap) (L : List Loc) : Prop := ∃ (b : Addr) (kb : ClassId), v = some (.ref b) ∧ Fr n0 L ∧ Keep h0 h [] ∧ h0.size ≤ b ∧ Arv Z h b kb .byte (2 : Int32) [(.int (ch0.toInt8.toInt32)), (.int (ch1.toInt8.toInt32))] (.int (0 : Int32))
set_option maxRecDepth 65536 in
set_option maxHeartbeats 40000000 in
theorem rmCps2 (l : Launch) (Z : State) (a0 : Array Value) (hw : ∀ d ∈ tables_1, d.before a0 Z = true) (ws : List Jvm.Cond) (a : Addr) (ka : ClassId) (ch0 : Int32) (ch1 : Int32) (h0 : Heap) (n0 : Nat) (Z0 : n0 ≤ h0.size) (Aa : Arv Z h0 a ka .char (2 : Int32) [(.int ch0), (.int ch1)] (.int (0 : Int32))) (hch0 : ¬ ((255 : Int32) < ch0)) (hch1 : ¬ ((255 : Int32) < ch1)) :
    MetFree l (⟨"java/lang/StringUTF16", "compress", "([CII)[B"⟩ : MethodName) (head1 (Jvm.Cond.code (⟨"java/lang/StringUTF16", "compress", "([CII)[B"⟩ : MethodName) jdk_52_method_16_code 6 (some (.array .byte)) :: ws) ({ frames := 1, cells := 1, slots := 2, locals := 18 } : Room)) (fun aA' U => aA' = #[(.ref a), (.int (0 : Int32)), (.int (2 : Int32))] ∧ Z.Warmed39 U.vm ∧ U.heap = h0) (fun _ _ _ _ _ => True) (fun _ U oO' U' => ∃ vV' L, oO' = .returned vV' ∧ QCps2 Z a ka ch0 ch1 h0 n0 vV' U'.heap L ∧ FrameEnd U oO' U' L ({ frames := 1, cells := 1, slots := 2, locals := 18 } : Room).cells ({ frames := 1, cells := 1, slots := 2, locals := 18 } : Room).slots) := by
  refine MetFree.of_bodySF (plainFor_of_name own_pn0) hisR ?_
  intro p e s m args below meth c s₁ Bd hml0 hP hK
  obtain ⟨rfl, hZ, hh⟩ := hP
  have hx := Bd.exec
  have hby := Bd.bytes
  have hml : c.maxLocals = 6 := hml0
  have hown : s.vm.findClass "java/lang/StringUTF16" = some m.cls := findClass_of_methodNamed Bd.named
  have hnm := (name_of_methodNamed Bd.named Bd.method).1
  have X0 : Stand p l e ({ frames := 1, cells := 1, slots := 2, locals := 18 } : Room) s m #[(.ref a), (.int (0 : Int32)), (.int (2 : Int32))] below meth c s₁ [] 0 0 := Stand.of_body Bd
  have e0 : s₁.heap = h0 := by rw [← hh, Bd.state]; rfl
  have N0 := Fr.nil n0
  have K0 : Keep h0 h0 [] := Keep.refl _ _
  have k0 : ∀ t, Steps p.tables e below (s₁.setTop (mkF m 0 #[.val (.ref a), .val (.int (0 : Int32)), .val (.int (2 : Int32)), .unset, .unset, .unset] [])) t → Steps p.tables e below (s₁.setTop (entryFrame m #[(.ref a), (.int (0 : Int32)), (.int (2 : Int32))] 6)) t := fun t k => castTop (rmCps2_ef m (a)) k
  have k1 : ∀ t, Steps p.tables e below (s₁.setTop (mkF m 1 #[.val (.ref a), .val (.int (0 : Int32)), .val (.int (2 : Int32)), .unset, .unset, .unset] [(.int (2 : Int32))])) t → Steps p.tables e below (s₁.setTop (entryFrame m #[(.ref a), (.int (0 : Int32)), (.int (2 : Int32))] 6)) t := by
    intro t kt
    refine k0 t ?_
    show Steps p.tables e below (s₁.setTop (mkF m 0 #[.val (.ref a), .val (.int (0 : Int32)), .val (.int (2 : Int32)), .unset, .unset, .unset] [])) t
    refine XS.iloadN X0.here hx rfl (hb hby d9_0) rfl ?_
    exact kt
  obtain ⟨T2, h2, c2, X2, e2, E2, A2, st2⟩ := newP X0 hx hZ (hw _ (List.mem_of_getElem? (i := 23) rfl)) e0 (g := (mkF m 1 #[.val (.ref a), .val (.int (0 : Int32)), .val (.int (2 : Int32)), .unset, .unset, .unset] [(.int (2 : Int32))])) rfl (hb hby d9_1) rfl (by decide) (cap := 2) (by decide) (by decide) (by decide) (by decide)
  obtain ⟨b2, g2⟩ : ∃ z, z = h0.size := ⟨_, rfl⟩
  rw [← g2] at A2 st2
  have g_b2 : n0 ≤ b2 := Nat.le_trans Z0 (Nat.le_of_eq g2.symm)
  have sz_b2 : h0.size ≤ b2 := Nat.le_trans K0.1 (Nat.le_of_eq g2.symm)
  have ne3 : a ≠ b2 := Nat.ne_of_lt (Nat.lt_of_lt_of_le Aa.lt (Nat.le_of_eq g2.symm))
  have F4 := Aa.ext E2
  have Z2 : n0 ≤ h2.size := Nat.le_trans Z0 E2.1
  have K2 : Keep h0 h2 [] := K0.ext E2
  have F5 : Arv Z h2 b2 c2 .byte (2 : Int32) [(.int (0 : Int32)), (.int (0 : Int32))] (.int (0 : Int32)) := (Arv.new A2 (by decide)).pad (pad_rep [] (.int (0 : Int32)) 2)
  have k6 : ∀ t, Steps p.tables e below (T2.setTop (mkF m 3 #[.val (.ref a), .val (.int (0 : Int32)), .val (.int (2 : Int32)), .unset, .unset, .unset] [(.ref b2)])) t → Steps p.tables e below (s₁.setTop (entryFrame m #[(.ref a), (.int (0 : Int32)), (.int (2 : Int32))] 6)) t := fun t kt => k1 t (st2 t kt)
  have k7 : ∀ t, Steps p.tables e below (T2.setTop (mkF m 9 #[.val (.ref a), .val (.int (0 : Int32)), .val (.int (2 : Int32)), .val (.ref b2), .unset, .unset] [(.int (2 : Int32)), (.int (0 : Int32)), (.ref b2), (.int (0 : Int32)), (.ref a)])) t → Steps p.tables e below (s₁.setTop (entryFrame m #[(.ref a), (.int (0 : Int32)), (.int (2 : Int32))] 6)) t := by
    intro t kt
    refine k6 t ?_
    show Steps p.tables e below (T2.setTop (mkF m 3 #[.val (.ref a), .val (.int (0 : Int32)), .val (.int (2 : Int32)), .unset, .unset, .unset] [(.ref b2)])) t
    refine XS.astoreN X2.here hx rfl (hb hby d9_3) rfl rfl (l' := #[.val (.ref a), .val (.int (0 : Int32)), .val (.int (2 : Int32)), .val (.ref b2), .unset, .unset]) rfl ?_
    show Steps p.tables e below (T2.setTop (mkF m 4 #[.val (.ref a), .val (.int (0 : Int32)), .val (.int (2 : Int32)), .val (.ref b2), .unset, .unset] [])) t
    refine XS.aloadN X2.here hx rfl (hb hby d9_4) rfl rfl ?_
    show Steps p.tables e below (T2.setTop (mkF m 5 #[.val (.ref a), .val (.int (0 : Int32)), .val (.int (2 : Int32)), .val (.ref b2), .unset, .unset] [(.ref a)])) t
    refine XS.iloadN X2.here hx rfl (hb hby d9_5) rfl ?_
    show Steps p.tables e below (T2.setTop (mkF m 6 #[.val (.ref a), .val (.int (0 : Int32)), .val (.int (2 : Int32)), .val (.ref b2), .unset, .unset] [(.int (0 : Int32)), (.ref a)])) t
    refine XS.aloadN X2.here hx rfl (hb hby d9_6) rfl rfl ?_
    show Steps p.tables e below (T2.setTop (mkF m 7 #[.val (.ref a), .val (.int (0 : Int32)), .val (.int (2 : Int32)), .val (.ref b2), .unset, .unset] [(.ref b2), (.int (0 : Int32)), (.ref a)])) t
    refine XS.iconst X2.here hx rfl (hb hby d9_7) ?_
    show Steps p.tables e below (T2.setTop (mkF m 8 #[.val (.ref a), .val (.int (0 : Int32)), .val (.int (2 : Int32)), .val (.ref b2), .unset, .unset] [(.int (0 : Int32)), (.ref b2), (.int (0 : Int32)), (.ref a)])) t
    refine XS.iloadN X2.here hx rfl (hb hby d9_8) rfl ?_
    exact kt
  obtain ⟨_, _, ⟨T8, L8, k8c, n8⟩, -, X8, ⟨Lc8, hQ8, l8, y8, z8⟩, st8⟩ := Jvm.LawKit.callS X2 hx (y := (⟨"java/lang/StringUTF16", "compress", "([CI[BII)I"⟩ : MethodName)) hown (mvT hZ (hw _ (List.mem_of_getElem? (i := 51) rfl))) (mvT hZ (hw _ (List.mem_of_getElem? (i := 52) rfl))) (mvT hZ (hw _ (List.mem_of_getElem? (i := 49) rfl))) (mvT hZ (hw _ (List.mem_of_getElem? (i := 53) rfl))) (by decide) (backOf (W := 0) (rmCmp2 l Z a0 hw [] a b2 ka c2 ch0 ch1 h2 n0 Z2 F4 F5 g_b2 ne3 hch0 hch1) hZ (hw _ (List.mem_of_getElem? (i := 53) rfl)) (hw _ (List.mem_of_getElem? (i := 49) rfl)) (by decide) (by decide)) (g := (mkF m 9 #[.val (.ref a), .val (.int (0 : Int32)), .val (.int (2 : Int32)), .val (.ref b2), .unset, .unset] [(.int (2 : Int32)), (.int (0 : Int32)), (.ref b2), (.int (0 : Int32)), (.ref a)])) rfl (by rw [hml]; rfl) (argsL := [(.ref a), (.int (0 : Int32)), (.ref b2), (.int (0 : Int32)), (.int (2 : Int32))]) (rest := []) (lenOf own_pd0 rfl) rfl (by show 2 * 0 + _ ≤ _; exact Nat.le_of_eq rfl) (hb hby d9_9) (fun _ _ => ⟨rfl, e2, (by decide : 1 + 0 ≤ _), (by decide : 2 + 0 ≤ _)⟩)
  dsimp only [Pt.U, Pt.locs, Pt.cells, Pt.slots] at X8 l8 y8 z8 st8 hQ8
  subst l8 y8 z8
  obtain ⟨rfl, N8q, K8k, A8⟩ := hQ8
  have N8 := Fr.app N0 N8q
  have F9 := F4.keep K8k (ninS ne3 nin0)
  have Z11 : n0 ≤ T8.heap.size := Nat.le_trans Z2 K8k.1
  have K11 : Keep h0 T8.heap [] := K2.trans K8k (allS (Or.inr sz_b2) all0)
  have k12 : ∀ t, Steps p.tables e below (T8.setTop (mkF m 12 #[.val (.ref a), .val (.int (0 : Int32)), .val (.int (2 : Int32)), .val (.ref b2), .unset, .unset] [(.int (2 : Int32))])) t → Steps p.tables e below (s₁.setTop (entryFrame m #[(.ref a), (.int (0 : Int32)), (.int (2 : Int32))] 6)) t := fun t kt => k7 t (st8 t kt)
  have k14 : ∀ t, Steps p.tables e below (T8.setTop (mkF m 17 #[.val (.ref a), .val (.int (0 : Int32)), .val (.int (2 : Int32)), .val (.ref b2), .val (.int (2 : Int32)), .unset] [(.int (2 : Int32)), (.int (2 : Int32))])) t → Steps p.tables e below (s₁.setTop (entryFrame m #[(.ref a), (.int (0 : Int32)), (.int (2 : Int32))] 6)) t := by
    intro t kt
    refine k12 t ?_
    show Steps p.tables e below (T8.setTop (mkF m 12 #[.val (.ref a), .val (.int (0 : Int32)), .val (.int (2 : Int32)), .val (.ref b2), .unset, .unset] [(.int (2 : Int32))])) t
    refine XS.istore X8.here hx rfl (hb hby d9_12) rfl (l' := #[.val (.ref a), .val (.int (0 : Int32)), .val (.int (2 : Int32)), .val (.ref b2), .val (.int (2 : Int32)), .unset]) rfl ?_
    show Steps p.tables e below (T8.setTop (mkF m 14 #[.val (.ref a), .val (.int (0 : Int32)), .val (.int (2 : Int32)), .val (.ref b2), .val (.int (2 : Int32)), .unset] [])) t
    refine XS.iload X8.here hx rfl (hb hby d9_14) rfl ?_
    show Steps p.tables e below (T8.setTop (mkF m 16 #[.val (.ref a), .val (.int (0 : Int32)), .val (.int (2 : Int32)), .val (.ref b2), .val (.int (2 : Int32)), .unset] [(.int (2 : Int32))])) t
    refine XS.iloadN X8.here hx rfl (hb hby d9_16) rfl ?_
    exact kt
  have hc17_13 : (2 : Int32) = (2 : Int32) := rfl
  have k15 : ∀ t, Steps p.tables e below (T8.setTop (mkF m 58 #[.val (.ref a), .val (.int (0 : Int32)), .val (.int (2 : Int32)), .val (.ref b2), .val (.int (2 : Int32)), .unset] [(.ref b2)])) t → Steps p.tables e below (s₁.setTop (entryFrame m #[(.ref a), (.int (0 : Int32)), (.int (2 : Int32))] 6)) t := by
    intro t kt
    refine k14 t ?_
    show Steps p.tables e below (T8.setTop (mkF m 17 #[.val (.ref a), .val (.int (0 : Int32)), .val (.int (2 : Int32)), .val (.ref b2), .val (.int (2 : Int32)), .unset] [(.int (2 : Int32)), (.int (2 : Int32))])) t
    refine XS.icmpYes X8.here hx rfl (pc0 := 17) (pc' := 57) rfl (hb hby d9_17) rfl (teq hc17_13).1 (by decide) (by decide) ?_
    show Steps p.tables e below (T8.setTop (mkF m 57 #[.val (.ref a), .val (.int (0 : Int32)), .val (.int (2 : Int32)), .val (.ref b2), .val (.int (2 : Int32)), .unset] [])) t
    refine XS.aloadN X8.here hx rfl (hb hby d9_57) rfl rfl ?_
    exact kt
  obtain ⟨fs, hr, hrun, hended, hW, hsame⟩ := X8.leave (v := some (.ref b2)) (fun h => by rw [Bd.returns] at h; cases h)
  refine ⟨_, _, k15 _ ?_, hrun, hended, _, _, rfl, ?_, ⟨_, rfl⟩, hW, hsame.mono (by decide) (by decide)⟩
  · show Steps p.tables e below (T8.setTop (mkF m 58 #[.val (.ref a), .val (.int (0 : Int32)), .val (.int (2 : Int32)), .val (.ref b2), .val (.int (2 : Int32)), .unset] [(.ref b2)])) _
    jvm_step X8.here [X8.here.top, hx, (hb hby d9_58), X8.method', Bd.returns, Value.isRef, FieldType.isReference]
    first | (intro acts; rw [hr _ acts rfl rfl rfl]) | rw [hr _ _ rfl rfl rfl]
    exact Steps.refl _
  · show QCps2 Z a ka ch0 ch1 h0 n0 _ T8.heap _
    exact ⟨b2, c2, rfl, N8, K11, sz_b2, A8⟩
theorem rmCod2_ef (m : MethodId) (x0 : Addr) : entryFrame m #[(.ref x0), (.int (2 : Int32))] 2 = mkF m 0 #[.val (.ref x0), .val (.int (2 : Int32))] [] := by first | (simp [entryFrame, mkF, argsToLocals, Value.category]; done) | rfl
def QCod2 (Z : State) (b : Addr) (kb : ClassId) (vs : List Value) (h0 : Heap) (n0 : Nat) (v : Option Value) (h : Heap) (L : List Loc) : Prop := v = some (.int (0 : Int32)) ∧ Fr n0 L ∧ h = h0
set_option maxRecDepth 65536 in
set_option maxHeartbeats 40000000 in
theorem rmCod2 (l : Launch) (Z : State) (a0 : Array Value) (hw : ∀ d ∈ tables_1, d.before a0 Z = true) (ws : List Jvm.Cond) (b : Addr) (kb : ClassId) (vs : List Value) (h0 : Heap) (n0 : Nat) (Z0 : n0 ≤ h0.size) (Ab : Arv Z h0 b kb .byte (2 : Int32) vs (.int (0 : Int32))) :
    MetFree l (⟨"java/lang/StringUTF16", "coderFromArrayLen", "([BI)B"⟩ : MethodName) (head1 (Jvm.Cond.code (⟨"java/lang/StringUTF16", "coderFromArrayLen", "([BI)B"⟩ : MethodName) jdk_52_method_15_code 2 (some .byte) :: ws) ({ frames := 0, cells := 0, slots := 0, locals := 0 } : Room)) (fun aA' U => aA' = #[(.ref b), (.int (2 : Int32))] ∧ Z.Warmed39 U.vm ∧ U.heap = h0) (fun _ _ _ _ _ => True) (fun _ U oO' U' => ∃ vV' L, oO' = .returned vV' ∧ QCod2 Z b kb vs h0 n0 vV' U'.heap L ∧ FrameEnd U oO' U' L ({ frames := 0, cells := 0, slots := 0, locals := 0 } : Room).cells ({ frames := 0, cells := 0, slots := 0, locals := 0 } : Room).slots) := by
  refine MetFree.of_bodySF (plainFor_of_name own_pn0) hisR ?_
  intro p e s m args below meth c s₁ Bd hml0 hP hK
  obtain ⟨rfl, hZ, hh⟩ := hP
  have hx := Bd.exec
  have hby := Bd.bytes
  have hml : c.maxLocals = 2 := hml0
  have hown : s.vm.findClass "java/lang/StringUTF16" = some m.cls := findClass_of_methodNamed Bd.named
  have hnm := (name_of_methodNamed Bd.named Bd.method).1
  have X0 : Stand p l e ({ frames := 0, cells := 0, slots := 0, locals := 0 } : Room) s m #[(.ref b), (.int (2 : Int32))] below meth c s₁ [] 0 0 := Stand.of_body Bd
  have e0 : s₁.heap = h0 := by rw [← hh, Bd.state]; rfl
  have N0 := Fr.nil n0
  have K0 : Keep h0 h0 [] := Keep.refl _ _
  have k0 : ∀ t, Steps p.tables e below (s₁.setTop (mkF m 0 #[.val (.ref b), .val (.int (2 : Int32))] [])) t → Steps p.tables e below (s₁.setTop (entryFrame m #[(.ref b), (.int (2 : Int32))] 2)) t := fun t k => castTop (rmCod2_ef m (b)) k
  have k1 : ∀ t, Steps p.tables e below (s₁.setTop (mkF m 2 #[.val (.ref b), .val (.int (2 : Int32))] [(.ref b), (.int (2 : Int32))])) t → Steps p.tables e below (s₁.setTop (entryFrame m #[(.ref b), (.int (2 : Int32))] 2)) t := by
    intro t kt
    refine k0 t ?_
    show Steps p.tables e below (s₁.setTop (mkF m 0 #[.val (.ref b), .val (.int (2 : Int32))] [])) t
    refine XS.iloadN X0.here hx rfl (hb hby d11_0) rfl ?_
    show Steps p.tables e below (s₁.setTop (mkF m 1 #[.val (.ref b), .val (.int (2 : Int32))] [(.int (2 : Int32))])) t
    refine XS.aloadN X0.here hx rfl (hb hby d11_1) rfl rfl ?_
    exact kt
  obtain ⟨cl2, Ar2, -, S2, M2, -, -⟩ := id Ab
  have k3 : ∀ t, Steps p.tables e below (s₁.setTop (mkF m 3 #[.val (.ref b), .val (.int (2 : Int32))] [(.int (2 : Int32)), (.int (2 : Int32))])) t → Steps p.tables e below (s₁.setTop (entryFrame m #[(.ref b), (.int (2 : Int32))] 2)) t := fun t kt => k1 t (X0.arraylength hx (by rw [e0]; exact Ar2.1) (State.isArrayOf_alike hZ.alike Ar2.2.1) (g := (mkF m 2 #[.val (.ref b), .val (.int (2 : Int32))] [(.ref b), (.int (2 : Int32))])) rfl rfl (hb hby d11_2) t (by rw [len_of S2 M2]; exact kt))
  have k4 : ∀ t, Steps p.tables e below (s₁.setTop (mkF m 8 #[.val (.ref b), .val (.int (2 : Int32))] [(.int (((((2 : Int32) - (2 : Int32)).toUInt32 >>> ((31 : Int32) &&& 31).toUInt32).toInt32).toInt8.toInt32))])) t → Steps p.tables e below (s₁.setTop (entryFrame m #[(.ref b), (.int (2 : Int32))] 2)) t := by
    intro t kt
    refine k3 t ?_
    show Steps p.tables e below (s₁.setTop (mkF m 3 #[.val (.ref b), .val (.int (2 : Int32))] [(.int (2 : Int32)), (.int (2 : Int32))])) t
    refine XS.isub X0.here hx rfl (hb hby d11_3) rfl ?_
    show Steps p.tables e below (s₁.setTop (mkF m 4 #[.val (.ref b), .val (.int (2 : Int32))] [(.int ((2 : Int32) - (2 : Int32)))])) t
    refine XS.bipush X0.here hx rfl (hb hby d11_4) ?_
    show Steps p.tables e below (s₁.setTop (mkF m 6 #[.val (.ref b), .val (.int (2 : Int32))] [(.int (31 : Int32)), (.int ((2 : Int32) - (2 : Int32)))])) t
    refine XS.iushr X0.here hx rfl (hb hby d11_6) rfl ?_
    show Steps p.tables e below (s₁.setTop (mkF m 7 #[.val (.ref b), .val (.int (2 : Int32))] [(.int ((((2 : Int32) - (2 : Int32)).toUInt32 >>> ((31 : Int32) &&& 31).toUInt32).toInt32))])) t
    refine XS.i2b X0.here hx rfl (hb hby d11_7) rfl ?_
    exact kt
  obtain ⟨fs, hr, hrun, hended, hW, hsame⟩ := X0.leave (v := some (.int ((((((2 : Int32) - (2 : Int32)).toUInt32 >>> ((31 : Int32) &&& 31).toUInt32).toInt32).toInt8.toInt32).toInt8.toInt32))) (fun h => by rw [Bd.returns] at h; cases h)
  refine ⟨_, _, k4 _ ?_, hrun, hended, _, _, rfl, ?_, ⟨_, rfl⟩, hW, hsame.mono (by decide) (by decide)⟩
  · show Steps p.tables e below (s₁.setTop (mkF m 8 #[.val (.ref b), .val (.int (2 : Int32))] [(.int (((((2 : Int32) - (2 : Int32)).toUInt32 >>> ((31 : Int32) &&& 31).toUInt32).toInt32).toInt8.toInt32))])) _
    exact retN X0 hx (t := .byte) Bd.returns (by simp) (hb hby d11_8) hr
  · show QCod2 Z b kb vs h0 n0 _ s₁.heap _
    rw [e0]
    exact ⟨congrArg (fun z => some (Value.int z)) (by decide), N0, rfl⟩
theorem rmSv2_ef (m : MethodId) (x0 : Addr) (x1 : Addr) : entryFrame m #[(.ref x0), (.ref x1), (.int (0 : Int32)), (.int (2 : Int32)), .null] 6 = mkF m 0 #[.val (.ref x0), .val (.ref x1), .val (.int (0 : Int32)), .val (.int (2 : Int32)), .val .null, .unset] [] := by first | (simp [entryFrame, mkF, argsToLocals, Value.category]; done) | rfl
def QSv2 (Z : State) (ths : Addr) (a : Addr) (u : Value) (u' : Value) (ka : ClassId) (cs : Int32) (ch0 : Int32) (ch1 : Int32) (h0 : Heap) (n0 : Nat) (v : Option Value) (h : Heap) (L : List Loc) : Prop := v = none ∧ Fr n0 L ∧ Keep h0 h [ths] ∧ Exa Z h ths "java/lang/String" ∧ ∃ (b : Addr) (kb : ClassId), h0.size ≤ b ∧ Fld Z h ths "java/lang/String" "value" "[B" (.ref b) ∧ Fld Z h ths "java/lang/String" "coder" "B" (.int (0 : Int32)) ∧ Arv Z h b kb .byte (2 : Int32) [(.int (ch0.toInt8.toInt32)), (.int (ch1.toInt8.toInt32))] (.int (0 : Int32))
set_option maxRecDepth 65536 in
set_option maxHeartbeats 40000000 in
theorem rmSv2 (l : Launch) (Z : State) (a0 : Array Value) (hw : ∀ d ∈ tables_1, d.before a0 Z = true) (ws : List Jvm.Cond) (ths : Addr) (a : Addr) (u : Value) (u' : Value) (ka : ClassId) (cs : Int32) (ch0 : Int32) (ch1 : Int32) (h0 : Heap) (n0 : Nat) (Z0 : n0 ≤ h0.size) (Fv : Fld Z h0 ths "java/lang/String" "value" "[B" u) (Fc : Fld Z h0 ths "java/lang/String" "coder" "B" u') (Et : Exa Z h0 ths "java/lang/String") (g_t : n0 ≤ ths) (net : ths ≠ a) (Aa : Arv Z h0 a ka .char (2 : Int32) [(.int ch0), (.int ch1)] (.int (0 : Int32))) (SC : Sta Z h0 "java/lang/String" "COMPACT_STRINGS" "Z" (.int cs)) (hcs : ¬ (cs = (0 : Int32))) (hch0 : ¬ ((255 : Int32) < ch0)) (hch1 : ¬ ((255 : Int32) < ch1)) :
    MetFree l (⟨"java/lang/String", "<init>", "([CIILjava/lang/Void;)V"⟩ : MethodName) (head1 (Jvm.Cond.code (⟨"java/lang/String", "<init>", "([CIILjava/lang/Void;)V"⟩ : MethodName) jdk_42_method_149_code 6 none :: ws) ({ frames := 2, cells := 1, slots := 2, locals := 35 } : Room)) (fun aA' U => aA' = #[(.ref ths), (.ref a), (.int (0 : Int32)), (.int (2 : Int32)), .null] ∧ Z.Warmed39 U.vm ∧ U.heap = h0) (fun _ _ _ _ _ => True) (fun _ U oO' U' => ∃ vV' L, oO' = .returned vV' ∧ QSv2 Z ths a u u' ka cs ch0 ch1 h0 n0 vV' U'.heap L ∧ FrameEnd U oO' U' L ({ frames := 2, cells := 1, slots := 2, locals := 35 } : Room).cells ({ frames := 2, cells := 1, slots := 2, locals := 35 } : Room).slots) := by
  refine MetFree.of_bodySF (plainFor_of_name own_pn1) hisR ?_
  intro p e s m args below meth c s₁ Bd hml0 hP hK
  obtain ⟨rfl, hZ, hh⟩ := hP
  have hx := Bd.exec
  have hby := Bd.bytes
  have hml : c.maxLocals = 6 := hml0
  have hown : s.vm.findClass "java/lang/String" = some m.cls := findClass_of_methodNamed Bd.named
  have hnm := (name_of_methodNamed Bd.named Bd.method).1
  have X0 : Stand p l e ({ frames := 2, cells := 1, slots := 2, locals := 35 } : Room) s m #[(.ref ths), (.ref a), (.int (0 : Int32)), (.int (2 : Int32)), .null] below meth c s₁ [] 0 0 := Stand.of_body Bd
  have e0 : s₁.heap = h0 := by rw [← hh, Bd.state]; rfl
  have N0 := Fr.nil n0
  have K0 : Keep h0 h0 [ths] := Keep.refl _ _
  have k0 : ∀ t, Steps p.tables e below (s₁.setTop (mkF m 0 #[.val (.ref ths), .val (.ref a), .val (.int (0 : Int32)), .val (.int (2 : Int32)), .val .null, .unset] [])) t → Steps p.tables e below (s₁.setTop (entryFrame m #[(.ref ths), (.ref a), (.int (0 : Int32)), (.int (2 : Int32)), .null] 6)) t := fun t k => castTop (rmSv2_ef m (ths) (a)) k
  have k1 : ∀ t, Steps p.tables e below (s₁.setTop (mkF m 1 #[.val (.ref ths), .val (.ref a), .val (.int (0 : Int32)), .val (.int (2 : Int32)), .val .null, .unset] [(.ref ths)])) t → Steps p.tables e below (s₁.setTop (entryFrame m #[(.ref ths), (.ref a), (.int (0 : Int32)), (.int (2 : Int32)), .null] 6)) t := by
    intro t kt
    refine k0 t ?_
    show Steps p.tables e below (s₁.setTop (mkF m 0 #[.val (.ref ths), .val (.ref a), .val (.int (0 : Int32)), .val (.int (2 : Int32)), .val .null, .unset] [])) t
    refine XS.aloadN X0.here hx rfl (hb hby d4_0) rfl rfl ?_
    exact kt
  obtain ⟨T2, X2, e2, st2⟩ := initO X0 hx hZ hown (hw _ (List.mem_of_getElem? (i := 19) rfl)) (hw _ (List.mem_of_getElem? (i := 20) rfl)) (hw _ (List.mem_of_getElem? (i := 21) rfl)) e0 (g := (mkF m 1 #[.val (.ref ths), .val (.ref a), .val (.int (0 : Int32)), .val (.int (2 : Int32)), .val .null, .unset] [(.ref ths)])) rfl (by rw [hml]; rfl) rfl (hb hby d4_1) (by decide) (W := 0) (by show 2 * 0 + _ ≤ _; exact Nat.le_of_eq rfl) (by decide)
  have k3 : ∀ t, Steps p.tables e below (T2.setTop (mkF m 4 #[.val (.ref ths), .val (.ref a), .val (.int (0 : Int32)), .val (.int (2 : Int32)), .val .null, .unset] [])) t → Steps p.tables e below (s₁.setTop (entryFrame m #[(.ref ths), (.ref a), (.int (0 : Int32)), (.int (2 : Int32)), .null] 6)) t := fun t kt => k1 t (st2 t kt)
  have hc5_4 : ¬ ((2 : Int32) = (0 : Int32)) := by decide
  have k5 : ∀ t, Steps p.tables e below (T2.setTop (mkF m 27 #[.val (.ref ths), .val (.ref a), .val (.int (0 : Int32)), .val (.int (2 : Int32)), .val .null, .unset] [])) t → Steps p.tables e below (s₁.setTop (entryFrame m #[(.ref ths), (.ref a), (.int (0 : Int32)), (.int (2 : Int32)), .null] 6)) t := by
    intro t kt
    refine k3 t ?_
    show Steps p.tables e below (T2.setTop (mkF m 4 #[.val (.ref ths), .val (.ref a), .val (.int (0 : Int32)), .val (.int (2 : Int32)), .val .null, .unset] [])) t
    refine XS.iloadN X2.here hx rfl (hb hby d4_4) rfl ?_
    show Steps p.tables e below (T2.setTop (mkF m 5 #[.val (.ref ths), .val (.ref a), .val (.int (0 : Int32)), .val (.int (2 : Int32)), .val .null, .unset] [(.int (2 : Int32))])) t
    refine XS.ifYes X2.here hx rfl (pc0 := 5) (pc' := 27) rfl (hb hby d4_5) rfl ((if0 _ _).trans (feq hc5_4).2) (by decide) (by decide) ?_
    exact kt
  obtain ⟨T6, X6, e6, st6⟩ := getS2 X2 hx hZ hown (host := "") (Or.inl (hw _ (List.mem_of_getElem? (i := 41) rfl))) Via.refl e2 SC (g := (mkF m 27 #[.val (.ref ths), .val (.ref a), .val (.int (0 : Int32)), .val (.int (2 : Int32)), .val .null, .unset] [])) rfl (hb hby d4_27)
  have k7 : ∀ t, Steps p.tables e below (T6.setTop (mkF m 30 #[.val (.ref ths), .val (.ref a), .val (.int (0 : Int32)), .val (.int (2 : Int32)), .val .null, .unset] [(.int cs)])) t → Steps p.tables e below (s₁.setTop (entryFrame m #[(.ref ths), (.ref a), (.int (0 : Int32)), (.int (2 : Int32)), .null] 6)) t := fun t kt => k5 t (st6 t kt)
  have k9 : ∀ t, Steps p.tables e below (T6.setTop (mkF m 36 #[.val (.ref ths), .val (.ref a), .val (.int (0 : Int32)), .val (.int (2 : Int32)), .val .null, .unset] [(.int (2 : Int32)), (.int (0 : Int32)), (.ref a)])) t → Steps p.tables e below (s₁.setTop (entryFrame m #[(.ref ths), (.ref a), (.int (0 : Int32)), (.int (2 : Int32)), .null] 6)) t := by
    intro t kt
    refine k7 t ?_
    show Steps p.tables e below (T6.setTop (mkF m 30 #[.val (.ref ths), .val (.ref a), .val (.int (0 : Int32)), .val (.int (2 : Int32)), .val .null, .unset] [(.int cs)])) t
    refine XS.ifNo X6.here hx rfl (hb hby d4_30) rfl ((if0 _ _).trans (feq hcs).1) ?_
    show Steps p.tables e below (T6.setTop (mkF m 33 #[.val (.ref ths), .val (.ref a), .val (.int (0 : Int32)), .val (.int (2 : Int32)), .val .null, .unset] [])) t
    refine XS.aloadN X6.here hx rfl (hb hby d4_33) rfl rfl ?_
    show Steps p.tables e below (T6.setTop (mkF m 34 #[.val (.ref ths), .val (.ref a), .val (.int (0 : Int32)), .val (.int (2 : Int32)), .val .null, .unset] [(.ref a)])) t
    refine XS.iloadN X6.here hx rfl (hb hby d4_34) rfl ?_
    show Steps p.tables e below (T6.setTop (mkF m 35 #[.val (.ref ths), .val (.ref a), .val (.int (0 : Int32)), .val (.int (2 : Int32)), .val .null, .unset] [(.int (0 : Int32)), (.ref a)])) t
    refine XS.iloadN X6.here hx rfl (hb hby d4_35) rfl ?_
    exact kt
  obtain ⟨_, _, ⟨T10, L10, k10c, n10⟩, -, X10, ⟨Lc10, hQ10, l10, y10, z10⟩, st10⟩ := Jvm.LawKit.callS X6 hx (y := (⟨"java/lang/StringUTF16", "compress", "([CII)[B"⟩ : MethodName)) hown (mvT hZ (hw _ (List.mem_of_getElem? (i := 47) rfl))) (mvT hZ (hw _ (List.mem_of_getElem? (i := 48) rfl))) (mvT hZ (hw _ (List.mem_of_getElem? (i := 49) rfl))) (mvT hZ (hw _ (List.mem_of_getElem? (i := 50) rfl))) (by decide) (backOf (W := 0) (rmCps2 l Z a0 hw [] a ka ch0 ch1 h0 n0 Z0 Aa hch0 hch1) hZ (hw _ (List.mem_of_getElem? (i := 50) rfl)) (hw _ (List.mem_of_getElem? (i := 49) rfl)) (by decide) (by decide)) (g := (mkF m 36 #[.val (.ref ths), .val (.ref a), .val (.int (0 : Int32)), .val (.int (2 : Int32)), .val .null, .unset] [(.int (2 : Int32)), (.int (0 : Int32)), (.ref a)])) rfl (by rw [hml]; rfl) (argsL := [(.ref a), (.int (0 : Int32)), (.int (2 : Int32))]) (rest := []) (lenOf own_pd1 rfl) rfl (by show 2 * 0 + _ ≤ _; exact Nat.le_of_eq rfl) (hb hby d4_36) (fun _ _ => ⟨rfl, e6, (by decide : 0 + 1 ≤ _), (by decide : 0 + 2 ≤ _)⟩)
  dsimp only [Pt.U, Pt.locs, Pt.cells, Pt.slots] at X10 l10 y10 z10 st10 hQ10
  subst l10 y10 z10
  obtain ⟨b10, c10k, rfl, N10q, K10k, s10z, A10⟩ := hQ10
  have N10 := Fr.app N0 N10q
  have g_b10 : n0 ≤ b10 := Nat.le_trans Z0 s10z
  have sz_b10 : h0.size ≤ b10 := Nat.le_trans K0.1 s10z
  have ne11 : ths ≠ b10 := Nat.ne_of_lt (Nat.lt_of_lt_of_le Fv.lt s10z)
  have ne12 : a ≠ b10 := Nat.ne_of_lt (Nat.lt_of_lt_of_le Aa.lt s10z)
  have F13 := Fv.keep K10k nin0
  have F14 := Fc.keep K10k nin0
  have F15 := Et.keep K10k
  have F16 := Aa.keep K10k nin0
  have Z18 : n0 ≤ T10.heap.size := Nat.le_trans Z0 K10k.1
  have K18 : Keep h0 T10.heap [ths] := K0.trans K10k all0
  have k19 : ∀ t, Steps p.tables e below (T10.setTop (mkF m 39 #[.val (.ref ths), .val (.ref a), .val (.int (0 : Int32)), .val (.int (2 : Int32)), .val .null, .unset] [(.ref b10)])) t → Steps p.tables e below (s₁.setTop (entryFrame m #[(.ref ths), (.ref a), (.int (0 : Int32)), (.int (2 : Int32)), .null] 6)) t := fun t kt => k9 t (st10 t kt)
  have k20 : ∀ t, Steps p.tables e below (T10.setTop (mkF m 45 #[.val (.ref ths), .val (.ref a), .val (.int (0 : Int32)), .val (.int (2 : Int32)), .val .null, .val (.ref b10)] [(.int (2 : Int32)), (.ref b10), (.ref ths)])) t → Steps p.tables e below (s₁.setTop (entryFrame m #[(.ref ths), (.ref a), (.int (0 : Int32)), (.int (2 : Int32)), .null] 6)) t := by
    intro t kt
    refine k19 t ?_
    show Steps p.tables e below (T10.setTop (mkF m 39 #[.val (.ref ths), .val (.ref a), .val (.int (0 : Int32)), .val (.int (2 : Int32)), .val .null, .unset] [(.ref b10)])) t
    refine XS.astore X10.here hx rfl (hb hby d4_39) rfl rfl (l' := #[.val (.ref ths), .val (.ref a), .val (.int (0 : Int32)), .val (.int (2 : Int32)), .val .null, .val (.ref b10)]) rfl ?_
    show Steps p.tables e below (T10.setTop (mkF m 41 #[.val (.ref ths), .val (.ref a), .val (.int (0 : Int32)), .val (.int (2 : Int32)), .val .null, .val (.ref b10)] [])) t
    refine XS.aloadN X10.here hx rfl (hb hby d4_41) rfl rfl ?_
    show Steps p.tables e below (T10.setTop (mkF m 42 #[.val (.ref ths), .val (.ref a), .val (.int (0 : Int32)), .val (.int (2 : Int32)), .val .null, .val (.ref b10)] [(.ref ths)])) t
    refine XS.aload X10.here hx rfl (hb hby d4_42) rfl rfl ?_
    show Steps p.tables e below (T10.setTop (mkF m 44 #[.val (.ref ths), .val (.ref a), .val (.int (0 : Int32)), .val (.int (2 : Int32)), .val .null, .val (.ref b10)] [(.ref b10), (.ref ths)])) t
    refine XS.iloadN X10.here hx rfl (hb hby d4_44) rfl ?_
    exact kt
  obtain ⟨_, _, ⟨T21, L21, k21c, n21⟩, -, X21, ⟨Lc21, hQ21, l21, y21, z21⟩, st21⟩ := Jvm.LawKit.callS X10 hx (y := (⟨"java/lang/StringUTF16", "coderFromArrayLen", "([BI)B"⟩ : MethodName)) hown (mvT hZ (hw _ (List.mem_of_getElem? (i := 54) rfl))) (mvT hZ (hw _ (List.mem_of_getElem? (i := 55) rfl))) (mvT hZ (hw _ (List.mem_of_getElem? (i := 49) rfl))) (mvT hZ (hw _ (List.mem_of_getElem? (i := 56) rfl))) (by decide) (backOf (W := 1) (rmCod2 l Z a0 hw [] b10 c10k [(.int (ch0.toInt8.toInt32)), (.int (ch1.toInt8.toInt32))] T10.heap n0 Z18 A10) hZ (hw _ (List.mem_of_getElem? (i := 56) rfl)) (hw _ (List.mem_of_getElem? (i := 49) rfl)) (by decide) (by decide)) (g := (mkF m 45 #[.val (.ref ths), .val (.ref a), .val (.int (0 : Int32)), .val (.int (2 : Int32)), .val .null, .val (.ref b10)] [(.int (2 : Int32)), (.ref b10), (.ref ths)])) rfl (by rw [hml]; rfl) (argsL := [(.ref b10), (.int (2 : Int32))]) (rest := [(.ref ths)]) (lenOf own_pd2 rfl) rfl (by show 2 * 0 + _ ≤ _; exact Nat.le_of_eq rfl) (hb hby d4_45) (fun _ _ => ⟨rfl, rfl, (by decide : 1 + 0 ≤ _), (by decide : 2 + 0 ≤ _)⟩)
  dsimp only [Pt.U, Pt.locs, Pt.cells, Pt.slots] at X21 l21 y21 z21 st21 hQ21
  subst l21 y21 z21
  obtain ⟨rfl, N21q, e21⟩ := hQ21
  have N21 := Fr.app N10 N21q
  have k22 : ∀ t, Steps p.tables e below (T21.setTop (mkF m 48 #[.val (.ref ths), .val (.ref a), .val (.int (0 : Int32)), .val (.int (2 : Int32)), .val .null, .val (.ref b10)] [(.int (0 : Int32)), (.ref ths)])) t → Steps p.tables e below (s₁.setTop (entryFrame m #[(.ref ths), (.ref a), (.int (0 : Int32)), (.int (2 : Int32)), .null] 6)) t := fun t kt => k20 t (st21 t kt)
  obtain ⟨T23, h23, X23, e23, W23, st23⟩ := putFN X21 hx hZ hown (hw _ (List.mem_of_getElem? (i := 29) rfl)) Via.refl e21 F14 F15 (Or.inr ⟨(hw _ (List.mem_of_getElem? (i := 25) rfl)), rfl, hnm⟩) (hw _ (List.mem_of_getElem? (i := 9) rfl)) (ty := .byte) (v' := (.int (0 : Int32))) (by decide) rfl (by decide) (g := (mkF m 48 #[.val (.ref ths), .val (.ref a), .val (.int (0 : Int32)), .val (.int (2 : Int32)), .val .null, .val (.ref b10)] [(.int (0 : Int32)), (.ref ths)])) rfl rfl (hb hby d4_48)
  have F24 := F13.other W23 (Or.inr (slot_ne (Or.inr (hw _ (List.mem_of_getElem? (i := 24) rfl))) (Or.inr (hw _ (List.mem_of_getElem? (i := 25) rfl))) (by decide) (t := (.array .byte)) (t' := .byte) (by decide) (by decide)))
  have F25 := F14.same W23
  have F26 := F15.wr W23
  have F27 := F16.other W23 (Ne.symm net)
  have F28 := A10.other W23 (Ne.symm ne11)
  have Z23 : n0 ≤ h23.size := Nat.le_trans Z18 (Keep.of_wr W23).1
  have K23 : Keep h0 h23 [ths] := K18.wr W23 (Or.inl (List.mem_of_getElem? (i := 0) rfl))
  have N23 := Fr.snoc X23 N21 g_t
  have k29 : ∀ t, Steps p.tables e below (T23.setTop (mkF m 51 #[.val (.ref ths), .val (.ref a), .val (.int (0 : Int32)), .val (.int (2 : Int32)), .val .null, .val (.ref b10)] [])) t → Steps p.tables e below (s₁.setTop (entryFrame m #[(.ref ths), (.ref a), (.int (0 : Int32)), (.int (2 : Int32)), .null] 6)) t := fun t kt => k22 t (st23 t kt)
  have k30 : ∀ t, Steps p.tables e below (T23.setTop (mkF m 54 #[.val (.ref ths), .val (.ref a), .val (.int (0 : Int32)), .val (.int (2 : Int32)), .val .null, .val (.ref b10)] [(.ref b10), (.ref ths)])) t → Steps p.tables e below (s₁.setTop (entryFrame m #[(.ref ths), (.ref a), (.int (0 : Int32)), (.int (2 : Int32)), .null] 6)) t := by
    intro t kt
    refine k29 t ?_
    show Steps p.tables e below (T23.setTop (mkF m 51 #[.val (.ref ths), .val (.ref a), .val (.int (0 : Int32)), .val (.int (2 : Int32)), .val .null, .val (.ref b10)] [])) t
    refine XS.aloadN X23.here hx rfl (hb hby d4_51) rfl rfl ?_
    show Steps p.tables e below (T23.setTop (mkF m 52 #[.val (.ref ths), .val (.ref a), .val (.int (0 : Int32)), .val (.int (2 : Int32)), .val .null, .val (.ref b10)] [(.ref ths)])) t
    refine XS.aload X23.here hx rfl (hb hby d4_52) rfl rfl ?_
    exact kt
  obtain ⟨T31, h31, X31, e31, W31, st31⟩ := putF X23 hx hZ hown (host := "") (Or.inl (hw _ (List.mem_of_getElem? (i := 28) rfl))) Via.refl e23 F24 F26 (Or.inr ⟨(hw _ (List.mem_of_getElem? (i := 24) rfl)), rfl, hnm⟩) (hw _ (List.mem_of_getElem? (i := 9) rfl)) (ty := (.array .byte)) (by decide) rfl rfl (g := (mkF m 54 #[.val (.ref ths), .val (.ref a), .val (.int (0 : Int32)), .val (.int (2 : Int32)), .val .null, .val (.ref b10)] [(.ref b10), (.ref ths)])) rfl rfl (hb hby d4_54)
  have F32 := F24.same W31
  have F33 := F25.other W31 (Or.inr (slot_ne (Or.inr (hw _ (List.mem_of_getElem? (i := 25) rfl))) (Or.inr (hw _ (List.mem_of_getElem? (i := 24) rfl))) (by decide) (t := .byte) (t' := (.array .byte)) (by decide) (by decide)))
  have F34 := F26.wr W31
  have F35 := F27.other W31 (Ne.symm net)
  have F36 := F28.other W31 (Ne.symm ne11)
  have Z31 : n0 ≤ h31.size := Nat.le_trans Z23 (Keep.of_wr W31).1
  have K31 : Keep h0 h31 [ths] := K23.wr W31 (Or.inl (List.mem_of_getElem? (i := 0) rfl))
  have N31 := Fr.snoc X31 N23 g_t
  have k37 : ∀ t, Steps p.tables e below (T31.setTop (mkF m 57 #[.val (.ref ths), .val (.ref a), .val (.int (0 : Int32)), .val (.int (2 : Int32)), .val .null, .val (.ref b10)] [])) t → Steps p.tables e below (s₁.setTop (entryFrame m #[(.ref ths), (.ref a), (.int (0 : Int32)), (.int (2 : Int32)), .null] 6)) t := fun t kt => k30 t (st31 t kt)
  obtain ⟨fs, hr, hrun, hended, hW, hsame⟩ := X31.leave (v := none) (fun _ => rfl)
  refine ⟨_, _, k37 _ ?_, hrun, hended, _, _, rfl, ?_, ⟨_, rfl⟩, hW, hsame.mono (by decide) (by decide)⟩
  · show Steps p.tables e below (T31.setTop (mkF m 57 #[.val (.ref ths), .val (.ref a), .val (.int (0 : Int32)), .val (.int (2 : Int32)), .val .null, .val (.ref b10)] [])) _
    exact X31.returnOut hx Bd.returns (hb hby d4_57) hr
  · show QSv2 Z ths a u u' ka cs ch0 ch1 h0 n0 _ T31.heap _
    rw [e31]
    exact ⟨rfl, N31, K31, F34, b10, c10k, sz_b10, F32, F33, F36⟩
theorem rmSi2_ef (m : MethodId) (x0 : Addr) (x1 : Addr) : entryFrame m #[(.ref x0), (.ref x1)] 2 = mkF m 0 #[.val (.ref x0), .val (.ref x1)] [] := by first | (simp [entryFrame, mkF, argsToLocals, Value.category]; done) | rfl
def QSi2 (Z : State) (ths : Addr) (a : Addr) (u : Value) (u' : Value) (ka : ClassId) (cs : Int32) (ch0 : Int32) (ch1 : Int32) (h0 : Heap) (n0 : Nat) (v : Option Value) (h : Heap) (L : List Loc) : Prop := v = none ∧ Fr n0 L ∧ Keep h0 h [ths] ∧ Exa Z h ths "java/lang/String" ∧ ∃ (b : Addr) (kb : ClassId), h0.size ≤ b ∧ Fld Z h ths "java/lang/String" "value" "[B" (.ref b) ∧ Fld Z h ths "java/lang/String" "coder" "B" (.int (0 : Int32)) ∧ Arv Z h b kb .byte (2 : Int32) [(.int (ch0.toInt8.toInt32)), (.int (ch1.toInt8.toInt32))] (.int (0 : Int32))
set_option maxRecDepth 65536 in
set_option maxHeartbeats 40000000 in
theorem rmSi2 (l : Launch) (Z : State) (a0 : Array Value) (hw : ∀ d ∈ tables_1, d.before a0 Z = true) (ws : List Jvm.Cond) (ths : Addr) (a : Addr) (u : Value) (u' : Value) (ka : ClassId) (cs : Int32) (ch0 : Int32) (ch1 : Int32) (h0 : Heap) (n0 : Nat) (Z0 : n0 ≤ h0.size) (Fv : Fld Z h0 ths "java/lang/String" "value" "[B" u) (Fc : Fld Z h0 ths "java/lang/String" "coder" "B" u') (Et : Exa Z h0 ths "java/lang/String") (g_t : n0 ≤ ths) (net : ths ≠ a) (Aa : Arv Z h0 a ka .char (2 : Int32) [(.int ch0), (.int ch1)] (.int (0 : Int32))) (SC : Sta Z h0 "java/lang/String" "COMPACT_STRINGS" "Z" (.int cs)) (hcs : ¬ (cs = (0 : Int32))) (hch0 : ¬ ((255 : Int32) < ch0)) (hch1 : ¬ ((255 : Int32) < ch1)) :
    MetFree l (⟨"java/lang/String", "<init>", "([C)V"⟩ : MethodName) (head1 (Jvm.Cond.code (⟨"java/lang/String", "<init>", "([C)V"⟩ : MethodName) jdk_42_method_3_code 2 none :: ws) ({ frames := 3, cells := 1, slots := 2, locals := 52 } : Room)) (fun aA' U => aA' = #[(.ref ths), (.ref a)] ∧ Z.Warmed39 U.vm ∧ U.heap = h0) (fun _ _ _ _ _ => True) (fun _ U oO' U' => ∃ vV' L, oO' = .returned vV' ∧ QSi2 Z ths a u u' ka cs ch0 ch1 h0 n0 vV' U'.heap L ∧ FrameEnd U oO' U' L ({ frames := 3, cells := 1, slots := 2, locals := 52 } : Room).cells ({ frames := 3, cells := 1, slots := 2, locals := 52 } : Room).slots) := by
  refine MetFree.of_bodySF (plainFor_of_name own_pn1) hisR ?_
  intro p e s m args below meth c s₁ Bd hml0 hP hK
  obtain ⟨rfl, hZ, hh⟩ := hP
  have hx := Bd.exec
  have hby := Bd.bytes
  have hml : c.maxLocals = 2 := hml0
  have hown : s.vm.findClass "java/lang/String" = some m.cls := findClass_of_methodNamed Bd.named
  have hnm := (name_of_methodNamed Bd.named Bd.method).1
  have X0 : Stand p l e ({ frames := 3, cells := 1, slots := 2, locals := 52 } : Room) s m #[(.ref ths), (.ref a)] below meth c s₁ [] 0 0 := Stand.of_body Bd
  have e0 : s₁.heap = h0 := by rw [← hh, Bd.state]; rfl
  have N0 := Fr.nil n0
  have K0 : Keep h0 h0 [ths] := Keep.refl _ _
  have k0 : ∀ t, Steps p.tables e below (s₁.setTop (mkF m 0 #[.val (.ref ths), .val (.ref a)] [])) t → Steps p.tables e below (s₁.setTop (entryFrame m #[(.ref ths), (.ref a)] 2)) t := fun t k => castTop (rmSi2_ef m (ths) (a)) k
  have k1 : ∀ t, Steps p.tables e below (s₁.setTop (mkF m 4 #[.val (.ref ths), .val (.ref a)] [(.ref a), (.int (0 : Int32)), (.ref a), (.ref ths)])) t → Steps p.tables e below (s₁.setTop (entryFrame m #[(.ref ths), (.ref a)] 2)) t := by
    intro t kt
    refine k0 t ?_
    show Steps p.tables e below (s₁.setTop (mkF m 0 #[.val (.ref ths), .val (.ref a)] [])) t
    refine XS.aloadN X0.here hx rfl (hb hby d3_0) rfl rfl ?_
    show Steps p.tables e below (s₁.setTop (mkF m 1 #[.val (.ref ths), .val (.ref a)] [(.ref ths)])) t
    refine XS.aloadN X0.here hx rfl (hb hby d3_1) rfl rfl ?_
    show Steps p.tables e below (s₁.setTop (mkF m 2 #[.val (.ref ths), .val (.ref a)] [(.ref a), (.ref ths)])) t
    refine XS.iconst X0.here hx rfl (hb hby d3_2) ?_
    show Steps p.tables e below (s₁.setTop (mkF m 3 #[.val (.ref ths), .val (.ref a)] [(.int (0 : Int32)), (.ref a), (.ref ths)])) t
    refine XS.aloadN X0.here hx rfl (hb hby d3_3) rfl rfl ?_
    exact kt
  obtain ⟨cl2, Ar2, -, S2, M2, -, -⟩ := id Aa
  have k3 : ∀ t, Steps p.tables e below (s₁.setTop (mkF m 5 #[.val (.ref ths), .val (.ref a)] [(.int (2 : Int32)), (.int (0 : Int32)), (.ref a), (.ref ths)])) t → Steps p.tables e below (s₁.setTop (entryFrame m #[(.ref ths), (.ref a)] 2)) t := fun t kt => k1 t (X0.arraylength hx (by rw [e0]; exact Ar2.1) (State.isArrayOf_alike hZ.alike Ar2.2.1) (g := (mkF m 4 #[.val (.ref ths), .val (.ref a)] [(.ref a), (.int (0 : Int32)), (.ref a), (.ref ths)])) rfl rfl (hb hby d3_4) t (by rw [len_of S2 M2]; exact kt))
  have k4 : ∀ t, Steps p.tables e below (s₁.setTop (mkF m 6 #[.val (.ref ths), .val (.ref a)] [.null, (.int (2 : Int32)), (.int (0 : Int32)), (.ref a), (.ref ths)])) t → Steps p.tables e below (s₁.setTop (entryFrame m #[(.ref ths), (.ref a)] 2)) t := by
    intro t kt
    refine k3 t ?_
    show Steps p.tables e below (s₁.setTop (mkF m 5 #[.val (.ref ths), .val (.ref a)] [(.int (2 : Int32)), (.int (0 : Int32)), (.ref a), (.ref ths)])) t
    refine XS.aconstNull X0.here hx rfl (hb hby d3_5) ?_
    exact kt
  obtain ⟨_, _, ⟨T5, L5, k5c, n5⟩, -, X5, ⟨Lc5, hQ5, l5, y5, z5⟩, st5⟩ := X0.specialBack hx (y := (⟨"java/lang/String", "<init>", "([CIILjava/lang/Void;)V"⟩ : MethodName)) rfl hown (mvT hZ (hw _ (List.mem_of_getElem? (i := 15) rfl))) (mvT hZ (hw _ (List.mem_of_getElem? (i := 16) rfl))) (mvT hZ (hw _ (List.mem_of_getElem? (i := 18) rfl))) (by decide) (backOf (W := 0) (rmSv2 l Z a0 hw [] ths a u u' ka cs ch0 ch1 h0 n0 Z0 Fv Fc Et g_t net Aa SC hcs hch0 hch1) hZ (hw _ (List.mem_of_getElem? (i := 18) rfl)) (hw _ (List.mem_of_getElem? (i := 10) rfl)) (by decide) (by decide)) (g := (mkF m 6 #[.val (.ref ths), .val (.ref a)] [.null, (.int (2 : Int32)), (.int (0 : Int32)), (.ref a), (.ref ths)])) rfl (by rw [hml]; rfl) (Steps.refl _) (a := ths) (argsL := [(.ref a), (.int (0 : Int32)), (.int (2 : Int32)), .null]) (rest := []) (lenOf own_pd3 rfl) rfl (by show 2 * 0 + _ ≤ _; exact Nat.le_of_eq rfl) (hb hby d3_6) (fun _ _ => ⟨rfl, e0, (by decide : 0 + 1 ≤ _), (by decide : 0 + 2 ≤ _)⟩)
  dsimp only [Pt.U, Pt.locs, Pt.cells, Pt.slots] at X5 l5 y5 z5 st5 hQ5
  subst l5 y5 z5
  obtain ⟨rfl, N5q, K5k, E5t, b5, c5k, s5z, Fv5, Fc5, A5⟩ := hQ5
  have N5 := Fr.app N0 N5q
  have g_b5 : n0 ≤ b5 := Nat.le_trans Z0 s5z
  have sz_b5 : h0.size ≤ b5 := Nat.le_trans K0.1 s5z
  have ne6 : ths ≠ b5 := Nat.ne_of_lt (Nat.lt_of_lt_of_le Fv.lt s5z)
  have ne7 : a ≠ b5 := Nat.ne_of_lt (Nat.lt_of_lt_of_le Aa.lt s5z)
  have F10 := Et.keep K5k
  have F11 := Aa.keep K5k (ninS (Ne.symm net) nin0)
  have Z13 : n0 ≤ T5.heap.size := Nat.le_trans Z0 K5k.1
  have K13 : Keep h0 T5.heap [ths] := K0.trans K5k (allS (Or.inl (List.mem_of_getElem? (i := 0) rfl)) all0)
  have k14 : ∀ t, Steps p.tables e below (T5.setTop (mkF m 9 #[.val (.ref ths), .val (.ref a)] [])) t → Steps p.tables e below (s₁.setTop (entryFrame m #[(.ref ths), (.ref a)] 2)) t := fun t kt => k4 t (st5.trans kt)
  obtain ⟨fs, hr, hrun, hended, hW, hsame⟩ := X5.leave (v := none) (fun _ => rfl)
  refine ⟨_, _, k14 _ ?_, hrun, hended, _, _, rfl, ?_, ⟨_, rfl⟩, hW, hsame.mono (by decide) (by decide)⟩
  · show Steps p.tables e below (T5.setTop (mkF m 9 #[.val (.ref ths), .val (.ref a)] [])) _
    exact X5.returnOut hx Bd.returns (hb hby d3_9) hr
  · show QSi2 Z ths a u u' ka cs ch0 ch1 h0 n0 _ T5.heap _
    exact ⟨rfl, N5, K13, F10, b5, c5k, sz_b5, Fv5, Fc5, A5⟩
theorem rmCmp3_ef (m : MethodId) (x0 : Addr) (x2 : Addr) : entryFrame m #[(.ref x0), (.int (0 : Int32)), (.ref x2), (.int (0 : Int32)), (.int (3 : Int32))] 7 = mkF m 0 #[.val (.ref x0), .val (.int (0 : Int32)), .val (.ref x2), .val (.int (0 : Int32)), .val (.int (3 : Int32)), .unset, .unset] [] := by first | (simp [entryFrame, mkF, argsToLocals, Value.category]; done) | rfl
def QCmp3 (Z : State) (a : Addr) (b : Addr) (ka : ClassId) (kb : ClassId) (ch0 : Int32) (ch1 : Int32) (ch2 : Int32) (h0 : Heap) (n0 : Nat) (v : Option Value) (h : Heap) (L : List Loc) : Prop := v = some (.int (3 : Int32)) ∧ Fr n0 L ∧ Keep h0 h [b] ∧ Arv Z h b kb .byte (3 : Int32) [(.int (ch0.toInt8.toInt32)), (.int (ch1.toInt8.toInt32)), (.int (ch2.toInt8.toInt32))] (.int (0 : Int32))
set_option maxRecDepth 65536 in
set_option maxHeartbeats 40000000 in
theorem rmCmp3 (l : Launch) (Z : State) (a0 : Array Value) (hw : ∀ d ∈ tables_1, d.before a0 Z = true) (ws : List Jvm.Cond) (a : Addr) (b : Addr) (ka : ClassId) (kb : ClassId) (ch0 : Int32) (ch1 : Int32) (ch2 : Int32) (h0 : Heap) (n0 : Nat) (Z0 : n0 ≤ h0.size) (Aa : Arv Z h0 a ka .char (3 : Int32) [(.int ch0), (.int ch1), (.int ch2)] (.int (0 : Int32))) (Ab : Arv Z h0 b kb .byte (3 : Int32) [(.int (0 : Int32)), (.int (0 : Int32)), (.int (0 : Int32))] (.int (0 : Int32))) (g_b : n0 ≤ b) (ne : a ≠ b) (hch0 : ¬ ((255 : Int32) < ch0)) (hch1 : ¬ ((255 : Int32) < ch1)) (hch2 : ¬ ((255 : Int32) < ch2)) :
    MetFree l (⟨"java/lang/StringUTF16", "compress", "([CI[BII)I"⟩ : MethodName) (head1 (Jvm.Cond.code (⟨"java/lang/StringUTF16", "compress", "([CI[BII)I"⟩ : MethodName) jdk_52_method_21_code 7 (some .int) :: ws) ({ frames := 0, cells := 0, slots := 0, locals := 0 } : Room)) (fun aA' U => aA' = #[(.ref a), (.int (0 : Int32)), (.ref b), (.int (0 : Int32)), (.int (3 : Int32))] ∧ Z.Warmed39 U.vm ∧ U.heap = h0) (fun _ _ _ _ _ => True) (fun _ U oO' U' => ∃ vV' L, oO' = .returned vV' ∧ QCmp3 Z a b ka kb ch0 ch1 ch2 h0 n0 vV' U'.heap L ∧ FrameEnd U oO' U' L ({ frames := 0, cells := 0, slots := 0, locals := 0 } : Room).cells ({ frames := 0, cells := 0, slots := 0, locals := 0 } : Room).slots) := by
  refine MetFree.of_bodySF (plainFor_of_name own_pn0) hisR ?_
  intro p e s m args below meth c s₁ Bd hml0 hP hK
  obtain ⟨rfl, hZ, hh⟩ := hP
  have hx := Bd.exec
  have hby := Bd.bytes
  have hml : c.maxLocals = 7 := hml0
  have hown : s.vm.findClass "java/lang/StringUTF16" = some m.cls := findClass_of_methodNamed Bd.named
  have hnm := (name_of_methodNamed Bd.named Bd.method).1
  have X0 : Stand p l e ({ frames := 0, cells := 0, slots := 0, locals := 0 } : Room) s m #[(.ref a), (.int (0 : Int32)), (.ref b), (.int (0 : Int32)), (.int (3 : Int32))] below meth c s₁ [] 0 0 := Stand.of_body Bd
  have e0 : s₁.heap = h0 := by rw [← hh, Bd.state]; rfl
  have N0 := Fr.nil n0
  have K0 : Keep h0 h0 [b] := Keep.refl _ _
  have k0 : ∀ t, Steps p.tables e below (s₁.setTop (mkF m 0 #[.val (.ref a), .val (.int (0 : Int32)), .val (.ref b), .val (.int (0 : Int32)), .val (.int (3 : Int32)), .unset, .unset] [])) t → Steps p.tables e below (s₁.setTop (entryFrame m #[(.ref a), (.int (0 : Int32)), (.ref b), (.int (0 : Int32)), (.int (3 : Int32))] 7)) t := fun t k => castTop (rmCmp3_ef m (a) (b)) k
  have hc7_1 : (0 : Int32) < (3 : Int32) := by decide
  have k2 : ∀ t, Steps p.tables e below (s₁.setTop (mkF m 12 #[.val (.ref a), .val (.int (0 : Int32)), .val (.ref b), .val (.int (0 : Int32)), .val (.int (3 : Int32)), .val (.int (0 : Int32)), .unset] [(.int (0 : Int32)), (.ref a)])) t → Steps p.tables e below (s₁.setTop (entryFrame m #[(.ref a), (.int (0 : Int32)), (.ref b), (.int (0 : Int32)), (.int (3 : Int32))] 7)) t := by
    intro t kt
    refine k0 t ?_
    show Steps p.tables e below (s₁.setTop (mkF m 0 #[.val (.ref a), .val (.int (0 : Int32)), .val (.ref b), .val (.int (0 : Int32)), .val (.int (3 : Int32)), .unset, .unset] [])) t
    refine XS.iconst X0.here hx rfl (hb hby d10_0) ?_
    show Steps p.tables e below (s₁.setTop (mkF m 1 #[.val (.ref a), .val (.int (0 : Int32)), .val (.ref b), .val (.int (0 : Int32)), .val (.int (3 : Int32)), .unset, .unset] [(.int (0 : Int32))])) t
    refine XS.istore X0.here hx rfl (hb hby d10_1) rfl (l' := #[.val (.ref a), .val (.int (0 : Int32)), .val (.ref b), .val (.int (0 : Int32)), .val (.int (3 : Int32)), .val (.int (0 : Int32)), .unset]) rfl ?_
    show Steps p.tables e below (s₁.setTop (mkF m 3 #[.val (.ref a), .val (.int (0 : Int32)), .val (.ref b), .val (.int (0 : Int32)), .val (.int (3 : Int32)), .val (.int (0 : Int32)), .unset] [])) t
    refine XS.iload X0.here hx rfl (hb hby d10_3) rfl ?_
    show Steps p.tables e below (s₁.setTop (mkF m 5 #[.val (.ref a), .val (.int (0 : Int32)), .val (.ref b), .val (.int (0 : Int32)), .val (.int (3 : Int32)), .val (.int (0 : Int32)), .unset] [(.int (0 : Int32))])) t
    refine XS.iload X0.here hx rfl (hb hby d10_5) rfl ?_
    show Steps p.tables e below (s₁.setTop (mkF m 7 #[.val (.ref a), .val (.int (0 : Int32)), .val (.ref b), .val (.int (0 : Int32)), .val (.int (3 : Int32)), .val (.int (0 : Int32)), .unset] [(.int (3 : Int32)), (.int (0 : Int32))])) t
    refine XS.icmpNo X0.here hx rfl (hb hby d10_7) rfl (tlt hc7_1).2.1 ?_
    show Steps p.tables e below (s₁.setTop (mkF m 10 #[.val (.ref a), .val (.int (0 : Int32)), .val (.ref b), .val (.int (0 : Int32)), .val (.int (3 : Int32)), .val (.int (0 : Int32)), .unset] [])) t
    refine XS.aloadN X0.here hx rfl (hb hby d10_10) rfl rfl ?_
    show Steps p.tables e below (s₁.setTop (mkF m 11 #[.val (.ref a), .val (.int (0 : Int32)), .val (.ref b), .val (.int (0 : Int32)), .val (.int (3 : Int32)), .val (.int (0 : Int32)), .unset] [(.ref a)])) t
    refine XS.iloadN X0.here hx rfl (hb hby d10_11) rfl ?_
    exact kt
  obtain ⟨cl3, Ar3, q3, S3, M3, H3, G3⟩ := id Aa
  have hin3 : ¬ ((0 : Int32) < 0 ∨ cl3.slots.size ≤ ((0 : Int32)).toNatClampNeg) := inb_of S3 ⟨by decide, by decide⟩
  have hat3 : cl3.slots[((0 : Int32)).toNatClampNeg]? = some (.int ch0) := Has.at H3 hin3 rfl
  have k4 : ∀ t, Steps p.tables e below (s₁.setTop (mkF m 13 #[.val (.ref a), .val (.int (0 : Int32)), .val (.ref b), .val (.int (0 : Int32)), .val (.int (3 : Int32)), .val (.int (0 : Int32)), .unset] [(.int ch0)])) t → Steps p.tables e below (s₁.setTop (entryFrame m #[(.ref a), (.int (0 : Int32)), (.ref b), (.int (0 : Int32)), (.int (3 : Int32))] 7)) t := fun t kt => k2 t (X0.caload hx (j := (0 : Int32)) (v := (.int ch0)) (by rw [e0]; exact Ar3.1) (State.isArrayOf_alike hZ.alike Ar3.2.1) Ar3.2.2 hin3 hat3 (g := (mkF m 12 #[.val (.ref a), .val (.int (0 : Int32)), .val (.ref b), .val (.int (0 : Int32)), .val (.int (3 : Int32)), .val (.int (0 : Int32)), .unset] [(.int (0 : Int32)), (.ref a)])) rfl rfl (hb hby d10_12) t kt)
  have k6 : ∀ t, Steps p.tables e below (s₁.setTop (mkF m 31 #[.val (.ref a), .val (.int (0 : Int32)), .val (.ref b), .val (.int (0 : Int32)), .val (.int (3 : Int32)), .val (.int (0 : Int32)), .val (.int ch0)] [(.int (ch0.toInt8.toInt32)), (.int (0 : Int32)), (.ref b)])) t → Steps p.tables e below (s₁.setTop (entryFrame m #[(.ref a), (.int (0 : Int32)), (.ref b), (.int (0 : Int32)), (.int (3 : Int32))] 7)) t := by
    intro t kt
    refine k4 t ?_
    show Steps p.tables e below (s₁.setTop (mkF m 13 #[.val (.ref a), .val (.int (0 : Int32)), .val (.ref b), .val (.int (0 : Int32)), .val (.int (3 : Int32)), .val (.int (0 : Int32)), .unset] [(.int ch0)])) t
    refine XS.istore X0.here hx rfl (hb hby d10_13) rfl (l' := #[.val (.ref a), .val (.int (0 : Int32)), .val (.ref b), .val (.int (0 : Int32)), .val (.int (3 : Int32)), .val (.int (0 : Int32)), .val (.int ch0)]) rfl ?_
    show Steps p.tables e below (s₁.setTop (mkF m 15 #[.val (.ref a), .val (.int (0 : Int32)), .val (.ref b), .val (.int (0 : Int32)), .val (.int (3 : Int32)), .val (.int (0 : Int32)), .val (.int ch0)] [])) t
    refine XS.iload X0.here hx rfl (hb hby d10_15) rfl ?_
    show Steps p.tables e below (s₁.setTop (mkF m 17 #[.val (.ref a), .val (.int (0 : Int32)), .val (.ref b), .val (.int (0 : Int32)), .val (.int (3 : Int32)), .val (.int (0 : Int32)), .val (.int ch0)] [(.int ch0)])) t
    refine XS.sipush X0.here hx rfl (hb hby d10_17) ?_
    show Steps p.tables e below (s₁.setTop (mkF m 20 #[.val (.ref a), .val (.int (0 : Int32)), .val (.ref b), .val (.int (0 : Int32)), .val (.int (3 : Int32)), .val (.int (0 : Int32)), .val (.int ch0)] [(.int (255 : Int32)), (.int ch0)])) t
    refine XS.icmpYes X0.here hx rfl (pc0 := 20) (pc' := 26) rfl (hb hby d10_20) rfl (flt hch0).2.2.2 (by decide) (by decide) ?_
    show Steps p.tables e below (s₁.setTop (mkF m 26 #[.val (.ref a), .val (.int (0 : Int32)), .val (.ref b), .val (.int (0 : Int32)), .val (.int (3 : Int32)), .val (.int (0 : Int32)), .val (.int ch0)] [])) t
    refine XS.aloadN X0.here hx rfl (hb hby d10_26) rfl rfl ?_
    show Steps p.tables e below (s₁.setTop (mkF m 27 #[.val (.ref a), .val (.int (0 : Int32)), .val (.ref b), .val (.int (0 : Int32)), .val (.int (3 : Int32)), .val (.int (0 : Int32)), .val (.int ch0)] [(.ref b)])) t
    refine XS.iloadN X0.here hx rfl (hb hby d10_27) rfl ?_
    show Steps p.tables e below (s₁.setTop (mkF m 28 #[.val (.ref a), .val (.int (0 : Int32)), .val (.ref b), .val (.int (0 : Int32)), .val (.int (3 : Int32)), .val (.int (0 : Int32)), .val (.int ch0)] [(.int (0 : Int32)), (.ref b)])) t
    refine XS.iload X0.here hx rfl (hb hby d10_28) rfl ?_
    show Steps p.tables e below (s₁.setTop (mkF m 30 #[.val (.ref a), .val (.int (0 : Int32)), .val (.ref b), .val (.int (0 : Int32)), .val (.int (3 : Int32)), .val (.int (0 : Int32)), .val (.int ch0)] [(.int ch0), (.int (0 : Int32)), (.ref b)])) t
    refine XS.i2b X0.here hx rfl (hb hby d10_30) rfl ?_
    exact kt
  obtain ⟨cl7, Ar7, q7, S7, M7, H7, G7⟩ := id Ab
  have hin7 : ¬ ((0 : Int32) < 0 ∨ cl7.slots.size ≤ ((0 : Int32)).toNatClampNeg) := inb_of S7 ⟨by decide, by decide⟩
  obtain ⟨T7, h7, X7, e7, W7, st7⟩ := stB X0 hx hZ e0 Ar7 (j := (0 : Int32)) hin7 (g := (mkF m 31 #[.val (.ref a), .val (.int (0 : Int32)), .val (.ref b), .val (.int (0 : Int32)), .val (.int (3 : Int32)), .val (.int (0 : Int32)), .val (.int ch0)] [(.int (ch0.toInt8.toInt32)), (.int (0 : Int32)), (.ref b)])) rfl rfl (hb hby d10_31)
  have F8 : Arv Z h7 b kb .byte (3 : Int32) [(.int ((ch0.toInt8.toInt32).toInt8.toInt32)), (.int (0 : Int32)), (.int (0 : Int32))] (.int (0 : Int32)) := Arv.set Ar7 q7 S7 M7 H7 G7 (fits_nar_byte _) W7 0 rfl (Nat.le_of_ble_eq_true rfl)
  have F9 := Aa.other W7 ne
  have Z7 : n0 ≤ h7.size := Nat.le_trans Z0 (Keep.of_wr W7).1
  have K7 : Keep h0 h7 [b] := K0.wr W7 (Or.inl (List.mem_of_getElem? (i := 0) rfl))
  have N7 := Fr.snoc X7 N0 g_b
  have k11 : ∀ t, Steps p.tables e below (T7.setTop (mkF m 32 #[.val (.ref a), .val (.int (0 : Int32)), .val (.ref b), .val (.int (0 : Int32)), .val (.int (3 : Int32)), .val (.int (0 : Int32)), .val (.int ch0)] [])) t → Steps p.tables e below (s₁.setTop (entryFrame m #[(.ref a), (.int (0 : Int32)), (.ref b), (.int (0 : Int32)), (.int (3 : Int32))] 7)) t := fun t kt => k6 t (st7 t kt)
  have hc7_12 : (1 : Int32) < (3 : Int32) := by decide
  have k13 : ∀ t, Steps p.tables e below (T7.setTop (mkF m 12 #[.val (.ref a), .val (.int (1 : Int32)), .val (.ref b), .val (.int (1 : Int32)), .val (.int (3 : Int32)), .val (.int (1 : Int32)), .val (.int ch0)] [(.int (1 : Int32)), (.ref a)])) t → Steps p.tables e below (s₁.setTop (entryFrame m #[(.ref a), (.int (0 : Int32)), (.ref b), (.int (0 : Int32)), (.int (3 : Int32))] 7)) t := by
    intro t kt
    refine k11 t ?_
    show Steps p.tables e below (T7.setTop (mkF m 32 #[.val (.ref a), .val (.int (0 : Int32)), .val (.ref b), .val (.int (0 : Int32)), .val (.int (3 : Int32)), .val (.int (0 : Int32)), .val (.int ch0)] [])) t
    refine XS.iinc X7.here hx rfl (hb hby d10_32) rfl (l' := #[.val (.ref a), .val (.int (1 : Int32)), .val (.ref b), .val (.int (0 : Int32)), .val (.int (3 : Int32)), .val (.int (0 : Int32)), .val (.int ch0)]) rfl ?_
    show Steps p.tables e below (T7.setTop (mkF m 35 #[.val (.ref a), .val (.int (1 : Int32)), .val (.ref b), .val (.int (0 : Int32)), .val (.int (3 : Int32)), .val (.int (0 : Int32)), .val (.int ch0)] [])) t
    refine XS.iinc X7.here hx rfl (hb hby d10_35) rfl (l' := #[.val (.ref a), .val (.int (1 : Int32)), .val (.ref b), .val (.int (1 : Int32)), .val (.int (3 : Int32)), .val (.int (0 : Int32)), .val (.int ch0)]) rfl ?_
    show Steps p.tables e below (T7.setTop (mkF m 38 #[.val (.ref a), .val (.int (1 : Int32)), .val (.ref b), .val (.int (1 : Int32)), .val (.int (3 : Int32)), .val (.int (0 : Int32)), .val (.int ch0)] [])) t
    refine XS.iinc X7.here hx rfl (hb hby d10_38) rfl (l' := #[.val (.ref a), .val (.int (1 : Int32)), .val (.ref b), .val (.int (1 : Int32)), .val (.int (3 : Int32)), .val (.int (1 : Int32)), .val (.int ch0)]) rfl ?_
    show Steps p.tables e below (T7.setTop (mkF m 41 #[.val (.ref a), .val (.int (1 : Int32)), .val (.ref b), .val (.int (1 : Int32)), .val (.int (3 : Int32)), .val (.int (1 : Int32)), .val (.int ch0)] [])) t
    refine XS.goto X7.here hx rfl (pc0 := 41) (pc' := 3) rfl (hb hby d10_41) (by decide) (by decide) ?_
    show Steps p.tables e below (T7.setTop (mkF m 3 #[.val (.ref a), .val (.int (1 : Int32)), .val (.ref b), .val (.int (1 : Int32)), .val (.int (3 : Int32)), .val (.int (1 : Int32)), .val (.int ch0)] [])) t
    refine XS.iload X7.here hx rfl (hb hby d10_3) rfl ?_
    show Steps p.tables e below (T7.setTop (mkF m 5 #[.val (.ref a), .val (.int (1 : Int32)), .val (.ref b), .val (.int (1 : Int32)), .val (.int (3 : Int32)), .val (.int (1 : Int32)), .val (.int ch0)] [(.int (1 : Int32))])) t
    refine XS.iload X7.here hx rfl (hb hby d10_5) rfl ?_
    show Steps p.tables e below (T7.setTop (mkF m 7 #[.val (.ref a), .val (.int (1 : Int32)), .val (.ref b), .val (.int (1 : Int32)), .val (.int (3 : Int32)), .val (.int (1 : Int32)), .val (.int ch0)] [(.int (3 : Int32)), (.int (1 : Int32))])) t
    refine XS.icmpNo X7.here hx rfl (hb hby d10_7) rfl (tlt hc7_12).2.1 ?_
    show Steps p.tables e below (T7.setTop (mkF m 10 #[.val (.ref a), .val (.int (1 : Int32)), .val (.ref b), .val (.int (1 : Int32)), .val (.int (3 : Int32)), .val (.int (1 : Int32)), .val (.int ch0)] [])) t
    refine XS.aloadN X7.here hx rfl (hb hby d10_10) rfl rfl ?_
    show Steps p.tables e below (T7.setTop (mkF m 11 #[.val (.ref a), .val (.int (1 : Int32)), .val (.ref b), .val (.int (1 : Int32)), .val (.int (3 : Int32)), .val (.int (1 : Int32)), .val (.int ch0)] [(.ref a)])) t
    refine XS.iloadN X7.here hx rfl (hb hby d10_11) rfl ?_
    exact kt
  obtain ⟨cl14, Ar14, q14, S14, M14, H14, G14⟩ := id F9
  have hin14 : ¬ ((1 : Int32) < 0 ∨ cl14.slots.size ≤ ((1 : Int32)).toNatClampNeg) := inb_of S14 ⟨by decide, by decide⟩
  have hat14 : cl14.slots[((1 : Int32)).toNatClampNeg]? = some (.int ch1) := Has.at H14 hin14 rfl
  have k15 : ∀ t, Steps p.tables e below (T7.setTop (mkF m 13 #[.val (.ref a), .val (.int (1 : Int32)), .val (.ref b), .val (.int (1 : Int32)), .val (.int (3 : Int32)), .val (.int (1 : Int32)), .val (.int ch0)] [(.int ch1)])) t → Steps p.tables e below (s₁.setTop (entryFrame m #[(.ref a), (.int (0 : Int32)), (.ref b), (.int (0 : Int32)), (.int (3 : Int32))] 7)) t := fun t kt => k13 t (X7.caload hx (j := (1 : Int32)) (v := (.int ch1)) (by rw [e7]; exact Ar14.1) (State.isArrayOf_alike hZ.alike Ar14.2.1) Ar14.2.2 hin14 hat14 (g := (mkF m 12 #[.val (.ref a), .val (.int (1 : Int32)), .val (.ref b), .val (.int (1 : Int32)), .val (.int (3 : Int32)), .val (.int (1 : Int32)), .val (.int ch0)] [(.int (1 : Int32)), (.ref a)])) rfl rfl (hb hby d10_12) t kt)
  have k17 : ∀ t, Steps p.tables e below (T7.setTop (mkF m 31 #[.val (.ref a), .val (.int (1 : Int32)), .val (.ref b), .val (.int (1 : Int32)), .val (.int (3 : Int32)), .val (.int (1 : Int32)), .val (.int ch1)] [(.int (ch1.toInt8.toInt32)), (.int (1 : Int32)), (.ref b)])) t → Steps p.tables e below (s₁.setTop (entryFrame m #[(.ref a), (.int (0 : Int32)), (.ref b), (.int (0 : Int32)), (.int (3 : Int32))] 7)) t := by
    intro t kt
    refine k15 t ?_
    show Steps p.tables e below (T7.setTop (mkF m 13 #[.val (.ref a), .val (.int (1 : Int32)), .val (.ref b), .val (.int (1 : Int32)), .val (.int (3 : Int32)), .val (.int (1 : Int32)), .val (.int ch0)] [(.int ch1)])) t
    refine XS.istore X7.here hx rfl (hb hby d10_13) rfl (l' := #[.val (.ref a), .val (.int (1 : Int32)), .val (.ref b), .val (.int (1 : Int32)), .val (.int (3 : Int32)), .val (.int (1 : Int32)), .val (.int ch1)]) rfl ?_
    show Steps p.tables e below (T7.setTop (mkF m 15 #[.val (.ref a), .val (.int (1 : Int32)), .val (.ref b), .val (.int (1 : Int32)), .val (.int (3 : Int32)), .val (.int (1 : Int32)), .val (.int ch1)] [])) t
    refine XS.iload X7.here hx rfl (hb hby d10_15) rfl ?_
    show Steps p.tables e below (T7.setTop (mkF m 17 #[.val (.ref a), .val (.int (1 : Int32)), .val (.ref b), .val (.int (1 : Int32)), .val (.int (3 : Int32)), .val (.int (1 : Int32)), .val (.int ch1)] [(.int ch1)])) t
    refine XS.sipush X7.here hx rfl (hb hby d10_17) ?_
    show Steps p.tables e below (T7.setTop (mkF m 20 #[.val (.ref a), .val (.int (1 : Int32)), .val (.ref b), .val (.int (1 : Int32)), .val (.int (3 : Int32)), .val (.int (1 : Int32)), .val (.int ch1)] [(.int (255 : Int32)), (.int ch1)])) t
    refine XS.icmpYes X7.here hx rfl (pc0 := 20) (pc' := 26) rfl (hb hby d10_20) rfl (flt hch1).2.2.2 (by decide) (by decide) ?_
    show Steps p.tables e below (T7.setTop (mkF m 26 #[.val (.ref a), .val (.int (1 : Int32)), .val (.ref b), .val (.int (1 : Int32)), .val (.int (3 : Int32)), .val (.int (1 : Int32)), .val (.int ch1)] [])) t
    refine XS.aloadN X7.here hx rfl (hb hby d10_26) rfl rfl ?_
    show Steps p.tables e below (T7.setTop (mkF m 27 #[.val (.ref a), .val (.int (1 : Int32)), .val (.ref b), .val (.int (1 : Int32)), .val (.int (3 : Int32)), .val (.int (1 : Int32)), .val (.int ch1)] [(.ref b)])) t
    refine XS.iloadN X7.here hx rfl (hb hby d10_27) rfl ?_
    show Steps p.tables e below (T7.setTop (mkF m 28 #[.val (.ref a), .val (.int (1 : Int32)), .val (.ref b), .val (.int (1 : Int32)), .val (.int (3 : Int32)), .val (.int (1 : Int32)), .val (.int ch1)] [(.int (1 : Int32)), (.ref b)])) t
    refine XS.iload X7.here hx rfl (hb hby d10_28) rfl ?_
    show Steps p.tables e below (T7.setTop (mkF m 30 #[.val (.ref a), .val (.int (1 : Int32)), .val (.ref b), .val (.int (1 : Int32)), .val (.int (3 : Int32)), .val (.int (1 : Int32)), .val (.int ch1)] [(.int ch1), (.int (1 : Int32)), (.ref b)])) t
    refine XS.i2b X7.here hx rfl (hb hby d10_30) rfl ?_
    exact kt
  obtain ⟨cl18, Ar18, q18, S18, M18, H18, G18⟩ := id F8
  have hin18 : ¬ ((1 : Int32) < 0 ∨ cl18.slots.size ≤ ((1 : Int32)).toNatClampNeg) := inb_of S18 ⟨by decide, by decide⟩
  obtain ⟨T18, h18, X18, e18, W18, st18⟩ := stB X7 hx hZ e7 Ar18 (j := (1 : Int32)) hin18 (g := (mkF m 31 #[.val (.ref a), .val (.int (1 : Int32)), .val (.ref b), .val (.int (1 : Int32)), .val (.int (3 : Int32)), .val (.int (1 : Int32)), .val (.int ch1)] [(.int (ch1.toInt8.toInt32)), (.int (1 : Int32)), (.ref b)])) rfl rfl (hb hby d10_31)
  have F19 : Arv Z h18 b kb .byte (3 : Int32) [(.int ((ch0.toInt8.toInt32).toInt8.toInt32)), (.int ((ch1.toInt8.toInt32).toInt8.toInt32)), (.int (0 : Int32))] (.int (0 : Int32)) := Arv.set Ar18 q18 S18 M18 H18 G18 (fits_nar_byte _) W18 1 rfl (Nat.le_of_ble_eq_true rfl)
  have F20 := F9.other W18 ne
  have Z18 : n0 ≤ h18.size := Nat.le_trans Z7 (Keep.of_wr W18).1
  have K18 : Keep h0 h18 [b] := K7.wr W18 (Or.inl (List.mem_of_getElem? (i := 0) rfl))
  have N18 := Fr.snoc X18 N7 g_b
  have k22 : ∀ t, Steps p.tables e below (T18.setTop (mkF m 32 #[.val (.ref a), .val (.int (1 : Int32)), .val (.ref b), .val (.int (1 : Int32)), .val (.int (3 : Int32)), .val (.int (1 : Int32)), .val (.int ch1)] [])) t → Steps p.tables e below (s₁.setTop (entryFrame m #[(.ref a), (.int (0 : Int32)), (.ref b), (.int (0 : Int32)), (.int (3 : Int32))] 7)) t := fun t kt => k17 t (st18 t kt)
  have hc7_23 : (2 : Int32) < (3 : Int32) := by decide
  have k24 : ∀ t, Steps p.tables e below (T18.setTop (mkF m 12 #[.val (.ref a), .val (.int (2 : Int32)), .val (.ref b), .val (.int (2 : Int32)), .val (.int (3 : Int32)), .val (.int (2 : Int32)), .val (.int ch1)] [(.int (2 : Int32)), (.ref a)])) t → Steps p.tables e below (s₁.setTop (entryFrame m #[(.ref a), (.int (0 : Int32)), (.ref b), (.int (0 : Int32)), (.int (3 : Int32))] 7)) t := by
    intro t kt
    refine k22 t ?_
    show Steps p.tables e below (T18.setTop (mkF m 32 #[.val (.ref a), .val (.int (1 : Int32)), .val (.ref b), .val (.int (1 : Int32)), .val (.int (3 : Int32)), .val (.int (1 : Int32)), .val (.int ch1)] [])) t
    refine XS.iinc X18.here hx rfl (hb hby d10_32) rfl (l' := #[.val (.ref a), .val (.int (2 : Int32)), .val (.ref b), .val (.int (1 : Int32)), .val (.int (3 : Int32)), .val (.int (1 : Int32)), .val (.int ch1)]) rfl ?_
    show Steps p.tables e below (T18.setTop (mkF m 35 #[.val (.ref a), .val (.int (2 : Int32)), .val (.ref b), .val (.int (1 : Int32)), .val (.int (3 : Int32)), .val (.int (1 : Int32)), .val (.int ch1)] [])) t
    refine XS.iinc X18.here hx rfl (hb hby d10_35) rfl (l' := #[.val (.ref a), .val (.int (2 : Int32)), .val (.ref b), .val (.int (2 : Int32)), .val (.int (3 : Int32)), .val (.int (1 : Int32)), .val (.int ch1)]) rfl ?_
    show Steps p.tables e below (T18.setTop (mkF m 38 #[.val (.ref a), .val (.int (2 : Int32)), .val (.ref b), .val (.int (2 : Int32)), .val (.int (3 : Int32)), .val (.int (1 : Int32)), .val (.int ch1)] [])) t
    refine XS.iinc X18.here hx rfl (hb hby d10_38) rfl (l' := #[.val (.ref a), .val (.int (2 : Int32)), .val (.ref b), .val (.int (2 : Int32)), .val (.int (3 : Int32)), .val (.int (2 : Int32)), .val (.int ch1)]) rfl ?_
    show Steps p.tables e below (T18.setTop (mkF m 41 #[.val (.ref a), .val (.int (2 : Int32)), .val (.ref b), .val (.int (2 : Int32)), .val (.int (3 : Int32)), .val (.int (2 : Int32)), .val (.int ch1)] [])) t
    refine XS.goto X18.here hx rfl (pc0 := 41) (pc' := 3) rfl (hb hby d10_41) (by decide) (by decide) ?_
    show Steps p.tables e below (T18.setTop (mkF m 3 #[.val (.ref a), .val (.int (2 : Int32)), .val (.ref b), .val (.int (2 : Int32)), .val (.int (3 : Int32)), .val (.int (2 : Int32)), .val (.int ch1)] [])) t
    refine XS.iload X18.here hx rfl (hb hby d10_3) rfl ?_
    show Steps p.tables e below (T18.setTop (mkF m 5 #[.val (.ref a), .val (.int (2 : Int32)), .val (.ref b), .val (.int (2 : Int32)), .val (.int (3 : Int32)), .val (.int (2 : Int32)), .val (.int ch1)] [(.int (2 : Int32))])) t
    refine XS.iload X18.here hx rfl (hb hby d10_5) rfl ?_
    show Steps p.tables e below (T18.setTop (mkF m 7 #[.val (.ref a), .val (.int (2 : Int32)), .val (.ref b), .val (.int (2 : Int32)), .val (.int (3 : Int32)), .val (.int (2 : Int32)), .val (.int ch1)] [(.int (3 : Int32)), (.int (2 : Int32))])) t
    refine XS.icmpNo X18.here hx rfl (hb hby d10_7) rfl (tlt hc7_23).2.1 ?_
    show Steps p.tables e below (T18.setTop (mkF m 10 #[.val (.ref a), .val (.int (2 : Int32)), .val (.ref b), .val (.int (2 : Int32)), .val (.int (3 : Int32)), .val (.int (2 : Int32)), .val (.int ch1)] [])) t
    refine XS.aloadN X18.here hx rfl (hb hby d10_10) rfl rfl ?_
    show Steps p.tables e below (T18.setTop (mkF m 11 #[.val (.ref a), .val (.int (2 : Int32)), .val (.ref b), .val (.int (2 : Int32)), .val (.int (3 : Int32)), .val (.int (2 : Int32)), .val (.int ch1)] [(.ref a)])) t
    refine XS.iloadN X18.here hx rfl (hb hby d10_11) rfl ?_
    exact kt
  obtain ⟨cl25, Ar25, q25, S25, M25, H25, G25⟩ := id F20
  have hin25 : ¬ ((2 : Int32) < 0 ∨ cl25.slots.size ≤ ((2 : Int32)).toNatClampNeg) := inb_of S25 ⟨by decide, by decide⟩
  have hat25 : cl25.slots[((2 : Int32)).toNatClampNeg]? = some (.int ch2) := Has.at H25 hin25 rfl
  have k26 : ∀ t, Steps p.tables e below (T18.setTop (mkF m 13 #[.val (.ref a), .val (.int (2 : Int32)), .val (.ref b), .val (.int (2 : Int32)), .val (.int (3 : Int32)), .val (.int (2 : Int32)), .val (.int ch1)] [(.int ch2)])) t → Steps p.tables e below (s₁.setTop (entryFrame m #[(.ref a), (.int (0 : Int32)), (.ref b), (.int (0 : Int32)), (.int (3 : Int32))] 7)) t := fun t kt => k24 t (X18.caload hx (j := (2 : Int32)) (v := (.int ch2)) (by rw [e18]; exact Ar25.1) (State.isArrayOf_alike hZ.alike Ar25.2.1) Ar25.2.2 hin25 hat25 (g := (mkF m 12 #[.val (.ref a), .val (.int (2 : Int32)), .val (.ref b), .val (.int (2 : Int32)), .val (.int (3 : Int32)), .val (.int (2 : Int32)), .val (.int ch1)] [(.int (2 : Int32)), (.ref a)])) rfl rfl (hb hby d10_12) t kt)
  have k28 : ∀ t, Steps p.tables e below (T18.setTop (mkF m 31 #[.val (.ref a), .val (.int (2 : Int32)), .val (.ref b), .val (.int (2 : Int32)), .val (.int (3 : Int32)), .val (.int (2 : Int32)), .val (.int ch2)] [(.int (ch2.toInt8.toInt32)), (.int (2 : Int32)), (.ref b)])) t → Steps p.tables e below (s₁.setTop (entryFrame m #[(.ref a), (.int (0 : Int32)), (.ref b), (.int (0 : Int32)), (.int (3 : Int32))] 7)) t := by
    intro t kt
    refine k26 t ?_
    show Steps p.tables e below (T18.setTop (mkF m 13 #[.val (.ref a), .val (.int (2 : Int32)), .val (.ref b), .val (.int (2 : Int32)), .val (.int (3 : Int32)), .val (.int (2 : Int32)), .val (.int ch1)] [(.int ch2)])) t
    refine XS.istore X18.here hx rfl (hb hby d10_13) rfl (l' := #[.val (.ref a), .val (.int (2 : Int32)), .val (.ref b), .val (.int (2 : Int32)), .val (.int (3 : Int32)), .val (.int (2 : Int32)), .val (.int ch2)]) rfl ?_
    show Steps p.tables e below (T18.setTop (mkF m 15 #[.val (.ref a), .val (.int (2 : Int32)), .val (.ref b), .val (.int (2 : Int32)), .val (.int (3 : Int32)), .val (.int (2 : Int32)), .val (.int ch2)] [])) t
    refine XS.iload X18.here hx rfl (hb hby d10_15) rfl ?_
    show Steps p.tables e below (T18.setTop (mkF m 17 #[.val (.ref a), .val (.int (2 : Int32)), .val (.ref b), .val (.int (2 : Int32)), .val (.int (3 : Int32)), .val (.int (2 : Int32)), .val (.int ch2)] [(.int ch2)])) t
    refine XS.sipush X18.here hx rfl (hb hby d10_17) ?_
    show Steps p.tables e below (T18.setTop (mkF m 20 #[.val (.ref a), .val (.int (2 : Int32)), .val (.ref b), .val (.int (2 : Int32)), .val (.int (3 : Int32)), .val (.int (2 : Int32)), .val (.int ch2)] [(.int (255 : Int32)), (.int ch2)])) t
    refine XS.icmpYes X18.here hx rfl (pc0 := 20) (pc' := 26) rfl (hb hby d10_20) rfl (flt hch2).2.2.2 (by decide) (by decide) ?_
    show Steps p.tables e below (T18.setTop (mkF m 26 #[.val (.ref a), .val (.int (2 : Int32)), .val (.ref b), .val (.int (2 : Int32)), .val (.int (3 : Int32)), .val (.int (2 : Int32)), .val (.int ch2)] [])) t
    refine XS.aloadN X18.here hx rfl (hb hby d10_26) rfl rfl ?_
    show Steps p.tables e below (T18.setTop (mkF m 27 #[.val (.ref a), .val (.int (2 : Int32)), .val (.ref b), .val (.int (2 : Int32)), .val (.int (3 : Int32)), .val (.int (2 : Int32)), .val (.int ch2)] [(.ref b)])) t
    refine XS.iloadN X18.here hx rfl (hb hby d10_27) rfl ?_
    show Steps p.tables e below (T18.setTop (mkF m 28 #[.val (.ref a), .val (.int (2 : Int32)), .val (.ref b), .val (.int (2 : Int32)), .val (.int (3 : Int32)), .val (.int (2 : Int32)), .val (.int ch2)] [(.int (2 : Int32)), (.ref b)])) t
    refine XS.iload X18.here hx rfl (hb hby d10_28) rfl ?_
    show Steps p.tables e below (T18.setTop (mkF m 30 #[.val (.ref a), .val (.int (2 : Int32)), .val (.ref b), .val (.int (2 : Int32)), .val (.int (3 : Int32)), .val (.int (2 : Int32)), .val (.int ch2)] [(.int ch2), (.int (2 : Int32)), (.ref b)])) t
    refine XS.i2b X18.here hx rfl (hb hby d10_30) rfl ?_
    exact kt
  obtain ⟨cl29, Ar29, q29, S29, M29, H29, G29⟩ := id F19
  have hin29 : ¬ ((2 : Int32) < 0 ∨ cl29.slots.size ≤ ((2 : Int32)).toNatClampNeg) := inb_of S29 ⟨by decide, by decide⟩
  obtain ⟨T29, h29, X29, e29, W29, st29⟩ := stB X18 hx hZ e18 Ar29 (j := (2 : Int32)) hin29 (g := (mkF m 31 #[.val (.ref a), .val (.int (2 : Int32)), .val (.ref b), .val (.int (2 : Int32)), .val (.int (3 : Int32)), .val (.int (2 : Int32)), .val (.int ch2)] [(.int (ch2.toInt8.toInt32)), (.int (2 : Int32)), (.ref b)])) rfl rfl (hb hby d10_31)
  have F30 : Arv Z h29 b kb .byte (3 : Int32) [(.int ((ch0.toInt8.toInt32).toInt8.toInt32)), (.int ((ch1.toInt8.toInt32).toInt8.toInt32)), (.int ((ch2.toInt8.toInt32).toInt8.toInt32))] (.int (0 : Int32)) := Arv.set Ar29 q29 S29 M29 H29 G29 (fits_nar_byte _) W29 2 rfl (Nat.le_of_ble_eq_true rfl)
  have F31 := F20.other W29 ne
  have Z29 : n0 ≤ h29.size := Nat.le_trans Z18 (Keep.of_wr W29).1
  have K29 : Keep h0 h29 [b] := K18.wr W29 (Or.inl (List.mem_of_getElem? (i := 0) rfl))
  have N29 := Fr.snoc X29 N18 g_b
  have k33 : ∀ t, Steps p.tables e below (T29.setTop (mkF m 32 #[.val (.ref a), .val (.int (2 : Int32)), .val (.ref b), .val (.int (2 : Int32)), .val (.int (3 : Int32)), .val (.int (2 : Int32)), .val (.int ch2)] [])) t → Steps p.tables e below (s₁.setTop (entryFrame m #[(.ref a), (.int (0 : Int32)), (.ref b), (.int (0 : Int32)), (.int (3 : Int32))] 7)) t := fun t kt => k28 t (st29 t kt)
  have hc7_34 : ¬ ((3 : Int32) < (3 : Int32)) := by decide
  have k35 : ∀ t, Steps p.tables e below (T29.setTop (mkF m 46 #[.val (.ref a), .val (.int (3 : Int32)), .val (.ref b), .val (.int (3 : Int32)), .val (.int (3 : Int32)), .val (.int (3 : Int32)), .val (.int ch2)] [(.int (3 : Int32))])) t → Steps p.tables e below (s₁.setTop (entryFrame m #[(.ref a), (.int (0 : Int32)), (.ref b), (.int (0 : Int32)), (.int (3 : Int32))] 7)) t := by
    intro t kt
    refine k33 t ?_
    show Steps p.tables e below (T29.setTop (mkF m 32 #[.val (.ref a), .val (.int (2 : Int32)), .val (.ref b), .val (.int (2 : Int32)), .val (.int (3 : Int32)), .val (.int (2 : Int32)), .val (.int ch2)] [])) t
    refine XS.iinc X29.here hx rfl (hb hby d10_32) rfl (l' := #[.val (.ref a), .val (.int (3 : Int32)), .val (.ref b), .val (.int (2 : Int32)), .val (.int (3 : Int32)), .val (.int (2 : Int32)), .val (.int ch2)]) rfl ?_
    show Steps p.tables e below (T29.setTop (mkF m 35 #[.val (.ref a), .val (.int (3 : Int32)), .val (.ref b), .val (.int (2 : Int32)), .val (.int (3 : Int32)), .val (.int (2 : Int32)), .val (.int ch2)] [])) t
    refine XS.iinc X29.here hx rfl (hb hby d10_35) rfl (l' := #[.val (.ref a), .val (.int (3 : Int32)), .val (.ref b), .val (.int (3 : Int32)), .val (.int (3 : Int32)), .val (.int (2 : Int32)), .val (.int ch2)]) rfl ?_
    show Steps p.tables e below (T29.setTop (mkF m 38 #[.val (.ref a), .val (.int (3 : Int32)), .val (.ref b), .val (.int (3 : Int32)), .val (.int (3 : Int32)), .val (.int (2 : Int32)), .val (.int ch2)] [])) t
    refine XS.iinc X29.here hx rfl (hb hby d10_38) rfl (l' := #[.val (.ref a), .val (.int (3 : Int32)), .val (.ref b), .val (.int (3 : Int32)), .val (.int (3 : Int32)), .val (.int (3 : Int32)), .val (.int ch2)]) rfl ?_
    show Steps p.tables e below (T29.setTop (mkF m 41 #[.val (.ref a), .val (.int (3 : Int32)), .val (.ref b), .val (.int (3 : Int32)), .val (.int (3 : Int32)), .val (.int (3 : Int32)), .val (.int ch2)] [])) t
    refine XS.goto X29.here hx rfl (pc0 := 41) (pc' := 3) rfl (hb hby d10_41) (by decide) (by decide) ?_
    show Steps p.tables e below (T29.setTop (mkF m 3 #[.val (.ref a), .val (.int (3 : Int32)), .val (.ref b), .val (.int (3 : Int32)), .val (.int (3 : Int32)), .val (.int (3 : Int32)), .val (.int ch2)] [])) t
    refine XS.iload X29.here hx rfl (hb hby d10_3) rfl ?_
    show Steps p.tables e below (T29.setTop (mkF m 5 #[.val (.ref a), .val (.int (3 : Int32)), .val (.ref b), .val (.int (3 : Int32)), .val (.int (3 : Int32)), .val (.int (3 : Int32)), .val (.int ch2)] [(.int (3 : Int32))])) t
    refine XS.iload X29.here hx rfl (hb hby d10_5) rfl ?_
    show Steps p.tables e below (T29.setTop (mkF m 7 #[.val (.ref a), .val (.int (3 : Int32)), .val (.ref b), .val (.int (3 : Int32)), .val (.int (3 : Int32)), .val (.int (3 : Int32)), .val (.int ch2)] [(.int (3 : Int32)), (.int (3 : Int32))])) t
    refine XS.icmpYes X29.here hx rfl (pc0 := 7) (pc' := 44) rfl (hb hby d10_7) rfl (flt hc7_34).2.1 (by decide) (by decide) ?_
    show Steps p.tables e below (T29.setTop (mkF m 44 #[.val (.ref a), .val (.int (3 : Int32)), .val (.ref b), .val (.int (3 : Int32)), .val (.int (3 : Int32)), .val (.int (3 : Int32)), .val (.int ch2)] [])) t
    refine XS.iload X29.here hx rfl (hb hby d10_44) rfl ?_
    exact kt
  obtain ⟨fs, hr, hrun, hended, hW, hsame⟩ := X29.leave (v := some (.int (3 : Int32))) (fun h => by rw [Bd.returns] at h; cases h)
  refine ⟨_, _, k35 _ ?_, hrun, hended, _, _, rfl, ?_, ⟨_, rfl⟩, hW, hsame.mono (by decide) (by decide)⟩
  · show Steps p.tables e below (T29.setTop (mkF m 46 #[.val (.ref a), .val (.int (3 : Int32)), .val (.ref b), .val (.int (3 : Int32)), .val (.int (3 : Int32)), .val (.int (3 : Int32)), .val (.int ch2)] [(.int (3 : Int32))])) _
    exact retI X29 hx Bd.returns (hb hby d10_46) hr
  · show QCmp3 Z a b ka kb ch0 ch1 ch2 h0 n0 _ T29.heap _
    rw [e29]
    exact ⟨rfl, N29, K29, by simp only [own_i2b] at F30; exact F30⟩
theorem rmCps3_ef (m : MethodId) (x0 : Addr) : entryFrame m #[(.ref x0), (.int (0 : Int32)), (.int (3 : Int32))] 6 = mkF m 0 #[.val (.ref x0), .val (.int (0 : Int32)), .val (.int (3 : Int32)), .unset, .unset, .unset] [] := by first | (simp [entryFrame, mkF, argsToLocals, Value.category]; done) | rfl
def QCps3 (Z : State) (a : Addr) (ka : ClassId) (ch0 : Int32) (ch1 : Int32) (ch2 : Int32) (h0 : Heap) (n0 : Nat) (v : Option Value) (h : Heap) (L : List Loc) : Prop := ∃ (b : Addr) (kb : ClassId), v = some (.ref b) ∧ Fr n0 L ∧ Keep h0 h [] ∧ h0.size ≤ b ∧ Arv Z h b kb .byte (3 : Int32) [(.int (ch0.toInt8.toInt32)), (.int (ch1.toInt8.toInt32)), (.int (ch2.toInt8.toInt32))] (.int (0 : Int32))
set_option maxRecDepth 65536 in
set_option maxHeartbeats 40000000 in
theorem rmCps3 (l : Launch) (Z : State) (a0 : Array Value) (hw : ∀ d ∈ tables_1, d.before a0 Z = true) (ws : List Jvm.Cond) (a : Addr) (ka : ClassId) (ch0 : Int32) (ch1 : Int32) (ch2 : Int32) (h0 : Heap) (n0 : Nat) (Z0 : n0 ≤ h0.size) (Aa : Arv Z h0 a ka .char (3 : Int32) [(.int ch0), (.int ch1), (.int ch2)] (.int (0 : Int32))) (hch0 : ¬ ((255 : Int32) < ch0)) (hch1 : ¬ ((255 : Int32) < ch1)) (hch2 : ¬ ((255 : Int32) < ch2)) :
    MetFree l (⟨"java/lang/StringUTF16", "compress", "([CII)[B"⟩ : MethodName) (head1 (Jvm.Cond.code (⟨"java/lang/StringUTF16", "compress", "([CII)[B"⟩ : MethodName) jdk_52_method_16_code 6 (some (.array .byte)) :: ws) ({ frames := 1, cells := 1, slots := 3, locals := 18 } : Room)) (fun aA' U => aA' = #[(.ref a), (.int (0 : Int32)), (.int (3 : Int32))] ∧ Z.Warmed39 U.vm ∧ U.heap = h0) (fun _ _ _ _ _ => True) (fun _ U oO' U' => ∃ vV' L, oO' = .returned vV' ∧ QCps3 Z a ka ch0 ch1 ch2 h0 n0 vV' U'.heap L ∧ FrameEnd U oO' U' L ({ frames := 1, cells := 1, slots := 3, locals := 18 } : Room).cells ({ frames := 1, cells := 1, slots := 3, locals := 18 } : Room).slots) := by
  refine MetFree.of_bodySF (plainFor_of_name own_pn0) hisR ?_
  intro p e s m args below meth c s₁ Bd hml0 hP hK
  obtain ⟨rfl, hZ, hh⟩ := hP
  have hx := Bd.exec
  have hby := Bd.bytes
  have hml : c.maxLocals = 6 := hml0
  have hown : s.vm.findClass "java/lang/StringUTF16" = some m.cls := findClass_of_methodNamed Bd.named
  have hnm := (name_of_methodNamed Bd.named Bd.method).1
  have X0 : Stand p l e ({ frames := 1, cells := 1, slots := 3, locals := 18 } : Room) s m #[(.ref a), (.int (0 : Int32)), (.int (3 : Int32))] below meth c s₁ [] 0 0 := Stand.of_body Bd
  have e0 : s₁.heap = h0 := by rw [← hh, Bd.state]; rfl
  have N0 := Fr.nil n0
  have K0 : Keep h0 h0 [] := Keep.refl _ _
  have k0 : ∀ t, Steps p.tables e below (s₁.setTop (mkF m 0 #[.val (.ref a), .val (.int (0 : Int32)), .val (.int (3 : Int32)), .unset, .unset, .unset] [])) t → Steps p.tables e below (s₁.setTop (entryFrame m #[(.ref a), (.int (0 : Int32)), (.int (3 : Int32))] 6)) t := fun t k => castTop (rmCps3_ef m (a)) k
  have k1 : ∀ t, Steps p.tables e below (s₁.setTop (mkF m 1 #[.val (.ref a), .val (.int (0 : Int32)), .val (.int (3 : Int32)), .unset, .unset, .unset] [(.int (3 : Int32))])) t → Steps p.tables e below (s₁.setTop (entryFrame m #[(.ref a), (.int (0 : Int32)), (.int (3 : Int32))] 6)) t := by
    intro t kt
    refine k0 t ?_
    show Steps p.tables e below (s₁.setTop (mkF m 0 #[.val (.ref a), .val (.int (0 : Int32)), .val (.int (3 : Int32)), .unset, .unset, .unset] [])) t
    refine XS.iloadN X0.here hx rfl (hb hby d9_0) rfl ?_
    exact kt
  obtain ⟨T2, h2, c2, X2, e2, E2, A2, st2⟩ := newP X0 hx hZ (hw _ (List.mem_of_getElem? (i := 23) rfl)) e0 (g := (mkF m 1 #[.val (.ref a), .val (.int (0 : Int32)), .val (.int (3 : Int32)), .unset, .unset, .unset] [(.int (3 : Int32))])) rfl (hb hby d9_1) rfl (by decide) (cap := 3) (by decide) (by decide) (by decide) (by decide)
  obtain ⟨b2, g2⟩ : ∃ z, z = h0.size := ⟨_, rfl⟩
  rw [← g2] at A2 st2
  have g_b2 : n0 ≤ b2 := Nat.le_trans Z0 (Nat.le_of_eq g2.symm)
  have sz_b2 : h0.size ≤ b2 := Nat.le_trans K0.1 (Nat.le_of_eq g2.symm)
  have ne3 : a ≠ b2 := Nat.ne_of_lt (Nat.lt_of_lt_of_le Aa.lt (Nat.le_of_eq g2.symm))
  have F4 := Aa.ext E2
  have Z2 : n0 ≤ h2.size := Nat.le_trans Z0 E2.1
  have K2 : Keep h0 h2 [] := K0.ext E2
  have F5 : Arv Z h2 b2 c2 .byte (3 : Int32) [(.int (0 : Int32)), (.int (0 : Int32)), (.int (0 : Int32))] (.int (0 : Int32)) := (Arv.new A2 (by decide)).pad (pad_rep [] (.int (0 : Int32)) 3)
  have k6 : ∀ t, Steps p.tables e below (T2.setTop (mkF m 3 #[.val (.ref a), .val (.int (0 : Int32)), .val (.int (3 : Int32)), .unset, .unset, .unset] [(.ref b2)])) t → Steps p.tables e below (s₁.setTop (entryFrame m #[(.ref a), (.int (0 : Int32)), (.int (3 : Int32))] 6)) t := fun t kt => k1 t (st2 t kt)
  have k7 : ∀ t, Steps p.tables e below (T2.setTop (mkF m 9 #[.val (.ref a), .val (.int (0 : Int32)), .val (.int (3 : Int32)), .val (.ref b2), .unset, .unset] [(.int (3 : Int32)), (.int (0 : Int32)), (.ref b2), (.int (0 : Int32)), (.ref a)])) t → Steps p.tables e below (s₁.setTop (entryFrame m #[(.ref a), (.int (0 : Int32)), (.int (3 : Int32))] 6)) t := by
    intro t kt
    refine k6 t ?_
    show Steps p.tables e below (T2.setTop (mkF m 3 #[.val (.ref a), .val (.int (0 : Int32)), .val (.int (3 : Int32)), .unset, .unset, .unset] [(.ref b2)])) t
    refine XS.astoreN X2.here hx rfl (hb hby d9_3) rfl rfl (l' := #[.val (.ref a), .val (.int (0 : Int32)), .val (.int (3 : Int32)), .val (.ref b2), .unset, .unset]) rfl ?_
    show Steps p.tables e below (T2.setTop (mkF m 4 #[.val (.ref a), .val (.int (0 : Int32)), .val (.int (3 : Int32)), .val (.ref b2), .unset, .unset] [])) t
    refine XS.aloadN X2.here hx rfl (hb hby d9_4) rfl rfl ?_
    show Steps p.tables e below (T2.setTop (mkF m 5 #[.val (.ref a), .val (.int (0 : Int32)), .val (.int (3 : Int32)), .val (.ref b2), .unset, .unset] [(.ref a)])) t
    refine XS.iloadN X2.here hx rfl (hb hby d9_5) rfl ?_
    show Steps p.tables e below (T2.setTop (mkF m 6 #[.val (.ref a), .val (.int (0 : Int32)), .val (.int (3 : Int32)), .val (.ref b2), .unset, .unset] [(.int (0 : Int32)), (.ref a)])) t
    refine XS.aloadN X2.here hx rfl (hb hby d9_6) rfl rfl ?_
    show Steps p.tables e below (T2.setTop (mkF m 7 #[.val (.ref a), .val (.int (0 : Int32)), .val (.int (3 : Int32)), .val (.ref b2), .unset, .unset] [(.ref b2), (.int (0 : Int32)), (.ref a)])) t
    refine XS.iconst X2.here hx rfl (hb hby d9_7) ?_
    show Steps p.tables e below (T2.setTop (mkF m 8 #[.val (.ref a), .val (.int (0 : Int32)), .val (.int (3 : Int32)), .val (.ref b2), .unset, .unset] [(.int (0 : Int32)), (.ref b2), (.int (0 : Int32)), (.ref a)])) t
    refine XS.iloadN X2.here hx rfl (hb hby d9_8) rfl ?_
    exact kt
  obtain ⟨_, _, ⟨T8, L8, k8c, n8⟩, -, X8, ⟨Lc8, hQ8, l8, y8, z8⟩, st8⟩ := Jvm.LawKit.callS X2 hx (y := (⟨"java/lang/StringUTF16", "compress", "([CI[BII)I"⟩ : MethodName)) hown (mvT hZ (hw _ (List.mem_of_getElem? (i := 51) rfl))) (mvT hZ (hw _ (List.mem_of_getElem? (i := 52) rfl))) (mvT hZ (hw _ (List.mem_of_getElem? (i := 49) rfl))) (mvT hZ (hw _ (List.mem_of_getElem? (i := 53) rfl))) (by decide) (backOf (W := 0) (rmCmp3 l Z a0 hw [] a b2 ka c2 ch0 ch1 ch2 h2 n0 Z2 F4 F5 g_b2 ne3 hch0 hch1 hch2) hZ (hw _ (List.mem_of_getElem? (i := 53) rfl)) (hw _ (List.mem_of_getElem? (i := 49) rfl)) (by decide) (by decide)) (g := (mkF m 9 #[.val (.ref a), .val (.int (0 : Int32)), .val (.int (3 : Int32)), .val (.ref b2), .unset, .unset] [(.int (3 : Int32)), (.int (0 : Int32)), (.ref b2), (.int (0 : Int32)), (.ref a)])) rfl (by rw [hml]; rfl) (argsL := [(.ref a), (.int (0 : Int32)), (.ref b2), (.int (0 : Int32)), (.int (3 : Int32))]) (rest := []) (lenOf own_pd0 rfl) rfl (by show 2 * 0 + _ ≤ _; exact Nat.le_of_eq rfl) (hb hby d9_9) (fun _ _ => ⟨rfl, e2, (by decide : 1 + 0 ≤ _), (by decide : 3 + 0 ≤ _)⟩)
  dsimp only [Pt.U, Pt.locs, Pt.cells, Pt.slots] at X8 l8 y8 z8 st8 hQ8
  subst l8 y8 z8
  obtain ⟨rfl, N8q, K8k, A8⟩ := hQ8
  have N8 := Fr.app N0 N8q
  have F9 := F4.keep K8k (ninS ne3 nin0)
  have Z11 : n0 ≤ T8.heap.size := Nat.le_trans Z2 K8k.1
  have K11 : Keep h0 T8.heap [] := K2.trans K8k (allS (Or.inr sz_b2) all0)
  have k12 : ∀ t, Steps p.tables e below (T8.setTop (mkF m 12 #[.val (.ref a), .val (.int (0 : Int32)), .val (.int (3 : Int32)), .val (.ref b2), .unset, .unset] [(.int (3 : Int32))])) t → Steps p.tables e below (s₁.setTop (entryFrame m #[(.ref a), (.int (0 : Int32)), (.int (3 : Int32))] 6)) t := fun t kt => k7 t (st8 t kt)
  have k14 : ∀ t, Steps p.tables e below (T8.setTop (mkF m 17 #[.val (.ref a), .val (.int (0 : Int32)), .val (.int (3 : Int32)), .val (.ref b2), .val (.int (3 : Int32)), .unset] [(.int (3 : Int32)), (.int (3 : Int32))])) t → Steps p.tables e below (s₁.setTop (entryFrame m #[(.ref a), (.int (0 : Int32)), (.int (3 : Int32))] 6)) t := by
    intro t kt
    refine k12 t ?_
    show Steps p.tables e below (T8.setTop (mkF m 12 #[.val (.ref a), .val (.int (0 : Int32)), .val (.int (3 : Int32)), .val (.ref b2), .unset, .unset] [(.int (3 : Int32))])) t
    refine XS.istore X8.here hx rfl (hb hby d9_12) rfl (l' := #[.val (.ref a), .val (.int (0 : Int32)), .val (.int (3 : Int32)), .val (.ref b2), .val (.int (3 : Int32)), .unset]) rfl ?_
    show Steps p.tables e below (T8.setTop (mkF m 14 #[.val (.ref a), .val (.int (0 : Int32)), .val (.int (3 : Int32)), .val (.ref b2), .val (.int (3 : Int32)), .unset] [])) t
    refine XS.iload X8.here hx rfl (hb hby d9_14) rfl ?_
    show Steps p.tables e below (T8.setTop (mkF m 16 #[.val (.ref a), .val (.int (0 : Int32)), .val (.int (3 : Int32)), .val (.ref b2), .val (.int (3 : Int32)), .unset] [(.int (3 : Int32))])) t
    refine XS.iloadN X8.here hx rfl (hb hby d9_16) rfl ?_
    exact kt
  have hc17_13 : (3 : Int32) = (3 : Int32) := rfl
  have k15 : ∀ t, Steps p.tables e below (T8.setTop (mkF m 58 #[.val (.ref a), .val (.int (0 : Int32)), .val (.int (3 : Int32)), .val (.ref b2), .val (.int (3 : Int32)), .unset] [(.ref b2)])) t → Steps p.tables e below (s₁.setTop (entryFrame m #[(.ref a), (.int (0 : Int32)), (.int (3 : Int32))] 6)) t := by
    intro t kt
    refine k14 t ?_
    show Steps p.tables e below (T8.setTop (mkF m 17 #[.val (.ref a), .val (.int (0 : Int32)), .val (.int (3 : Int32)), .val (.ref b2), .val (.int (3 : Int32)), .unset] [(.int (3 : Int32)), (.int (3 : Int32))])) t
    refine XS.icmpYes X8.here hx rfl (pc0 := 17) (pc' := 57) rfl (hb hby d9_17) rfl (teq hc17_13).1 (by decide) (by decide) ?_
    show Steps p.tables e below (T8.setTop (mkF m 57 #[.val (.ref a), .val (.int (0 : Int32)), .val (.int (3 : Int32)), .val (.ref b2), .val (.int (3 : Int32)), .unset] [])) t
    refine XS.aloadN X8.here hx rfl (hb hby d9_57) rfl rfl ?_
    exact kt
  obtain ⟨fs, hr, hrun, hended, hW, hsame⟩ := X8.leave (v := some (.ref b2)) (fun h => by rw [Bd.returns] at h; cases h)
  refine ⟨_, _, k15 _ ?_, hrun, hended, _, _, rfl, ?_, ⟨_, rfl⟩, hW, hsame.mono (by decide) (by decide)⟩
  · show Steps p.tables e below (T8.setTop (mkF m 58 #[.val (.ref a), .val (.int (0 : Int32)), .val (.int (3 : Int32)), .val (.ref b2), .val (.int (3 : Int32)), .unset] [(.ref b2)])) _
    jvm_step X8.here [X8.here.top, hx, (hb hby d9_58), X8.method', Bd.returns, Value.isRef, FieldType.isReference]
    first | (intro acts; rw [hr _ acts rfl rfl rfl]) | rw [hr _ _ rfl rfl rfl]
    exact Steps.refl _
  · show QCps3 Z a ka ch0 ch1 ch2 h0 n0 _ T8.heap _
    exact ⟨b2, c2, rfl, N8, K11, sz_b2, A8⟩
theorem rmCod3_ef (m : MethodId) (x0 : Addr) : entryFrame m #[(.ref x0), (.int (3 : Int32))] 2 = mkF m 0 #[.val (.ref x0), .val (.int (3 : Int32))] [] := by first | (simp [entryFrame, mkF, argsToLocals, Value.category]; done) | rfl
def QCod3 (Z : State) (b : Addr) (kb : ClassId) (vs : List Value) (h0 : Heap) (n0 : Nat) (v : Option Value) (h : Heap) (L : List Loc) : Prop := v = some (.int (0 : Int32)) ∧ Fr n0 L ∧ h = h0
set_option maxRecDepth 65536 in
set_option maxHeartbeats 40000000 in
theorem rmCod3 (l : Launch) (Z : State) (a0 : Array Value) (hw : ∀ d ∈ tables_1, d.before a0 Z = true) (ws : List Jvm.Cond) (b : Addr) (kb : ClassId) (vs : List Value) (h0 : Heap) (n0 : Nat) (Z0 : n0 ≤ h0.size) (Ab : Arv Z h0 b kb .byte (3 : Int32) vs (.int (0 : Int32))) :
    MetFree l (⟨"java/lang/StringUTF16", "coderFromArrayLen", "([BI)B"⟩ : MethodName) (head1 (Jvm.Cond.code (⟨"java/lang/StringUTF16", "coderFromArrayLen", "([BI)B"⟩ : MethodName) jdk_52_method_15_code 2 (some .byte) :: ws) ({ frames := 0, cells := 0, slots := 0, locals := 0 } : Room)) (fun aA' U => aA' = #[(.ref b), (.int (3 : Int32))] ∧ Z.Warmed39 U.vm ∧ U.heap = h0) (fun _ _ _ _ _ => True) (fun _ U oO' U' => ∃ vV' L, oO' = .returned vV' ∧ QCod3 Z b kb vs h0 n0 vV' U'.heap L ∧ FrameEnd U oO' U' L ({ frames := 0, cells := 0, slots := 0, locals := 0 } : Room).cells ({ frames := 0, cells := 0, slots := 0, locals := 0 } : Room).slots) := by
  refine MetFree.of_bodySF (plainFor_of_name own_pn0) hisR ?_
  intro p e s m args below meth c s₁ Bd hml0 hP hK
  obtain ⟨rfl, hZ, hh⟩ := hP
  have hx := Bd.exec
  have hby := Bd.bytes
  have hml : c.maxLocals = 2 := hml0
  have hown : s.vm.findClass "java/lang/StringUTF16" = some m.cls := findClass_of_methodNamed Bd.named
  have hnm := (name_of_methodNamed Bd.named Bd.method).1
  have X0 : Stand p l e ({ frames := 0, cells := 0, slots := 0, locals := 0 } : Room) s m #[(.ref b), (.int (3 : Int32))] below meth c s₁ [] 0 0 := Stand.of_body Bd
  have e0 : s₁.heap = h0 := by rw [← hh, Bd.state]; rfl
  have N0 := Fr.nil n0
  have K0 : Keep h0 h0 [] := Keep.refl _ _
  have k0 : ∀ t, Steps p.tables e below (s₁.setTop (mkF m 0 #[.val (.ref b), .val (.int (3 : Int32))] [])) t → Steps p.tables e below (s₁.setTop (entryFrame m #[(.ref b), (.int (3 : Int32))] 2)) t := fun t k => castTop (rmCod3_ef m (b)) k
  have k1 : ∀ t, Steps p.tables e below (s₁.setTop (mkF m 2 #[.val (.ref b), .val (.int (3 : Int32))] [(.ref b), (.int (3 : Int32))])) t → Steps p.tables e below (s₁.setTop (entryFrame m #[(.ref b), (.int (3 : Int32))] 2)) t := by
    intro t kt
    refine k0 t ?_
    show Steps p.tables e below (s₁.setTop (mkF m 0 #[.val (.ref b), .val (.int (3 : Int32))] [])) t
    refine XS.iloadN X0.here hx rfl (hb hby d11_0) rfl ?_
    show Steps p.tables e below (s₁.setTop (mkF m 1 #[.val (.ref b), .val (.int (3 : Int32))] [(.int (3 : Int32))])) t
    refine XS.aloadN X0.here hx rfl (hb hby d11_1) rfl rfl ?_
    exact kt
  obtain ⟨cl2, Ar2, -, S2, M2, -, -⟩ := id Ab
  have k3 : ∀ t, Steps p.tables e below (s₁.setTop (mkF m 3 #[.val (.ref b), .val (.int (3 : Int32))] [(.int (3 : Int32)), (.int (3 : Int32))])) t → Steps p.tables e below (s₁.setTop (entryFrame m #[(.ref b), (.int (3 : Int32))] 2)) t := fun t kt => k1 t (X0.arraylength hx (by rw [e0]; exact Ar2.1) (State.isArrayOf_alike hZ.alike Ar2.2.1) (g := (mkF m 2 #[.val (.ref b), .val (.int (3 : Int32))] [(.ref b), (.int (3 : Int32))])) rfl rfl (hb hby d11_2) t (by rw [len_of S2 M2]; exact kt))
  have k4 : ∀ t, Steps p.tables e below (s₁.setTop (mkF m 8 #[.val (.ref b), .val (.int (3 : Int32))] [(.int (((((3 : Int32) - (3 : Int32)).toUInt32 >>> ((31 : Int32) &&& 31).toUInt32).toInt32).toInt8.toInt32))])) t → Steps p.tables e below (s₁.setTop (entryFrame m #[(.ref b), (.int (3 : Int32))] 2)) t := by
    intro t kt
    refine k3 t ?_
    show Steps p.tables e below (s₁.setTop (mkF m 3 #[.val (.ref b), .val (.int (3 : Int32))] [(.int (3 : Int32)), (.int (3 : Int32))])) t
    refine XS.isub X0.here hx rfl (hb hby d11_3) rfl ?_
    show Steps p.tables e below (s₁.setTop (mkF m 4 #[.val (.ref b), .val (.int (3 : Int32))] [(.int ((3 : Int32) - (3 : Int32)))])) t
    refine XS.bipush X0.here hx rfl (hb hby d11_4) ?_
    show Steps p.tables e below (s₁.setTop (mkF m 6 #[.val (.ref b), .val (.int (3 : Int32))] [(.int (31 : Int32)), (.int ((3 : Int32) - (3 : Int32)))])) t
    refine XS.iushr X0.here hx rfl (hb hby d11_6) rfl ?_
    show Steps p.tables e below (s₁.setTop (mkF m 7 #[.val (.ref b), .val (.int (3 : Int32))] [(.int ((((3 : Int32) - (3 : Int32)).toUInt32 >>> ((31 : Int32) &&& 31).toUInt32).toInt32))])) t
    refine XS.i2b X0.here hx rfl (hb hby d11_7) rfl ?_
    exact kt
  obtain ⟨fs, hr, hrun, hended, hW, hsame⟩ := X0.leave (v := some (.int ((((((3 : Int32) - (3 : Int32)).toUInt32 >>> ((31 : Int32) &&& 31).toUInt32).toInt32).toInt8.toInt32).toInt8.toInt32))) (fun h => by rw [Bd.returns] at h; cases h)
  refine ⟨_, _, k4 _ ?_, hrun, hended, _, _, rfl, ?_, ⟨_, rfl⟩, hW, hsame.mono (by decide) (by decide)⟩
  · show Steps p.tables e below (s₁.setTop (mkF m 8 #[.val (.ref b), .val (.int (3 : Int32))] [(.int (((((3 : Int32) - (3 : Int32)).toUInt32 >>> ((31 : Int32) &&& 31).toUInt32).toInt32).toInt8.toInt32))])) _
    exact retN X0 hx (t := .byte) Bd.returns (by simp) (hb hby d11_8) hr
  · show QCod3 Z b kb vs h0 n0 _ s₁.heap _
    rw [e0]
    exact ⟨congrArg (fun z => some (Value.int z)) (by decide), N0, rfl⟩
theorem rmSv3_ef (m : MethodId) (x0 : Addr) (x1 : Addr) : entryFrame m #[(.ref x0), (.ref x1), (.int (0 : Int32)), (.int (3 : Int32)), .null] 6 = mkF m 0 #[.val (.ref x0), .val (.ref x1), .val (.int (0 : Int32)), .val (.int (3 : Int32)), .val .null, .unset] [] := by first | (simp [entryFrame, mkF, argsToLocals, Value.category]; done) | rfl
def QSv3 (Z : State) (ths : Addr) (a : Addr) (u : Value) (u' : Value) (ka : ClassId) (cs : Int32) (ch0 : Int32) (ch1 : Int32) (ch2 : Int32) (h0 : Heap) (n0 : Nat) (v : Option Value) (h : Heap) (L : List Loc) : Prop := v = none ∧ Fr n0 L ∧ Keep h0 h [ths] ∧ Exa Z h ths "java/lang/String" ∧ ∃ (b : Addr) (kb : ClassId), h0.size ≤ b ∧ Fld Z h ths "java/lang/String" "value" "[B" (.ref b) ∧ Fld Z h ths "java/lang/String" "coder" "B" (.int (0 : Int32)) ∧ Arv Z h b kb .byte (3 : Int32) [(.int (ch0.toInt8.toInt32)), (.int (ch1.toInt8.toInt32)), (.int (ch2.toInt8.toInt32))] (.int (0 : Int32))
set_option maxRecDepth 65536 in
set_option maxHeartbeats 40000000 in
theorem rmSv3 (l : Launch) (Z : State) (a0 : Array Value) (hw : ∀ d ∈ tables_1, d.before a0 Z = true) (ws : List Jvm.Cond) (ths : Addr) (a : Addr) (u : Value) (u' : Value) (ka : ClassId) (cs : Int32) (ch0 : Int32) (ch1 : Int32) (ch2 : Int32) (h0 : Heap) (n0 : Nat) (Z0 : n0 ≤ h0.size) (Fv : Fld Z h0 ths "java/lang/String" "value" "[B" u) (Fc : Fld Z h0 ths "java/lang/String" "coder" "B" u') (Et : Exa Z h0 ths "java/lang/String") (g_t : n0 ≤ ths) (net : ths ≠ a) (Aa : Arv Z h0 a ka .char (3 : Int32) [(.int ch0), (.int ch1), (.int ch2)] (.int (0 : Int32))) (SC : Sta Z h0 "java/lang/String" "COMPACT_STRINGS" "Z" (.int cs)) (hcs : ¬ (cs = (0 : Int32))) (hch0 : ¬ ((255 : Int32) < ch0)) (hch1 : ¬ ((255 : Int32) < ch1)) (hch2 : ¬ ((255 : Int32) < ch2)) :
    MetFree l (⟨"java/lang/String", "<init>", "([CIILjava/lang/Void;)V"⟩ : MethodName) (head1 (Jvm.Cond.code (⟨"java/lang/String", "<init>", "([CIILjava/lang/Void;)V"⟩ : MethodName) jdk_42_method_149_code 6 none :: ws) ({ frames := 2, cells := 1, slots := 3, locals := 35 } : Room)) (fun aA' U => aA' = #[(.ref ths), (.ref a), (.int (0 : Int32)), (.int (3 : Int32)), .null] ∧ Z.Warmed39 U.vm ∧ U.heap = h0) (fun _ _ _ _ _ => True) (fun _ U oO' U' => ∃ vV' L, oO' = .returned vV' ∧ QSv3 Z ths a u u' ka cs ch0 ch1 ch2 h0 n0 vV' U'.heap L ∧ FrameEnd U oO' U' L ({ frames := 2, cells := 1, slots := 3, locals := 35 } : Room).cells ({ frames := 2, cells := 1, slots := 3, locals := 35 } : Room).slots) := by
  refine MetFree.of_bodySF (plainFor_of_name own_pn1) hisR ?_
  intro p e s m args below meth c s₁ Bd hml0 hP hK
  obtain ⟨rfl, hZ, hh⟩ := hP
  have hx := Bd.exec
  have hby := Bd.bytes
  have hml : c.maxLocals = 6 := hml0
  have hown : s.vm.findClass "java/lang/String" = some m.cls := findClass_of_methodNamed Bd.named
  have hnm := (name_of_methodNamed Bd.named Bd.method).1
  have X0 : Stand p l e ({ frames := 2, cells := 1, slots := 3, locals := 35 } : Room) s m #[(.ref ths), (.ref a), (.int (0 : Int32)), (.int (3 : Int32)), .null] below meth c s₁ [] 0 0 := Stand.of_body Bd
  have e0 : s₁.heap = h0 := by rw [← hh, Bd.state]; rfl
  have N0 := Fr.nil n0
  have K0 : Keep h0 h0 [ths] := Keep.refl _ _
  have k0 : ∀ t, Steps p.tables e below (s₁.setTop (mkF m 0 #[.val (.ref ths), .val (.ref a), .val (.int (0 : Int32)), .val (.int (3 : Int32)), .val .null, .unset] [])) t → Steps p.tables e below (s₁.setTop (entryFrame m #[(.ref ths), (.ref a), (.int (0 : Int32)), (.int (3 : Int32)), .null] 6)) t := fun t k => castTop (rmSv3_ef m (ths) (a)) k
  have k1 : ∀ t, Steps p.tables e below (s₁.setTop (mkF m 1 #[.val (.ref ths), .val (.ref a), .val (.int (0 : Int32)), .val (.int (3 : Int32)), .val .null, .unset] [(.ref ths)])) t → Steps p.tables e below (s₁.setTop (entryFrame m #[(.ref ths), (.ref a), (.int (0 : Int32)), (.int (3 : Int32)), .null] 6)) t := by
    intro t kt
    refine k0 t ?_
    show Steps p.tables e below (s₁.setTop (mkF m 0 #[.val (.ref ths), .val (.ref a), .val (.int (0 : Int32)), .val (.int (3 : Int32)), .val .null, .unset] [])) t
    refine XS.aloadN X0.here hx rfl (hb hby d4_0) rfl rfl ?_
    exact kt
  obtain ⟨T2, X2, e2, st2⟩ := initO X0 hx hZ hown (hw _ (List.mem_of_getElem? (i := 19) rfl)) (hw _ (List.mem_of_getElem? (i := 20) rfl)) (hw _ (List.mem_of_getElem? (i := 21) rfl)) e0 (g := (mkF m 1 #[.val (.ref ths), .val (.ref a), .val (.int (0 : Int32)), .val (.int (3 : Int32)), .val .null, .unset] [(.ref ths)])) rfl (by rw [hml]; rfl) rfl (hb hby d4_1) (by decide) (W := 0) (by show 2 * 0 + _ ≤ _; exact Nat.le_of_eq rfl) (by decide)
  have k3 : ∀ t, Steps p.tables e below (T2.setTop (mkF m 4 #[.val (.ref ths), .val (.ref a), .val (.int (0 : Int32)), .val (.int (3 : Int32)), .val .null, .unset] [])) t → Steps p.tables e below (s₁.setTop (entryFrame m #[(.ref ths), (.ref a), (.int (0 : Int32)), (.int (3 : Int32)), .null] 6)) t := fun t kt => k1 t (st2 t kt)
  have hc5_4 : ¬ ((3 : Int32) = (0 : Int32)) := by decide
  have k5 : ∀ t, Steps p.tables e below (T2.setTop (mkF m 27 #[.val (.ref ths), .val (.ref a), .val (.int (0 : Int32)), .val (.int (3 : Int32)), .val .null, .unset] [])) t → Steps p.tables e below (s₁.setTop (entryFrame m #[(.ref ths), (.ref a), (.int (0 : Int32)), (.int (3 : Int32)), .null] 6)) t := by
    intro t kt
    refine k3 t ?_
    show Steps p.tables e below (T2.setTop (mkF m 4 #[.val (.ref ths), .val (.ref a), .val (.int (0 : Int32)), .val (.int (3 : Int32)), .val .null, .unset] [])) t
    refine XS.iloadN X2.here hx rfl (hb hby d4_4) rfl ?_
    show Steps p.tables e below (T2.setTop (mkF m 5 #[.val (.ref ths), .val (.ref a), .val (.int (0 : Int32)), .val (.int (3 : Int32)), .val .null, .unset] [(.int (3 : Int32))])) t
    refine XS.ifYes X2.here hx rfl (pc0 := 5) (pc' := 27) rfl (hb hby d4_5) rfl ((if0 _ _).trans (feq hc5_4).2) (by decide) (by decide) ?_
    exact kt
  obtain ⟨T6, X6, e6, st6⟩ := getS2 X2 hx hZ hown (host := "") (Or.inl (hw _ (List.mem_of_getElem? (i := 41) rfl))) Via.refl e2 SC (g := (mkF m 27 #[.val (.ref ths), .val (.ref a), .val (.int (0 : Int32)), .val (.int (3 : Int32)), .val .null, .unset] [])) rfl (hb hby d4_27)
  have k7 : ∀ t, Steps p.tables e below (T6.setTop (mkF m 30 #[.val (.ref ths), .val (.ref a), .val (.int (0 : Int32)), .val (.int (3 : Int32)), .val .null, .unset] [(.int cs)])) t → Steps p.tables e below (s₁.setTop (entryFrame m #[(.ref ths), (.ref a), (.int (0 : Int32)), (.int (3 : Int32)), .null] 6)) t := fun t kt => k5 t (st6 t kt)
  have k9 : ∀ t, Steps p.tables e below (T6.setTop (mkF m 36 #[.val (.ref ths), .val (.ref a), .val (.int (0 : Int32)), .val (.int (3 : Int32)), .val .null, .unset] [(.int (3 : Int32)), (.int (0 : Int32)), (.ref a)])) t → Steps p.tables e below (s₁.setTop (entryFrame m #[(.ref ths), (.ref a), (.int (0 : Int32)), (.int (3 : Int32)), .null] 6)) t := by
    intro t kt
    refine k7 t ?_
    show Steps p.tables e below (T6.setTop (mkF m 30 #[.val (.ref ths), .val (.ref a), .val (.int (0 : Int32)), .val (.int (3 : Int32)), .val .null, .unset] [(.int cs)])) t
    refine XS.ifNo X6.here hx rfl (hb hby d4_30) rfl ((if0 _ _).trans (feq hcs).1) ?_
    show Steps p.tables e below (T6.setTop (mkF m 33 #[.val (.ref ths), .val (.ref a), .val (.int (0 : Int32)), .val (.int (3 : Int32)), .val .null, .unset] [])) t
    refine XS.aloadN X6.here hx rfl (hb hby d4_33) rfl rfl ?_
    show Steps p.tables e below (T6.setTop (mkF m 34 #[.val (.ref ths), .val (.ref a), .val (.int (0 : Int32)), .val (.int (3 : Int32)), .val .null, .unset] [(.ref a)])) t
    refine XS.iloadN X6.here hx rfl (hb hby d4_34) rfl ?_
    show Steps p.tables e below (T6.setTop (mkF m 35 #[.val (.ref ths), .val (.ref a), .val (.int (0 : Int32)), .val (.int (3 : Int32)), .val .null, .unset] [(.int (0 : Int32)), (.ref a)])) t
    refine XS.iloadN X6.here hx rfl (hb hby d4_35) rfl ?_
    exact kt
  obtain ⟨_, _, ⟨T10, L10, k10c, n10⟩, -, X10, ⟨Lc10, hQ10, l10, y10, z10⟩, st10⟩ := Jvm.LawKit.callS X6 hx (y := (⟨"java/lang/StringUTF16", "compress", "([CII)[B"⟩ : MethodName)) hown (mvT hZ (hw _ (List.mem_of_getElem? (i := 47) rfl))) (mvT hZ (hw _ (List.mem_of_getElem? (i := 48) rfl))) (mvT hZ (hw _ (List.mem_of_getElem? (i := 49) rfl))) (mvT hZ (hw _ (List.mem_of_getElem? (i := 50) rfl))) (by decide) (backOf (W := 0) (rmCps3 l Z a0 hw [] a ka ch0 ch1 ch2 h0 n0 Z0 Aa hch0 hch1 hch2) hZ (hw _ (List.mem_of_getElem? (i := 50) rfl)) (hw _ (List.mem_of_getElem? (i := 49) rfl)) (by decide) (by decide)) (g := (mkF m 36 #[.val (.ref ths), .val (.ref a), .val (.int (0 : Int32)), .val (.int (3 : Int32)), .val .null, .unset] [(.int (3 : Int32)), (.int (0 : Int32)), (.ref a)])) rfl (by rw [hml]; rfl) (argsL := [(.ref a), (.int (0 : Int32)), (.int (3 : Int32))]) (rest := []) (lenOf own_pd1 rfl) rfl (by show 2 * 0 + _ ≤ _; exact Nat.le_of_eq rfl) (hb hby d4_36) (fun _ _ => ⟨rfl, e6, (by decide : 0 + 1 ≤ _), (by decide : 0 + 3 ≤ _)⟩)
  dsimp only [Pt.U, Pt.locs, Pt.cells, Pt.slots] at X10 l10 y10 z10 st10 hQ10
  subst l10 y10 z10
  obtain ⟨b10, c10k, rfl, N10q, K10k, s10z, A10⟩ := hQ10
  have N10 := Fr.app N0 N10q
  have g_b10 : n0 ≤ b10 := Nat.le_trans Z0 s10z
  have sz_b10 : h0.size ≤ b10 := Nat.le_trans K0.1 s10z
  have ne11 : ths ≠ b10 := Nat.ne_of_lt (Nat.lt_of_lt_of_le Fv.lt s10z)
  have ne12 : a ≠ b10 := Nat.ne_of_lt (Nat.lt_of_lt_of_le Aa.lt s10z)
  have F13 := Fv.keep K10k nin0
  have F14 := Fc.keep K10k nin0
  have F15 := Et.keep K10k
  have F16 := Aa.keep K10k nin0
  have Z18 : n0 ≤ T10.heap.size := Nat.le_trans Z0 K10k.1
  have K18 : Keep h0 T10.heap [ths] := K0.trans K10k all0
  have k19 : ∀ t, Steps p.tables e below (T10.setTop (mkF m 39 #[.val (.ref ths), .val (.ref a), .val (.int (0 : Int32)), .val (.int (3 : Int32)), .val .null, .unset] [(.ref b10)])) t → Steps p.tables e below (s₁.setTop (entryFrame m #[(.ref ths), (.ref a), (.int (0 : Int32)), (.int (3 : Int32)), .null] 6)) t := fun t kt => k9 t (st10 t kt)
  have k20 : ∀ t, Steps p.tables e below (T10.setTop (mkF m 45 #[.val (.ref ths), .val (.ref a), .val (.int (0 : Int32)), .val (.int (3 : Int32)), .val .null, .val (.ref b10)] [(.int (3 : Int32)), (.ref b10), (.ref ths)])) t → Steps p.tables e below (s₁.setTop (entryFrame m #[(.ref ths), (.ref a), (.int (0 : Int32)), (.int (3 : Int32)), .null] 6)) t := by
    intro t kt
    refine k19 t ?_
    show Steps p.tables e below (T10.setTop (mkF m 39 #[.val (.ref ths), .val (.ref a), .val (.int (0 : Int32)), .val (.int (3 : Int32)), .val .null, .unset] [(.ref b10)])) t
    refine XS.astore X10.here hx rfl (hb hby d4_39) rfl rfl (l' := #[.val (.ref ths), .val (.ref a), .val (.int (0 : Int32)), .val (.int (3 : Int32)), .val .null, .val (.ref b10)]) rfl ?_
    show Steps p.tables e below (T10.setTop (mkF m 41 #[.val (.ref ths), .val (.ref a), .val (.int (0 : Int32)), .val (.int (3 : Int32)), .val .null, .val (.ref b10)] [])) t
    refine XS.aloadN X10.here hx rfl (hb hby d4_41) rfl rfl ?_
    show Steps p.tables e below (T10.setTop (mkF m 42 #[.val (.ref ths), .val (.ref a), .val (.int (0 : Int32)), .val (.int (3 : Int32)), .val .null, .val (.ref b10)] [(.ref ths)])) t
    refine XS.aload X10.here hx rfl (hb hby d4_42) rfl rfl ?_
    show Steps p.tables e below (T10.setTop (mkF m 44 #[.val (.ref ths), .val (.ref a), .val (.int (0 : Int32)), .val (.int (3 : Int32)), .val .null, .val (.ref b10)] [(.ref b10), (.ref ths)])) t
    refine XS.iloadN X10.here hx rfl (hb hby d4_44) rfl ?_
    exact kt
  obtain ⟨_, _, ⟨T21, L21, k21c, n21⟩, -, X21, ⟨Lc21, hQ21, l21, y21, z21⟩, st21⟩ := Jvm.LawKit.callS X10 hx (y := (⟨"java/lang/StringUTF16", "coderFromArrayLen", "([BI)B"⟩ : MethodName)) hown (mvT hZ (hw _ (List.mem_of_getElem? (i := 54) rfl))) (mvT hZ (hw _ (List.mem_of_getElem? (i := 55) rfl))) (mvT hZ (hw _ (List.mem_of_getElem? (i := 49) rfl))) (mvT hZ (hw _ (List.mem_of_getElem? (i := 56) rfl))) (by decide) (backOf (W := 1) (rmCod3 l Z a0 hw [] b10 c10k [(.int (ch0.toInt8.toInt32)), (.int (ch1.toInt8.toInt32)), (.int (ch2.toInt8.toInt32))] T10.heap n0 Z18 A10) hZ (hw _ (List.mem_of_getElem? (i := 56) rfl)) (hw _ (List.mem_of_getElem? (i := 49) rfl)) (by decide) (by decide)) (g := (mkF m 45 #[.val (.ref ths), .val (.ref a), .val (.int (0 : Int32)), .val (.int (3 : Int32)), .val .null, .val (.ref b10)] [(.int (3 : Int32)), (.ref b10), (.ref ths)])) rfl (by rw [hml]; rfl) (argsL := [(.ref b10), (.int (3 : Int32))]) (rest := [(.ref ths)]) (lenOf own_pd2 rfl) rfl (by show 2 * 0 + _ ≤ _; exact Nat.le_of_eq rfl) (hb hby d4_45) (fun _ _ => ⟨rfl, rfl, (by decide : 1 + 0 ≤ _), (by decide : 3 + 0 ≤ _)⟩)
  dsimp only [Pt.U, Pt.locs, Pt.cells, Pt.slots] at X21 l21 y21 z21 st21 hQ21
  subst l21 y21 z21
  obtain ⟨rfl, N21q, e21⟩ := hQ21
  have N21 := Fr.app N10 N21q
  have k22 : ∀ t, Steps p.tables e below (T21.setTop (mkF m 48 #[.val (.ref ths), .val (.ref a), .val (.int (0 : Int32)), .val (.int (3 : Int32)), .val .null, .val (.ref b10)] [(.int (0 : Int32)), (.ref ths)])) t → Steps p.tables e below (s₁.setTop (entryFrame m #[(.ref ths), (.ref a), (.int (0 : Int32)), (.int (3 : Int32)), .null] 6)) t := fun t kt => k20 t (st21 t kt)
  obtain ⟨T23, h23, X23, e23, W23, st23⟩ := putFN X21 hx hZ hown (hw _ (List.mem_of_getElem? (i := 29) rfl)) Via.refl e21 F14 F15 (Or.inr ⟨(hw _ (List.mem_of_getElem? (i := 25) rfl)), rfl, hnm⟩) (hw _ (List.mem_of_getElem? (i := 9) rfl)) (ty := .byte) (v' := (.int (0 : Int32))) (by decide) rfl (by decide) (g := (mkF m 48 #[.val (.ref ths), .val (.ref a), .val (.int (0 : Int32)), .val (.int (3 : Int32)), .val .null, .val (.ref b10)] [(.int (0 : Int32)), (.ref ths)])) rfl rfl (hb hby d4_48)
  have F24 := F13.other W23 (Or.inr (slot_ne (Or.inr (hw _ (List.mem_of_getElem? (i := 24) rfl))) (Or.inr (hw _ (List.mem_of_getElem? (i := 25) rfl))) (by decide) (t := (.array .byte)) (t' := .byte) (by decide) (by decide)))
  have F25 := F14.same W23
  have F26 := F15.wr W23
  have F27 := F16.other W23 (Ne.symm net)
  have F28 := A10.other W23 (Ne.symm ne11)
  have Z23 : n0 ≤ h23.size := Nat.le_trans Z18 (Keep.of_wr W23).1
  have K23 : Keep h0 h23 [ths] := K18.wr W23 (Or.inl (List.mem_of_getElem? (i := 0) rfl))
  have N23 := Fr.snoc X23 N21 g_t
  have k29 : ∀ t, Steps p.tables e below (T23.setTop (mkF m 51 #[.val (.ref ths), .val (.ref a), .val (.int (0 : Int32)), .val (.int (3 : Int32)), .val .null, .val (.ref b10)] [])) t → Steps p.tables e below (s₁.setTop (entryFrame m #[(.ref ths), (.ref a), (.int (0 : Int32)), (.int (3 : Int32)), .null] 6)) t := fun t kt => k22 t (st23 t kt)
  have k30 : ∀ t, Steps p.tables e below (T23.setTop (mkF m 54 #[.val (.ref ths), .val (.ref a), .val (.int (0 : Int32)), .val (.int (3 : Int32)), .val .null, .val (.ref b10)] [(.ref b10), (.ref ths)])) t → Steps p.tables e below (s₁.setTop (entryFrame m #[(.ref ths), (.ref a), (.int (0 : Int32)), (.int (3 : Int32)), .null] 6)) t := by
    intro t kt
    refine k29 t ?_
    show Steps p.tables e below (T23.setTop (mkF m 51 #[.val (.ref ths), .val (.ref a), .val (.int (0 : Int32)), .val (.int (3 : Int32)), .val .null, .val (.ref b10)] [])) t
    refine XS.aloadN X23.here hx rfl (hb hby d4_51) rfl rfl ?_
    show Steps p.tables e below (T23.setTop (mkF m 52 #[.val (.ref ths), .val (.ref a), .val (.int (0 : Int32)), .val (.int (3 : Int32)), .val .null, .val (.ref b10)] [(.ref ths)])) t
    refine XS.aload X23.here hx rfl (hb hby d4_52) rfl rfl ?_
    exact kt
  obtain ⟨T31, h31, X31, e31, W31, st31⟩ := putF X23 hx hZ hown (host := "") (Or.inl (hw _ (List.mem_of_getElem? (i := 28) rfl))) Via.refl e23 F24 F26 (Or.inr ⟨(hw _ (List.mem_of_getElem? (i := 24) rfl)), rfl, hnm⟩) (hw _ (List.mem_of_getElem? (i := 9) rfl)) (ty := (.array .byte)) (by decide) rfl rfl (g := (mkF m 54 #[.val (.ref ths), .val (.ref a), .val (.int (0 : Int32)), .val (.int (3 : Int32)), .val .null, .val (.ref b10)] [(.ref b10), (.ref ths)])) rfl rfl (hb hby d4_54)
  have F32 := F24.same W31
  have F33 := F25.other W31 (Or.inr (slot_ne (Or.inr (hw _ (List.mem_of_getElem? (i := 25) rfl))) (Or.inr (hw _ (List.mem_of_getElem? (i := 24) rfl))) (by decide) (t := .byte) (t' := (.array .byte)) (by decide) (by decide)))
  have F34 := F26.wr W31
  have F35 := F27.other W31 (Ne.symm net)
  have F36 := F28.other W31 (Ne.symm ne11)
  have Z31 : n0 ≤ h31.size := Nat.le_trans Z23 (Keep.of_wr W31).1
  have K31 : Keep h0 h31 [ths] := K23.wr W31 (Or.inl (List.mem_of_getElem? (i := 0) rfl))
  have N31 := Fr.snoc X31 N23 g_t
  have k37 : ∀ t, Steps p.tables e below (T31.setTop (mkF m 57 #[.val (.ref ths), .val (.ref a), .val (.int (0 : Int32)), .val (.int (3 : Int32)), .val .null, .val (.ref b10)] [])) t → Steps p.tables e below (s₁.setTop (entryFrame m #[(.ref ths), (.ref a), (.int (0 : Int32)), (.int (3 : Int32)), .null] 6)) t := fun t kt => k30 t (st31 t kt)
  obtain ⟨fs, hr, hrun, hended, hW, hsame⟩ := X31.leave (v := none) (fun _ => rfl)
  refine ⟨_, _, k37 _ ?_, hrun, hended, _, _, rfl, ?_, ⟨_, rfl⟩, hW, hsame.mono (by decide) (by decide)⟩
  · show Steps p.tables e below (T31.setTop (mkF m 57 #[.val (.ref ths), .val (.ref a), .val (.int (0 : Int32)), .val (.int (3 : Int32)), .val .null, .val (.ref b10)] [])) _
    exact X31.returnOut hx Bd.returns (hb hby d4_57) hr
  · show QSv3 Z ths a u u' ka cs ch0 ch1 ch2 h0 n0 _ T31.heap _
    rw [e31]
    exact ⟨rfl, N31, K31, F34, b10, c10k, sz_b10, F32, F33, F36⟩
theorem rmSi3_ef (m : MethodId) (x0 : Addr) (x1 : Addr) : entryFrame m #[(.ref x0), (.ref x1)] 2 = mkF m 0 #[.val (.ref x0), .val (.ref x1)] [] := by first | (simp [entryFrame, mkF, argsToLocals, Value.category]; done) | rfl
def QSi3 (Z : State) (ths : Addr) (a : Addr) (u : Value) (u' : Value) (ka : ClassId) (cs : Int32) (ch0 : Int32) (ch1 : Int32) (ch2 : Int32) (h0 : Heap) (n0 : Nat) (v : Option Value) (h : Heap) (L : List Loc) : Prop := v = none ∧ Fr n0 L ∧ Keep h0 h [ths] ∧ Exa Z h ths "java/lang/String" ∧ ∃ (b : Addr) (kb : ClassId), h0.size ≤ b ∧ Fld Z h ths "java/lang/String" "value" "[B" (.ref b) ∧ Fld Z h ths "java/lang/String" "coder" "B" (.int (0 : Int32)) ∧ Arv Z h b kb .byte (3 : Int32) [(.int (ch0.toInt8.toInt32)), (.int (ch1.toInt8.toInt32)), (.int (ch2.toInt8.toInt32))] (.int (0 : Int32))
set_option maxRecDepth 65536 in
set_option maxHeartbeats 40000000 in
theorem rmSi3 (l : Launch) (Z : State) (a0 : Array Value) (hw : ∀ d ∈ tables_1, d.before a0 Z = true) (ws : List Jvm.Cond) (ths : Addr) (a : Addr) (u : Value) (u' : Value) (ka : ClassId) (cs : Int32) (ch0 : Int32) (ch1 : Int32) (ch2 : Int32) (h0 : Heap) (n0 : Nat) (Z0 : n0 ≤ h0.size) (Fv : Fld Z h0 ths "java/lang/String" "value" "[B" u) (Fc : Fld Z h0 ths "java/lang/String" "coder" "B" u') (Et : Exa Z h0 ths "java/lang/String") (g_t : n0 ≤ ths) (net : ths ≠ a) (Aa : Arv Z h0 a ka .char (3 : Int32) [(.int ch0), (.int ch1), (.int ch2)] (.int (0 : Int32))) (SC : Sta Z h0 "java/lang/String" "COMPACT_STRINGS" "Z" (.int cs)) (hcs : ¬ (cs = (0 : Int32))) (hch0 : ¬ ((255 : Int32) < ch0)) (hch1 : ¬ ((255 : Int32) < ch1)) (hch2 : ¬ ((255 : Int32) < ch2)) :
    MetFree l (⟨"java/lang/String", "<init>", "([C)V"⟩ : MethodName) (head1 (Jvm.Cond.code (⟨"java/lang/String", "<init>", "([C)V"⟩ : MethodName) jdk_42_method_3_code 2 none :: ws) ({ frames := 3, cells := 1, slots := 3, locals := 52 } : Room)) (fun aA' U => aA' = #[(.ref ths), (.ref a)] ∧ Z.Warmed39 U.vm ∧ U.heap = h0) (fun _ _ _ _ _ => True) (fun _ U oO' U' => ∃ vV' L, oO' = .returned vV' ∧ QSi3 Z ths a u u' ka cs ch0 ch1 ch2 h0 n0 vV' U'.heap L ∧ FrameEnd U oO' U' L ({ frames := 3, cells := 1, slots := 3, locals := 52 } : Room).cells ({ frames := 3, cells := 1, slots := 3, locals := 52 } : Room).slots) := by
  refine MetFree.of_bodySF (plainFor_of_name own_pn1) hisR ?_
  intro p e s m args below meth c s₁ Bd hml0 hP hK
  obtain ⟨rfl, hZ, hh⟩ := hP
  have hx := Bd.exec
  have hby := Bd.bytes
  have hml : c.maxLocals = 2 := hml0
  have hown : s.vm.findClass "java/lang/String" = some m.cls := findClass_of_methodNamed Bd.named
  have hnm := (name_of_methodNamed Bd.named Bd.method).1
  have X0 : Stand p l e ({ frames := 3, cells := 1, slots := 3, locals := 52 } : Room) s m #[(.ref ths), (.ref a)] below meth c s₁ [] 0 0 := Stand.of_body Bd
  have e0 : s₁.heap = h0 := by rw [← hh, Bd.state]; rfl
  have N0 := Fr.nil n0
  have K0 : Keep h0 h0 [ths] := Keep.refl _ _
  have k0 : ∀ t, Steps p.tables e below (s₁.setTop (mkF m 0 #[.val (.ref ths), .val (.ref a)] [])) t → Steps p.tables e below (s₁.setTop (entryFrame m #[(.ref ths), (.ref a)] 2)) t := fun t k => castTop (rmSi3_ef m (ths) (a)) k
  have k1 : ∀ t, Steps p.tables e below (s₁.setTop (mkF m 4 #[.val (.ref ths), .val (.ref a)] [(.ref a), (.int (0 : Int32)), (.ref a), (.ref ths)])) t → Steps p.tables e below (s₁.setTop (entryFrame m #[(.ref ths), (.ref a)] 2)) t := by
    intro t kt
    refine k0 t ?_
    show Steps p.tables e below (s₁.setTop (mkF m 0 #[.val (.ref ths), .val (.ref a)] [])) t
    refine XS.aloadN X0.here hx rfl (hb hby d3_0) rfl rfl ?_
    show Steps p.tables e below (s₁.setTop (mkF m 1 #[.val (.ref ths), .val (.ref a)] [(.ref ths)])) t
    refine XS.aloadN X0.here hx rfl (hb hby d3_1) rfl rfl ?_
    show Steps p.tables e below (s₁.setTop (mkF m 2 #[.val (.ref ths), .val (.ref a)] [(.ref a), (.ref ths)])) t
    refine XS.iconst X0.here hx rfl (hb hby d3_2) ?_
    show Steps p.tables e below (s₁.setTop (mkF m 3 #[.val (.ref ths), .val (.ref a)] [(.int (0 : Int32)), (.ref a), (.ref ths)])) t
    refine XS.aloadN X0.here hx rfl (hb hby d3_3) rfl rfl ?_
    exact kt
  obtain ⟨cl2, Ar2, -, S2, M2, -, -⟩ := id Aa
  have k3 : ∀ t, Steps p.tables e below (s₁.setTop (mkF m 5 #[.val (.ref ths), .val (.ref a)] [(.int (3 : Int32)), (.int (0 : Int32)), (.ref a), (.ref ths)])) t → Steps p.tables e below (s₁.setTop (entryFrame m #[(.ref ths), (.ref a)] 2)) t := fun t kt => k1 t (X0.arraylength hx (by rw [e0]; exact Ar2.1) (State.isArrayOf_alike hZ.alike Ar2.2.1) (g := (mkF m 4 #[.val (.ref ths), .val (.ref a)] [(.ref a), (.int (0 : Int32)), (.ref a), (.ref ths)])) rfl rfl (hb hby d3_4) t (by rw [len_of S2 M2]; exact kt))
  have k4 : ∀ t, Steps p.tables e below (s₁.setTop (mkF m 6 #[.val (.ref ths), .val (.ref a)] [.null, (.int (3 : Int32)), (.int (0 : Int32)), (.ref a), (.ref ths)])) t → Steps p.tables e below (s₁.setTop (entryFrame m #[(.ref ths), (.ref a)] 2)) t := by
    intro t kt
    refine k3 t ?_
    show Steps p.tables e below (s₁.setTop (mkF m 5 #[.val (.ref ths), .val (.ref a)] [(.int (3 : Int32)), (.int (0 : Int32)), (.ref a), (.ref ths)])) t
    refine XS.aconstNull X0.here hx rfl (hb hby d3_5) ?_
    exact kt
  obtain ⟨_, _, ⟨T5, L5, k5c, n5⟩, -, X5, ⟨Lc5, hQ5, l5, y5, z5⟩, st5⟩ := X0.specialBack hx (y := (⟨"java/lang/String", "<init>", "([CIILjava/lang/Void;)V"⟩ : MethodName)) rfl hown (mvT hZ (hw _ (List.mem_of_getElem? (i := 15) rfl))) (mvT hZ (hw _ (List.mem_of_getElem? (i := 16) rfl))) (mvT hZ (hw _ (List.mem_of_getElem? (i := 18) rfl))) (by decide) (backOf (W := 0) (rmSv3 l Z a0 hw [] ths a u u' ka cs ch0 ch1 ch2 h0 n0 Z0 Fv Fc Et g_t net Aa SC hcs hch0 hch1 hch2) hZ (hw _ (List.mem_of_getElem? (i := 18) rfl)) (hw _ (List.mem_of_getElem? (i := 10) rfl)) (by decide) (by decide)) (g := (mkF m 6 #[.val (.ref ths), .val (.ref a)] [.null, (.int (3 : Int32)), (.int (0 : Int32)), (.ref a), (.ref ths)])) rfl (by rw [hml]; rfl) (Steps.refl _) (a := ths) (argsL := [(.ref a), (.int (0 : Int32)), (.int (3 : Int32)), .null]) (rest := []) (lenOf own_pd3 rfl) rfl (by show 2 * 0 + _ ≤ _; exact Nat.le_of_eq rfl) (hb hby d3_6) (fun _ _ => ⟨rfl, e0, (by decide : 0 + 1 ≤ _), (by decide : 0 + 3 ≤ _)⟩)
  dsimp only [Pt.U, Pt.locs, Pt.cells, Pt.slots] at X5 l5 y5 z5 st5 hQ5
  subst l5 y5 z5
  obtain ⟨rfl, N5q, K5k, E5t, b5, c5k, s5z, Fv5, Fc5, A5⟩ := hQ5
  have N5 := Fr.app N0 N5q
  have g_b5 : n0 ≤ b5 := Nat.le_trans Z0 s5z
  have sz_b5 : h0.size ≤ b5 := Nat.le_trans K0.1 s5z
  have ne6 : ths ≠ b5 := Nat.ne_of_lt (Nat.lt_of_lt_of_le Fv.lt s5z)
  have ne7 : a ≠ b5 := Nat.ne_of_lt (Nat.lt_of_lt_of_le Aa.lt s5z)
  have F10 := Et.keep K5k
  have F11 := Aa.keep K5k (ninS (Ne.symm net) nin0)
  have Z13 : n0 ≤ T5.heap.size := Nat.le_trans Z0 K5k.1
  have K13 : Keep h0 T5.heap [ths] := K0.trans K5k (allS (Or.inl (List.mem_of_getElem? (i := 0) rfl)) all0)
  have k14 : ∀ t, Steps p.tables e below (T5.setTop (mkF m 9 #[.val (.ref ths), .val (.ref a)] [])) t → Steps p.tables e below (s₁.setTop (entryFrame m #[(.ref ths), (.ref a)] 2)) t := fun t kt => k4 t (st5.trans kt)
  obtain ⟨fs, hr, hrun, hended, hW, hsame⟩ := X5.leave (v := none) (fun _ => rfl)
  refine ⟨_, _, k14 _ ?_, hrun, hended, _, _, rfl, ?_, ⟨_, rfl⟩, hW, hsame.mono (by decide) (by decide)⟩
  · show Steps p.tables e below (T5.setTop (mkF m 9 #[.val (.ref ths), .val (.ref a)] [])) _
    exact X5.returnOut hx Bd.returns (hb hby d3_9) hr
  · show QSi3 Z ths a u u' ka cs ch0 ch1 ch2 h0 n0 _ T5.heap _
    exact ⟨rfl, N5, K13, F10, b5, c5k, sz_b5, Fv5, Fc5, A5⟩
theorem rmCmp4_ef (m : MethodId) (x0 : Addr) (x2 : Addr) : entryFrame m #[(.ref x0), (.int (0 : Int32)), (.ref x2), (.int (0 : Int32)), (.int (4 : Int32))] 7 = mkF m 0 #[.val (.ref x0), .val (.int (0 : Int32)), .val (.ref x2), .val (.int (0 : Int32)), .val (.int (4 : Int32)), .unset, .unset] [] := by first | (simp [entryFrame, mkF, argsToLocals, Value.category]; done) | rfl
def QCmp4 (Z : State) (a : Addr) (b : Addr) (ka : ClassId) (kb : ClassId) (ch0 : Int32) (ch1 : Int32) (ch2 : Int32) (ch3 : Int32) (h0 : Heap) (n0 : Nat) (v : Option Value) (h : Heap) (L : List Loc) : Prop := v = some (.int (4 : Int32)) ∧ Fr n0 L ∧ Keep h0 h [b] ∧ Arv Z h b kb .byte (4 : Int32) [(.int (ch0.toInt8.toInt32)), (.int (ch1.toInt8.toInt32)), (.int (ch2.toInt8.toInt32)), (.int (ch3.toInt8.toInt32))] (.int (0 : Int32))
set_option maxRecDepth 65536 in
set_option maxHeartbeats 40000000 in
theorem rmCmp4 (l : Launch) (Z : State) (a0 : Array Value) (hw : ∀ d ∈ tables_1, d.before a0 Z = true) (ws : List Jvm.Cond) (a : Addr) (b : Addr) (ka : ClassId) (kb : ClassId) (ch0 : Int32) (ch1 : Int32) (ch2 : Int32) (ch3 : Int32) (h0 : Heap) (n0 : Nat) (Z0 : n0 ≤ h0.size) (Aa : Arv Z h0 a ka .char (4 : Int32) [(.int ch0), (.int ch1), (.int ch2), (.int ch3)] (.int (0 : Int32))) (Ab : Arv Z h0 b kb .byte (4 : Int32) [(.int (0 : Int32)), (.int (0 : Int32)), (.int (0 : Int32)), (.int (0 : Int32))] (.int (0 : Int32))) (g_b : n0 ≤ b) (ne : a ≠ b) (hch0 : ¬ ((255 : Int32) < ch0)) (hch1 : ¬ ((255 : Int32) < ch1)) (hch2 : ¬ ((255 : Int32) < ch2)) (hch3 : ¬ ((255 : Int32) < ch3)) :
    MetFree l (⟨"java/lang/StringUTF16", "compress", "([CI[BII)I"⟩ : MethodName) (head1 (Jvm.Cond.code (⟨"java/lang/StringUTF16", "compress", "([CI[BII)I"⟩ : MethodName) jdk_52_method_21_code 7 (some .int) :: ws) ({ frames := 0, cells := 0, slots := 0, locals := 0 } : Room)) (fun aA' U => aA' = #[(.ref a), (.int (0 : Int32)), (.ref b), (.int (0 : Int32)), (.int (4 : Int32))] ∧ Z.Warmed39 U.vm ∧ U.heap = h0) (fun _ _ _ _ _ => True) (fun _ U oO' U' => ∃ vV' L, oO' = .returned vV' ∧ QCmp4 Z a b ka kb ch0 ch1 ch2 ch3 h0 n0 vV' U'.heap L ∧ FrameEnd U oO' U' L ({ frames := 0, cells := 0, slots := 0, locals := 0 } : Room).cells ({ frames := 0, cells := 0, slots := 0, locals := 0 } : Room).slots) := by
  refine MetFree.of_bodySF (plainFor_of_name own_pn0) hisR ?_
  intro p e s m args below meth c s₁ Bd hml0 hP hK
  obtain ⟨rfl, hZ, hh⟩ := hP
  have hx := Bd.exec
  have hby := Bd.bytes
  have hml : c.maxLocals = 7 := hml0
  have hown : s.vm.findClass "java/lang/StringUTF16" = some m.cls := findClass_of_methodNamed Bd.named
  have hnm := (name_of_methodNamed Bd.named Bd.method).1
  have X0 : Stand p l e ({ frames := 0, cells := 0, slots := 0, locals := 0 } : Room) s m #[(.ref a), (.int (0 : Int32)), (.ref b), (.int (0 : Int32)), (.int (4 : Int32))] below meth c s₁ [] 0 0 := Stand.of_body Bd
  have e0 : s₁.heap = h0 := by rw [← hh, Bd.state]; rfl
  have N0 := Fr.nil n0
  have K0 : Keep h0 h0 [b] := Keep.refl _ _
  have k0 : ∀ t, Steps p.tables e below (s₁.setTop (mkF m 0 #[.val (.ref a), .val (.int (0 : Int32)), .val (.ref b), .val (.int (0 : Int32)), .val (.int (4 : Int32)), .unset, .unset] [])) t → Steps p.tables e below (s₁.setTop (entryFrame m #[(.ref a), (.int (0 : Int32)), (.ref b), (.int (0 : Int32)), (.int (4 : Int32))] 7)) t := fun t k => castTop (rmCmp4_ef m (a) (b)) k
  have hc7_1 : (0 : Int32) < (4 : Int32) := by decide
  have k2 : ∀ t, Steps p.tables e below (s₁.setTop (mkF m 12 #[.val (.ref a), .val (.int (0 : Int32)), .val (.ref b), .val (.int (0 : Int32)), .val (.int (4 : Int32)), .val (.int (0 : Int32)), .unset] [(.int (0 : Int32)), (.ref a)])) t → Steps p.tables e below (s₁.setTop (entryFrame m #[(.ref a), (.int (0 : Int32)), (.ref b), (.int (0 : Int32)), (.int (4 : Int32))] 7)) t := by
    intro t kt
    refine k0 t ?_
    show Steps p.tables e below (s₁.setTop (mkF m 0 #[.val (.ref a), .val (.int (0 : Int32)), .val (.ref b), .val (.int (0 : Int32)), .val (.int (4 : Int32)), .unset, .unset] [])) t
    refine XS.iconst X0.here hx rfl (hb hby d10_0) ?_
    show Steps p.tables e below (s₁.setTop (mkF m 1 #[.val (.ref a), .val (.int (0 : Int32)), .val (.ref b), .val (.int (0 : Int32)), .val (.int (4 : Int32)), .unset, .unset] [(.int (0 : Int32))])) t
    refine XS.istore X0.here hx rfl (hb hby d10_1) rfl (l' := #[.val (.ref a), .val (.int (0 : Int32)), .val (.ref b), .val (.int (0 : Int32)), .val (.int (4 : Int32)), .val (.int (0 : Int32)), .unset]) rfl ?_
    show Steps p.tables e below (s₁.setTop (mkF m 3 #[.val (.ref a), .val (.int (0 : Int32)), .val (.ref b), .val (.int (0 : Int32)), .val (.int (4 : Int32)), .val (.int (0 : Int32)), .unset] [])) t
    refine XS.iload X0.here hx rfl (hb hby d10_3) rfl ?_
    show Steps p.tables e below (s₁.setTop (mkF m 5 #[.val (.ref a), .val (.int (0 : Int32)), .val (.ref b), .val (.int (0 : Int32)), .val (.int (4 : Int32)), .val (.int (0 : Int32)), .unset] [(.int (0 : Int32))])) t
    refine XS.iload X0.here hx rfl (hb hby d10_5) rfl ?_
    show Steps p.tables e below (s₁.setTop (mkF m 7 #[.val (.ref a), .val (.int (0 : Int32)), .val (.ref b), .val (.int (0 : Int32)), .val (.int (4 : Int32)), .val (.int (0 : Int32)), .unset] [(.int (4 : Int32)), (.int (0 : Int32))])) t
    refine XS.icmpNo X0.here hx rfl (hb hby d10_7) rfl (tlt hc7_1).2.1 ?_
    show Steps p.tables e below (s₁.setTop (mkF m 10 #[.val (.ref a), .val (.int (0 : Int32)), .val (.ref b), .val (.int (0 : Int32)), .val (.int (4 : Int32)), .val (.int (0 : Int32)), .unset] [])) t
    refine XS.aloadN X0.here hx rfl (hb hby d10_10) rfl rfl ?_
    show Steps p.tables e below (s₁.setTop (mkF m 11 #[.val (.ref a), .val (.int (0 : Int32)), .val (.ref b), .val (.int (0 : Int32)), .val (.int (4 : Int32)), .val (.int (0 : Int32)), .unset] [(.ref a)])) t
    refine XS.iloadN X0.here hx rfl (hb hby d10_11) rfl ?_
    exact kt
  obtain ⟨cl3, Ar3, q3, S3, M3, H3, G3⟩ := id Aa
  have hin3 : ¬ ((0 : Int32) < 0 ∨ cl3.slots.size ≤ ((0 : Int32)).toNatClampNeg) := inb_of S3 ⟨by decide, by decide⟩
  have hat3 : cl3.slots[((0 : Int32)).toNatClampNeg]? = some (.int ch0) := Has.at H3 hin3 rfl
  have k4 : ∀ t, Steps p.tables e below (s₁.setTop (mkF m 13 #[.val (.ref a), .val (.int (0 : Int32)), .val (.ref b), .val (.int (0 : Int32)), .val (.int (4 : Int32)), .val (.int (0 : Int32)), .unset] [(.int ch0)])) t → Steps p.tables e below (s₁.setTop (entryFrame m #[(.ref a), (.int (0 : Int32)), (.ref b), (.int (0 : Int32)), (.int (4 : Int32))] 7)) t := fun t kt => k2 t (X0.caload hx (j := (0 : Int32)) (v := (.int ch0)) (by rw [e0]; exact Ar3.1) (State.isArrayOf_alike hZ.alike Ar3.2.1) Ar3.2.2 hin3 hat3 (g := (mkF m 12 #[.val (.ref a), .val (.int (0 : Int32)), .val (.ref b), .val (.int (0 : Int32)), .val (.int (4 : Int32)), .val (.int (0 : Int32)), .unset] [(.int (0 : Int32)), (.ref a)])) rfl rfl (hb hby d10_12) t kt)
  have k6 : ∀ t, Steps p.tables e below (s₁.setTop (mkF m 31 #[.val (.ref a), .val (.int (0 : Int32)), .val (.ref b), .val (.int (0 : Int32)), .val (.int (4 : Int32)), .val (.int (0 : Int32)), .val (.int ch0)] [(.int (ch0.toInt8.toInt32)), (.int (0 : Int32)), (.ref b)])) t → Steps p.tables e below (s₁.setTop (entryFrame m #[(.ref a), (.int (0 : Int32)), (.ref b), (.int (0 : Int32)), (.int (4 : Int32))] 7)) t := by
    intro t kt
    refine k4 t ?_
    show Steps p.tables e below (s₁.setTop (mkF m 13 #[.val (.ref a), .val (.int (0 : Int32)), .val (.ref b), .val (.int (0 : Int32)), .val (.int (4 : Int32)), .val (.int (0 : Int32)), .unset] [(.int ch0)])) t
    refine XS.istore X0.here hx rfl (hb hby d10_13) rfl (l' := #[.val (.ref a), .val (.int (0 : Int32)), .val (.ref b), .val (.int (0 : Int32)), .val (.int (4 : Int32)), .val (.int (0 : Int32)), .val (.int ch0)]) rfl ?_
    show Steps p.tables e below (s₁.setTop (mkF m 15 #[.val (.ref a), .val (.int (0 : Int32)), .val (.ref b), .val (.int (0 : Int32)), .val (.int (4 : Int32)), .val (.int (0 : Int32)), .val (.int ch0)] [])) t
    refine XS.iload X0.here hx rfl (hb hby d10_15) rfl ?_
    show Steps p.tables e below (s₁.setTop (mkF m 17 #[.val (.ref a), .val (.int (0 : Int32)), .val (.ref b), .val (.int (0 : Int32)), .val (.int (4 : Int32)), .val (.int (0 : Int32)), .val (.int ch0)] [(.int ch0)])) t
    refine XS.sipush X0.here hx rfl (hb hby d10_17) ?_
    show Steps p.tables e below (s₁.setTop (mkF m 20 #[.val (.ref a), .val (.int (0 : Int32)), .val (.ref b), .val (.int (0 : Int32)), .val (.int (4 : Int32)), .val (.int (0 : Int32)), .val (.int ch0)] [(.int (255 : Int32)), (.int ch0)])) t
    refine XS.icmpYes X0.here hx rfl (pc0 := 20) (pc' := 26) rfl (hb hby d10_20) rfl (flt hch0).2.2.2 (by decide) (by decide) ?_
    show Steps p.tables e below (s₁.setTop (mkF m 26 #[.val (.ref a), .val (.int (0 : Int32)), .val (.ref b), .val (.int (0 : Int32)), .val (.int (4 : Int32)), .val (.int (0 : Int32)), .val (.int ch0)] [])) t
    refine XS.aloadN X0.here hx rfl (hb hby d10_26) rfl rfl ?_
    show Steps p.tables e below (s₁.setTop (mkF m 27 #[.val (.ref a), .val (.int (0 : Int32)), .val (.ref b), .val (.int (0 : Int32)), .val (.int (4 : Int32)), .val (.int (0 : Int32)), .val (.int ch0)] [(.ref b)])) t
    refine XS.iloadN X0.here hx rfl (hb hby d10_27) rfl ?_
    show Steps p.tables e below (s₁.setTop (mkF m 28 #[.val (.ref a), .val (.int (0 : Int32)), .val (.ref b), .val (.int (0 : Int32)), .val (.int (4 : Int32)), .val (.int (0 : Int32)), .val (.int ch0)] [(.int (0 : Int32)), (.ref b)])) t
    refine XS.iload X0.here hx rfl (hb hby d10_28) rfl ?_
    show Steps p.tables e below (s₁.setTop (mkF m 30 #[.val (.ref a), .val (.int (0 : Int32)), .val (.ref b), .val (.int (0 : Int32)), .val (.int (4 : Int32)), .val (.int (0 : Int32)), .val (.int ch0)] [(.int ch0), (.int (0 : Int32)), (.ref b)])) t
    refine XS.i2b X0.here hx rfl (hb hby d10_30) rfl ?_
    exact kt
  obtain ⟨cl7, Ar7, q7, S7, M7, H7, G7⟩ := id Ab
  have hin7 : ¬ ((0 : Int32) < 0 ∨ cl7.slots.size ≤ ((0 : Int32)).toNatClampNeg) := inb_of S7 ⟨by decide, by decide⟩
  obtain ⟨T7, h7, X7, e7, W7, st7⟩ := stB X0 hx hZ e0 Ar7 (j := (0 : Int32)) hin7 (g := (mkF m 31 #[.val (.ref a), .val (.int (0 : Int32)), .val (.ref b), .val (.int (0 : Int32)), .val (.int (4 : Int32)), .val (.int (0 : Int32)), .val (.int ch0)] [(.int (ch0.toInt8.toInt32)), (.int (0 : Int32)), (.ref b)])) rfl rfl (hb hby d10_31)
  have F8 : Arv Z h7 b kb .byte (4 : Int32) [(.int ((ch0.toInt8.toInt32).toInt8.toInt32)), (.int (0 : Int32)), (.int (0 : Int32)), (.int (0 : Int32))] (.int (0 : Int32)) := Arv.set Ar7 q7 S7 M7 H7 G7 (fits_nar_byte _) W7 0 rfl (Nat.le_of_ble_eq_true rfl)
  have F9 := Aa.other W7 ne
  have Z7 : n0 ≤ h7.size := Nat.le_trans Z0 (Keep.of_wr W7).1
  have K7 : Keep h0 h7 [b] := K0.wr W7 (Or.inl (List.mem_of_getElem? (i := 0) rfl))
  have N7 := Fr.snoc X7 N0 g_b
  have k11 : ∀ t, Steps p.tables e below (T7.setTop (mkF m 32 #[.val (.ref a), .val (.int (0 : Int32)), .val (.ref b), .val (.int (0 : Int32)), .val (.int (4 : Int32)), .val (.int (0 : Int32)), .val (.int ch0)] [])) t → Steps p.tables e below (s₁.setTop (entryFrame m #[(.ref a), (.int (0 : Int32)), (.ref b), (.int (0 : Int32)), (.int (4 : Int32))] 7)) t := fun t kt => k6 t (st7 t kt)
  have hc7_12 : (1 : Int32) < (4 : Int32) := by decide
  have k13 : ∀ t, Steps p.tables e below (T7.setTop (mkF m 12 #[.val (.ref a), .val (.int (1 : Int32)), .val (.ref b), .val (.int (1 : Int32)), .val (.int (4 : Int32)), .val (.int (1 : Int32)), .val (.int ch0)] [(.int (1 : Int32)), (.ref a)])) t → Steps p.tables e below (s₁.setTop (entryFrame m #[(.ref a), (.int (0 : Int32)), (.ref b), (.int (0 : Int32)), (.int (4 : Int32))] 7)) t := by
    intro t kt
    refine k11 t ?_
    show Steps p.tables e below (T7.setTop (mkF m 32 #[.val (.ref a), .val (.int (0 : Int32)), .val (.ref b), .val (.int (0 : Int32)), .val (.int (4 : Int32)), .val (.int (0 : Int32)), .val (.int ch0)] [])) t
    refine XS.iinc X7.here hx rfl (hb hby d10_32) rfl (l' := #[.val (.ref a), .val (.int (1 : Int32)), .val (.ref b), .val (.int (0 : Int32)), .val (.int (4 : Int32)), .val (.int (0 : Int32)), .val (.int ch0)]) rfl ?_
    show Steps p.tables e below (T7.setTop (mkF m 35 #[.val (.ref a), .val (.int (1 : Int32)), .val (.ref b), .val (.int (0 : Int32)), .val (.int (4 : Int32)), .val (.int (0 : Int32)), .val (.int ch0)] [])) t
    refine XS.iinc X7.here hx rfl (hb hby d10_35) rfl (l' := #[.val (.ref a), .val (.int (1 : Int32)), .val (.ref b), .val (.int (1 : Int32)), .val (.int (4 : Int32)), .val (.int (0 : Int32)), .val (.int ch0)]) rfl ?_
    show Steps p.tables e below (T7.setTop (mkF m 38 #[.val (.ref a), .val (.int (1 : Int32)), .val (.ref b), .val (.int (1 : Int32)), .val (.int (4 : Int32)), .val (.int (0 : Int32)), .val (.int ch0)] [])) t
    refine XS.iinc X7.here hx rfl (hb hby d10_38) rfl (l' := #[.val (.ref a), .val (.int (1 : Int32)), .val (.ref b), .val (.int (1 : Int32)), .val (.int (4 : Int32)), .val (.int (1 : Int32)), .val (.int ch0)]) rfl ?_
    show Steps p.tables e below (T7.setTop (mkF m 41 #[.val (.ref a), .val (.int (1 : Int32)), .val (.ref b), .val (.int (1 : Int32)), .val (.int (4 : Int32)), .val (.int (1 : Int32)), .val (.int ch0)] [])) t
    refine XS.goto X7.here hx rfl (pc0 := 41) (pc' := 3) rfl (hb hby d10_41) (by decide) (by decide) ?_
    show Steps p.tables e below (T7.setTop (mkF m 3 #[.val (.ref a), .val (.int (1 : Int32)), .val (.ref b), .val (.int (1 : Int32)), .val (.int (4 : Int32)), .val (.int (1 : Int32)), .val (.int ch0)] [])) t
    refine XS.iload X7.here hx rfl (hb hby d10_3) rfl ?_
    show Steps p.tables e below (T7.setTop (mkF m 5 #[.val (.ref a), .val (.int (1 : Int32)), .val (.ref b), .val (.int (1 : Int32)), .val (.int (4 : Int32)), .val (.int (1 : Int32)), .val (.int ch0)] [(.int (1 : Int32))])) t
    refine XS.iload X7.here hx rfl (hb hby d10_5) rfl ?_
    show Steps p.tables e below (T7.setTop (mkF m 7 #[.val (.ref a), .val (.int (1 : Int32)), .val (.ref b), .val (.int (1 : Int32)), .val (.int (4 : Int32)), .val (.int (1 : Int32)), .val (.int ch0)] [(.int (4 : Int32)), (.int (1 : Int32))])) t
    refine XS.icmpNo X7.here hx rfl (hb hby d10_7) rfl (tlt hc7_12).2.1 ?_
    show Steps p.tables e below (T7.setTop (mkF m 10 #[.val (.ref a), .val (.int (1 : Int32)), .val (.ref b), .val (.int (1 : Int32)), .val (.int (4 : Int32)), .val (.int (1 : Int32)), .val (.int ch0)] [])) t
    refine XS.aloadN X7.here hx rfl (hb hby d10_10) rfl rfl ?_
    show Steps p.tables e below (T7.setTop (mkF m 11 #[.val (.ref a), .val (.int (1 : Int32)), .val (.ref b), .val (.int (1 : Int32)), .val (.int (4 : Int32)), .val (.int (1 : Int32)), .val (.int ch0)] [(.ref a)])) t
    refine XS.iloadN X7.here hx rfl (hb hby d10_11) rfl ?_
    exact kt
  obtain ⟨cl14, Ar14, q14, S14, M14, H14, G14⟩ := id F9
  have hin14 : ¬ ((1 : Int32) < 0 ∨ cl14.slots.size ≤ ((1 : Int32)).toNatClampNeg) := inb_of S14 ⟨by decide, by decide⟩
  have hat14 : cl14.slots[((1 : Int32)).toNatClampNeg]? = some (.int ch1) := Has.at H14 hin14 rfl
  have k15 : ∀ t, Steps p.tables e below (T7.setTop (mkF m 13 #[.val (.ref a), .val (.int (1 : Int32)), .val (.ref b), .val (.int (1 : Int32)), .val (.int (4 : Int32)), .val (.int (1 : Int32)), .val (.int ch0)] [(.int ch1)])) t → Steps p.tables e below (s₁.setTop (entryFrame m #[(.ref a), (.int (0 : Int32)), (.ref b), (.int (0 : Int32)), (.int (4 : Int32))] 7)) t := fun t kt => k13 t (X7.caload hx (j := (1 : Int32)) (v := (.int ch1)) (by rw [e7]; exact Ar14.1) (State.isArrayOf_alike hZ.alike Ar14.2.1) Ar14.2.2 hin14 hat14 (g := (mkF m 12 #[.val (.ref a), .val (.int (1 : Int32)), .val (.ref b), .val (.int (1 : Int32)), .val (.int (4 : Int32)), .val (.int (1 : Int32)), .val (.int ch0)] [(.int (1 : Int32)), (.ref a)])) rfl rfl (hb hby d10_12) t kt)
  have k17 : ∀ t, Steps p.tables e below (T7.setTop (mkF m 31 #[.val (.ref a), .val (.int (1 : Int32)), .val (.ref b), .val (.int (1 : Int32)), .val (.int (4 : Int32)), .val (.int (1 : Int32)), .val (.int ch1)] [(.int (ch1.toInt8.toInt32)), (.int (1 : Int32)), (.ref b)])) t → Steps p.tables e below (s₁.setTop (entryFrame m #[(.ref a), (.int (0 : Int32)), (.ref b), (.int (0 : Int32)), (.int (4 : Int32))] 7)) t := by
    intro t kt
    refine k15 t ?_
    show Steps p.tables e below (T7.setTop (mkF m 13 #[.val (.ref a), .val (.int (1 : Int32)), .val (.ref b), .val (.int (1 : Int32)), .val (.int (4 : Int32)), .val (.int (1 : Int32)), .val (.int ch0)] [(.int ch1)])) t
    refine XS.istore X7.here hx rfl (hb hby d10_13) rfl (l' := #[.val (.ref a), .val (.int (1 : Int32)), .val (.ref b), .val (.int (1 : Int32)), .val (.int (4 : Int32)), .val (.int (1 : Int32)), .val (.int ch1)]) rfl ?_
    show Steps p.tables e below (T7.setTop (mkF m 15 #[.val (.ref a), .val (.int (1 : Int32)), .val (.ref b), .val (.int (1 : Int32)), .val (.int (4 : Int32)), .val (.int (1 : Int32)), .val (.int ch1)] [])) t
    refine XS.iload X7.here hx rfl (hb hby d10_15) rfl ?_
    show Steps p.tables e below (T7.setTop (mkF m 17 #[.val (.ref a), .val (.int (1 : Int32)), .val (.ref b), .val (.int (1 : Int32)), .val (.int (4 : Int32)), .val (.int (1 : Int32)), .val (.int ch1)] [(.int ch1)])) t
    refine XS.sipush X7.here hx rfl (hb hby d10_17) ?_
    show Steps p.tables e below (T7.setTop (mkF m 20 #[.val (.ref a), .val (.int (1 : Int32)), .val (.ref b), .val (.int (1 : Int32)), .val (.int (4 : Int32)), .val (.int (1 : Int32)), .val (.int ch1)] [(.int (255 : Int32)), (.int ch1)])) t
    refine XS.icmpYes X7.here hx rfl (pc0 := 20) (pc' := 26) rfl (hb hby d10_20) rfl (flt hch1).2.2.2 (by decide) (by decide) ?_
    show Steps p.tables e below (T7.setTop (mkF m 26 #[.val (.ref a), .val (.int (1 : Int32)), .val (.ref b), .val (.int (1 : Int32)), .val (.int (4 : Int32)), .val (.int (1 : Int32)), .val (.int ch1)] [])) t
    refine XS.aloadN X7.here hx rfl (hb hby d10_26) rfl rfl ?_
    show Steps p.tables e below (T7.setTop (mkF m 27 #[.val (.ref a), .val (.int (1 : Int32)), .val (.ref b), .val (.int (1 : Int32)), .val (.int (4 : Int32)), .val (.int (1 : Int32)), .val (.int ch1)] [(.ref b)])) t
    refine XS.iloadN X7.here hx rfl (hb hby d10_27) rfl ?_
    show Steps p.tables e below (T7.setTop (mkF m 28 #[.val (.ref a), .val (.int (1 : Int32)), .val (.ref b), .val (.int (1 : Int32)), .val (.int (4 : Int32)), .val (.int (1 : Int32)), .val (.int ch1)] [(.int (1 : Int32)), (.ref b)])) t
    refine XS.iload X7.here hx rfl (hb hby d10_28) rfl ?_
    show Steps p.tables e below (T7.setTop (mkF m 30 #[.val (.ref a), .val (.int (1 : Int32)), .val (.ref b), .val (.int (1 : Int32)), .val (.int (4 : Int32)), .val (.int (1 : Int32)), .val (.int ch1)] [(.int ch1), (.int (1 : Int32)), (.ref b)])) t
    refine XS.i2b X7.here hx rfl (hb hby d10_30) rfl ?_
    exact kt
  obtain ⟨cl18, Ar18, q18, S18, M18, H18, G18⟩ := id F8
  have hin18 : ¬ ((1 : Int32) < 0 ∨ cl18.slots.size ≤ ((1 : Int32)).toNatClampNeg) := inb_of S18 ⟨by decide, by decide⟩
  obtain ⟨T18, h18, X18, e18, W18, st18⟩ := stB X7 hx hZ e7 Ar18 (j := (1 : Int32)) hin18 (g := (mkF m 31 #[.val (.ref a), .val (.int (1 : Int32)), .val (.ref b), .val (.int (1 : Int32)), .val (.int (4 : Int32)), .val (.int (1 : Int32)), .val (.int ch1)] [(.int (ch1.toInt8.toInt32)), (.int (1 : Int32)), (.ref b)])) rfl rfl (hb hby d10_31)
  have F19 : Arv Z h18 b kb .byte (4 : Int32) [(.int ((ch0.toInt8.toInt32).toInt8.toInt32)), (.int ((ch1.toInt8.toInt32).toInt8.toInt32)), (.int (0 : Int32)), (.int (0 : Int32))] (.int (0 : Int32)) := Arv.set Ar18 q18 S18 M18 H18 G18 (fits_nar_byte _) W18 1 rfl (Nat.le_of_ble_eq_true rfl)
  have F20 := F9.other W18 ne
  have Z18 : n0 ≤ h18.size := Nat.le_trans Z7 (Keep.of_wr W18).1
  have K18 : Keep h0 h18 [b] := K7.wr W18 (Or.inl (List.mem_of_getElem? (i := 0) rfl))
  have N18 := Fr.snoc X18 N7 g_b
  have k22 : ∀ t, Steps p.tables e below (T18.setTop (mkF m 32 #[.val (.ref a), .val (.int (1 : Int32)), .val (.ref b), .val (.int (1 : Int32)), .val (.int (4 : Int32)), .val (.int (1 : Int32)), .val (.int ch1)] [])) t → Steps p.tables e below (s₁.setTop (entryFrame m #[(.ref a), (.int (0 : Int32)), (.ref b), (.int (0 : Int32)), (.int (4 : Int32))] 7)) t := fun t kt => k17 t (st18 t kt)
  have hc7_23 : (2 : Int32) < (4 : Int32) := by decide
  have k24 : ∀ t, Steps p.tables e below (T18.setTop (mkF m 12 #[.val (.ref a), .val (.int (2 : Int32)), .val (.ref b), .val (.int (2 : Int32)), .val (.int (4 : Int32)), .val (.int (2 : Int32)), .val (.int ch1)] [(.int (2 : Int32)), (.ref a)])) t → Steps p.tables e below (s₁.setTop (entryFrame m #[(.ref a), (.int (0 : Int32)), (.ref b), (.int (0 : Int32)), (.int (4 : Int32))] 7)) t := by
    intro t kt
    refine k22 t ?_
    show Steps p.tables e below (T18.setTop (mkF m 32 #[.val (.ref a), .val (.int (1 : Int32)), .val (.ref b), .val (.int (1 : Int32)), .val (.int (4 : Int32)), .val (.int (1 : Int32)), .val (.int ch1)] [])) t
    refine XS.iinc X18.here hx rfl (hb hby d10_32) rfl (l' := #[.val (.ref a), .val (.int (2 : Int32)), .val (.ref b), .val (.int (1 : Int32)), .val (.int (4 : Int32)), .val (.int (1 : Int32)), .val (.int ch1)]) rfl ?_
    show Steps p.tables e below (T18.setTop (mkF m 35 #[.val (.ref a), .val (.int (2 : Int32)), .val (.ref b), .val (.int (1 : Int32)), .val (.int (4 : Int32)), .val (.int (1 : Int32)), .val (.int ch1)] [])) t
    refine XS.iinc X18.here hx rfl (hb hby d10_35) rfl (l' := #[.val (.ref a), .val (.int (2 : Int32)), .val (.ref b), .val (.int (2 : Int32)), .val (.int (4 : Int32)), .val (.int (1 : Int32)), .val (.int ch1)]) rfl ?_
    show Steps p.tables e below (T18.setTop (mkF m 38 #[.val (.ref a), .val (.int (2 : Int32)), .val (.ref b), .val (.int (2 : Int32)), .val (.int (4 : Int32)), .val (.int (1 : Int32)), .val (.int ch1)] [])) t
    refine XS.iinc X18.here hx rfl (hb hby d10_38) rfl (l' := #[.val (.ref a), .val (.int (2 : Int32)), .val (.ref b), .val (.int (2 : Int32)), .val (.int (4 : Int32)), .val (.int (2 : Int32)), .val (.int ch1)]) rfl ?_
    show Steps p.tables e below (T18.setTop (mkF m 41 #[.val (.ref a), .val (.int (2 : Int32)), .val (.ref b), .val (.int (2 : Int32)), .val (.int (4 : Int32)), .val (.int (2 : Int32)), .val (.int ch1)] [])) t
    refine XS.goto X18.here hx rfl (pc0 := 41) (pc' := 3) rfl (hb hby d10_41) (by decide) (by decide) ?_
    show Steps p.tables e below (T18.setTop (mkF m 3 #[.val (.ref a), .val (.int (2 : Int32)), .val (.ref b), .val (.int (2 : Int32)), .val (.int (4 : Int32)), .val (.int (2 : Int32)), .val (.int ch1)] [])) t
    refine XS.iload X18.here hx rfl (hb hby d10_3) rfl ?_
    show Steps p.tables e below (T18.setTop (mkF m 5 #[.val (.ref a), .val (.int (2 : Int32)), .val (.ref b), .val (.int (2 : Int32)), .val (.int (4 : Int32)), .val (.int (2 : Int32)), .val (.int ch1)] [(.int (2 : Int32))])) t
    refine XS.iload X18.here hx rfl (hb hby d10_5) rfl ?_
    show Steps p.tables e below (T18.setTop (mkF m 7 #[.val (.ref a), .val (.int (2 : Int32)), .val (.ref b), .val (.int (2 : Int32)), .val (.int (4 : Int32)), .val (.int (2 : Int32)), .val (.int ch1)] [(.int (4 : Int32)), (.int (2 : Int32))])) t
    refine XS.icmpNo X18.here hx rfl (hb hby d10_7) rfl (tlt hc7_23).2.1 ?_
    show Steps p.tables e below (T18.setTop (mkF m 10 #[.val (.ref a), .val (.int (2 : Int32)), .val (.ref b), .val (.int (2 : Int32)), .val (.int (4 : Int32)), .val (.int (2 : Int32)), .val (.int ch1)] [])) t
    refine XS.aloadN X18.here hx rfl (hb hby d10_10) rfl rfl ?_
    show Steps p.tables e below (T18.setTop (mkF m 11 #[.val (.ref a), .val (.int (2 : Int32)), .val (.ref b), .val (.int (2 : Int32)), .val (.int (4 : Int32)), .val (.int (2 : Int32)), .val (.int ch1)] [(.ref a)])) t
    refine XS.iloadN X18.here hx rfl (hb hby d10_11) rfl ?_
    exact kt
  obtain ⟨cl25, Ar25, q25, S25, M25, H25, G25⟩ := id F20
  have hin25 : ¬ ((2 : Int32) < 0 ∨ cl25.slots.size ≤ ((2 : Int32)).toNatClampNeg) := inb_of S25 ⟨by decide, by decide⟩
  have hat25 : cl25.slots[((2 : Int32)).toNatClampNeg]? = some (.int ch2) := Has.at H25 hin25 rfl
  have k26 : ∀ t, Steps p.tables e below (T18.setTop (mkF m 13 #[.val (.ref a), .val (.int (2 : Int32)), .val (.ref b), .val (.int (2 : Int32)), .val (.int (4 : Int32)), .val (.int (2 : Int32)), .val (.int ch1)] [(.int ch2)])) t → Steps p.tables e below (s₁.setTop (entryFrame m #[(.ref a), (.int (0 : Int32)), (.ref b), (.int (0 : Int32)), (.int (4 : Int32))] 7)) t := fun t kt => k24 t (X18.caload hx (j := (2 : Int32)) (v := (.int ch2)) (by rw [e18]; exact Ar25.1) (State.isArrayOf_alike hZ.alike Ar25.2.1) Ar25.2.2 hin25 hat25 (g := (mkF m 12 #[.val (.ref a), .val (.int (2 : Int32)), .val (.ref b), .val (.int (2 : Int32)), .val (.int (4 : Int32)), .val (.int (2 : Int32)), .val (.int ch1)] [(.int (2 : Int32)), (.ref a)])) rfl rfl (hb hby d10_12) t kt)
  have k28 : ∀ t, Steps p.tables e below (T18.setTop (mkF m 31 #[.val (.ref a), .val (.int (2 : Int32)), .val (.ref b), .val (.int (2 : Int32)), .val (.int (4 : Int32)), .val (.int (2 : Int32)), .val (.int ch2)] [(.int (ch2.toInt8.toInt32)), (.int (2 : Int32)), (.ref b)])) t → Steps p.tables e below (s₁.setTop (entryFrame m #[(.ref a), (.int (0 : Int32)), (.ref b), (.int (0 : Int32)), (.int (4 : Int32))] 7)) t := by
    intro t kt
    refine k26 t ?_
    show Steps p.tables e below (T18.setTop (mkF m 13 #[.val (.ref a), .val (.int (2 : Int32)), .val (.ref b), .val (.int (2 : Int32)), .val (.int (4 : Int32)), .val (.int (2 : Int32)), .val (.int ch1)] [(.int ch2)])) t
    refine XS.istore X18.here hx rfl (hb hby d10_13) rfl (l' := #[.val (.ref a), .val (.int (2 : Int32)), .val (.ref b), .val (.int (2 : Int32)), .val (.int (4 : Int32)), .val (.int (2 : Int32)), .val (.int ch2)]) rfl ?_
    show Steps p.tables e below (T18.setTop (mkF m 15 #[.val (.ref a), .val (.int (2 : Int32)), .val (.ref b), .val (.int (2 : Int32)), .val (.int (4 : Int32)), .val (.int (2 : Int32)), .val (.int ch2)] [])) t
    refine XS.iload X18.here hx rfl (hb hby d10_15) rfl ?_
    show Steps p.tables e below (T18.setTop (mkF m 17 #[.val (.ref a), .val (.int (2 : Int32)), .val (.ref b), .val (.int (2 : Int32)), .val (.int (4 : Int32)), .val (.int (2 : Int32)), .val (.int ch2)] [(.int ch2)])) t
    refine XS.sipush X18.here hx rfl (hb hby d10_17) ?_
    show Steps p.tables e below (T18.setTop (mkF m 20 #[.val (.ref a), .val (.int (2 : Int32)), .val (.ref b), .val (.int (2 : Int32)), .val (.int (4 : Int32)), .val (.int (2 : Int32)), .val (.int ch2)] [(.int (255 : Int32)), (.int ch2)])) t
    refine XS.icmpYes X18.here hx rfl (pc0 := 20) (pc' := 26) rfl (hb hby d10_20) rfl (flt hch2).2.2.2 (by decide) (by decide) ?_
    show Steps p.tables e below (T18.setTop (mkF m 26 #[.val (.ref a), .val (.int (2 : Int32)), .val (.ref b), .val (.int (2 : Int32)), .val (.int (4 : Int32)), .val (.int (2 : Int32)), .val (.int ch2)] [])) t
    refine XS.aloadN X18.here hx rfl (hb hby d10_26) rfl rfl ?_
    show Steps p.tables e below (T18.setTop (mkF m 27 #[.val (.ref a), .val (.int (2 : Int32)), .val (.ref b), .val (.int (2 : Int32)), .val (.int (4 : Int32)), .val (.int (2 : Int32)), .val (.int ch2)] [(.ref b)])) t
    refine XS.iloadN X18.here hx rfl (hb hby d10_27) rfl ?_
    show Steps p.tables e below (T18.setTop (mkF m 28 #[.val (.ref a), .val (.int (2 : Int32)), .val (.ref b), .val (.int (2 : Int32)), .val (.int (4 : Int32)), .val (.int (2 : Int32)), .val (.int ch2)] [(.int (2 : Int32)), (.ref b)])) t
    refine XS.iload X18.here hx rfl (hb hby d10_28) rfl ?_
    show Steps p.tables e below (T18.setTop (mkF m 30 #[.val (.ref a), .val (.int (2 : Int32)), .val (.ref b), .val (.int (2 : Int32)), .val (.int (4 : Int32)), .val (.int (2 : Int32)), .val (.int ch2)] [(.int ch2), (.int (2 : Int32)), (.ref b)])) t
    refine XS.i2b X18.here hx rfl (hb hby d10_30) rfl ?_
    exact kt
  obtain ⟨cl29, Ar29, q29, S29, M29, H29, G29⟩ := id F19
  have hin29 : ¬ ((2 : Int32) < 0 ∨ cl29.slots.size ≤ ((2 : Int32)).toNatClampNeg) := inb_of S29 ⟨by decide, by decide⟩
  obtain ⟨T29, h29, X29, e29, W29, st29⟩ := stB X18 hx hZ e18 Ar29 (j := (2 : Int32)) hin29 (g := (mkF m 31 #[.val (.ref a), .val (.int (2 : Int32)), .val (.ref b), .val (.int (2 : Int32)), .val (.int (4 : Int32)), .val (.int (2 : Int32)), .val (.int ch2)] [(.int (ch2.toInt8.toInt32)), (.int (2 : Int32)), (.ref b)])) rfl rfl (hb hby d10_31)
  have F30 : Arv Z h29 b kb .byte (4 : Int32) [(.int ((ch0.toInt8.toInt32).toInt8.toInt32)), (.int ((ch1.toInt8.toInt32).toInt8.toInt32)), (.int ((ch2.toInt8.toInt32).toInt8.toInt32)), (.int (0 : Int32))] (.int (0 : Int32)) := Arv.set Ar29 q29 S29 M29 H29 G29 (fits_nar_byte _) W29 2 rfl (Nat.le_of_ble_eq_true rfl)
  have F31 := F20.other W29 ne
  have Z29 : n0 ≤ h29.size := Nat.le_trans Z18 (Keep.of_wr W29).1
  have K29 : Keep h0 h29 [b] := K18.wr W29 (Or.inl (List.mem_of_getElem? (i := 0) rfl))
  have N29 := Fr.snoc X29 N18 g_b
  have k33 : ∀ t, Steps p.tables e below (T29.setTop (mkF m 32 #[.val (.ref a), .val (.int (2 : Int32)), .val (.ref b), .val (.int (2 : Int32)), .val (.int (4 : Int32)), .val (.int (2 : Int32)), .val (.int ch2)] [])) t → Steps p.tables e below (s₁.setTop (entryFrame m #[(.ref a), (.int (0 : Int32)), (.ref b), (.int (0 : Int32)), (.int (4 : Int32))] 7)) t := fun t kt => k28 t (st29 t kt)
  have hc7_34 : (3 : Int32) < (4 : Int32) := by decide
  have k35 : ∀ t, Steps p.tables e below (T29.setTop (mkF m 12 #[.val (.ref a), .val (.int (3 : Int32)), .val (.ref b), .val (.int (3 : Int32)), .val (.int (4 : Int32)), .val (.int (3 : Int32)), .val (.int ch2)] [(.int (3 : Int32)), (.ref a)])) t → Steps p.tables e below (s₁.setTop (entryFrame m #[(.ref a), (.int (0 : Int32)), (.ref b), (.int (0 : Int32)), (.int (4 : Int32))] 7)) t := by
    intro t kt
    refine k33 t ?_
    show Steps p.tables e below (T29.setTop (mkF m 32 #[.val (.ref a), .val (.int (2 : Int32)), .val (.ref b), .val (.int (2 : Int32)), .val (.int (4 : Int32)), .val (.int (2 : Int32)), .val (.int ch2)] [])) t
    refine XS.iinc X29.here hx rfl (hb hby d10_32) rfl (l' := #[.val (.ref a), .val (.int (3 : Int32)), .val (.ref b), .val (.int (2 : Int32)), .val (.int (4 : Int32)), .val (.int (2 : Int32)), .val (.int ch2)]) rfl ?_
    show Steps p.tables e below (T29.setTop (mkF m 35 #[.val (.ref a), .val (.int (3 : Int32)), .val (.ref b), .val (.int (2 : Int32)), .val (.int (4 : Int32)), .val (.int (2 : Int32)), .val (.int ch2)] [])) t
    refine XS.iinc X29.here hx rfl (hb hby d10_35) rfl (l' := #[.val (.ref a), .val (.int (3 : Int32)), .val (.ref b), .val (.int (3 : Int32)), .val (.int (4 : Int32)), .val (.int (2 : Int32)), .val (.int ch2)]) rfl ?_
    show Steps p.tables e below (T29.setTop (mkF m 38 #[.val (.ref a), .val (.int (3 : Int32)), .val (.ref b), .val (.int (3 : Int32)), .val (.int (4 : Int32)), .val (.int (2 : Int32)), .val (.int ch2)] [])) t
    refine XS.iinc X29.here hx rfl (hb hby d10_38) rfl (l' := #[.val (.ref a), .val (.int (3 : Int32)), .val (.ref b), .val (.int (3 : Int32)), .val (.int (4 : Int32)), .val (.int (3 : Int32)), .val (.int ch2)]) rfl ?_
    show Steps p.tables e below (T29.setTop (mkF m 41 #[.val (.ref a), .val (.int (3 : Int32)), .val (.ref b), .val (.int (3 : Int32)), .val (.int (4 : Int32)), .val (.int (3 : Int32)), .val (.int ch2)] [])) t
    refine XS.goto X29.here hx rfl (pc0 := 41) (pc' := 3) rfl (hb hby d10_41) (by decide) (by decide) ?_
    show Steps p.tables e below (T29.setTop (mkF m 3 #[.val (.ref a), .val (.int (3 : Int32)), .val (.ref b), .val (.int (3 : Int32)), .val (.int (4 : Int32)), .val (.int (3 : Int32)), .val (.int ch2)] [])) t
    refine XS.iload X29.here hx rfl (hb hby d10_3) rfl ?_
    show Steps p.tables e below (T29.setTop (mkF m 5 #[.val (.ref a), .val (.int (3 : Int32)), .val (.ref b), .val (.int (3 : Int32)), .val (.int (4 : Int32)), .val (.int (3 : Int32)), .val (.int ch2)] [(.int (3 : Int32))])) t
    refine XS.iload X29.here hx rfl (hb hby d10_5) rfl ?_
    show Steps p.tables e below (T29.setTop (mkF m 7 #[.val (.ref a), .val (.int (3 : Int32)), .val (.ref b), .val (.int (3 : Int32)), .val (.int (4 : Int32)), .val (.int (3 : Int32)), .val (.int ch2)] [(.int (4 : Int32)), (.int (3 : Int32))])) t
    refine XS.icmpNo X29.here hx rfl (hb hby d10_7) rfl (tlt hc7_34).2.1 ?_
    show Steps p.tables e below (T29.setTop (mkF m 10 #[.val (.ref a), .val (.int (3 : Int32)), .val (.ref b), .val (.int (3 : Int32)), .val (.int (4 : Int32)), .val (.int (3 : Int32)), .val (.int ch2)] [])) t
    refine XS.aloadN X29.here hx rfl (hb hby d10_10) rfl rfl ?_
    show Steps p.tables e below (T29.setTop (mkF m 11 #[.val (.ref a), .val (.int (3 : Int32)), .val (.ref b), .val (.int (3 : Int32)), .val (.int (4 : Int32)), .val (.int (3 : Int32)), .val (.int ch2)] [(.ref a)])) t
    refine XS.iloadN X29.here hx rfl (hb hby d10_11) rfl ?_
    exact kt
  obtain ⟨cl36, Ar36, q36, S36, M36, H36, G36⟩ := id F31
  have hin36 : ¬ ((3 : Int32) < 0 ∨ cl36.slots.size ≤ ((3 : Int32)).toNatClampNeg) := inb_of S36 ⟨by decide, by decide⟩
  have hat36 : cl36.slots[((3 : Int32)).toNatClampNeg]? = some (.int ch3) := Has.at H36 hin36 rfl
  have k37 : ∀ t, Steps p.tables e below (T29.setTop (mkF m 13 #[.val (.ref a), .val (.int (3 : Int32)), .val (.ref b), .val (.int (3 : Int32)), .val (.int (4 : Int32)), .val (.int (3 : Int32)), .val (.int ch2)] [(.int ch3)])) t → Steps p.tables e below (s₁.setTop (entryFrame m #[(.ref a), (.int (0 : Int32)), (.ref b), (.int (0 : Int32)), (.int (4 : Int32))] 7)) t := fun t kt => k35 t (X29.caload hx (j := (3 : Int32)) (v := (.int ch3)) (by rw [e29]; exact Ar36.1) (State.isArrayOf_alike hZ.alike Ar36.2.1) Ar36.2.2 hin36 hat36 (g := (mkF m 12 #[.val (.ref a), .val (.int (3 : Int32)), .val (.ref b), .val (.int (3 : Int32)), .val (.int (4 : Int32)), .val (.int (3 : Int32)), .val (.int ch2)] [(.int (3 : Int32)), (.ref a)])) rfl rfl (hb hby d10_12) t kt)
  have k39 : ∀ t, Steps p.tables e below (T29.setTop (mkF m 31 #[.val (.ref a), .val (.int (3 : Int32)), .val (.ref b), .val (.int (3 : Int32)), .val (.int (4 : Int32)), .val (.int (3 : Int32)), .val (.int ch3)] [(.int (ch3.toInt8.toInt32)), (.int (3 : Int32)), (.ref b)])) t → Steps p.tables e below (s₁.setTop (entryFrame m #[(.ref a), (.int (0 : Int32)), (.ref b), (.int (0 : Int32)), (.int (4 : Int32))] 7)) t := by
    intro t kt
    refine k37 t ?_
    show Steps p.tables e below (T29.setTop (mkF m 13 #[.val (.ref a), .val (.int (3 : Int32)), .val (.ref b), .val (.int (3 : Int32)), .val (.int (4 : Int32)), .val (.int (3 : Int32)), .val (.int ch2)] [(.int ch3)])) t
    refine XS.istore X29.here hx rfl (hb hby d10_13) rfl (l' := #[.val (.ref a), .val (.int (3 : Int32)), .val (.ref b), .val (.int (3 : Int32)), .val (.int (4 : Int32)), .val (.int (3 : Int32)), .val (.int ch3)]) rfl ?_
    show Steps p.tables e below (T29.setTop (mkF m 15 #[.val (.ref a), .val (.int (3 : Int32)), .val (.ref b), .val (.int (3 : Int32)), .val (.int (4 : Int32)), .val (.int (3 : Int32)), .val (.int ch3)] [])) t
    refine XS.iload X29.here hx rfl (hb hby d10_15) rfl ?_
    show Steps p.tables e below (T29.setTop (mkF m 17 #[.val (.ref a), .val (.int (3 : Int32)), .val (.ref b), .val (.int (3 : Int32)), .val (.int (4 : Int32)), .val (.int (3 : Int32)), .val (.int ch3)] [(.int ch3)])) t
    refine XS.sipush X29.here hx rfl (hb hby d10_17) ?_
    show Steps p.tables e below (T29.setTop (mkF m 20 #[.val (.ref a), .val (.int (3 : Int32)), .val (.ref b), .val (.int (3 : Int32)), .val (.int (4 : Int32)), .val (.int (3 : Int32)), .val (.int ch3)] [(.int (255 : Int32)), (.int ch3)])) t
    refine XS.icmpYes X29.here hx rfl (pc0 := 20) (pc' := 26) rfl (hb hby d10_20) rfl (flt hch3).2.2.2 (by decide) (by decide) ?_
    show Steps p.tables e below (T29.setTop (mkF m 26 #[.val (.ref a), .val (.int (3 : Int32)), .val (.ref b), .val (.int (3 : Int32)), .val (.int (4 : Int32)), .val (.int (3 : Int32)), .val (.int ch3)] [])) t
    refine XS.aloadN X29.here hx rfl (hb hby d10_26) rfl rfl ?_
    show Steps p.tables e below (T29.setTop (mkF m 27 #[.val (.ref a), .val (.int (3 : Int32)), .val (.ref b), .val (.int (3 : Int32)), .val (.int (4 : Int32)), .val (.int (3 : Int32)), .val (.int ch3)] [(.ref b)])) t
    refine XS.iloadN X29.here hx rfl (hb hby d10_27) rfl ?_
    show Steps p.tables e below (T29.setTop (mkF m 28 #[.val (.ref a), .val (.int (3 : Int32)), .val (.ref b), .val (.int (3 : Int32)), .val (.int (4 : Int32)), .val (.int (3 : Int32)), .val (.int ch3)] [(.int (3 : Int32)), (.ref b)])) t
    refine XS.iload X29.here hx rfl (hb hby d10_28) rfl ?_
    show Steps p.tables e below (T29.setTop (mkF m 30 #[.val (.ref a), .val (.int (3 : Int32)), .val (.ref b), .val (.int (3 : Int32)), .val (.int (4 : Int32)), .val (.int (3 : Int32)), .val (.int ch3)] [(.int ch3), (.int (3 : Int32)), (.ref b)])) t
    refine XS.i2b X29.here hx rfl (hb hby d10_30) rfl ?_
    exact kt
  obtain ⟨cl40, Ar40, q40, S40, M40, H40, G40⟩ := id F30
  have hin40 : ¬ ((3 : Int32) < 0 ∨ cl40.slots.size ≤ ((3 : Int32)).toNatClampNeg) := inb_of S40 ⟨by decide, by decide⟩
  obtain ⟨T40, h40, X40, e40, W40, st40⟩ := stB X29 hx hZ e29 Ar40 (j := (3 : Int32)) hin40 (g := (mkF m 31 #[.val (.ref a), .val (.int (3 : Int32)), .val (.ref b), .val (.int (3 : Int32)), .val (.int (4 : Int32)), .val (.int (3 : Int32)), .val (.int ch3)] [(.int (ch3.toInt8.toInt32)), (.int (3 : Int32)), (.ref b)])) rfl rfl (hb hby d10_31)
  have F41 : Arv Z h40 b kb .byte (4 : Int32) [(.int ((ch0.toInt8.toInt32).toInt8.toInt32)), (.int ((ch1.toInt8.toInt32).toInt8.toInt32)), (.int ((ch2.toInt8.toInt32).toInt8.toInt32)), (.int ((ch3.toInt8.toInt32).toInt8.toInt32))] (.int (0 : Int32)) := Arv.set Ar40 q40 S40 M40 H40 G40 (fits_nar_byte _) W40 3 rfl (Nat.le_of_ble_eq_true rfl)
  have F42 := F31.other W40 ne
  have Z40 : n0 ≤ h40.size := Nat.le_trans Z29 (Keep.of_wr W40).1
  have K40 : Keep h0 h40 [b] := K29.wr W40 (Or.inl (List.mem_of_getElem? (i := 0) rfl))
  have N40 := Fr.snoc X40 N29 g_b
  have k44 : ∀ t, Steps p.tables e below (T40.setTop (mkF m 32 #[.val (.ref a), .val (.int (3 : Int32)), .val (.ref b), .val (.int (3 : Int32)), .val (.int (4 : Int32)), .val (.int (3 : Int32)), .val (.int ch3)] [])) t → Steps p.tables e below (s₁.setTop (entryFrame m #[(.ref a), (.int (0 : Int32)), (.ref b), (.int (0 : Int32)), (.int (4 : Int32))] 7)) t := fun t kt => k39 t (st40 t kt)
  have hc7_45 : ¬ ((4 : Int32) < (4 : Int32)) := by decide
  have k46 : ∀ t, Steps p.tables e below (T40.setTop (mkF m 46 #[.val (.ref a), .val (.int (4 : Int32)), .val (.ref b), .val (.int (4 : Int32)), .val (.int (4 : Int32)), .val (.int (4 : Int32)), .val (.int ch3)] [(.int (4 : Int32))])) t → Steps p.tables e below (s₁.setTop (entryFrame m #[(.ref a), (.int (0 : Int32)), (.ref b), (.int (0 : Int32)), (.int (4 : Int32))] 7)) t := by
    intro t kt
    refine k44 t ?_
    show Steps p.tables e below (T40.setTop (mkF m 32 #[.val (.ref a), .val (.int (3 : Int32)), .val (.ref b), .val (.int (3 : Int32)), .val (.int (4 : Int32)), .val (.int (3 : Int32)), .val (.int ch3)] [])) t
    refine XS.iinc X40.here hx rfl (hb hby d10_32) rfl (l' := #[.val (.ref a), .val (.int (4 : Int32)), .val (.ref b), .val (.int (3 : Int32)), .val (.int (4 : Int32)), .val (.int (3 : Int32)), .val (.int ch3)]) rfl ?_
    show Steps p.tables e below (T40.setTop (mkF m 35 #[.val (.ref a), .val (.int (4 : Int32)), .val (.ref b), .val (.int (3 : Int32)), .val (.int (4 : Int32)), .val (.int (3 : Int32)), .val (.int ch3)] [])) t
    refine XS.iinc X40.here hx rfl (hb hby d10_35) rfl (l' := #[.val (.ref a), .val (.int (4 : Int32)), .val (.ref b), .val (.int (4 : Int32)), .val (.int (4 : Int32)), .val (.int (3 : Int32)), .val (.int ch3)]) rfl ?_
    show Steps p.tables e below (T40.setTop (mkF m 38 #[.val (.ref a), .val (.int (4 : Int32)), .val (.ref b), .val (.int (4 : Int32)), .val (.int (4 : Int32)), .val (.int (3 : Int32)), .val (.int ch3)] [])) t
    refine XS.iinc X40.here hx rfl (hb hby d10_38) rfl (l' := #[.val (.ref a), .val (.int (4 : Int32)), .val (.ref b), .val (.int (4 : Int32)), .val (.int (4 : Int32)), .val (.int (4 : Int32)), .val (.int ch3)]) rfl ?_
    show Steps p.tables e below (T40.setTop (mkF m 41 #[.val (.ref a), .val (.int (4 : Int32)), .val (.ref b), .val (.int (4 : Int32)), .val (.int (4 : Int32)), .val (.int (4 : Int32)), .val (.int ch3)] [])) t
    refine XS.goto X40.here hx rfl (pc0 := 41) (pc' := 3) rfl (hb hby d10_41) (by decide) (by decide) ?_
    show Steps p.tables e below (T40.setTop (mkF m 3 #[.val (.ref a), .val (.int (4 : Int32)), .val (.ref b), .val (.int (4 : Int32)), .val (.int (4 : Int32)), .val (.int (4 : Int32)), .val (.int ch3)] [])) t
    refine XS.iload X40.here hx rfl (hb hby d10_3) rfl ?_
    show Steps p.tables e below (T40.setTop (mkF m 5 #[.val (.ref a), .val (.int (4 : Int32)), .val (.ref b), .val (.int (4 : Int32)), .val (.int (4 : Int32)), .val (.int (4 : Int32)), .val (.int ch3)] [(.int (4 : Int32))])) t
    refine XS.iload X40.here hx rfl (hb hby d10_5) rfl ?_
    show Steps p.tables e below (T40.setTop (mkF m 7 #[.val (.ref a), .val (.int (4 : Int32)), .val (.ref b), .val (.int (4 : Int32)), .val (.int (4 : Int32)), .val (.int (4 : Int32)), .val (.int ch3)] [(.int (4 : Int32)), (.int (4 : Int32))])) t
    refine XS.icmpYes X40.here hx rfl (pc0 := 7) (pc' := 44) rfl (hb hby d10_7) rfl (flt hc7_45).2.1 (by decide) (by decide) ?_
    show Steps p.tables e below (T40.setTop (mkF m 44 #[.val (.ref a), .val (.int (4 : Int32)), .val (.ref b), .val (.int (4 : Int32)), .val (.int (4 : Int32)), .val (.int (4 : Int32)), .val (.int ch3)] [])) t
    refine XS.iload X40.here hx rfl (hb hby d10_44) rfl ?_
    exact kt
  obtain ⟨fs, hr, hrun, hended, hW, hsame⟩ := X40.leave (v := some (.int (4 : Int32))) (fun h => by rw [Bd.returns] at h; cases h)
  refine ⟨_, _, k46 _ ?_, hrun, hended, _, _, rfl, ?_, ⟨_, rfl⟩, hW, hsame.mono (by decide) (by decide)⟩
  · show Steps p.tables e below (T40.setTop (mkF m 46 #[.val (.ref a), .val (.int (4 : Int32)), .val (.ref b), .val (.int (4 : Int32)), .val (.int (4 : Int32)), .val (.int (4 : Int32)), .val (.int ch3)] [(.int (4 : Int32))])) _
    exact retI X40 hx Bd.returns (hb hby d10_46) hr
  · show QCmp4 Z a b ka kb ch0 ch1 ch2 ch3 h0 n0 _ T40.heap _
    rw [e40]
    exact ⟨rfl, N40, K40, by simp only [own_i2b] at F41; exact F41⟩
theorem rmCps4_ef (m : MethodId) (x0 : Addr) : entryFrame m #[(.ref x0), (.int (0 : Int32)), (.int (4 : Int32))] 6 = mkF m 0 #[.val (.ref x0), .val (.int (0 : Int32)), .val (.int (4 : Int32)), .unset, .unset, .unset] [] := by first | (simp [entryFrame, mkF, argsToLocals, Value.category]; done) | rfl
def QCps4 (Z : State) (a : Addr) (ka : ClassId) (ch0 : Int32) (ch1 : Int32) (ch2 : Int32) (ch3 : Int32) (h0 : Heap) (n0 : Nat) (v : Option Value) (h : Heap) (L : List Loc) : Prop := ∃ (b : Addr) (kb : ClassId), v = some (.ref b) ∧ Fr n0 L ∧ Keep h0 h [] ∧ h0.size ≤ b ∧ Arv Z h b kb .byte (4 : Int32) [(.int (ch0.toInt8.toInt32)), (.int (ch1.toInt8.toInt32)), (.int (ch2.toInt8.toInt32)), (.int (ch3.toInt8.toInt32))] (.int (0 : Int32))
set_option maxRecDepth 65536 in
set_option maxHeartbeats 40000000 in
theorem rmCps4 (l : Launch) (Z : State) (a0 : Array Value) (hw : ∀ d ∈ tables_1, d.before a0 Z = true) (ws : List Jvm.Cond) (a : Addr) (ka : ClassId) (ch0 : Int32) (ch1 : Int32) (ch2 : Int32) (ch3 : Int32) (h0 : Heap) (n0 : Nat) (Z0 : n0 ≤ h0.size) (Aa : Arv Z h0 a ka .char (4 : Int32) [(.int ch0), (.int ch1), (.int ch2), (.int ch3)] (.int (0 : Int32))) (hch0 : ¬ ((255 : Int32) < ch0)) (hch1 : ¬ ((255 : Int32) < ch1)) (hch2 : ¬ ((255 : Int32) < ch2)) (hch3 : ¬ ((255 : Int32) < ch3)) :
    MetFree l (⟨"java/lang/StringUTF16", "compress", "([CII)[B"⟩ : MethodName) (head1 (Jvm.Cond.code (⟨"java/lang/StringUTF16", "compress", "([CII)[B"⟩ : MethodName) jdk_52_method_16_code 6 (some (.array .byte)) :: ws) ({ frames := 1, cells := 1, slots := 4, locals := 18 } : Room)) (fun aA' U => aA' = #[(.ref a), (.int (0 : Int32)), (.int (4 : Int32))] ∧ Z.Warmed39 U.vm ∧ U.heap = h0) (fun _ _ _ _ _ => True) (fun _ U oO' U' => ∃ vV' L, oO' = .returned vV' ∧ QCps4 Z a ka ch0 ch1 ch2 ch3 h0 n0 vV' U'.heap L ∧ FrameEnd U oO' U' L ({ frames := 1, cells := 1, slots := 4, locals := 18 } : Room).cells ({ frames := 1, cells := 1, slots := 4, locals := 18 } : Room).slots) := by
  refine MetFree.of_bodySF (plainFor_of_name own_pn0) hisR ?_
  intro p e s m args below meth c s₁ Bd hml0 hP hK
  obtain ⟨rfl, hZ, hh⟩ := hP
  have hx := Bd.exec
  have hby := Bd.bytes
  have hml : c.maxLocals = 6 := hml0
  have hown : s.vm.findClass "java/lang/StringUTF16" = some m.cls := findClass_of_methodNamed Bd.named
  have hnm := (name_of_methodNamed Bd.named Bd.method).1
  have X0 : Stand p l e ({ frames := 1, cells := 1, slots := 4, locals := 18 } : Room) s m #[(.ref a), (.int (0 : Int32)), (.int (4 : Int32))] below meth c s₁ [] 0 0 := Stand.of_body Bd
  have e0 : s₁.heap = h0 := by rw [← hh, Bd.state]; rfl
  have N0 := Fr.nil n0
  have K0 : Keep h0 h0 [] := Keep.refl _ _
  have k0 : ∀ t, Steps p.tables e below (s₁.setTop (mkF m 0 #[.val (.ref a), .val (.int (0 : Int32)), .val (.int (4 : Int32)), .unset, .unset, .unset] [])) t → Steps p.tables e below (s₁.setTop (entryFrame m #[(.ref a), (.int (0 : Int32)), (.int (4 : Int32))] 6)) t := fun t k => castTop (rmCps4_ef m (a)) k
  have k1 : ∀ t, Steps p.tables e below (s₁.setTop (mkF m 1 #[.val (.ref a), .val (.int (0 : Int32)), .val (.int (4 : Int32)), .unset, .unset, .unset] [(.int (4 : Int32))])) t → Steps p.tables e below (s₁.setTop (entryFrame m #[(.ref a), (.int (0 : Int32)), (.int (4 : Int32))] 6)) t := by
    intro t kt
    refine k0 t ?_
    show Steps p.tables e below (s₁.setTop (mkF m 0 #[.val (.ref a), .val (.int (0 : Int32)), .val (.int (4 : Int32)), .unset, .unset, .unset] [])) t
    refine XS.iloadN X0.here hx rfl (hb hby d9_0) rfl ?_
    exact kt
  obtain ⟨T2, h2, c2, X2, e2, E2, A2, st2⟩ := newP X0 hx hZ (hw _ (List.mem_of_getElem? (i := 23) rfl)) e0 (g := (mkF m 1 #[.val (.ref a), .val (.int (0 : Int32)), .val (.int (4 : Int32)), .unset, .unset, .unset] [(.int (4 : Int32))])) rfl (hb hby d9_1) rfl (by decide) (cap := 4) (by decide) (by decide) (by decide) (by decide)
  obtain ⟨b2, g2⟩ : ∃ z, z = h0.size := ⟨_, rfl⟩
  rw [← g2] at A2 st2
  have g_b2 : n0 ≤ b2 := Nat.le_trans Z0 (Nat.le_of_eq g2.symm)
  have sz_b2 : h0.size ≤ b2 := Nat.le_trans K0.1 (Nat.le_of_eq g2.symm)
  have ne3 : a ≠ b2 := Nat.ne_of_lt (Nat.lt_of_lt_of_le Aa.lt (Nat.le_of_eq g2.symm))
  have F4 := Aa.ext E2
  have Z2 : n0 ≤ h2.size := Nat.le_trans Z0 E2.1
  have K2 : Keep h0 h2 [] := K0.ext E2
  have F5 : Arv Z h2 b2 c2 .byte (4 : Int32) [(.int (0 : Int32)), (.int (0 : Int32)), (.int (0 : Int32)), (.int (0 : Int32))] (.int (0 : Int32)) := (Arv.new A2 (by decide)).pad (pad_rep [] (.int (0 : Int32)) 4)
  have k6 : ∀ t, Steps p.tables e below (T2.setTop (mkF m 3 #[.val (.ref a), .val (.int (0 : Int32)), .val (.int (4 : Int32)), .unset, .unset, .unset] [(.ref b2)])) t → Steps p.tables e below (s₁.setTop (entryFrame m #[(.ref a), (.int (0 : Int32)), (.int (4 : Int32))] 6)) t := fun t kt => k1 t (st2 t kt)
  have k7 : ∀ t, Steps p.tables e below (T2.setTop (mkF m 9 #[.val (.ref a), .val (.int (0 : Int32)), .val (.int (4 : Int32)), .val (.ref b2), .unset, .unset] [(.int (4 : Int32)), (.int (0 : Int32)), (.ref b2), (.int (0 : Int32)), (.ref a)])) t → Steps p.tables e below (s₁.setTop (entryFrame m #[(.ref a), (.int (0 : Int32)), (.int (4 : Int32))] 6)) t := by
    intro t kt
    refine k6 t ?_
    show Steps p.tables e below (T2.setTop (mkF m 3 #[.val (.ref a), .val (.int (0 : Int32)), .val (.int (4 : Int32)), .unset, .unset, .unset] [(.ref b2)])) t
    refine XS.astoreN X2.here hx rfl (hb hby d9_3) rfl rfl (l' := #[.val (.ref a), .val (.int (0 : Int32)), .val (.int (4 : Int32)), .val (.ref b2), .unset, .unset]) rfl ?_
    show Steps p.tables e below (T2.setTop (mkF m 4 #[.val (.ref a), .val (.int (0 : Int32)), .val (.int (4 : Int32)), .val (.ref b2), .unset, .unset] [])) t
    refine XS.aloadN X2.here hx rfl (hb hby d9_4) rfl rfl ?_
    show Steps p.tables e below (T2.setTop (mkF m 5 #[.val (.ref a), .val (.int (0 : Int32)), .val (.int (4 : Int32)), .val (.ref b2), .unset, .unset] [(.ref a)])) t
    refine XS.iloadN X2.here hx rfl (hb hby d9_5) rfl ?_
    show Steps p.tables e below (T2.setTop (mkF m 6 #[.val (.ref a), .val (.int (0 : Int32)), .val (.int (4 : Int32)), .val (.ref b2), .unset, .unset] [(.int (0 : Int32)), (.ref a)])) t
    refine XS.aloadN X2.here hx rfl (hb hby d9_6) rfl rfl ?_
    show Steps p.tables e below (T2.setTop (mkF m 7 #[.val (.ref a), .val (.int (0 : Int32)), .val (.int (4 : Int32)), .val (.ref b2), .unset, .unset] [(.ref b2), (.int (0 : Int32)), (.ref a)])) t
    refine XS.iconst X2.here hx rfl (hb hby d9_7) ?_
    show Steps p.tables e below (T2.setTop (mkF m 8 #[.val (.ref a), .val (.int (0 : Int32)), .val (.int (4 : Int32)), .val (.ref b2), .unset, .unset] [(.int (0 : Int32)), (.ref b2), (.int (0 : Int32)), (.ref a)])) t
    refine XS.iloadN X2.here hx rfl (hb hby d9_8) rfl ?_
    exact kt
  obtain ⟨_, _, ⟨T8, L8, k8c, n8⟩, -, X8, ⟨Lc8, hQ8, l8, y8, z8⟩, st8⟩ := Jvm.LawKit.callS X2 hx (y := (⟨"java/lang/StringUTF16", "compress", "([CI[BII)I"⟩ : MethodName)) hown (mvT hZ (hw _ (List.mem_of_getElem? (i := 51) rfl))) (mvT hZ (hw _ (List.mem_of_getElem? (i := 52) rfl))) (mvT hZ (hw _ (List.mem_of_getElem? (i := 49) rfl))) (mvT hZ (hw _ (List.mem_of_getElem? (i := 53) rfl))) (by decide) (backOf (W := 0) (rmCmp4 l Z a0 hw [] a b2 ka c2 ch0 ch1 ch2 ch3 h2 n0 Z2 F4 F5 g_b2 ne3 hch0 hch1 hch2 hch3) hZ (hw _ (List.mem_of_getElem? (i := 53) rfl)) (hw _ (List.mem_of_getElem? (i := 49) rfl)) (by decide) (by decide)) (g := (mkF m 9 #[.val (.ref a), .val (.int (0 : Int32)), .val (.int (4 : Int32)), .val (.ref b2), .unset, .unset] [(.int (4 : Int32)), (.int (0 : Int32)), (.ref b2), (.int (0 : Int32)), (.ref a)])) rfl (by rw [hml]; rfl) (argsL := [(.ref a), (.int (0 : Int32)), (.ref b2), (.int (0 : Int32)), (.int (4 : Int32))]) (rest := []) (lenOf own_pd0 rfl) rfl (by show 2 * 0 + _ ≤ _; exact Nat.le_of_eq rfl) (hb hby d9_9) (fun _ _ => ⟨rfl, e2, (by decide : 1 + 0 ≤ _), (by decide : 4 + 0 ≤ _)⟩)
  dsimp only [Pt.U, Pt.locs, Pt.cells, Pt.slots] at X8 l8 y8 z8 st8 hQ8
  subst l8 y8 z8
  obtain ⟨rfl, N8q, K8k, A8⟩ := hQ8
  have N8 := Fr.app N0 N8q
  have F9 := F4.keep K8k (ninS ne3 nin0)
  have Z11 : n0 ≤ T8.heap.size := Nat.le_trans Z2 K8k.1
  have K11 : Keep h0 T8.heap [] := K2.trans K8k (allS (Or.inr sz_b2) all0)
  have k12 : ∀ t, Steps p.tables e below (T8.setTop (mkF m 12 #[.val (.ref a), .val (.int (0 : Int32)), .val (.int (4 : Int32)), .val (.ref b2), .unset, .unset] [(.int (4 : Int32))])) t → Steps p.tables e below (s₁.setTop (entryFrame m #[(.ref a), (.int (0 : Int32)), (.int (4 : Int32))] 6)) t := fun t kt => k7 t (st8 t kt)
  have k14 : ∀ t, Steps p.tables e below (T8.setTop (mkF m 17 #[.val (.ref a), .val (.int (0 : Int32)), .val (.int (4 : Int32)), .val (.ref b2), .val (.int (4 : Int32)), .unset] [(.int (4 : Int32)), (.int (4 : Int32))])) t → Steps p.tables e below (s₁.setTop (entryFrame m #[(.ref a), (.int (0 : Int32)), (.int (4 : Int32))] 6)) t := by
    intro t kt
    refine k12 t ?_
    show Steps p.tables e below (T8.setTop (mkF m 12 #[.val (.ref a), .val (.int (0 : Int32)), .val (.int (4 : Int32)), .val (.ref b2), .unset, .unset] [(.int (4 : Int32))])) t
    refine XS.istore X8.here hx rfl (hb hby d9_12) rfl (l' := #[.val (.ref a), .val (.int (0 : Int32)), .val (.int (4 : Int32)), .val (.ref b2), .val (.int (4 : Int32)), .unset]) rfl ?_
    show Steps p.tables e below (T8.setTop (mkF m 14 #[.val (.ref a), .val (.int (0 : Int32)), .val (.int (4 : Int32)), .val (.ref b2), .val (.int (4 : Int32)), .unset] [])) t
    refine XS.iload X8.here hx rfl (hb hby d9_14) rfl ?_
    show Steps p.tables e below (T8.setTop (mkF m 16 #[.val (.ref a), .val (.int (0 : Int32)), .val (.int (4 : Int32)), .val (.ref b2), .val (.int (4 : Int32)), .unset] [(.int (4 : Int32))])) t
    refine XS.iloadN X8.here hx rfl (hb hby d9_16) rfl ?_
    exact kt
  have hc17_13 : (4 : Int32) = (4 : Int32) := rfl
  have k15 : ∀ t, Steps p.tables e below (T8.setTop (mkF m 58 #[.val (.ref a), .val (.int (0 : Int32)), .val (.int (4 : Int32)), .val (.ref b2), .val (.int (4 : Int32)), .unset] [(.ref b2)])) t → Steps p.tables e below (s₁.setTop (entryFrame m #[(.ref a), (.int (0 : Int32)), (.int (4 : Int32))] 6)) t := by
    intro t kt
    refine k14 t ?_
    show Steps p.tables e below (T8.setTop (mkF m 17 #[.val (.ref a), .val (.int (0 : Int32)), .val (.int (4 : Int32)), .val (.ref b2), .val (.int (4 : Int32)), .unset] [(.int (4 : Int32)), (.int (4 : Int32))])) t
    refine XS.icmpYes X8.here hx rfl (pc0 := 17) (pc' := 57) rfl (hb hby d9_17) rfl (teq hc17_13).1 (by decide) (by decide) ?_
    show Steps p.tables e below (T8.setTop (mkF m 57 #[.val (.ref a), .val (.int (0 : Int32)), .val (.int (4 : Int32)), .val (.ref b2), .val (.int (4 : Int32)), .unset] [])) t
    refine XS.aloadN X8.here hx rfl (hb hby d9_57) rfl rfl ?_
    exact kt
  obtain ⟨fs, hr, hrun, hended, hW, hsame⟩ := X8.leave (v := some (.ref b2)) (fun h => by rw [Bd.returns] at h; cases h)
  refine ⟨_, _, k15 _ ?_, hrun, hended, _, _, rfl, ?_, ⟨_, rfl⟩, hW, hsame.mono (by decide) (by decide)⟩
  · show Steps p.tables e below (T8.setTop (mkF m 58 #[.val (.ref a), .val (.int (0 : Int32)), .val (.int (4 : Int32)), .val (.ref b2), .val (.int (4 : Int32)), .unset] [(.ref b2)])) _
    jvm_step X8.here [X8.here.top, hx, (hb hby d9_58), X8.method', Bd.returns, Value.isRef, FieldType.isReference]
    first | (intro acts; rw [hr _ acts rfl rfl rfl]) | rw [hr _ _ rfl rfl rfl]
    exact Steps.refl _
  · show QCps4 Z a ka ch0 ch1 ch2 ch3 h0 n0 _ T8.heap _
    exact ⟨b2, c2, rfl, N8, K11, sz_b2, A8⟩
theorem rmCod4_ef (m : MethodId) (x0 : Addr) : entryFrame m #[(.ref x0), (.int (4 : Int32))] 2 = mkF m 0 #[.val (.ref x0), .val (.int (4 : Int32))] [] := by first | (simp [entryFrame, mkF, argsToLocals, Value.category]; done) | rfl
def QCod4 (Z : State) (b : Addr) (kb : ClassId) (vs : List Value) (h0 : Heap) (n0 : Nat) (v : Option Value) (h : Heap) (L : List Loc) : Prop := v = some (.int (0 : Int32)) ∧ Fr n0 L ∧ h = h0
set_option maxRecDepth 65536 in
set_option maxHeartbeats 40000000 in
theorem rmCod4 (l : Launch) (Z : State) (a0 : Array Value) (hw : ∀ d ∈ tables_1, d.before a0 Z = true) (ws : List Jvm.Cond) (b : Addr) (kb : ClassId) (vs : List Value) (h0 : Heap) (n0 : Nat) (Z0 : n0 ≤ h0.size) (Ab : Arv Z h0 b kb .byte (4 : Int32) vs (.int (0 : Int32))) :
    MetFree l (⟨"java/lang/StringUTF16", "coderFromArrayLen", "([BI)B"⟩ : MethodName) (head1 (Jvm.Cond.code (⟨"java/lang/StringUTF16", "coderFromArrayLen", "([BI)B"⟩ : MethodName) jdk_52_method_15_code 2 (some .byte) :: ws) ({ frames := 0, cells := 0, slots := 0, locals := 0 } : Room)) (fun aA' U => aA' = #[(.ref b), (.int (4 : Int32))] ∧ Z.Warmed39 U.vm ∧ U.heap = h0) (fun _ _ _ _ _ => True) (fun _ U oO' U' => ∃ vV' L, oO' = .returned vV' ∧ QCod4 Z b kb vs h0 n0 vV' U'.heap L ∧ FrameEnd U oO' U' L ({ frames := 0, cells := 0, slots := 0, locals := 0 } : Room).cells ({ frames := 0, cells := 0, slots := 0, locals := 0 } : Room).slots) := by
  refine MetFree.of_bodySF (plainFor_of_name own_pn0) hisR ?_
  intro p e s m args below meth c s₁ Bd hml0 hP hK
  obtain ⟨rfl, hZ, hh⟩ := hP
  have hx := Bd.exec
  have hby := Bd.bytes
  have hml : c.maxLocals = 2 := hml0
  have hown : s.vm.findClass "java/lang/StringUTF16" = some m.cls := findClass_of_methodNamed Bd.named
  have hnm := (name_of_methodNamed Bd.named Bd.method).1
  have X0 : Stand p l e ({ frames := 0, cells := 0, slots := 0, locals := 0 } : Room) s m #[(.ref b), (.int (4 : Int32))] below meth c s₁ [] 0 0 := Stand.of_body Bd
  have e0 : s₁.heap = h0 := by rw [← hh, Bd.state]; rfl
  have N0 := Fr.nil n0
  have K0 : Keep h0 h0 [] := Keep.refl _ _
  have k0 : ∀ t, Steps p.tables e below (s₁.setTop (mkF m 0 #[.val (.ref b), .val (.int (4 : Int32))] [])) t → Steps p.tables e below (s₁.setTop (entryFrame m #[(.ref b), (.int (4 : Int32))] 2)) t := fun t k => castTop (rmCod4_ef m (b)) k
  have k1 : ∀ t, Steps p.tables e below (s₁.setTop (mkF m 2 #[.val (.ref b), .val (.int (4 : Int32))] [(.ref b), (.int (4 : Int32))])) t → Steps p.tables e below (s₁.setTop (entryFrame m #[(.ref b), (.int (4 : Int32))] 2)) t := by
    intro t kt
    refine k0 t ?_
    show Steps p.tables e below (s₁.setTop (mkF m 0 #[.val (.ref b), .val (.int (4 : Int32))] [])) t
    refine XS.iloadN X0.here hx rfl (hb hby d11_0) rfl ?_
    show Steps p.tables e below (s₁.setTop (mkF m 1 #[.val (.ref b), .val (.int (4 : Int32))] [(.int (4 : Int32))])) t
    refine XS.aloadN X0.here hx rfl (hb hby d11_1) rfl rfl ?_
    exact kt
  obtain ⟨cl2, Ar2, -, S2, M2, -, -⟩ := id Ab
  have k3 : ∀ t, Steps p.tables e below (s₁.setTop (mkF m 3 #[.val (.ref b), .val (.int (4 : Int32))] [(.int (4 : Int32)), (.int (4 : Int32))])) t → Steps p.tables e below (s₁.setTop (entryFrame m #[(.ref b), (.int (4 : Int32))] 2)) t := fun t kt => k1 t (X0.arraylength hx (by rw [e0]; exact Ar2.1) (State.isArrayOf_alike hZ.alike Ar2.2.1) (g := (mkF m 2 #[.val (.ref b), .val (.int (4 : Int32))] [(.ref b), (.int (4 : Int32))])) rfl rfl (hb hby d11_2) t (by rw [len_of S2 M2]; exact kt))
  have k4 : ∀ t, Steps p.tables e below (s₁.setTop (mkF m 8 #[.val (.ref b), .val (.int (4 : Int32))] [(.int (((((4 : Int32) - (4 : Int32)).toUInt32 >>> ((31 : Int32) &&& 31).toUInt32).toInt32).toInt8.toInt32))])) t → Steps p.tables e below (s₁.setTop (entryFrame m #[(.ref b), (.int (4 : Int32))] 2)) t := by
    intro t kt
    refine k3 t ?_
    show Steps p.tables e below (s₁.setTop (mkF m 3 #[.val (.ref b), .val (.int (4 : Int32))] [(.int (4 : Int32)), (.int (4 : Int32))])) t
    refine XS.isub X0.here hx rfl (hb hby d11_3) rfl ?_
    show Steps p.tables e below (s₁.setTop (mkF m 4 #[.val (.ref b), .val (.int (4 : Int32))] [(.int ((4 : Int32) - (4 : Int32)))])) t
    refine XS.bipush X0.here hx rfl (hb hby d11_4) ?_
    show Steps p.tables e below (s₁.setTop (mkF m 6 #[.val (.ref b), .val (.int (4 : Int32))] [(.int (31 : Int32)), (.int ((4 : Int32) - (4 : Int32)))])) t
    refine XS.iushr X0.here hx rfl (hb hby d11_6) rfl ?_
    show Steps p.tables e below (s₁.setTop (mkF m 7 #[.val (.ref b), .val (.int (4 : Int32))] [(.int ((((4 : Int32) - (4 : Int32)).toUInt32 >>> ((31 : Int32) &&& 31).toUInt32).toInt32))])) t
    refine XS.i2b X0.here hx rfl (hb hby d11_7) rfl ?_
    exact kt
  obtain ⟨fs, hr, hrun, hended, hW, hsame⟩ := X0.leave (v := some (.int ((((((4 : Int32) - (4 : Int32)).toUInt32 >>> ((31 : Int32) &&& 31).toUInt32).toInt32).toInt8.toInt32).toInt8.toInt32))) (fun h => by rw [Bd.returns] at h; cases h)
  refine ⟨_, _, k4 _ ?_, hrun, hended, _, _, rfl, ?_, ⟨_, rfl⟩, hW, hsame.mono (by decide) (by decide)⟩
  · show Steps p.tables e below (s₁.setTop (mkF m 8 #[.val (.ref b), .val (.int (4 : Int32))] [(.int (((((4 : Int32) - (4 : Int32)).toUInt32 >>> ((31 : Int32) &&& 31).toUInt32).toInt32).toInt8.toInt32))])) _
    exact retN X0 hx (t := .byte) Bd.returns (by simp) (hb hby d11_8) hr
  · show QCod4 Z b kb vs h0 n0 _ s₁.heap _
    rw [e0]
    exact ⟨congrArg (fun z => some (Value.int z)) (by decide), N0, rfl⟩
theorem rmSv4_ef (m : MethodId) (x0 : Addr) (x1 : Addr) : entryFrame m #[(.ref x0), (.ref x1), (.int (0 : Int32)), (.int (4 : Int32)), .null] 6 = mkF m 0 #[.val (.ref x0), .val (.ref x1), .val (.int (0 : Int32)), .val (.int (4 : Int32)), .val .null, .unset] [] := by first | (simp [entryFrame, mkF, argsToLocals, Value.category]; done) | rfl
def QSv4 (Z : State) (ths : Addr) (a : Addr) (u : Value) (u' : Value) (ka : ClassId) (cs : Int32) (ch0 : Int32) (ch1 : Int32) (ch2 : Int32) (ch3 : Int32) (h0 : Heap) (n0 : Nat) (v : Option Value) (h : Heap) (L : List Loc) : Prop := v = none ∧ Fr n0 L ∧ Keep h0 h [ths] ∧ Exa Z h ths "java/lang/String" ∧ ∃ (b : Addr) (kb : ClassId), h0.size ≤ b ∧ Fld Z h ths "java/lang/String" "value" "[B" (.ref b) ∧ Fld Z h ths "java/lang/String" "coder" "B" (.int (0 : Int32)) ∧ Arv Z h b kb .byte (4 : Int32) [(.int (ch0.toInt8.toInt32)), (.int (ch1.toInt8.toInt32)), (.int (ch2.toInt8.toInt32)), (.int (ch3.toInt8.toInt32))] (.int (0 : Int32))
set_option maxRecDepth 65536 in
set_option maxHeartbeats 40000000 in
theorem rmSv4 (l : Launch) (Z : State) (a0 : Array Value) (hw : ∀ d ∈ tables_1, d.before a0 Z = true) (ws : List Jvm.Cond) (ths : Addr) (a : Addr) (u : Value) (u' : Value) (ka : ClassId) (cs : Int32) (ch0 : Int32) (ch1 : Int32) (ch2 : Int32) (ch3 : Int32) (h0 : Heap) (n0 : Nat) (Z0 : n0 ≤ h0.size) (Fv : Fld Z h0 ths "java/lang/String" "value" "[B" u) (Fc : Fld Z h0 ths "java/lang/String" "coder" "B" u') (Et : Exa Z h0 ths "java/lang/String") (g_t : n0 ≤ ths) (net : ths ≠ a) (Aa : Arv Z h0 a ka .char (4 : Int32) [(.int ch0), (.int ch1), (.int ch2), (.int ch3)] (.int (0 : Int32))) (SC : Sta Z h0 "java/lang/String" "COMPACT_STRINGS" "Z" (.int cs)) (hcs : ¬ (cs = (0 : Int32))) (hch0 : ¬ ((255 : Int32) < ch0)) (hch1 : ¬ ((255 : Int32) < ch1)) (hch2 : ¬ ((255 : Int32) < ch2)) (hch3 : ¬ ((255 : Int32) < ch3)) :
    MetFree l (⟨"java/lang/String", "<init>", "([CIILjava/lang/Void;)V"⟩ : MethodName) (head1 (Jvm.Cond.code (⟨"java/lang/String", "<init>", "([CIILjava/lang/Void;)V"⟩ : MethodName) jdk_42_method_149_code 6 none :: ws) ({ frames := 2, cells := 1, slots := 4, locals := 35 } : Room)) (fun aA' U => aA' = #[(.ref ths), (.ref a), (.int (0 : Int32)), (.int (4 : Int32)), .null] ∧ Z.Warmed39 U.vm ∧ U.heap = h0) (fun _ _ _ _ _ => True) (fun _ U oO' U' => ∃ vV' L, oO' = .returned vV' ∧ QSv4 Z ths a u u' ka cs ch0 ch1 ch2 ch3 h0 n0 vV' U'.heap L ∧ FrameEnd U oO' U' L ({ frames := 2, cells := 1, slots := 4, locals := 35 } : Room).cells ({ frames := 2, cells := 1, slots := 4, locals := 35 } : Room).slots) := by
  refine MetFree.of_bodySF (plainFor_of_name own_pn1) hisR ?_
  intro p e s m args below meth c s₁ Bd hml0 hP hK
  obtain ⟨rfl, hZ, hh⟩ := hP
  have hx := Bd.exec
  have hby := Bd.bytes
  have hml : c.maxLocals = 6 := hml0
  have hown : s.vm.findClass "java/lang/String" = some m.cls := findClass_of_methodNamed Bd.named
  have hnm := (name_of_methodNamed Bd.named Bd.method).1
  have X0 : Stand p l e ({ frames := 2, cells := 1, slots := 4, locals := 35 } : Room) s m #[(.ref ths), (.ref a), (.int (0 : Int32)), (.int (4 : Int32)), .null] below meth c s₁ [] 0 0 := Stand.of_body Bd
  have e0 : s₁.heap = h0 := by rw [← hh, Bd.state]; rfl
  have N0 := Fr.nil n0
  have K0 : Keep h0 h0 [ths] := Keep.refl _ _
  have k0 : ∀ t, Steps p.tables e below (s₁.setTop (mkF m 0 #[.val (.ref ths), .val (.ref a), .val (.int (0 : Int32)), .val (.int (4 : Int32)), .val .null, .unset] [])) t → Steps p.tables e below (s₁.setTop (entryFrame m #[(.ref ths), (.ref a), (.int (0 : Int32)), (.int (4 : Int32)), .null] 6)) t := fun t k => castTop (rmSv4_ef m (ths) (a)) k
  have k1 : ∀ t, Steps p.tables e below (s₁.setTop (mkF m 1 #[.val (.ref ths), .val (.ref a), .val (.int (0 : Int32)), .val (.int (4 : Int32)), .val .null, .unset] [(.ref ths)])) t → Steps p.tables e below (s₁.setTop (entryFrame m #[(.ref ths), (.ref a), (.int (0 : Int32)), (.int (4 : Int32)), .null] 6)) t := by
    intro t kt
    refine k0 t ?_
    show Steps p.tables e below (s₁.setTop (mkF m 0 #[.val (.ref ths), .val (.ref a), .val (.int (0 : Int32)), .val (.int (4 : Int32)), .val .null, .unset] [])) t
    refine XS.aloadN X0.here hx rfl (hb hby d4_0) rfl rfl ?_
    exact kt
  obtain ⟨T2, X2, e2, st2⟩ := initO X0 hx hZ hown (hw _ (List.mem_of_getElem? (i := 19) rfl)) (hw _ (List.mem_of_getElem? (i := 20) rfl)) (hw _ (List.mem_of_getElem? (i := 21) rfl)) e0 (g := (mkF m 1 #[.val (.ref ths), .val (.ref a), .val (.int (0 : Int32)), .val (.int (4 : Int32)), .val .null, .unset] [(.ref ths)])) rfl (by rw [hml]; rfl) rfl (hb hby d4_1) (by decide) (W := 0) (by show 2 * 0 + _ ≤ _; exact Nat.le_of_eq rfl) (by decide)
  have k3 : ∀ t, Steps p.tables e below (T2.setTop (mkF m 4 #[.val (.ref ths), .val (.ref a), .val (.int (0 : Int32)), .val (.int (4 : Int32)), .val .null, .unset] [])) t → Steps p.tables e below (s₁.setTop (entryFrame m #[(.ref ths), (.ref a), (.int (0 : Int32)), (.int (4 : Int32)), .null] 6)) t := fun t kt => k1 t (st2 t kt)
  have hc5_4 : ¬ ((4 : Int32) = (0 : Int32)) := by decide
  have k5 : ∀ t, Steps p.tables e below (T2.setTop (mkF m 27 #[.val (.ref ths), .val (.ref a), .val (.int (0 : Int32)), .val (.int (4 : Int32)), .val .null, .unset] [])) t → Steps p.tables e below (s₁.setTop (entryFrame m #[(.ref ths), (.ref a), (.int (0 : Int32)), (.int (4 : Int32)), .null] 6)) t := by
    intro t kt
    refine k3 t ?_
    show Steps p.tables e below (T2.setTop (mkF m 4 #[.val (.ref ths), .val (.ref a), .val (.int (0 : Int32)), .val (.int (4 : Int32)), .val .null, .unset] [])) t
    refine XS.iloadN X2.here hx rfl (hb hby d4_4) rfl ?_
    show Steps p.tables e below (T2.setTop (mkF m 5 #[.val (.ref ths), .val (.ref a), .val (.int (0 : Int32)), .val (.int (4 : Int32)), .val .null, .unset] [(.int (4 : Int32))])) t
    refine XS.ifYes X2.here hx rfl (pc0 := 5) (pc' := 27) rfl (hb hby d4_5) rfl ((if0 _ _).trans (feq hc5_4).2) (by decide) (by decide) ?_
    exact kt
  obtain ⟨T6, X6, e6, st6⟩ := getS2 X2 hx hZ hown (host := "") (Or.inl (hw _ (List.mem_of_getElem? (i := 41) rfl))) Via.refl e2 SC (g := (mkF m 27 #[.val (.ref ths), .val (.ref a), .val (.int (0 : Int32)), .val (.int (4 : Int32)), .val .null, .unset] [])) rfl (hb hby d4_27)
  have k7 : ∀ t, Steps p.tables e below (T6.setTop (mkF m 30 #[.val (.ref ths), .val (.ref a), .val (.int (0 : Int32)), .val (.int (4 : Int32)), .val .null, .unset] [(.int cs)])) t → Steps p.tables e below (s₁.setTop (entryFrame m #[(.ref ths), (.ref a), (.int (0 : Int32)), (.int (4 : Int32)), .null] 6)) t := fun t kt => k5 t (st6 t kt)
  have k9 : ∀ t, Steps p.tables e below (T6.setTop (mkF m 36 #[.val (.ref ths), .val (.ref a), .val (.int (0 : Int32)), .val (.int (4 : Int32)), .val .null, .unset] [(.int (4 : Int32)), (.int (0 : Int32)), (.ref a)])) t → Steps p.tables e below (s₁.setTop (entryFrame m #[(.ref ths), (.ref a), (.int (0 : Int32)), (.int (4 : Int32)), .null] 6)) t := by
    intro t kt
    refine k7 t ?_
    show Steps p.tables e below (T6.setTop (mkF m 30 #[.val (.ref ths), .val (.ref a), .val (.int (0 : Int32)), .val (.int (4 : Int32)), .val .null, .unset] [(.int cs)])) t
    refine XS.ifNo X6.here hx rfl (hb hby d4_30) rfl ((if0 _ _).trans (feq hcs).1) ?_
    show Steps p.tables e below (T6.setTop (mkF m 33 #[.val (.ref ths), .val (.ref a), .val (.int (0 : Int32)), .val (.int (4 : Int32)), .val .null, .unset] [])) t
    refine XS.aloadN X6.here hx rfl (hb hby d4_33) rfl rfl ?_
    show Steps p.tables e below (T6.setTop (mkF m 34 #[.val (.ref ths), .val (.ref a), .val (.int (0 : Int32)), .val (.int (4 : Int32)), .val .null, .unset] [(.ref a)])) t
    refine XS.iloadN X6.here hx rfl (hb hby d4_34) rfl ?_
    show Steps p.tables e below (T6.setTop (mkF m 35 #[.val (.ref ths), .val (.ref a), .val (.int (0 : Int32)), .val (.int (4 : Int32)), .val .null, .unset] [(.int (0 : Int32)), (.ref a)])) t
    refine XS.iloadN X6.here hx rfl (hb hby d4_35) rfl ?_
    exact kt
  obtain ⟨_, _, ⟨T10, L10, k10c, n10⟩, -, X10, ⟨Lc10, hQ10, l10, y10, z10⟩, st10⟩ := Jvm.LawKit.callS X6 hx (y := (⟨"java/lang/StringUTF16", "compress", "([CII)[B"⟩ : MethodName)) hown (mvT hZ (hw _ (List.mem_of_getElem? (i := 47) rfl))) (mvT hZ (hw _ (List.mem_of_getElem? (i := 48) rfl))) (mvT hZ (hw _ (List.mem_of_getElem? (i := 49) rfl))) (mvT hZ (hw _ (List.mem_of_getElem? (i := 50) rfl))) (by decide) (backOf (W := 0) (rmCps4 l Z a0 hw [] a ka ch0 ch1 ch2 ch3 h0 n0 Z0 Aa hch0 hch1 hch2 hch3) hZ (hw _ (List.mem_of_getElem? (i := 50) rfl)) (hw _ (List.mem_of_getElem? (i := 49) rfl)) (by decide) (by decide)) (g := (mkF m 36 #[.val (.ref ths), .val (.ref a), .val (.int (0 : Int32)), .val (.int (4 : Int32)), .val .null, .unset] [(.int (4 : Int32)), (.int (0 : Int32)), (.ref a)])) rfl (by rw [hml]; rfl) (argsL := [(.ref a), (.int (0 : Int32)), (.int (4 : Int32))]) (rest := []) (lenOf own_pd1 rfl) rfl (by show 2 * 0 + _ ≤ _; exact Nat.le_of_eq rfl) (hb hby d4_36) (fun _ _ => ⟨rfl, e6, (by decide : 0 + 1 ≤ _), (by decide : 0 + 4 ≤ _)⟩)
  dsimp only [Pt.U, Pt.locs, Pt.cells, Pt.slots] at X10 l10 y10 z10 st10 hQ10
  subst l10 y10 z10
  obtain ⟨b10, c10k, rfl, N10q, K10k, s10z, A10⟩ := hQ10
  have N10 := Fr.app N0 N10q
  have g_b10 : n0 ≤ b10 := Nat.le_trans Z0 s10z
  have sz_b10 : h0.size ≤ b10 := Nat.le_trans K0.1 s10z
  have ne11 : ths ≠ b10 := Nat.ne_of_lt (Nat.lt_of_lt_of_le Fv.lt s10z)
  have ne12 : a ≠ b10 := Nat.ne_of_lt (Nat.lt_of_lt_of_le Aa.lt s10z)
  have F13 := Fv.keep K10k nin0
  have F14 := Fc.keep K10k nin0
  have F15 := Et.keep K10k
  have F16 := Aa.keep K10k nin0
  have Z18 : n0 ≤ T10.heap.size := Nat.le_trans Z0 K10k.1
  have K18 : Keep h0 T10.heap [ths] := K0.trans K10k all0
  have k19 : ∀ t, Steps p.tables e below (T10.setTop (mkF m 39 #[.val (.ref ths), .val (.ref a), .val (.int (0 : Int32)), .val (.int (4 : Int32)), .val .null, .unset] [(.ref b10)])) t → Steps p.tables e below (s₁.setTop (entryFrame m #[(.ref ths), (.ref a), (.int (0 : Int32)), (.int (4 : Int32)), .null] 6)) t := fun t kt => k9 t (st10 t kt)
  have k20 : ∀ t, Steps p.tables e below (T10.setTop (mkF m 45 #[.val (.ref ths), .val (.ref a), .val (.int (0 : Int32)), .val (.int (4 : Int32)), .val .null, .val (.ref b10)] [(.int (4 : Int32)), (.ref b10), (.ref ths)])) t → Steps p.tables e below (s₁.setTop (entryFrame m #[(.ref ths), (.ref a), (.int (0 : Int32)), (.int (4 : Int32)), .null] 6)) t := by
    intro t kt
    refine k19 t ?_
    show Steps p.tables e below (T10.setTop (mkF m 39 #[.val (.ref ths), .val (.ref a), .val (.int (0 : Int32)), .val (.int (4 : Int32)), .val .null, .unset] [(.ref b10)])) t
    refine XS.astore X10.here hx rfl (hb hby d4_39) rfl rfl (l' := #[.val (.ref ths), .val (.ref a), .val (.int (0 : Int32)), .val (.int (4 : Int32)), .val .null, .val (.ref b10)]) rfl ?_
    show Steps p.tables e below (T10.setTop (mkF m 41 #[.val (.ref ths), .val (.ref a), .val (.int (0 : Int32)), .val (.int (4 : Int32)), .val .null, .val (.ref b10)] [])) t
    refine XS.aloadN X10.here hx rfl (hb hby d4_41) rfl rfl ?_
    show Steps p.tables e below (T10.setTop (mkF m 42 #[.val (.ref ths), .val (.ref a), .val (.int (0 : Int32)), .val (.int (4 : Int32)), .val .null, .val (.ref b10)] [(.ref ths)])) t
    refine XS.aload X10.here hx rfl (hb hby d4_42) rfl rfl ?_
    show Steps p.tables e below (T10.setTop (mkF m 44 #[.val (.ref ths), .val (.ref a), .val (.int (0 : Int32)), .val (.int (4 : Int32)), .val .null, .val (.ref b10)] [(.ref b10), (.ref ths)])) t
    refine XS.iloadN X10.here hx rfl (hb hby d4_44) rfl ?_
    exact kt
  obtain ⟨_, _, ⟨T21, L21, k21c, n21⟩, -, X21, ⟨Lc21, hQ21, l21, y21, z21⟩, st21⟩ := Jvm.LawKit.callS X10 hx (y := (⟨"java/lang/StringUTF16", "coderFromArrayLen", "([BI)B"⟩ : MethodName)) hown (mvT hZ (hw _ (List.mem_of_getElem? (i := 54) rfl))) (mvT hZ (hw _ (List.mem_of_getElem? (i := 55) rfl))) (mvT hZ (hw _ (List.mem_of_getElem? (i := 49) rfl))) (mvT hZ (hw _ (List.mem_of_getElem? (i := 56) rfl))) (by decide) (backOf (W := 1) (rmCod4 l Z a0 hw [] b10 c10k [(.int (ch0.toInt8.toInt32)), (.int (ch1.toInt8.toInt32)), (.int (ch2.toInt8.toInt32)), (.int (ch3.toInt8.toInt32))] T10.heap n0 Z18 A10) hZ (hw _ (List.mem_of_getElem? (i := 56) rfl)) (hw _ (List.mem_of_getElem? (i := 49) rfl)) (by decide) (by decide)) (g := (mkF m 45 #[.val (.ref ths), .val (.ref a), .val (.int (0 : Int32)), .val (.int (4 : Int32)), .val .null, .val (.ref b10)] [(.int (4 : Int32)), (.ref b10), (.ref ths)])) rfl (by rw [hml]; rfl) (argsL := [(.ref b10), (.int (4 : Int32))]) (rest := [(.ref ths)]) (lenOf own_pd2 rfl) rfl (by show 2 * 0 + _ ≤ _; exact Nat.le_of_eq rfl) (hb hby d4_45) (fun _ _ => ⟨rfl, rfl, (by decide : 1 + 0 ≤ _), (by decide : 4 + 0 ≤ _)⟩)
  dsimp only [Pt.U, Pt.locs, Pt.cells, Pt.slots] at X21 l21 y21 z21 st21 hQ21
  subst l21 y21 z21
  obtain ⟨rfl, N21q, e21⟩ := hQ21
  have N21 := Fr.app N10 N21q
  have k22 : ∀ t, Steps p.tables e below (T21.setTop (mkF m 48 #[.val (.ref ths), .val (.ref a), .val (.int (0 : Int32)), .val (.int (4 : Int32)), .val .null, .val (.ref b10)] [(.int (0 : Int32)), (.ref ths)])) t → Steps p.tables e below (s₁.setTop (entryFrame m #[(.ref ths), (.ref a), (.int (0 : Int32)), (.int (4 : Int32)), .null] 6)) t := fun t kt => k20 t (st21 t kt)
  obtain ⟨T23, h23, X23, e23, W23, st23⟩ := putFN X21 hx hZ hown (hw _ (List.mem_of_getElem? (i := 29) rfl)) Via.refl e21 F14 F15 (Or.inr ⟨(hw _ (List.mem_of_getElem? (i := 25) rfl)), rfl, hnm⟩) (hw _ (List.mem_of_getElem? (i := 9) rfl)) (ty := .byte) (v' := (.int (0 : Int32))) (by decide) rfl (by decide) (g := (mkF m 48 #[.val (.ref ths), .val (.ref a), .val (.int (0 : Int32)), .val (.int (4 : Int32)), .val .null, .val (.ref b10)] [(.int (0 : Int32)), (.ref ths)])) rfl rfl (hb hby d4_48)
  have F24 := F13.other W23 (Or.inr (slot_ne (Or.inr (hw _ (List.mem_of_getElem? (i := 24) rfl))) (Or.inr (hw _ (List.mem_of_getElem? (i := 25) rfl))) (by decide) (t := (.array .byte)) (t' := .byte) (by decide) (by decide)))
  have F25 := F14.same W23
  have F26 := F15.wr W23
  have F27 := F16.other W23 (Ne.symm net)
  have F28 := A10.other W23 (Ne.symm ne11)
  have Z23 : n0 ≤ h23.size := Nat.le_trans Z18 (Keep.of_wr W23).1
  have K23 : Keep h0 h23 [ths] := K18.wr W23 (Or.inl (List.mem_of_getElem? (i := 0) rfl))
  have N23 := Fr.snoc X23 N21 g_t
  have k29 : ∀ t, Steps p.tables e below (T23.setTop (mkF m 51 #[.val (.ref ths), .val (.ref a), .val (.int (0 : Int32)), .val (.int (4 : Int32)), .val .null, .val (.ref b10)] [])) t → Steps p.tables e below (s₁.setTop (entryFrame m #[(.ref ths), (.ref a), (.int (0 : Int32)), (.int (4 : Int32)), .null] 6)) t := fun t kt => k22 t (st23 t kt)
  have k30 : ∀ t, Steps p.tables e below (T23.setTop (mkF m 54 #[.val (.ref ths), .val (.ref a), .val (.int (0 : Int32)), .val (.int (4 : Int32)), .val .null, .val (.ref b10)] [(.ref b10), (.ref ths)])) t → Steps p.tables e below (s₁.setTop (entryFrame m #[(.ref ths), (.ref a), (.int (0 : Int32)), (.int (4 : Int32)), .null] 6)) t := by
    intro t kt
    refine k29 t ?_
    show Steps p.tables e below (T23.setTop (mkF m 51 #[.val (.ref ths), .val (.ref a), .val (.int (0 : Int32)), .val (.int (4 : Int32)), .val .null, .val (.ref b10)] [])) t
    refine XS.aloadN X23.here hx rfl (hb hby d4_51) rfl rfl ?_
    show Steps p.tables e below (T23.setTop (mkF m 52 #[.val (.ref ths), .val (.ref a), .val (.int (0 : Int32)), .val (.int (4 : Int32)), .val .null, .val (.ref b10)] [(.ref ths)])) t
    refine XS.aload X23.here hx rfl (hb hby d4_52) rfl rfl ?_
    exact kt
  obtain ⟨T31, h31, X31, e31, W31, st31⟩ := putF X23 hx hZ hown (host := "") (Or.inl (hw _ (List.mem_of_getElem? (i := 28) rfl))) Via.refl e23 F24 F26 (Or.inr ⟨(hw _ (List.mem_of_getElem? (i := 24) rfl)), rfl, hnm⟩) (hw _ (List.mem_of_getElem? (i := 9) rfl)) (ty := (.array .byte)) (by decide) rfl rfl (g := (mkF m 54 #[.val (.ref ths), .val (.ref a), .val (.int (0 : Int32)), .val (.int (4 : Int32)), .val .null, .val (.ref b10)] [(.ref b10), (.ref ths)])) rfl rfl (hb hby d4_54)
  have F32 := F24.same W31
  have F33 := F25.other W31 (Or.inr (slot_ne (Or.inr (hw _ (List.mem_of_getElem? (i := 25) rfl))) (Or.inr (hw _ (List.mem_of_getElem? (i := 24) rfl))) (by decide) (t := .byte) (t' := (.array .byte)) (by decide) (by decide)))
  have F34 := F26.wr W31
  have F35 := F27.other W31 (Ne.symm net)
  have F36 := F28.other W31 (Ne.symm ne11)
  have Z31 : n0 ≤ h31.size := Nat.le_trans Z23 (Keep.of_wr W31).1
  have K31 : Keep h0 h31 [ths] := K23.wr W31 (Or.inl (List.mem_of_getElem? (i := 0) rfl))
  have N31 := Fr.snoc X31 N23 g_t
  have k37 : ∀ t, Steps p.tables e below (T31.setTop (mkF m 57 #[.val (.ref ths), .val (.ref a), .val (.int (0 : Int32)), .val (.int (4 : Int32)), .val .null, .val (.ref b10)] [])) t → Steps p.tables e below (s₁.setTop (entryFrame m #[(.ref ths), (.ref a), (.int (0 : Int32)), (.int (4 : Int32)), .null] 6)) t := fun t kt => k30 t (st31 t kt)
  obtain ⟨fs, hr, hrun, hended, hW, hsame⟩ := X31.leave (v := none) (fun _ => rfl)
  refine ⟨_, _, k37 _ ?_, hrun, hended, _, _, rfl, ?_, ⟨_, rfl⟩, hW, hsame.mono (by decide) (by decide)⟩
  · show Steps p.tables e below (T31.setTop (mkF m 57 #[.val (.ref ths), .val (.ref a), .val (.int (0 : Int32)), .val (.int (4 : Int32)), .val .null, .val (.ref b10)] [])) _
    exact X31.returnOut hx Bd.returns (hb hby d4_57) hr
  · show QSv4 Z ths a u u' ka cs ch0 ch1 ch2 ch3 h0 n0 _ T31.heap _
    rw [e31]
    exact ⟨rfl, N31, K31, F34, b10, c10k, sz_b10, F32, F33, F36⟩
theorem rmSi4_ef (m : MethodId) (x0 : Addr) (x1 : Addr) : entryFrame m #[(.ref x0), (.ref x1)] 2 = mkF m 0 #[.val (.ref x0), .val (.ref x1)] [] := by first | (simp [entryFrame, mkF, argsToLocals, Value.category]; done) | rfl
def QSi4 (Z : State) (ths : Addr) (a : Addr) (u : Value) (u' : Value) (ka : ClassId) (cs : Int32) (ch0 : Int32) (ch1 : Int32) (ch2 : Int32) (ch3 : Int32) (h0 : Heap) (n0 : Nat) (v : Option Value) (h : Heap) (L : List Loc) : Prop := v = none ∧ Fr n0 L ∧ Keep h0 h [ths] ∧ Exa Z h ths "java/lang/String" ∧ ∃ (b : Addr) (kb : ClassId), h0.size ≤ b ∧ Fld Z h ths "java/lang/String" "value" "[B" (.ref b) ∧ Fld Z h ths "java/lang/String" "coder" "B" (.int (0 : Int32)) ∧ Arv Z h b kb .byte (4 : Int32) [(.int (ch0.toInt8.toInt32)), (.int (ch1.toInt8.toInt32)), (.int (ch2.toInt8.toInt32)), (.int (ch3.toInt8.toInt32))] (.int (0 : Int32))
set_option maxRecDepth 65536 in
set_option maxHeartbeats 40000000 in
theorem rmSi4 (l : Launch) (Z : State) (a0 : Array Value) (hw : ∀ d ∈ tables_1, d.before a0 Z = true) (ws : List Jvm.Cond) (ths : Addr) (a : Addr) (u : Value) (u' : Value) (ka : ClassId) (cs : Int32) (ch0 : Int32) (ch1 : Int32) (ch2 : Int32) (ch3 : Int32) (h0 : Heap) (n0 : Nat) (Z0 : n0 ≤ h0.size) (Fv : Fld Z h0 ths "java/lang/String" "value" "[B" u) (Fc : Fld Z h0 ths "java/lang/String" "coder" "B" u') (Et : Exa Z h0 ths "java/lang/String") (g_t : n0 ≤ ths) (net : ths ≠ a) (Aa : Arv Z h0 a ka .char (4 : Int32) [(.int ch0), (.int ch1), (.int ch2), (.int ch3)] (.int (0 : Int32))) (SC : Sta Z h0 "java/lang/String" "COMPACT_STRINGS" "Z" (.int cs)) (hcs : ¬ (cs = (0 : Int32))) (hch0 : ¬ ((255 : Int32) < ch0)) (hch1 : ¬ ((255 : Int32) < ch1)) (hch2 : ¬ ((255 : Int32) < ch2)) (hch3 : ¬ ((255 : Int32) < ch3)) :
    MetFree l (⟨"java/lang/String", "<init>", "([C)V"⟩ : MethodName) (head1 (Jvm.Cond.code (⟨"java/lang/String", "<init>", "([C)V"⟩ : MethodName) jdk_42_method_3_code 2 none :: ws) ({ frames := 3, cells := 1, slots := 4, locals := 52 } : Room)) (fun aA' U => aA' = #[(.ref ths), (.ref a)] ∧ Z.Warmed39 U.vm ∧ U.heap = h0) (fun _ _ _ _ _ => True) (fun _ U oO' U' => ∃ vV' L, oO' = .returned vV' ∧ QSi4 Z ths a u u' ka cs ch0 ch1 ch2 ch3 h0 n0 vV' U'.heap L ∧ FrameEnd U oO' U' L ({ frames := 3, cells := 1, slots := 4, locals := 52 } : Room).cells ({ frames := 3, cells := 1, slots := 4, locals := 52 } : Room).slots) := by
  refine MetFree.of_bodySF (plainFor_of_name own_pn1) hisR ?_
  intro p e s m args below meth c s₁ Bd hml0 hP hK
  obtain ⟨rfl, hZ, hh⟩ := hP
  have hx := Bd.exec
  have hby := Bd.bytes
  have hml : c.maxLocals = 2 := hml0
  have hown : s.vm.findClass "java/lang/String" = some m.cls := findClass_of_methodNamed Bd.named
  have hnm := (name_of_methodNamed Bd.named Bd.method).1
  have X0 : Stand p l e ({ frames := 3, cells := 1, slots := 4, locals := 52 } : Room) s m #[(.ref ths), (.ref a)] below meth c s₁ [] 0 0 := Stand.of_body Bd
  have e0 : s₁.heap = h0 := by rw [← hh, Bd.state]; rfl
  have N0 := Fr.nil n0
  have K0 : Keep h0 h0 [ths] := Keep.refl _ _
  have k0 : ∀ t, Steps p.tables e below (s₁.setTop (mkF m 0 #[.val (.ref ths), .val (.ref a)] [])) t → Steps p.tables e below (s₁.setTop (entryFrame m #[(.ref ths), (.ref a)] 2)) t := fun t k => castTop (rmSi4_ef m (ths) (a)) k
  have k1 : ∀ t, Steps p.tables e below (s₁.setTop (mkF m 4 #[.val (.ref ths), .val (.ref a)] [(.ref a), (.int (0 : Int32)), (.ref a), (.ref ths)])) t → Steps p.tables e below (s₁.setTop (entryFrame m #[(.ref ths), (.ref a)] 2)) t := by
    intro t kt
    refine k0 t ?_
    show Steps p.tables e below (s₁.setTop (mkF m 0 #[.val (.ref ths), .val (.ref a)] [])) t
    refine XS.aloadN X0.here hx rfl (hb hby d3_0) rfl rfl ?_
    show Steps p.tables e below (s₁.setTop (mkF m 1 #[.val (.ref ths), .val (.ref a)] [(.ref ths)])) t
    refine XS.aloadN X0.here hx rfl (hb hby d3_1) rfl rfl ?_
    show Steps p.tables e below (s₁.setTop (mkF m 2 #[.val (.ref ths), .val (.ref a)] [(.ref a), (.ref ths)])) t
    refine XS.iconst X0.here hx rfl (hb hby d3_2) ?_
    show Steps p.tables e below (s₁.setTop (mkF m 3 #[.val (.ref ths), .val (.ref a)] [(.int (0 : Int32)), (.ref a), (.ref ths)])) t
    refine XS.aloadN X0.here hx rfl (hb hby d3_3) rfl rfl ?_
    exact kt
  obtain ⟨cl2, Ar2, -, S2, M2, -, -⟩ := id Aa
  have k3 : ∀ t, Steps p.tables e below (s₁.setTop (mkF m 5 #[.val (.ref ths), .val (.ref a)] [(.int (4 : Int32)), (.int (0 : Int32)), (.ref a), (.ref ths)])) t → Steps p.tables e below (s₁.setTop (entryFrame m #[(.ref ths), (.ref a)] 2)) t := fun t kt => k1 t (X0.arraylength hx (by rw [e0]; exact Ar2.1) (State.isArrayOf_alike hZ.alike Ar2.2.1) (g := (mkF m 4 #[.val (.ref ths), .val (.ref a)] [(.ref a), (.int (0 : Int32)), (.ref a), (.ref ths)])) rfl rfl (hb hby d3_4) t (by rw [len_of S2 M2]; exact kt))
  have k4 : ∀ t, Steps p.tables e below (s₁.setTop (mkF m 6 #[.val (.ref ths), .val (.ref a)] [.null, (.int (4 : Int32)), (.int (0 : Int32)), (.ref a), (.ref ths)])) t → Steps p.tables e below (s₁.setTop (entryFrame m #[(.ref ths), (.ref a)] 2)) t := by
    intro t kt
    refine k3 t ?_
    show Steps p.tables e below (s₁.setTop (mkF m 5 #[.val (.ref ths), .val (.ref a)] [(.int (4 : Int32)), (.int (0 : Int32)), (.ref a), (.ref ths)])) t
    refine XS.aconstNull X0.here hx rfl (hb hby d3_5) ?_
    exact kt
  obtain ⟨_, _, ⟨T5, L5, k5c, n5⟩, -, X5, ⟨Lc5, hQ5, l5, y5, z5⟩, st5⟩ := X0.specialBack hx (y := (⟨"java/lang/String", "<init>", "([CIILjava/lang/Void;)V"⟩ : MethodName)) rfl hown (mvT hZ (hw _ (List.mem_of_getElem? (i := 15) rfl))) (mvT hZ (hw _ (List.mem_of_getElem? (i := 16) rfl))) (mvT hZ (hw _ (List.mem_of_getElem? (i := 18) rfl))) (by decide) (backOf (W := 0) (rmSv4 l Z a0 hw [] ths a u u' ka cs ch0 ch1 ch2 ch3 h0 n0 Z0 Fv Fc Et g_t net Aa SC hcs hch0 hch1 hch2 hch3) hZ (hw _ (List.mem_of_getElem? (i := 18) rfl)) (hw _ (List.mem_of_getElem? (i := 10) rfl)) (by decide) (by decide)) (g := (mkF m 6 #[.val (.ref ths), .val (.ref a)] [.null, (.int (4 : Int32)), (.int (0 : Int32)), (.ref a), (.ref ths)])) rfl (by rw [hml]; rfl) (Steps.refl _) (a := ths) (argsL := [(.ref a), (.int (0 : Int32)), (.int (4 : Int32)), .null]) (rest := []) (lenOf own_pd3 rfl) rfl (by show 2 * 0 + _ ≤ _; exact Nat.le_of_eq rfl) (hb hby d3_6) (fun _ _ => ⟨rfl, e0, (by decide : 0 + 1 ≤ _), (by decide : 0 + 4 ≤ _)⟩)
  dsimp only [Pt.U, Pt.locs, Pt.cells, Pt.slots] at X5 l5 y5 z5 st5 hQ5
  subst l5 y5 z5
  obtain ⟨rfl, N5q, K5k, E5t, b5, c5k, s5z, Fv5, Fc5, A5⟩ := hQ5
  have N5 := Fr.app N0 N5q
  have g_b5 : n0 ≤ b5 := Nat.le_trans Z0 s5z
  have sz_b5 : h0.size ≤ b5 := Nat.le_trans K0.1 s5z
  have ne6 : ths ≠ b5 := Nat.ne_of_lt (Nat.lt_of_lt_of_le Fv.lt s5z)
  have ne7 : a ≠ b5 := Nat.ne_of_lt (Nat.lt_of_lt_of_le Aa.lt s5z)
  have F10 := Et.keep K5k
  have F11 := Aa.keep K5k (ninS (Ne.symm net) nin0)
  have Z13 : n0 ≤ T5.heap.size := Nat.le_trans Z0 K5k.1
  have K13 : Keep h0 T5.heap [ths] := K0.trans K5k (allS (Or.inl (List.mem_of_getElem? (i := 0) rfl)) all0)
  have k14 : ∀ t, Steps p.tables e below (T5.setTop (mkF m 9 #[.val (.ref ths), .val (.ref a)] [])) t → Steps p.tables e below (s₁.setTop (entryFrame m #[(.ref ths), (.ref a)] 2)) t := fun t kt => k4 t (st5.trans kt)
  obtain ⟨fs, hr, hrun, hended, hW, hsame⟩ := X5.leave (v := none) (fun _ => rfl)
  refine ⟨_, _, k14 _ ?_, hrun, hended, _, _, rfl, ?_, ⟨_, rfl⟩, hW, hsame.mono (by decide) (by decide)⟩
  · show Steps p.tables e below (T5.setTop (mkF m 9 #[.val (.ref ths), .val (.ref a)] [])) _
    exact X5.returnOut hx Bd.returns (hb hby d3_9) hr
  · show QSi4 Z ths a u u' ka cs ch0 ch1 ch2 ch3 h0 n0 _ T5.heap _
    exact ⟨rfl, N5, K13, F10, b5, c5k, sz_b5, Fv5, Fc5, A5⟩
theorem rmSe4_ef (m : MethodId) (x0 : Addr) (x1 : Addr) : entryFrame m #[(.ref x0), (.ref x1), (.int (0 : Int32)), (.int (0 : Int32)), .null] 6 = mkF m 0 #[.val (.ref x0), .val (.ref x1), .val (.int (0 : Int32)), .val (.int (0 : Int32)), .val .null, .unset] [] := by first | (simp [entryFrame, mkF, argsToLocals, Value.category]; done) | rfl
def QSe4 (Z : State) (ths : Addr) (a : Addr) (u : Value) (u' : Value) (ka : ClassId) (cs : Int32) (h0 : Heap) (n0 : Nat) (v : Option Value) (h : Heap) (L : List Loc) : Prop := v = none ∧ Fr n0 L ∧ Keep h0 h [ths] ∧ Exa Z h ths "java/lang/String" ∧ ∃ (b : Addr) (kb : ClassId), Fld Z h ths "java/lang/String" "value" "[B" (.ref b) ∧ Fld Z h ths "java/lang/String" "coder" "B" (.int (0 : Int32)) ∧ Arv Z h b kb .byte (0 : Int32) [] (.int (0 : Int32))
set_option maxRecDepth 65536 in
set_option maxHeartbeats 40000000 in
theorem rmSe4 (l : Launch) (Z : State) (a0 : Array Value) (hw : ∀ d ∈ tables_1, d.before a0 Z = true) (ws : List Jvm.Cond) (ths : Addr) (a : Addr) (u : Value) (u' : Value) (ka : ClassId) (cs : Int32) (h0 : Heap) (n0 : Nat) (Z0 : n0 ≤ h0.size) (Fv : Fld Z h0 ths "java/lang/String" "value" "[B" u) (Fc : Fld Z h0 ths "java/lang/String" "coder" "B" u') (Et : Exa Z h0 ths "java/lang/String") (g_t : n0 ≤ ths) :
    MetFree l (⟨"java/lang/String", "<init>", "([CIILjava/lang/Void;)V"⟩ : MethodName) (head1 (Jvm.Cond.code (⟨"java/lang/String", "<init>", "([CIILjava/lang/Void;)V"⟩ : MethodName) jdk_42_method_149_code 6 none :: ws) ({ frames := 1, cells := 2, slots := 4, locals := 12 } : Room)) (fun aA' U => aA' = #[(.ref ths), (.ref a), (.int (0 : Int32)), (.int (0 : Int32)), .null] ∧ Z.Warmed39 U.vm ∧ U.heap = h0 ∧ CHv Z own_EL U.vm h0 ∧ ∀ xX' ∈ ([ths] : List Addr), Safe Z own_EL U.vm h0 xX') (fun _ _ _ _ _ => True) (fun _ U oO' U' => ∃ vV' L, oO' = .returned vV' ∧ QSe4 Z ths a u u' ka cs h0 n0 vV' U'.heap L ∧ CHr Z own_EL U.vm U.heap U'.vm U'.heap ∧ ReturnedEndW U oO' U' L ({ frames := 1, cells := 2, slots := 4, locals := 12 } : Room).cells ({ frames := 1, cells := 2, slots := 4, locals := 12 } : Room).slots) := by
  refine MetFree.of_bodySF (plainFor_of_name own_pn1) hisR ?_
  intro p e s m args below meth c s₁ Bd hml0 hP hK
  obtain ⟨rfl, hZ, hh, hC0, hSf⟩ := hP
  have hx := Bd.exec
  have hby := Bd.bytes
  have hml : c.maxLocals = 6 := hml0
  have hown : s.vm.findClass "java/lang/String" = some m.cls := findClass_of_methodNamed Bd.named
  have hnm := (name_of_methodNamed Bd.named Bd.method).1
  have X0 : Stand p l e ({ frames := 1, cells := 2, slots := 4, locals := 12 } : Room) (s.setVm s.vm) m #[(.ref ths), (.ref a), (.int (0 : Int32)), (.int (0 : Int32)), .null] below meth c s₁ [] 0 0 := Stand.of_body Bd
  have e0 : s₁.heap = h0 := by rw [← hh, Bd.state]; rfl
  have N0 := Fr.nil n0
  have K0 : Keep h0 h0 [ths] := Keep.refl _ _
  have k0 : ∀ t, Steps p.tables e below (s₁.setTop (mkF m 0 #[.val (.ref ths), .val (.ref a), .val (.int (0 : Int32)), .val (.int (0 : Int32)), .val .null, .unset] [])) t → Steps p.tables e below (s₁.setTop (entryFrame m #[(.ref ths), (.ref a), (.int (0 : Int32)), (.int (0 : Int32)), .null] 6)) t := fun t k => castTop (rmSe4_ef m (ths) (a)) k
  have C0 : CHr Z own_EL s.vm h0 s.vm h0 := CHr.refl hC0
  have hS0 : s.Since s.vm 0 := (State.WarmedH.refl s).since 0
  have hk0 : 0 ≤ h0.size := Nat.zero_le _
  have hEL := own_EW hw
  have S_ths : Safe Z own_EL s.vm h0 ths := hSf _ (List.mem_of_getElem? (i := 0) rfl)
  have k1 : ∀ t, Steps p.tables e below (s₁.setTop (mkF m 1 #[.val (.ref ths), .val (.ref a), .val (.int (0 : Int32)), .val (.int (0 : Int32)), .val .null, .unset] [(.ref ths)])) t → Steps p.tables e below (s₁.setTop (entryFrame m #[(.ref ths), (.ref a), (.int (0 : Int32)), (.int (0 : Int32)), .null] 6)) t := by
    intro t kt
    refine k0 t ?_
    show Steps p.tables e below (s₁.setTop (mkF m 0 #[.val (.ref ths), .val (.ref a), .val (.int (0 : Int32)), .val (.int (0 : Int32)), .val .null, .unset] [])) t
    refine XS.aloadN X0.here hx rfl (hb hby d4_0) rfl rfl ?_
    exact kt
  obtain ⟨T2, X2, e2, st2⟩ := initO X0 hx hZ hown (hw _ (List.mem_of_getElem? (i := 19) rfl)) (hw _ (List.mem_of_getElem? (i := 20) rfl)) (hw _ (List.mem_of_getElem? (i := 21) rfl)) e0 (g := (mkF m 1 #[.val (.ref ths), .val (.ref a), .val (.int (0 : Int32)), .val (.int (0 : Int32)), .val .null, .unset] [(.ref ths)])) rfl (by rw [hml]; rfl) rfl (hb hby d4_1) (by decide) (W := 0) (by show 2 * 0 + _ ≤ _; exact Nat.le_of_eq rfl) (by decide)
  have k3 : ∀ t, Steps p.tables e below (T2.setTop (mkF m 4 #[.val (.ref ths), .val (.ref a), .val (.int (0 : Int32)), .val (.int (0 : Int32)), .val .null, .unset] [])) t → Steps p.tables e below (s₁.setTop (entryFrame m #[(.ref ths), (.ref a), (.int (0 : Int32)), (.int (0 : Int32)), .null] 6)) t := fun t kt => k1 t (st2 t kt)
  have k5 : ∀ t, Steps p.tables e below (T2.setTop (mkF m 5 #[.val (.ref ths), .val (.ref a), .val (.int (0 : Int32)), .val (.int (0 : Int32)), .val .null, .unset] [(.int (0 : Int32))])) t → Steps p.tables e below (s₁.setTop (entryFrame m #[(.ref ths), (.ref a), (.int (0 : Int32)), (.int (0 : Int32)), .null] 6)) t := by
    intro t kt
    refine k3 t ?_
    show Steps p.tables e below (T2.setTop (mkF m 4 #[.val (.ref ths), .val (.ref a), .val (.int (0 : Int32)), .val (.int (0 : Int32)), .val .null, .unset] [])) t
    refine XS.iloadN X2.here hx rfl (hb hby d4_4) rfl ?_
    exact kt
  have hc5_4 : (0 : Int32) = (0 : Int32) := rfl
  have k6 : ∀ t, Steps p.tables e below (T2.setTop (mkF m 9 #[.val (.ref ths), .val (.ref a), .val (.int (0 : Int32)), .val (.int (0 : Int32)), .val .null, .unset] [(.ref ths)])) t → Steps p.tables e below (s₁.setTop (entryFrame m #[(.ref ths), (.ref a), (.int (0 : Int32)), (.int (0 : Int32)), .null] 6)) t := by
    intro t kt
    refine k5 t ?_
    show Steps p.tables e below (T2.setTop (mkF m 5 #[.val (.ref ths), .val (.ref a), .val (.int (0 : Int32)), .val (.int (0 : Int32)), .val .null, .unset] [(.int (0 : Int32))])) t
    refine XS.ifNo X2.here hx rfl (hb hby d4_5) rfl ((if0 _ _).trans (teq hc5_4).2) ?_
    show Steps p.tables e below (T2.setTop (mkF m 8 #[.val (.ref ths), .val (.ref a), .val (.int (0 : Int32)), .val (.int (0 : Int32)), .val .null, .unset] [])) t
    refine XS.aloadN X2.here hx rfl (hb hby d4_8) rfl rfl ?_
    exact kt
  obtain ⟨a7, T7, h7, j7, b7, c7, X7, e7, E7, hS7, hk7, hZ7, hown7, A7, Fc7, Fv7, V7, la7, lb7, Cn7, Li7, sf7, st7⟩ := ldcCH (s := s) (vm0 := s.vm) X2 hx hZ hown (hw _ (List.mem_of_getElem? (i := 22) rfl)) (own_wS hw) e2 hS0 hk0 hEL (List.mem_of_getElem? (i := 0) rfl) C0.1 (vs := []) (z := (0 : Int32)) ⟨by decide, by decide⟩ (by decide) rfl (g := (mkF m 9 #[.val (.ref ths), .val (.ref a), .val (.int (0 : Int32)), .val (.int (0 : Int32)), .val .null, .unset] [(.ref ths)])) rfl (hb hby d4_9) (n := 0) (by decide) (by decide) (by decide) (by decide)
  have F8 := CHr.safe Cn7 Et.lt S_ths
  have C9 := CHr.trans C0 Cn7
  have F10 := Fv.ext E7
  have F11 := Fc.ext E7
  have F12 := Et.ext E7
  have Z7 : n0 ≤ h7.size := Nat.le_trans Z0 E7.1
  have K7 : Keep h0 h7 [ths] := K0.ext E7
  have k13 : ∀ t, Steps p.tables e below (T7.setTop (mkF m 11 #[.val (.ref ths), .val (.ref a), .val (.int (0 : Int32)), .val (.int (0 : Int32)), .val .null, .unset] [(.ref a7), (.ref ths)])) t → Steps p.tables e below (s₁.setTop (entryFrame m #[(.ref ths), (.ref a), (.int (0 : Int32)), (.int (0 : Int32)), .null] 6)) t := fun t kt => k6 t (st7 t kt)
  obtain ⟨T14, X14, e14, st14⟩ := getF X7 hx hZ7 hown7 (host := "") (Or.inl (hw _ (List.mem_of_getElem? (i := 28) rfl))) Via.refl e7 Fv7 (g := (mkF m 11 #[.val (.ref ths), .val (.ref a), .val (.int (0 : Int32)), .val (.int (0 : Int32)), .val .null, .unset] [(.ref a7), (.ref ths)])) rfl rfl (hb hby d4_11)
  have k15 : ∀ t, Steps p.tables e below (T14.setTop (mkF m 14 #[.val (.ref ths), .val (.ref a), .val (.int (0 : Int32)), .val (.int (0 : Int32)), .val .null, .unset] [(.ref b7), (.ref ths)])) t → Steps p.tables e below (s₁.setTop (entryFrame m #[(.ref ths), (.ref a), (.int (0 : Int32)), (.int (0 : Int32)), .null] 6)) t := fun t kt => k13 t (st14 t kt)
  obtain ⟨T16, h16, X16, e16, W16, st16⟩ := putF X14 hx hZ7 hown7 (host := "") (Or.inl (hw _ (List.mem_of_getElem? (i := 28) rfl))) Via.refl e14 F10 F12 (Or.inr ⟨(hw _ (List.mem_of_getElem? (i := 24) rfl)), rfl, hnm⟩) (hw _ (List.mem_of_getElem? (i := 9) rfl)) (ty := (.array .byte)) (by decide) rfl rfl (g := (mkF m 14 #[.val (.ref ths), .val (.ref a), .val (.int (0 : Int32)), .val (.int (0 : Int32)), .val .null, .unset] [(.ref b7), (.ref ths)])) rfl rfl (hb hby d4_14)
  have F17 := Safe.wr W16 F8 C9.1 F8
  have C18 := CHr.trans C9 (CHr.wr W16 F8 C9.1)
  have F19 := F10.same W16
  have F20 := F11.other W16 (Or.inr (slot_ne (Or.inr (hw _ (List.mem_of_getElem? (i := 25) rfl))) (Or.inr (hw _ (List.mem_of_getElem? (i := 24) rfl))) (by decide) (t := .byte) (t' := (.array .byte)) (by decide) (by decide)))
  have F21 := F12.wr W16
  have F22 := A7.wr W16
  have F23 := Fc7.other W16 (Or.inl (Ne.symm (sf7 _ F8).1))
  have F24 := Fv7.other W16 (Or.inl (Ne.symm (sf7 _ F8).1))
  have F25 := V7.other W16 (Ne.symm (sf7 _ F8).2)
  have hk_26 := Nat.le_trans hk7 (Keep.of_wr W16).1
  have Z16 : n0 ≤ h16.size := Nat.le_trans Z7 (Keep.of_wr W16).1
  have K16 : Keep h0 h16 [ths] := K7.wr W16 (Or.inl (List.mem_of_getElem? (i := 0) rfl))
  have N16 := Fr.snoc X16 N0 g_t
  have k27 : ∀ t, Steps p.tables e below (T16.setTop (mkF m 17 #[.val (.ref ths), .val (.ref a), .val (.int (0 : Int32)), .val (.int (0 : Int32)), .val .null, .unset] [])) t → Steps p.tables e below (s₁.setTop (entryFrame m #[(.ref ths), (.ref a), (.int (0 : Int32)), (.int (0 : Int32)), .null] 6)) t := fun t kt => k15 t (st16 t kt)
  have k28 : ∀ t, Steps p.tables e below (T16.setTop (mkF m 18 #[.val (.ref ths), .val (.ref a), .val (.int (0 : Int32)), .val (.int (0 : Int32)), .val .null, .unset] [(.ref ths)])) t → Steps p.tables e below (s₁.setTop (entryFrame m #[(.ref ths), (.ref a), (.int (0 : Int32)), (.int (0 : Int32)), .null] 6)) t := by
    intro t kt
    refine k27 t ?_
    show Steps p.tables e below (T16.setTop (mkF m 17 #[.val (.ref ths), .val (.ref a), .val (.int (0 : Int32)), .val (.int (0 : Int32)), .val .null, .unset] [])) t
    refine XS.aloadN X16.here hx rfl (hb hby d4_17) rfl rfl ?_
    exact kt
  have k30 : ∀ t, Steps p.tables e below (T16.setTop (mkF m 20 #[.val (.ref ths), .val (.ref a), .val (.int (0 : Int32)), .val (.int (0 : Int32)), .val .null, .unset] [(.ref a7), (.ref ths)])) t → Steps p.tables e below (s₁.setTop (entryFrame m #[(.ref ths), (.ref a), (.int (0 : Int32)), (.int (0 : Int32)), .null] 6)) t := fun t kt => k28 t (ldcAgain (s := s) (vm0 := T7.vm) X16 hx hZ7 hown7 (hw _ (List.mem_of_getElem? (i := 22) rfl)) Li7 (g := (mkF m 18 #[.val (.ref ths), .val (.ref a), .val (.int (0 : Int32)), .val (.int (0 : Int32)), .val .null, .unset] [(.ref ths)])) rfl (hb hby d4_18) t kt)
  obtain ⟨T31, X31, e31, st31⟩ := getF X16 hx hZ7 hown7 (host := "") (Or.inl (hw _ (List.mem_of_getElem? (i := 29) rfl))) Via.refl e16 F23 (g := (mkF m 20 #[.val (.ref ths), .val (.ref a), .val (.int (0 : Int32)), .val (.int (0 : Int32)), .val .null, .unset] [(.ref a7), (.ref ths)])) rfl rfl (hb hby d4_20)
  have k32 : ∀ t, Steps p.tables e below (T31.setTop (mkF m 23 #[.val (.ref ths), .val (.ref a), .val (.int (0 : Int32)), .val (.int (0 : Int32)), .val .null, .unset] [(.int (0 : Int32)), (.ref ths)])) t → Steps p.tables e below (s₁.setTop (entryFrame m #[(.ref ths), (.ref a), (.int (0 : Int32)), (.int (0 : Int32)), .null] 6)) t := fun t kt => k30 t (st31 t kt)
  obtain ⟨T33, h33, X33, e33, W33, st33⟩ := putFN X31 hx hZ7 hown7 (hw _ (List.mem_of_getElem? (i := 29) rfl)) Via.refl e31 F20 F21 (Or.inr ⟨(hw _ (List.mem_of_getElem? (i := 25) rfl)), rfl, hnm⟩) (hw _ (List.mem_of_getElem? (i := 9) rfl)) (ty := .byte) (v' := (.int (0 : Int32))) (by decide) rfl (by decide) (g := (mkF m 23 #[.val (.ref ths), .val (.ref a), .val (.int (0 : Int32)), .val (.int (0 : Int32)), .val .null, .unset] [(.int (0 : Int32)), (.ref ths)])) rfl rfl (hb hby d4_23)
  have F34 := Safe.wr W33 F17 C18.1 F17
  have C35 := CHr.trans C18 (CHr.wr W33 F17 C18.1)
  have F36 := F19.other W33 (Or.inr (slot_ne (Or.inr (hw _ (List.mem_of_getElem? (i := 24) rfl))) (Or.inr (hw _ (List.mem_of_getElem? (i := 25) rfl))) (by decide) (t := (.array .byte)) (t' := .byte) (by decide) (by decide)))
  have F37 := F20.same W33
  have F38 := F21.wr W33
  have F39 := F22.wr W33
  have F40 := F23.other W33 (Or.inl (Ne.symm (sf7 _ F8).1))
  have F41 := F24.other W33 (Or.inl (Ne.symm (sf7 _ F8).1))
  have F42 := F25.other W33 (Ne.symm (sf7 _ F8).2)
  have hk_43 := Nat.le_trans hk_26 (Keep.of_wr W33).1
  have Z33 : n0 ≤ h33.size := Nat.le_trans Z16 (Keep.of_wr W33).1
  have K33 : Keep h0 h33 [ths] := K16.wr W33 (Or.inl (List.mem_of_getElem? (i := 0) rfl))
  have N33 := Fr.snoc X33 N16 g_t
  have k44 : ∀ t, Steps p.tables e below (T33.setTop (mkF m 26 #[.val (.ref ths), .val (.ref a), .val (.int (0 : Int32)), .val (.int (0 : Int32)), .val .null, .unset] [])) t → Steps p.tables e below (s₁.setTop (entryFrame m #[(.ref ths), (.ref a), (.int (0 : Int32)), (.int (0 : Int32)), .null] 6)) t := fun t kt => k32 t (st33 t kt)
  obtain ⟨fs, hr, hrun, hended, hRW⟩ := X33.leaveW hS7 (by rw [e33]; exact hk_43) (v := none) (fun _ => rfl)
  refine ⟨_, _, k44 _ ?_, hrun, hended, _, _, rfl, ?_, ?_, hRW.1, hRW.2.1, hRW.2.2.1, hRW.2.2.2.mono (by decide) (by decide)⟩
  · show Steps p.tables e below (T33.setTop (mkF m 26 #[.val (.ref ths), .val (.ref a), .val (.int (0 : Int32)), .val (.int (0 : Int32)), .val .null, .unset] [])) _
    exact X33.returnOut hx Bd.returns (hb hby d4_26) hr
  · show QSe4 Z ths a u u' ka cs h0 n0 _ T33.heap _
    rw [e33]
    exact ⟨rfl, N33, K33, F38, b7, c7, F36, F37, F42⟩
  · show CHr Z own_EL s.vm s.heap T33.vm T33.heap
    rw [hh, e33]
    exact CHr.trans C35 (CHv.at (s := s) (vm0 := T7.vm) X33 hZ7 hEL C35.1)
theorem rmSe1_ef (m : MethodId) (x0 : Addr) (x1 : Addr) : entryFrame m #[(.ref x0), (.ref x1)] 2 = mkF m 0 #[.val (.ref x0), .val (.ref x1)] [] := by first | (simp [entryFrame, mkF, argsToLocals, Value.category]; done) | rfl
def QSe1 (Z : State) (ths : Addr) (a : Addr) (u : Value) (u' : Value) (ka : ClassId) (cs : Int32) (h0 : Heap) (n0 : Nat) (v : Option Value) (h : Heap) (L : List Loc) : Prop := v = none ∧ Fr n0 L ∧ Keep h0 h [ths] ∧ Exa Z h ths "java/lang/String" ∧ ∃ (b : Addr) (kb : ClassId), Fld Z h ths "java/lang/String" "value" "[B" (.ref b) ∧ Fld Z h ths "java/lang/String" "coder" "B" (.int (0 : Int32)) ∧ Arv Z h b kb .byte (0 : Int32) [] (.int (0 : Int32))
set_option maxRecDepth 65536 in
set_option maxHeartbeats 40000000 in
theorem rmSe1 (l : Launch) (Z : State) (a0 : Array Value) (hw : ∀ d ∈ tables_1, d.before a0 Z = true) (ws : List Jvm.Cond) (ths : Addr) (a : Addr) (u : Value) (u' : Value) (ka : ClassId) (cs : Int32) (h0 : Heap) (n0 : Nat) (Z0 : n0 ≤ h0.size) (Fv : Fld Z h0 ths "java/lang/String" "value" "[B" u) (Fc : Fld Z h0 ths "java/lang/String" "coder" "B" u') (Et : Exa Z h0 ths "java/lang/String") (g_t : n0 ≤ ths) (Aa : Arv Z h0 a ka .char (0 : Int32) [] (.int (0 : Int32))) :
    MetFree l (⟨"java/lang/String", "<init>", "([C)V"⟩ : MethodName) (head1 (Jvm.Cond.code (⟨"java/lang/String", "<init>", "([C)V"⟩ : MethodName) jdk_42_method_3_code 2 none :: ws) ({ frames := 2, cells := 2, slots := 4, locals := 29 } : Room)) (fun aA' U => aA' = #[(.ref ths), (.ref a)] ∧ Z.Warmed39 U.vm ∧ U.heap = h0 ∧ CHv Z own_EL U.vm h0 ∧ ∀ xX' ∈ ([ths] : List Addr), Safe Z own_EL U.vm h0 xX') (fun _ _ _ _ _ => True) (fun _ U oO' U' => ∃ vV' L, oO' = .returned vV' ∧ QSe1 Z ths a u u' ka cs h0 n0 vV' U'.heap L ∧ CHr Z own_EL U.vm U.heap U'.vm U'.heap ∧ ReturnedEndW U oO' U' L ({ frames := 2, cells := 2, slots := 4, locals := 29 } : Room).cells ({ frames := 2, cells := 2, slots := 4, locals := 29 } : Room).slots) := by
  refine MetFree.of_bodySF (plainFor_of_name own_pn1) hisR ?_
  intro p e s m args below meth c s₁ Bd hml0 hP hK
  obtain ⟨rfl, hZ, hh, hC0, hSf⟩ := hP
  have hx := Bd.exec
  have hby := Bd.bytes
  have hml : c.maxLocals = 2 := hml0
  have hown : s.vm.findClass "java/lang/String" = some m.cls := findClass_of_methodNamed Bd.named
  have hnm := (name_of_methodNamed Bd.named Bd.method).1
  have X0 : Stand p l e ({ frames := 2, cells := 2, slots := 4, locals := 29 } : Room) (s.setVm s.vm) m #[(.ref ths), (.ref a)] below meth c s₁ [] 0 0 := Stand.of_body Bd
  have e0 : s₁.heap = h0 := by rw [← hh, Bd.state]; rfl
  have N0 := Fr.nil n0
  have K0 : Keep h0 h0 [ths] := Keep.refl _ _
  have k0 : ∀ t, Steps p.tables e below (s₁.setTop (mkF m 0 #[.val (.ref ths), .val (.ref a)] [])) t → Steps p.tables e below (s₁.setTop (entryFrame m #[(.ref ths), (.ref a)] 2)) t := fun t k => castTop (rmSe1_ef m (ths) (a)) k
  have C0 : CHr Z own_EL s.vm h0 s.vm h0 := CHr.refl hC0
  have hS0 : s.Since s.vm 0 := (State.WarmedH.refl s).since 0
  have hk0 : 0 ≤ h0.size := Nat.zero_le _
  have hEL := own_EW hw
  have S_ths : Safe Z own_EL s.vm h0 ths := hSf _ (List.mem_of_getElem? (i := 0) rfl)
  have k1 : ∀ t, Steps p.tables e below (s₁.setTop (mkF m 4 #[.val (.ref ths), .val (.ref a)] [(.ref a), (.int (0 : Int32)), (.ref a), (.ref ths)])) t → Steps p.tables e below (s₁.setTop (entryFrame m #[(.ref ths), (.ref a)] 2)) t := by
    intro t kt
    refine k0 t ?_
    show Steps p.tables e below (s₁.setTop (mkF m 0 #[.val (.ref ths), .val (.ref a)] [])) t
    refine XS.aloadN X0.here hx rfl (hb hby d3_0) rfl rfl ?_
    show Steps p.tables e below (s₁.setTop (mkF m 1 #[.val (.ref ths), .val (.ref a)] [(.ref ths)])) t
    refine XS.aloadN X0.here hx rfl (hb hby d3_1) rfl rfl ?_
    show Steps p.tables e below (s₁.setTop (mkF m 2 #[.val (.ref ths), .val (.ref a)] [(.ref a), (.ref ths)])) t
    refine XS.iconst X0.here hx rfl (hb hby d3_2) ?_
    show Steps p.tables e below (s₁.setTop (mkF m 3 #[.val (.ref ths), .val (.ref a)] [(.int (0 : Int32)), (.ref a), (.ref ths)])) t
    refine XS.aloadN X0.here hx rfl (hb hby d3_3) rfl rfl ?_
    exact kt
  obtain ⟨cl2, Ar2, -, S2, M2, -, -⟩ := id Aa
  have k3 : ∀ t, Steps p.tables e below (s₁.setTop (mkF m 5 #[.val (.ref ths), .val (.ref a)] [(.int (0 : Int32)), (.int (0 : Int32)), (.ref a), (.ref ths)])) t → Steps p.tables e below (s₁.setTop (entryFrame m #[(.ref ths), (.ref a)] 2)) t := fun t kt => k1 t (X0.arraylength hx (by rw [e0]; exact Ar2.1) (State.isArrayOf_alike hZ.alike Ar2.2.1) (g := (mkF m 4 #[.val (.ref ths), .val (.ref a)] [(.ref a), (.int (0 : Int32)), (.ref a), (.ref ths)])) rfl rfl (hb hby d3_4) t (by rw [len_of S2 M2]; exact kt))
  have k4 : ∀ t, Steps p.tables e below (s₁.setTop (mkF m 6 #[.val (.ref ths), .val (.ref a)] [.null, (.int (0 : Int32)), (.int (0 : Int32)), (.ref a), (.ref ths)])) t → Steps p.tables e below (s₁.setTop (entryFrame m #[(.ref ths), (.ref a)] 2)) t := by
    intro t kt
    refine k3 t ?_
    show Steps p.tables e below (s₁.setTop (mkF m 5 #[.val (.ref ths), .val (.ref a)] [(.int (0 : Int32)), (.int (0 : Int32)), (.ref a), (.ref ths)])) t
    refine XS.aconstNull X0.here hx rfl (hb hby d3_5) ?_
    exact kt
  obtain ⟨_, _, ⟨T5, L5, k5c, n5⟩, -, Y5, hS5p, hg5, ⟨Lc5, hQ5, l5, y5, z5, Cn5⟩, st5⟩ := X0.specialBackS hx (y := (⟨"java/lang/String", "<init>", "([CIILjava/lang/Void;)V"⟩ : MethodName)) rfl hown (mvT hZ (hw _ (List.mem_of_getElem? (i := 15) rfl))) (mvT hZ (hw _ (List.mem_of_getElem? (i := 16) rfl))) (mvT hZ (hw _ (List.mem_of_getElem? (i := 18) rfl))) (by decide) (own_backSH (s := s) (vm0 := s.vm) (W := 0) (rmSe4 l Z a0 hw [] ths a u u' ka cs h0 n0 Z0 Fv Fc Et g_t) hZ (hw _ (List.mem_of_getElem? (i := 18) rfl)) (hw _ (List.mem_of_getElem? (i := 10) rfl)) (by decide) (by decide) hEL C0.1 (own_slS Et.lt S_ths (fun _ q => nomatch q))) (g := (mkF m 6 #[.val (.ref ths), .val (.ref a)] [.null, (.int (0 : Int32)), (.int (0 : Int32)), (.ref a), (.ref ths)])) rfl (by rw [hml]; rfl) (Steps.refl _) (a := ths) (argsL := [(.ref a), (.int (0 : Int32)), (.int (0 : Int32)), .null]) (rest := []) (lenOf own_pd3 rfl) rfl (by show 2 * 0 + _ ≤ _; exact Nat.le_of_eq rfl) (hb hby d3_6) (fun _ _ => ⟨rfl, e0, (by decide : 0 + 2 ≤ _), (by decide : 0 + 4 ≤ _)⟩)
  dsimp only [Pt.U, Pt.locs, Pt.cells, Pt.slots] at Y5 hS5p hg5 l5 y5 z5 st5 hQ5 Cn5
  subst l5 y5 z5
  obtain ⟨X5, hS5, hZ5, hown5⟩ := rebS hS0 (by rw [e0]; exact hk0) Y5 hS5p hg5 hZ hown
  have hk5 := Nat.le_refl T5.heap.size
  obtain ⟨rfl, N5q, K5k, E5t, b5, c5k, Fv5, Fc5, A5⟩ := hQ5
  have N5 := Fr.app N0 N5q
  have F6 := CHr.safe Cn5 Et.lt S_ths
  have C7 := CHr.trans C0 Cn5
  have F10 := Et.keep K5k
  have Z12 : n0 ≤ T5.heap.size := Nat.le_trans Z0 K5k.1
  have K12 : Keep h0 T5.heap [ths] := K0.trans K5k (allS (Or.inl (List.mem_of_getElem? (i := 0) rfl)) all0)
  have k13 : ∀ t, Steps p.tables e below (T5.setTop (mkF m 9 #[.val (.ref ths), .val (.ref a)] [])) t → Steps p.tables e below (s₁.setTop (entryFrame m #[(.ref ths), (.ref a)] 2)) t := fun t kt => k4 t (st5.trans kt)
  obtain ⟨fs, hr, hrun, hended, hRW⟩ := X5.leaveW hS5 hk5 (v := none) (fun _ => rfl)
  refine ⟨_, _, k13 _ ?_, hrun, hended, _, _, rfl, ?_, ?_, hRW.1, hRW.2.1, hRW.2.2.1, hRW.2.2.2.mono (by decide) (by decide)⟩
  · show Steps p.tables e below (T5.setTop (mkF m 9 #[.val (.ref ths), .val (.ref a)] [])) _
    exact X5.returnOut hx Bd.returns (hb hby d3_9) hr
  · show QSe1 Z ths a u u' ka cs h0 n0 _ T5.heap _
    exact ⟨rfl, N5, K12, F10, b5, c5k, Fv5, Fc5, A5⟩
  · show CHr Z own_EL s.vm s.heap T5.vm T5.heap
    rw [hh]
    exact CHr.trans C7 (CHv.at (s := s) (vm0 := T5.vm) X5 hZ5 hEL C7.1)
theorem own_chD (x : Int32) : 0 ≤ ((((48 : Int32) + ((x &&& (2147483647 : Int32)) % (10 : Int32))).toUInt32.toUInt16.toUInt32.toInt32).toUInt32.toUInt16.toUInt32.toInt32).toInt ∧ ((((48 : Int32) + ((x &&& (2147483647 : Int32)) % (10 : Int32))).toUInt32.toUInt16.toUInt32.toInt32).toUInt32.toUInt16.toUInt32.toInt32).toInt ≤ 255 := by
  have h := (c_and x 2147483647 (by decide)).1
  have e := (c_irem (x &&& 2147483647) 10 10 rfl).1 h
  have a := c_iadd (48 : Int32) ((x &&& (2147483647 : Int32)) % (10 : Int32)); have r := rng32 ((48 : Int32) + ((x &&& (2147483647 : Int32)) % (10 : Int32)))
  have e48 : (48 : Int32).toInt = 48 := rfl
  rw [own_ch _ (by rw [own_ch _ (by omega) (by omega)]; omega) (by rw [own_ch _ (by omega) (by omega)]; omega), own_ch _ (by omega) (by omega)]
  omega
theorem own_chN (x : Int32) : 0 ≤ (((x &&& (255 : Int32)).toUInt32.toUInt16.toUInt32.toInt32).toUInt32.toUInt16.toUInt32.toInt32).toInt ∧ (((x &&& (255 : Int32)).toUInt32.toUInt16.toUInt32.toInt32).toUInt32.toUInt16.toUInt32.toInt32).toInt ≤ 255 := by
  have h := own_and255 x
  rw [own_ch _ (by rw [own_ch _ h.1 (by omega)]; exact h.1) (by rw [own_ch _ h.1 (by omega)]; omega), own_ch _ h.1 (by omega)]
  exact h
theorem d1_0 : decode method_2_code 0 = .ok (.iload_n 1, 1) := by decide +kernel
theorem d1_1 : decode method_2_code 1 = .ok (.ifCond .eq 15, 3) := by decide +kernel
theorem d1_4 : decode method_2_code 4 = .ok (.bipush 48, 2) := by decide +kernel
theorem d1_6 : decode method_2_code 6 = .ok (.iload_n 0, 1) := by decide +kernel
theorem d1_7 : decode method_2_code 7 = .ok (.ldc 7, 2) := by decide +kernel
theorem d1_9 : decode method_2_code 9 = .ok (.iand, 1) := by decide +kernel
theorem d1_10 : decode method_2_code 10 = .ok (.bipush 10, 2) := by decide +kernel
theorem d1_12 : decode method_2_code 12 = .ok (.irem, 1) := by decide +kernel
theorem d1_13 : decode method_2_code 13 = .ok (.iadd, 1) := by decide +kernel
theorem d1_14 : decode method_2_code 14 = .ok (.i2c, 1) := by decide +kernel
theorem d1_15 : decode method_2_code 15 = .ok (.ireturn, 1) := by decide +kernel
theorem d1_16 : decode method_2_code 16 = .ok (.iload_n 0, 1) := by decide +kernel
theorem d1_17 : decode method_2_code 17 = .ok (.sipush 255, 3) := by decide +kernel
theorem d1_20 : decode method_2_code 20 = .ok (.iand, 1) := by decide +kernel
theorem d1_21 : decode method_2_code 21 = .ok (.i2c, 1) := by decide +kernel
theorem d1_22 : decode method_2_code 22 = .ok (.ireturn, 1) := by decide +kernel
theorem own_pn2 : plainName "recensio/records/EditionFieldMayHoldEditionStatementPinLaw" = true := by first | (simp [plainName, overriddenIn]; done) | decide +kernel
theorem rmCh_ef (m : MethodId) (x0 : Int32) (x1 : Int32) : entryFrame m #[(.int x0), (.int x1)] 2 = mkF m 0 #[.val (.int x0), .val (.int x1)] [] := by first | (simp [entryFrame, mkF, argsToLocals, Value.category]; done) | rfl
def QCh (Z : State) (p1 : Int32) (p2 : Int32) (h0 : Heap) (n0 : Nat) (v : Option Value) (h : Heap) (L : List Loc) : Prop := ∃ c : Int32, v = some (.int c) ∧ (0 ≤ c.toInt ∧ c.toInt ≤ 255) ∧ Fr n0 L ∧ h = h0
set_option maxRecDepth 65536 in
set_option maxHeartbeats 40000000 in
theorem rmCh (l : Launch) (Z : State) (a0 : Array Value) (hw : ∀ d ∈ tables_1, d.before a0 Z = true) (ws : List Jvm.Cond) (p1 : Int32) (p2 : Int32) (h0 : Heap) (n0 : Nat) (Z0 : n0 ≤ h0.size) :
    MetFree l (⟨"recensio/records/EditionFieldMayHoldEditionStatementPinLaw", "ch", "(IZ)C"⟩ : MethodName) (head1 (Jvm.Cond.code (⟨"recensio/records/EditionFieldMayHoldEditionStatementPinLaw", "ch", "(IZ)C"⟩ : MethodName) method_2_code 2 (some .char) :: ws) ({ frames := 0, cells := 0, slots := 0, locals := 0 } : Room)) (fun aA' U => aA' = #[(.int p1), (.int p2)] ∧ Z.Warmed39 U.vm ∧ U.heap = h0) (fun _ _ _ _ _ => True) (fun _ U oO' U' => ∃ vV' L, oO' = .returned vV' ∧ QCh Z p1 p2 h0 n0 vV' U'.heap L ∧ FrameEnd U oO' U' L ({ frames := 0, cells := 0, slots := 0, locals := 0 } : Room).cells ({ frames := 0, cells := 0, slots := 0, locals := 0 } : Room).slots) := by
  refine MetFree.of_bodySF (plainFor_of_name own_pn2) hisR ?_
  intro p e s m args below meth c s₁ Bd hml0 hP hK
  obtain ⟨rfl, hZ, hh⟩ := hP
  have hx := Bd.exec
  have hby := Bd.bytes
  have hml : c.maxLocals = 2 := hml0
  have hown : s.vm.findClass "recensio/records/EditionFieldMayHoldEditionStatementPinLaw" = some m.cls := findClass_of_methodNamed Bd.named
  have hnm := (name_of_methodNamed Bd.named Bd.method).1
  have X0 : Stand p l e ({ frames := 0, cells := 0, slots := 0, locals := 0 } : Room) s m #[(.int p1), (.int p2)] below meth c s₁ [] 0 0 := Stand.of_body Bd
  have e0 : s₁.heap = h0 := by rw [← hh, Bd.state]; rfl
  have N0 := Fr.nil n0
  have K0 : Keep h0 h0 [] := Keep.refl _ _
  have k0 : ∀ t, Steps p.tables e below (s₁.setTop (mkF m 0 #[.val (.int p1), .val (.int p2)] [])) t → Steps p.tables e below (s₁.setTop (entryFrame m #[(.int p1), (.int p2)] 2)) t := fun t k => castTop (rmCh_ef m (p1) (p2)) k
  have k2 : ∀ t, Steps p.tables e below (s₁.setTop (mkF m 1 #[.val (.int p1), .val (.int p2)] [(.int p2)])) t → Steps p.tables e below (s₁.setTop (entryFrame m #[(.int p1), (.int p2)] 2)) t := by
    intro t kt
    refine k0 t ?_
    show Steps p.tables e below (s₁.setTop (mkF m 0 #[.val (.int p1), .val (.int p2)] [])) t
    refine XS.iloadN X0.here hx rfl (hb hby d1_0) rfl ?_
    exact kt
  by_cases hc1_1 : p2 = (0 : Int32)
  · have k3 : ∀ t, Steps p.tables e below (s₁.setTop (mkF m 22 #[.val (.int p1), .val (.int p2)] [(.int ((p1 &&& (255 : Int32)).toUInt32.toUInt16.toUInt32.toInt32))])) t → Steps p.tables e below (s₁.setTop (entryFrame m #[(.int p1), (.int p2)] 2)) t := by
      intro t kt
      refine k2 t ?_
      show Steps p.tables e below (s₁.setTop (mkF m 1 #[.val (.int p1), .val (.int p2)] [(.int p2)])) t
      refine XS.ifYes X0.here hx rfl (pc0 := 1) (pc' := 16) rfl (hb hby d1_1) rfl ((if0 _ _).trans (teq hc1_1).1) (by decide) (by decide) ?_
      show Steps p.tables e below (s₁.setTop (mkF m 16 #[.val (.int p1), .val (.int p2)] [])) t
      refine XS.iloadN X0.here hx rfl (hb hby d1_16) rfl ?_
      show Steps p.tables e below (s₁.setTop (mkF m 17 #[.val (.int p1), .val (.int p2)] [(.int p1)])) t
      refine XS.sipush X0.here hx rfl (hb hby d1_17) ?_
      show Steps p.tables e below (s₁.setTop (mkF m 20 #[.val (.int p1), .val (.int p2)] [(.int (255 : Int32)), (.int p1)])) t
      refine XS.iand X0.here hx rfl (hb hby d1_20) rfl ?_
      show Steps p.tables e below (s₁.setTop (mkF m 21 #[.val (.int p1), .val (.int p2)] [(.int (p1 &&& (255 : Int32)))])) t
      refine XS.i2c X0.here hx rfl (hb hby d1_21) rfl ?_
      exact kt
    obtain ⟨fs, hr, hrun, hended, hW, hsame⟩ := X0.leave (v := some (.int (((p1 &&& (255 : Int32)).toUInt32.toUInt16.toUInt32.toInt32).toUInt32.toUInt16.toUInt32.toInt32))) (fun h => by rw [Bd.returns] at h; cases h)
    refine ⟨_, _, k3 _ ?_, hrun, hended, _, _, rfl, ?_, ⟨_, rfl⟩, hW, hsame.mono (by decide) (by decide)⟩
    · show Steps p.tables e below (s₁.setTop (mkF m 22 #[.val (.int p1), .val (.int p2)] [(.int ((p1 &&& (255 : Int32)).toUInt32.toUInt16.toUInt32.toInt32))])) _
      exact retN X0 hx (t := .char) Bd.returns (by simp) (hb hby d1_22) hr
    · show QCh Z p1 p2 h0 n0 _ s₁.heap _
      rw [e0]
      exact ⟨_, rfl, own_chN _, N0, rfl⟩
  · have k4 : ∀ t, Steps p.tables e below (s₁.setTop (mkF m 15 #[.val (.int p1), .val (.int p2)] [(.int (((48 : Int32) + ((p1 &&& (2147483647 : Int32)) % (10 : Int32))).toUInt32.toUInt16.toUInt32.toInt32))])) t → Steps p.tables e below (s₁.setTop (entryFrame m #[(.int p1), (.int p2)] 2)) t := by
      intro t kt
      refine k2 t ?_
      show Steps p.tables e below (s₁.setTop (mkF m 1 #[.val (.int p1), .val (.int p2)] [(.int p2)])) t
      refine XS.ifNo X0.here hx rfl (hb hby d1_1) rfl ((if0 _ _).trans (feq hc1_1).1) ?_
      show Steps p.tables e below (s₁.setTop (mkF m 4 #[.val (.int p1), .val (.int p2)] [])) t
      refine XS.bipush X0.here hx rfl (hb hby d1_4) ?_
      show Steps p.tables e below (s₁.setTop (mkF m 6 #[.val (.int p1), .val (.int p2)] [(.int (48 : Int32))])) t
      refine XS.iloadN X0.here hx rfl (hb hby d1_6) rfl ?_
      show Steps p.tables e below (s₁.setTop (mkF m 7 #[.val (.int p1), .val (.int p2)] [(.int p1), (.int (48 : Int32))])) t
      refine X0.ldcInt hx hown (mvT hZ (hw _ (List.mem_of_getElem? (i := 0) rfl))) (g := (mkF m 7 #[.val (.int p1), .val (.int p2)] [(.int p1), (.int (48 : Int32))])) rfl (hb hby d1_7) _ ?_
      show Steps p.tables e below (s₁.setTop (mkF m 9 #[.val (.int p1), .val (.int p2)] [(.int (2147483647 : Int32)), (.int p1), (.int (48 : Int32))])) t
      refine XS.iand X0.here hx rfl (hb hby d1_9) rfl ?_
      show Steps p.tables e below (s₁.setTop (mkF m 10 #[.val (.int p1), .val (.int p2)] [(.int (p1 &&& (2147483647 : Int32))), (.int (48 : Int32))])) t
      refine XS.bipush X0.here hx rfl (hb hby d1_10) ?_
      show Steps p.tables e below (s₁.setTop (mkF m 12 #[.val (.int p1), .val (.int p2)] [(.int (10 : Int32)), (.int (p1 &&& (2147483647 : Int32))), (.int (48 : Int32))])) t
      refine iremM X0 hx rfl (hb hby d1_12) rfl (by decide) ?_
      show Steps p.tables e below (s₁.setTop (mkF m 13 #[.val (.int p1), .val (.int p2)] [(.int ((p1 &&& (2147483647 : Int32)) % (10 : Int32))), (.int (48 : Int32))])) t
      refine XS.iadd X0.here hx rfl (hb hby d1_13) rfl ?_
      show Steps p.tables e below (s₁.setTop (mkF m 14 #[.val (.int p1), .val (.int p2)] [(.int ((48 : Int32) + ((p1 &&& (2147483647 : Int32)) % (10 : Int32))))])) t
      refine XS.i2c X0.here hx rfl (hb hby d1_14) rfl ?_
      exact kt
    obtain ⟨fs, hr, hrun, hended, hW, hsame⟩ := X0.leave (v := some (.int ((((48 : Int32) + ((p1 &&& (2147483647 : Int32)) % (10 : Int32))).toUInt32.toUInt16.toUInt32.toInt32).toUInt32.toUInt16.toUInt32.toInt32))) (fun h => by rw [Bd.returns] at h; cases h)
    refine ⟨_, _, k4 _ ?_, hrun, hended, _, _, rfl, ?_, ⟨_, rfl⟩, hW, hsame.mono (by decide) (by decide)⟩
    · show Steps p.tables e below (s₁.setTop (mkF m 15 #[.val (.int p1), .val (.int p2)] [(.int (((48 : Int32) + ((p1 &&& (2147483647 : Int32)) % (10 : Int32))).toUInt32.toUInt16.toUInt32.toInt32))])) _
      exact retN X0 hx (t := .char) Bd.returns (by simp) (hb hby d1_15) hr
    · show QCh Z p1 p2 h0 n0 _ s₁.heap _
      rw [e0]
      exact ⟨_, rfl, own_chD _, N0, rfl⟩
theorem d2_0 : decode method_3_code 0 = .ok (.iload_n 0, 1) := by decide +kernel
theorem d2_1 : decode method_3_code 1 = .ok (.ifCond .ne 14, 3) := by decide +kernel
theorem d2_4 : decode method_3_code 4 = .ok (.new 8, 3) := by decide +kernel
theorem d2_7 : decode method_3_code 7 = .ok (.dup, 1) := by decide +kernel
theorem d2_8 : decode method_3_code 8 = .ok (.iconst 0, 1) := by decide +kernel
theorem d2_9 : decode method_3_code 9 = .ok (.newarray .char, 2) := by decide +kernel
theorem d2_11 : decode method_3_code 11 = .ok (.invokespecial 10, 3) := by decide +kernel
theorem d2_14 : decode method_3_code 14 = .ok (.areturn, 1) := by decide +kernel
theorem d2_15 : decode method_3_code 15 = .ok (.iload_n 0, 1) := by decide +kernel
theorem d2_16 : decode method_3_code 16 = .ok (.iconst 1, 1) := by decide +kernel
theorem d2_17 : decode method_3_code 17 = .ok (.if_icmp .ne 23, 3) := by decide +kernel
theorem d2_20 : decode method_3_code 20 = .ok (.iconst 1, 1) := by decide +kernel
theorem d2_21 : decode method_3_code 21 = .ok (.newarray .char, 2) := by decide +kernel
theorem d2_23 : decode method_3_code 23 = .ok (.astore 5, 2) := by decide +kernel
theorem d2_25 : decode method_3_code 25 = .ok (.aload 5, 2) := by decide +kernel
theorem d2_27 : decode method_3_code 27 = .ok (.iconst 0, 1) := by decide +kernel
theorem d2_28 : decode method_3_code 28 = .ok (.iload_n 1, 1) := by decide +kernel
theorem d2_29 : decode method_3_code 29 = .ok (.castore, 1) := by decide +kernel
theorem d2_30 : decode method_3_code 30 = .ok (.new 8, 3) := by decide +kernel
theorem d2_33 : decode method_3_code 33 = .ok (.dup, 1) := by decide +kernel
theorem d2_34 : decode method_3_code 34 = .ok (.aload 5, 2) := by decide +kernel
theorem d2_36 : decode method_3_code 36 = .ok (.invokespecial 10, 3) := by decide +kernel
theorem d2_39 : decode method_3_code 39 = .ok (.areturn, 1) := by decide +kernel
theorem d2_40 : decode method_3_code 40 = .ok (.iload_n 0, 1) := by decide +kernel
theorem d2_41 : decode method_3_code 41 = .ok (.iconst 2, 1) := by decide +kernel
theorem d2_42 : decode method_3_code 42 = .ok (.if_icmp .ne 28, 3) := by decide +kernel
theorem d2_45 : decode method_3_code 45 = .ok (.iconst 2, 1) := by decide +kernel
theorem d2_46 : decode method_3_code 46 = .ok (.newarray .char, 2) := by decide +kernel
theorem d2_48 : decode method_3_code 48 = .ok (.astore 5, 2) := by decide +kernel
theorem d2_50 : decode method_3_code 50 = .ok (.aload 5, 2) := by decide +kernel
theorem d2_52 : decode method_3_code 52 = .ok (.iconst 0, 1) := by decide +kernel
theorem d2_53 : decode method_3_code 53 = .ok (.iload_n 1, 1) := by decide +kernel
theorem d2_54 : decode method_3_code 54 = .ok (.castore, 1) := by decide +kernel
theorem d2_55 : decode method_3_code 55 = .ok (.aload 5, 2) := by decide +kernel
theorem d2_57 : decode method_3_code 57 = .ok (.iconst 1, 1) := by decide +kernel
theorem d2_58 : decode method_3_code 58 = .ok (.iload_n 2, 1) := by decide +kernel
theorem d2_59 : decode method_3_code 59 = .ok (.castore, 1) := by decide +kernel
theorem d2_60 : decode method_3_code 60 = .ok (.new 8, 3) := by decide +kernel
theorem d2_63 : decode method_3_code 63 = .ok (.dup, 1) := by decide +kernel
theorem d2_64 : decode method_3_code 64 = .ok (.aload 5, 2) := by decide +kernel
theorem d2_66 : decode method_3_code 66 = .ok (.invokespecial 10, 3) := by decide +kernel
theorem d2_69 : decode method_3_code 69 = .ok (.areturn, 1) := by decide +kernel
theorem d2_70 : decode method_3_code 70 = .ok (.iload_n 0, 1) := by decide +kernel
theorem d2_71 : decode method_3_code 71 = .ok (.iconst 3, 1) := by decide +kernel
theorem d2_72 : decode method_3_code 72 = .ok (.if_icmp .ne 33, 3) := by decide +kernel
theorem d2_75 : decode method_3_code 75 = .ok (.iconst 3, 1) := by decide +kernel
theorem d2_76 : decode method_3_code 76 = .ok (.newarray .char, 2) := by decide +kernel
theorem d2_78 : decode method_3_code 78 = .ok (.astore 5, 2) := by decide +kernel
theorem d2_80 : decode method_3_code 80 = .ok (.aload 5, 2) := by decide +kernel
theorem d2_82 : decode method_3_code 82 = .ok (.iconst 0, 1) := by decide +kernel
theorem d2_83 : decode method_3_code 83 = .ok (.iload_n 1, 1) := by decide +kernel
theorem d2_84 : decode method_3_code 84 = .ok (.castore, 1) := by decide +kernel
theorem d2_85 : decode method_3_code 85 = .ok (.aload 5, 2) := by decide +kernel
theorem d2_87 : decode method_3_code 87 = .ok (.iconst 1, 1) := by decide +kernel
theorem d2_88 : decode method_3_code 88 = .ok (.iload_n 2, 1) := by decide +kernel
theorem d2_89 : decode method_3_code 89 = .ok (.castore, 1) := by decide +kernel
theorem d2_90 : decode method_3_code 90 = .ok (.aload 5, 2) := by decide +kernel
theorem d2_92 : decode method_3_code 92 = .ok (.iconst 2, 1) := by decide +kernel
theorem d2_93 : decode method_3_code 93 = .ok (.iload_n 3, 1) := by decide +kernel
theorem d2_94 : decode method_3_code 94 = .ok (.castore, 1) := by decide +kernel
theorem d2_95 : decode method_3_code 95 = .ok (.new 8, 3) := by decide +kernel
theorem d2_98 : decode method_3_code 98 = .ok (.dup, 1) := by decide +kernel
theorem d2_99 : decode method_3_code 99 = .ok (.aload 5, 2) := by decide +kernel
theorem d2_101 : decode method_3_code 101 = .ok (.invokespecial 10, 3) := by decide +kernel
theorem d2_104 : decode method_3_code 104 = .ok (.areturn, 1) := by decide +kernel
theorem d2_105 : decode method_3_code 105 = .ok (.iconst 4, 1) := by decide +kernel
theorem d2_106 : decode method_3_code 106 = .ok (.newarray .char, 2) := by decide +kernel
theorem d2_108 : decode method_3_code 108 = .ok (.astore 5, 2) := by decide +kernel
theorem d2_110 : decode method_3_code 110 = .ok (.aload 5, 2) := by decide +kernel
theorem d2_112 : decode method_3_code 112 = .ok (.iconst 0, 1) := by decide +kernel
theorem d2_113 : decode method_3_code 113 = .ok (.iload_n 1, 1) := by decide +kernel
theorem d2_114 : decode method_3_code 114 = .ok (.castore, 1) := by decide +kernel
theorem d2_115 : decode method_3_code 115 = .ok (.aload 5, 2) := by decide +kernel
theorem d2_117 : decode method_3_code 117 = .ok (.iconst 1, 1) := by decide +kernel
theorem d2_118 : decode method_3_code 118 = .ok (.iload_n 2, 1) := by decide +kernel
theorem d2_119 : decode method_3_code 119 = .ok (.castore, 1) := by decide +kernel
theorem d2_120 : decode method_3_code 120 = .ok (.aload 5, 2) := by decide +kernel
theorem d2_122 : decode method_3_code 122 = .ok (.iconst 2, 1) := by decide +kernel
theorem d2_123 : decode method_3_code 123 = .ok (.iload_n 3, 1) := by decide +kernel
theorem d2_124 : decode method_3_code 124 = .ok (.castore, 1) := by decide +kernel
theorem d2_125 : decode method_3_code 125 = .ok (.aload 5, 2) := by decide +kernel
theorem d2_127 : decode method_3_code 127 = .ok (.iconst 3, 1) := by decide +kernel
theorem d2_128 : decode method_3_code 128 = .ok (.iload 4, 2) := by decide +kernel
theorem d2_130 : decode method_3_code 130 = .ok (.castore, 1) := by decide +kernel
theorem d2_131 : decode method_3_code 131 = .ok (.new 8, 3) := by decide +kernel
theorem d2_134 : decode method_3_code 134 = .ok (.dup, 1) := by decide +kernel
theorem d2_135 : decode method_3_code 135 = .ok (.aload 5, 2) := by decide +kernel
theorem d2_137 : decode method_3_code 137 = .ok (.invokespecial 10, 3) := by decide +kernel
theorem d2_140 : decode method_3_code 140 = .ok (.areturn, 1) := by decide +kernel
theorem rmStr_ef (m : MethodId) (x0 : Int32) (x1 : Int32) (x2 : Int32) (x3 : Int32) (x4 : Int32) : entryFrame m #[(.int x0), (.int x1), (.int x2), (.int x3), (.int x4)] 6 = mkF m 0 #[.val (.int x0), .val (.int x1), .val (.int x2), .val (.int x3), .val (.int x4), .unset] [] := by first | (simp [entryFrame, mkF, argsToLocals, Value.category]; done) | rfl
def QStr (Z : State) (p1 : Int32) (p2 : Int32) (p3 : Int32) (p4 : Int32) (p5 : Int32) (cs : Int32) (h0 : Heap) (n0 : Nat) (v : Option Value) (h : Heap) (L : List Loc) : Prop := ∃ (r b : Addr) (k : ClassId), v = some (.ref r) ∧ Fr n0 L ∧ Keep h0 h [] ∧ h0.size ≤ r ∧ Exa Z h r "java/lang/String" ∧ Fld Z h r "java/lang/String" "value" "[B" (.ref b) ∧ Fld Z h r "java/lang/String" "coder" "B" (.int (0 : Int32)) ∧ Arv Z h b k .byte p1 [(.int (p2.toInt8.toInt32)), (.int (p3.toInt8.toInt32)), (.int (p4.toInt8.toInt32)), (.int (p5.toInt8.toInt32))] (.int (0 : Int32))
theorem own_pd4 : parseMethodDescriptor "([C)V" = some ⟨[(.array .char)], none⟩ := by decide +kernel
set_option maxRecDepth 65536 in
set_option maxHeartbeats 40000000 in
theorem rmStr (l : Launch) (Z : State) (a0 : Array Value) (hw : ∀ d ∈ tables_1, d.before a0 Z = true) (ws : List Jvm.Cond) (p1 : Int32) (p2 : Int32) (p3 : Int32) (p4 : Int32) (p5 : Int32) (cs : Int32) (h0 : Heap) (n0 : Nat) (Z0 : n0 ≤ h0.size) (SC : Sta Z h0 "java/lang/String" "COMPACT_STRINGS" "Z" (.int cs)) (hcs : ¬ (cs = (0 : Int32))) (hp : p1 = (0 : Int32) ∨ p1 = (1 : Int32) ∨ p1 = (2 : Int32) ∨ p1 = (3 : Int32) ∨ p1 = (4 : Int32)) (r2 : 0 ≤ p2.toInt ∧ p2.toInt ≤ 255) (r3 : 0 ≤ p3.toInt ∧ p3.toInt ≤ 255) (r4 : 0 ≤ p4.toInt ∧ p4.toInt ≤ 255) (r5 : 0 ≤ p5.toInt ∧ p5.toInt ≤ 255) :
    MetFree l (⟨"recensio/records/EditionFieldMayHoldEditionStatementPinLaw", "str", "(ICCCC)Ljava/lang/String;"⟩ : MethodName) (head1 (Jvm.Cond.code (⟨"recensio/records/EditionFieldMayHoldEditionStatementPinLaw", "str", "(ICCCC)Ljava/lang/String;"⟩ : MethodName) method_3_code 6 (some (.object "java/lang/String")) :: ws) ({ frames := 4, cells := 4, slots := 12, locals := 66 } : Room)) (fun aA' U => aA' = #[(.int p1), (.int p2), (.int p3), (.int p4), (.int p5)] ∧ Z.Warmed39 U.vm ∧ U.heap = h0 ∧ CHv Z own_EL U.vm h0 ∧ ∀ xX' ∈ ([] : List Addr), Safe Z own_EL U.vm h0 xX') (fun _ _ _ _ _ => True) (fun _ U oO' U' => ∃ vV' L, oO' = .returned vV' ∧ QStr Z p1 p2 p3 p4 p5 cs h0 n0 vV' U'.heap L ∧ CHr Z own_EL U.vm U.heap U'.vm U'.heap ∧ ReturnedEndW U oO' U' L ({ frames := 4, cells := 4, slots := 12, locals := 66 } : Room).cells ({ frames := 4, cells := 4, slots := 12, locals := 66 } : Room).slots) := by
  refine MetFree.of_bodySF (plainFor_of_name own_pn2) hisR ?_
  intro p e s m args below meth c s₁ Bd hml0 hP hK
  obtain ⟨rfl, hZ, hh, hC0, hSf⟩ := hP
  have hx := Bd.exec
  have hby := Bd.bytes
  have hml : c.maxLocals = 6 := hml0
  have hown : s.vm.findClass "recensio/records/EditionFieldMayHoldEditionStatementPinLaw" = some m.cls := findClass_of_methodNamed Bd.named
  have hnm := (name_of_methodNamed Bd.named Bd.method).1
  have X0 : Stand p l e ({ frames := 4, cells := 4, slots := 12, locals := 66 } : Room) (s.setVm s.vm) m #[(.int p1), (.int p2), (.int p3), (.int p4), (.int p5)] below meth c s₁ [] 0 0 := Stand.of_body Bd
  have e0 : s₁.heap = h0 := by rw [← hh, Bd.state]; rfl
  have N0 := Fr.nil n0
  have K0 : Keep h0 h0 [] := Keep.refl _ _
  have k0 : ∀ t, Steps p.tables e below (s₁.setTop (mkF m 0 #[.val (.int p1), .val (.int p2), .val (.int p3), .val (.int p4), .val (.int p5), .unset] [])) t → Steps p.tables e below (s₁.setTop (entryFrame m #[(.int p1), (.int p2), (.int p3), (.int p4), (.int p5)] 6)) t := fun t k => castTop (rmStr_ef m (p1) (p2) (p3) (p4) (p5)) k
  have C0 : CHr Z own_EL s.vm h0 s.vm h0 := CHr.refl hC0
  have hS0 : s.Since s.vm 0 := (State.WarmedH.refl s).since 0
  have hk0 : 0 ≤ h0.size := Nat.zero_le _
  have hEL := own_EW hw
  have k2 : ∀ t, Steps p.tables e below (s₁.setTop (mkF m 1 #[.val (.int p1), .val (.int p2), .val (.int p3), .val (.int p4), .val (.int p5), .unset] [(.int p1)])) t → Steps p.tables e below (s₁.setTop (entryFrame m #[(.int p1), (.int p2), (.int p3), (.int p4), (.int p5)] 6)) t := by
    intro t kt
    refine k0 t ?_
    show Steps p.tables e below (s₁.setTop (mkF m 0 #[.val (.int p1), .val (.int p2), .val (.int p3), .val (.int p4), .val (.int p5), .unset] [])) t
    refine XS.iloadN X0.here hx rfl (hb hby d2_0) rfl ?_
    exact kt
  by_cases hc1_1 : p1 = (0 : Int32)
  · have k3 : ∀ t, Steps p.tables e below (s₁.setTop (mkF m 4 #[.val (.int p1), .val (.int p2), .val (.int p3), .val (.int p4), .val (.int p5), .unset] [])) t → Steps p.tables e below (s₁.setTop (entryFrame m #[(.int p1), (.int p2), (.int p3), (.int p4), (.int p5)] 6)) t := by
      intro t kt
      refine k2 t ?_
      show Steps p.tables e below (s₁.setTop (mkF m 1 #[.val (.int p1), .val (.int p2), .val (.int p3), .val (.int p4), .val (.int p5), .unset] [(.int p1)])) t
      refine XS.ifNo X0.here hx rfl (hb hby d2_1) rfl ((if0 _ _).trans (teq hc1_1).2) ?_
      exact kt
    obtain ⟨T4, h4, X4, e4, E4, A4, D4, -, st4⟩ := newO X0 hx hZ hown (hw _ (List.mem_of_getElem? (i := 8) rfl)) (hw _ (List.mem_of_getElem? (i := 9) rfl)) (hw _ (List.mem_of_getElem? (i := 10) rfl)) e0 (g := (mkF m 4 #[.val (.int p1), .val (.int p2), .val (.int p3), .val (.int p4), .val (.int p5), .unset] [])) rfl (hb hby d2_4) (by decide) (by decide)
    obtain ⟨b4, g4⟩ : ∃ z, z = h0.size := ⟨_, rfl⟩
    rw [← g4] at A4 D4 st4
    have F5 : Safe Z own_EL s.vm h0 b4 := Safe.new (Nat.le_of_eq g4.symm)
    have g_b4 : n0 ≤ b4 := Nat.le_trans Z0 (Nat.le_of_eq g4.symm)
    have sz_b4 : h0.size ≤ b4 := Nat.le_trans K0.1 (Nat.le_of_eq g4.symm)
    have F6 := Safe.ext E4 C0.1 F5
    have C7 := CHr.trans C0 (CHr.ext E4 C0.1)
    have F8 := SC.ext E4
    have hk_9 := Nat.le_trans hk0 E4.1
    have Z4 : n0 ≤ h4.size := Nat.le_trans Z0 E4.1
    have K4 : Keep h0 h4 [] := K0.ext E4
    have F10 : Fld Z h4 b4 "java/lang/String" "value" "[B" .null := D4 (Or.inr (hw _ (List.mem_of_getElem? (i := 24) rfl))) (ty := (.array .byte)) (by decide)
    have F11 : Fld Z h4 b4 "java/lang/String" "coder" "B" (.int (0 : Int32)) := D4 (Or.inr (hw _ (List.mem_of_getElem? (i := 25) rfl))) (ty := .byte) (by decide)
    have k12 : ∀ t, Steps p.tables e below (T4.setTop (mkF m 7 #[.val (.int p1), .val (.int p2), .val (.int p3), .val (.int p4), .val (.int p5), .unset] [(.ref b4)])) t → Steps p.tables e below (s₁.setTop (entryFrame m #[(.int p1), (.int p2), (.int p3), (.int p4), (.int p5)] 6)) t := fun t kt => k3 t (st4 t kt)
    have k13 : ∀ t, Steps p.tables e below (T4.setTop (mkF m 9 #[.val (.int p1), .val (.int p2), .val (.int p3), .val (.int p4), .val (.int p5), .unset] [(.int (0 : Int32)), (.ref b4), (.ref b4)])) t → Steps p.tables e below (s₁.setTop (entryFrame m #[(.int p1), (.int p2), (.int p3), (.int p4), (.int p5)] 6)) t := by
      intro t kt
      refine k12 t ?_
      show Steps p.tables e below (T4.setTop (mkF m 7 #[.val (.int p1), .val (.int p2), .val (.int p3), .val (.int p4), .val (.int p5), .unset] [(.ref b4)])) t
      refine XS.dup X4.here hx rfl (hb hby d2_7) rfl rfl ?_
      show Steps p.tables e below (T4.setTop (mkF m 8 #[.val (.int p1), .val (.int p2), .val (.int p3), .val (.int p4), .val (.int p5), .unset] [(.ref b4), (.ref b4)])) t
      refine XS.iconst X4.here hx rfl (hb hby d2_8) ?_
      exact kt
    obtain ⟨T14, h14, c14, X14, e14, E14, A14, st14⟩ := newP X4 hx hZ (hw _ (List.mem_of_getElem? (i := 11) rfl)) e4 (g := (mkF m 9 #[.val (.int p1), .val (.int p2), .val (.int p3), .val (.int p4), .val (.int p5), .unset] [(.int (0 : Int32)), (.ref b4), (.ref b4)])) rfl (hb hby d2_9) rfl (by decide) (cap := 0) (by decide) (by decide) (by decide) (by decide)
    obtain ⟨b14, g14⟩ : ∃ z, z = h4.size := ⟨_, rfl⟩
    rw [← g14] at A14 st14
    have F15 : Safe Z own_EL s.vm h4 b14 := Safe.new (Nat.le_of_eq g14.symm)
    have g_b14 : n0 ≤ b14 := Nat.le_trans Z4 (Nat.le_of_eq g14.symm)
    have sz_b14 : h0.size ≤ b14 := Nat.le_trans K4.1 (Nat.le_of_eq g14.symm)
    have ne16 : b4 ≠ b14 := Nat.ne_of_lt (Nat.lt_of_lt_of_le A4.lt (Nat.le_of_eq g14.symm))
    have F17 := Safe.ext E14 C7.1 F6
    have F18 := Safe.ext E14 C7.1 F15
    have C19 := CHr.trans C7 (CHr.ext E14 C7.1)
    have F20 := F8.ext E14
    have F21 := A4.ext E14
    have F22 := F10.ext E14
    have F23 := F11.ext E14
    have hk_24 := Nat.le_trans hk_9 E14.1
    have Z14 : n0 ≤ h14.size := Nat.le_trans Z4 E14.1
    have K14 : Keep h0 h14 [] := K4.ext E14
    have F25 : Arv Z h14 b14 c14 .char (0 : Int32) [] (.int (0 : Int32)) := Arv.new A14 (by decide)
    have k26 : ∀ t, Steps p.tables e below (T14.setTop (mkF m 11 #[.val (.int p1), .val (.int p2), .val (.int p3), .val (.int p4), .val (.int p5), .unset] [(.ref b14), (.ref b4), (.ref b4)])) t → Steps p.tables e below (s₁.setTop (entryFrame m #[(.int p1), (.int p2), (.int p3), (.int p4), (.int p5)] 6)) t := fun t kt => k13 t (st14 t kt)
    obtain ⟨_, _, ⟨T27, L27, k27c, n27⟩, -, Y27, hS27p, hg27, ⟨Lc27, hQ27, l27, y27, z27, Cn27⟩, st27⟩ := X14.specialBackS hx (y := (⟨"java/lang/String", "<init>", "([C)V"⟩ : MethodName)) rfl hown (mvT hZ (hw _ (List.mem_of_getElem? (i := 12) rfl))) (mvT hZ (hw _ (List.mem_of_getElem? (i := 13) rfl))) (mvT hZ (hw _ (List.mem_of_getElem? (i := 14) rfl))) (by decide) (own_backSH (s := s) (vm0 := s.vm) (W := 1) (rmSe1 l Z a0 hw [] b4 b14 .null (.int (0 : Int32)) c14 cs h14 n0 Z14 F22 F23 F21 g_b4 F25) hZ (hw _ (List.mem_of_getElem? (i := 14) rfl)) (hw _ (List.mem_of_getElem? (i := 10) rfl)) (by decide) (by decide) hEL C19.1 (own_slS F21.lt F17 (fun _ q => nomatch q))) (g := (mkF m 11 #[.val (.int p1), .val (.int p2), .val (.int p3), .val (.int p4), .val (.int p5), .unset] [(.ref b14), (.ref b4), (.ref b4)])) rfl (by rw [hml]; rfl) (Steps.refl _) (a := b4) (argsL := [(.ref b14)]) (rest := [(.ref b4)]) (lenOf own_pd4 rfl) rfl (by show 2 * 0 + _ ≤ _; exact Nat.le_of_eq rfl) (hb hby d2_11) (fun _ _ => ⟨rfl, e14, (by decide : 2 + 2 ≤ _), (by decide : 4 + 4 ≤ _)⟩)
    dsimp only [Pt.U, Pt.locs, Pt.cells, Pt.slots] at Y27 hS27p hg27 l27 y27 z27 st27 hQ27 Cn27
    subst l27 y27 z27
    obtain ⟨X27, hS27, hZ27, hown27⟩ := rebS hS0 (by rw [e14]; exact hk_24) Y27 hS27p hg27 hZ hown
    have hk27 := Nat.le_refl T27.heap.size
    obtain ⟨rfl, N27q, K27k, -, b27, c27k, Fv27, Fc27, A27⟩ := hQ27
    have N27 := Fr.app N0 N27q
    have F28 := CHr.safe Cn27 F21.lt F17
    have F29 := CHr.safe Cn27 F25.lt F18
    have C30 := CHr.trans C19 Cn27
    have F32 := F21.keep K27k
    have F35 := F25.keep K27k (ninS (Ne.symm ne16) nin0)
    have Z36 : n0 ≤ T27.heap.size := Nat.le_trans Z14 K27k.1
    have K36 : Keep h0 T27.heap [] := K14.trans K27k (allS (Or.inr sz_b4) all0)
    have k37 : ∀ t, Steps p.tables e below (T27.setTop (mkF m 14 #[.val (.int p1), .val (.int p2), .val (.int p3), .val (.int p4), .val (.int p5), .unset] [(.ref b4)])) t → Steps p.tables e below (s₁.setTop (entryFrame m #[(.int p1), (.int p2), (.int p3), (.int p4), (.int p5)] 6)) t := fun t kt => k26 t (st27.trans kt)
    obtain ⟨fs, hr, hrun, hended, hRW⟩ := X27.leaveW hS27 hk27 (v := some (.ref b4)) (fun h => by rw [Bd.returns] at h; cases h)
    refine ⟨_, _, k37 _ ?_, hrun, hended, _, _, rfl, ?_, ?_, hRW.1, hRW.2.1, hRW.2.2.1, hRW.2.2.2.mono (by decide) (by decide)⟩
    · show Steps p.tables e below (T27.setTop (mkF m 14 #[.val (.int p1), .val (.int p2), .val (.int p3), .val (.int p4), .val (.int p5), .unset] [(.ref b4)])) _
      jvm_step X27.here [X27.here.top, hx, (hb hby d2_14), X27.method', Bd.returns, Value.isRef, FieldType.isReference]
      first | (intro acts; rw [hr _ acts rfl rfl rfl]) | rw [hr _ _ rfl rfl rfl]
      exact Steps.refl _
    · show QStr Z p1 p2 p3 p4 p5 cs h0 n0 _ T27.heap _
      exact ⟨b4, b27, c27k, rfl, N27, K36, sz_b4, F32, Fv27, Fc27, own_arvT A27 hc1_1 (by first | exact fun _ _ => rfl | intro i hi; have e : (0 : Int32).toNatClampNeg = 0 := rfl; rw [e] at hi; rcases i with _ | _ | _ | _ | i <;> first | rfl | omega)⟩
    · show CHr Z own_EL s.vm s.heap T27.vm T27.heap
      rw [hh]
      exact CHr.trans C30 (CHv.at (s := s) (vm0 := T27.vm) X27 hZ27 hEL C30.1)
  · have k39 : ∀ t, Steps p.tables e below (s₁.setTop (mkF m 17 #[.val (.int p1), .val (.int p2), .val (.int p3), .val (.int p4), .val (.int p5), .unset] [(.int (1 : Int32)), (.int p1)])) t → Steps p.tables e below (s₁.setTop (entryFrame m #[(.int p1), (.int p2), (.int p3), (.int p4), (.int p5)] 6)) t := by
      intro t kt
      refine k2 t ?_
      show Steps p.tables e below (s₁.setTop (mkF m 1 #[.val (.int p1), .val (.int p2), .val (.int p3), .val (.int p4), .val (.int p5), .unset] [(.int p1)])) t
      refine XS.ifYes X0.here hx rfl (pc0 := 1) (pc' := 15) rfl (hb hby d2_1) rfl ((if0 _ _).trans (feq hc1_1).2) (by decide) (by decide) ?_
      show Steps p.tables e below (s₁.setTop (mkF m 15 #[.val (.int p1), .val (.int p2), .val (.int p3), .val (.int p4), .val (.int p5), .unset] [])) t
      refine XS.iloadN X0.here hx rfl (hb hby d2_15) rfl ?_
      show Steps p.tables e below (s₁.setTop (mkF m 16 #[.val (.int p1), .val (.int p2), .val (.int p3), .val (.int p4), .val (.int p5), .unset] [(.int p1)])) t
      refine XS.iconst X0.here hx rfl (hb hby d2_16) ?_
      exact kt
    by_cases hc17_38 : p1 = (1 : Int32)
    · have k40 : ∀ t, Steps p.tables e below (s₁.setTop (mkF m 21 #[.val (.int p1), .val (.int p2), .val (.int p3), .val (.int p4), .val (.int p5), .unset] [(.int (1 : Int32))])) t → Steps p.tables e below (s₁.setTop (entryFrame m #[(.int p1), (.int p2), (.int p3), (.int p4), (.int p5)] 6)) t := by
        intro t kt
        refine k39 t ?_
        show Steps p.tables e below (s₁.setTop (mkF m 17 #[.val (.int p1), .val (.int p2), .val (.int p3), .val (.int p4), .val (.int p5), .unset] [(.int (1 : Int32)), (.int p1)])) t
        refine XS.icmpNo X0.here hx rfl (hb hby d2_17) rfl (teq hc17_38).2 ?_
        show Steps p.tables e below (s₁.setTop (mkF m 20 #[.val (.int p1), .val (.int p2), .val (.int p3), .val (.int p4), .val (.int p5), .unset] [])) t
        refine XS.iconst X0.here hx rfl (hb hby d2_20) ?_
        exact kt
      obtain ⟨T41, h41, c41, X41, e41, E41, A41, st41⟩ := newP X0 hx hZ (hw _ (List.mem_of_getElem? (i := 11) rfl)) e0 (g := (mkF m 21 #[.val (.int p1), .val (.int p2), .val (.int p3), .val (.int p4), .val (.int p5), .unset] [(.int (1 : Int32))])) rfl (hb hby d2_21) rfl (by decide) (cap := 1) (by decide) (by decide) (by decide) (by decide)
      obtain ⟨b41, g41⟩ : ∃ z, z = h0.size := ⟨_, rfl⟩
      rw [← g41] at A41 st41
      have F42 : Safe Z own_EL s.vm h0 b41 := Safe.new (Nat.le_of_eq g41.symm)
      have g_b41 : n0 ≤ b41 := Nat.le_trans Z0 (Nat.le_of_eq g41.symm)
      have sz_b41 : h0.size ≤ b41 := Nat.le_trans K0.1 (Nat.le_of_eq g41.symm)
      have F43 := Safe.ext E41 C0.1 F42
      have C44 := CHr.trans C0 (CHr.ext E41 C0.1)
      have F45 := SC.ext E41
      have hk_46 := Nat.le_trans hk0 E41.1
      have Z41 : n0 ≤ h41.size := Nat.le_trans Z0 E41.1
      have K41 : Keep h0 h41 [] := K0.ext E41
      have F47 : Arv Z h41 b41 c41 .char (1 : Int32) [(.int (0 : Int32))] (.int (0 : Int32)) := (Arv.new A41 (by decide)).pad (pad_rep [] (.int (0 : Int32)) 1)
      have k48 : ∀ t, Steps p.tables e below (T41.setTop (mkF m 23 #[.val (.int p1), .val (.int p2), .val (.int p3), .val (.int p4), .val (.int p5), .unset] [(.ref b41)])) t → Steps p.tables e below (s₁.setTop (entryFrame m #[(.int p1), (.int p2), (.int p3), (.int p4), (.int p5)] 6)) t := fun t kt => k40 t (st41 t kt)
      have k49 : ∀ t, Steps p.tables e below (T41.setTop (mkF m 29 #[.val (.int p1), .val (.int p2), .val (.int p3), .val (.int p4), .val (.int p5), .val (.ref b41)] [(.int p2), (.int (0 : Int32)), (.ref b41)])) t → Steps p.tables e below (s₁.setTop (entryFrame m #[(.int p1), (.int p2), (.int p3), (.int p4), (.int p5)] 6)) t := by
        intro t kt
        refine k48 t ?_
        show Steps p.tables e below (T41.setTop (mkF m 23 #[.val (.int p1), .val (.int p2), .val (.int p3), .val (.int p4), .val (.int p5), .unset] [(.ref b41)])) t
        refine XS.astore X41.here hx rfl (hb hby d2_23) rfl rfl (l' := #[.val (.int p1), .val (.int p2), .val (.int p3), .val (.int p4), .val (.int p5), .val (.ref b41)]) rfl ?_
        show Steps p.tables e below (T41.setTop (mkF m 25 #[.val (.int p1), .val (.int p2), .val (.int p3), .val (.int p4), .val (.int p5), .val (.ref b41)] [])) t
        refine XS.aload X41.here hx rfl (hb hby d2_25) rfl rfl ?_
        show Steps p.tables e below (T41.setTop (mkF m 27 #[.val (.int p1), .val (.int p2), .val (.int p3), .val (.int p4), .val (.int p5), .val (.ref b41)] [(.ref b41)])) t
        refine XS.iconst X41.here hx rfl (hb hby d2_27) ?_
        show Steps p.tables e below (T41.setTop (mkF m 28 #[.val (.int p1), .val (.int p2), .val (.int p3), .val (.int p4), .val (.int p5), .val (.ref b41)] [(.int (0 : Int32)), (.ref b41)])) t
        refine XS.iloadN X41.here hx rfl (hb hby d2_28) rfl ?_
        exact kt
      obtain ⟨cl50, Ar50, q50, S50, M50, H50, G50⟩ := id F47
      have hin50 : ¬ ((0 : Int32) < 0 ∨ cl50.slots.size ≤ ((0 : Int32)).toNatClampNeg) := inb_of S50 ⟨by decide, by decide⟩
      obtain ⟨T50, h50, X50, e50, W50, st50⟩ := stC X41 hx hZ e41 Ar50 (j := (0 : Int32)) hin50 (g := (mkF m 29 #[.val (.int p1), .val (.int p2), .val (.int p3), .val (.int p4), .val (.int p5), .val (.ref b41)] [(.int p2), (.int (0 : Int32)), (.ref b41)])) rfl rfl (hb hby d2_29)
      have F51 : Arv Z h50 b41 c41 .char (1 : Int32) [(.int (p2.toUInt32.toUInt16.toUInt32.toInt32))] (.int (0 : Int32)) := Arv.set Ar50 q50 S50 M50 H50 G50 (fits_nar_char _) W50 0 rfl (Nat.le_of_ble_eq_true rfl)
      have F52 := Safe.wr W50 F43 C44.1 F43
      have C53 := CHr.trans C44 (CHr.wr W50 F43 C44.1)
      have F54 := F45.wr W50
      have hk_56 := Nat.le_trans hk_46 (Keep.of_wr W50).1
      have Z50 : n0 ≤ h50.size := Nat.le_trans Z41 (Keep.of_wr W50).1
      have K50 : Keep h0 h50 [] := K41.wr W50 (Or.inr sz_b41)
      have N50 := Fr.snoc X50 N0 g_b41
      have k57 : ∀ t, Steps p.tables e below (T50.setTop (mkF m 30 #[.val (.int p1), .val (.int p2), .val (.int p3), .val (.int p4), .val (.int p5), .val (.ref b41)] [])) t → Steps p.tables e below (s₁.setTop (entryFrame m #[(.int p1), (.int p2), (.int p3), (.int p4), (.int p5)] 6)) t := fun t kt => k49 t (st50 t kt)
      obtain ⟨T58, h58, X58, e58, E58, A58, D58, -, st58⟩ := newO X50 hx hZ hown (hw _ (List.mem_of_getElem? (i := 8) rfl)) (hw _ (List.mem_of_getElem? (i := 9) rfl)) (hw _ (List.mem_of_getElem? (i := 10) rfl)) e50 (g := (mkF m 30 #[.val (.int p1), .val (.int p2), .val (.int p3), .val (.int p4), .val (.int p5), .val (.ref b41)] [])) rfl (hb hby d2_30) (by decide) (by decide)
      obtain ⟨b58, g58⟩ : ∃ z, z = h50.size := ⟨_, rfl⟩
      rw [← g58] at A58 D58 st58
      have F59 : Safe Z own_EL s.vm h50 b58 := Safe.new (Nat.le_of_eq g58.symm)
      have g_b58 : n0 ≤ b58 := Nat.le_trans Z50 (Nat.le_of_eq g58.symm)
      have sz_b58 : h0.size ≤ b58 := Nat.le_trans K50.1 (Nat.le_of_eq g58.symm)
      have ne60 : b41 ≠ b58 := Nat.ne_of_lt (Nat.lt_of_lt_of_le F51.lt (Nat.le_of_eq g58.symm))
      have F61 := Safe.ext E58 C53.1 F52
      have F62 := Safe.ext E58 C53.1 F59
      have C63 := CHr.trans C53 (CHr.ext E58 C53.1)
      have F64 := F54.ext E58
      have F65 := F51.ext E58
      have hk_66 := Nat.le_trans hk_56 E58.1
      have Z58 : n0 ≤ h58.size := Nat.le_trans Z50 E58.1
      have K58 : Keep h0 h58 [] := K50.ext E58
      have F67 : Fld Z h58 b58 "java/lang/String" "value" "[B" .null := D58 (Or.inr (hw _ (List.mem_of_getElem? (i := 24) rfl))) (ty := (.array .byte)) (by decide)
      have F68 : Fld Z h58 b58 "java/lang/String" "coder" "B" (.int (0 : Int32)) := D58 (Or.inr (hw _ (List.mem_of_getElem? (i := 25) rfl))) (ty := .byte) (by decide)
      have k69 : ∀ t, Steps p.tables e below (T58.setTop (mkF m 33 #[.val (.int p1), .val (.int p2), .val (.int p3), .val (.int p4), .val (.int p5), .val (.ref b41)] [(.ref b58)])) t → Steps p.tables e below (s₁.setTop (entryFrame m #[(.int p1), (.int p2), (.int p3), (.int p4), (.int p5)] 6)) t := fun t kt => k57 t (st58 t kt)
      have k70 : ∀ t, Steps p.tables e below (T58.setTop (mkF m 36 #[.val (.int p1), .val (.int p2), .val (.int p3), .val (.int p4), .val (.int p5), .val (.ref b41)] [(.ref b41), (.ref b58), (.ref b58)])) t → Steps p.tables e below (s₁.setTop (entryFrame m #[(.int p1), (.int p2), (.int p3), (.int p4), (.int p5)] 6)) t := by
        intro t kt
        refine k69 t ?_
        show Steps p.tables e below (T58.setTop (mkF m 33 #[.val (.int p1), .val (.int p2), .val (.int p3), .val (.int p4), .val (.int p5), .val (.ref b41)] [(.ref b58)])) t
        refine XS.dup X58.here hx rfl (hb hby d2_33) rfl rfl ?_
        show Steps p.tables e below (T58.setTop (mkF m 34 #[.val (.int p1), .val (.int p2), .val (.int p3), .val (.int p4), .val (.int p5), .val (.ref b41)] [(.ref b58), (.ref b58)])) t
        refine XS.aload X58.here hx rfl (hb hby d2_34) rfl rfl ?_
        exact kt
      obtain ⟨_, _, ⟨T71, L71, k71c, n71⟩, -, X71, ⟨Lc71, hQ71, l71, y71, z71⟩, st71⟩ := X58.specialBack hx (y := (⟨"java/lang/String", "<init>", "([C)V"⟩ : MethodName)) rfl hown (mvT hZ (hw _ (List.mem_of_getElem? (i := 12) rfl))) (mvT hZ (hw _ (List.mem_of_getElem? (i := 13) rfl))) (mvT hZ (hw _ (List.mem_of_getElem? (i := 14) rfl))) (by decide) (backOf (W := 1) (rmSi1 l Z a0 hw [] b58 b41 .null (.int (0 : Int32)) c41 cs (p2.toUInt32.toUInt16.toUInt32.toInt32) h58 n0 Z58 F67 F68 A58 g_b58 (Ne.symm ne60) F65 F64 hcs (by rw [own_ch p2 r2.1 (by omega)]; exact own_n255 _ r2.2)) hZ (hw _ (List.mem_of_getElem? (i := 14) rfl)) (hw _ (List.mem_of_getElem? (i := 10) rfl)) (by decide) (by decide)) (g := (mkF m 36 #[.val (.int p1), .val (.int p2), .val (.int p3), .val (.int p4), .val (.int p5), .val (.ref b41)] [(.ref b41), (.ref b58), (.ref b58)])) rfl (by rw [hml]; rfl) (Steps.refl _) (a := b58) (argsL := [(.ref b41)]) (rest := [(.ref b58)]) (lenOf own_pd4 rfl) rfl (by show 2 * 0 + _ ≤ _; exact Nat.le_of_eq rfl) (hb hby d2_36) (fun _ _ => ⟨rfl, e58, (by decide : 2 + 1 ≤ _), (by decide : 5 + 1 ≤ _)⟩)
      dsimp only [Pt.U, Pt.locs, Pt.cells, Pt.slots] at X71 l71 y71 z71 st71 hQ71
      subst l71 y71 z71
      obtain ⟨rfl, N71q, K71k, -, b71, c71k, s71z, Fv71, Fc71, A71⟩ := hQ71
      have N71 := Fr.app N50 N71q
      have g_b71 : n0 ≤ b71 := Nat.le_trans Z58 s71z
      have sz_b71 : h0.size ≤ b71 := Nat.le_trans K58.1 s71z
      have ne72 : b41 ≠ b71 := Nat.ne_of_lt (Nat.lt_of_lt_of_le F65.lt s71z)
      have ne73 : b58 ≠ b71 := Nat.ne_of_lt (Nat.lt_of_lt_of_le A58.lt s71z)
      have F74 := Safe.keep K71k (sfS F62 sf0) C63.1 F61
      have F75 := Safe.keep K71k (sfS F62 sf0) C63.1 F62
      have C76 := CHr.trans C63 (CHr.keep K71k (sfS F62 sf0) C63.1)
      have F78 := F65.keep K71k (ninS ne60 nin0)
      have F79 := A58.keep K71k
      have hk_82 := Nat.le_trans hk_66 K71k.1
      have Z83 : n0 ≤ T71.heap.size := Nat.le_trans Z58 K71k.1
      have K83 : Keep h0 T71.heap [] := K58.trans K71k (allS (Or.inr sz_b58) all0)
      have k84 : ∀ t, Steps p.tables e below (T71.setTop (mkF m 39 #[.val (.int p1), .val (.int p2), .val (.int p3), .val (.int p4), .val (.int p5), .val (.ref b41)] [(.ref b58)])) t → Steps p.tables e below (s₁.setTop (entryFrame m #[(.int p1), (.int p2), (.int p3), (.int p4), (.int p5)] 6)) t := fun t kt => k70 t (st71.trans kt)
      obtain ⟨fs, hr, hrun, hended, hRW⟩ := X71.leaveW hS0 hk_82 (v := some (.ref b58)) (fun h => by rw [Bd.returns] at h; cases h)
      refine ⟨_, _, k84 _ ?_, hrun, hended, _, _, rfl, ?_, ?_, hRW.1, hRW.2.1, hRW.2.2.1, hRW.2.2.2.mono (by decide) (by decide)⟩
      · show Steps p.tables e below (T71.setTop (mkF m 39 #[.val (.int p1), .val (.int p2), .val (.int p3), .val (.int p4), .val (.int p5), .val (.ref b41)] [(.ref b58)])) _
        jvm_step X71.here [X71.here.top, hx, (hb hby d2_39), X71.method', Bd.returns, Value.isRef, FieldType.isReference]
        first | (intro acts; rw [hr _ acts rfl rfl rfl]) | rw [hr _ _ rfl rfl rfl]
        exact Steps.refl _
      · show QStr Z p1 p2 p3 p4 p5 cs h0 n0 _ T71.heap _
        rw [own_ch p2 r2.1 (by omega)] at A71
        exact ⟨b58, b71, c71k, rfl, N71, K83, sz_b58, F79, Fv71, Fc71, own_arvT A71 hc17_38 (by first | exact fun _ _ => rfl | intro i hi; have e : (1 : Int32).toNatClampNeg = 1 := rfl; rw [e] at hi; rcases i with _ | _ | _ | _ | i <;> first | rfl | omega)⟩
      · show CHr Z own_EL s.vm s.heap T71.vm T71.heap
        rw [hh]
        exact CHr.trans C76 (CHv.at (s := s) (vm0 := s.vm) X71 hZ hEL C76.1)
    · have k86 : ∀ t, Steps p.tables e below (s₁.setTop (mkF m 42 #[.val (.int p1), .val (.int p2), .val (.int p3), .val (.int p4), .val (.int p5), .unset] [(.int (2 : Int32)), (.int p1)])) t → Steps p.tables e below (s₁.setTop (entryFrame m #[(.int p1), (.int p2), (.int p3), (.int p4), (.int p5)] 6)) t := by
        intro t kt
        refine k39 t ?_
        show Steps p.tables e below (s₁.setTop (mkF m 17 #[.val (.int p1), .val (.int p2), .val (.int p3), .val (.int p4), .val (.int p5), .unset] [(.int (1 : Int32)), (.int p1)])) t
        refine XS.icmpYes X0.here hx rfl (pc0 := 17) (pc' := 40) rfl (hb hby d2_17) rfl (feq hc17_38).2 (by decide) (by decide) ?_
        show Steps p.tables e below (s₁.setTop (mkF m 40 #[.val (.int p1), .val (.int p2), .val (.int p3), .val (.int p4), .val (.int p5), .unset] [])) t
        refine XS.iloadN X0.here hx rfl (hb hby d2_40) rfl ?_
        show Steps p.tables e below (s₁.setTop (mkF m 41 #[.val (.int p1), .val (.int p2), .val (.int p3), .val (.int p4), .val (.int p5), .unset] [(.int p1)])) t
        refine XS.iconst X0.here hx rfl (hb hby d2_41) ?_
        exact kt
      by_cases hc42_85 : p1 = (2 : Int32)
      · have k87 : ∀ t, Steps p.tables e below (s₁.setTop (mkF m 46 #[.val (.int p1), .val (.int p2), .val (.int p3), .val (.int p4), .val (.int p5), .unset] [(.int (2 : Int32))])) t → Steps p.tables e below (s₁.setTop (entryFrame m #[(.int p1), (.int p2), (.int p3), (.int p4), (.int p5)] 6)) t := by
          intro t kt
          refine k86 t ?_
          show Steps p.tables e below (s₁.setTop (mkF m 42 #[.val (.int p1), .val (.int p2), .val (.int p3), .val (.int p4), .val (.int p5), .unset] [(.int (2 : Int32)), (.int p1)])) t
          refine XS.icmpNo X0.here hx rfl (hb hby d2_42) rfl (teq hc42_85).2 ?_
          show Steps p.tables e below (s₁.setTop (mkF m 45 #[.val (.int p1), .val (.int p2), .val (.int p3), .val (.int p4), .val (.int p5), .unset] [])) t
          refine XS.iconst X0.here hx rfl (hb hby d2_45) ?_
          exact kt
        obtain ⟨T88, h88, c88, X88, e88, E88, A88, st88⟩ := newP X0 hx hZ (hw _ (List.mem_of_getElem? (i := 11) rfl)) e0 (g := (mkF m 46 #[.val (.int p1), .val (.int p2), .val (.int p3), .val (.int p4), .val (.int p5), .unset] [(.int (2 : Int32))])) rfl (hb hby d2_46) rfl (by decide) (cap := 2) (by decide) (by decide) (by decide) (by decide)
        obtain ⟨b88, g88⟩ : ∃ z, z = h0.size := ⟨_, rfl⟩
        rw [← g88] at A88 st88
        have F89 : Safe Z own_EL s.vm h0 b88 := Safe.new (Nat.le_of_eq g88.symm)
        have g_b88 : n0 ≤ b88 := Nat.le_trans Z0 (Nat.le_of_eq g88.symm)
        have sz_b88 : h0.size ≤ b88 := Nat.le_trans K0.1 (Nat.le_of_eq g88.symm)
        have F90 := Safe.ext E88 C0.1 F89
        have C91 := CHr.trans C0 (CHr.ext E88 C0.1)
        have F92 := SC.ext E88
        have hk_93 := Nat.le_trans hk0 E88.1
        have Z88 : n0 ≤ h88.size := Nat.le_trans Z0 E88.1
        have K88 : Keep h0 h88 [] := K0.ext E88
        have F94 : Arv Z h88 b88 c88 .char (2 : Int32) [(.int (0 : Int32)), (.int (0 : Int32))] (.int (0 : Int32)) := (Arv.new A88 (by decide)).pad (pad_rep [] (.int (0 : Int32)) 2)
        have k95 : ∀ t, Steps p.tables e below (T88.setTop (mkF m 48 #[.val (.int p1), .val (.int p2), .val (.int p3), .val (.int p4), .val (.int p5), .unset] [(.ref b88)])) t → Steps p.tables e below (s₁.setTop (entryFrame m #[(.int p1), (.int p2), (.int p3), (.int p4), (.int p5)] 6)) t := fun t kt => k87 t (st88 t kt)
        have k96 : ∀ t, Steps p.tables e below (T88.setTop (mkF m 54 #[.val (.int p1), .val (.int p2), .val (.int p3), .val (.int p4), .val (.int p5), .val (.ref b88)] [(.int p2), (.int (0 : Int32)), (.ref b88)])) t → Steps p.tables e below (s₁.setTop (entryFrame m #[(.int p1), (.int p2), (.int p3), (.int p4), (.int p5)] 6)) t := by
          intro t kt
          refine k95 t ?_
          show Steps p.tables e below (T88.setTop (mkF m 48 #[.val (.int p1), .val (.int p2), .val (.int p3), .val (.int p4), .val (.int p5), .unset] [(.ref b88)])) t
          refine XS.astore X88.here hx rfl (hb hby d2_48) rfl rfl (l' := #[.val (.int p1), .val (.int p2), .val (.int p3), .val (.int p4), .val (.int p5), .val (.ref b88)]) rfl ?_
          show Steps p.tables e below (T88.setTop (mkF m 50 #[.val (.int p1), .val (.int p2), .val (.int p3), .val (.int p4), .val (.int p5), .val (.ref b88)] [])) t
          refine XS.aload X88.here hx rfl (hb hby d2_50) rfl rfl ?_
          show Steps p.tables e below (T88.setTop (mkF m 52 #[.val (.int p1), .val (.int p2), .val (.int p3), .val (.int p4), .val (.int p5), .val (.ref b88)] [(.ref b88)])) t
          refine XS.iconst X88.here hx rfl (hb hby d2_52) ?_
          show Steps p.tables e below (T88.setTop (mkF m 53 #[.val (.int p1), .val (.int p2), .val (.int p3), .val (.int p4), .val (.int p5), .val (.ref b88)] [(.int (0 : Int32)), (.ref b88)])) t
          refine XS.iloadN X88.here hx rfl (hb hby d2_53) rfl ?_
          exact kt
        obtain ⟨cl97, Ar97, q97, S97, M97, H97, G97⟩ := id F94
        have hin97 : ¬ ((0 : Int32) < 0 ∨ cl97.slots.size ≤ ((0 : Int32)).toNatClampNeg) := inb_of S97 ⟨by decide, by decide⟩
        obtain ⟨T97, h97, X97, e97, W97, st97⟩ := stC X88 hx hZ e88 Ar97 (j := (0 : Int32)) hin97 (g := (mkF m 54 #[.val (.int p1), .val (.int p2), .val (.int p3), .val (.int p4), .val (.int p5), .val (.ref b88)] [(.int p2), (.int (0 : Int32)), (.ref b88)])) rfl rfl (hb hby d2_54)
        have F98 : Arv Z h97 b88 c88 .char (2 : Int32) [(.int (p2.toUInt32.toUInt16.toUInt32.toInt32)), (.int (0 : Int32))] (.int (0 : Int32)) := Arv.set Ar97 q97 S97 M97 H97 G97 (fits_nar_char _) W97 0 rfl (Nat.le_of_ble_eq_true rfl)
        have F99 := Safe.wr W97 F90 C91.1 F90
        have C100 := CHr.trans C91 (CHr.wr W97 F90 C91.1)
        have F101 := F92.wr W97
        have hk_103 := Nat.le_trans hk_93 (Keep.of_wr W97).1
        have Z97 : n0 ≤ h97.size := Nat.le_trans Z88 (Keep.of_wr W97).1
        have K97 : Keep h0 h97 [] := K88.wr W97 (Or.inr sz_b88)
        have N97 := Fr.snoc X97 N0 g_b88
        have k104 : ∀ t, Steps p.tables e below (T97.setTop (mkF m 55 #[.val (.int p1), .val (.int p2), .val (.int p3), .val (.int p4), .val (.int p5), .val (.ref b88)] [])) t → Steps p.tables e below (s₁.setTop (entryFrame m #[(.int p1), (.int p2), (.int p3), (.int p4), (.int p5)] 6)) t := fun t kt => k96 t (st97 t kt)
        have k105 : ∀ t, Steps p.tables e below (T97.setTop (mkF m 59 #[.val (.int p1), .val (.int p2), .val (.int p3), .val (.int p4), .val (.int p5), .val (.ref b88)] [(.int p3), (.int (1 : Int32)), (.ref b88)])) t → Steps p.tables e below (s₁.setTop (entryFrame m #[(.int p1), (.int p2), (.int p3), (.int p4), (.int p5)] 6)) t := by
          intro t kt
          refine k104 t ?_
          show Steps p.tables e below (T97.setTop (mkF m 55 #[.val (.int p1), .val (.int p2), .val (.int p3), .val (.int p4), .val (.int p5), .val (.ref b88)] [])) t
          refine XS.aload X97.here hx rfl (hb hby d2_55) rfl rfl ?_
          show Steps p.tables e below (T97.setTop (mkF m 57 #[.val (.int p1), .val (.int p2), .val (.int p3), .val (.int p4), .val (.int p5), .val (.ref b88)] [(.ref b88)])) t
          refine XS.iconst X97.here hx rfl (hb hby d2_57) ?_
          show Steps p.tables e below (T97.setTop (mkF m 58 #[.val (.int p1), .val (.int p2), .val (.int p3), .val (.int p4), .val (.int p5), .val (.ref b88)] [(.int (1 : Int32)), (.ref b88)])) t
          refine XS.iloadN X97.here hx rfl (hb hby d2_58) rfl ?_
          exact kt
        obtain ⟨cl106, Ar106, q106, S106, M106, H106, G106⟩ := id F98
        have hin106 : ¬ ((1 : Int32) < 0 ∨ cl106.slots.size ≤ ((1 : Int32)).toNatClampNeg) := inb_of S106 ⟨by decide, by decide⟩
        obtain ⟨T106, h106, X106, e106, W106, st106⟩ := stC X97 hx hZ e97 Ar106 (j := (1 : Int32)) hin106 (g := (mkF m 59 #[.val (.int p1), .val (.int p2), .val (.int p3), .val (.int p4), .val (.int p5), .val (.ref b88)] [(.int p3), (.int (1 : Int32)), (.ref b88)])) rfl rfl (hb hby d2_59)
        have F107 : Arv Z h106 b88 c88 .char (2 : Int32) [(.int (p2.toUInt32.toUInt16.toUInt32.toInt32)), (.int (p3.toUInt32.toUInt16.toUInt32.toInt32))] (.int (0 : Int32)) := Arv.set Ar106 q106 S106 M106 H106 G106 (fits_nar_char _) W106 1 rfl (Nat.le_of_ble_eq_true rfl)
        have F108 := Safe.wr W106 F99 C100.1 F99
        have C109 := CHr.trans C100 (CHr.wr W106 F99 C100.1)
        have F110 := F101.wr W106
        have hk_112 := Nat.le_trans hk_103 (Keep.of_wr W106).1
        have Z106 : n0 ≤ h106.size := Nat.le_trans Z97 (Keep.of_wr W106).1
        have K106 : Keep h0 h106 [] := K97.wr W106 (Or.inr sz_b88)
        have N106 := Fr.snoc X106 N97 g_b88
        have k113 : ∀ t, Steps p.tables e below (T106.setTop (mkF m 60 #[.val (.int p1), .val (.int p2), .val (.int p3), .val (.int p4), .val (.int p5), .val (.ref b88)] [])) t → Steps p.tables e below (s₁.setTop (entryFrame m #[(.int p1), (.int p2), (.int p3), (.int p4), (.int p5)] 6)) t := fun t kt => k105 t (st106 t kt)
        obtain ⟨T114, h114, X114, e114, E114, A114, D114, -, st114⟩ := newO X106 hx hZ hown (hw _ (List.mem_of_getElem? (i := 8) rfl)) (hw _ (List.mem_of_getElem? (i := 9) rfl)) (hw _ (List.mem_of_getElem? (i := 10) rfl)) e106 (g := (mkF m 60 #[.val (.int p1), .val (.int p2), .val (.int p3), .val (.int p4), .val (.int p5), .val (.ref b88)] [])) rfl (hb hby d2_60) (by decide) (by decide)
        obtain ⟨b114, g114⟩ : ∃ z, z = h106.size := ⟨_, rfl⟩
        rw [← g114] at A114 D114 st114
        have F115 : Safe Z own_EL s.vm h106 b114 := Safe.new (Nat.le_of_eq g114.symm)
        have g_b114 : n0 ≤ b114 := Nat.le_trans Z106 (Nat.le_of_eq g114.symm)
        have sz_b114 : h0.size ≤ b114 := Nat.le_trans K106.1 (Nat.le_of_eq g114.symm)
        have ne116 : b88 ≠ b114 := Nat.ne_of_lt (Nat.lt_of_lt_of_le F107.lt (Nat.le_of_eq g114.symm))
        have F117 := Safe.ext E114 C109.1 F108
        have F118 := Safe.ext E114 C109.1 F115
        have C119 := CHr.trans C109 (CHr.ext E114 C109.1)
        have F120 := F110.ext E114
        have F121 := F107.ext E114
        have hk_122 := Nat.le_trans hk_112 E114.1
        have Z114 : n0 ≤ h114.size := Nat.le_trans Z106 E114.1
        have K114 : Keep h0 h114 [] := K106.ext E114
        have F123 : Fld Z h114 b114 "java/lang/String" "value" "[B" .null := D114 (Or.inr (hw _ (List.mem_of_getElem? (i := 24) rfl))) (ty := (.array .byte)) (by decide)
        have F124 : Fld Z h114 b114 "java/lang/String" "coder" "B" (.int (0 : Int32)) := D114 (Or.inr (hw _ (List.mem_of_getElem? (i := 25) rfl))) (ty := .byte) (by decide)
        have k125 : ∀ t, Steps p.tables e below (T114.setTop (mkF m 63 #[.val (.int p1), .val (.int p2), .val (.int p3), .val (.int p4), .val (.int p5), .val (.ref b88)] [(.ref b114)])) t → Steps p.tables e below (s₁.setTop (entryFrame m #[(.int p1), (.int p2), (.int p3), (.int p4), (.int p5)] 6)) t := fun t kt => k113 t (st114 t kt)
        have k126 : ∀ t, Steps p.tables e below (T114.setTop (mkF m 66 #[.val (.int p1), .val (.int p2), .val (.int p3), .val (.int p4), .val (.int p5), .val (.ref b88)] [(.ref b88), (.ref b114), (.ref b114)])) t → Steps p.tables e below (s₁.setTop (entryFrame m #[(.int p1), (.int p2), (.int p3), (.int p4), (.int p5)] 6)) t := by
          intro t kt
          refine k125 t ?_
          show Steps p.tables e below (T114.setTop (mkF m 63 #[.val (.int p1), .val (.int p2), .val (.int p3), .val (.int p4), .val (.int p5), .val (.ref b88)] [(.ref b114)])) t
          refine XS.dup X114.here hx rfl (hb hby d2_63) rfl rfl ?_
          show Steps p.tables e below (T114.setTop (mkF m 64 #[.val (.int p1), .val (.int p2), .val (.int p3), .val (.int p4), .val (.int p5), .val (.ref b88)] [(.ref b114), (.ref b114)])) t
          refine XS.aload X114.here hx rfl (hb hby d2_64) rfl rfl ?_
          exact kt
        obtain ⟨_, _, ⟨T127, L127, k127c, n127⟩, -, X127, ⟨Lc127, hQ127, l127, y127, z127⟩, st127⟩ := X114.specialBack hx (y := (⟨"java/lang/String", "<init>", "([C)V"⟩ : MethodName)) rfl hown (mvT hZ (hw _ (List.mem_of_getElem? (i := 12) rfl))) (mvT hZ (hw _ (List.mem_of_getElem? (i := 13) rfl))) (mvT hZ (hw _ (List.mem_of_getElem? (i := 14) rfl))) (by decide) (backOf (W := 1) (rmSi2 l Z a0 hw [] b114 b88 .null (.int (0 : Int32)) c88 cs (p2.toUInt32.toUInt16.toUInt32.toInt32) (p3.toUInt32.toUInt16.toUInt32.toInt32) h114 n0 Z114 F123 F124 A114 g_b114 (Ne.symm ne116) F121 F120 hcs (by rw [own_ch p2 r2.1 (by omega)]; exact own_n255 _ r2.2) (by rw [own_ch p3 r3.1 (by omega)]; exact own_n255 _ r3.2)) hZ (hw _ (List.mem_of_getElem? (i := 14) rfl)) (hw _ (List.mem_of_getElem? (i := 10) rfl)) (by decide) (by decide)) (g := (mkF m 66 #[.val (.int p1), .val (.int p2), .val (.int p3), .val (.int p4), .val (.int p5), .val (.ref b88)] [(.ref b88), (.ref b114), (.ref b114)])) rfl (by rw [hml]; rfl) (Steps.refl _) (a := b114) (argsL := [(.ref b88)]) (rest := [(.ref b114)]) (lenOf own_pd4 rfl) rfl (by show 2 * 0 + _ ≤ _; exact Nat.le_of_eq rfl) (hb hby d2_66) (fun _ _ => ⟨rfl, e114, (by decide : 2 + 1 ≤ _), (by decide : 6 + 2 ≤ _)⟩)
        dsimp only [Pt.U, Pt.locs, Pt.cells, Pt.slots] at X127 l127 y127 z127 st127 hQ127
        subst l127 y127 z127
        obtain ⟨rfl, N127q, K127k, -, b127, c127k, s127z, Fv127, Fc127, A127⟩ := hQ127
        have N127 := Fr.app N106 N127q
        have g_b127 : n0 ≤ b127 := Nat.le_trans Z114 s127z
        have sz_b127 : h0.size ≤ b127 := Nat.le_trans K114.1 s127z
        have ne128 : b88 ≠ b127 := Nat.ne_of_lt (Nat.lt_of_lt_of_le F121.lt s127z)
        have ne129 : b114 ≠ b127 := Nat.ne_of_lt (Nat.lt_of_lt_of_le A114.lt s127z)
        have F130 := Safe.keep K127k (sfS F118 sf0) C119.1 F117
        have F131 := Safe.keep K127k (sfS F118 sf0) C119.1 F118
        have C132 := CHr.trans C119 (CHr.keep K127k (sfS F118 sf0) C119.1)
        have F134 := F121.keep K127k (ninS ne116 nin0)
        have F135 := A114.keep K127k
        have hk_138 := Nat.le_trans hk_122 K127k.1
        have Z139 : n0 ≤ T127.heap.size := Nat.le_trans Z114 K127k.1
        have K139 : Keep h0 T127.heap [] := K114.trans K127k (allS (Or.inr sz_b114) all0)
        have k140 : ∀ t, Steps p.tables e below (T127.setTop (mkF m 69 #[.val (.int p1), .val (.int p2), .val (.int p3), .val (.int p4), .val (.int p5), .val (.ref b88)] [(.ref b114)])) t → Steps p.tables e below (s₁.setTop (entryFrame m #[(.int p1), (.int p2), (.int p3), (.int p4), (.int p5)] 6)) t := fun t kt => k126 t (st127.trans kt)
        obtain ⟨fs, hr, hrun, hended, hRW⟩ := X127.leaveW hS0 hk_138 (v := some (.ref b114)) (fun h => by rw [Bd.returns] at h; cases h)
        refine ⟨_, _, k140 _ ?_, hrun, hended, _, _, rfl, ?_, ?_, hRW.1, hRW.2.1, hRW.2.2.1, hRW.2.2.2.mono (by decide) (by decide)⟩
        · show Steps p.tables e below (T127.setTop (mkF m 69 #[.val (.int p1), .val (.int p2), .val (.int p3), .val (.int p4), .val (.int p5), .val (.ref b88)] [(.ref b114)])) _
          jvm_step X127.here [X127.here.top, hx, (hb hby d2_69), X127.method', Bd.returns, Value.isRef, FieldType.isReference]
          first | (intro acts; rw [hr _ acts rfl rfl rfl]) | rw [hr _ _ rfl rfl rfl]
          exact Steps.refl _
        · show QStr Z p1 p2 p3 p4 p5 cs h0 n0 _ T127.heap _
          rw [own_ch p2 r2.1 (by omega)] at A127
          rw [own_ch p3 r3.1 (by omega)] at A127
          exact ⟨b114, b127, c127k, rfl, N127, K139, sz_b114, F135, Fv127, Fc127, own_arvT A127 hc42_85 (by first | exact fun _ _ => rfl | intro i hi; have e : (2 : Int32).toNatClampNeg = 2 := rfl; rw [e] at hi; rcases i with _ | _ | _ | _ | i <;> first | rfl | omega)⟩
        · show CHr Z own_EL s.vm s.heap T127.vm T127.heap
          rw [hh]
          exact CHr.trans C132 (CHv.at (s := s) (vm0 := s.vm) X127 hZ hEL C132.1)
      · have k142 : ∀ t, Steps p.tables e below (s₁.setTop (mkF m 72 #[.val (.int p1), .val (.int p2), .val (.int p3), .val (.int p4), .val (.int p5), .unset] [(.int (3 : Int32)), (.int p1)])) t → Steps p.tables e below (s₁.setTop (entryFrame m #[(.int p1), (.int p2), (.int p3), (.int p4), (.int p5)] 6)) t := by
          intro t kt
          refine k86 t ?_
          show Steps p.tables e below (s₁.setTop (mkF m 42 #[.val (.int p1), .val (.int p2), .val (.int p3), .val (.int p4), .val (.int p5), .unset] [(.int (2 : Int32)), (.int p1)])) t
          refine XS.icmpYes X0.here hx rfl (pc0 := 42) (pc' := 70) rfl (hb hby d2_42) rfl (feq hc42_85).2 (by decide) (by decide) ?_
          show Steps p.tables e below (s₁.setTop (mkF m 70 #[.val (.int p1), .val (.int p2), .val (.int p3), .val (.int p4), .val (.int p5), .unset] [])) t
          refine XS.iloadN X0.here hx rfl (hb hby d2_70) rfl ?_
          show Steps p.tables e below (s₁.setTop (mkF m 71 #[.val (.int p1), .val (.int p2), .val (.int p3), .val (.int p4), .val (.int p5), .unset] [(.int p1)])) t
          refine XS.iconst X0.here hx rfl (hb hby d2_71) ?_
          exact kt
        by_cases hc72_141 : p1 = (3 : Int32)
        · have k143 : ∀ t, Steps p.tables e below (s₁.setTop (mkF m 76 #[.val (.int p1), .val (.int p2), .val (.int p3), .val (.int p4), .val (.int p5), .unset] [(.int (3 : Int32))])) t → Steps p.tables e below (s₁.setTop (entryFrame m #[(.int p1), (.int p2), (.int p3), (.int p4), (.int p5)] 6)) t := by
            intro t kt
            refine k142 t ?_
            show Steps p.tables e below (s₁.setTop (mkF m 72 #[.val (.int p1), .val (.int p2), .val (.int p3), .val (.int p4), .val (.int p5), .unset] [(.int (3 : Int32)), (.int p1)])) t
            refine XS.icmpNo X0.here hx rfl (hb hby d2_72) rfl (teq hc72_141).2 ?_
            show Steps p.tables e below (s₁.setTop (mkF m 75 #[.val (.int p1), .val (.int p2), .val (.int p3), .val (.int p4), .val (.int p5), .unset] [])) t
            refine XS.iconst X0.here hx rfl (hb hby d2_75) ?_
            exact kt
          obtain ⟨T144, h144, c144, X144, e144, E144, A144, st144⟩ := newP X0 hx hZ (hw _ (List.mem_of_getElem? (i := 11) rfl)) e0 (g := (mkF m 76 #[.val (.int p1), .val (.int p2), .val (.int p3), .val (.int p4), .val (.int p5), .unset] [(.int (3 : Int32))])) rfl (hb hby d2_76) rfl (by decide) (cap := 3) (by decide) (by decide) (by decide) (by decide)
          obtain ⟨b144, g144⟩ : ∃ z, z = h0.size := ⟨_, rfl⟩
          rw [← g144] at A144 st144
          have F145 : Safe Z own_EL s.vm h0 b144 := Safe.new (Nat.le_of_eq g144.symm)
          have g_b144 : n0 ≤ b144 := Nat.le_trans Z0 (Nat.le_of_eq g144.symm)
          have sz_b144 : h0.size ≤ b144 := Nat.le_trans K0.1 (Nat.le_of_eq g144.symm)
          have F146 := Safe.ext E144 C0.1 F145
          have C147 := CHr.trans C0 (CHr.ext E144 C0.1)
          have F148 := SC.ext E144
          have hk_149 := Nat.le_trans hk0 E144.1
          have Z144 : n0 ≤ h144.size := Nat.le_trans Z0 E144.1
          have K144 : Keep h0 h144 [] := K0.ext E144
          have F150 : Arv Z h144 b144 c144 .char (3 : Int32) [(.int (0 : Int32)), (.int (0 : Int32)), (.int (0 : Int32))] (.int (0 : Int32)) := (Arv.new A144 (by decide)).pad (pad_rep [] (.int (0 : Int32)) 3)
          have k151 : ∀ t, Steps p.tables e below (T144.setTop (mkF m 78 #[.val (.int p1), .val (.int p2), .val (.int p3), .val (.int p4), .val (.int p5), .unset] [(.ref b144)])) t → Steps p.tables e below (s₁.setTop (entryFrame m #[(.int p1), (.int p2), (.int p3), (.int p4), (.int p5)] 6)) t := fun t kt => k143 t (st144 t kt)
          have k152 : ∀ t, Steps p.tables e below (T144.setTop (mkF m 84 #[.val (.int p1), .val (.int p2), .val (.int p3), .val (.int p4), .val (.int p5), .val (.ref b144)] [(.int p2), (.int (0 : Int32)), (.ref b144)])) t → Steps p.tables e below (s₁.setTop (entryFrame m #[(.int p1), (.int p2), (.int p3), (.int p4), (.int p5)] 6)) t := by
            intro t kt
            refine k151 t ?_
            show Steps p.tables e below (T144.setTop (mkF m 78 #[.val (.int p1), .val (.int p2), .val (.int p3), .val (.int p4), .val (.int p5), .unset] [(.ref b144)])) t
            refine XS.astore X144.here hx rfl (hb hby d2_78) rfl rfl (l' := #[.val (.int p1), .val (.int p2), .val (.int p3), .val (.int p4), .val (.int p5), .val (.ref b144)]) rfl ?_
            show Steps p.tables e below (T144.setTop (mkF m 80 #[.val (.int p1), .val (.int p2), .val (.int p3), .val (.int p4), .val (.int p5), .val (.ref b144)] [])) t
            refine XS.aload X144.here hx rfl (hb hby d2_80) rfl rfl ?_
            show Steps p.tables e below (T144.setTop (mkF m 82 #[.val (.int p1), .val (.int p2), .val (.int p3), .val (.int p4), .val (.int p5), .val (.ref b144)] [(.ref b144)])) t
            refine XS.iconst X144.here hx rfl (hb hby d2_82) ?_
            show Steps p.tables e below (T144.setTop (mkF m 83 #[.val (.int p1), .val (.int p2), .val (.int p3), .val (.int p4), .val (.int p5), .val (.ref b144)] [(.int (0 : Int32)), (.ref b144)])) t
            refine XS.iloadN X144.here hx rfl (hb hby d2_83) rfl ?_
            exact kt
          obtain ⟨cl153, Ar153, q153, S153, M153, H153, G153⟩ := id F150
          have hin153 : ¬ ((0 : Int32) < 0 ∨ cl153.slots.size ≤ ((0 : Int32)).toNatClampNeg) := inb_of S153 ⟨by decide, by decide⟩
          obtain ⟨T153, h153, X153, e153, W153, st153⟩ := stC X144 hx hZ e144 Ar153 (j := (0 : Int32)) hin153 (g := (mkF m 84 #[.val (.int p1), .val (.int p2), .val (.int p3), .val (.int p4), .val (.int p5), .val (.ref b144)] [(.int p2), (.int (0 : Int32)), (.ref b144)])) rfl rfl (hb hby d2_84)
          have F154 : Arv Z h153 b144 c144 .char (3 : Int32) [(.int (p2.toUInt32.toUInt16.toUInt32.toInt32)), (.int (0 : Int32)), (.int (0 : Int32))] (.int (0 : Int32)) := Arv.set Ar153 q153 S153 M153 H153 G153 (fits_nar_char _) W153 0 rfl (Nat.le_of_ble_eq_true rfl)
          have F155 := Safe.wr W153 F146 C147.1 F146
          have C156 := CHr.trans C147 (CHr.wr W153 F146 C147.1)
          have F157 := F148.wr W153
          have hk_159 := Nat.le_trans hk_149 (Keep.of_wr W153).1
          have Z153 : n0 ≤ h153.size := Nat.le_trans Z144 (Keep.of_wr W153).1
          have K153 : Keep h0 h153 [] := K144.wr W153 (Or.inr sz_b144)
          have N153 := Fr.snoc X153 N0 g_b144
          have k160 : ∀ t, Steps p.tables e below (T153.setTop (mkF m 85 #[.val (.int p1), .val (.int p2), .val (.int p3), .val (.int p4), .val (.int p5), .val (.ref b144)] [])) t → Steps p.tables e below (s₁.setTop (entryFrame m #[(.int p1), (.int p2), (.int p3), (.int p4), (.int p5)] 6)) t := fun t kt => k152 t (st153 t kt)
          have k161 : ∀ t, Steps p.tables e below (T153.setTop (mkF m 89 #[.val (.int p1), .val (.int p2), .val (.int p3), .val (.int p4), .val (.int p5), .val (.ref b144)] [(.int p3), (.int (1 : Int32)), (.ref b144)])) t → Steps p.tables e below (s₁.setTop (entryFrame m #[(.int p1), (.int p2), (.int p3), (.int p4), (.int p5)] 6)) t := by
            intro t kt
            refine k160 t ?_
            show Steps p.tables e below (T153.setTop (mkF m 85 #[.val (.int p1), .val (.int p2), .val (.int p3), .val (.int p4), .val (.int p5), .val (.ref b144)] [])) t
            refine XS.aload X153.here hx rfl (hb hby d2_85) rfl rfl ?_
            show Steps p.tables e below (T153.setTop (mkF m 87 #[.val (.int p1), .val (.int p2), .val (.int p3), .val (.int p4), .val (.int p5), .val (.ref b144)] [(.ref b144)])) t
            refine XS.iconst X153.here hx rfl (hb hby d2_87) ?_
            show Steps p.tables e below (T153.setTop (mkF m 88 #[.val (.int p1), .val (.int p2), .val (.int p3), .val (.int p4), .val (.int p5), .val (.ref b144)] [(.int (1 : Int32)), (.ref b144)])) t
            refine XS.iloadN X153.here hx rfl (hb hby d2_88) rfl ?_
            exact kt
          obtain ⟨cl162, Ar162, q162, S162, M162, H162, G162⟩ := id F154
          have hin162 : ¬ ((1 : Int32) < 0 ∨ cl162.slots.size ≤ ((1 : Int32)).toNatClampNeg) := inb_of S162 ⟨by decide, by decide⟩
          obtain ⟨T162, h162, X162, e162, W162, st162⟩ := stC X153 hx hZ e153 Ar162 (j := (1 : Int32)) hin162 (g := (mkF m 89 #[.val (.int p1), .val (.int p2), .val (.int p3), .val (.int p4), .val (.int p5), .val (.ref b144)] [(.int p3), (.int (1 : Int32)), (.ref b144)])) rfl rfl (hb hby d2_89)
          have F163 : Arv Z h162 b144 c144 .char (3 : Int32) [(.int (p2.toUInt32.toUInt16.toUInt32.toInt32)), (.int (p3.toUInt32.toUInt16.toUInt32.toInt32)), (.int (0 : Int32))] (.int (0 : Int32)) := Arv.set Ar162 q162 S162 M162 H162 G162 (fits_nar_char _) W162 1 rfl (Nat.le_of_ble_eq_true rfl)
          have F164 := Safe.wr W162 F155 C156.1 F155
          have C165 := CHr.trans C156 (CHr.wr W162 F155 C156.1)
          have F166 := F157.wr W162
          have hk_168 := Nat.le_trans hk_159 (Keep.of_wr W162).1
          have Z162 : n0 ≤ h162.size := Nat.le_trans Z153 (Keep.of_wr W162).1
          have K162 : Keep h0 h162 [] := K153.wr W162 (Or.inr sz_b144)
          have N162 := Fr.snoc X162 N153 g_b144
          have k169 : ∀ t, Steps p.tables e below (T162.setTop (mkF m 90 #[.val (.int p1), .val (.int p2), .val (.int p3), .val (.int p4), .val (.int p5), .val (.ref b144)] [])) t → Steps p.tables e below (s₁.setTop (entryFrame m #[(.int p1), (.int p2), (.int p3), (.int p4), (.int p5)] 6)) t := fun t kt => k161 t (st162 t kt)
          have k170 : ∀ t, Steps p.tables e below (T162.setTop (mkF m 94 #[.val (.int p1), .val (.int p2), .val (.int p3), .val (.int p4), .val (.int p5), .val (.ref b144)] [(.int p4), (.int (2 : Int32)), (.ref b144)])) t → Steps p.tables e below (s₁.setTop (entryFrame m #[(.int p1), (.int p2), (.int p3), (.int p4), (.int p5)] 6)) t := by
            intro t kt
            refine k169 t ?_
            show Steps p.tables e below (T162.setTop (mkF m 90 #[.val (.int p1), .val (.int p2), .val (.int p3), .val (.int p4), .val (.int p5), .val (.ref b144)] [])) t
            refine XS.aload X162.here hx rfl (hb hby d2_90) rfl rfl ?_
            show Steps p.tables e below (T162.setTop (mkF m 92 #[.val (.int p1), .val (.int p2), .val (.int p3), .val (.int p4), .val (.int p5), .val (.ref b144)] [(.ref b144)])) t
            refine XS.iconst X162.here hx rfl (hb hby d2_92) ?_
            show Steps p.tables e below (T162.setTop (mkF m 93 #[.val (.int p1), .val (.int p2), .val (.int p3), .val (.int p4), .val (.int p5), .val (.ref b144)] [(.int (2 : Int32)), (.ref b144)])) t
            refine XS.iloadN X162.here hx rfl (hb hby d2_93) rfl ?_
            exact kt
          obtain ⟨cl171, Ar171, q171, S171, M171, H171, G171⟩ := id F163
          have hin171 : ¬ ((2 : Int32) < 0 ∨ cl171.slots.size ≤ ((2 : Int32)).toNatClampNeg) := inb_of S171 ⟨by decide, by decide⟩
          obtain ⟨T171, h171, X171, e171, W171, st171⟩ := stC X162 hx hZ e162 Ar171 (j := (2 : Int32)) hin171 (g := (mkF m 94 #[.val (.int p1), .val (.int p2), .val (.int p3), .val (.int p4), .val (.int p5), .val (.ref b144)] [(.int p4), (.int (2 : Int32)), (.ref b144)])) rfl rfl (hb hby d2_94)
          have F172 : Arv Z h171 b144 c144 .char (3 : Int32) [(.int (p2.toUInt32.toUInt16.toUInt32.toInt32)), (.int (p3.toUInt32.toUInt16.toUInt32.toInt32)), (.int (p4.toUInt32.toUInt16.toUInt32.toInt32))] (.int (0 : Int32)) := Arv.set Ar171 q171 S171 M171 H171 G171 (fits_nar_char _) W171 2 rfl (Nat.le_of_ble_eq_true rfl)
          have F173 := Safe.wr W171 F164 C165.1 F164
          have C174 := CHr.trans C165 (CHr.wr W171 F164 C165.1)
          have F175 := F166.wr W171
          have hk_177 := Nat.le_trans hk_168 (Keep.of_wr W171).1
          have Z171 : n0 ≤ h171.size := Nat.le_trans Z162 (Keep.of_wr W171).1
          have K171 : Keep h0 h171 [] := K162.wr W171 (Or.inr sz_b144)
          have N171 := Fr.snoc X171 N162 g_b144
          have k178 : ∀ t, Steps p.tables e below (T171.setTop (mkF m 95 #[.val (.int p1), .val (.int p2), .val (.int p3), .val (.int p4), .val (.int p5), .val (.ref b144)] [])) t → Steps p.tables e below (s₁.setTop (entryFrame m #[(.int p1), (.int p2), (.int p3), (.int p4), (.int p5)] 6)) t := fun t kt => k170 t (st171 t kt)
          obtain ⟨T179, h179, X179, e179, E179, A179, D179, -, st179⟩ := newO X171 hx hZ hown (hw _ (List.mem_of_getElem? (i := 8) rfl)) (hw _ (List.mem_of_getElem? (i := 9) rfl)) (hw _ (List.mem_of_getElem? (i := 10) rfl)) e171 (g := (mkF m 95 #[.val (.int p1), .val (.int p2), .val (.int p3), .val (.int p4), .val (.int p5), .val (.ref b144)] [])) rfl (hb hby d2_95) (by decide) (by decide)
          obtain ⟨b179, g179⟩ : ∃ z, z = h171.size := ⟨_, rfl⟩
          rw [← g179] at A179 D179 st179
          have F180 : Safe Z own_EL s.vm h171 b179 := Safe.new (Nat.le_of_eq g179.symm)
          have g_b179 : n0 ≤ b179 := Nat.le_trans Z171 (Nat.le_of_eq g179.symm)
          have sz_b179 : h0.size ≤ b179 := Nat.le_trans K171.1 (Nat.le_of_eq g179.symm)
          have ne181 : b144 ≠ b179 := Nat.ne_of_lt (Nat.lt_of_lt_of_le F172.lt (Nat.le_of_eq g179.symm))
          have F182 := Safe.ext E179 C174.1 F173
          have F183 := Safe.ext E179 C174.1 F180
          have C184 := CHr.trans C174 (CHr.ext E179 C174.1)
          have F185 := F175.ext E179
          have F186 := F172.ext E179
          have hk_187 := Nat.le_trans hk_177 E179.1
          have Z179 : n0 ≤ h179.size := Nat.le_trans Z171 E179.1
          have K179 : Keep h0 h179 [] := K171.ext E179
          have F188 : Fld Z h179 b179 "java/lang/String" "value" "[B" .null := D179 (Or.inr (hw _ (List.mem_of_getElem? (i := 24) rfl))) (ty := (.array .byte)) (by decide)
          have F189 : Fld Z h179 b179 "java/lang/String" "coder" "B" (.int (0 : Int32)) := D179 (Or.inr (hw _ (List.mem_of_getElem? (i := 25) rfl))) (ty := .byte) (by decide)
          have k190 : ∀ t, Steps p.tables e below (T179.setTop (mkF m 98 #[.val (.int p1), .val (.int p2), .val (.int p3), .val (.int p4), .val (.int p5), .val (.ref b144)] [(.ref b179)])) t → Steps p.tables e below (s₁.setTop (entryFrame m #[(.int p1), (.int p2), (.int p3), (.int p4), (.int p5)] 6)) t := fun t kt => k178 t (st179 t kt)
          have k191 : ∀ t, Steps p.tables e below (T179.setTop (mkF m 101 #[.val (.int p1), .val (.int p2), .val (.int p3), .val (.int p4), .val (.int p5), .val (.ref b144)] [(.ref b144), (.ref b179), (.ref b179)])) t → Steps p.tables e below (s₁.setTop (entryFrame m #[(.int p1), (.int p2), (.int p3), (.int p4), (.int p5)] 6)) t := by
            intro t kt
            refine k190 t ?_
            show Steps p.tables e below (T179.setTop (mkF m 98 #[.val (.int p1), .val (.int p2), .val (.int p3), .val (.int p4), .val (.int p5), .val (.ref b144)] [(.ref b179)])) t
            refine XS.dup X179.here hx rfl (hb hby d2_98) rfl rfl ?_
            show Steps p.tables e below (T179.setTop (mkF m 99 #[.val (.int p1), .val (.int p2), .val (.int p3), .val (.int p4), .val (.int p5), .val (.ref b144)] [(.ref b179), (.ref b179)])) t
            refine XS.aload X179.here hx rfl (hb hby d2_99) rfl rfl ?_
            exact kt
          obtain ⟨_, _, ⟨T192, L192, k192c, n192⟩, -, X192, ⟨Lc192, hQ192, l192, y192, z192⟩, st192⟩ := X179.specialBack hx (y := (⟨"java/lang/String", "<init>", "([C)V"⟩ : MethodName)) rfl hown (mvT hZ (hw _ (List.mem_of_getElem? (i := 12) rfl))) (mvT hZ (hw _ (List.mem_of_getElem? (i := 13) rfl))) (mvT hZ (hw _ (List.mem_of_getElem? (i := 14) rfl))) (by decide) (backOf (W := 1) (rmSi3 l Z a0 hw [] b179 b144 .null (.int (0 : Int32)) c144 cs (p2.toUInt32.toUInt16.toUInt32.toInt32) (p3.toUInt32.toUInt16.toUInt32.toInt32) (p4.toUInt32.toUInt16.toUInt32.toInt32) h179 n0 Z179 F188 F189 A179 g_b179 (Ne.symm ne181) F186 F185 hcs (by rw [own_ch p2 r2.1 (by omega)]; exact own_n255 _ r2.2) (by rw [own_ch p3 r3.1 (by omega)]; exact own_n255 _ r3.2) (by rw [own_ch p4 r4.1 (by omega)]; exact own_n255 _ r4.2)) hZ (hw _ (List.mem_of_getElem? (i := 14) rfl)) (hw _ (List.mem_of_getElem? (i := 10) rfl)) (by decide) (by decide)) (g := (mkF m 101 #[.val (.int p1), .val (.int p2), .val (.int p3), .val (.int p4), .val (.int p5), .val (.ref b144)] [(.ref b144), (.ref b179), (.ref b179)])) rfl (by rw [hml]; rfl) (Steps.refl _) (a := b179) (argsL := [(.ref b144)]) (rest := [(.ref b179)]) (lenOf own_pd4 rfl) rfl (by show 2 * 0 + _ ≤ _; exact Nat.le_of_eq rfl) (hb hby d2_101) (fun _ _ => ⟨rfl, e179, (by decide : 2 + 1 ≤ _), (by decide : 7 + 3 ≤ _)⟩)
          dsimp only [Pt.U, Pt.locs, Pt.cells, Pt.slots] at X192 l192 y192 z192 st192 hQ192
          subst l192 y192 z192
          obtain ⟨rfl, N192q, K192k, -, b192, c192k, s192z, Fv192, Fc192, A192⟩ := hQ192
          have N192 := Fr.app N171 N192q
          have g_b192 : n0 ≤ b192 := Nat.le_trans Z179 s192z
          have sz_b192 : h0.size ≤ b192 := Nat.le_trans K179.1 s192z
          have ne193 : b144 ≠ b192 := Nat.ne_of_lt (Nat.lt_of_lt_of_le F186.lt s192z)
          have ne194 : b179 ≠ b192 := Nat.ne_of_lt (Nat.lt_of_lt_of_le A179.lt s192z)
          have F195 := Safe.keep K192k (sfS F183 sf0) C184.1 F182
          have F196 := Safe.keep K192k (sfS F183 sf0) C184.1 F183
          have C197 := CHr.trans C184 (CHr.keep K192k (sfS F183 sf0) C184.1)
          have F199 := F186.keep K192k (ninS ne181 nin0)
          have F200 := A179.keep K192k
          have hk_203 := Nat.le_trans hk_187 K192k.1
          have Z204 : n0 ≤ T192.heap.size := Nat.le_trans Z179 K192k.1
          have K204 : Keep h0 T192.heap [] := K179.trans K192k (allS (Or.inr sz_b179) all0)
          have k205 : ∀ t, Steps p.tables e below (T192.setTop (mkF m 104 #[.val (.int p1), .val (.int p2), .val (.int p3), .val (.int p4), .val (.int p5), .val (.ref b144)] [(.ref b179)])) t → Steps p.tables e below (s₁.setTop (entryFrame m #[(.int p1), (.int p2), (.int p3), (.int p4), (.int p5)] 6)) t := fun t kt => k191 t (st192.trans kt)
          obtain ⟨fs, hr, hrun, hended, hRW⟩ := X192.leaveW hS0 hk_203 (v := some (.ref b179)) (fun h => by rw [Bd.returns] at h; cases h)
          refine ⟨_, _, k205 _ ?_, hrun, hended, _, _, rfl, ?_, ?_, hRW.1, hRW.2.1, hRW.2.2.1, hRW.2.2.2.mono (by decide) (by decide)⟩
          · show Steps p.tables e below (T192.setTop (mkF m 104 #[.val (.int p1), .val (.int p2), .val (.int p3), .val (.int p4), .val (.int p5), .val (.ref b144)] [(.ref b179)])) _
            jvm_step X192.here [X192.here.top, hx, (hb hby d2_104), X192.method', Bd.returns, Value.isRef, FieldType.isReference]
            first | (intro acts; rw [hr _ acts rfl rfl rfl]) | rw [hr _ _ rfl rfl rfl]
            exact Steps.refl _
          · show QStr Z p1 p2 p3 p4 p5 cs h0 n0 _ T192.heap _
            rw [own_ch p2 r2.1 (by omega)] at A192
            rw [own_ch p3 r3.1 (by omega)] at A192
            rw [own_ch p4 r4.1 (by omega)] at A192
            exact ⟨b179, b192, c192k, rfl, N192, K204, sz_b179, F200, Fv192, Fc192, own_arvT A192 hc72_141 (by first | exact fun _ _ => rfl | intro i hi; have e : (3 : Int32).toNatClampNeg = 3 := rfl; rw [e] at hi; rcases i with _ | _ | _ | _ | i <;> first | rfl | omega)⟩
          · show CHr Z own_EL s.vm s.heap T192.vm T192.heap
            rw [hh]
            exact CHr.trans C197 (CHv.at (s := s) (vm0 := s.vm) X192 hZ hEL C197.1)
        · have k206 : ∀ t, Steps p.tables e below (s₁.setTop (mkF m 106 #[.val (.int p1), .val (.int p2), .val (.int p3), .val (.int p4), .val (.int p5), .unset] [(.int (4 : Int32))])) t → Steps p.tables e below (s₁.setTop (entryFrame m #[(.int p1), (.int p2), (.int p3), (.int p4), (.int p5)] 6)) t := by
            intro t kt
            refine k142 t ?_
            show Steps p.tables e below (s₁.setTop (mkF m 72 #[.val (.int p1), .val (.int p2), .val (.int p3), .val (.int p4), .val (.int p5), .unset] [(.int (3 : Int32)), (.int p1)])) t
            refine XS.icmpYes X0.here hx rfl (pc0 := 72) (pc' := 105) rfl (hb hby d2_72) rfl (feq hc72_141).2 (by decide) (by decide) ?_
            show Steps p.tables e below (s₁.setTop (mkF m 105 #[.val (.int p1), .val (.int p2), .val (.int p3), .val (.int p4), .val (.int p5), .unset] [])) t
            refine XS.iconst X0.here hx rfl (hb hby d2_105) ?_
            exact kt
          obtain ⟨T207, h207, c207, X207, e207, E207, A207, st207⟩ := newP X0 hx hZ (hw _ (List.mem_of_getElem? (i := 11) rfl)) e0 (g := (mkF m 106 #[.val (.int p1), .val (.int p2), .val (.int p3), .val (.int p4), .val (.int p5), .unset] [(.int (4 : Int32))])) rfl (hb hby d2_106) rfl (by decide) (cap := 4) (by decide) (by decide) (by decide) (by decide)
          obtain ⟨b207, g207⟩ : ∃ z, z = h0.size := ⟨_, rfl⟩
          rw [← g207] at A207 st207
          have F208 : Safe Z own_EL s.vm h0 b207 := Safe.new (Nat.le_of_eq g207.symm)
          have g_b207 : n0 ≤ b207 := Nat.le_trans Z0 (Nat.le_of_eq g207.symm)
          have sz_b207 : h0.size ≤ b207 := Nat.le_trans K0.1 (Nat.le_of_eq g207.symm)
          have F209 := Safe.ext E207 C0.1 F208
          have C210 := CHr.trans C0 (CHr.ext E207 C0.1)
          have F211 := SC.ext E207
          have hk_212 := Nat.le_trans hk0 E207.1
          have Z207 : n0 ≤ h207.size := Nat.le_trans Z0 E207.1
          have K207 : Keep h0 h207 [] := K0.ext E207
          have F213 : Arv Z h207 b207 c207 .char (4 : Int32) [(.int (0 : Int32)), (.int (0 : Int32)), (.int (0 : Int32)), (.int (0 : Int32))] (.int (0 : Int32)) := (Arv.new A207 (by decide)).pad (pad_rep [] (.int (0 : Int32)) 4)
          have k214 : ∀ t, Steps p.tables e below (T207.setTop (mkF m 108 #[.val (.int p1), .val (.int p2), .val (.int p3), .val (.int p4), .val (.int p5), .unset] [(.ref b207)])) t → Steps p.tables e below (s₁.setTop (entryFrame m #[(.int p1), (.int p2), (.int p3), (.int p4), (.int p5)] 6)) t := fun t kt => k206 t (st207 t kt)
          have k215 : ∀ t, Steps p.tables e below (T207.setTop (mkF m 114 #[.val (.int p1), .val (.int p2), .val (.int p3), .val (.int p4), .val (.int p5), .val (.ref b207)] [(.int p2), (.int (0 : Int32)), (.ref b207)])) t → Steps p.tables e below (s₁.setTop (entryFrame m #[(.int p1), (.int p2), (.int p3), (.int p4), (.int p5)] 6)) t := by
            intro t kt
            refine k214 t ?_
            show Steps p.tables e below (T207.setTop (mkF m 108 #[.val (.int p1), .val (.int p2), .val (.int p3), .val (.int p4), .val (.int p5), .unset] [(.ref b207)])) t
            refine XS.astore X207.here hx rfl (hb hby d2_108) rfl rfl (l' := #[.val (.int p1), .val (.int p2), .val (.int p3), .val (.int p4), .val (.int p5), .val (.ref b207)]) rfl ?_
            show Steps p.tables e below (T207.setTop (mkF m 110 #[.val (.int p1), .val (.int p2), .val (.int p3), .val (.int p4), .val (.int p5), .val (.ref b207)] [])) t
            refine XS.aload X207.here hx rfl (hb hby d2_110) rfl rfl ?_
            show Steps p.tables e below (T207.setTop (mkF m 112 #[.val (.int p1), .val (.int p2), .val (.int p3), .val (.int p4), .val (.int p5), .val (.ref b207)] [(.ref b207)])) t
            refine XS.iconst X207.here hx rfl (hb hby d2_112) ?_
            show Steps p.tables e below (T207.setTop (mkF m 113 #[.val (.int p1), .val (.int p2), .val (.int p3), .val (.int p4), .val (.int p5), .val (.ref b207)] [(.int (0 : Int32)), (.ref b207)])) t
            refine XS.iloadN X207.here hx rfl (hb hby d2_113) rfl ?_
            exact kt
          obtain ⟨cl216, Ar216, q216, S216, M216, H216, G216⟩ := id F213
          have hin216 : ¬ ((0 : Int32) < 0 ∨ cl216.slots.size ≤ ((0 : Int32)).toNatClampNeg) := inb_of S216 ⟨by decide, by decide⟩
          obtain ⟨T216, h216, X216, e216, W216, st216⟩ := stC X207 hx hZ e207 Ar216 (j := (0 : Int32)) hin216 (g := (mkF m 114 #[.val (.int p1), .val (.int p2), .val (.int p3), .val (.int p4), .val (.int p5), .val (.ref b207)] [(.int p2), (.int (0 : Int32)), (.ref b207)])) rfl rfl (hb hby d2_114)
          have F217 : Arv Z h216 b207 c207 .char (4 : Int32) [(.int (p2.toUInt32.toUInt16.toUInt32.toInt32)), (.int (0 : Int32)), (.int (0 : Int32)), (.int (0 : Int32))] (.int (0 : Int32)) := Arv.set Ar216 q216 S216 M216 H216 G216 (fits_nar_char _) W216 0 rfl (Nat.le_of_ble_eq_true rfl)
          have F218 := Safe.wr W216 F209 C210.1 F209
          have C219 := CHr.trans C210 (CHr.wr W216 F209 C210.1)
          have F220 := F211.wr W216
          have hk_222 := Nat.le_trans hk_212 (Keep.of_wr W216).1
          have Z216 : n0 ≤ h216.size := Nat.le_trans Z207 (Keep.of_wr W216).1
          have K216 : Keep h0 h216 [] := K207.wr W216 (Or.inr sz_b207)
          have N216 := Fr.snoc X216 N0 g_b207
          have k223 : ∀ t, Steps p.tables e below (T216.setTop (mkF m 115 #[.val (.int p1), .val (.int p2), .val (.int p3), .val (.int p4), .val (.int p5), .val (.ref b207)] [])) t → Steps p.tables e below (s₁.setTop (entryFrame m #[(.int p1), (.int p2), (.int p3), (.int p4), (.int p5)] 6)) t := fun t kt => k215 t (st216 t kt)
          have k224 : ∀ t, Steps p.tables e below (T216.setTop (mkF m 119 #[.val (.int p1), .val (.int p2), .val (.int p3), .val (.int p4), .val (.int p5), .val (.ref b207)] [(.int p3), (.int (1 : Int32)), (.ref b207)])) t → Steps p.tables e below (s₁.setTop (entryFrame m #[(.int p1), (.int p2), (.int p3), (.int p4), (.int p5)] 6)) t := by
            intro t kt
            refine k223 t ?_
            show Steps p.tables e below (T216.setTop (mkF m 115 #[.val (.int p1), .val (.int p2), .val (.int p3), .val (.int p4), .val (.int p5), .val (.ref b207)] [])) t
            refine XS.aload X216.here hx rfl (hb hby d2_115) rfl rfl ?_
            show Steps p.tables e below (T216.setTop (mkF m 117 #[.val (.int p1), .val (.int p2), .val (.int p3), .val (.int p4), .val (.int p5), .val (.ref b207)] [(.ref b207)])) t
            refine XS.iconst X216.here hx rfl (hb hby d2_117) ?_
            show Steps p.tables e below (T216.setTop (mkF m 118 #[.val (.int p1), .val (.int p2), .val (.int p3), .val (.int p4), .val (.int p5), .val (.ref b207)] [(.int (1 : Int32)), (.ref b207)])) t
            refine XS.iloadN X216.here hx rfl (hb hby d2_118) rfl ?_
            exact kt
          obtain ⟨cl225, Ar225, q225, S225, M225, H225, G225⟩ := id F217
          have hin225 : ¬ ((1 : Int32) < 0 ∨ cl225.slots.size ≤ ((1 : Int32)).toNatClampNeg) := inb_of S225 ⟨by decide, by decide⟩
          obtain ⟨T225, h225, X225, e225, W225, st225⟩ := stC X216 hx hZ e216 Ar225 (j := (1 : Int32)) hin225 (g := (mkF m 119 #[.val (.int p1), .val (.int p2), .val (.int p3), .val (.int p4), .val (.int p5), .val (.ref b207)] [(.int p3), (.int (1 : Int32)), (.ref b207)])) rfl rfl (hb hby d2_119)
          have F226 : Arv Z h225 b207 c207 .char (4 : Int32) [(.int (p2.toUInt32.toUInt16.toUInt32.toInt32)), (.int (p3.toUInt32.toUInt16.toUInt32.toInt32)), (.int (0 : Int32)), (.int (0 : Int32))] (.int (0 : Int32)) := Arv.set Ar225 q225 S225 M225 H225 G225 (fits_nar_char _) W225 1 rfl (Nat.le_of_ble_eq_true rfl)
          have F227 := Safe.wr W225 F218 C219.1 F218
          have C228 := CHr.trans C219 (CHr.wr W225 F218 C219.1)
          have F229 := F220.wr W225
          have hk_231 := Nat.le_trans hk_222 (Keep.of_wr W225).1
          have Z225 : n0 ≤ h225.size := Nat.le_trans Z216 (Keep.of_wr W225).1
          have K225 : Keep h0 h225 [] := K216.wr W225 (Or.inr sz_b207)
          have N225 := Fr.snoc X225 N216 g_b207
          have k232 : ∀ t, Steps p.tables e below (T225.setTop (mkF m 120 #[.val (.int p1), .val (.int p2), .val (.int p3), .val (.int p4), .val (.int p5), .val (.ref b207)] [])) t → Steps p.tables e below (s₁.setTop (entryFrame m #[(.int p1), (.int p2), (.int p3), (.int p4), (.int p5)] 6)) t := fun t kt => k224 t (st225 t kt)
          have k233 : ∀ t, Steps p.tables e below (T225.setTop (mkF m 124 #[.val (.int p1), .val (.int p2), .val (.int p3), .val (.int p4), .val (.int p5), .val (.ref b207)] [(.int p4), (.int (2 : Int32)), (.ref b207)])) t → Steps p.tables e below (s₁.setTop (entryFrame m #[(.int p1), (.int p2), (.int p3), (.int p4), (.int p5)] 6)) t := by
            intro t kt
            refine k232 t ?_
            show Steps p.tables e below (T225.setTop (mkF m 120 #[.val (.int p1), .val (.int p2), .val (.int p3), .val (.int p4), .val (.int p5), .val (.ref b207)] [])) t
            refine XS.aload X225.here hx rfl (hb hby d2_120) rfl rfl ?_
            show Steps p.tables e below (T225.setTop (mkF m 122 #[.val (.int p1), .val (.int p2), .val (.int p3), .val (.int p4), .val (.int p5), .val (.ref b207)] [(.ref b207)])) t
            refine XS.iconst X225.here hx rfl (hb hby d2_122) ?_
            show Steps p.tables e below (T225.setTop (mkF m 123 #[.val (.int p1), .val (.int p2), .val (.int p3), .val (.int p4), .val (.int p5), .val (.ref b207)] [(.int (2 : Int32)), (.ref b207)])) t
            refine XS.iloadN X225.here hx rfl (hb hby d2_123) rfl ?_
            exact kt
          obtain ⟨cl234, Ar234, q234, S234, M234, H234, G234⟩ := id F226
          have hin234 : ¬ ((2 : Int32) < 0 ∨ cl234.slots.size ≤ ((2 : Int32)).toNatClampNeg) := inb_of S234 ⟨by decide, by decide⟩
          obtain ⟨T234, h234, X234, e234, W234, st234⟩ := stC X225 hx hZ e225 Ar234 (j := (2 : Int32)) hin234 (g := (mkF m 124 #[.val (.int p1), .val (.int p2), .val (.int p3), .val (.int p4), .val (.int p5), .val (.ref b207)] [(.int p4), (.int (2 : Int32)), (.ref b207)])) rfl rfl (hb hby d2_124)
          have F235 : Arv Z h234 b207 c207 .char (4 : Int32) [(.int (p2.toUInt32.toUInt16.toUInt32.toInt32)), (.int (p3.toUInt32.toUInt16.toUInt32.toInt32)), (.int (p4.toUInt32.toUInt16.toUInt32.toInt32)), (.int (0 : Int32))] (.int (0 : Int32)) := Arv.set Ar234 q234 S234 M234 H234 G234 (fits_nar_char _) W234 2 rfl (Nat.le_of_ble_eq_true rfl)
          have F236 := Safe.wr W234 F227 C228.1 F227
          have C237 := CHr.trans C228 (CHr.wr W234 F227 C228.1)
          have F238 := F229.wr W234
          have hk_240 := Nat.le_trans hk_231 (Keep.of_wr W234).1
          have Z234 : n0 ≤ h234.size := Nat.le_trans Z225 (Keep.of_wr W234).1
          have K234 : Keep h0 h234 [] := K225.wr W234 (Or.inr sz_b207)
          have N234 := Fr.snoc X234 N225 g_b207
          have k241 : ∀ t, Steps p.tables e below (T234.setTop (mkF m 125 #[.val (.int p1), .val (.int p2), .val (.int p3), .val (.int p4), .val (.int p5), .val (.ref b207)] [])) t → Steps p.tables e below (s₁.setTop (entryFrame m #[(.int p1), (.int p2), (.int p3), (.int p4), (.int p5)] 6)) t := fun t kt => k233 t (st234 t kt)
          have k242 : ∀ t, Steps p.tables e below (T234.setTop (mkF m 130 #[.val (.int p1), .val (.int p2), .val (.int p3), .val (.int p4), .val (.int p5), .val (.ref b207)] [(.int p5), (.int (3 : Int32)), (.ref b207)])) t → Steps p.tables e below (s₁.setTop (entryFrame m #[(.int p1), (.int p2), (.int p3), (.int p4), (.int p5)] 6)) t := by
            intro t kt
            refine k241 t ?_
            show Steps p.tables e below (T234.setTop (mkF m 125 #[.val (.int p1), .val (.int p2), .val (.int p3), .val (.int p4), .val (.int p5), .val (.ref b207)] [])) t
            refine XS.aload X234.here hx rfl (hb hby d2_125) rfl rfl ?_
            show Steps p.tables e below (T234.setTop (mkF m 127 #[.val (.int p1), .val (.int p2), .val (.int p3), .val (.int p4), .val (.int p5), .val (.ref b207)] [(.ref b207)])) t
            refine XS.iconst X234.here hx rfl (hb hby d2_127) ?_
            show Steps p.tables e below (T234.setTop (mkF m 128 #[.val (.int p1), .val (.int p2), .val (.int p3), .val (.int p4), .val (.int p5), .val (.ref b207)] [(.int (3 : Int32)), (.ref b207)])) t
            refine XS.iload X234.here hx rfl (hb hby d2_128) rfl ?_
            exact kt
          obtain ⟨cl243, Ar243, q243, S243, M243, H243, G243⟩ := id F235
          have hin243 : ¬ ((3 : Int32) < 0 ∨ cl243.slots.size ≤ ((3 : Int32)).toNatClampNeg) := inb_of S243 ⟨by decide, by decide⟩
          obtain ⟨T243, h243, X243, e243, W243, st243⟩ := stC X234 hx hZ e234 Ar243 (j := (3 : Int32)) hin243 (g := (mkF m 130 #[.val (.int p1), .val (.int p2), .val (.int p3), .val (.int p4), .val (.int p5), .val (.ref b207)] [(.int p5), (.int (3 : Int32)), (.ref b207)])) rfl rfl (hb hby d2_130)
          have F244 : Arv Z h243 b207 c207 .char (4 : Int32) [(.int (p2.toUInt32.toUInt16.toUInt32.toInt32)), (.int (p3.toUInt32.toUInt16.toUInt32.toInt32)), (.int (p4.toUInt32.toUInt16.toUInt32.toInt32)), (.int (p5.toUInt32.toUInt16.toUInt32.toInt32))] (.int (0 : Int32)) := Arv.set Ar243 q243 S243 M243 H243 G243 (fits_nar_char _) W243 3 rfl (Nat.le_of_ble_eq_true rfl)
          have F245 := Safe.wr W243 F236 C237.1 F236
          have C246 := CHr.trans C237 (CHr.wr W243 F236 C237.1)
          have F247 := F238.wr W243
          have hk_249 := Nat.le_trans hk_240 (Keep.of_wr W243).1
          have Z243 : n0 ≤ h243.size := Nat.le_trans Z234 (Keep.of_wr W243).1
          have K243 : Keep h0 h243 [] := K234.wr W243 (Or.inr sz_b207)
          have N243 := Fr.snoc X243 N234 g_b207
          have k250 : ∀ t, Steps p.tables e below (T243.setTop (mkF m 131 #[.val (.int p1), .val (.int p2), .val (.int p3), .val (.int p4), .val (.int p5), .val (.ref b207)] [])) t → Steps p.tables e below (s₁.setTop (entryFrame m #[(.int p1), (.int p2), (.int p3), (.int p4), (.int p5)] 6)) t := fun t kt => k242 t (st243 t kt)
          obtain ⟨T251, h251, X251, e251, E251, A251, D251, -, st251⟩ := newO X243 hx hZ hown (hw _ (List.mem_of_getElem? (i := 8) rfl)) (hw _ (List.mem_of_getElem? (i := 9) rfl)) (hw _ (List.mem_of_getElem? (i := 10) rfl)) e243 (g := (mkF m 131 #[.val (.int p1), .val (.int p2), .val (.int p3), .val (.int p4), .val (.int p5), .val (.ref b207)] [])) rfl (hb hby d2_131) (by decide) (by decide)
          obtain ⟨b251, g251⟩ : ∃ z, z = h243.size := ⟨_, rfl⟩
          rw [← g251] at A251 D251 st251
          have F252 : Safe Z own_EL s.vm h243 b251 := Safe.new (Nat.le_of_eq g251.symm)
          have g_b251 : n0 ≤ b251 := Nat.le_trans Z243 (Nat.le_of_eq g251.symm)
          have sz_b251 : h0.size ≤ b251 := Nat.le_trans K243.1 (Nat.le_of_eq g251.symm)
          have ne253 : b207 ≠ b251 := Nat.ne_of_lt (Nat.lt_of_lt_of_le F244.lt (Nat.le_of_eq g251.symm))
          have F254 := Safe.ext E251 C246.1 F245
          have F255 := Safe.ext E251 C246.1 F252
          have C256 := CHr.trans C246 (CHr.ext E251 C246.1)
          have F257 := F247.ext E251
          have F258 := F244.ext E251
          have hk_259 := Nat.le_trans hk_249 E251.1
          have Z251 : n0 ≤ h251.size := Nat.le_trans Z243 E251.1
          have K251 : Keep h0 h251 [] := K243.ext E251
          have F260 : Fld Z h251 b251 "java/lang/String" "value" "[B" .null := D251 (Or.inr (hw _ (List.mem_of_getElem? (i := 24) rfl))) (ty := (.array .byte)) (by decide)
          have F261 : Fld Z h251 b251 "java/lang/String" "coder" "B" (.int (0 : Int32)) := D251 (Or.inr (hw _ (List.mem_of_getElem? (i := 25) rfl))) (ty := .byte) (by decide)
          have k262 : ∀ t, Steps p.tables e below (T251.setTop (mkF m 134 #[.val (.int p1), .val (.int p2), .val (.int p3), .val (.int p4), .val (.int p5), .val (.ref b207)] [(.ref b251)])) t → Steps p.tables e below (s₁.setTop (entryFrame m #[(.int p1), (.int p2), (.int p3), (.int p4), (.int p5)] 6)) t := fun t kt => k250 t (st251 t kt)
          have k263 : ∀ t, Steps p.tables e below (T251.setTop (mkF m 137 #[.val (.int p1), .val (.int p2), .val (.int p3), .val (.int p4), .val (.int p5), .val (.ref b207)] [(.ref b207), (.ref b251), (.ref b251)])) t → Steps p.tables e below (s₁.setTop (entryFrame m #[(.int p1), (.int p2), (.int p3), (.int p4), (.int p5)] 6)) t := by
            intro t kt
            refine k262 t ?_
            show Steps p.tables e below (T251.setTop (mkF m 134 #[.val (.int p1), .val (.int p2), .val (.int p3), .val (.int p4), .val (.int p5), .val (.ref b207)] [(.ref b251)])) t
            refine XS.dup X251.here hx rfl (hb hby d2_134) rfl rfl ?_
            show Steps p.tables e below (T251.setTop (mkF m 135 #[.val (.int p1), .val (.int p2), .val (.int p3), .val (.int p4), .val (.int p5), .val (.ref b207)] [(.ref b251), (.ref b251)])) t
            refine XS.aload X251.here hx rfl (hb hby d2_135) rfl rfl ?_
            exact kt
          obtain ⟨_, _, ⟨T264, L264, k264c, n264⟩, -, X264, ⟨Lc264, hQ264, l264, y264, z264⟩, st264⟩ := X251.specialBack hx (y := (⟨"java/lang/String", "<init>", "([C)V"⟩ : MethodName)) rfl hown (mvT hZ (hw _ (List.mem_of_getElem? (i := 12) rfl))) (mvT hZ (hw _ (List.mem_of_getElem? (i := 13) rfl))) (mvT hZ (hw _ (List.mem_of_getElem? (i := 14) rfl))) (by decide) (backOf (W := 1) (rmSi4 l Z a0 hw [] b251 b207 .null (.int (0 : Int32)) c207 cs (p2.toUInt32.toUInt16.toUInt32.toInt32) (p3.toUInt32.toUInt16.toUInt32.toInt32) (p4.toUInt32.toUInt16.toUInt32.toInt32) (p5.toUInt32.toUInt16.toUInt32.toInt32) h251 n0 Z251 F260 F261 A251 g_b251 (Ne.symm ne253) F258 F257 hcs (by rw [own_ch p2 r2.1 (by omega)]; exact own_n255 _ r2.2) (by rw [own_ch p3 r3.1 (by omega)]; exact own_n255 _ r3.2) (by rw [own_ch p4 r4.1 (by omega)]; exact own_n255 _ r4.2) (by rw [own_ch p5 r5.1 (by omega)]; exact own_n255 _ r5.2)) hZ (hw _ (List.mem_of_getElem? (i := 14) rfl)) (hw _ (List.mem_of_getElem? (i := 10) rfl)) (by decide) (by decide)) (g := (mkF m 137 #[.val (.int p1), .val (.int p2), .val (.int p3), .val (.int p4), .val (.int p5), .val (.ref b207)] [(.ref b207), (.ref b251), (.ref b251)])) rfl (by rw [hml]; rfl) (Steps.refl _) (a := b251) (argsL := [(.ref b207)]) (rest := [(.ref b251)]) (lenOf own_pd4 rfl) rfl (by show 2 * 0 + _ ≤ _; exact Nat.le_of_eq rfl) (hb hby d2_137) (fun _ _ => ⟨rfl, e251, (by decide : 2 + 1 ≤ _), (by decide : 8 + 4 ≤ _)⟩)
          dsimp only [Pt.U, Pt.locs, Pt.cells, Pt.slots] at X264 l264 y264 z264 st264 hQ264
          subst l264 y264 z264
          obtain ⟨rfl, N264q, K264k, -, b264, c264k, s264z, Fv264, Fc264, A264⟩ := hQ264
          have N264 := Fr.app N243 N264q
          have g_b264 : n0 ≤ b264 := Nat.le_trans Z251 s264z
          have sz_b264 : h0.size ≤ b264 := Nat.le_trans K251.1 s264z
          have ne265 : b207 ≠ b264 := Nat.ne_of_lt (Nat.lt_of_lt_of_le F258.lt s264z)
          have ne266 : b251 ≠ b264 := Nat.ne_of_lt (Nat.lt_of_lt_of_le A251.lt s264z)
          have F267 := Safe.keep K264k (sfS F255 sf0) C256.1 F254
          have F268 := Safe.keep K264k (sfS F255 sf0) C256.1 F255
          have C269 := CHr.trans C256 (CHr.keep K264k (sfS F255 sf0) C256.1)
          have F271 := F258.keep K264k (ninS ne253 nin0)
          have F272 := A251.keep K264k
          have hk_275 := Nat.le_trans hk_259 K264k.1
          have Z276 : n0 ≤ T264.heap.size := Nat.le_trans Z251 K264k.1
          have K276 : Keep h0 T264.heap [] := K251.trans K264k (allS (Or.inr sz_b251) all0)
          have k277 : ∀ t, Steps p.tables e below (T264.setTop (mkF m 140 #[.val (.int p1), .val (.int p2), .val (.int p3), .val (.int p4), .val (.int p5), .val (.ref b207)] [(.ref b251)])) t → Steps p.tables e below (s₁.setTop (entryFrame m #[(.int p1), (.int p2), (.int p3), (.int p4), (.int p5)] 6)) t := fun t kt => k263 t (st264.trans kt)
          obtain ⟨fs, hr, hrun, hended, hRW⟩ := X264.leaveW hS0 hk_275 (v := some (.ref b251)) (fun h => by rw [Bd.returns] at h; cases h)
          refine ⟨_, _, k277 _ ?_, hrun, hended, _, _, rfl, ?_, ?_, hRW.1, hRW.2.1, hRW.2.2.1, hRW.2.2.2.mono (by decide) (by decide)⟩
          · show Steps p.tables e below (T264.setTop (mkF m 140 #[.val (.int p1), .val (.int p2), .val (.int p3), .val (.int p4), .val (.int p5), .val (.ref b207)] [(.ref b251)])) _
            jvm_step X264.here [X264.here.top, hx, (hb hby d2_140), X264.method', Bd.returns, Value.isRef, FieldType.isReference]
            first | (intro acts; rw [hr _ acts rfl rfl rfl]) | rw [hr _ _ rfl rfl rfl]
            exact Steps.refl _
          · show QStr Z p1 p2 p3 p4 p5 cs h0 n0 _ T264.heap _
            rw [own_ch p2 r2.1 (by omega)] at A264
            rw [own_ch p3 r3.1 (by omega)] at A264
            rw [own_ch p4 r4.1 (by omega)] at A264
            rw [own_ch p5 r5.1 (by omega)] at A264
            have hp4 : p1 = (4 : Int32) := by rcases hp with q | q | q | q | q <;> first | exact q | exact absurd q (by assumption)
            exact ⟨b251, b264, c264k, rfl, N264, K276, sz_b251, F272, Fv264, Fc264, own_arvT A264 hp4 (by first | exact fun _ _ => rfl | intro i hi; have e : (4 : Int32).toNatClampNeg = 4 := rfl; rw [e] at hi; rcases i with _ | _ | _ | _ | i <;> first | rfl | omega)⟩
          · show CHr Z own_EL s.vm s.heap T264.vm T264.heap
            rw [hh]
            exact CHr.trans C269 (CHv.at (s := s) (vm0 := s.vm) X264 hZ hEL C269.1)
theorem d8_0 : decode jdk_43_method_13_code 0 = .ok (.aload_n 0, 1) := by decide +kernel
theorem d8_1 : decode jdk_43_method_13_code 1 = .ok (.arraylength, 1) := by decide +kernel
theorem d8_2 : decode jdk_43_method_13_code 2 = .ok (.aload_n 1, 1) := by decide +kernel
theorem d8_3 : decode jdk_43_method_13_code 3 = .ok (.arraylength, 1) := by decide +kernel
theorem d8_4 : decode jdk_43_method_13_code 4 = .ok (.if_icmp .ne 30, 3) := by decide +kernel
theorem d8_7 : decode jdk_43_method_13_code 7 = .ok (.iconst 0, 1) := by decide +kernel
theorem d8_8 : decode jdk_43_method_13_code 8 = .ok (.istore_n 2, 1) := by decide +kernel
theorem d8_9 : decode jdk_43_method_13_code 9 = .ok (.iload_n 2, 1) := by decide +kernel
theorem d8_10 : decode jdk_43_method_13_code 10 = .ok (.aload_n 0, 1) := by decide +kernel
theorem d8_11 : decode jdk_43_method_13_code 11 = .ok (.arraylength, 1) := by decide +kernel
theorem d8_12 : decode jdk_43_method_13_code 12 = .ok (.if_icmp .ge 20, 3) := by decide +kernel
theorem d8_15 : decode jdk_43_method_13_code 15 = .ok (.aload_n 0, 1) := by decide +kernel
theorem d8_16 : decode jdk_43_method_13_code 16 = .ok (.iload_n 2, 1) := by decide +kernel
theorem d8_17 : decode jdk_43_method_13_code 17 = .ok (.baload, 1) := by decide +kernel
theorem d8_18 : decode jdk_43_method_13_code 18 = .ok (.aload_n 1, 1) := by decide +kernel
theorem d8_19 : decode jdk_43_method_13_code 19 = .ok (.iload_n 2, 1) := by decide +kernel
theorem d8_20 : decode jdk_43_method_13_code 20 = .ok (.baload, 1) := by decide +kernel
theorem d8_21 : decode jdk_43_method_13_code 21 = .ok (.if_icmp .eq 5, 3) := by decide +kernel
theorem d8_24 : decode jdk_43_method_13_code 24 = .ok (.iconst 0, 1) := by decide +kernel
theorem d8_25 : decode jdk_43_method_13_code 25 = .ok (.ireturn, 1) := by decide +kernel
theorem d8_26 : decode jdk_43_method_13_code 26 = .ok (.iinc 2 1, 3) := by decide +kernel
theorem d8_29 : decode jdk_43_method_13_code 29 = .ok (.goto (-20), 3) := by decide +kernel
theorem d8_32 : decode jdk_43_method_13_code 32 = .ok (.iconst 1, 1) := by decide +kernel
theorem d8_33 : decode jdk_43_method_13_code 33 = .ok (.ireturn, 1) := by decide +kernel
theorem d8_34 : decode jdk_43_method_13_code 34 = .ok (.iconst 0, 1) := by decide +kernel
theorem d8_35 : decode jdk_43_method_13_code 35 = .ok (.ireturn, 1) := by decide +kernel
theorem own_pn3 : plainName "java/lang/StringLatin1" = true := by first | (simp [plainName, overriddenIn]; done) | decide +kernel
theorem rmL_ef (m : MethodId) (x0 : Addr) (x1 : Addr) : entryFrame m #[(.ref x0), (.ref x1)] 3 = mkF m 0 #[.val (.ref x0), .val (.ref x1), .unset] [] := by first | (simp [entryFrame, mkF, argsToLocals, Value.category]; done) | rfl
def QL (Z : State) (bt : Addr) (bo : Addr) (n : Int32) (by0 : Int32) (by1 : Int32) (by2 : Int32) (by3 : Int32) (x : Int32) (y : Int32) (z : Int32) (kct : ClassId) (ko : ClassId) (h0 : Heap) (n0 : Nat) (v : Option Value) (h : Heap) (L : List Loc) : Prop := v = some (.int (own_e n by0 by1 by2 x y z)) ∧ Fr n0 L ∧ h = h0
set_option maxRecDepth 65536 in
set_option maxHeartbeats 40000000 in
theorem rmL (l : Launch) (Z : State) (a0 : Array Value) (hw : ∀ d ∈ tables_1, d.before a0 Z = true) (ws : List Jvm.Cond) (bt : Addr) (bo : Addr) (n : Int32) (by0 : Int32) (by1 : Int32) (by2 : Int32) (by3 : Int32) (x : Int32) (y : Int32) (z : Int32) (kct : ClassId) (ko : ClassId) (h0 : Heap) (n0 : Nat) (Z0 : n0 ≤ h0.size) (At : Arv Z h0 bt kct .byte n [(.int by0), (.int by1), (.int by2), (.int by3)] (.int (0 : Int32))) (Ao : Arv Z h0 bo ko .byte (3 : Int32) [(.int x), (.int y), (.int z)] (.int (0 : Int32))) :
    MetFree l (⟨"java/lang/StringLatin1", "equals", "([B[B)Z"⟩ : MethodName) (head1 (Jvm.Cond.code (⟨"java/lang/StringLatin1", "equals", "([B[B)Z"⟩ : MethodName) jdk_43_method_13_code 3 (some .boolean) :: ws) ({ frames := 0, cells := 0, slots := 0, locals := 0 } : Room)) (fun aA' U => aA' = #[(.ref bt), (.ref bo)] ∧ Z.Warmed39 U.vm ∧ U.heap = h0) (fun _ _ _ _ _ => True) (fun _ U oO' U' => ∃ vV' L, oO' = .returned vV' ∧ QL Z bt bo n by0 by1 by2 by3 x y z kct ko h0 n0 vV' U'.heap L ∧ FrameEnd U oO' U' L ({ frames := 0, cells := 0, slots := 0, locals := 0 } : Room).cells ({ frames := 0, cells := 0, slots := 0, locals := 0 } : Room).slots) := by
  refine MetFree.of_bodySF (plainFor_of_name own_pn3) hisR ?_
  intro p e s m args below meth c s₁ Bd hml0 hP hK
  obtain ⟨rfl, hZ, hh⟩ := hP
  have hx := Bd.exec
  have hby := Bd.bytes
  have hml : c.maxLocals = 3 := hml0
  have hown : s.vm.findClass "java/lang/StringLatin1" = some m.cls := findClass_of_methodNamed Bd.named
  have hnm := (name_of_methodNamed Bd.named Bd.method).1
  have X0 : Stand p l e ({ frames := 0, cells := 0, slots := 0, locals := 0 } : Room) s m #[(.ref bt), (.ref bo)] below meth c s₁ [] 0 0 := Stand.of_body Bd
  have e0 : s₁.heap = h0 := by rw [← hh, Bd.state]; rfl
  have N0 := Fr.nil n0
  have K0 : Keep h0 h0 [] := Keep.refl _ _
  have k0 : ∀ t, Steps p.tables e below (s₁.setTop (mkF m 0 #[.val (.ref bt), .val (.ref bo), .unset] [])) t → Steps p.tables e below (s₁.setTop (entryFrame m #[(.ref bt), (.ref bo)] 3)) t := fun t k => castTop (rmL_ef m (bt) (bo)) k
  have k1 : ∀ t, Steps p.tables e below (s₁.setTop (mkF m 1 #[.val (.ref bt), .val (.ref bo), .unset] [(.ref bt)])) t → Steps p.tables e below (s₁.setTop (entryFrame m #[(.ref bt), (.ref bo)] 3)) t := by
    intro t kt
    refine k0 t ?_
    show Steps p.tables e below (s₁.setTop (mkF m 0 #[.val (.ref bt), .val (.ref bo), .unset] [])) t
    refine XS.aloadN X0.here hx rfl (hb hby d8_0) rfl rfl ?_
    exact kt
  obtain ⟨cl2, Ar2, -, S2, M2, -, -⟩ := id At
  have k3 : ∀ t, Steps p.tables e below (s₁.setTop (mkF m 2 #[.val (.ref bt), .val (.ref bo), .unset] [(.int n)])) t → Steps p.tables e below (s₁.setTop (entryFrame m #[(.ref bt), (.ref bo)] 3)) t := fun t kt => k1 t (X0.arraylength hx (by rw [e0]; exact Ar2.1) (State.isArrayOf_alike hZ.alike Ar2.2.1) (g := (mkF m 1 #[.val (.ref bt), .val (.ref bo), .unset] [(.ref bt)])) rfl rfl (hb hby d8_1) t (by rw [len_of S2 M2]; exact kt))
  have k4 : ∀ t, Steps p.tables e below (s₁.setTop (mkF m 3 #[.val (.ref bt), .val (.ref bo), .unset] [(.ref bo), (.int n)])) t → Steps p.tables e below (s₁.setTop (entryFrame m #[(.ref bt), (.ref bo)] 3)) t := by
    intro t kt
    refine k3 t ?_
    show Steps p.tables e below (s₁.setTop (mkF m 2 #[.val (.ref bt), .val (.ref bo), .unset] [(.int n)])) t
    refine XS.aloadN X0.here hx rfl (hb hby d8_2) rfl rfl ?_
    exact kt
  obtain ⟨cl5, Ar5, -, S5, M5, -, -⟩ := id Ao
  have k6 : ∀ t, Steps p.tables e below (s₁.setTop (mkF m 4 #[.val (.ref bt), .val (.ref bo), .unset] [(.int (3 : Int32)), (.int n)])) t → Steps p.tables e below (s₁.setTop (entryFrame m #[(.ref bt), (.ref bo)] 3)) t := fun t kt => k4 t (X0.arraylength hx (by rw [e0]; exact Ar5.1) (State.isArrayOf_alike hZ.alike Ar5.2.1) (g := (mkF m 3 #[.val (.ref bt), .val (.ref bo), .unset] [(.ref bo), (.int n)])) rfl rfl (hb hby d8_3) t (by rw [len_of S5 M5]; exact kt))
  by_cases hc4_7 : n = (3 : Int32)
  · have k8 : ∀ t, Steps p.tables e below (s₁.setTop (mkF m 11 #[.val (.ref bt), .val (.ref bo), .val (.int (0 : Int32))] [(.ref bt), (.int (0 : Int32))])) t → Steps p.tables e below (s₁.setTop (entryFrame m #[(.ref bt), (.ref bo)] 3)) t := by
      intro t kt
      refine k6 t ?_
      show Steps p.tables e below (s₁.setTop (mkF m 4 #[.val (.ref bt), .val (.ref bo), .unset] [(.int (3 : Int32)), (.int n)])) t
      refine XS.icmpNo X0.here hx rfl (hb hby d8_4) rfl (teq hc4_7).2 ?_
      show Steps p.tables e below (s₁.setTop (mkF m 7 #[.val (.ref bt), .val (.ref bo), .unset] [])) t
      refine XS.iconst X0.here hx rfl (hb hby d8_7) ?_
      show Steps p.tables e below (s₁.setTop (mkF m 8 #[.val (.ref bt), .val (.ref bo), .unset] [(.int (0 : Int32))])) t
      refine XS.istoreN X0.here hx rfl (hb hby d8_8) rfl (l' := #[.val (.ref bt), .val (.ref bo), .val (.int (0 : Int32))]) rfl ?_
      show Steps p.tables e below (s₁.setTop (mkF m 9 #[.val (.ref bt), .val (.ref bo), .val (.int (0 : Int32))] [])) t
      refine XS.iloadN X0.here hx rfl (hb hby d8_9) rfl ?_
      show Steps p.tables e below (s₁.setTop (mkF m 10 #[.val (.ref bt), .val (.ref bo), .val (.int (0 : Int32))] [(.int (0 : Int32))])) t
      refine XS.aloadN X0.here hx rfl (hb hby d8_10) rfl rfl ?_
      exact kt
    obtain ⟨cl9, Ar9, -, S9, M9, -, -⟩ := id At
    have k10 : ∀ t, Steps p.tables e below (s₁.setTop (mkF m 12 #[.val (.ref bt), .val (.ref bo), .val (.int (0 : Int32))] [(.int n), (.int (0 : Int32))])) t → Steps p.tables e below (s₁.setTop (entryFrame m #[(.ref bt), (.ref bo)] 3)) t := fun t kt => k8 t (X0.arraylength hx (by rw [e0]; exact Ar9.1) (State.isArrayOf_alike hZ.alike Ar9.2.1) (g := (mkF m 11 #[.val (.ref bt), .val (.ref bo), .val (.int (0 : Int32))] [(.ref bt), (.int (0 : Int32))])) rfl rfl (hb hby d8_11) t (by rw [len_of S9 M9]; exact kt))
    have hc12_11 : (0 : Int32) < n := by rw [hc4_7]; decide
    have k12 : ∀ t, Steps p.tables e below (s₁.setTop (mkF m 17 #[.val (.ref bt), .val (.ref bo), .val (.int (0 : Int32))] [(.int (0 : Int32)), (.ref bt)])) t → Steps p.tables e below (s₁.setTop (entryFrame m #[(.ref bt), (.ref bo)] 3)) t := by
      intro t kt
      refine k10 t ?_
      show Steps p.tables e below (s₁.setTop (mkF m 12 #[.val (.ref bt), .val (.ref bo), .val (.int (0 : Int32))] [(.int n), (.int (0 : Int32))])) t
      refine XS.icmpNo X0.here hx rfl (hb hby d8_12) rfl (tlt hc12_11).2.1 ?_
      show Steps p.tables e below (s₁.setTop (mkF m 15 #[.val (.ref bt), .val (.ref bo), .val (.int (0 : Int32))] [])) t
      refine XS.aloadN X0.here hx rfl (hb hby d8_15) rfl rfl ?_
      show Steps p.tables e below (s₁.setTop (mkF m 16 #[.val (.ref bt), .val (.ref bo), .val (.int (0 : Int32))] [(.ref bt)])) t
      refine XS.iloadN X0.here hx rfl (hb hby d8_16) rfl ?_
      exact kt
    obtain ⟨cl13, Ar13, q13, S13, M13, H13, G13⟩ := id At
    have hin13 : ¬ ((0 : Int32) < 0 ∨ cl13.slots.size ≤ ((0 : Int32)).toNatClampNeg) := inb_of S13 ⟨by decide, by rw [hc4_7]; decide⟩
    have hat13 : cl13.slots[((0 : Int32)).toNatClampNeg]? = some (.int by0) := Has.at H13 hin13 rfl
    have k14 : ∀ t, Steps p.tables e below (s₁.setTop (mkF m 18 #[.val (.ref bt), .val (.ref bo), .val (.int (0 : Int32))] [(.int by0)])) t → Steps p.tables e below (s₁.setTop (entryFrame m #[(.ref bt), (.ref bo)] 3)) t := fun t kt => k12 t (X0.baloadBytes hx (j := (0 : Int32)) (v := (.int by0)) (by rw [e0]; exact Ar13.1) (State.isArrayOf_alike hZ.alike Ar13.2.1) Ar13.2.2 hin13 hat13 (g := (mkF m 17 #[.val (.ref bt), .val (.ref bo), .val (.int (0 : Int32))] [(.int (0 : Int32)), (.ref bt)])) rfl rfl (hb hby d8_17) t kt)
    have k15 : ∀ t, Steps p.tables e below (s₁.setTop (mkF m 20 #[.val (.ref bt), .val (.ref bo), .val (.int (0 : Int32))] [(.int (0 : Int32)), (.ref bo), (.int by0)])) t → Steps p.tables e below (s₁.setTop (entryFrame m #[(.ref bt), (.ref bo)] 3)) t := by
      intro t kt
      refine k14 t ?_
      show Steps p.tables e below (s₁.setTop (mkF m 18 #[.val (.ref bt), .val (.ref bo), .val (.int (0 : Int32))] [(.int by0)])) t
      refine XS.aloadN X0.here hx rfl (hb hby d8_18) rfl rfl ?_
      show Steps p.tables e below (s₁.setTop (mkF m 19 #[.val (.ref bt), .val (.ref bo), .val (.int (0 : Int32))] [(.ref bo), (.int by0)])) t
      refine XS.iloadN X0.here hx rfl (hb hby d8_19) rfl ?_
      exact kt
    obtain ⟨cl16, Ar16, q16, S16, M16, H16, G16⟩ := id Ao
    have hin16 : ¬ ((0 : Int32) < 0 ∨ cl16.slots.size ≤ ((0 : Int32)).toNatClampNeg) := inb_of S16 ⟨by decide, by decide⟩
    have hat16 : cl16.slots[((0 : Int32)).toNatClampNeg]? = some (.int x) := Has.at H16 hin16 rfl
    have k17 : ∀ t, Steps p.tables e below (s₁.setTop (mkF m 21 #[.val (.ref bt), .val (.ref bo), .val (.int (0 : Int32))] [(.int x), (.int by0)])) t → Steps p.tables e below (s₁.setTop (entryFrame m #[(.ref bt), (.ref bo)] 3)) t := fun t kt => k15 t (X0.baloadBytes hx (j := (0 : Int32)) (v := (.int x)) (by rw [e0]; exact Ar16.1) (State.isArrayOf_alike hZ.alike Ar16.2.1) Ar16.2.2 hin16 hat16 (g := (mkF m 20 #[.val (.ref bt), .val (.ref bo), .val (.int (0 : Int32))] [(.int (0 : Int32)), (.ref bo), (.int by0)])) rfl rfl (hb hby d8_20) t kt)
    by_cases hc21_18 : by0 = x
    · have k19 : ∀ t, Steps p.tables e below (s₁.setTop (mkF m 11 #[.val (.ref bt), .val (.ref bo), .val (.int (1 : Int32))] [(.ref bt), (.int (1 : Int32))])) t → Steps p.tables e below (s₁.setTop (entryFrame m #[(.ref bt), (.ref bo)] 3)) t := by
        intro t kt
        refine k17 t ?_
        show Steps p.tables e below (s₁.setTop (mkF m 21 #[.val (.ref bt), .val (.ref bo), .val (.int (0 : Int32))] [(.int x), (.int by0)])) t
        refine XS.icmpYes X0.here hx rfl (pc0 := 21) (pc' := 26) rfl (hb hby d8_21) rfl (teq hc21_18).1 (by decide) (by decide) ?_
        show Steps p.tables e below (s₁.setTop (mkF m 26 #[.val (.ref bt), .val (.ref bo), .val (.int (0 : Int32))] [])) t
        refine XS.iinc X0.here hx rfl (hb hby d8_26) rfl (l' := #[.val (.ref bt), .val (.ref bo), .val (.int (1 : Int32))]) rfl ?_
        show Steps p.tables e below (s₁.setTop (mkF m 29 #[.val (.ref bt), .val (.ref bo), .val (.int (1 : Int32))] [])) t
        refine XS.goto X0.here hx rfl (pc0 := 29) (pc' := 9) rfl (hb hby d8_29) (by decide) (by decide) ?_
        show Steps p.tables e below (s₁.setTop (mkF m 9 #[.val (.ref bt), .val (.ref bo), .val (.int (1 : Int32))] [])) t
        refine XS.iloadN X0.here hx rfl (hb hby d8_9) rfl ?_
        show Steps p.tables e below (s₁.setTop (mkF m 10 #[.val (.ref bt), .val (.ref bo), .val (.int (1 : Int32))] [(.int (1 : Int32))])) t
        refine XS.aloadN X0.here hx rfl (hb hby d8_10) rfl rfl ?_
        exact kt
      obtain ⟨cl20, Ar20, -, S20, M20, -, -⟩ := id At
      have k21 : ∀ t, Steps p.tables e below (s₁.setTop (mkF m 12 #[.val (.ref bt), .val (.ref bo), .val (.int (1 : Int32))] [(.int n), (.int (1 : Int32))])) t → Steps p.tables e below (s₁.setTop (entryFrame m #[(.ref bt), (.ref bo)] 3)) t := fun t kt => k19 t (X0.arraylength hx (by rw [e0]; exact Ar20.1) (State.isArrayOf_alike hZ.alike Ar20.2.1) (g := (mkF m 11 #[.val (.ref bt), .val (.ref bo), .val (.int (1 : Int32))] [(.ref bt), (.int (1 : Int32))])) rfl rfl (hb hby d8_11) t (by rw [len_of S20 M20]; exact kt))
      have hc12_22 : (1 : Int32) < n := by rw [hc4_7]; decide
      have k23 : ∀ t, Steps p.tables e below (s₁.setTop (mkF m 17 #[.val (.ref bt), .val (.ref bo), .val (.int (1 : Int32))] [(.int (1 : Int32)), (.ref bt)])) t → Steps p.tables e below (s₁.setTop (entryFrame m #[(.ref bt), (.ref bo)] 3)) t := by
        intro t kt
        refine k21 t ?_
        show Steps p.tables e below (s₁.setTop (mkF m 12 #[.val (.ref bt), .val (.ref bo), .val (.int (1 : Int32))] [(.int n), (.int (1 : Int32))])) t
        refine XS.icmpNo X0.here hx rfl (hb hby d8_12) rfl (tlt hc12_22).2.1 ?_
        show Steps p.tables e below (s₁.setTop (mkF m 15 #[.val (.ref bt), .val (.ref bo), .val (.int (1 : Int32))] [])) t
        refine XS.aloadN X0.here hx rfl (hb hby d8_15) rfl rfl ?_
        show Steps p.tables e below (s₁.setTop (mkF m 16 #[.val (.ref bt), .val (.ref bo), .val (.int (1 : Int32))] [(.ref bt)])) t
        refine XS.iloadN X0.here hx rfl (hb hby d8_16) rfl ?_
        exact kt
      obtain ⟨cl24, Ar24, q24, S24, M24, H24, G24⟩ := id At
      have hin24 : ¬ ((1 : Int32) < 0 ∨ cl24.slots.size ≤ ((1 : Int32)).toNatClampNeg) := inb_of S24 ⟨by decide, by rw [hc4_7]; decide⟩
      have hat24 : cl24.slots[((1 : Int32)).toNatClampNeg]? = some (.int by1) := Has.at H24 hin24 rfl
      have k25 : ∀ t, Steps p.tables e below (s₁.setTop (mkF m 18 #[.val (.ref bt), .val (.ref bo), .val (.int (1 : Int32))] [(.int by1)])) t → Steps p.tables e below (s₁.setTop (entryFrame m #[(.ref bt), (.ref bo)] 3)) t := fun t kt => k23 t (X0.baloadBytes hx (j := (1 : Int32)) (v := (.int by1)) (by rw [e0]; exact Ar24.1) (State.isArrayOf_alike hZ.alike Ar24.2.1) Ar24.2.2 hin24 hat24 (g := (mkF m 17 #[.val (.ref bt), .val (.ref bo), .val (.int (1 : Int32))] [(.int (1 : Int32)), (.ref bt)])) rfl rfl (hb hby d8_17) t kt)
      have k26 : ∀ t, Steps p.tables e below (s₁.setTop (mkF m 20 #[.val (.ref bt), .val (.ref bo), .val (.int (1 : Int32))] [(.int (1 : Int32)), (.ref bo), (.int by1)])) t → Steps p.tables e below (s₁.setTop (entryFrame m #[(.ref bt), (.ref bo)] 3)) t := by
        intro t kt
        refine k25 t ?_
        show Steps p.tables e below (s₁.setTop (mkF m 18 #[.val (.ref bt), .val (.ref bo), .val (.int (1 : Int32))] [(.int by1)])) t
        refine XS.aloadN X0.here hx rfl (hb hby d8_18) rfl rfl ?_
        show Steps p.tables e below (s₁.setTop (mkF m 19 #[.val (.ref bt), .val (.ref bo), .val (.int (1 : Int32))] [(.ref bo), (.int by1)])) t
        refine XS.iloadN X0.here hx rfl (hb hby d8_19) rfl ?_
        exact kt
      obtain ⟨cl27, Ar27, q27, S27, M27, H27, G27⟩ := id Ao
      have hin27 : ¬ ((1 : Int32) < 0 ∨ cl27.slots.size ≤ ((1 : Int32)).toNatClampNeg) := inb_of S27 ⟨by decide, by decide⟩
      have hat27 : cl27.slots[((1 : Int32)).toNatClampNeg]? = some (.int y) := Has.at H27 hin27 rfl
      have k28 : ∀ t, Steps p.tables e below (s₁.setTop (mkF m 21 #[.val (.ref bt), .val (.ref bo), .val (.int (1 : Int32))] [(.int y), (.int by1)])) t → Steps p.tables e below (s₁.setTop (entryFrame m #[(.ref bt), (.ref bo)] 3)) t := fun t kt => k26 t (X0.baloadBytes hx (j := (1 : Int32)) (v := (.int y)) (by rw [e0]; exact Ar27.1) (State.isArrayOf_alike hZ.alike Ar27.2.1) Ar27.2.2 hin27 hat27 (g := (mkF m 20 #[.val (.ref bt), .val (.ref bo), .val (.int (1 : Int32))] [(.int (1 : Int32)), (.ref bo), (.int by1)])) rfl rfl (hb hby d8_20) t kt)
      by_cases hc21_29 : by1 = y
      · have k30 : ∀ t, Steps p.tables e below (s₁.setTop (mkF m 11 #[.val (.ref bt), .val (.ref bo), .val (.int (2 : Int32))] [(.ref bt), (.int (2 : Int32))])) t → Steps p.tables e below (s₁.setTop (entryFrame m #[(.ref bt), (.ref bo)] 3)) t := by
          intro t kt
          refine k28 t ?_
          show Steps p.tables e below (s₁.setTop (mkF m 21 #[.val (.ref bt), .val (.ref bo), .val (.int (1 : Int32))] [(.int y), (.int by1)])) t
          refine XS.icmpYes X0.here hx rfl (pc0 := 21) (pc' := 26) rfl (hb hby d8_21) rfl (teq hc21_29).1 (by decide) (by decide) ?_
          show Steps p.tables e below (s₁.setTop (mkF m 26 #[.val (.ref bt), .val (.ref bo), .val (.int (1 : Int32))] [])) t
          refine XS.iinc X0.here hx rfl (hb hby d8_26) rfl (l' := #[.val (.ref bt), .val (.ref bo), .val (.int (2 : Int32))]) rfl ?_
          show Steps p.tables e below (s₁.setTop (mkF m 29 #[.val (.ref bt), .val (.ref bo), .val (.int (2 : Int32))] [])) t
          refine XS.goto X0.here hx rfl (pc0 := 29) (pc' := 9) rfl (hb hby d8_29) (by decide) (by decide) ?_
          show Steps p.tables e below (s₁.setTop (mkF m 9 #[.val (.ref bt), .val (.ref bo), .val (.int (2 : Int32))] [])) t
          refine XS.iloadN X0.here hx rfl (hb hby d8_9) rfl ?_
          show Steps p.tables e below (s₁.setTop (mkF m 10 #[.val (.ref bt), .val (.ref bo), .val (.int (2 : Int32))] [(.int (2 : Int32))])) t
          refine XS.aloadN X0.here hx rfl (hb hby d8_10) rfl rfl ?_
          exact kt
        obtain ⟨cl31, Ar31, -, S31, M31, -, -⟩ := id At
        have k32 : ∀ t, Steps p.tables e below (s₁.setTop (mkF m 12 #[.val (.ref bt), .val (.ref bo), .val (.int (2 : Int32))] [(.int n), (.int (2 : Int32))])) t → Steps p.tables e below (s₁.setTop (entryFrame m #[(.ref bt), (.ref bo)] 3)) t := fun t kt => k30 t (X0.arraylength hx (by rw [e0]; exact Ar31.1) (State.isArrayOf_alike hZ.alike Ar31.2.1) (g := (mkF m 11 #[.val (.ref bt), .val (.ref bo), .val (.int (2 : Int32))] [(.ref bt), (.int (2 : Int32))])) rfl rfl (hb hby d8_11) t (by rw [len_of S31 M31]; exact kt))
        have hc12_33 : (2 : Int32) < n := by rw [hc4_7]; decide
        have k34 : ∀ t, Steps p.tables e below (s₁.setTop (mkF m 17 #[.val (.ref bt), .val (.ref bo), .val (.int (2 : Int32))] [(.int (2 : Int32)), (.ref bt)])) t → Steps p.tables e below (s₁.setTop (entryFrame m #[(.ref bt), (.ref bo)] 3)) t := by
          intro t kt
          refine k32 t ?_
          show Steps p.tables e below (s₁.setTop (mkF m 12 #[.val (.ref bt), .val (.ref bo), .val (.int (2 : Int32))] [(.int n), (.int (2 : Int32))])) t
          refine XS.icmpNo X0.here hx rfl (hb hby d8_12) rfl (tlt hc12_33).2.1 ?_
          show Steps p.tables e below (s₁.setTop (mkF m 15 #[.val (.ref bt), .val (.ref bo), .val (.int (2 : Int32))] [])) t
          refine XS.aloadN X0.here hx rfl (hb hby d8_15) rfl rfl ?_
          show Steps p.tables e below (s₁.setTop (mkF m 16 #[.val (.ref bt), .val (.ref bo), .val (.int (2 : Int32))] [(.ref bt)])) t
          refine XS.iloadN X0.here hx rfl (hb hby d8_16) rfl ?_
          exact kt
        obtain ⟨cl35, Ar35, q35, S35, M35, H35, G35⟩ := id At
        have hin35 : ¬ ((2 : Int32) < 0 ∨ cl35.slots.size ≤ ((2 : Int32)).toNatClampNeg) := inb_of S35 ⟨by decide, by rw [hc4_7]; decide⟩
        have hat35 : cl35.slots[((2 : Int32)).toNatClampNeg]? = some (.int by2) := Has.at H35 hin35 rfl
        have k36 : ∀ t, Steps p.tables e below (s₁.setTop (mkF m 18 #[.val (.ref bt), .val (.ref bo), .val (.int (2 : Int32))] [(.int by2)])) t → Steps p.tables e below (s₁.setTop (entryFrame m #[(.ref bt), (.ref bo)] 3)) t := fun t kt => k34 t (X0.baloadBytes hx (j := (2 : Int32)) (v := (.int by2)) (by rw [e0]; exact Ar35.1) (State.isArrayOf_alike hZ.alike Ar35.2.1) Ar35.2.2 hin35 hat35 (g := (mkF m 17 #[.val (.ref bt), .val (.ref bo), .val (.int (2 : Int32))] [(.int (2 : Int32)), (.ref bt)])) rfl rfl (hb hby d8_17) t kt)
        have k37 : ∀ t, Steps p.tables e below (s₁.setTop (mkF m 20 #[.val (.ref bt), .val (.ref bo), .val (.int (2 : Int32))] [(.int (2 : Int32)), (.ref bo), (.int by2)])) t → Steps p.tables e below (s₁.setTop (entryFrame m #[(.ref bt), (.ref bo)] 3)) t := by
          intro t kt
          refine k36 t ?_
          show Steps p.tables e below (s₁.setTop (mkF m 18 #[.val (.ref bt), .val (.ref bo), .val (.int (2 : Int32))] [(.int by2)])) t
          refine XS.aloadN X0.here hx rfl (hb hby d8_18) rfl rfl ?_
          show Steps p.tables e below (s₁.setTop (mkF m 19 #[.val (.ref bt), .val (.ref bo), .val (.int (2 : Int32))] [(.ref bo), (.int by2)])) t
          refine XS.iloadN X0.here hx rfl (hb hby d8_19) rfl ?_
          exact kt
        obtain ⟨cl38, Ar38, q38, S38, M38, H38, G38⟩ := id Ao
        have hin38 : ¬ ((2 : Int32) < 0 ∨ cl38.slots.size ≤ ((2 : Int32)).toNatClampNeg) := inb_of S38 ⟨by decide, by decide⟩
        have hat38 : cl38.slots[((2 : Int32)).toNatClampNeg]? = some (.int z) := Has.at H38 hin38 rfl
        have k39 : ∀ t, Steps p.tables e below (s₁.setTop (mkF m 21 #[.val (.ref bt), .val (.ref bo), .val (.int (2 : Int32))] [(.int z), (.int by2)])) t → Steps p.tables e below (s₁.setTop (entryFrame m #[(.ref bt), (.ref bo)] 3)) t := fun t kt => k37 t (X0.baloadBytes hx (j := (2 : Int32)) (v := (.int z)) (by rw [e0]; exact Ar38.1) (State.isArrayOf_alike hZ.alike Ar38.2.1) Ar38.2.2 hin38 hat38 (g := (mkF m 20 #[.val (.ref bt), .val (.ref bo), .val (.int (2 : Int32))] [(.int (2 : Int32)), (.ref bo), (.int by2)])) rfl rfl (hb hby d8_20) t kt)
        by_cases hc21_40 : by2 = z
        · have k41 : ∀ t, Steps p.tables e below (s₁.setTop (mkF m 11 #[.val (.ref bt), .val (.ref bo), .val (.int (3 : Int32))] [(.ref bt), (.int (3 : Int32))])) t → Steps p.tables e below (s₁.setTop (entryFrame m #[(.ref bt), (.ref bo)] 3)) t := by
            intro t kt
            refine k39 t ?_
            show Steps p.tables e below (s₁.setTop (mkF m 21 #[.val (.ref bt), .val (.ref bo), .val (.int (2 : Int32))] [(.int z), (.int by2)])) t
            refine XS.icmpYes X0.here hx rfl (pc0 := 21) (pc' := 26) rfl (hb hby d8_21) rfl (teq hc21_40).1 (by decide) (by decide) ?_
            show Steps p.tables e below (s₁.setTop (mkF m 26 #[.val (.ref bt), .val (.ref bo), .val (.int (2 : Int32))] [])) t
            refine XS.iinc X0.here hx rfl (hb hby d8_26) rfl (l' := #[.val (.ref bt), .val (.ref bo), .val (.int (3 : Int32))]) rfl ?_
            show Steps p.tables e below (s₁.setTop (mkF m 29 #[.val (.ref bt), .val (.ref bo), .val (.int (3 : Int32))] [])) t
            refine XS.goto X0.here hx rfl (pc0 := 29) (pc' := 9) rfl (hb hby d8_29) (by decide) (by decide) ?_
            show Steps p.tables e below (s₁.setTop (mkF m 9 #[.val (.ref bt), .val (.ref bo), .val (.int (3 : Int32))] [])) t
            refine XS.iloadN X0.here hx rfl (hb hby d8_9) rfl ?_
            show Steps p.tables e below (s₁.setTop (mkF m 10 #[.val (.ref bt), .val (.ref bo), .val (.int (3 : Int32))] [(.int (3 : Int32))])) t
            refine XS.aloadN X0.here hx rfl (hb hby d8_10) rfl rfl ?_
            exact kt
          obtain ⟨cl42, Ar42, -, S42, M42, -, -⟩ := id At
          have k43 : ∀ t, Steps p.tables e below (s₁.setTop (mkF m 12 #[.val (.ref bt), .val (.ref bo), .val (.int (3 : Int32))] [(.int n), (.int (3 : Int32))])) t → Steps p.tables e below (s₁.setTop (entryFrame m #[(.ref bt), (.ref bo)] 3)) t := fun t kt => k41 t (X0.arraylength hx (by rw [e0]; exact Ar42.1) (State.isArrayOf_alike hZ.alike Ar42.2.1) (g := (mkF m 11 #[.val (.ref bt), .val (.ref bo), .val (.int (3 : Int32))] [(.ref bt), (.int (3 : Int32))])) rfl rfl (hb hby d8_11) t (by rw [len_of S42 M42]; exact kt))
          have hc12_44 : ¬ ((3 : Int32) < n) := by rw [hc4_7]; decide
          have k45 : ∀ t, Steps p.tables e below (s₁.setTop (mkF m 33 #[.val (.ref bt), .val (.ref bo), .val (.int (3 : Int32))] [(.int (1 : Int32))])) t → Steps p.tables e below (s₁.setTop (entryFrame m #[(.ref bt), (.ref bo)] 3)) t := by
            intro t kt
            refine k43 t ?_
            show Steps p.tables e below (s₁.setTop (mkF m 12 #[.val (.ref bt), .val (.ref bo), .val (.int (3 : Int32))] [(.int n), (.int (3 : Int32))])) t
            refine XS.icmpYes X0.here hx rfl (pc0 := 12) (pc' := 32) rfl (hb hby d8_12) rfl (flt hc12_44).2.1 (by decide) (by decide) ?_
            show Steps p.tables e below (s₁.setTop (mkF m 32 #[.val (.ref bt), .val (.ref bo), .val (.int (3 : Int32))] [])) t
            refine XS.iconst X0.here hx rfl (hb hby d8_32) ?_
            exact kt
          obtain ⟨fs, hr, hrun, hended, hW, hsame⟩ := X0.leave (v := some (.int (1 : Int32))) (fun h => by rw [Bd.returns] at h; cases h)
          refine ⟨_, _, k45 _ ?_, hrun, hended, _, _, rfl, ?_, ⟨_, rfl⟩, hW, hsame.mono (by decide) (by decide)⟩
          · show Steps p.tables e below (s₁.setTop (mkF m 33 #[.val (.ref bt), .val (.ref bo), .val (.int (3 : Int32))] [(.int (1 : Int32))])) _
            exact retN X0 hx (t := .boolean) Bd.returns (by simp) (hb hby d8_33) hr
          · show QL Z bt bo n by0 by1 by2 by3 x y z kct ko h0 n0 _ s₁.heap _
            rw [e0]
            refine ⟨congrArg (fun z => some (Value.int z)) ?_, N0, rfl⟩
            simp [own_e, hc4_7, hc21_18, hc21_29, hc21_40]
        · have k46 : ∀ t, Steps p.tables e below (s₁.setTop (mkF m 25 #[.val (.ref bt), .val (.ref bo), .val (.int (2 : Int32))] [(.int (0 : Int32))])) t → Steps p.tables e below (s₁.setTop (entryFrame m #[(.ref bt), (.ref bo)] 3)) t := by
            intro t kt
            refine k39 t ?_
            show Steps p.tables e below (s₁.setTop (mkF m 21 #[.val (.ref bt), .val (.ref bo), .val (.int (2 : Int32))] [(.int z), (.int by2)])) t
            refine XS.icmpNo X0.here hx rfl (hb hby d8_21) rfl (feq hc21_40).1 ?_
            show Steps p.tables e below (s₁.setTop (mkF m 24 #[.val (.ref bt), .val (.ref bo), .val (.int (2 : Int32))] [])) t
            refine XS.iconst X0.here hx rfl (hb hby d8_24) ?_
            exact kt
          obtain ⟨fs, hr, hrun, hended, hW, hsame⟩ := X0.leave (v := some (.int (0 : Int32))) (fun h => by rw [Bd.returns] at h; cases h)
          refine ⟨_, _, k46 _ ?_, hrun, hended, _, _, rfl, ?_, ⟨_, rfl⟩, hW, hsame.mono (by decide) (by decide)⟩
          · show Steps p.tables e below (s₁.setTop (mkF m 25 #[.val (.ref bt), .val (.ref bo), .val (.int (2 : Int32))] [(.int (0 : Int32))])) _
            exact retN X0 hx (t := .boolean) Bd.returns (by simp) (hb hby d8_25) hr
          · show QL Z bt bo n by0 by1 by2 by3 x y z kct ko h0 n0 _ s₁.heap _
            rw [e0]
            refine ⟨congrArg (fun z => some (Value.int z)) ?_, N0, rfl⟩
            simp [own_e, hc4_7, hc21_18, hc21_29, hc21_40]
      · have k47 : ∀ t, Steps p.tables e below (s₁.setTop (mkF m 25 #[.val (.ref bt), .val (.ref bo), .val (.int (1 : Int32))] [(.int (0 : Int32))])) t → Steps p.tables e below (s₁.setTop (entryFrame m #[(.ref bt), (.ref bo)] 3)) t := by
          intro t kt
          refine k28 t ?_
          show Steps p.tables e below (s₁.setTop (mkF m 21 #[.val (.ref bt), .val (.ref bo), .val (.int (1 : Int32))] [(.int y), (.int by1)])) t
          refine XS.icmpNo X0.here hx rfl (hb hby d8_21) rfl (feq hc21_29).1 ?_
          show Steps p.tables e below (s₁.setTop (mkF m 24 #[.val (.ref bt), .val (.ref bo), .val (.int (1 : Int32))] [])) t
          refine XS.iconst X0.here hx rfl (hb hby d8_24) ?_
          exact kt
        obtain ⟨fs, hr, hrun, hended, hW, hsame⟩ := X0.leave (v := some (.int (0 : Int32))) (fun h => by rw [Bd.returns] at h; cases h)
        refine ⟨_, _, k47 _ ?_, hrun, hended, _, _, rfl, ?_, ⟨_, rfl⟩, hW, hsame.mono (by decide) (by decide)⟩
        · show Steps p.tables e below (s₁.setTop (mkF m 25 #[.val (.ref bt), .val (.ref bo), .val (.int (1 : Int32))] [(.int (0 : Int32))])) _
          exact retN X0 hx (t := .boolean) Bd.returns (by simp) (hb hby d8_25) hr
        · show QL Z bt bo n by0 by1 by2 by3 x y z kct ko h0 n0 _ s₁.heap _
          rw [e0]
          refine ⟨congrArg (fun z => some (Value.int z)) ?_, N0, rfl⟩
          simp [own_e, hc4_7, hc21_18, hc21_29]
    · have k48 : ∀ t, Steps p.tables e below (s₁.setTop (mkF m 25 #[.val (.ref bt), .val (.ref bo), .val (.int (0 : Int32))] [(.int (0 : Int32))])) t → Steps p.tables e below (s₁.setTop (entryFrame m #[(.ref bt), (.ref bo)] 3)) t := by
        intro t kt
        refine k17 t ?_
        show Steps p.tables e below (s₁.setTop (mkF m 21 #[.val (.ref bt), .val (.ref bo), .val (.int (0 : Int32))] [(.int x), (.int by0)])) t
        refine XS.icmpNo X0.here hx rfl (hb hby d8_21) rfl (feq hc21_18).1 ?_
        show Steps p.tables e below (s₁.setTop (mkF m 24 #[.val (.ref bt), .val (.ref bo), .val (.int (0 : Int32))] [])) t
        refine XS.iconst X0.here hx rfl (hb hby d8_24) ?_
        exact kt
      obtain ⟨fs, hr, hrun, hended, hW, hsame⟩ := X0.leave (v := some (.int (0 : Int32))) (fun h => by rw [Bd.returns] at h; cases h)
      refine ⟨_, _, k48 _ ?_, hrun, hended, _, _, rfl, ?_, ⟨_, rfl⟩, hW, hsame.mono (by decide) (by decide)⟩
      · show Steps p.tables e below (s₁.setTop (mkF m 25 #[.val (.ref bt), .val (.ref bo), .val (.int (0 : Int32))] [(.int (0 : Int32))])) _
        exact retN X0 hx (t := .boolean) Bd.returns (by simp) (hb hby d8_25) hr
      · show QL Z bt bo n by0 by1 by2 by3 x y z kct ko h0 n0 _ s₁.heap _
        rw [e0]
        refine ⟨congrArg (fun z => some (Value.int z)) ?_, N0, rfl⟩
        simp [own_e, hc4_7, hc21_18]
  · have k49 : ∀ t, Steps p.tables e below (s₁.setTop (mkF m 35 #[.val (.ref bt), .val (.ref bo), .unset] [(.int (0 : Int32))])) t → Steps p.tables e below (s₁.setTop (entryFrame m #[(.ref bt), (.ref bo)] 3)) t := by
      intro t kt
      refine k6 t ?_
      show Steps p.tables e below (s₁.setTop (mkF m 4 #[.val (.ref bt), .val (.ref bo), .unset] [(.int (3 : Int32)), (.int n)])) t
      refine XS.icmpYes X0.here hx rfl (pc0 := 4) (pc' := 34) rfl (hb hby d8_4) rfl (feq hc4_7).2 (by decide) (by decide) ?_
      show Steps p.tables e below (s₁.setTop (mkF m 34 #[.val (.ref bt), .val (.ref bo), .unset] [])) t
      refine XS.iconst X0.here hx rfl (hb hby d8_34) ?_
      exact kt
    obtain ⟨fs, hr, hrun, hended, hW, hsame⟩ := X0.leave (v := some (.int (0 : Int32))) (fun h => by rw [Bd.returns] at h; cases h)
    refine ⟨_, _, k49 _ ?_, hrun, hended, _, _, rfl, ?_, ⟨_, rfl⟩, hW, hsame.mono (by decide) (by decide)⟩
    · show Steps p.tables e below (s₁.setTop (mkF m 35 #[.val (.ref bt), .val (.ref bo), .unset] [(.int (0 : Int32))])) _
      exact retN X0 hx (t := .boolean) Bd.returns (by simp) (hb hby d8_35) hr
    · show QL Z bt bo n by0 by1 by2 by3 x y z kct ko h0 n0 _ s₁.heap _
      rw [e0]
      refine ⟨congrArg (fun z => some (Value.int z)) ?_, N0, rfl⟩
      simp [own_e, hc4_7]
theorem d7_0 : decode jdk_42_method_66_code 0 = .ok (.aload_n 0, 1) := by decide +kernel
theorem d7_1 : decode jdk_42_method_66_code 1 = .ok (.aload_n 1, 1) := by decide +kernel
theorem d7_2 : decode jdk_42_method_66_code 2 = .ok (.if_acmp .ne 5, 3) := by decide +kernel
theorem d7_5 : decode jdk_42_method_66_code 5 = .ok (.iconst 1, 1) := by decide +kernel
theorem d7_6 : decode jdk_42_method_66_code 6 = .ok (.ireturn, 1) := by decide +kernel
theorem d7_7 : decode jdk_42_method_66_code 7 = .ok (.aload_n 1, 1) := by decide +kernel
theorem d7_8 : decode jdk_42_method_66_code 8 = .ok (.instanceof 10, 3) := by decide +kernel
theorem d7_11 : decode jdk_42_method_66_code 11 = .ok (.ifCond .eq 43, 3) := by decide +kernel
theorem d7_14 : decode jdk_42_method_66_code 14 = .ok (.aload_n 1, 1) := by decide +kernel
theorem d7_15 : decode jdk_42_method_66_code 15 = .ok (.checkcast 10, 3) := by decide +kernel
theorem d7_18 : decode jdk_42_method_66_code 18 = .ok (.astore_n 2, 1) := by decide +kernel
theorem d7_19 : decode jdk_42_method_66_code 19 = .ok (.getstatic 38, 3) := by decide +kernel
theorem d7_22 : decode jdk_42_method_66_code 22 = .ok (.ifCond .eq 14, 3) := by decide +kernel
theorem d7_25 : decode jdk_42_method_66_code 25 = .ok (.aload_n 0, 1) := by decide +kernel
theorem d7_26 : decode jdk_42_method_66_code 26 = .ok (.getfield 15, 3) := by decide +kernel
theorem d7_29 : decode jdk_42_method_66_code 29 = .ok (.aload_n 2, 1) := by decide +kernel
theorem d7_30 : decode jdk_42_method_66_code 30 = .ok (.getfield 15, 3) := by decide +kernel
theorem d7_33 : decode jdk_42_method_66_code 33 = .ok (.if_icmp .ne 21, 3) := by decide +kernel
theorem d7_36 : decode jdk_42_method_66_code 36 = .ok (.aload_n 0, 1) := by decide +kernel
theorem d7_37 : decode jdk_42_method_66_code 37 = .ok (.getfield 9, 3) := by decide +kernel
theorem d7_40 : decode jdk_42_method_66_code 40 = .ok (.aload_n 2, 1) := by decide +kernel
theorem d7_41 : decode jdk_42_method_66_code 41 = .ok (.getfield 9, 3) := by decide +kernel
theorem d7_44 : decode jdk_42_method_66_code 44 = .ok (.invokestatic 541, 3) := by decide +kernel
theorem d7_47 : decode jdk_42_method_66_code 47 = .ok (.ifCond .eq 7, 3) := by decide +kernel
theorem d7_50 : decode jdk_42_method_66_code 50 = .ok (.iconst 1, 1) := by decide +kernel
theorem d7_51 : decode jdk_42_method_66_code 51 = .ok (.goto 4, 3) := by decide +kernel
theorem d7_54 : decode jdk_42_method_66_code 54 = .ok (.iconst 0, 1) := by decide +kernel
theorem d7_55 : decode jdk_42_method_66_code 55 = .ok (.ireturn, 1) := by decide +kernel
theorem rmE_ef (m : MethodId) (x0 : Addr) (x1 : Addr) : entryFrame m #[(.ref x0), (.ref x1)] 3 = mkF m 0 #[.val (.ref x0), .val (.ref x1), .unset] [] := by first | (simp [entryFrame, mkF, argsToLocals, Value.category]; done) | rfl
def QE (Z : State) (ths : Addr) (o : Addr) (bt : Addr) (bo : Addr) (n : Int32) (by0 : Int32) (by1 : Int32) (by2 : Int32) (by3 : Int32) (x : Int32) (y : Int32) (z : Int32) (kct : ClassId) (ko : ClassId) (cs : Int32) (h0 : Heap) (n0 : Nat) (v : Option Value) (h : Heap) (L : List Loc) : Prop := v = some (.int (own_e n by0 by1 by2 x y z)) ∧ Fr n0 L ∧ h = h0
theorem own_pd5 : parseMethodDescriptor "([B[B)Z" = some ⟨[(.array .byte), (.array .byte)], some .boolean⟩ := by decide +kernel
set_option maxRecDepth 65536 in
set_option maxHeartbeats 40000000 in
theorem rmE (l : Launch) (Z : State) (a0 : Array Value) (hw : ∀ d ∈ tables_1, d.before a0 Z = true) (ws : List Jvm.Cond) (ths : Addr) (o : Addr) (bt : Addr) (bo : Addr) (n : Int32) (by0 : Int32) (by1 : Int32) (by2 : Int32) (by3 : Int32) (x : Int32) (y : Int32) (z : Int32) (kct : ClassId) (ko : ClassId) (cs : Int32) (h0 : Heap) (n0 : Nat) (Z0 : n0 ≤ h0.size) (Et : Exa Z h0 ths "java/lang/String") (Ft : Fld Z h0 ths "java/lang/String" "value" "[B" (.ref bt)) (Ct : Fld Z h0 ths "java/lang/String" "coder" "B" (.int (0 : Int32))) (Eo : Exa Z h0 o "java/lang/String") (Fo : Fld Z h0 o "java/lang/String" "value" "[B" (.ref bo)) (Co : Fld Z h0 o "java/lang/String" "coder" "B" (.int (0 : Int32))) (At : Arv Z h0 bt kct .byte n [(.int by0), (.int by1), (.int by2), (.int by3)] (.int (0 : Int32))) (Ao : Arv Z h0 bo ko .byte (3 : Int32) [(.int x), (.int y), (.int z)] (.int (0 : Int32))) (SC : Sta Z h0 "java/lang/String" "COMPACT_STRINGS" "Z" (.int cs)) (hcs : ¬ (cs = (0 : Int32))) :
    MetFree l (⟨"java/lang/String", "equals", "(Ljava/lang/Object;)Z"⟩ : MethodName) (head1 (Jvm.Cond.code (⟨"java/lang/String", "equals", "(Ljava/lang/Object;)Z"⟩ : MethodName) jdk_42_method_66_code 3 (some .boolean) :: ws) ({ frames := 1, cells := 0, slots := 0, locals := 14 } : Room)) (fun aA' U => aA' = #[(.ref ths), (.ref o)] ∧ Z.Warmed39 U.vm ∧ U.heap = h0) (fun _ _ _ _ _ => True) (fun _ U oO' U' => ∃ vV' L, oO' = .returned vV' ∧ QE Z ths o bt bo n by0 by1 by2 by3 x y z kct ko cs h0 n0 vV' U'.heap L ∧ FrameEnd U oO' U' L ({ frames := 1, cells := 0, slots := 0, locals := 14 } : Room).cells ({ frames := 1, cells := 0, slots := 0, locals := 14 } : Room).slots) := by
  refine MetFree.of_bodySF (plainFor_of_name own_pn1) hisR ?_
  intro p e s m args below meth c s₁ Bd hml0 hP hK
  obtain ⟨rfl, hZ, hh⟩ := hP
  have hx := Bd.exec
  have hby := Bd.bytes
  have hml : c.maxLocals = 3 := hml0
  have hown : s.vm.findClass "java/lang/String" = some m.cls := findClass_of_methodNamed Bd.named
  have hnm := (name_of_methodNamed Bd.named Bd.method).1
  have X0 : Stand p l e ({ frames := 1, cells := 0, slots := 0, locals := 14 } : Room) s m #[(.ref ths), (.ref o)] below meth c s₁ [] 0 0 := Stand.of_body Bd
  have e0 : s₁.heap = h0 := by rw [← hh, Bd.state]; rfl
  have N0 := Fr.nil n0
  have K0 : Keep h0 h0 [] := Keep.refl _ _
  have k0 : ∀ t, Steps p.tables e below (s₁.setTop (mkF m 0 #[.val (.ref ths), .val (.ref o), .unset] [])) t → Steps p.tables e below (s₁.setTop (entryFrame m #[(.ref ths), (.ref o)] 3)) t := fun t k => castTop (rmE_ef m (ths) (o)) k
  have k2 : ∀ t, Steps p.tables e below (s₁.setTop (mkF m 2 #[.val (.ref ths), .val (.ref o), .unset] [(.ref o), (.ref ths)])) t → Steps p.tables e below (s₁.setTop (entryFrame m #[(.ref ths), (.ref o)] 3)) t := by
    intro t kt
    refine k0 t ?_
    show Steps p.tables e below (s₁.setTop (mkF m 0 #[.val (.ref ths), .val (.ref o), .unset] [])) t
    refine XS.aloadN X0.here hx rfl (hb hby d7_0) rfl rfl ?_
    show Steps p.tables e below (s₁.setTop (mkF m 1 #[.val (.ref ths), .val (.ref o), .unset] [(.ref ths)])) t
    refine XS.aloadN X0.here hx rfl (hb hby d7_1) rfl rfl ?_
    exact kt
  by_cases ha2_1 : ths = o
  · have k3 : ∀ t, Steps p.tables e below (s₁.setTop (mkF m 6 #[.val (.ref ths), .val (.ref o), .unset] [(.int (1 : Int32))])) t → Steps p.tables e below (s₁.setTop (entryFrame m #[(.ref ths), (.ref o)] 3)) t := by
      intro t kt
      refine k2 t ?_
      show Steps p.tables e below (s₁.setTop (mkF m 2 #[.val (.ref ths), .val (.ref o), .unset] [(.ref o), (.ref ths)])) t
      refine Jvm.RoadKit.acmp (g := (mkF m 2 #[.val (.ref ths), .val (.ref o), .unset] [(.ref o), (.ref ths)])) X0 hx rfl rfl rfl (pc0 := 2) (pc' := 5) (same := true) rfl (hb hby d7_2) rfl (decide_eq_true (congrArg Value.ref ha2_1)) (by decide) (by decide) ?_
      show Steps p.tables e below (s₁.setTop (mkF m 5 #[.val (.ref ths), .val (.ref o), .unset] [])) t
      refine XS.iconst X0.here hx rfl (hb hby d7_5) ?_
      exact kt
    obtain ⟨fs, hr, hrun, hended, hW, hsame⟩ := X0.leave (v := some (.int (1 : Int32))) (fun h => by rw [Bd.returns] at h; cases h)
    refine ⟨_, _, k3 _ ?_, hrun, hended, _, _, rfl, ?_, ⟨_, rfl⟩, hW, hsame.mono (by decide) (by decide)⟩
    · show Steps p.tables e below (s₁.setTop (mkF m 6 #[.val (.ref ths), .val (.ref o), .unset] [(.int (1 : Int32))])) _
      exact retN X0 hx (t := .boolean) Bd.returns (by simp) (hb hby d7_6) hr
    · show QE Z ths o bt bo n by0 by1 by2 by3 x y z kct ko cs h0 n0 _ s₁.heap _
      rw [e0]
      exact ⟨congrArg (fun z => some (Value.int z)) (own_eqT Ft Fo At Ao ha2_1).symm, N0, rfl⟩
  · have k4 : ∀ t, Steps p.tables e below (s₁.setTop (mkF m 8 #[.val (.ref ths), .val (.ref o), .unset] [(.ref o)])) t → Steps p.tables e below (s₁.setTop (entryFrame m #[(.ref ths), (.ref o)] 3)) t := by
      intro t kt
      refine k2 t ?_
      show Steps p.tables e below (s₁.setTop (mkF m 2 #[.val (.ref ths), .val (.ref o), .unset] [(.ref o), (.ref ths)])) t
      refine Jvm.RoadKit.acmp (g := (mkF m 2 #[.val (.ref ths), .val (.ref o), .unset] [(.ref o), (.ref ths)])) X0 hx rfl rfl rfl (pc0 := 2) (pc' := 7) (same := false) rfl (hb hby d7_2) rfl (decide_eq_false fun q => ha2_1 (Value.ref.inj q)) (by decide) (by decide) ?_
      show Steps p.tables e below (s₁.setTop (mkF m 7 #[.val (.ref ths), .val (.ref o), .unset] [])) t
      refine XS.aloadN X0.here hx rfl (hb hby d7_7) rfl rfl ?_
      exact kt
    obtain ⟨T5, X5, e5, st5⟩ := instY X0 hx hZ hown (hw _ (List.mem_of_getElem? (i := 40) rfl)) e0 (Ins.self Eo) (g := (mkF m 8 #[.val (.ref ths), .val (.ref o), .unset] [(.ref o)])) rfl rfl (hb hby d7_8)
    have k6 : ∀ t, Steps p.tables e below (T5.setTop (mkF m 11 #[.val (.ref ths), .val (.ref o), .unset] [(.int (1 : Int32))])) t → Steps p.tables e below (s₁.setTop (entryFrame m #[(.ref ths), (.ref o)] 3)) t := fun t kt => k4 t (st5 t kt)
    have hc11_7 : ¬ ((1 : Int32) = (0 : Int32)) := by decide
    have k8 : ∀ t, Steps p.tables e below (T5.setTop (mkF m 15 #[.val (.ref ths), .val (.ref o), .unset] [(.ref o)])) t → Steps p.tables e below (s₁.setTop (entryFrame m #[(.ref ths), (.ref o)] 3)) t := by
      intro t kt
      refine k6 t ?_
      show Steps p.tables e below (T5.setTop (mkF m 11 #[.val (.ref ths), .val (.ref o), .unset] [(.int (1 : Int32))])) t
      refine XS.ifNo X5.here hx rfl (hb hby d7_11) rfl ((if0 _ _).trans (feq hc11_7).1) ?_
      show Steps p.tables e below (T5.setTop (mkF m 14 #[.val (.ref ths), .val (.ref o), .unset] [])) t
      refine XS.aloadN X5.here hx rfl (hb hby d7_14) rfl rfl ?_
      exact kt
    obtain ⟨T9, X9, e9, st9⟩ := castY X5 hx hZ hown (hw _ (List.mem_of_getElem? (i := 40) rfl)) e5 (Ins.self Eo) (g := (mkF m 15 #[.val (.ref ths), .val (.ref o), .unset] [(.ref o)])) rfl rfl (hb hby d7_15)
    have k10 : ∀ t, Steps p.tables e below (T9.setTop (mkF m 18 #[.val (.ref ths), .val (.ref o), .unset] [(.ref o)])) t → Steps p.tables e below (s₁.setTop (entryFrame m #[(.ref ths), (.ref o)] 3)) t := fun t kt => k8 t (st9 t kt)
    have k11 : ∀ t, Steps p.tables e below (T9.setTop (mkF m 19 #[.val (.ref ths), .val (.ref o), .val (.ref o)] [])) t → Steps p.tables e below (s₁.setTop (entryFrame m #[(.ref ths), (.ref o)] 3)) t := by
      intro t kt
      refine k10 t ?_
      show Steps p.tables e below (T9.setTop (mkF m 18 #[.val (.ref ths), .val (.ref o), .unset] [(.ref o)])) t
      refine XS.astoreN X9.here hx rfl (hb hby d7_18) rfl rfl (l' := #[.val (.ref ths), .val (.ref o), .val (.ref o)]) rfl ?_
      exact kt
    obtain ⟨T12, X12, e12, st12⟩ := getS2 X9 hx hZ hown (host := "") (Or.inl (hw _ (List.mem_of_getElem? (i := 41) rfl))) Via.refl e9 SC (g := (mkF m 19 #[.val (.ref ths), .val (.ref o), .val (.ref o)] [])) rfl (hb hby d7_19)
    have k13 : ∀ t, Steps p.tables e below (T12.setTop (mkF m 22 #[.val (.ref ths), .val (.ref o), .val (.ref o)] [(.int cs)])) t → Steps p.tables e below (s₁.setTop (entryFrame m #[(.ref ths), (.ref o)] 3)) t := fun t kt => k11 t (st12 t kt)
    have k15 : ∀ t, Steps p.tables e below (T12.setTop (mkF m 26 #[.val (.ref ths), .val (.ref o), .val (.ref o)] [(.ref ths)])) t → Steps p.tables e below (s₁.setTop (entryFrame m #[(.ref ths), (.ref o)] 3)) t := by
      intro t kt
      refine k13 t ?_
      show Steps p.tables e below (T12.setTop (mkF m 22 #[.val (.ref ths), .val (.ref o), .val (.ref o)] [(.int cs)])) t
      refine XS.ifNo X12.here hx rfl (hb hby d7_22) rfl ((if0 _ _).trans (feq hcs).1) ?_
      show Steps p.tables e below (T12.setTop (mkF m 25 #[.val (.ref ths), .val (.ref o), .val (.ref o)] [])) t
      refine XS.aloadN X12.here hx rfl (hb hby d7_25) rfl rfl ?_
      exact kt
    obtain ⟨T16, X16, e16, st16⟩ := getF X12 hx hZ hown (host := "") (Or.inl (hw _ (List.mem_of_getElem? (i := 29) rfl))) Via.refl e12 Ct (g := (mkF m 26 #[.val (.ref ths), .val (.ref o), .val (.ref o)] [(.ref ths)])) rfl rfl (hb hby d7_26)
    have k17 : ∀ t, Steps p.tables e below (T16.setTop (mkF m 29 #[.val (.ref ths), .val (.ref o), .val (.ref o)] [(.int (0 : Int32))])) t → Steps p.tables e below (s₁.setTop (entryFrame m #[(.ref ths), (.ref o)] 3)) t := fun t kt => k15 t (st16 t kt)
    have k18 : ∀ t, Steps p.tables e below (T16.setTop (mkF m 30 #[.val (.ref ths), .val (.ref o), .val (.ref o)] [(.ref o), (.int (0 : Int32))])) t → Steps p.tables e below (s₁.setTop (entryFrame m #[(.ref ths), (.ref o)] 3)) t := by
      intro t kt
      refine k17 t ?_
      show Steps p.tables e below (T16.setTop (mkF m 29 #[.val (.ref ths), .val (.ref o), .val (.ref o)] [(.int (0 : Int32))])) t
      refine XS.aloadN X16.here hx rfl (hb hby d7_29) rfl rfl ?_
      exact kt
    obtain ⟨T19, X19, e19, st19⟩ := getF X16 hx hZ hown (host := "") (Or.inl (hw _ (List.mem_of_getElem? (i := 29) rfl))) Via.refl e16 Co (g := (mkF m 30 #[.val (.ref ths), .val (.ref o), .val (.ref o)] [(.ref o), (.int (0 : Int32))])) rfl rfl (hb hby d7_30)
    have k20 : ∀ t, Steps p.tables e below (T19.setTop (mkF m 33 #[.val (.ref ths), .val (.ref o), .val (.ref o)] [(.int (0 : Int32)), (.int (0 : Int32))])) t → Steps p.tables e below (s₁.setTop (entryFrame m #[(.ref ths), (.ref o)] 3)) t := fun t kt => k18 t (st19 t kt)
    have hc33_21 : (0 : Int32) = (0 : Int32) := rfl
    have k22 : ∀ t, Steps p.tables e below (T19.setTop (mkF m 37 #[.val (.ref ths), .val (.ref o), .val (.ref o)] [(.ref ths)])) t → Steps p.tables e below (s₁.setTop (entryFrame m #[(.ref ths), (.ref o)] 3)) t := by
      intro t kt
      refine k20 t ?_
      show Steps p.tables e below (T19.setTop (mkF m 33 #[.val (.ref ths), .val (.ref o), .val (.ref o)] [(.int (0 : Int32)), (.int (0 : Int32))])) t
      refine XS.icmpNo X19.here hx rfl (hb hby d7_33) rfl (teq hc33_21).2 ?_
      show Steps p.tables e below (T19.setTop (mkF m 36 #[.val (.ref ths), .val (.ref o), .val (.ref o)] [])) t
      refine XS.aloadN X19.here hx rfl (hb hby d7_36) rfl rfl ?_
      exact kt
    obtain ⟨T23, X23, e23, st23⟩ := getF X19 hx hZ hown (host := "") (Or.inl (hw _ (List.mem_of_getElem? (i := 28) rfl))) Via.refl e19 Ft (g := (mkF m 37 #[.val (.ref ths), .val (.ref o), .val (.ref o)] [(.ref ths)])) rfl rfl (hb hby d7_37)
    have k24 : ∀ t, Steps p.tables e below (T23.setTop (mkF m 40 #[.val (.ref ths), .val (.ref o), .val (.ref o)] [(.ref bt)])) t → Steps p.tables e below (s₁.setTop (entryFrame m #[(.ref ths), (.ref o)] 3)) t := fun t kt => k22 t (st23 t kt)
    have k25 : ∀ t, Steps p.tables e below (T23.setTop (mkF m 41 #[.val (.ref ths), .val (.ref o), .val (.ref o)] [(.ref o), (.ref bt)])) t → Steps p.tables e below (s₁.setTop (entryFrame m #[(.ref ths), (.ref o)] 3)) t := by
      intro t kt
      refine k24 t ?_
      show Steps p.tables e below (T23.setTop (mkF m 40 #[.val (.ref ths), .val (.ref o), .val (.ref o)] [(.ref bt)])) t
      refine XS.aloadN X23.here hx rfl (hb hby d7_40) rfl rfl ?_
      exact kt
    obtain ⟨T26, X26, e26, st26⟩ := getF X23 hx hZ hown (host := "") (Or.inl (hw _ (List.mem_of_getElem? (i := 28) rfl))) Via.refl e23 Fo (g := (mkF m 41 #[.val (.ref ths), .val (.ref o), .val (.ref o)] [(.ref o), (.ref bt)])) rfl rfl (hb hby d7_41)
    have k27 : ∀ t, Steps p.tables e below (T26.setTop (mkF m 44 #[.val (.ref ths), .val (.ref o), .val (.ref o)] [(.ref bo), (.ref bt)])) t → Steps p.tables e below (s₁.setTop (entryFrame m #[(.ref ths), (.ref o)] 3)) t := fun t kt => k25 t (st26 t kt)
    obtain ⟨_, _, ⟨T28, L28, k28c, n28⟩, -, X28, ⟨Lc28, hQ28, l28, y28, z28⟩, st28⟩ := Jvm.LawKit.callS X26 hx (y := (⟨"java/lang/StringLatin1", "equals", "([B[B)Z"⟩ : MethodName)) hown (mvT hZ (hw _ (List.mem_of_getElem? (i := 42) rfl))) (mvT hZ (hw _ (List.mem_of_getElem? (i := 43) rfl))) (mvT hZ (hw _ (List.mem_of_getElem? (i := 44) rfl))) (mvT hZ (hw _ (List.mem_of_getElem? (i := 45) rfl))) (by decide) (backOf (W := 0) (rmL l Z a0 hw [] bt bo n by0 by1 by2 by3 x y z kct ko h0 n0 Z0 At Ao) hZ (hw _ (List.mem_of_getElem? (i := 45) rfl)) (hw _ (List.mem_of_getElem? (i := 44) rfl)) (by decide) (by decide)) (g := (mkF m 44 #[.val (.ref ths), .val (.ref o), .val (.ref o)] [(.ref bo), (.ref bt)])) rfl (by rw [hml]; rfl) (argsL := [(.ref bt), (.ref bo)]) (rest := []) (lenOf own_pd5 rfl) rfl (by show 2 * 0 + _ ≤ _; exact Nat.le_of_eq rfl) (hb hby d7_44) (fun _ _ => ⟨rfl, e26, (by decide : 0 + 0 ≤ _), (by decide : 0 + 0 ≤ _)⟩)
    dsimp only [Pt.U, Pt.locs, Pt.cells, Pt.slots] at X28 l28 y28 z28 st28 hQ28
    subst l28 y28 z28
    obtain ⟨rfl, N28q, e28⟩ := hQ28
    have N28 := Fr.app N0 N28q
    have k29 : ∀ t, Steps p.tables e below (T28.setTop (mkF m 47 #[.val (.ref ths), .val (.ref o), .val (.ref o)] [(.int (own_e n by0 by1 by2 x y z))])) t → Steps p.tables e below (s₁.setTop (entryFrame m #[(.ref ths), (.ref o)] 3)) t := fun t kt => k27 t (st28 t kt)
    by_cases hc47_30 : (own_e n by0 by1 by2 x y z) = (0 : Int32)
    · have k31 : ∀ t, Steps p.tables e below (T28.setTop (mkF m 55 #[.val (.ref ths), .val (.ref o), .val (.ref o)] [(.int (0 : Int32))])) t → Steps p.tables e below (s₁.setTop (entryFrame m #[(.ref ths), (.ref o)] 3)) t := by
        intro t kt
        refine k29 t ?_
        show Steps p.tables e below (T28.setTop (mkF m 47 #[.val (.ref ths), .val (.ref o), .val (.ref o)] [(.int (own_e n by0 by1 by2 x y z))])) t
        refine XS.ifYes X28.here hx rfl (pc0 := 47) (pc' := 54) rfl (hb hby d7_47) rfl ((if0 _ _).trans (teq hc47_30).1) (by decide) (by decide) ?_
        show Steps p.tables e below (T28.setTop (mkF m 54 #[.val (.ref ths), .val (.ref o), .val (.ref o)] [])) t
        refine XS.iconst X28.here hx rfl (hb hby d7_54) ?_
        exact kt
      obtain ⟨fs, hr, hrun, hended, hW, hsame⟩ := X28.leave (v := some (.int (0 : Int32))) (fun h => by rw [Bd.returns] at h; cases h)
      refine ⟨_, _, k31 _ ?_, hrun, hended, _, _, rfl, ?_, ⟨_, rfl⟩, hW, hsame.mono (by decide) (by decide)⟩
      · show Steps p.tables e below (T28.setTop (mkF m 55 #[.val (.ref ths), .val (.ref o), .val (.ref o)] [(.int (0 : Int32))])) _
        exact retN X28 hx (t := .boolean) Bd.returns (by simp) (hb hby d7_55) hr
      · show QE Z ths o bt bo n by0 by1 by2 by3 x y z kct ko cs h0 n0 _ T28.heap _
        rw [e28]
        refine ⟨congrArg (fun z => some (Value.int z)) ?_, N28, rfl⟩
        exact hc47_30.symm
    · have k32 : ∀ t, Steps p.tables e below (T28.setTop (mkF m 55 #[.val (.ref ths), .val (.ref o), .val (.ref o)] [(.int (1 : Int32))])) t → Steps p.tables e below (s₁.setTop (entryFrame m #[(.ref ths), (.ref o)] 3)) t := by
        intro t kt
        refine k29 t ?_
        show Steps p.tables e below (T28.setTop (mkF m 47 #[.val (.ref ths), .val (.ref o), .val (.ref o)] [(.int (own_e n by0 by1 by2 x y z))])) t
        refine XS.ifNo X28.here hx rfl (hb hby d7_47) rfl ((if0 _ _).trans (feq hc47_30).1) ?_
        show Steps p.tables e below (T28.setTop (mkF m 50 #[.val (.ref ths), .val (.ref o), .val (.ref o)] [])) t
        refine XS.iconst X28.here hx rfl (hb hby d7_50) ?_
        show Steps p.tables e below (T28.setTop (mkF m 51 #[.val (.ref ths), .val (.ref o), .val (.ref o)] [(.int (1 : Int32))])) t
        refine XS.goto X28.here hx rfl (pc0 := 51) (pc' := 55) rfl (hb hby d7_51) (by decide) (by decide) ?_
        exact kt
      obtain ⟨fs, hr, hrun, hended, hW, hsame⟩ := X28.leave (v := some (.int (1 : Int32))) (fun h => by rw [Bd.returns] at h; cases h)
      refine ⟨_, _, k32 _ ?_, hrun, hended, _, _, rfl, ?_, ⟨_, rfl⟩, hW, hsame.mono (by decide) (by decide)⟩
      · show Steps p.tables e below (T28.setTop (mkF m 55 #[.val (.ref ths), .val (.ref o), .val (.ref o)] [(.int (1 : Int32))])) _
        exact retN X28 hx (t := .boolean) Bd.returns (by simp) (hb hby d7_55) hr
      · show QE Z ths o bt bo n by0 by1 by2 by3 x y z kct ko cs h0 n0 _ T28.heap _
        rw [e28]
        refine ⟨congrArg (fun z => some (Value.int z)) ?_, N28, rfl⟩
        revert hc47_30; unfold own_e; split <;> simp
theorem d6_0 : decode prog_23_method_2_code 0 = .ok (.aload_n 0, 1) := by decide +kernel
theorem d6_1 : decode prog_23_method_2_code 1 = .ok (.ldc 39, 2) := by decide +kernel
theorem d6_3 : decode prog_23_method_2_code 3 = .ok (.invokevirtual 41, 3) := by decide +kernel
theorem d6_6 : decode prog_23_method_2_code 6 = .ok (.ifCond .ne 12, 3) := by decide +kernel
theorem d6_9 : decode prog_23_method_2_code 9 = .ok (.aload_n 0, 1) := by decide +kernel
theorem d6_10 : decode prog_23_method_2_code 10 = .ok (.ldc 47, 2) := by decide +kernel
theorem d6_12 : decode prog_23_method_2_code 12 = .ok (.invokevirtual 41, 3) := by decide +kernel
theorem d6_15 : decode prog_23_method_2_code 15 = .ok (.ifCond .eq 7, 3) := by decide +kernel
theorem d6_18 : decode prog_23_method_2_code 18 = .ok (.iconst 1, 1) := by decide +kernel
theorem d6_19 : decode prog_23_method_2_code 19 = .ok (.goto 4, 3) := by decide +kernel
theorem d6_22 : decode prog_23_method_2_code 22 = .ok (.iconst 0, 1) := by decide +kernel
theorem d6_23 : decode prog_23_method_2_code 23 = .ok (.ireturn, 1) := by decide +kernel
theorem own_pn4 : plainName "recensio/records/EditionField" = true := by first | (simp [plainName, overriddenIn]; done) | decide +kernel
theorem rmM_ef (m : MethodId) (x0 : Addr) : entryFrame m #[(.ref x0)] 1 = mkF m 0 #[.val (.ref x0)] [] := by first | (simp [entryFrame, mkF, argsToLocals, Value.category]; done) | rfl
def QM (Z : State) (ths : Addr) (bt : Addr) (kct : ClassId) (n : Int32) (by0 : Int32) (by1 : Int32) (by2 : Int32) (by3 : Int32) (cs : Int32) (h0 : Heap) (n0 : Nat) (v : Option Value) (h : Heap) (L : List Loc) : Prop := v = some (.int (own_m n by0 by1 by2)) ∧ Fr n0 L ∧ Keep h0 h []
theorem own_pd6 : parseMethodDescriptor "(Ljava/lang/Object;)Z" = some ⟨[(.object "java/lang/Object")], some .boolean⟩ := by decide +kernel
set_option maxRecDepth 65536 in
set_option maxHeartbeats 40000000 in
theorem rmM (l : Launch) (Z : State) (a0 : Array Value) (hw : ∀ d ∈ tables_1, d.before a0 Z = true) (ws : List Jvm.Cond) (ths : Addr) (bt : Addr) (kct : ClassId) (n : Int32) (by0 : Int32) (by1 : Int32) (by2 : Int32) (by3 : Int32) (cs : Int32) (h0 : Heap) (n0 : Nat) (Z0 : n0 ≤ h0.size) (Et : Exa Z h0 ths "java/lang/String") (Ft : Fld Z h0 ths "java/lang/String" "value" "[B" (.ref bt)) (Ct : Fld Z h0 ths "java/lang/String" "coder" "B" (.int (0 : Int32))) (At : Arv Z h0 bt kct .byte n [(.int by0), (.int by1), (.int by2), (.int by3)] (.int (0 : Int32))) (SC : Sta Z h0 "java/lang/String" "COMPACT_STRINGS" "Z" (.int cs)) (hcs : ¬ (cs = (0 : Int32))) :
    MetFree l (⟨"recensio/records/EditionField", "mayHoldEditionStatement", "(Ljava/lang/String;)Z"⟩ : MethodName) (head1 (Jvm.Cond.code (⟨"recensio/records/EditionField", "mayHoldEditionStatement", "(Ljava/lang/String;)Z"⟩ : MethodName) prog_23_method_2_code 1 (some .boolean) :: ws) ({ frames := 2, cells := 4, slots := 32, locals := 28 } : Room)) (fun aA' U => aA' = #[(.ref ths)] ∧ Z.Warmed39 U.vm ∧ U.heap = h0 ∧ CHv Z own_EL U.vm h0 ∧ ∀ xX' ∈ ([] : List Addr), Safe Z own_EL U.vm h0 xX') (fun _ _ _ _ _ => True) (fun _ U oO' U' => ∃ vV' L, oO' = .returned vV' ∧ QM Z ths bt kct n by0 by1 by2 by3 cs h0 n0 vV' U'.heap L ∧ CHr Z own_EL U.vm U.heap U'.vm U'.heap ∧ ReturnedEndW U oO' U' L ({ frames := 2, cells := 4, slots := 32, locals := 28 } : Room).cells ({ frames := 2, cells := 4, slots := 32, locals := 28 } : Room).slots) := by
  refine MetFree.of_bodySF (plainFor_of_name own_pn4) hisR ?_
  intro p e s m args below meth c s₁ Bd hml0 hP hK
  obtain ⟨rfl, hZ, hh, hC0, hSf⟩ := hP
  have hx := Bd.exec
  have hby := Bd.bytes
  have hml : c.maxLocals = 1 := hml0
  have hown : s.vm.findClass "recensio/records/EditionField" = some m.cls := findClass_of_methodNamed Bd.named
  have hnm := (name_of_methodNamed Bd.named Bd.method).1
  have X0 : Stand p l e ({ frames := 2, cells := 4, slots := 32, locals := 28 } : Room) (s.setVm s.vm) m #[(.ref ths)] below meth c s₁ [] 0 0 := Stand.of_body Bd
  have e0 : s₁.heap = h0 := by rw [← hh, Bd.state]; rfl
  have N0 := Fr.nil n0
  have K0 : Keep h0 h0 [] := Keep.refl _ _
  have k0 : ∀ t, Steps p.tables e below (s₁.setTop (mkF m 0 #[.val (.ref ths)] [])) t → Steps p.tables e below (s₁.setTop (entryFrame m #[(.ref ths)] 1)) t := fun t k => castTop (rmM_ef m (ths)) k
  have C0 : CHr Z own_EL s.vm h0 s.vm h0 := CHr.refl hC0
  have hS0 : s.Since s.vm 0 := (State.WarmedH.refl s).since 0
  have hk0 : 0 ≤ h0.size := Nat.zero_le _
  have hEL := own_EW hw
  have k1 : ∀ t, Steps p.tables e below (s₁.setTop (mkF m 1 #[.val (.ref ths)] [(.ref ths)])) t → Steps p.tables e below (s₁.setTop (entryFrame m #[(.ref ths)] 1)) t := by
    intro t kt
    refine k0 t ?_
    show Steps p.tables e below (s₁.setTop (mkF m 0 #[.val (.ref ths)] [])) t
    refine XS.aloadN X0.here hx rfl (hb hby d6_0) rfl rfl ?_
    exact kt
  obtain ⟨a2, T2, h2, j2, b2, c2, X2, e2, E2, hS2, hk2, hZ2, hown2, A2, Fc2, Fv2, V2, la2, lb2, Cn2, Li2, sf2, st2⟩ := ldcCH (s := s) (vm0 := s.vm) X0 hx hZ hown (hw _ (List.mem_of_getElem? (i := 34) rfl)) (own_wS hw) e0 hS0 hk0 hEL (List.mem_of_getElem? (i := 1) rfl) C0.1 (vs := [(.int (50 : Int32)), (.int (53 : Int32)), (.int (48 : Int32))]) (z := (3 : Int32)) ⟨by decide, by decide⟩ (by decide) rfl (g := (mkF m 1 #[.val (.ref ths)] [(.ref ths)])) rfl (hb hby d6_1) (n := 12) (by decide) (by decide) (by decide) (by decide)
  have C3 := CHr.trans C0 Cn2
  have F4 := Et.ext E2
  have F5 := Ft.ext E2
  have F6 := Ct.ext E2
  have F7 := SC.ext E2
  have F8 := At.ext E2
  have Z2 : n0 ≤ h2.size := Nat.le_trans Z0 E2.1
  have K2 : Keep h0 h2 [] := K0.ext E2
  have k9 : ∀ t, Steps p.tables e below (T2.setTop (mkF m 3 #[.val (.ref ths)] [(.ref a2), (.ref ths)])) t → Steps p.tables e below (s₁.setTop (entryFrame m #[(.ref ths)] 1)) t := fun t kt => k1 t (st2 t kt)
  obtain ⟨cq10, kq10, q10a, q10b, q10c⟩ := isOf hZ2 e2 F4
  obtain ⟨_, _, ⟨T10, L10, k10c, n10⟩, -, X10, ⟨Lc10, hQ10, l10, y10, z10⟩, st10⟩ := X2.virtualBack hx (y := (⟨"java/lang/String", "equals", "(Ljava/lang/Object;)Z"⟩ : MethodName)) (z := (⟨"java/lang/String", "equals", "(Ljava/lang/Object;)Z"⟩ : MethodName)) hown2 (mvT hZ2 (hw _ (List.mem_of_getElem? (i := 35) rfl))) (mvT hZ2 (hw _ (List.mem_of_getElem? (i := 36) rfl))) (notFace_of_selects (args := #[]) (mvT hZ2 (hw _ (List.mem_of_getElem? (i := 38) rfl)))) (mvT hZ2 (hw _ (List.mem_of_getElem? (i := 38) rfl))) (mvT hZ2 (hw _ (List.mem_of_getElem? (i := 37) rfl))) (by decide) (backOf (W := 0) (rmE l Z a0 hw [] ths a2 bt b2 n by0 by1 by2 by3 (50 : Int32) (53 : Int32) (48 : Int32) kct c2 cs h2 n0 Z2 F4 F5 F6 A2 Fv2 Fc2 F8 V2 F7 hcs) hZ2 (hw _ (List.mem_of_getElem? (i := 39) rfl)) (hw _ (List.mem_of_getElem? (i := 10) rfl)) (by decide) (by decide)) q10a q10c (g := (mkF m 3 #[.val (.ref ths)] [(.ref a2), (.ref ths)])) rfl (by rw [hml]; rfl) (Steps.refl _) (argsL := [(.ref a2)]) (rest := []) (lenOf own_pd6 rfl) rfl (by show 2 * 0 + _ ≤ _; exact Nat.le_of_eq rfl) (hb hby d6_3) (fun _ _ => ⟨rfl, e2, (by decide : 2 + 0 ≤ _), (by decide : 16 + 0 ≤ _)⟩)
  dsimp only [Pt.U, Pt.locs, Pt.cells, Pt.slots] at X10 l10 y10 z10 st10 hQ10
  subst l10 y10 z10
  obtain ⟨rfl, N10q, e10⟩ := hQ10
  have N10 := Fr.app N0 N10q
  have k11 : ∀ t, Steps p.tables e below (T10.setTop (mkF m 6 #[.val (.ref ths)] [(.int (own_e n by0 by1 by2 (50 : Int32) (53 : Int32) (48 : Int32)))])) t → Steps p.tables e below (s₁.setTop (entryFrame m #[(.ref ths)] 1)) t := fun t kt => k9 t (st10.trans kt)
  by_cases hc6_12 : (own_e n by0 by1 by2 (50 : Int32) (53 : Int32) (48 : Int32)) = (0 : Int32)
  · have k13 : ∀ t, Steps p.tables e below (T10.setTop (mkF m 10 #[.val (.ref ths)] [(.ref ths)])) t → Steps p.tables e below (s₁.setTop (entryFrame m #[(.ref ths)] 1)) t := by
      intro t kt
      refine k11 t ?_
      show Steps p.tables e below (T10.setTop (mkF m 6 #[.val (.ref ths)] [(.int (own_e n by0 by1 by2 (50 : Int32) (53 : Int32) (48 : Int32)))])) t
      refine XS.ifNo X10.here hx rfl (hb hby d6_6) rfl ((if0 _ _).trans (teq hc6_12).2) ?_
      show Steps p.tables e below (T10.setTop (mkF m 9 #[.val (.ref ths)] [])) t
      refine XS.aloadN X10.here hx rfl (hb hby d6_9) rfl rfl ?_
      exact kt
    obtain ⟨a14, T14, h14, j14, b14, c14, X14, e14, E14, hS14, hk14, hZ14, hown14, A14, Fc14, Fv14, V14, la14, lb14, Cn14, Li14, sf14, st14⟩ := ldcCH (s := s) (vm0 := T2.vm) X10 hx hZ2 hown2 (hw _ (List.mem_of_getElem? (i := 46) rfl)) (own_wS hw) e10 hS2 hk2 hEL (List.mem_of_getElem? (i := 2) rfl) C3.1 (vs := [(.int (56 : Int32)), (.int (56 : Int32)), (.int (48 : Int32))]) (z := (3 : Int32)) ⟨by decide, by decide⟩ (by decide) rfl (g := (mkF m 10 #[.val (.ref ths)] [(.ref ths)])) rfl (hb hby d6_10) (n := 12) (by decide) (by decide) (by decide) (by decide)
    have C15 := CHr.trans C3 Cn14
    have F16 := F4.ext E14
    have F17 := F5.ext E14
    have F18 := F6.ext E14
    have F19 := F7.ext E14
    have F20 := F8.ext E14
    have F21 := A2.ext E14
    have F22 := Fc2.ext E14
    have F23 := Fv2.ext E14
    have F24 := V2.ext E14
    have Z14 : n0 ≤ h14.size := Nat.le_trans Z2 E14.1
    have K14 : Keep h0 h14 [] := K2.ext E14
    have k25 : ∀ t, Steps p.tables e below (T14.setTop (mkF m 12 #[.val (.ref ths)] [(.ref a14), (.ref ths)])) t → Steps p.tables e below (s₁.setTop (entryFrame m #[(.ref ths)] 1)) t := fun t kt => k13 t (st14 t kt)
    obtain ⟨cq26, kq26, q26a, q26b, q26c⟩ := isOf hZ14 e14 F16
    obtain ⟨_, _, ⟨T26, L26, k26c, n26⟩, -, X26, ⟨Lc26, hQ26, l26, y26, z26⟩, st26⟩ := X14.virtualBack hx (y := (⟨"java/lang/String", "equals", "(Ljava/lang/Object;)Z"⟩ : MethodName)) (z := (⟨"java/lang/String", "equals", "(Ljava/lang/Object;)Z"⟩ : MethodName)) hown14 (mvT hZ14 (hw _ (List.mem_of_getElem? (i := 35) rfl))) (mvT hZ14 (hw _ (List.mem_of_getElem? (i := 36) rfl))) (notFace_of_selects (args := #[]) (mvT hZ14 (hw _ (List.mem_of_getElem? (i := 38) rfl)))) (mvT hZ14 (hw _ (List.mem_of_getElem? (i := 38) rfl))) (mvT hZ14 (hw _ (List.mem_of_getElem? (i := 37) rfl))) (by decide) (backOf (W := 0) (rmE l Z a0 hw [] ths a14 bt b14 n by0 by1 by2 by3 (56 : Int32) (56 : Int32) (48 : Int32) kct c14 cs h14 n0 Z14 F16 F17 F18 A14 Fv14 Fc14 F20 V14 F19 hcs) hZ14 (hw _ (List.mem_of_getElem? (i := 39) rfl)) (hw _ (List.mem_of_getElem? (i := 10) rfl)) (by decide) (by decide)) q26a q26c (g := (mkF m 12 #[.val (.ref ths)] [(.ref a14), (.ref ths)])) rfl (by rw [hml]; rfl) (Steps.refl _) (argsL := [(.ref a14)]) (rest := []) (lenOf own_pd6 rfl) rfl (by show 2 * 0 + _ ≤ _; exact Nat.le_of_eq rfl) (hb hby d6_12) (fun _ _ => ⟨rfl, e14, (by decide : 4 + 0 ≤ _), (by decide : 32 + 0 ≤ _)⟩)
    dsimp only [Pt.U, Pt.locs, Pt.cells, Pt.slots] at X26 l26 y26 z26 st26 hQ26
    subst l26 y26 z26
    obtain ⟨rfl, N26q, e26⟩ := hQ26
    have N26 := Fr.app N10 N26q
    have k27 : ∀ t, Steps p.tables e below (T26.setTop (mkF m 15 #[.val (.ref ths)] [(.int (own_e n by0 by1 by2 (56 : Int32) (56 : Int32) (48 : Int32)))])) t → Steps p.tables e below (s₁.setTop (entryFrame m #[(.ref ths)] 1)) t := fun t kt => k25 t (st26.trans kt)
    by_cases hc15_28 : (own_e n by0 by1 by2 (56 : Int32) (56 : Int32) (48 : Int32)) = (0 : Int32)
    · have k29 : ∀ t, Steps p.tables e below (T26.setTop (mkF m 23 #[.val (.ref ths)] [(.int (0 : Int32))])) t → Steps p.tables e below (s₁.setTop (entryFrame m #[(.ref ths)] 1)) t := by
        intro t kt
        refine k27 t ?_
        show Steps p.tables e below (T26.setTop (mkF m 15 #[.val (.ref ths)] [(.int (own_e n by0 by1 by2 (56 : Int32) (56 : Int32) (48 : Int32)))])) t
        refine XS.ifYes X26.here hx rfl (pc0 := 15) (pc' := 22) rfl (hb hby d6_15) rfl ((if0 _ _).trans (teq hc15_28).1) (by decide) (by decide) ?_
        show Steps p.tables e below (T26.setTop (mkF m 22 #[.val (.ref ths)] [])) t
        refine XS.iconst X26.here hx rfl (hb hby d6_22) ?_
        exact kt
      obtain ⟨fs, hr, hrun, hended, hRW⟩ := X26.leaveW hS14 (by rw [e26]; exact hk14) (v := some (.int (0 : Int32))) (fun h => by rw [Bd.returns] at h; cases h)
      refine ⟨_, _, k29 _ ?_, hrun, hended, _, _, rfl, ?_, ?_, hRW.1, hRW.2.1, hRW.2.2.1, hRW.2.2.2.mono (by decide) (by decide)⟩
      · show Steps p.tables e below (T26.setTop (mkF m 23 #[.val (.ref ths)] [(.int (0 : Int32))])) _
        exact retN X26 hx (t := .boolean) Bd.returns (by simp) (hb hby d6_23) hr
      · show QM Z ths bt kct n by0 by1 by2 by3 cs h0 n0 _ T26.heap _
        rw [e26]
        refine ⟨congrArg (fun z => some (Value.int z)) ?_, N26, K14⟩
        unfold own_m; simp [hc6_12, hc15_28]
      · show CHr Z own_EL s.vm s.heap T26.vm T26.heap
        rw [hh, e26]
        exact CHr.trans C15 (CHv.at (s := s) (vm0 := T14.vm) X26 hZ14 hEL C15.1)
    · have k30 : ∀ t, Steps p.tables e below (T26.setTop (mkF m 23 #[.val (.ref ths)] [(.int (1 : Int32))])) t → Steps p.tables e below (s₁.setTop (entryFrame m #[(.ref ths)] 1)) t := by
        intro t kt
        refine k27 t ?_
        show Steps p.tables e below (T26.setTop (mkF m 15 #[.val (.ref ths)] [(.int (own_e n by0 by1 by2 (56 : Int32) (56 : Int32) (48 : Int32)))])) t
        refine XS.ifNo X26.here hx rfl (hb hby d6_15) rfl ((if0 _ _).trans (feq hc15_28).1) ?_
        show Steps p.tables e below (T26.setTop (mkF m 18 #[.val (.ref ths)] [])) t
        refine XS.iconst X26.here hx rfl (hb hby d6_18) ?_
        show Steps p.tables e below (T26.setTop (mkF m 19 #[.val (.ref ths)] [(.int (1 : Int32))])) t
        refine XS.goto X26.here hx rfl (pc0 := 19) (pc' := 23) rfl (hb hby d6_19) (by decide) (by decide) ?_
        exact kt
      obtain ⟨fs, hr, hrun, hended, hRW⟩ := X26.leaveW hS14 (by rw [e26]; exact hk14) (v := some (.int (1 : Int32))) (fun h => by rw [Bd.returns] at h; cases h)
      refine ⟨_, _, k30 _ ?_, hrun, hended, _, _, rfl, ?_, ?_, hRW.1, hRW.2.1, hRW.2.2.1, hRW.2.2.2.mono (by decide) (by decide)⟩
      · show Steps p.tables e below (T26.setTop (mkF m 23 #[.val (.ref ths)] [(.int (1 : Int32))])) _
        exact retN X26 hx (t := .boolean) Bd.returns (by simp) (hb hby d6_23) hr
      · show QM Z ths bt kct n by0 by1 by2 by3 cs h0 n0 _ T26.heap _
        rw [e26]
        refine ⟨congrArg (fun z => some (Value.int z)) ?_, N26, K14⟩
        unfold own_m; simp [hc6_12, hc15_28]
      · show CHr Z own_EL s.vm s.heap T26.vm T26.heap
        rw [hh, e26]
        exact CHr.trans C15 (CHv.at (s := s) (vm0 := T14.vm) X26 hZ14 hEL C15.1)
  · have k31 : ∀ t, Steps p.tables e below (T10.setTop (mkF m 23 #[.val (.ref ths)] [(.int (1 : Int32))])) t → Steps p.tables e below (s₁.setTop (entryFrame m #[(.ref ths)] 1)) t := by
      intro t kt
      refine k11 t ?_
      show Steps p.tables e below (T10.setTop (mkF m 6 #[.val (.ref ths)] [(.int (own_e n by0 by1 by2 (50 : Int32) (53 : Int32) (48 : Int32)))])) t
      refine XS.ifYes X10.here hx rfl (pc0 := 6) (pc' := 18) rfl (hb hby d6_6) rfl ((if0 _ _).trans (feq hc6_12).2) (by decide) (by decide) ?_
      show Steps p.tables e below (T10.setTop (mkF m 18 #[.val (.ref ths)] [])) t
      refine XS.iconst X10.here hx rfl (hb hby d6_18) ?_
      show Steps p.tables e below (T10.setTop (mkF m 19 #[.val (.ref ths)] [(.int (1 : Int32))])) t
      refine XS.goto X10.here hx rfl (pc0 := 19) (pc' := 23) rfl (hb hby d6_19) (by decide) (by decide) ?_
      exact kt
    obtain ⟨fs, hr, hrun, hended, hRW⟩ := X10.leaveW hS2 (by rw [e10]; exact hk2) (v := some (.int (1 : Int32))) (fun h => by rw [Bd.returns] at h; cases h)
    refine ⟨_, _, k31 _ ?_, hrun, hended, _, _, rfl, ?_, ?_, hRW.1, hRW.2.1, hRW.2.2.1, hRW.2.2.2.mono (by decide) (by decide)⟩
    · show Steps p.tables e below (T10.setTop (mkF m 23 #[.val (.ref ths)] [(.int (1 : Int32))])) _
      exact retN X10 hx (t := .boolean) Bd.returns (by simp) (hb hby d6_23) hr
    · show QM Z ths bt kct n by0 by1 by2 by3 cs h0 n0 _ T10.heap _
      rw [e10]
      refine ⟨congrArg (fun z => some (Value.int z)) ?_, N10, K2⟩
      unfold own_m; simp [hc6_12]
    · show CHr Z own_EL s.vm s.heap T10.vm T10.heap
      rw [hh, e10]
      exact CHr.trans C3 (CHv.at (s := s) (vm0 := T2.vm) X10 hZ2 hEL C3.1)
theorem own_m5 (x : Int32) : ((x &&& (2147483647 : Int32)) % (5 : Int32)) = (0 : Int32) ∨ ((x &&& (2147483647 : Int32)) % (5 : Int32)) = (1 : Int32) ∨ ((x &&& (2147483647 : Int32)) % (5 : Int32)) = (2 : Int32) ∨ ((x &&& (2147483647 : Int32)) % (5 : Int32)) = (3 : Int32) ∨ ((x &&& (2147483647 : Int32)) % (5 : Int32)) = (4 : Int32) := by
  have h := (c_and x 2147483647 (by decide)).1
  have e := (c_irem (x &&& 2147483647) 5 5 rfl).1 h
  simp only [← Int32.toInt_inj]
  have e0 : (0 : Int32).toInt = 0 := rfl
  have e1 : (1 : Int32).toInt = 1 := rfl
  have e2 : (2 : Int32).toInt = 2 := rfl
  have e3 : (3 : Int32).toInt = 3 := rfl
  have e4 : (4 : Int32).toInt = 4 := rfl
  omega
theorem rm0_ef (m : MethodId) (x0 : Int32) (x1 : Int32) (x2 : Int32) (x3 : Int32) (x4 : Int32) (x5 : Int32) : entryFrame m #[(.int x0), (.int x1), (.int x2), (.int x3), (.int x4), (.int x5)] maxLocals = mkF m 0 #[.val (.int x0), .val (.int x1), .val (.int x2), .val (.int x3), .val (.int x4), .val (.int x5), .unset, .unset, .unset, .unset, .unset, .unset, .unset, .unset, .unset] [] := by first | (simp [entryFrame, mkF, argsToLocals, Value.category, maxLocals]; done) | rfl
def Q0 (Z : State) (p1 : Int32) (p2 : Int32) (p3 : Int32) (p4 : Int32) (p5 : Int32) (p6 : Int32) (cs : Int32) (h0 : Heap) (n0 : Nat) (v : Option Value) (h : Heap) (L : List Loc) : Prop := v = some (.int 1) ∧ Fr n0 L
theorem own_pd7 : parseMethodDescriptor "(IZ)C" = some ⟨[.int, .boolean], some .char⟩ := by decide +kernel
theorem own_pd8 : parseMethodDescriptor "(ICCCC)Ljava/lang/String;" = some ⟨[.int, .char, .char, .char, .char], some (.object "java/lang/String")⟩ := by decide +kernel
theorem own_pd9 : parseMethodDescriptor "(Ljava/lang/String;)Z" = some ⟨[(.object "java/lang/String")], some .boolean⟩ := by decide +kernel
set_option maxRecDepth 65536 in
set_option maxHeartbeats 40000000 in
theorem rm0 (l : Launch) (Z : State) (a0 : Array Value) (hw : ∀ d ∈ tables_1, d.before a0 Z = true) (ws : List Jvm.Cond) (p1 : Int32) (p2 : Int32) (p3 : Int32) (p4 : Int32) (p5 : Int32) (p6 : Int32) (cs : Int32) (h0 : Heap) (n0 : Nat) (Z0 : n0 ≤ h0.size) (O0 : Old Z n0 h0) (RC : Sta Z Z.heap "java/lang/String" "COMPACT_STRINGS" "Z" (.int cs)) (hcs : ¬ (cs = (0 : Int32))) :
    MetFree l x (head1 (Jvm.Cond.code x code maxLocals ret :: ws) room_1) (fun aA' U => aA' = #[(.int p1), (.int p2), (.int p3), (.int p4), (.int p5), (.int p6)] ∧ Z.Warmed39 U.vm ∧ U.heap = h0 ∧ CHv Z own_EL U.vm h0 ∧ ∀ xX' ∈ ([] : List Addr), Safe Z own_EL U.vm h0 xX') (fun _ _ _ _ _ => True) (fun _ U oO' U' => ∃ vV' L, oO' = .returned vV' ∧ Q0 Z p1 p2 p3 p4 p5 p6 cs h0 n0 vV' U'.heap L ∧ CHr Z own_EL U.vm U.heap U'.vm U'.heap ∧ ReturnedEndW U oO' U' L 24 3200) := by
  refine MetFree.of_bodySF (plainFor_of_name own_pn2) hisR ?_
  intro p e s m args below meth c s₁ Bd hml0 hP hK
  obtain ⟨rfl, hZ, hh, hC0, hSf⟩ := hP
  have hx := Bd.exec
  have hby := Bd.bytes
  have hml : c.maxLocals = 15 := hml0
  have hown : s.vm.findClass "recensio/records/EditionFieldMayHoldEditionStatementPinLaw" = some m.cls := findClass_of_methodNamed Bd.named
  have hnm := (name_of_methodNamed Bd.named Bd.method).1
  have X0 : Stand p l e room_1 (s.setVm s.vm) m #[(.int p1), (.int p2), (.int p3), (.int p4), (.int p5), (.int p6)] below meth c s₁ [] 0 0 := Stand.of_body Bd
  have e0 : s₁.heap = h0 := by rw [← hh, Bd.state]; rfl
  have N0 := Fr.nil n0
  have K0 : Keep h0 h0 [] := Keep.refl _ _
  have k0 : ∀ t, Steps p.tables e below (s₁.setTop (mkF m 0 #[.val (.int p1), .val (.int p2), .val (.int p3), .val (.int p4), .val (.int p5), .val (.int p6), .unset, .unset, .unset, .unset, .unset, .unset, .unset, .unset, .unset] [])) t → Steps p.tables e below (s₁.setTop (entryFrame m #[(.int p1), (.int p2), (.int p3), (.int p4), (.int p5), (.int p6)] maxLocals)) t := fun t k => castTop (rm0_ef m (p1) (p2) (p3) (p4) (p5) (p6)) k
  have C0 : CHr Z own_EL s.vm h0 s.vm h0 := CHr.refl hC0
  have hS0 : s.Since s.vm 0 := (State.WarmedH.refl s).since 0
  have hk0 : 0 ≤ h0.size := Nat.zero_le _
  have hEL := own_EW hw
  have k1 : ∀ t, Steps p.tables e below (s₁.setTop (mkF m 4 #[.val (.int p1), .val (.int p2), .val (.int p3), .val (.int p4), .val (.int p5), .val (.int p6), .unset, .unset, .unset, .unset, .unset, .unset, .unset, .unset, .unset] [(.int (p6 &&& (1 : Int32)))])) t → Steps p.tables e below (s₁.setTop (entryFrame m #[(.int p1), (.int p2), (.int p3), (.int p4), (.int p5), (.int p6)] maxLocals)) t := by
    intro t kt
    refine k0 t ?_
    show Steps p.tables e below (s₁.setTop (mkF m 0 #[.val (.int p1), .val (.int p2), .val (.int p3), .val (.int p4), .val (.int p5), .val (.int p6), .unset, .unset, .unset, .unset, .unset, .unset, .unset, .unset, .unset] [])) t
    refine XS.iload X0.here hx rfl (hb hby at_0) rfl ?_
    show Steps p.tables e below (s₁.setTop (mkF m 2 #[.val (.int p1), .val (.int p2), .val (.int p3), .val (.int p4), .val (.int p5), .val (.int p6), .unset, .unset, .unset, .unset, .unset, .unset, .unset, .unset, .unset] [(.int p6)])) t
    refine XS.iconst X0.here hx rfl (hb hby at_2) ?_
    show Steps p.tables e below (s₁.setTop (mkF m 3 #[.val (.int p1), .val (.int p2), .val (.int p3), .val (.int p4), .val (.int p5), .val (.int p6), .unset, .unset, .unset, .unset, .unset, .unset, .unset, .unset, .unset] [(.int (1 : Int32)), (.int p6)])) t
    refine XS.iand X0.here hx rfl (hb hby at_3) rfl ?_
    exact kt
  have k2 : ∀ t, Steps p.tables e below (s₁.setTop (mkF m 12 #[.val (.int p1), .val (.int p2), .val (.int p3), .val (.int p4), .val (.int p5), .val (.int p6), .unset, .unset, .unset, .unset, .unset, .unset, .unset, .unset, .unset] [(.int (if (p6 &&& (1 : Int32)) = (0 : Int32) then (0 : Int32) else (1 : Int32)))])) t → Steps p.tables e below (s₁.setTop (entryFrame m #[(.int p1), (.int p2), (.int p3), (.int p4), (.int p5), (.int p6)] maxLocals)) t := by
    intro t kt
    by_cases hc4_3 : (p6 &&& (1 : Int32)) = (0 : Int32)
    · have k4 : ∀ t, Steps p.tables e below (s₁.setTop (mkF m 12 #[.val (.int p1), .val (.int p2), .val (.int p3), .val (.int p4), .val (.int p5), .val (.int p6), .unset, .unset, .unset, .unset, .unset, .unset, .unset, .unset, .unset] [(.int (0 : Int32))])) t → Steps p.tables e below (s₁.setTop (entryFrame m #[(.int p1), (.int p2), (.int p3), (.int p4), (.int p5), (.int p6)] maxLocals)) t := by
        intro t kt
        refine k1 t ?_
        show Steps p.tables e below (s₁.setTop (mkF m 4 #[.val (.int p1), .val (.int p2), .val (.int p3), .val (.int p4), .val (.int p5), .val (.int p6), .unset, .unset, .unset, .unset, .unset, .unset, .unset, .unset, .unset] [(.int (p6 &&& (1 : Int32)))])) t
        refine XS.ifYes X0.here hx rfl (pc0 := 4) (pc' := 11) rfl (hb hby at_4) rfl ((if0 _ _).trans (teq hc4_3).1) (by decide) (by decide) ?_
        show Steps p.tables e below (s₁.setTop (mkF m 11 #[.val (.int p1), .val (.int p2), .val (.int p3), .val (.int p4), .val (.int p5), .val (.int p6), .unset, .unset, .unset, .unset, .unset, .unset, .unset, .unset, .unset] [])) t
        refine XS.iconst X0.here hx rfl (hb hby at_11) ?_
        exact kt
      rw [show ((if (p6 &&& (1 : Int32)) = (0 : Int32) then (0 : Int32) else (1 : Int32))) = (0 : Int32) from by first | exact if_pos hc4_3 | exact if_neg hc4_3 | (simp only [hc4_3, if_true, if_false]; done) | simp [hc4_3]] at kt
      exact k4 t kt
    · have k5 : ∀ t, Steps p.tables e below (s₁.setTop (mkF m 12 #[.val (.int p1), .val (.int p2), .val (.int p3), .val (.int p4), .val (.int p5), .val (.int p6), .unset, .unset, .unset, .unset, .unset, .unset, .unset, .unset, .unset] [(.int (1 : Int32))])) t → Steps p.tables e below (s₁.setTop (entryFrame m #[(.int p1), (.int p2), (.int p3), (.int p4), (.int p5), (.int p6)] maxLocals)) t := by
        intro t kt
        refine k1 t ?_
        show Steps p.tables e below (s₁.setTop (mkF m 4 #[.val (.int p1), .val (.int p2), .val (.int p3), .val (.int p4), .val (.int p5), .val (.int p6), .unset, .unset, .unset, .unset, .unset, .unset, .unset, .unset, .unset] [(.int (p6 &&& (1 : Int32)))])) t
        refine XS.ifNo X0.here hx rfl (hb hby at_4) rfl ((if0 _ _).trans (feq hc4_3).1) ?_
        show Steps p.tables e below (s₁.setTop (mkF m 7 #[.val (.int p1), .val (.int p2), .val (.int p3), .val (.int p4), .val (.int p5), .val (.int p6), .unset, .unset, .unset, .unset, .unset, .unset, .unset, .unset, .unset] [])) t
        refine XS.iconst X0.here hx rfl (hb hby at_7) ?_
        show Steps p.tables e below (s₁.setTop (mkF m 8 #[.val (.int p1), .val (.int p2), .val (.int p3), .val (.int p4), .val (.int p5), .val (.int p6), .unset, .unset, .unset, .unset, .unset, .unset, .unset, .unset, .unset] [(.int (1 : Int32))])) t
        refine XS.goto X0.here hx rfl (pc0 := 8) (pc' := 12) rfl (hb hby at_8) (by decide) (by decide) ?_
        exact kt
      rw [show ((if (p6 &&& (1 : Int32)) = (0 : Int32) then (0 : Int32) else (1 : Int32))) = (1 : Int32) from by first | exact if_pos hc4_3 | exact if_neg hc4_3 | (simp only [hc4_3, if_true, if_false]; done) | simp [hc4_3]] at kt
      exact k5 t kt
  have k6 : ∀ t, Steps p.tables e below (s₁.setTop (mkF m 25 #[.val (.int p1), .val (.int p2), .val (.int p3), .val (.int p4), .val (.int p5), .val (.int p6), .val (.int (if (p6 &&& (1 : Int32)) = (0 : Int32) then (0 : Int32) else (1 : Int32))), .val (.int ((p1 &&& (2147483647 : Int32)) % (5 : Int32))), .unset, .unset, .unset, .unset, .unset, .unset, .unset] [(.int (if (p6 &&& (1 : Int32)) = (0 : Int32) then (0 : Int32) else (1 : Int32))), (.int p2)])) t → Steps p.tables e below (s₁.setTop (entryFrame m #[(.int p1), (.int p2), (.int p3), (.int p4), (.int p5), (.int p6)] maxLocals)) t := by
    intro t kt
    refine k2 t ?_
    show Steps p.tables e below (s₁.setTop (mkF m 12 #[.val (.int p1), .val (.int p2), .val (.int p3), .val (.int p4), .val (.int p5), .val (.int p6), .unset, .unset, .unset, .unset, .unset, .unset, .unset, .unset, .unset] [(.int (if (p6 &&& (1 : Int32)) = (0 : Int32) then (0 : Int32) else (1 : Int32)))])) t
    refine XS.istore X0.here hx rfl (hb hby at_12) rfl (l' := #[.val (.int p1), .val (.int p2), .val (.int p3), .val (.int p4), .val (.int p5), .val (.int p6), .val (.int (if (p6 &&& (1 : Int32)) = (0 : Int32) then (0 : Int32) else (1 : Int32))), .unset, .unset, .unset, .unset, .unset, .unset, .unset, .unset]) rfl ?_
    show Steps p.tables e below (s₁.setTop (mkF m 14 #[.val (.int p1), .val (.int p2), .val (.int p3), .val (.int p4), .val (.int p5), .val (.int p6), .val (.int (if (p6 &&& (1 : Int32)) = (0 : Int32) then (0 : Int32) else (1 : Int32))), .unset, .unset, .unset, .unset, .unset, .unset, .unset, .unset] [])) t
    refine XS.iloadN X0.here hx rfl (hb hby at_14) rfl ?_
    show Steps p.tables e below (s₁.setTop (mkF m 15 #[.val (.int p1), .val (.int p2), .val (.int p3), .val (.int p4), .val (.int p5), .val (.int p6), .val (.int (if (p6 &&& (1 : Int32)) = (0 : Int32) then (0 : Int32) else (1 : Int32))), .unset, .unset, .unset, .unset, .unset, .unset, .unset, .unset] [(.int p1)])) t
    refine X0.ldcInt hx hown (mvT hZ (hw _ (List.mem_of_getElem? (i := 0) rfl))) (g := (mkF m 15 #[.val (.int p1), .val (.int p2), .val (.int p3), .val (.int p4), .val (.int p5), .val (.int p6), .val (.int (if (p6 &&& (1 : Int32)) = (0 : Int32) then (0 : Int32) else (1 : Int32))), .unset, .unset, .unset, .unset, .unset, .unset, .unset, .unset] [(.int p1)])) rfl (hb hby at_15) _ ?_
    show Steps p.tables e below (s₁.setTop (mkF m 17 #[.val (.int p1), .val (.int p2), .val (.int p3), .val (.int p4), .val (.int p5), .val (.int p6), .val (.int (if (p6 &&& (1 : Int32)) = (0 : Int32) then (0 : Int32) else (1 : Int32))), .unset, .unset, .unset, .unset, .unset, .unset, .unset, .unset] [(.int (2147483647 : Int32)), (.int p1)])) t
    refine XS.iand X0.here hx rfl (hb hby at_17) rfl ?_
    show Steps p.tables e below (s₁.setTop (mkF m 18 #[.val (.int p1), .val (.int p2), .val (.int p3), .val (.int p4), .val (.int p5), .val (.int p6), .val (.int (if (p6 &&& (1 : Int32)) = (0 : Int32) then (0 : Int32) else (1 : Int32))), .unset, .unset, .unset, .unset, .unset, .unset, .unset, .unset] [(.int (p1 &&& (2147483647 : Int32)))])) t
    refine XS.iconst X0.here hx rfl (hb hby at_18) ?_
    show Steps p.tables e below (s₁.setTop (mkF m 19 #[.val (.int p1), .val (.int p2), .val (.int p3), .val (.int p4), .val (.int p5), .val (.int p6), .val (.int (if (p6 &&& (1 : Int32)) = (0 : Int32) then (0 : Int32) else (1 : Int32))), .unset, .unset, .unset, .unset, .unset, .unset, .unset, .unset] [(.int (5 : Int32)), (.int (p1 &&& (2147483647 : Int32)))])) t
    refine iremM X0 hx rfl (hb hby at_19) rfl (by decide) ?_
    show Steps p.tables e below (s₁.setTop (mkF m 20 #[.val (.int p1), .val (.int p2), .val (.int p3), .val (.int p4), .val (.int p5), .val (.int p6), .val (.int (if (p6 &&& (1 : Int32)) = (0 : Int32) then (0 : Int32) else (1 : Int32))), .unset, .unset, .unset, .unset, .unset, .unset, .unset, .unset] [(.int ((p1 &&& (2147483647 : Int32)) % (5 : Int32)))])) t
    refine XS.istore X0.here hx rfl (hb hby at_20) rfl (l' := #[.val (.int p1), .val (.int p2), .val (.int p3), .val (.int p4), .val (.int p5), .val (.int p6), .val (.int (if (p6 &&& (1 : Int32)) = (0 : Int32) then (0 : Int32) else (1 : Int32))), .val (.int ((p1 &&& (2147483647 : Int32)) % (5 : Int32))), .unset, .unset, .unset, .unset, .unset, .unset, .unset]) rfl ?_
    show Steps p.tables e below (s₁.setTop (mkF m 22 #[.val (.int p1), .val (.int p2), .val (.int p3), .val (.int p4), .val (.int p5), .val (.int p6), .val (.int (if (p6 &&& (1 : Int32)) = (0 : Int32) then (0 : Int32) else (1 : Int32))), .val (.int ((p1 &&& (2147483647 : Int32)) % (5 : Int32))), .unset, .unset, .unset, .unset, .unset, .unset, .unset] [])) t
    refine XS.iloadN X0.here hx rfl (hb hby at_22) rfl ?_
    show Steps p.tables e below (s₁.setTop (mkF m 23 #[.val (.int p1), .val (.int p2), .val (.int p3), .val (.int p4), .val (.int p5), .val (.int p6), .val (.int (if (p6 &&& (1 : Int32)) = (0 : Int32) then (0 : Int32) else (1 : Int32))), .val (.int ((p1 &&& (2147483647 : Int32)) % (5 : Int32))), .unset, .unset, .unset, .unset, .unset, .unset, .unset] [(.int p2)])) t
    refine XS.iload X0.here hx rfl (hb hby at_23) rfl ?_
    exact kt
  obtain ⟨_, _, ⟨T7, L7, k7c, n7⟩, -, X7, ⟨Lc7, hQ7, l7, y7, z7⟩, st7⟩ := Jvm.LawKit.callS X0 hx (y := (⟨"recensio/records/EditionFieldMayHoldEditionStatementPinLaw", "ch", "(IZ)C"⟩ : MethodName)) hown (mvT hZ (hw _ (List.mem_of_getElem? (i := 1) rfl))) (mvT hZ (hw _ (List.mem_of_getElem? (i := 2) rfl))) (mvT hZ (hw _ (List.mem_of_getElem? (i := 3) rfl))) (mvT hZ (hw _ (List.mem_of_getElem? (i := 4) rfl))) (by decide) (backOf (W := 0) (rmCh l Z a0 hw [] p2 (if (p6 &&& (1 : Int32)) = (0 : Int32) then (0 : Int32) else (1 : Int32)) h0 n0 Z0) hZ (hw _ (List.mem_of_getElem? (i := 4) rfl)) (hw _ (List.mem_of_getElem? (i := 3) rfl)) (by decide) (by decide)) (g := (mkF m 25 #[.val (.int p1), .val (.int p2), .val (.int p3), .val (.int p4), .val (.int p5), .val (.int p6), .val (.int (if (p6 &&& (1 : Int32)) = (0 : Int32) then (0 : Int32) else (1 : Int32))), .val (.int ((p1 &&& (2147483647 : Int32)) % (5 : Int32))), .unset, .unset, .unset, .unset, .unset, .unset, .unset] [(.int (if (p6 &&& (1 : Int32)) = (0 : Int32) then (0 : Int32) else (1 : Int32))), (.int p2)])) rfl (by rw [hml]; rfl) (argsL := [(.int p2), (.int (if (p6 &&& (1 : Int32)) = (0 : Int32) then (0 : Int32) else (1 : Int32)))]) (rest := []) (lenOf own_pd7 rfl) rfl (by show 2 * 0 + _ ≤ _; exact Nat.le_of_eq rfl) (hb hby at_25) (fun _ _ => ⟨rfl, e0, (by decide : 0 + 0 ≤ _), (by decide : 0 + 0 ≤ _)⟩)
  dsimp only [Pt.U, Pt.locs, Pt.cells, Pt.slots] at X7 l7 y7 z7 st7 hQ7
  subst l7 y7 z7
  obtain ⟨c7, rfl, q7, N7q, e7⟩ := hQ7
  have N7 := Fr.app N0 N7q
  have k8 : ∀ t, Steps p.tables e below (T7.setTop (mkF m 28 #[.val (.int p1), .val (.int p2), .val (.int p3), .val (.int p4), .val (.int p5), .val (.int p6), .val (.int (if (p6 &&& (1 : Int32)) = (0 : Int32) then (0 : Int32) else (1 : Int32))), .val (.int ((p1 &&& (2147483647 : Int32)) % (5 : Int32))), .unset, .unset, .unset, .unset, .unset, .unset, .unset] [(.int c7)])) t → Steps p.tables e below (s₁.setTop (entryFrame m #[(.int p1), (.int p2), (.int p3), (.int p4), (.int p5), (.int p6)] maxLocals)) t := fun t kt => k6 t (st7 t kt)
  have k9 : ∀ t, Steps p.tables e below (T7.setTop (mkF m 33 #[.val (.int p1), .val (.int p2), .val (.int p3), .val (.int p4), .val (.int p5), .val (.int p6), .val (.int (if (p6 &&& (1 : Int32)) = (0 : Int32) then (0 : Int32) else (1 : Int32))), .val (.int ((p1 &&& (2147483647 : Int32)) % (5 : Int32))), .val (.int c7), .unset, .unset, .unset, .unset, .unset, .unset] [(.int (if (p6 &&& (1 : Int32)) = (0 : Int32) then (0 : Int32) else (1 : Int32))), (.int p3)])) t → Steps p.tables e below (s₁.setTop (entryFrame m #[(.int p1), (.int p2), (.int p3), (.int p4), (.int p5), (.int p6)] maxLocals)) t := by
    intro t kt
    refine k8 t ?_
    show Steps p.tables e below (T7.setTop (mkF m 28 #[.val (.int p1), .val (.int p2), .val (.int p3), .val (.int p4), .val (.int p5), .val (.int p6), .val (.int (if (p6 &&& (1 : Int32)) = (0 : Int32) then (0 : Int32) else (1 : Int32))), .val (.int ((p1 &&& (2147483647 : Int32)) % (5 : Int32))), .unset, .unset, .unset, .unset, .unset, .unset, .unset] [(.int c7)])) t
    refine XS.istore X7.here hx rfl (hb hby at_28) rfl (l' := #[.val (.int p1), .val (.int p2), .val (.int p3), .val (.int p4), .val (.int p5), .val (.int p6), .val (.int (if (p6 &&& (1 : Int32)) = (0 : Int32) then (0 : Int32) else (1 : Int32))), .val (.int ((p1 &&& (2147483647 : Int32)) % (5 : Int32))), .val (.int c7), .unset, .unset, .unset, .unset, .unset, .unset]) rfl ?_
    show Steps p.tables e below (T7.setTop (mkF m 30 #[.val (.int p1), .val (.int p2), .val (.int p3), .val (.int p4), .val (.int p5), .val (.int p6), .val (.int (if (p6 &&& (1 : Int32)) = (0 : Int32) then (0 : Int32) else (1 : Int32))), .val (.int ((p1 &&& (2147483647 : Int32)) % (5 : Int32))), .val (.int c7), .unset, .unset, .unset, .unset, .unset, .unset] [])) t
    refine XS.iloadN X7.here hx rfl (hb hby at_30) rfl ?_
    show Steps p.tables e below (T7.setTop (mkF m 31 #[.val (.int p1), .val (.int p2), .val (.int p3), .val (.int p4), .val (.int p5), .val (.int p6), .val (.int (if (p6 &&& (1 : Int32)) = (0 : Int32) then (0 : Int32) else (1 : Int32))), .val (.int ((p1 &&& (2147483647 : Int32)) % (5 : Int32))), .val (.int c7), .unset, .unset, .unset, .unset, .unset, .unset] [(.int p3)])) t
    refine XS.iload X7.here hx rfl (hb hby at_31) rfl ?_
    exact kt
  obtain ⟨_, _, ⟨T10, L10, k10c, n10⟩, -, X10, ⟨Lc10, hQ10, l10, y10, z10⟩, st10⟩ := Jvm.LawKit.callS X7 hx (y := (⟨"recensio/records/EditionFieldMayHoldEditionStatementPinLaw", "ch", "(IZ)C"⟩ : MethodName)) hown (mvT hZ (hw _ (List.mem_of_getElem? (i := 1) rfl))) (mvT hZ (hw _ (List.mem_of_getElem? (i := 2) rfl))) (mvT hZ (hw _ (List.mem_of_getElem? (i := 3) rfl))) (mvT hZ (hw _ (List.mem_of_getElem? (i := 4) rfl))) (by decide) (backOf (W := 0) (rmCh l Z a0 hw [] p3 (if (p6 &&& (1 : Int32)) = (0 : Int32) then (0 : Int32) else (1 : Int32)) h0 n0 Z0) hZ (hw _ (List.mem_of_getElem? (i := 4) rfl)) (hw _ (List.mem_of_getElem? (i := 3) rfl)) (by decide) (by decide)) (g := (mkF m 33 #[.val (.int p1), .val (.int p2), .val (.int p3), .val (.int p4), .val (.int p5), .val (.int p6), .val (.int (if (p6 &&& (1 : Int32)) = (0 : Int32) then (0 : Int32) else (1 : Int32))), .val (.int ((p1 &&& (2147483647 : Int32)) % (5 : Int32))), .val (.int c7), .unset, .unset, .unset, .unset, .unset, .unset] [(.int (if (p6 &&& (1 : Int32)) = (0 : Int32) then (0 : Int32) else (1 : Int32))), (.int p3)])) rfl (by rw [hml]; rfl) (argsL := [(.int p3), (.int (if (p6 &&& (1 : Int32)) = (0 : Int32) then (0 : Int32) else (1 : Int32)))]) (rest := []) (lenOf own_pd7 rfl) rfl (by show 2 * 0 + _ ≤ _; exact Nat.le_of_eq rfl) (hb hby at_33) (fun _ _ => ⟨rfl, e7, (by decide : 0 + 0 ≤ _), (by decide : 0 + 0 ≤ _)⟩)
  dsimp only [Pt.U, Pt.locs, Pt.cells, Pt.slots] at X10 l10 y10 z10 st10 hQ10
  subst l10 y10 z10
  obtain ⟨c10, rfl, q10, N10q, e10⟩ := hQ10
  have N10 := Fr.app N7 N10q
  have k11 : ∀ t, Steps p.tables e below (T10.setTop (mkF m 36 #[.val (.int p1), .val (.int p2), .val (.int p3), .val (.int p4), .val (.int p5), .val (.int p6), .val (.int (if (p6 &&& (1 : Int32)) = (0 : Int32) then (0 : Int32) else (1 : Int32))), .val (.int ((p1 &&& (2147483647 : Int32)) % (5 : Int32))), .val (.int c7), .unset, .unset, .unset, .unset, .unset, .unset] [(.int c10)])) t → Steps p.tables e below (s₁.setTop (entryFrame m #[(.int p1), (.int p2), (.int p3), (.int p4), (.int p5), (.int p6)] maxLocals)) t := fun t kt => k9 t (st10 t kt)
  have k12 : ∀ t, Steps p.tables e below (T10.setTop (mkF m 41 #[.val (.int p1), .val (.int p2), .val (.int p3), .val (.int p4), .val (.int p5), .val (.int p6), .val (.int (if (p6 &&& (1 : Int32)) = (0 : Int32) then (0 : Int32) else (1 : Int32))), .val (.int ((p1 &&& (2147483647 : Int32)) % (5 : Int32))), .val (.int c7), .val (.int c10), .unset, .unset, .unset, .unset, .unset] [(.int (if (p6 &&& (1 : Int32)) = (0 : Int32) then (0 : Int32) else (1 : Int32))), (.int p4)])) t → Steps p.tables e below (s₁.setTop (entryFrame m #[(.int p1), (.int p2), (.int p3), (.int p4), (.int p5), (.int p6)] maxLocals)) t := by
    intro t kt
    refine k11 t ?_
    show Steps p.tables e below (T10.setTop (mkF m 36 #[.val (.int p1), .val (.int p2), .val (.int p3), .val (.int p4), .val (.int p5), .val (.int p6), .val (.int (if (p6 &&& (1 : Int32)) = (0 : Int32) then (0 : Int32) else (1 : Int32))), .val (.int ((p1 &&& (2147483647 : Int32)) % (5 : Int32))), .val (.int c7), .unset, .unset, .unset, .unset, .unset, .unset] [(.int c10)])) t
    refine XS.istore X10.here hx rfl (hb hby at_36) rfl (l' := #[.val (.int p1), .val (.int p2), .val (.int p3), .val (.int p4), .val (.int p5), .val (.int p6), .val (.int (if (p6 &&& (1 : Int32)) = (0 : Int32) then (0 : Int32) else (1 : Int32))), .val (.int ((p1 &&& (2147483647 : Int32)) % (5 : Int32))), .val (.int c7), .val (.int c10), .unset, .unset, .unset, .unset, .unset]) rfl ?_
    show Steps p.tables e below (T10.setTop (mkF m 38 #[.val (.int p1), .val (.int p2), .val (.int p3), .val (.int p4), .val (.int p5), .val (.int p6), .val (.int (if (p6 &&& (1 : Int32)) = (0 : Int32) then (0 : Int32) else (1 : Int32))), .val (.int ((p1 &&& (2147483647 : Int32)) % (5 : Int32))), .val (.int c7), .val (.int c10), .unset, .unset, .unset, .unset, .unset] [])) t
    refine XS.iloadN X10.here hx rfl (hb hby at_38) rfl ?_
    show Steps p.tables e below (T10.setTop (mkF m 39 #[.val (.int p1), .val (.int p2), .val (.int p3), .val (.int p4), .val (.int p5), .val (.int p6), .val (.int (if (p6 &&& (1 : Int32)) = (0 : Int32) then (0 : Int32) else (1 : Int32))), .val (.int ((p1 &&& (2147483647 : Int32)) % (5 : Int32))), .val (.int c7), .val (.int c10), .unset, .unset, .unset, .unset, .unset] [(.int p4)])) t
    refine XS.iload X10.here hx rfl (hb hby at_39) rfl ?_
    exact kt
  obtain ⟨_, _, ⟨T13, L13, k13c, n13⟩, -, X13, ⟨Lc13, hQ13, l13, y13, z13⟩, st13⟩ := Jvm.LawKit.callS X10 hx (y := (⟨"recensio/records/EditionFieldMayHoldEditionStatementPinLaw", "ch", "(IZ)C"⟩ : MethodName)) hown (mvT hZ (hw _ (List.mem_of_getElem? (i := 1) rfl))) (mvT hZ (hw _ (List.mem_of_getElem? (i := 2) rfl))) (mvT hZ (hw _ (List.mem_of_getElem? (i := 3) rfl))) (mvT hZ (hw _ (List.mem_of_getElem? (i := 4) rfl))) (by decide) (backOf (W := 0) (rmCh l Z a0 hw [] p4 (if (p6 &&& (1 : Int32)) = (0 : Int32) then (0 : Int32) else (1 : Int32)) h0 n0 Z0) hZ (hw _ (List.mem_of_getElem? (i := 4) rfl)) (hw _ (List.mem_of_getElem? (i := 3) rfl)) (by decide) (by decide)) (g := (mkF m 41 #[.val (.int p1), .val (.int p2), .val (.int p3), .val (.int p4), .val (.int p5), .val (.int p6), .val (.int (if (p6 &&& (1 : Int32)) = (0 : Int32) then (0 : Int32) else (1 : Int32))), .val (.int ((p1 &&& (2147483647 : Int32)) % (5 : Int32))), .val (.int c7), .val (.int c10), .unset, .unset, .unset, .unset, .unset] [(.int (if (p6 &&& (1 : Int32)) = (0 : Int32) then (0 : Int32) else (1 : Int32))), (.int p4)])) rfl (by rw [hml]; rfl) (argsL := [(.int p4), (.int (if (p6 &&& (1 : Int32)) = (0 : Int32) then (0 : Int32) else (1 : Int32)))]) (rest := []) (lenOf own_pd7 rfl) rfl (by show 2 * 0 + _ ≤ _; exact Nat.le_of_eq rfl) (hb hby at_41) (fun _ _ => ⟨rfl, e10, (by decide : 0 + 0 ≤ _), (by decide : 0 + 0 ≤ _)⟩)
  dsimp only [Pt.U, Pt.locs, Pt.cells, Pt.slots] at X13 l13 y13 z13 st13 hQ13
  subst l13 y13 z13
  obtain ⟨c13, rfl, q13, N13q, e13⟩ := hQ13
  have N13 := Fr.app N10 N13q
  have k14 : ∀ t, Steps p.tables e below (T13.setTop (mkF m 44 #[.val (.int p1), .val (.int p2), .val (.int p3), .val (.int p4), .val (.int p5), .val (.int p6), .val (.int (if (p6 &&& (1 : Int32)) = (0 : Int32) then (0 : Int32) else (1 : Int32))), .val (.int ((p1 &&& (2147483647 : Int32)) % (5 : Int32))), .val (.int c7), .val (.int c10), .unset, .unset, .unset, .unset, .unset] [(.int c13)])) t → Steps p.tables e below (s₁.setTop (entryFrame m #[(.int p1), (.int p2), (.int p3), (.int p4), (.int p5), (.int p6)] maxLocals)) t := fun t kt => k12 t (st13 t kt)
  have k15 : ∀ t, Steps p.tables e below (T13.setTop (mkF m 50 #[.val (.int p1), .val (.int p2), .val (.int p3), .val (.int p4), .val (.int p5), .val (.int p6), .val (.int (if (p6 &&& (1 : Int32)) = (0 : Int32) then (0 : Int32) else (1 : Int32))), .val (.int ((p1 &&& (2147483647 : Int32)) % (5 : Int32))), .val (.int c7), .val (.int c10), .val (.int c13), .unset, .unset, .unset, .unset] [(.int (if (p6 &&& (1 : Int32)) = (0 : Int32) then (0 : Int32) else (1 : Int32))), (.int p5)])) t → Steps p.tables e below (s₁.setTop (entryFrame m #[(.int p1), (.int p2), (.int p3), (.int p4), (.int p5), (.int p6)] maxLocals)) t := by
    intro t kt
    refine k14 t ?_
    show Steps p.tables e below (T13.setTop (mkF m 44 #[.val (.int p1), .val (.int p2), .val (.int p3), .val (.int p4), .val (.int p5), .val (.int p6), .val (.int (if (p6 &&& (1 : Int32)) = (0 : Int32) then (0 : Int32) else (1 : Int32))), .val (.int ((p1 &&& (2147483647 : Int32)) % (5 : Int32))), .val (.int c7), .val (.int c10), .unset, .unset, .unset, .unset, .unset] [(.int c13)])) t
    refine XS.istore X13.here hx rfl (hb hby at_44) rfl (l' := #[.val (.int p1), .val (.int p2), .val (.int p3), .val (.int p4), .val (.int p5), .val (.int p6), .val (.int (if (p6 &&& (1 : Int32)) = (0 : Int32) then (0 : Int32) else (1 : Int32))), .val (.int ((p1 &&& (2147483647 : Int32)) % (5 : Int32))), .val (.int c7), .val (.int c10), .val (.int c13), .unset, .unset, .unset, .unset]) rfl ?_
    show Steps p.tables e below (T13.setTop (mkF m 46 #[.val (.int p1), .val (.int p2), .val (.int p3), .val (.int p4), .val (.int p5), .val (.int p6), .val (.int (if (p6 &&& (1 : Int32)) = (0 : Int32) then (0 : Int32) else (1 : Int32))), .val (.int ((p1 &&& (2147483647 : Int32)) % (5 : Int32))), .val (.int c7), .val (.int c10), .val (.int c13), .unset, .unset, .unset, .unset] [])) t
    refine XS.iload X13.here hx rfl (hb hby at_46) rfl ?_
    show Steps p.tables e below (T13.setTop (mkF m 48 #[.val (.int p1), .val (.int p2), .val (.int p3), .val (.int p4), .val (.int p5), .val (.int p6), .val (.int (if (p6 &&& (1 : Int32)) = (0 : Int32) then (0 : Int32) else (1 : Int32))), .val (.int ((p1 &&& (2147483647 : Int32)) % (5 : Int32))), .val (.int c7), .val (.int c10), .val (.int c13), .unset, .unset, .unset, .unset] [(.int p5)])) t
    refine XS.iload X13.here hx rfl (hb hby at_48) rfl ?_
    exact kt
  obtain ⟨_, _, ⟨T16, L16, k16c, n16⟩, -, X16, ⟨Lc16, hQ16, l16, y16, z16⟩, st16⟩ := Jvm.LawKit.callS X13 hx (y := (⟨"recensio/records/EditionFieldMayHoldEditionStatementPinLaw", "ch", "(IZ)C"⟩ : MethodName)) hown (mvT hZ (hw _ (List.mem_of_getElem? (i := 1) rfl))) (mvT hZ (hw _ (List.mem_of_getElem? (i := 2) rfl))) (mvT hZ (hw _ (List.mem_of_getElem? (i := 3) rfl))) (mvT hZ (hw _ (List.mem_of_getElem? (i := 4) rfl))) (by decide) (backOf (W := 0) (rmCh l Z a0 hw [] p5 (if (p6 &&& (1 : Int32)) = (0 : Int32) then (0 : Int32) else (1 : Int32)) h0 n0 Z0) hZ (hw _ (List.mem_of_getElem? (i := 4) rfl)) (hw _ (List.mem_of_getElem? (i := 3) rfl)) (by decide) (by decide)) (g := (mkF m 50 #[.val (.int p1), .val (.int p2), .val (.int p3), .val (.int p4), .val (.int p5), .val (.int p6), .val (.int (if (p6 &&& (1 : Int32)) = (0 : Int32) then (0 : Int32) else (1 : Int32))), .val (.int ((p1 &&& (2147483647 : Int32)) % (5 : Int32))), .val (.int c7), .val (.int c10), .val (.int c13), .unset, .unset, .unset, .unset] [(.int (if (p6 &&& (1 : Int32)) = (0 : Int32) then (0 : Int32) else (1 : Int32))), (.int p5)])) rfl (by rw [hml]; rfl) (argsL := [(.int p5), (.int (if (p6 &&& (1 : Int32)) = (0 : Int32) then (0 : Int32) else (1 : Int32)))]) (rest := []) (lenOf own_pd7 rfl) rfl (by show 2 * 0 + _ ≤ _; exact Nat.le_of_eq rfl) (hb hby at_50) (fun _ _ => ⟨rfl, e13, (by decide : 0 + 0 ≤ _), (by decide : 0 + 0 ≤ _)⟩)
  dsimp only [Pt.U, Pt.locs, Pt.cells, Pt.slots] at X16 l16 y16 z16 st16 hQ16
  subst l16 y16 z16
  obtain ⟨c16, rfl, q16, N16q, e16⟩ := hQ16
  have N16 := Fr.app N13 N16q
  have k17 : ∀ t, Steps p.tables e below (T16.setTop (mkF m 53 #[.val (.int p1), .val (.int p2), .val (.int p3), .val (.int p4), .val (.int p5), .val (.int p6), .val (.int (if (p6 &&& (1 : Int32)) = (0 : Int32) then (0 : Int32) else (1 : Int32))), .val (.int ((p1 &&& (2147483647 : Int32)) % (5 : Int32))), .val (.int c7), .val (.int c10), .val (.int c13), .unset, .unset, .unset, .unset] [(.int c16)])) t → Steps p.tables e below (s₁.setTop (entryFrame m #[(.int p1), (.int p2), (.int p3), (.int p4), (.int p5), (.int p6)] maxLocals)) t := fun t kt => k15 t (st16 t kt)
  have k18 : ∀ t, Steps p.tables e below (T16.setTop (mkF m 65 #[.val (.int p1), .val (.int p2), .val (.int p3), .val (.int p4), .val (.int p5), .val (.int p6), .val (.int (if (p6 &&& (1 : Int32)) = (0 : Int32) then (0 : Int32) else (1 : Int32))), .val (.int ((p1 &&& (2147483647 : Int32)) % (5 : Int32))), .val (.int c7), .val (.int c10), .val (.int c13), .val (.int c16), .unset, .unset, .unset] [(.int c16), (.int c13), (.int c10), (.int c7), (.int ((p1 &&& (2147483647 : Int32)) % (5 : Int32)))])) t → Steps p.tables e below (s₁.setTop (entryFrame m #[(.int p1), (.int p2), (.int p3), (.int p4), (.int p5), (.int p6)] maxLocals)) t := by
    intro t kt
    refine k17 t ?_
    show Steps p.tables e below (T16.setTop (mkF m 53 #[.val (.int p1), .val (.int p2), .val (.int p3), .val (.int p4), .val (.int p5), .val (.int p6), .val (.int (if (p6 &&& (1 : Int32)) = (0 : Int32) then (0 : Int32) else (1 : Int32))), .val (.int ((p1 &&& (2147483647 : Int32)) % (5 : Int32))), .val (.int c7), .val (.int c10), .val (.int c13), .unset, .unset, .unset, .unset] [(.int c16)])) t
    refine XS.istore X16.here hx rfl (hb hby at_53) rfl (l' := #[.val (.int p1), .val (.int p2), .val (.int p3), .val (.int p4), .val (.int p5), .val (.int p6), .val (.int (if (p6 &&& (1 : Int32)) = (0 : Int32) then (0 : Int32) else (1 : Int32))), .val (.int ((p1 &&& (2147483647 : Int32)) % (5 : Int32))), .val (.int c7), .val (.int c10), .val (.int c13), .val (.int c16), .unset, .unset, .unset]) rfl ?_
    show Steps p.tables e below (T16.setTop (mkF m 55 #[.val (.int p1), .val (.int p2), .val (.int p3), .val (.int p4), .val (.int p5), .val (.int p6), .val (.int (if (p6 &&& (1 : Int32)) = (0 : Int32) then (0 : Int32) else (1 : Int32))), .val (.int ((p1 &&& (2147483647 : Int32)) % (5 : Int32))), .val (.int c7), .val (.int c10), .val (.int c13), .val (.int c16), .unset, .unset, .unset] [])) t
    refine XS.iload X16.here hx rfl (hb hby at_55) rfl ?_
    show Steps p.tables e below (T16.setTop (mkF m 57 #[.val (.int p1), .val (.int p2), .val (.int p3), .val (.int p4), .val (.int p5), .val (.int p6), .val (.int (if (p6 &&& (1 : Int32)) = (0 : Int32) then (0 : Int32) else (1 : Int32))), .val (.int ((p1 &&& (2147483647 : Int32)) % (5 : Int32))), .val (.int c7), .val (.int c10), .val (.int c13), .val (.int c16), .unset, .unset, .unset] [(.int ((p1 &&& (2147483647 : Int32)) % (5 : Int32)))])) t
    refine XS.iload X16.here hx rfl (hb hby at_57) rfl ?_
    show Steps p.tables e below (T16.setTop (mkF m 59 #[.val (.int p1), .val (.int p2), .val (.int p3), .val (.int p4), .val (.int p5), .val (.int p6), .val (.int (if (p6 &&& (1 : Int32)) = (0 : Int32) then (0 : Int32) else (1 : Int32))), .val (.int ((p1 &&& (2147483647 : Int32)) % (5 : Int32))), .val (.int c7), .val (.int c10), .val (.int c13), .val (.int c16), .unset, .unset, .unset] [(.int c7), (.int ((p1 &&& (2147483647 : Int32)) % (5 : Int32)))])) t
    refine XS.iload X16.here hx rfl (hb hby at_59) rfl ?_
    show Steps p.tables e below (T16.setTop (mkF m 61 #[.val (.int p1), .val (.int p2), .val (.int p3), .val (.int p4), .val (.int p5), .val (.int p6), .val (.int (if (p6 &&& (1 : Int32)) = (0 : Int32) then (0 : Int32) else (1 : Int32))), .val (.int ((p1 &&& (2147483647 : Int32)) % (5 : Int32))), .val (.int c7), .val (.int c10), .val (.int c13), .val (.int c16), .unset, .unset, .unset] [(.int c10), (.int c7), (.int ((p1 &&& (2147483647 : Int32)) % (5 : Int32)))])) t
    refine XS.iload X16.here hx rfl (hb hby at_61) rfl ?_
    show Steps p.tables e below (T16.setTop (mkF m 63 #[.val (.int p1), .val (.int p2), .val (.int p3), .val (.int p4), .val (.int p5), .val (.int p6), .val (.int (if (p6 &&& (1 : Int32)) = (0 : Int32) then (0 : Int32) else (1 : Int32))), .val (.int ((p1 &&& (2147483647 : Int32)) % (5 : Int32))), .val (.int c7), .val (.int c10), .val (.int c13), .val (.int c16), .unset, .unset, .unset] [(.int c13), (.int c10), (.int c7), (.int ((p1 &&& (2147483647 : Int32)) % (5 : Int32)))])) t
    refine XS.iload X16.here hx rfl (hb hby at_63) rfl ?_
    exact kt
  obtain ⟨_, _, ⟨T19, L19, k19c, n19⟩, -, Y19, hS19p, hg19, ⟨Lc19, hQ19, l19, y19, z19, Cn19⟩, st19⟩ := callSS X16 hx (y := (⟨"recensio/records/EditionFieldMayHoldEditionStatementPinLaw", "str", "(ICCCC)Ljava/lang/String;"⟩ : MethodName)) hown (mvT hZ (hw _ (List.mem_of_getElem? (i := 5) rfl))) (mvT hZ (hw _ (List.mem_of_getElem? (i := 6) rfl))) (mvT hZ (hw _ (List.mem_of_getElem? (i := 3) rfl))) (mvT hZ (hw _ (List.mem_of_getElem? (i := 7) rfl))) (by decide) (own_backSH (s := s) (vm0 := s.vm) (W := 0) (rmStr l Z a0 hw [] ((p1 &&& (2147483647 : Int32)) % (5 : Int32)) c7 c10 c13 c16 cs h0 n0 Z0 (Sta.ext O0.2 RC) hcs (own_m5 _) q7 q10 q13 q16) hZ (hw _ (List.mem_of_getElem? (i := 7) rfl)) (hw _ (List.mem_of_getElem? (i := 3) rfl)) (by decide) (by decide) hEL C0.1 (fun _ q => nomatch q)) (g := (mkF m 65 #[.val (.int p1), .val (.int p2), .val (.int p3), .val (.int p4), .val (.int p5), .val (.int p6), .val (.int (if (p6 &&& (1 : Int32)) = (0 : Int32) then (0 : Int32) else (1 : Int32))), .val (.int ((p1 &&& (2147483647 : Int32)) % (5 : Int32))), .val (.int c7), .val (.int c10), .val (.int c13), .val (.int c16), .unset, .unset, .unset] [(.int c16), (.int c13), (.int c10), (.int c7), (.int ((p1 &&& (2147483647 : Int32)) % (5 : Int32)))])) rfl (by rw [hml]; rfl) (argsL := [(.int ((p1 &&& (2147483647 : Int32)) % (5 : Int32))), (.int c7), (.int c10), (.int c13), (.int c16)]) (rest := []) (lenOf own_pd8 rfl) rfl (by show 2 * 0 + _ ≤ _; exact Nat.le_of_eq rfl) (hb hby at_65) (fun _ _ => ⟨rfl, e16, (by decide : 0 + 4 ≤ _), (by decide : 0 + 12 ≤ _)⟩)
  dsimp only [Pt.U, Pt.locs, Pt.cells, Pt.slots] at Y19 hS19p hg19 l19 y19 z19 st19 hQ19 Cn19
  subst l19 y19 z19
  obtain ⟨X19, hS19, hZ19, hown19⟩ := rebS hS0 (by rw [e16]; exact hk0) Y19 hS19p hg19 hZ hown
  have hk19 := Nat.le_refl T19.heap.size
  obtain ⟨r19, b19, c19k, rfl, N19q, K19k, s19z, E19r, Fv19, Fc19, A19⟩ := hQ19
  have N19 := Fr.app N16 N19q
  have g_r19 : n0 ≤ r19 := Nat.le_trans Z0 s19z
  have sz_r19 : h0.size ≤ r19 := Nat.le_trans K0.1 s19z
  have C20 := CHr.trans C0 Cn19
  have F21 := O0.keep K19k all0
  have F22 := Sta.ext F21.2 RC
  have Z23 : n0 ≤ T19.heap.size := Nat.le_trans Z0 K19k.1
  have K23 : Keep h0 T19.heap [] := K0.trans K19k all0
  have k24 : ∀ t, Steps p.tables e below (T19.setTop (mkF m 68 #[.val (.int p1), .val (.int p2), .val (.int p3), .val (.int p4), .val (.int p5), .val (.int p6), .val (.int (if (p6 &&& (1 : Int32)) = (0 : Int32) then (0 : Int32) else (1 : Int32))), .val (.int ((p1 &&& (2147483647 : Int32)) % (5 : Int32))), .val (.int c7), .val (.int c10), .val (.int c13), .val (.int c16), .unset, .unset, .unset] [(.ref r19)])) t → Steps p.tables e below (s₁.setTop (entryFrame m #[(.int p1), (.int p2), (.int p3), (.int p4), (.int p5), (.int p6)] maxLocals)) t := fun t kt => k18 t (st19.trans kt)
  have k25 : ∀ t, Steps p.tables e below (T19.setTop (mkF m 76 #[.val (.int p1), .val (.int p2), .val (.int p3), .val (.int p4), .val (.int p5), .val (.int p6), .val (.int (if (p6 &&& (1 : Int32)) = (0 : Int32) then (0 : Int32) else (1 : Int32))), .val (.int ((p1 &&& (2147483647 : Int32)) % (5 : Int32))), .val (.int c7), .val (.int c10), .val (.int c13), .val (.int c16), .val (.ref r19), .val (.int (0 : Int32)), .unset] [(.int (3 : Int32)), (.int ((p1 &&& (2147483647 : Int32)) % (5 : Int32)))])) t → Steps p.tables e below (s₁.setTop (entryFrame m #[(.int p1), (.int p2), (.int p3), (.int p4), (.int p5), (.int p6)] maxLocals)) t := by
    intro t kt
    refine k24 t ?_
    show Steps p.tables e below (T19.setTop (mkF m 68 #[.val (.int p1), .val (.int p2), .val (.int p3), .val (.int p4), .val (.int p5), .val (.int p6), .val (.int (if (p6 &&& (1 : Int32)) = (0 : Int32) then (0 : Int32) else (1 : Int32))), .val (.int ((p1 &&& (2147483647 : Int32)) % (5 : Int32))), .val (.int c7), .val (.int c10), .val (.int c13), .val (.int c16), .unset, .unset, .unset] [(.ref r19)])) t
    refine XS.astore X19.here hx rfl (hb hby at_68) rfl rfl (l' := #[.val (.int p1), .val (.int p2), .val (.int p3), .val (.int p4), .val (.int p5), .val (.int p6), .val (.int (if (p6 &&& (1 : Int32)) = (0 : Int32) then (0 : Int32) else (1 : Int32))), .val (.int ((p1 &&& (2147483647 : Int32)) % (5 : Int32))), .val (.int c7), .val (.int c10), .val (.int c13), .val (.int c16), .val (.ref r19), .unset, .unset]) rfl ?_
    show Steps p.tables e below (T19.setTop (mkF m 70 #[.val (.int p1), .val (.int p2), .val (.int p3), .val (.int p4), .val (.int p5), .val (.int p6), .val (.int (if (p6 &&& (1 : Int32)) = (0 : Int32) then (0 : Int32) else (1 : Int32))), .val (.int ((p1 &&& (2147483647 : Int32)) % (5 : Int32))), .val (.int c7), .val (.int c10), .val (.int c13), .val (.int c16), .val (.ref r19), .unset, .unset] [])) t
    refine XS.iconst X19.here hx rfl (hb hby at_70) ?_
    show Steps p.tables e below (T19.setTop (mkF m 71 #[.val (.int p1), .val (.int p2), .val (.int p3), .val (.int p4), .val (.int p5), .val (.int p6), .val (.int (if (p6 &&& (1 : Int32)) = (0 : Int32) then (0 : Int32) else (1 : Int32))), .val (.int ((p1 &&& (2147483647 : Int32)) % (5 : Int32))), .val (.int c7), .val (.int c10), .val (.int c13), .val (.int c16), .val (.ref r19), .unset, .unset] [(.int (0 : Int32))])) t
    refine XS.istore X19.here hx rfl (hb hby at_71) rfl (l' := #[.val (.int p1), .val (.int p2), .val (.int p3), .val (.int p4), .val (.int p5), .val (.int p6), .val (.int (if (p6 &&& (1 : Int32)) = (0 : Int32) then (0 : Int32) else (1 : Int32))), .val (.int ((p1 &&& (2147483647 : Int32)) % (5 : Int32))), .val (.int c7), .val (.int c10), .val (.int c13), .val (.int c16), .val (.ref r19), .val (.int (0 : Int32)), .unset]) rfl ?_
    show Steps p.tables e below (T19.setTop (mkF m 73 #[.val (.int p1), .val (.int p2), .val (.int p3), .val (.int p4), .val (.int p5), .val (.int p6), .val (.int (if (p6 &&& (1 : Int32)) = (0 : Int32) then (0 : Int32) else (1 : Int32))), .val (.int ((p1 &&& (2147483647 : Int32)) % (5 : Int32))), .val (.int c7), .val (.int c10), .val (.int c13), .val (.int c16), .val (.ref r19), .val (.int (0 : Int32)), .unset] [])) t
    refine XS.iload X19.here hx rfl (hb hby at_73) rfl ?_
    show Steps p.tables e below (T19.setTop (mkF m 75 #[.val (.int p1), .val (.int p2), .val (.int p3), .val (.int p4), .val (.int p5), .val (.int p6), .val (.int (if (p6 &&& (1 : Int32)) = (0 : Int32) then (0 : Int32) else (1 : Int32))), .val (.int ((p1 &&& (2147483647 : Int32)) % (5 : Int32))), .val (.int c7), .val (.int c10), .val (.int c13), .val (.int c16), .val (.ref r19), .val (.int (0 : Int32)), .unset] [(.int ((p1 &&& (2147483647 : Int32)) % (5 : Int32)))])) t
    refine XS.iconst X19.here hx rfl (hb hby at_75) ?_
    exact kt
  have k26 : ∀ t, Steps p.tables e below (T19.setTop (mkF m 127 #[.val (.int p1), .val (.int p2), .val (.int p3), .val (.int p4), .val (.int p5), .val (.int p6), .val (.int (if (p6 &&& (1 : Int32)) = (0 : Int32) then (0 : Int32) else (1 : Int32))), .val (.int ((p1 &&& (2147483647 : Int32)) % (5 : Int32))), .val (.int c7), .val (.int c10), .val (.int c13), .val (.int c16), .val (.ref r19), .val (.int (own_x ((p1 &&& (2147483647 : Int32)) % (5 : Int32)) c7 c10 c13)), .unset] [])) t → Steps p.tables e below (s₁.setTop (entryFrame m #[(.int p1), (.int p2), (.int p3), (.int p4), (.int p5), (.int p6)] maxLocals)) t := by
    intro t kt
    by_cases hc76_27 : ((p1 &&& (2147483647 : Int32)) % (5 : Int32)) = (3 : Int32)
    · have k29 : ∀ t, Steps p.tables e below (T19.setTop (mkF m 83 #[.val (.int p1), .val (.int p2), .val (.int p3), .val (.int p4), .val (.int p5), .val (.int p6), .val (.int (if (p6 &&& (1 : Int32)) = (0 : Int32) then (0 : Int32) else (1 : Int32))), .val (.int ((p1 &&& (2147483647 : Int32)) % (5 : Int32))), .val (.int c7), .val (.int c10), .val (.int c13), .val (.int c16), .val (.ref r19), .val (.int (0 : Int32)), .unset] [(.int (50 : Int32)), (.int c7)])) t → Steps p.tables e below (s₁.setTop (entryFrame m #[(.int p1), (.int p2), (.int p3), (.int p4), (.int p5), (.int p6)] maxLocals)) t := by
        intro t kt
        refine k25 t ?_
        show Steps p.tables e below (T19.setTop (mkF m 76 #[.val (.int p1), .val (.int p2), .val (.int p3), .val (.int p4), .val (.int p5), .val (.int p6), .val (.int (if (p6 &&& (1 : Int32)) = (0 : Int32) then (0 : Int32) else (1 : Int32))), .val (.int ((p1 &&& (2147483647 : Int32)) % (5 : Int32))), .val (.int c7), .val (.int c10), .val (.int c13), .val (.int c16), .val (.ref r19), .val (.int (0 : Int32)), .unset] [(.int (3 : Int32)), (.int ((p1 &&& (2147483647 : Int32)) % (5 : Int32)))])) t
        refine XS.icmpNo X19.here hx rfl (hb hby at_76) rfl (teq hc76_27).2 ?_
        show Steps p.tables e below (T19.setTop (mkF m 79 #[.val (.int p1), .val (.int p2), .val (.int p3), .val (.int p4), .val (.int p5), .val (.int p6), .val (.int (if (p6 &&& (1 : Int32)) = (0 : Int32) then (0 : Int32) else (1 : Int32))), .val (.int ((p1 &&& (2147483647 : Int32)) % (5 : Int32))), .val (.int c7), .val (.int c10), .val (.int c13), .val (.int c16), .val (.ref r19), .val (.int (0 : Int32)), .unset] [])) t
        refine XS.iload X19.here hx rfl (hb hby at_79) rfl ?_
        show Steps p.tables e below (T19.setTop (mkF m 81 #[.val (.int p1), .val (.int p2), .val (.int p3), .val (.int p4), .val (.int p5), .val (.int p6), .val (.int (if (p6 &&& (1 : Int32)) = (0 : Int32) then (0 : Int32) else (1 : Int32))), .val (.int ((p1 &&& (2147483647 : Int32)) % (5 : Int32))), .val (.int c7), .val (.int c10), .val (.int c13), .val (.int c16), .val (.ref r19), .val (.int (0 : Int32)), .unset] [(.int c7)])) t
        refine XS.bipush X19.here hx rfl (hb hby at_81) ?_
        exact kt
      by_cases hc83_28 : c7 = (50 : Int32)
      · have k31 : ∀ t, Steps p.tables e below (T19.setTop (mkF m 90 #[.val (.int p1), .val (.int p2), .val (.int p3), .val (.int p4), .val (.int p5), .val (.int p6), .val (.int (if (p6 &&& (1 : Int32)) = (0 : Int32) then (0 : Int32) else (1 : Int32))), .val (.int ((p1 &&& (2147483647 : Int32)) % (5 : Int32))), .val (.int c7), .val (.int c10), .val (.int c13), .val (.int c16), .val (.ref r19), .val (.int (0 : Int32)), .unset] [(.int (53 : Int32)), (.int c10)])) t → Steps p.tables e below (s₁.setTop (entryFrame m #[(.int p1), (.int p2), (.int p3), (.int p4), (.int p5), (.int p6)] maxLocals)) t := by
          intro t kt
          refine k29 t ?_
          show Steps p.tables e below (T19.setTop (mkF m 83 #[.val (.int p1), .val (.int p2), .val (.int p3), .val (.int p4), .val (.int p5), .val (.int p6), .val (.int (if (p6 &&& (1 : Int32)) = (0 : Int32) then (0 : Int32) else (1 : Int32))), .val (.int ((p1 &&& (2147483647 : Int32)) % (5 : Int32))), .val (.int c7), .val (.int c10), .val (.int c13), .val (.int c16), .val (.ref r19), .val (.int (0 : Int32)), .unset] [(.int (50 : Int32)), (.int c7)])) t
          refine XS.icmpNo X19.here hx rfl (hb hby at_83) rfl (teq hc83_28).2 ?_
          show Steps p.tables e below (T19.setTop (mkF m 86 #[.val (.int p1), .val (.int p2), .val (.int p3), .val (.int p4), .val (.int p5), .val (.int p6), .val (.int (if (p6 &&& (1 : Int32)) = (0 : Int32) then (0 : Int32) else (1 : Int32))), .val (.int ((p1 &&& (2147483647 : Int32)) % (5 : Int32))), .val (.int c7), .val (.int c10), .val (.int c13), .val (.int c16), .val (.ref r19), .val (.int (0 : Int32)), .unset] [])) t
          refine XS.iload X19.here hx rfl (hb hby at_86) rfl ?_
          show Steps p.tables e below (T19.setTop (mkF m 88 #[.val (.int p1), .val (.int p2), .val (.int p3), .val (.int p4), .val (.int p5), .val (.int p6), .val (.int (if (p6 &&& (1 : Int32)) = (0 : Int32) then (0 : Int32) else (1 : Int32))), .val (.int ((p1 &&& (2147483647 : Int32)) % (5 : Int32))), .val (.int c7), .val (.int c10), .val (.int c13), .val (.int c16), .val (.ref r19), .val (.int (0 : Int32)), .unset] [(.int c10)])) t
          refine XS.bipush X19.here hx rfl (hb hby at_88) ?_
          exact kt
        by_cases hc90_30 : c10 = (53 : Int32)
        · have k33 : ∀ t, Steps p.tables e below (T19.setTop (mkF m 97 #[.val (.int p1), .val (.int p2), .val (.int p3), .val (.int p4), .val (.int p5), .val (.int p6), .val (.int (if (p6 &&& (1 : Int32)) = (0 : Int32) then (0 : Int32) else (1 : Int32))), .val (.int ((p1 &&& (2147483647 : Int32)) % (5 : Int32))), .val (.int c7), .val (.int c10), .val (.int c13), .val (.int c16), .val (.ref r19), .val (.int (0 : Int32)), .unset] [(.int (48 : Int32)), (.int c13)])) t → Steps p.tables e below (s₁.setTop (entryFrame m #[(.int p1), (.int p2), (.int p3), (.int p4), (.int p5), (.int p6)] maxLocals)) t := by
            intro t kt
            refine k31 t ?_
            show Steps p.tables e below (T19.setTop (mkF m 90 #[.val (.int p1), .val (.int p2), .val (.int p3), .val (.int p4), .val (.int p5), .val (.int p6), .val (.int (if (p6 &&& (1 : Int32)) = (0 : Int32) then (0 : Int32) else (1 : Int32))), .val (.int ((p1 &&& (2147483647 : Int32)) % (5 : Int32))), .val (.int c7), .val (.int c10), .val (.int c13), .val (.int c16), .val (.ref r19), .val (.int (0 : Int32)), .unset] [(.int (53 : Int32)), (.int c10)])) t
            refine XS.icmpNo X19.here hx rfl (hb hby at_90) rfl (teq hc90_30).2 ?_
            show Steps p.tables e below (T19.setTop (mkF m 93 #[.val (.int p1), .val (.int p2), .val (.int p3), .val (.int p4), .val (.int p5), .val (.int p6), .val (.int (if (p6 &&& (1 : Int32)) = (0 : Int32) then (0 : Int32) else (1 : Int32))), .val (.int ((p1 &&& (2147483647 : Int32)) % (5 : Int32))), .val (.int c7), .val (.int c10), .val (.int c13), .val (.int c16), .val (.ref r19), .val (.int (0 : Int32)), .unset] [])) t
            refine XS.iload X19.here hx rfl (hb hby at_93) rfl ?_
            show Steps p.tables e below (T19.setTop (mkF m 95 #[.val (.int p1), .val (.int p2), .val (.int p3), .val (.int p4), .val (.int p5), .val (.int p6), .val (.int (if (p6 &&& (1 : Int32)) = (0 : Int32) then (0 : Int32) else (1 : Int32))), .val (.int ((p1 &&& (2147483647 : Int32)) % (5 : Int32))), .val (.int c7), .val (.int c10), .val (.int c13), .val (.int c16), .val (.ref r19), .val (.int (0 : Int32)), .unset] [(.int c13)])) t
            refine XS.bipush X19.here hx rfl (hb hby at_95) ?_
            exact kt
          by_cases hc97_32 : c13 = (48 : Int32)
          · have k35 : ∀ t, Steps p.tables e below (T19.setTop (mkF m 107 #[.val (.int p1), .val (.int p2), .val (.int p3), .val (.int p4), .val (.int p5), .val (.int p6), .val (.int (if (p6 &&& (1 : Int32)) = (0 : Int32) then (0 : Int32) else (1 : Int32))), .val (.int ((p1 &&& (2147483647 : Int32)) % (5 : Int32))), .val (.int c7), .val (.int c10), .val (.int c13), .val (.int c16), .val (.ref r19), .val (.int (1 : Int32)), .unset] [(.int (56 : Int32)), (.int c7)])) t → Steps p.tables e below (s₁.setTop (entryFrame m #[(.int p1), (.int p2), (.int p3), (.int p4), (.int p5), (.int p6)] maxLocals)) t := by
              intro t kt
              refine k33 t ?_
              show Steps p.tables e below (T19.setTop (mkF m 97 #[.val (.int p1), .val (.int p2), .val (.int p3), .val (.int p4), .val (.int p5), .val (.int p6), .val (.int (if (p6 &&& (1 : Int32)) = (0 : Int32) then (0 : Int32) else (1 : Int32))), .val (.int ((p1 &&& (2147483647 : Int32)) % (5 : Int32))), .val (.int c7), .val (.int c10), .val (.int c13), .val (.int c16), .val (.ref r19), .val (.int (0 : Int32)), .unset] [(.int (48 : Int32)), (.int c13)])) t
              refine XS.icmpNo X19.here hx rfl (hb hby at_97) rfl (teq hc97_32).2 ?_
              show Steps p.tables e below (T19.setTop (mkF m 100 #[.val (.int p1), .val (.int p2), .val (.int p3), .val (.int p4), .val (.int p5), .val (.int p6), .val (.int (if (p6 &&& (1 : Int32)) = (0 : Int32) then (0 : Int32) else (1 : Int32))), .val (.int ((p1 &&& (2147483647 : Int32)) % (5 : Int32))), .val (.int c7), .val (.int c10), .val (.int c13), .val (.int c16), .val (.ref r19), .val (.int (0 : Int32)), .unset] [])) t
              refine XS.iconst X19.here hx rfl (hb hby at_100) ?_
              show Steps p.tables e below (T19.setTop (mkF m 101 #[.val (.int p1), .val (.int p2), .val (.int p3), .val (.int p4), .val (.int p5), .val (.int p6), .val (.int (if (p6 &&& (1 : Int32)) = (0 : Int32) then (0 : Int32) else (1 : Int32))), .val (.int ((p1 &&& (2147483647 : Int32)) % (5 : Int32))), .val (.int c7), .val (.int c10), .val (.int c13), .val (.int c16), .val (.ref r19), .val (.int (0 : Int32)), .unset] [(.int (1 : Int32))])) t
              refine XS.istore X19.here hx rfl (hb hby at_101) rfl (l' := #[.val (.int p1), .val (.int p2), .val (.int p3), .val (.int p4), .val (.int p5), .val (.int p6), .val (.int (if (p6 &&& (1 : Int32)) = (0 : Int32) then (0 : Int32) else (1 : Int32))), .val (.int ((p1 &&& (2147483647 : Int32)) % (5 : Int32))), .val (.int c7), .val (.int c10), .val (.int c13), .val (.int c16), .val (.ref r19), .val (.int (1 : Int32)), .unset]) rfl ?_
              show Steps p.tables e below (T19.setTop (mkF m 103 #[.val (.int p1), .val (.int p2), .val (.int p3), .val (.int p4), .val (.int p5), .val (.int p6), .val (.int (if (p6 &&& (1 : Int32)) = (0 : Int32) then (0 : Int32) else (1 : Int32))), .val (.int ((p1 &&& (2147483647 : Int32)) % (5 : Int32))), .val (.int c7), .val (.int c10), .val (.int c13), .val (.int c16), .val (.ref r19), .val (.int (1 : Int32)), .unset] [])) t
              refine XS.iload X19.here hx rfl (hb hby at_103) rfl ?_
              show Steps p.tables e below (T19.setTop (mkF m 105 #[.val (.int p1), .val (.int p2), .val (.int p3), .val (.int p4), .val (.int p5), .val (.int p6), .val (.int (if (p6 &&& (1 : Int32)) = (0 : Int32) then (0 : Int32) else (1 : Int32))), .val (.int ((p1 &&& (2147483647 : Int32)) % (5 : Int32))), .val (.int c7), .val (.int c10), .val (.int c13), .val (.int c16), .val (.ref r19), .val (.int (1 : Int32)), .unset] [(.int c7)])) t
              refine XS.bipush X19.here hx rfl (hb hby at_105) ?_
              exact kt
            have hc107_34 : ¬ (c7 = (56 : Int32)) := by rw [hc83_28]; decide
            have k36 : ∀ t, Steps p.tables e below (T19.setTop (mkF m 127 #[.val (.int p1), .val (.int p2), .val (.int p3), .val (.int p4), .val (.int p5), .val (.int p6), .val (.int (if (p6 &&& (1 : Int32)) = (0 : Int32) then (0 : Int32) else (1 : Int32))), .val (.int ((p1 &&& (2147483647 : Int32)) % (5 : Int32))), .val (.int c7), .val (.int c10), .val (.int c13), .val (.int c16), .val (.ref r19), .val (.int (1 : Int32)), .unset] [])) t → Steps p.tables e below (s₁.setTop (entryFrame m #[(.int p1), (.int p2), (.int p3), (.int p4), (.int p5), (.int p6)] maxLocals)) t := by
              intro t kt
              refine k35 t ?_
              show Steps p.tables e below (T19.setTop (mkF m 107 #[.val (.int p1), .val (.int p2), .val (.int p3), .val (.int p4), .val (.int p5), .val (.int p6), .val (.int (if (p6 &&& (1 : Int32)) = (0 : Int32) then (0 : Int32) else (1 : Int32))), .val (.int ((p1 &&& (2147483647 : Int32)) % (5 : Int32))), .val (.int c7), .val (.int c10), .val (.int c13), .val (.int c16), .val (.ref r19), .val (.int (1 : Int32)), .unset] [(.int (56 : Int32)), (.int c7)])) t
              refine XS.icmpYes X19.here hx rfl (pc0 := 107) (pc' := 127) rfl (hb hby at_107) rfl (feq hc107_34).2 (by decide) (by decide) ?_
              exact kt
            rw [show ((own_x ((p1 &&& (2147483647 : Int32)) % (5 : Int32)) c7 c10 c13)) = (1 : Int32) from by first | exact if_pos hc76_27 | exact if_neg hc76_27 | exact if_pos hc83_28 | exact if_neg hc83_28 | exact if_pos hc90_30 | exact if_neg hc90_30 | exact if_pos hc97_32 | exact if_neg hc97_32 | (simp only [hc76_27, hc83_28, hc90_30, hc97_32, own_x, if_true, if_false]; done) | simp [hc76_27, hc83_28, hc90_30, hc97_32, own_x]] at kt
            exact k36 t kt
          · have k38 : ∀ t, Steps p.tables e below (T19.setTop (mkF m 107 #[.val (.int p1), .val (.int p2), .val (.int p3), .val (.int p4), .val (.int p5), .val (.int p6), .val (.int (if (p6 &&& (1 : Int32)) = (0 : Int32) then (0 : Int32) else (1 : Int32))), .val (.int ((p1 &&& (2147483647 : Int32)) % (5 : Int32))), .val (.int c7), .val (.int c10), .val (.int c13), .val (.int c16), .val (.ref r19), .val (.int (0 : Int32)), .unset] [(.int (56 : Int32)), (.int c7)])) t → Steps p.tables e below (s₁.setTop (entryFrame m #[(.int p1), (.int p2), (.int p3), (.int p4), (.int p5), (.int p6)] maxLocals)) t := by
              intro t kt
              refine k33 t ?_
              show Steps p.tables e below (T19.setTop (mkF m 97 #[.val (.int p1), .val (.int p2), .val (.int p3), .val (.int p4), .val (.int p5), .val (.int p6), .val (.int (if (p6 &&& (1 : Int32)) = (0 : Int32) then (0 : Int32) else (1 : Int32))), .val (.int ((p1 &&& (2147483647 : Int32)) % (5 : Int32))), .val (.int c7), .val (.int c10), .val (.int c13), .val (.int c16), .val (.ref r19), .val (.int (0 : Int32)), .unset] [(.int (48 : Int32)), (.int c13)])) t
              refine XS.icmpYes X19.here hx rfl (pc0 := 97) (pc' := 103) rfl (hb hby at_97) rfl (feq hc97_32).2 (by decide) (by decide) ?_
              show Steps p.tables e below (T19.setTop (mkF m 103 #[.val (.int p1), .val (.int p2), .val (.int p3), .val (.int p4), .val (.int p5), .val (.int p6), .val (.int (if (p6 &&& (1 : Int32)) = (0 : Int32) then (0 : Int32) else (1 : Int32))), .val (.int ((p1 &&& (2147483647 : Int32)) % (5 : Int32))), .val (.int c7), .val (.int c10), .val (.int c13), .val (.int c16), .val (.ref r19), .val (.int (0 : Int32)), .unset] [])) t
              refine XS.iload X19.here hx rfl (hb hby at_103) rfl ?_
              show Steps p.tables e below (T19.setTop (mkF m 105 #[.val (.int p1), .val (.int p2), .val (.int p3), .val (.int p4), .val (.int p5), .val (.int p6), .val (.int (if (p6 &&& (1 : Int32)) = (0 : Int32) then (0 : Int32) else (1 : Int32))), .val (.int ((p1 &&& (2147483647 : Int32)) % (5 : Int32))), .val (.int c7), .val (.int c10), .val (.int c13), .val (.int c16), .val (.ref r19), .val (.int (0 : Int32)), .unset] [(.int c7)])) t
              refine XS.bipush X19.here hx rfl (hb hby at_105) ?_
              exact kt
            have hc107_37 : ¬ (c7 = (56 : Int32)) := by rw [hc83_28]; decide
            have k39 : ∀ t, Steps p.tables e below (T19.setTop (mkF m 127 #[.val (.int p1), .val (.int p2), .val (.int p3), .val (.int p4), .val (.int p5), .val (.int p6), .val (.int (if (p6 &&& (1 : Int32)) = (0 : Int32) then (0 : Int32) else (1 : Int32))), .val (.int ((p1 &&& (2147483647 : Int32)) % (5 : Int32))), .val (.int c7), .val (.int c10), .val (.int c13), .val (.int c16), .val (.ref r19), .val (.int (0 : Int32)), .unset] [])) t → Steps p.tables e below (s₁.setTop (entryFrame m #[(.int p1), (.int p2), (.int p3), (.int p4), (.int p5), (.int p6)] maxLocals)) t := by
              intro t kt
              refine k38 t ?_
              show Steps p.tables e below (T19.setTop (mkF m 107 #[.val (.int p1), .val (.int p2), .val (.int p3), .val (.int p4), .val (.int p5), .val (.int p6), .val (.int (if (p6 &&& (1 : Int32)) = (0 : Int32) then (0 : Int32) else (1 : Int32))), .val (.int ((p1 &&& (2147483647 : Int32)) % (5 : Int32))), .val (.int c7), .val (.int c10), .val (.int c13), .val (.int c16), .val (.ref r19), .val (.int (0 : Int32)), .unset] [(.int (56 : Int32)), (.int c7)])) t
              refine XS.icmpYes X19.here hx rfl (pc0 := 107) (pc' := 127) rfl (hb hby at_107) rfl (feq hc107_37).2 (by decide) (by decide) ?_
              exact kt
            rw [show ((own_x ((p1 &&& (2147483647 : Int32)) % (5 : Int32)) c7 c10 c13)) = (0 : Int32) from by first | exact if_pos hc76_27 | exact if_neg hc76_27 | exact if_pos hc83_28 | exact if_neg hc83_28 | exact if_pos hc90_30 | exact if_neg hc90_30 | exact if_pos hc97_32 | exact if_neg hc97_32 | (simp only [hc76_27, hc83_28, hc90_30, hc97_32, own_x, if_true, if_false]; done) | simp [hc76_27, hc83_28, hc90_30, hc97_32, own_x]] at kt
            exact k39 t kt
        · have k41 : ∀ t, Steps p.tables e below (T19.setTop (mkF m 107 #[.val (.int p1), .val (.int p2), .val (.int p3), .val (.int p4), .val (.int p5), .val (.int p6), .val (.int (if (p6 &&& (1 : Int32)) = (0 : Int32) then (0 : Int32) else (1 : Int32))), .val (.int ((p1 &&& (2147483647 : Int32)) % (5 : Int32))), .val (.int c7), .val (.int c10), .val (.int c13), .val (.int c16), .val (.ref r19), .val (.int (0 : Int32)), .unset] [(.int (56 : Int32)), (.int c7)])) t → Steps p.tables e below (s₁.setTop (entryFrame m #[(.int p1), (.int p2), (.int p3), (.int p4), (.int p5), (.int p6)] maxLocals)) t := by
            intro t kt
            refine k31 t ?_
            show Steps p.tables e below (T19.setTop (mkF m 90 #[.val (.int p1), .val (.int p2), .val (.int p3), .val (.int p4), .val (.int p5), .val (.int p6), .val (.int (if (p6 &&& (1 : Int32)) = (0 : Int32) then (0 : Int32) else (1 : Int32))), .val (.int ((p1 &&& (2147483647 : Int32)) % (5 : Int32))), .val (.int c7), .val (.int c10), .val (.int c13), .val (.int c16), .val (.ref r19), .val (.int (0 : Int32)), .unset] [(.int (53 : Int32)), (.int c10)])) t
            refine XS.icmpYes X19.here hx rfl (pc0 := 90) (pc' := 103) rfl (hb hby at_90) rfl (feq hc90_30).2 (by decide) (by decide) ?_
            show Steps p.tables e below (T19.setTop (mkF m 103 #[.val (.int p1), .val (.int p2), .val (.int p3), .val (.int p4), .val (.int p5), .val (.int p6), .val (.int (if (p6 &&& (1 : Int32)) = (0 : Int32) then (0 : Int32) else (1 : Int32))), .val (.int ((p1 &&& (2147483647 : Int32)) % (5 : Int32))), .val (.int c7), .val (.int c10), .val (.int c13), .val (.int c16), .val (.ref r19), .val (.int (0 : Int32)), .unset] [])) t
            refine XS.iload X19.here hx rfl (hb hby at_103) rfl ?_
            show Steps p.tables e below (T19.setTop (mkF m 105 #[.val (.int p1), .val (.int p2), .val (.int p3), .val (.int p4), .val (.int p5), .val (.int p6), .val (.int (if (p6 &&& (1 : Int32)) = (0 : Int32) then (0 : Int32) else (1 : Int32))), .val (.int ((p1 &&& (2147483647 : Int32)) % (5 : Int32))), .val (.int c7), .val (.int c10), .val (.int c13), .val (.int c16), .val (.ref r19), .val (.int (0 : Int32)), .unset] [(.int c7)])) t
            refine XS.bipush X19.here hx rfl (hb hby at_105) ?_
            exact kt
          have hc107_40 : ¬ (c7 = (56 : Int32)) := by rw [hc83_28]; decide
          have k42 : ∀ t, Steps p.tables e below (T19.setTop (mkF m 127 #[.val (.int p1), .val (.int p2), .val (.int p3), .val (.int p4), .val (.int p5), .val (.int p6), .val (.int (if (p6 &&& (1 : Int32)) = (0 : Int32) then (0 : Int32) else (1 : Int32))), .val (.int ((p1 &&& (2147483647 : Int32)) % (5 : Int32))), .val (.int c7), .val (.int c10), .val (.int c13), .val (.int c16), .val (.ref r19), .val (.int (0 : Int32)), .unset] [])) t → Steps p.tables e below (s₁.setTop (entryFrame m #[(.int p1), (.int p2), (.int p3), (.int p4), (.int p5), (.int p6)] maxLocals)) t := by
            intro t kt
            refine k41 t ?_
            show Steps p.tables e below (T19.setTop (mkF m 107 #[.val (.int p1), .val (.int p2), .val (.int p3), .val (.int p4), .val (.int p5), .val (.int p6), .val (.int (if (p6 &&& (1 : Int32)) = (0 : Int32) then (0 : Int32) else (1 : Int32))), .val (.int ((p1 &&& (2147483647 : Int32)) % (5 : Int32))), .val (.int c7), .val (.int c10), .val (.int c13), .val (.int c16), .val (.ref r19), .val (.int (0 : Int32)), .unset] [(.int (56 : Int32)), (.int c7)])) t
            refine XS.icmpYes X19.here hx rfl (pc0 := 107) (pc' := 127) rfl (hb hby at_107) rfl (feq hc107_40).2 (by decide) (by decide) ?_
            exact kt
          rw [show ((own_x ((p1 &&& (2147483647 : Int32)) % (5 : Int32)) c7 c10 c13)) = (0 : Int32) from by first | exact if_pos hc76_27 | exact if_neg hc76_27 | exact if_pos hc83_28 | exact if_neg hc83_28 | exact if_pos hc90_30 | exact if_neg hc90_30 | (simp only [hc76_27, hc83_28, hc90_30, own_x, if_true, if_false]; done) | simp [hc76_27, hc83_28, hc90_30, own_x]] at kt
          exact k42 t kt
      · have k44 : ∀ t, Steps p.tables e below (T19.setTop (mkF m 107 #[.val (.int p1), .val (.int p2), .val (.int p3), .val (.int p4), .val (.int p5), .val (.int p6), .val (.int (if (p6 &&& (1 : Int32)) = (0 : Int32) then (0 : Int32) else (1 : Int32))), .val (.int ((p1 &&& (2147483647 : Int32)) % (5 : Int32))), .val (.int c7), .val (.int c10), .val (.int c13), .val (.int c16), .val (.ref r19), .val (.int (0 : Int32)), .unset] [(.int (56 : Int32)), (.int c7)])) t → Steps p.tables e below (s₁.setTop (entryFrame m #[(.int p1), (.int p2), (.int p3), (.int p4), (.int p5), (.int p6)] maxLocals)) t := by
          intro t kt
          refine k29 t ?_
          show Steps p.tables e below (T19.setTop (mkF m 83 #[.val (.int p1), .val (.int p2), .val (.int p3), .val (.int p4), .val (.int p5), .val (.int p6), .val (.int (if (p6 &&& (1 : Int32)) = (0 : Int32) then (0 : Int32) else (1 : Int32))), .val (.int ((p1 &&& (2147483647 : Int32)) % (5 : Int32))), .val (.int c7), .val (.int c10), .val (.int c13), .val (.int c16), .val (.ref r19), .val (.int (0 : Int32)), .unset] [(.int (50 : Int32)), (.int c7)])) t
          refine XS.icmpYes X19.here hx rfl (pc0 := 83) (pc' := 103) rfl (hb hby at_83) rfl (feq hc83_28).2 (by decide) (by decide) ?_
          show Steps p.tables e below (T19.setTop (mkF m 103 #[.val (.int p1), .val (.int p2), .val (.int p3), .val (.int p4), .val (.int p5), .val (.int p6), .val (.int (if (p6 &&& (1 : Int32)) = (0 : Int32) then (0 : Int32) else (1 : Int32))), .val (.int ((p1 &&& (2147483647 : Int32)) % (5 : Int32))), .val (.int c7), .val (.int c10), .val (.int c13), .val (.int c16), .val (.ref r19), .val (.int (0 : Int32)), .unset] [])) t
          refine XS.iload X19.here hx rfl (hb hby at_103) rfl ?_
          show Steps p.tables e below (T19.setTop (mkF m 105 #[.val (.int p1), .val (.int p2), .val (.int p3), .val (.int p4), .val (.int p5), .val (.int p6), .val (.int (if (p6 &&& (1 : Int32)) = (0 : Int32) then (0 : Int32) else (1 : Int32))), .val (.int ((p1 &&& (2147483647 : Int32)) % (5 : Int32))), .val (.int c7), .val (.int c10), .val (.int c13), .val (.int c16), .val (.ref r19), .val (.int (0 : Int32)), .unset] [(.int c7)])) t
          refine XS.bipush X19.here hx rfl (hb hby at_105) ?_
          exact kt
        by_cases hc107_43 : c7 = (56 : Int32)
        · have k46 : ∀ t, Steps p.tables e below (T19.setTop (mkF m 114 #[.val (.int p1), .val (.int p2), .val (.int p3), .val (.int p4), .val (.int p5), .val (.int p6), .val (.int (if (p6 &&& (1 : Int32)) = (0 : Int32) then (0 : Int32) else (1 : Int32))), .val (.int ((p1 &&& (2147483647 : Int32)) % (5 : Int32))), .val (.int c7), .val (.int c10), .val (.int c13), .val (.int c16), .val (.ref r19), .val (.int (0 : Int32)), .unset] [(.int (56 : Int32)), (.int c10)])) t → Steps p.tables e below (s₁.setTop (entryFrame m #[(.int p1), (.int p2), (.int p3), (.int p4), (.int p5), (.int p6)] maxLocals)) t := by
            intro t kt
            refine k44 t ?_
            show Steps p.tables e below (T19.setTop (mkF m 107 #[.val (.int p1), .val (.int p2), .val (.int p3), .val (.int p4), .val (.int p5), .val (.int p6), .val (.int (if (p6 &&& (1 : Int32)) = (0 : Int32) then (0 : Int32) else (1 : Int32))), .val (.int ((p1 &&& (2147483647 : Int32)) % (5 : Int32))), .val (.int c7), .val (.int c10), .val (.int c13), .val (.int c16), .val (.ref r19), .val (.int (0 : Int32)), .unset] [(.int (56 : Int32)), (.int c7)])) t
            refine XS.icmpNo X19.here hx rfl (hb hby at_107) rfl (teq hc107_43).2 ?_
            show Steps p.tables e below (T19.setTop (mkF m 110 #[.val (.int p1), .val (.int p2), .val (.int p3), .val (.int p4), .val (.int p5), .val (.int p6), .val (.int (if (p6 &&& (1 : Int32)) = (0 : Int32) then (0 : Int32) else (1 : Int32))), .val (.int ((p1 &&& (2147483647 : Int32)) % (5 : Int32))), .val (.int c7), .val (.int c10), .val (.int c13), .val (.int c16), .val (.ref r19), .val (.int (0 : Int32)), .unset] [])) t
            refine XS.iload X19.here hx rfl (hb hby at_110) rfl ?_
            show Steps p.tables e below (T19.setTop (mkF m 112 #[.val (.int p1), .val (.int p2), .val (.int p3), .val (.int p4), .val (.int p5), .val (.int p6), .val (.int (if (p6 &&& (1 : Int32)) = (0 : Int32) then (0 : Int32) else (1 : Int32))), .val (.int ((p1 &&& (2147483647 : Int32)) % (5 : Int32))), .val (.int c7), .val (.int c10), .val (.int c13), .val (.int c16), .val (.ref r19), .val (.int (0 : Int32)), .unset] [(.int c10)])) t
            refine XS.bipush X19.here hx rfl (hb hby at_112) ?_
            exact kt
          by_cases hc114_45 : c10 = (56 : Int32)
          · have k48 : ∀ t, Steps p.tables e below (T19.setTop (mkF m 121 #[.val (.int p1), .val (.int p2), .val (.int p3), .val (.int p4), .val (.int p5), .val (.int p6), .val (.int (if (p6 &&& (1 : Int32)) = (0 : Int32) then (0 : Int32) else (1 : Int32))), .val (.int ((p1 &&& (2147483647 : Int32)) % (5 : Int32))), .val (.int c7), .val (.int c10), .val (.int c13), .val (.int c16), .val (.ref r19), .val (.int (0 : Int32)), .unset] [(.int (48 : Int32)), (.int c13)])) t → Steps p.tables e below (s₁.setTop (entryFrame m #[(.int p1), (.int p2), (.int p3), (.int p4), (.int p5), (.int p6)] maxLocals)) t := by
              intro t kt
              refine k46 t ?_
              show Steps p.tables e below (T19.setTop (mkF m 114 #[.val (.int p1), .val (.int p2), .val (.int p3), .val (.int p4), .val (.int p5), .val (.int p6), .val (.int (if (p6 &&& (1 : Int32)) = (0 : Int32) then (0 : Int32) else (1 : Int32))), .val (.int ((p1 &&& (2147483647 : Int32)) % (5 : Int32))), .val (.int c7), .val (.int c10), .val (.int c13), .val (.int c16), .val (.ref r19), .val (.int (0 : Int32)), .unset] [(.int (56 : Int32)), (.int c10)])) t
              refine XS.icmpNo X19.here hx rfl (hb hby at_114) rfl (teq hc114_45).2 ?_
              show Steps p.tables e below (T19.setTop (mkF m 117 #[.val (.int p1), .val (.int p2), .val (.int p3), .val (.int p4), .val (.int p5), .val (.int p6), .val (.int (if (p6 &&& (1 : Int32)) = (0 : Int32) then (0 : Int32) else (1 : Int32))), .val (.int ((p1 &&& (2147483647 : Int32)) % (5 : Int32))), .val (.int c7), .val (.int c10), .val (.int c13), .val (.int c16), .val (.ref r19), .val (.int (0 : Int32)), .unset] [])) t
              refine XS.iload X19.here hx rfl (hb hby at_117) rfl ?_
              show Steps p.tables e below (T19.setTop (mkF m 119 #[.val (.int p1), .val (.int p2), .val (.int p3), .val (.int p4), .val (.int p5), .val (.int p6), .val (.int (if (p6 &&& (1 : Int32)) = (0 : Int32) then (0 : Int32) else (1 : Int32))), .val (.int ((p1 &&& (2147483647 : Int32)) % (5 : Int32))), .val (.int c7), .val (.int c10), .val (.int c13), .val (.int c16), .val (.ref r19), .val (.int (0 : Int32)), .unset] [(.int c13)])) t
              refine XS.bipush X19.here hx rfl (hb hby at_119) ?_
              exact kt
            by_cases hc121_47 : c13 = (48 : Int32)
            · have k49 : ∀ t, Steps p.tables e below (T19.setTop (mkF m 127 #[.val (.int p1), .val (.int p2), .val (.int p3), .val (.int p4), .val (.int p5), .val (.int p6), .val (.int (if (p6 &&& (1 : Int32)) = (0 : Int32) then (0 : Int32) else (1 : Int32))), .val (.int ((p1 &&& (2147483647 : Int32)) % (5 : Int32))), .val (.int c7), .val (.int c10), .val (.int c13), .val (.int c16), .val (.ref r19), .val (.int (1 : Int32)), .unset] [])) t → Steps p.tables e below (s₁.setTop (entryFrame m #[(.int p1), (.int p2), (.int p3), (.int p4), (.int p5), (.int p6)] maxLocals)) t := by
                intro t kt
                refine k48 t ?_
                show Steps p.tables e below (T19.setTop (mkF m 121 #[.val (.int p1), .val (.int p2), .val (.int p3), .val (.int p4), .val (.int p5), .val (.int p6), .val (.int (if (p6 &&& (1 : Int32)) = (0 : Int32) then (0 : Int32) else (1 : Int32))), .val (.int ((p1 &&& (2147483647 : Int32)) % (5 : Int32))), .val (.int c7), .val (.int c10), .val (.int c13), .val (.int c16), .val (.ref r19), .val (.int (0 : Int32)), .unset] [(.int (48 : Int32)), (.int c13)])) t
                refine XS.icmpNo X19.here hx rfl (hb hby at_121) rfl (teq hc121_47).2 ?_
                show Steps p.tables e below (T19.setTop (mkF m 124 #[.val (.int p1), .val (.int p2), .val (.int p3), .val (.int p4), .val (.int p5), .val (.int p6), .val (.int (if (p6 &&& (1 : Int32)) = (0 : Int32) then (0 : Int32) else (1 : Int32))), .val (.int ((p1 &&& (2147483647 : Int32)) % (5 : Int32))), .val (.int c7), .val (.int c10), .val (.int c13), .val (.int c16), .val (.ref r19), .val (.int (0 : Int32)), .unset] [])) t
                refine XS.iconst X19.here hx rfl (hb hby at_124) ?_
                show Steps p.tables e below (T19.setTop (mkF m 125 #[.val (.int p1), .val (.int p2), .val (.int p3), .val (.int p4), .val (.int p5), .val (.int p6), .val (.int (if (p6 &&& (1 : Int32)) = (0 : Int32) then (0 : Int32) else (1 : Int32))), .val (.int ((p1 &&& (2147483647 : Int32)) % (5 : Int32))), .val (.int c7), .val (.int c10), .val (.int c13), .val (.int c16), .val (.ref r19), .val (.int (0 : Int32)), .unset] [(.int (1 : Int32))])) t
                refine XS.istore X19.here hx rfl (hb hby at_125) rfl (l' := #[.val (.int p1), .val (.int p2), .val (.int p3), .val (.int p4), .val (.int p5), .val (.int p6), .val (.int (if (p6 &&& (1 : Int32)) = (0 : Int32) then (0 : Int32) else (1 : Int32))), .val (.int ((p1 &&& (2147483647 : Int32)) % (5 : Int32))), .val (.int c7), .val (.int c10), .val (.int c13), .val (.int c16), .val (.ref r19), .val (.int (1 : Int32)), .unset]) rfl ?_
                exact kt
              rw [show ((own_x ((p1 &&& (2147483647 : Int32)) % (5 : Int32)) c7 c10 c13)) = (1 : Int32) from by first | exact if_pos hc76_27 | exact if_neg hc76_27 | exact if_pos hc83_28 | exact if_neg hc83_28 | exact if_pos hc107_43 | exact if_neg hc107_43 | exact if_pos hc114_45 | exact if_neg hc114_45 | exact if_pos hc121_47 | exact if_neg hc121_47 | (simp only [hc76_27, hc83_28, hc107_43, hc114_45, hc121_47, own_x, if_true, if_false]; done) | simp [hc76_27, hc83_28, hc107_43, hc114_45, hc121_47, own_x]] at kt
              exact k49 t kt
            · have k50 : ∀ t, Steps p.tables e below (T19.setTop (mkF m 127 #[.val (.int p1), .val (.int p2), .val (.int p3), .val (.int p4), .val (.int p5), .val (.int p6), .val (.int (if (p6 &&& (1 : Int32)) = (0 : Int32) then (0 : Int32) else (1 : Int32))), .val (.int ((p1 &&& (2147483647 : Int32)) % (5 : Int32))), .val (.int c7), .val (.int c10), .val (.int c13), .val (.int c16), .val (.ref r19), .val (.int (0 : Int32)), .unset] [])) t → Steps p.tables e below (s₁.setTop (entryFrame m #[(.int p1), (.int p2), (.int p3), (.int p4), (.int p5), (.int p6)] maxLocals)) t := by
                intro t kt
                refine k48 t ?_
                show Steps p.tables e below (T19.setTop (mkF m 121 #[.val (.int p1), .val (.int p2), .val (.int p3), .val (.int p4), .val (.int p5), .val (.int p6), .val (.int (if (p6 &&& (1 : Int32)) = (0 : Int32) then (0 : Int32) else (1 : Int32))), .val (.int ((p1 &&& (2147483647 : Int32)) % (5 : Int32))), .val (.int c7), .val (.int c10), .val (.int c13), .val (.int c16), .val (.ref r19), .val (.int (0 : Int32)), .unset] [(.int (48 : Int32)), (.int c13)])) t
                refine XS.icmpYes X19.here hx rfl (pc0 := 121) (pc' := 127) rfl (hb hby at_121) rfl (feq hc121_47).2 (by decide) (by decide) ?_
                exact kt
              rw [show ((own_x ((p1 &&& (2147483647 : Int32)) % (5 : Int32)) c7 c10 c13)) = (0 : Int32) from by first | exact if_pos hc76_27 | exact if_neg hc76_27 | exact if_pos hc83_28 | exact if_neg hc83_28 | exact if_pos hc107_43 | exact if_neg hc107_43 | exact if_pos hc114_45 | exact if_neg hc114_45 | exact if_pos hc121_47 | exact if_neg hc121_47 | (simp only [hc76_27, hc83_28, hc107_43, hc114_45, hc121_47, own_x, if_true, if_false]; done) | simp [hc76_27, hc83_28, hc107_43, hc114_45, hc121_47, own_x]] at kt
              exact k50 t kt
          · have k51 : ∀ t, Steps p.tables e below (T19.setTop (mkF m 127 #[.val (.int p1), .val (.int p2), .val (.int p3), .val (.int p4), .val (.int p5), .val (.int p6), .val (.int (if (p6 &&& (1 : Int32)) = (0 : Int32) then (0 : Int32) else (1 : Int32))), .val (.int ((p1 &&& (2147483647 : Int32)) % (5 : Int32))), .val (.int c7), .val (.int c10), .val (.int c13), .val (.int c16), .val (.ref r19), .val (.int (0 : Int32)), .unset] [])) t → Steps p.tables e below (s₁.setTop (entryFrame m #[(.int p1), (.int p2), (.int p3), (.int p4), (.int p5), (.int p6)] maxLocals)) t := by
              intro t kt
              refine k46 t ?_
              show Steps p.tables e below (T19.setTop (mkF m 114 #[.val (.int p1), .val (.int p2), .val (.int p3), .val (.int p4), .val (.int p5), .val (.int p6), .val (.int (if (p6 &&& (1 : Int32)) = (0 : Int32) then (0 : Int32) else (1 : Int32))), .val (.int ((p1 &&& (2147483647 : Int32)) % (5 : Int32))), .val (.int c7), .val (.int c10), .val (.int c13), .val (.int c16), .val (.ref r19), .val (.int (0 : Int32)), .unset] [(.int (56 : Int32)), (.int c10)])) t
              refine XS.icmpYes X19.here hx rfl (pc0 := 114) (pc' := 127) rfl (hb hby at_114) rfl (feq hc114_45).2 (by decide) (by decide) ?_
              exact kt
            rw [show ((own_x ((p1 &&& (2147483647 : Int32)) % (5 : Int32)) c7 c10 c13)) = (0 : Int32) from by first | exact if_pos hc76_27 | exact if_neg hc76_27 | exact if_pos hc83_28 | exact if_neg hc83_28 | exact if_pos hc107_43 | exact if_neg hc107_43 | exact if_pos hc114_45 | exact if_neg hc114_45 | (simp only [hc76_27, hc83_28, hc107_43, hc114_45, own_x, if_true, if_false]; done) | simp [hc76_27, hc83_28, hc107_43, hc114_45, own_x]] at kt
            exact k51 t kt
        · have k52 : ∀ t, Steps p.tables e below (T19.setTop (mkF m 127 #[.val (.int p1), .val (.int p2), .val (.int p3), .val (.int p4), .val (.int p5), .val (.int p6), .val (.int (if (p6 &&& (1 : Int32)) = (0 : Int32) then (0 : Int32) else (1 : Int32))), .val (.int ((p1 &&& (2147483647 : Int32)) % (5 : Int32))), .val (.int c7), .val (.int c10), .val (.int c13), .val (.int c16), .val (.ref r19), .val (.int (0 : Int32)), .unset] [])) t → Steps p.tables e below (s₁.setTop (entryFrame m #[(.int p1), (.int p2), (.int p3), (.int p4), (.int p5), (.int p6)] maxLocals)) t := by
            intro t kt
            refine k44 t ?_
            show Steps p.tables e below (T19.setTop (mkF m 107 #[.val (.int p1), .val (.int p2), .val (.int p3), .val (.int p4), .val (.int p5), .val (.int p6), .val (.int (if (p6 &&& (1 : Int32)) = (0 : Int32) then (0 : Int32) else (1 : Int32))), .val (.int ((p1 &&& (2147483647 : Int32)) % (5 : Int32))), .val (.int c7), .val (.int c10), .val (.int c13), .val (.int c16), .val (.ref r19), .val (.int (0 : Int32)), .unset] [(.int (56 : Int32)), (.int c7)])) t
            refine XS.icmpYes X19.here hx rfl (pc0 := 107) (pc' := 127) rfl (hb hby at_107) rfl (feq hc107_43).2 (by decide) (by decide) ?_
            exact kt
          rw [show ((own_x ((p1 &&& (2147483647 : Int32)) % (5 : Int32)) c7 c10 c13)) = (0 : Int32) from by first | exact if_pos hc76_27 | exact if_neg hc76_27 | exact if_pos hc83_28 | exact if_neg hc83_28 | exact if_pos hc107_43 | exact if_neg hc107_43 | (simp only [hc76_27, hc83_28, hc107_43, own_x, if_true, if_false]; done) | simp [hc76_27, hc83_28, hc107_43, own_x]] at kt
          exact k52 t kt
    · have k53 : ∀ t, Steps p.tables e below (T19.setTop (mkF m 127 #[.val (.int p1), .val (.int p2), .val (.int p3), .val (.int p4), .val (.int p5), .val (.int p6), .val (.int (if (p6 &&& (1 : Int32)) = (0 : Int32) then (0 : Int32) else (1 : Int32))), .val (.int ((p1 &&& (2147483647 : Int32)) % (5 : Int32))), .val (.int c7), .val (.int c10), .val (.int c13), .val (.int c16), .val (.ref r19), .val (.int (0 : Int32)), .unset] [])) t → Steps p.tables e below (s₁.setTop (entryFrame m #[(.int p1), (.int p2), (.int p3), (.int p4), (.int p5), (.int p6)] maxLocals)) t := by
        intro t kt
        refine k25 t ?_
        show Steps p.tables e below (T19.setTop (mkF m 76 #[.val (.int p1), .val (.int p2), .val (.int p3), .val (.int p4), .val (.int p5), .val (.int p6), .val (.int (if (p6 &&& (1 : Int32)) = (0 : Int32) then (0 : Int32) else (1 : Int32))), .val (.int ((p1 &&& (2147483647 : Int32)) % (5 : Int32))), .val (.int c7), .val (.int c10), .val (.int c13), .val (.int c16), .val (.ref r19), .val (.int (0 : Int32)), .unset] [(.int (3 : Int32)), (.int ((p1 &&& (2147483647 : Int32)) % (5 : Int32)))])) t
        refine XS.icmpYes X19.here hx rfl (pc0 := 76) (pc' := 127) rfl (hb hby at_76) rfl (feq hc76_27).2 (by decide) (by decide) ?_
        exact kt
      rw [show ((own_x ((p1 &&& (2147483647 : Int32)) % (5 : Int32)) c7 c10 c13)) = (0 : Int32) from by first | exact if_pos hc76_27 | exact if_neg hc76_27 | (simp only [hc76_27, own_x, if_true, if_false]; done) | simp [hc76_27, own_x]] at kt
      exact k53 t kt
  have k54 : ∀ t, Steps p.tables e below (T19.setTop (mkF m 129 #[.val (.int p1), .val (.int p2), .val (.int p3), .val (.int p4), .val (.int p5), .val (.int p6), .val (.int (if (p6 &&& (1 : Int32)) = (0 : Int32) then (0 : Int32) else (1 : Int32))), .val (.int ((p1 &&& (2147483647 : Int32)) % (5 : Int32))), .val (.int c7), .val (.int c10), .val (.int c13), .val (.int c16), .val (.ref r19), .val (.int (own_x ((p1 &&& (2147483647 : Int32)) % (5 : Int32)) c7 c10 c13)), .unset] [(.ref r19)])) t → Steps p.tables e below (s₁.setTop (entryFrame m #[(.int p1), (.int p2), (.int p3), (.int p4), (.int p5), (.int p6)] maxLocals)) t := by
    intro t kt
    refine k26 t ?_
    show Steps p.tables e below (T19.setTop (mkF m 127 #[.val (.int p1), .val (.int p2), .val (.int p3), .val (.int p4), .val (.int p5), .val (.int p6), .val (.int (if (p6 &&& (1 : Int32)) = (0 : Int32) then (0 : Int32) else (1 : Int32))), .val (.int ((p1 &&& (2147483647 : Int32)) % (5 : Int32))), .val (.int c7), .val (.int c10), .val (.int c13), .val (.int c16), .val (.ref r19), .val (.int (own_x ((p1 &&& (2147483647 : Int32)) % (5 : Int32)) c7 c10 c13)), .unset] [])) t
    refine XS.aload X19.here hx rfl (hb hby at_127) rfl rfl ?_
    exact kt
  obtain ⟨_, _, ⟨T55, L55, k55c, n55⟩, -, Y55, hS55p, hg55, ⟨Lc55, hQ55, l55, y55, z55, Cn55⟩, st55⟩ := callSS X19 hx (y := (⟨"recensio/records/EditionField", "mayHoldEditionStatement", "(Ljava/lang/String;)Z"⟩ : MethodName)) hown19 (mvT hZ19 (hw _ (List.mem_of_getElem? (i := 30) rfl))) (mvT hZ19 (hw _ (List.mem_of_getElem? (i := 31) rfl))) (mvT hZ19 (hw _ (List.mem_of_getElem? (i := 32) rfl))) (mvT hZ19 (hw _ (List.mem_of_getElem? (i := 33) rfl))) (by decide) (own_backSH (s := s) (vm0 := T19.vm) (W := 0) (rmM l Z a0 hw [] r19 b19 c19k ((p1 &&& (2147483647 : Int32)) % (5 : Int32)) (c7.toInt8.toInt32) (c10.toInt8.toInt32) (c13.toInt8.toInt32) (c16.toInt8.toInt32) cs T19.heap n0 Z23 E19r Fv19 Fc19 A19 F22 hcs) hZ19 (hw _ (List.mem_of_getElem? (i := 33) rfl)) (hw _ (List.mem_of_getElem? (i := 32) rfl)) (by decide) (by decide) hEL C20.1 (fun _ q => nomatch q)) (g := (mkF m 129 #[.val (.int p1), .val (.int p2), .val (.int p3), .val (.int p4), .val (.int p5), .val (.int p6), .val (.int (if (p6 &&& (1 : Int32)) = (0 : Int32) then (0 : Int32) else (1 : Int32))), .val (.int ((p1 &&& (2147483647 : Int32)) % (5 : Int32))), .val (.int c7), .val (.int c10), .val (.int c13), .val (.int c16), .val (.ref r19), .val (.int (own_x ((p1 &&& (2147483647 : Int32)) % (5 : Int32)) c7 c10 c13)), .unset] [(.ref r19)])) rfl (by rw [hml]; rfl) (argsL := [(.ref r19)]) (rest := []) (lenOf own_pd9 rfl) rfl (by show 2 * 0 + _ ≤ _; exact Nat.le_of_eq rfl) (hb hby at_129) (fun _ _ => ⟨rfl, rfl, (by decide : 4 + 4 ≤ _), (by decide : 12 + 32 ≤ _)⟩)
  dsimp only [Pt.U, Pt.locs, Pt.cells, Pt.slots] at Y55 hS55p hg55 l55 y55 z55 st55 hQ55 Cn55
  subst l55 y55 z55
  obtain ⟨X55, hS55, hZ55, hown55⟩ := rebS hS19 hk19 Y55 hS55p hg55 hZ19 hown19
  have hk55 := Nat.le_refl T55.heap.size
  obtain ⟨rfl, N55q, K55k⟩ := hQ55
  have N55 := Fr.app N19 N55q
  have C56 := CHr.trans C20 Cn55
  have F57 := F21.keep K55k all0
  have F58 := Sta.ext F57.2 RC
  have F59 := E19r.keep K55k
  have F60 := Fv19.keep K55k nin0
  have F61 := Fc19.keep K55k nin0
  have F62 := A19.keep K55k nin0
  have Z63 : n0 ≤ T55.heap.size := Nat.le_trans Z23 K55k.1
  have K63 : Keep h0 T55.heap [] := K23.trans K55k all0
  have k64 : ∀ t, Steps p.tables e below (T55.setTop (mkF m 132 #[.val (.int p1), .val (.int p2), .val (.int p3), .val (.int p4), .val (.int p5), .val (.int p6), .val (.int (if (p6 &&& (1 : Int32)) = (0 : Int32) then (0 : Int32) else (1 : Int32))), .val (.int ((p1 &&& (2147483647 : Int32)) % (5 : Int32))), .val (.int c7), .val (.int c10), .val (.int c13), .val (.int c16), .val (.ref r19), .val (.int (own_x ((p1 &&& (2147483647 : Int32)) % (5 : Int32)) c7 c10 c13)), .unset] [(.int (own_m ((p1 &&& (2147483647 : Int32)) % (5 : Int32)) (c7.toInt8.toInt32) (c10.toInt8.toInt32) (c13.toInt8.toInt32)))])) t → Steps p.tables e below (s₁.setTop (entryFrame m #[(.int p1), (.int p2), (.int p3), (.int p4), (.int p5), (.int p6)] maxLocals)) t := fun t kt => k54 t (st55.trans kt)
  have k66 : ∀ t, Steps p.tables e below (T55.setTop (mkF m 138 #[.val (.int p1), .val (.int p2), .val (.int p3), .val (.int p4), .val (.int p5), .val (.int p6), .val (.int (if (p6 &&& (1 : Int32)) = (0 : Int32) then (0 : Int32) else (1 : Int32))), .val (.int ((p1 &&& (2147483647 : Int32)) % (5 : Int32))), .val (.int c7), .val (.int c10), .val (.int c13), .val (.int c16), .val (.ref r19), .val (.int (own_x ((p1 &&& (2147483647 : Int32)) % (5 : Int32)) c7 c10 c13)), .val (.int (own_m ((p1 &&& (2147483647 : Int32)) % (5 : Int32)) (c7.toInt8.toInt32) (c10.toInt8.toInt32) (c13.toInt8.toInt32)))] [(.int (own_x ((p1 &&& (2147483647 : Int32)) % (5 : Int32)) c7 c10 c13)), (.int (own_m ((p1 &&& (2147483647 : Int32)) % (5 : Int32)) (c7.toInt8.toInt32) (c10.toInt8.toInt32) (c13.toInt8.toInt32)))])) t → Steps p.tables e below (s₁.setTop (entryFrame m #[(.int p1), (.int p2), (.int p3), (.int p4), (.int p5), (.int p6)] maxLocals)) t := by
    intro t kt
    refine k64 t ?_
    show Steps p.tables e below (T55.setTop (mkF m 132 #[.val (.int p1), .val (.int p2), .val (.int p3), .val (.int p4), .val (.int p5), .val (.int p6), .val (.int (if (p6 &&& (1 : Int32)) = (0 : Int32) then (0 : Int32) else (1 : Int32))), .val (.int ((p1 &&& (2147483647 : Int32)) % (5 : Int32))), .val (.int c7), .val (.int c10), .val (.int c13), .val (.int c16), .val (.ref r19), .val (.int (own_x ((p1 &&& (2147483647 : Int32)) % (5 : Int32)) c7 c10 c13)), .unset] [(.int (own_m ((p1 &&& (2147483647 : Int32)) % (5 : Int32)) (c7.toInt8.toInt32) (c10.toInt8.toInt32) (c13.toInt8.toInt32)))])) t
    refine XS.istore X55.here hx rfl (hb hby at_132) rfl (l' := #[.val (.int p1), .val (.int p2), .val (.int p3), .val (.int p4), .val (.int p5), .val (.int p6), .val (.int (if (p6 &&& (1 : Int32)) = (0 : Int32) then (0 : Int32) else (1 : Int32))), .val (.int ((p1 &&& (2147483647 : Int32)) % (5 : Int32))), .val (.int c7), .val (.int c10), .val (.int c13), .val (.int c16), .val (.ref r19), .val (.int (own_x ((p1 &&& (2147483647 : Int32)) % (5 : Int32)) c7 c10 c13)), .val (.int (own_m ((p1 &&& (2147483647 : Int32)) % (5 : Int32)) (c7.toInt8.toInt32) (c10.toInt8.toInt32) (c13.toInt8.toInt32)))]) rfl ?_
    show Steps p.tables e below (T55.setTop (mkF m 134 #[.val (.int p1), .val (.int p2), .val (.int p3), .val (.int p4), .val (.int p5), .val (.int p6), .val (.int (if (p6 &&& (1 : Int32)) = (0 : Int32) then (0 : Int32) else (1 : Int32))), .val (.int ((p1 &&& (2147483647 : Int32)) % (5 : Int32))), .val (.int c7), .val (.int c10), .val (.int c13), .val (.int c16), .val (.ref r19), .val (.int (own_x ((p1 &&& (2147483647 : Int32)) % (5 : Int32)) c7 c10 c13)), .val (.int (own_m ((p1 &&& (2147483647 : Int32)) % (5 : Int32)) (c7.toInt8.toInt32) (c10.toInt8.toInt32) (c13.toInt8.toInt32)))] [])) t
    refine XS.iload X55.here hx rfl (hb hby at_134) rfl ?_
    show Steps p.tables e below (T55.setTop (mkF m 136 #[.val (.int p1), .val (.int p2), .val (.int p3), .val (.int p4), .val (.int p5), .val (.int p6), .val (.int (if (p6 &&& (1 : Int32)) = (0 : Int32) then (0 : Int32) else (1 : Int32))), .val (.int ((p1 &&& (2147483647 : Int32)) % (5 : Int32))), .val (.int c7), .val (.int c10), .val (.int c13), .val (.int c16), .val (.ref r19), .val (.int (own_x ((p1 &&& (2147483647 : Int32)) % (5 : Int32)) c7 c10 c13)), .val (.int (own_m ((p1 &&& (2147483647 : Int32)) % (5 : Int32)) (c7.toInt8.toInt32) (c10.toInt8.toInt32) (c13.toInt8.toInt32)))] [(.int (own_m ((p1 &&& (2147483647 : Int32)) % (5 : Int32)) (c7.toInt8.toInt32) (c10.toInt8.toInt32) (c13.toInt8.toInt32)))])) t
    refine XS.iload X55.here hx rfl (hb hby at_136) rfl ?_
    exact kt
  have hc138_65 : (own_m ((p1 &&& (2147483647 : Int32)) % (5 : Int32)) (c7.toInt8.toInt32) (c10.toInt8.toInt32) (c13.toInt8.toInt32)) = (own_x ((p1 &&& (2147483647 : Int32)) % (5 : Int32)) c7 c10 c13) := own_same _ _ _ _ q7 q10 q13
  have k67 : ∀ t, Steps p.tables e below (T55.setTop (mkF m 146 #[.val (.int p1), .val (.int p2), .val (.int p3), .val (.int p4), .val (.int p5), .val (.int p6), .val (.int (if (p6 &&& (1 : Int32)) = (0 : Int32) then (0 : Int32) else (1 : Int32))), .val (.int ((p1 &&& (2147483647 : Int32)) % (5 : Int32))), .val (.int c7), .val (.int c10), .val (.int c13), .val (.int c16), .val (.ref r19), .val (.int (own_x ((p1 &&& (2147483647 : Int32)) % (5 : Int32)) c7 c10 c13)), .val (.int (own_m ((p1 &&& (2147483647 : Int32)) % (5 : Int32)) (c7.toInt8.toInt32) (c10.toInt8.toInt32) (c13.toInt8.toInt32)))] [(.int (1 : Int32))])) t → Steps p.tables e below (s₁.setTop (entryFrame m #[(.int p1), (.int p2), (.int p3), (.int p4), (.int p5), (.int p6)] maxLocals)) t := by
    intro t kt
    refine k66 t ?_
    show Steps p.tables e below (T55.setTop (mkF m 138 #[.val (.int p1), .val (.int p2), .val (.int p3), .val (.int p4), .val (.int p5), .val (.int p6), .val (.int (if (p6 &&& (1 : Int32)) = (0 : Int32) then (0 : Int32) else (1 : Int32))), .val (.int ((p1 &&& (2147483647 : Int32)) % (5 : Int32))), .val (.int c7), .val (.int c10), .val (.int c13), .val (.int c16), .val (.ref r19), .val (.int (own_x ((p1 &&& (2147483647 : Int32)) % (5 : Int32)) c7 c10 c13)), .val (.int (own_m ((p1 &&& (2147483647 : Int32)) % (5 : Int32)) (c7.toInt8.toInt32) (c10.toInt8.toInt32) (c13.toInt8.toInt32)))] [(.int (own_x ((p1 &&& (2147483647 : Int32)) % (5 : Int32)) c7 c10 c13)), (.int (own_m ((p1 &&& (2147483647 : Int32)) % (5 : Int32)) (c7.toInt8.toInt32) (c10.toInt8.toInt32) (c13.toInt8.toInt32)))])) t
    refine XS.icmpNo X55.here hx rfl (hb hby at_138) rfl (teq hc138_65).2 ?_
    show Steps p.tables e below (T55.setTop (mkF m 141 #[.val (.int p1), .val (.int p2), .val (.int p3), .val (.int p4), .val (.int p5), .val (.int p6), .val (.int (if (p6 &&& (1 : Int32)) = (0 : Int32) then (0 : Int32) else (1 : Int32))), .val (.int ((p1 &&& (2147483647 : Int32)) % (5 : Int32))), .val (.int c7), .val (.int c10), .val (.int c13), .val (.int c16), .val (.ref r19), .val (.int (own_x ((p1 &&& (2147483647 : Int32)) % (5 : Int32)) c7 c10 c13)), .val (.int (own_m ((p1 &&& (2147483647 : Int32)) % (5 : Int32)) (c7.toInt8.toInt32) (c10.toInt8.toInt32) (c13.toInt8.toInt32)))] [])) t
    refine XS.iconst X55.here hx rfl (hb hby at_141) ?_
    show Steps p.tables e below (T55.setTop (mkF m 142 #[.val (.int p1), .val (.int p2), .val (.int p3), .val (.int p4), .val (.int p5), .val (.int p6), .val (.int (if (p6 &&& (1 : Int32)) = (0 : Int32) then (0 : Int32) else (1 : Int32))), .val (.int ((p1 &&& (2147483647 : Int32)) % (5 : Int32))), .val (.int c7), .val (.int c10), .val (.int c13), .val (.int c16), .val (.ref r19), .val (.int (own_x ((p1 &&& (2147483647 : Int32)) % (5 : Int32)) c7 c10 c13)), .val (.int (own_m ((p1 &&& (2147483647 : Int32)) % (5 : Int32)) (c7.toInt8.toInt32) (c10.toInt8.toInt32) (c13.toInt8.toInt32)))] [(.int (1 : Int32))])) t
    refine XS.goto X55.here hx rfl (pc0 := 142) (pc' := 146) rfl (hb hby at_142) (by decide) (by decide) ?_
    exact kt
  obtain ⟨fs, hr, hrun, hended, hRW⟩ := X55.leaveW hS55 hk55 (v := some (.int (1 : Int32))) (fun h => by rw [Bd.returns] at h; cases h)
  refine ⟨_, _, k67 _ ?_, hrun, hended, _, _, rfl, ?_, ?_, hRW.1, hRW.2.1, hRW.2.2.1, hRW.2.2.2.mono (by decide) (by decide)⟩
  · show Steps p.tables e below (T55.setTop (mkF m 146 #[.val (.int p1), .val (.int p2), .val (.int p3), .val (.int p4), .val (.int p5), .val (.int p6), .val (.int (if (p6 &&& (1 : Int32)) = (0 : Int32) then (0 : Int32) else (1 : Int32))), .val (.int ((p1 &&& (2147483647 : Int32)) % (5 : Int32))), .val (.int c7), .val (.int c10), .val (.int c13), .val (.int c16), .val (.ref r19), .val (.int (own_x ((p1 &&& (2147483647 : Int32)) % (5 : Int32)) c7 c10 c13)), .val (.int (own_m ((p1 &&& (2147483647 : Int32)) % (5 : Int32)) (c7.toInt8.toInt32) (c10.toInt8.toInt32) (c13.toInt8.toInt32)))] [(.int (1 : Int32))])) _
    exact retN X55 hx (t := .boolean) Bd.returns (by simp) (hb hby at_146) hr
  · show Q0 Z p1 p2 p3 p4 p5 p6 cs h0 n0 _ T55.heap _
    exact ⟨rfl, N55⟩
  · show CHr Z own_EL s.vm s.heap T55.vm T55.heap
    rw [hh]
    exact CHr.trans C56 (CHv.at (s := s) (vm0 := T55.vm) X55 hZ55 hEL C56.1)
set_option maxRecDepth 65536 in
set_option maxHeartbeats 40000000 in
theorem comes_1 {Post : Tables → Env → Array Value → State → Outcome → State → Prop} (hpost : ∀ tb e args s v u, (limb_1_1.after args s (.returned v) u = true ∧ limb_1_2.after args s (.returned v) u = true ∧ True) → ReturnedEndW s (.returned v) u (Jvm.fieldLocs frame_1_writes args s ++ Jvm.arrayLocs frame_1_arrays args s ++ Jvm.staticLocs frame_1_statics s) 24 3200 → Post tb e args s (.returned v) u) :
    ArmFor flags0 classFile x code maxLocals ret World_1 tables_1 room_1 Calls_1 rest_1 Pre_1 Post := by
  intro l hfl _ _ p e ha hc hk s m args below hf hA hF happ hP
  obtain ⟨hcalls, hrest, hpre⟩ := hP
  obtain ⟨-, -, -, hnamed, -, -, -, hat⟩ := (Spec.applies_iff hf).mp happ
  obtain ⟨hg, hn⟩ := and_e (Cond.before_iff.mp (show (Jvm.Cond.and given_1 narrow_1).before args s = true from hpre))
  obtain ⟨gc, gr0⟩ := and_e hg
  obtain ⟨ga0, gr1⟩ := and_e gr0
  obtain ⟨ga1, gr2⟩ := and_e gr1
  obtain ⟨ga2, gr3⟩ := and_e gr2
  obtain ⟨ga3, gr4⟩ := and_e gr3
  obtain ⟨ga4, gr5⟩ := and_e gr4
  have ga5 := gr5
  obtain ⟨w0, w1, w2, w3, w4, w5, rfl⟩ : ∃ w0 w1 w2 w3 w4 w5 : Value, args = #[w0, w1, w2, w3, w4, w5] := by
    have hs : args.size = 6 := by simpa [Cond.value, given_1] using gc
    obtain ⟨L⟩ := args
    match L, hs with
    | [w0, w1, w2, w3, w4, w5], _ => exact ⟨w0, w1, w2, w3, w4, w5, rfl⟩
  have hw := fun d (hd : d ∈ tables_1) => atoms_spec (ws := Jvm.Cond.code x code maxLocals ret :: tables_1) hat d (List.mem_cons_of_mem _ hd)
  have hfit : Fit s := fun {y c} hc i hi => by
    obtain ⟨ha, rfl⟩ := Array.getElem?_eq_some_iff.mp hc
    have q := List.all_eq_true.mp ((Array.all_eq_true_iff_forall_mem.mp hF) _ (Array.getElem_mem ha)) i (List.mem_range.mpr hi)
    simpa [Array.getElem?_eq_getElem hi] using q
  obtain ⟨i0, ei0⟩ := is_v ga0
  obtain rfl : w0 = (.int i0) := Option.some.inj ei0
  obtain ⟨i1, ei1⟩ := is_v ga1
  obtain rfl : w1 = (.int i1) := Option.some.inj ei1
  obtain ⟨i2, ei2⟩ := is_v ga2
  obtain rfl : w2 = (.int i2) := Option.some.inj ei2
  obtain ⟨i3, ei3⟩ := is_v ga3
  obtain rfl : w3 = (.int i3) := Option.some.inj ei3
  obtain ⟨i4, ei4⟩ := is_v ga4
  obtain rfl : w4 = (.int i4) := Option.some.inj ei4
  obtain ⟨i5, ei5⟩ := is_v ga5
  obtain rfl : w5 = (.int i5) := Option.some.inj ei5
  obtain ⟨hsets, hown0⟩ := atoms_of _ (rest_1_c_eq ▸ (show rest_1_c.before _ s = true from hrest))
  obtain ⟨cs, ecs⟩ := is_v (Cond.before_iff.mp (hsets _ (List.mem_of_getElem? (i := 1) rfl)))
  have RC : Sta s s.heap "java/lang/String" "COMPACT_STRINGS" "Z" (.int cs) := Sta.start ecs (Or.inl (hsets _ (List.mem_of_getElem? (i := 0) rfl)))
  have hcs : ¬ (cs = (0 : Int32)) := gotF (Cond.eq_ints ecs (Term.int_eval 0)) (by simpa using not_v (Cond.before_iff.mp (hsets _ (List.mem_of_getElem? (i := 2) rfl))))
  have H0 : CHv s own_EL s.vm s.heap := CHv.start (own_EW hw) (fun q hq => hcalls.1 q hq) (hsets _ (List.mem_of_getElem? (i := 2) rfl)) (hw _ (List.mem_of_getElem? (i := 23) rfl)) (hw _ (List.mem_of_getElem? (i := 9) rfl))
  obtain ⟨n, o, h1, h2, h3, _, L, rfl, ⟨rfl, N⟩, -, hq⟩ := rm0 l s _ hw tables_1 i0 i1 i2 i3 i4 i5 cs s.heap s.heap.size (Nat.le_refl _) (Old.start s) RC hcs p e ha hc hk s m _ below hf ((Spec.applies_iff_loose hf).mp happ).1 ⟨rfl, State.Warmed39.refl s, rfl, H0, fun _ q => nomatch q⟩ trivial
  refine ⟨n, _, h1, h2, h3, hpost _ _ _ _ _ _ ⟨Cond.after_iff.mpr rfl, Cond.after_iff.mpr (eq_i res_at (Term.int_eval (1)) rfl), trivial⟩ ⟨hq.1, hq.2.1, hq.2.2.1, (hq.2.2.2.sift fun y hy => Or.inr (N y hy)).mono (by decide) (by decide)⟩⟩
theorem main_1_1 : Claimed_1_1 := comes_1 fun _ _ _ _ _ _ h hF => ⟨h.1, hF⟩
theorem main_1_2 : Claimed_1_2 := comes_1 fun _ _ _ _ _ _ h hF => ⟨h.2.1, hF⟩
end Jvm.Pilot.@@N@@
namespace Jvm.Pilot.@@N@@
open Jvm Jvm.ClassFile Sem Op Lib Jvm.Free Jvm.Stand Jvm.Pilot.@@N@@.Jvm.D
/-! MADE BY PROGRAM (witnessworld.py) out of the Statement's table words and the real class files: 21 classes; the members and pool entries that the words name. The judged class is class 1, her method 3. -/
namespace start1
open Jvm.ClassFile
def u (s : String) : CpInfo := .utf8 (stringToUtf16 s)
/-- a pool by its gaps: so many unusable entries, then the entry; so many at the end -/
def gap : Nat → List CpInfo → List CpInfo
  | 0, r => r
  | n + 1, r => .unusable :: gap n r
def poolList (es : List (Nat × CpInfo)) (last : Nat) : List CpInfo := es.foldr (fun e r => gap e.1 (e.2 :: r)) (gap last [])
def pool (es : List (Nat × CpInfo)) (last : Nat) : Array CpInfo := ⟨poolList es last⟩
def fileOf (pool : Array CpInfo) (this : Nat) (attrs : Array Attribute := #[]) (ms : Array MethodInfo := #[]) (fl : Nat := 33) (sup : Nat := 0) (ifs : Array Nat := #[]) (fds : Array FieldInfo := #[]) : ClassFile where
  minorVersion := 0
  majorVersion := 65
  constantPool := pool
  accessFlags := fl
  thisClass := this
  superClass := sup
  interfaces := ifs
  fields := fds
  methods := ms
  attributes := attrs
def plain (name : String) (sup : Option ClassId) : Class where
  name := name
  kind := .ordinary
  loader := none
  accessFlags := 33
  super := sup
  interfaces := #[]
  cf := none
  fields := #[]
  methods := #[]
  instanceTypes := #[]
  staticTypes := #[]
  resolved := #[]
  callSites := []
  init := .initialized
  statics := none
  mirror := none

def pool0 : Array CpInfo := pool [(5, u "<init>"), (0, u "()V"), (1, .class_ 10), (1, u "java/lang/Object")] 113

def k0c0 : Code := { maxStack := 0, maxLocals := 1, code := object_method_1_code, exceptionTable := #[], attributes := #[] }
def k0m0 : Method := { name := "<init>", desc := "()V", sig := { parameters := [], returnType := none }, accessFlags := 1, code := some k0c0 }
/-- java/lang/Object -/
def k0 : Class := { plain "java/lang/Object" none with
  accessFlags := 33
  interfaces := #[]
  cf := some (fileOf pool0 8 #[] #[{ accessFlags := 1, nameIndex := 5, descriptorIndex := 6, attributes := #[] }] 33 0 #[] #[])
  fields := #[]
  methods := #[k0m0]
  instanceTypes := #[]
  staticTypes := #[]
  resolved := Array.replicate 124 none
  statics := none }

def pool1 : Array CpInfo := pool [(2, .class_ 4), (1, u "java/lang/Object"), (0, u "<init>"), (0, u "()V"), (0, .integer 2147483647), (0, .class_ 9), (0, u "java/lang/String"), (0, .methodref 8 11), (0, .nameAndType 5 12), (0, u "([C)V"), (0, .methodref 14 15), (0, .class_ 16), (0, .nameAndType 17 18), (0, u "recensio/records/EditionFieldMayHoldEditionStatementPinLaw"), (0, u "ch"), (0, u "(IZ)C"), (0, .methodref 14 20), (0, .nameAndType 21 22), (0, u "str"), (0, u "(ICCCC)Ljava/lang/String;"), (0, .methodref 24 25), (0, .class_ 26), (0, .nameAndType 27 28), (0, u "recensio/records/EditionField"), (0, u "mayHoldEditionStatement"), (0, u "(Ljava/lang/String;)Z"), (3, u "law"), (0, u "(IIIIII)Z")] 2

def k1m0 : Method := { name := "<init>", desc := "()V", sig := { parameters := [], returnType := none }, accessFlags := 2, code := none }
def k1c1 : Code := { maxStack := 3, maxLocals := 2, code := method_2_code, exceptionTable := #[], attributes := #[] }
def k1m1 : Method := { name := "ch", desc := "(IZ)C", sig := { parameters := [.int, .boolean], returnType := some .char }, accessFlags := 10, code := some k1c1 }
def k1c2 : Code := { maxStack := 3, maxLocals := 6, code := method_3_code, exceptionTable := #[], attributes := #[] }
def k1m2 : Method := { name := "str", desc := "(ICCCC)Ljava/lang/String;", sig := { parameters := [.int, .char, .char, .char, .char], returnType := some (.object "java/lang/String") }, accessFlags := 10, code := some k1c2 }
def k1c3 : Code := { maxStack := 5, maxLocals := 15, code := code, exceptionTable := #[], attributes := #[] }
def k1m3 : Method := { name := "law", desc := "(IIIIII)Z", sig := { parameters := [.int, .int, .int, .int, .int, .int], returnType := some .boolean }, accessFlags := 9, code := some k1c3 }
/-- recensio/records/EditionFieldMayHoldEditionStatementPinLaw -/
def k1 : Class := { plain "recensio/records/EditionFieldMayHoldEditionStatementPinLaw" (some 0) with
  accessFlags := 49
  interfaces := #[]
  cf := some (fileOf pool1 14 #[] #[{ accessFlags := 2, nameIndex := 5, descriptorIndex := 6, attributes := #[] }, { accessFlags := 10, nameIndex := 17, descriptorIndex := 18, attributes := #[] }, { accessFlags := 10, nameIndex := 21, descriptorIndex := 22, attributes := #[] }, { accessFlags := 9, nameIndex := 32, descriptorIndex := 33, attributes := #[] }] 49 2 #[] #[])
  fields := #[]
  methods := #[k1m0, k1m1, k1m2, k1m3]
  instanceTypes := #[]
  staticTypes := #[]
  resolved := Array.replicate 36 none
  statics := none }

def pool2 : Array CpInfo := pool [(1, .class_ 2), (0, u "java/io/Serializable"), (0, .class_ 4), (0, u "java/lang/Object")] 2

/-- java/io/Serializable -/
def k2 : Class := { plain "java/io/Serializable" (some 0) with
  accessFlags := 1537
  interfaces := #[]
  cf := some (fileOf pool2 1 #[] #[] 1537 3 #[] #[])
  fields := #[]
  methods := #[]
  instanceTypes := #[]
  staticTypes := #[]
  resolved := Array.replicate 7 none
  statics := none }

def pool3 : Array CpInfo := pool [(1, .class_ 2), (0, u "java/lang/Comparable"), (0, .class_ 4), (0, u "java/lang/Object")] 7

/-- java/lang/Comparable -/
def k3 : Class := { plain "java/lang/Comparable" (some 0) with
  accessFlags := 1537
  interfaces := #[]
  cf := some (fileOf pool3 1 #[] #[] 1537 3 #[] #[])
  fields := #[]
  methods := #[]
  instanceTypes := #[]
  staticTypes := #[]
  resolved := Array.replicate 12 none
  statics := none }

def pool4 : Array CpInfo := pool [(2, .class_ 4), (1, u "java/lang/CharSequence"), (42, .class_ 48), (0, u "java/lang/CharSequence$1CodePointIterator"), (10, .class_ 60), (0, u "java/lang/CharSequence$1CharIterator"), (5, .class_ 67), (0, u "java/lang/Object")] 63

/-- java/lang/CharSequence -/
def k4 : Class := { plain "java/lang/CharSequence" (some 0) with
  accessFlags := 1537
  interfaces := #[]
  cf := some (fileOf pool4 2 #[.nestMembers #[47, 59]] #[] 1537 66 #[] #[])
  fields := #[]
  methods := #[]
  instanceTypes := #[]
  staticTypes := #[]
  resolved := Array.replicate 131 none
  statics := none }

def pool5 : Array CpInfo := pool [(1, .class_ 2), (0, u "java/lang/constant/Constable"), (0, .class_ 4), (0, u "java/lang/Object")] 6

/-- java/lang/constant/Constable -/
def k5 : Class := { plain "java/lang/constant/Constable" (some 0) with
  accessFlags := 1537
  interfaces := #[]
  cf := some (fileOf pool5 1 #[] #[] 1537 3 #[] #[])
  fields := #[]
  methods := #[]
  instanceTypes := #[]
  staticTypes := #[]
  resolved := Array.replicate 11 none
  statics := none }

def pool6 : Array CpInfo := pool [(1, .class_ 2), (0, u "java/lang/constant/ConstantDesc"), (0, .class_ 4), (0, u "java/lang/Object")] 32

/-- java/lang/constant/ConstantDesc -/
def k6 : Class := { plain "java/lang/constant/ConstantDesc" (some 0) with
  accessFlags := 1537
  interfaces := #[]
  cf := some (fileOf pool6 1 #[] #[] 1537 3 #[] #[])
  fields := #[]
  methods := #[]
  instanceTypes := #[]
  staticTypes := #[]
  resolved := Array.replicate 37 none
  statics := none }

def pool7 : Array CpInfo := pool [(1, .methodref 2 3), (0, .class_ 4), (0, .nameAndType 5 6), (0, u "java/lang/Object"), (0, u "<init>"), (0, u "()V"), (0, .string 8), (0, u ""), (0, .fieldref 10 11), (0, .class_ 12), (0, .nameAndType 13 14), (0, u "java/lang/String"), (0, u "value"), (0, u "[B"), (0, .fieldref 10 16), (0, .nameAndType 17 18), (0, u "coder"), (0, u "B"), (2, u "hash"), (0, u "I"), (2, u "hashIsZero"), (0, u "Z"), (0, .methodref 10 28), (0, .nameAndType 5 29), (0, u "([CIILjava/lang/Void;)V"), (8, .fieldref 10 39), (0, .nameAndType 40 26), (0, u "COMPACT_STRINGS"), (1, .class_ 44), (1, u "java/lang/StringUTF16"), (0, u "compress"), (1, .methodref 42 48), (0, .nameAndType 49 50), (0, u "coderFromArrayLen"), (0, u "([BI)B"), (56, .class_ 109), (1, u "java/lang/StringLatin1"), (67, .methodref 42 178), (0, .nameAndType 45 179), (0, u "([CII)[B"), (361, .methodref 107 542), (0, .nameAndType 543 544), (0, u "equals"), (0, u "([B[B)Z"), (28, u "(Ljava/lang/Object;)Z"), (1, .class_ 576), (0, u "java/lang/CharSequence"), (22, u "CASE_INSENSITIVE_ORDER"), (0, u "Ljava/util/Comparator;"), (409, u "([C)V"), (90, u "serialPersistentFields"), (0, u "[Ljava/io/ObjectStreamField;"), (0, .class_ 1104), (0, u "java/lang/String$CaseInsensitiveComparator"), (1, .class_ 1107), (0, u "java/io/Serializable"), (0, .class_ 1109), (0, u "java/lang/Comparable"), (0, .class_ 1111), (0, u "java/lang/constant/Constable"), (0, .class_ 1113), (0, u "java/lang/constant/ConstantDesc"), (2, u "serialVersionUID"), (0, u "J"), (3, u "REPL"), (0, u "C"), (2, u "LATIN1"), (1, u "UTF16")] 323

def k7m0 : Method := { name := "<init>", desc := "()V", sig := { parameters := [], returnType := none }, accessFlags := 1, code := none }
def k7c1 : Code := { maxStack := 5, maxLocals := 2, code := jdk_42_method_3_code, exceptionTable := #[], attributes := #[] }
def k7m1 : Method := { name := "<init>", desc := "([C)V", sig := { parameters := [(.array .char)], returnType := none }, accessFlags := 1, code := some k7c1 }
def k7c2 : Code := { maxStack := 2, maxLocals := 3, code := jdk_42_method_66_code, exceptionTable := #[], attributes := #[] }
def k7m2 : Method := { name := "equals", desc := "(Ljava/lang/Object;)Z", sig := { parameters := [(.object "java/lang/Object")], returnType := some .boolean }, accessFlags := 1, code := some k7c2 }
def k7c3 : Code := { maxStack := 4, maxLocals := 6, code := jdk_42_method_149_code, exceptionTable := #[], attributes := #[] }
def k7m3 : Method := { name := "<init>", desc := "([CIILjava/lang/Void;)V", sig := { parameters := [(.array .char), .int, .int, (.object "java/lang/Void")], returnType := none }, accessFlags := 2, code := some k7c3 }
/-- java/lang/String -/
def k7 : Class := { plain "java/lang/String" (some 0) with
  accessFlags := 49
  interfaces := #[2, 3, 4, 5, 6]
  cf := some (fileOf pool7 10 #[.nestMembers #[1103]] #[{ accessFlags := 1, nameIndex := 5, descriptorIndex := 6, attributes := #[] }, { accessFlags := 1, nameIndex := 5, descriptorIndex := 1010, attributes := #[] }, { accessFlags := 1, nameIndex := 543, descriptorIndex := 573, attributes := #[] }, { accessFlags := 2, nameIndex := 5, descriptorIndex := 29, attributes := #[] }] 49 2 #[1106, 1108, 575, 1110, 1112] #[{ accessFlags := 18, nameIndex := 13, descriptorIndex := 14, attributes := #[] }, { accessFlags := 18, nameIndex := 17, descriptorIndex := 18, attributes := #[] }, { accessFlags := 2, nameIndex := 21, descriptorIndex := 22, attributes := #[] }, { accessFlags := 2, nameIndex := 25, descriptorIndex := 26, attributes := #[] }, { accessFlags := 26, nameIndex := 1116, descriptorIndex := 1117, attributes := #[] }, { accessFlags := 24, nameIndex := 40, descriptorIndex := 26, attributes := #[] }, { accessFlags := 26, nameIndex := 1101, descriptorIndex := 1102, attributes := #[] }, { accessFlags := 26, nameIndex := 1121, descriptorIndex := 1122, attributes := #[] }, { accessFlags := 25, nameIndex := 599, descriptorIndex := 600, attributes := #[] }, { accessFlags := 24, nameIndex := 1125, descriptorIndex := 18, attributes := #[] }, { accessFlags := 24, nameIndex := 1127, descriptorIndex := 18, attributes := #[] }])
  fields := #[{ name := "value", type := (.array .byte), accessFlags := 18, slot := 0, constantValue := 0 }, { name := "coder", type := .byte, accessFlags := 18, slot := 1, constantValue := 0 }, { name := "hash", type := .int, accessFlags := 2, slot := 2, constantValue := 0 }, { name := "hashIsZero", type := .boolean, accessFlags := 2, slot := 3, constantValue := 0 }, { name := "serialVersionUID", type := .long, accessFlags := 26, slot := 0, constantValue := 0 }, { name := "COMPACT_STRINGS", type := .boolean, accessFlags := 24, slot := 1, constantValue := 0 }, { name := "serialPersistentFields", type := (.array (.object "java/io/ObjectStreamField")), accessFlags := 26, slot := 2, constantValue := 0 }, { name := "REPL", type := .char, accessFlags := 26, slot := 3, constantValue := 0 }, { name := "CASE_INSENSITIVE_ORDER", type := (.object "java/util/Comparator"), accessFlags := 25, slot := 4, constantValue := 0 }, { name := "LATIN1", type := .byte, accessFlags := 24, slot := 5, constantValue := 0 }, { name := "UTF16", type := .byte, accessFlags := 24, slot := 6, constantValue := 0 }]
  methods := #[k7m0, k7m1, k7m2, k7m3]
  instanceTypes := #[(.array .byte), .byte, .int, .boolean]
  staticTypes := #[.long, .boolean, (.array (.object "java/io/ObjectStreamField")), .char, (.object "java/util/Comparator"), .byte, .byte]
  resolved := Array.replicate 1451 none
  statics := some 0 }

def pool8 : Array CpInfo := pool [(2, .class_ 4), (1, u "java/lang/Object"), (0, u "<init>"), (0, u "()V"), (0, .class_ 8), (0, u "java/lang/Record")] 13

def k8m0 : Method := { name := "<init>", desc := "()V", sig := { parameters := [], returnType := none }, accessFlags := 4, code := none }
/-- java/lang/Record -/
def k8 : Class := { plain "java/lang/Record" (some 0) with
  accessFlags := 1057
  interfaces := #[]
  cf := some (fileOf pool8 7 #[] #[{ accessFlags := 4, nameIndex := 5, descriptorIndex := 6, attributes := #[] }] 1057 2 #[] #[])
  fields := #[]
  methods := #[k8m0]
  instanceTypes := #[]
  staticTypes := #[]
  resolved := Array.replicate 22 none
  statics := none }

def pool9 : Array CpInfo := pool [(2, .class_ 4), (1, u "java/lang/Record"), (3, u "tag"), (19, .class_ 30), (1, u "recensio/records/EditionField"), (0, u "Ljava/lang/String;"), (2, u "indicators"), (2, u "subfields"), (0, u "Ljava/util/List;"), (0, .string 40), (0, u "250"), (0, .methodref 42 43), (0, .class_ 44), (0, .nameAndType 45 46), (0, u "java/lang/String"), (0, u "equals"), (0, u "(Ljava/lang/Object;)Z"), (0, .string 48), (0, u "880"), (7, u "(Ljava/lang/String;)Z"), (77, u "mayHoldEditionStatement")] 32

def k9c0 : Code := { maxStack := 2, maxLocals := 1, code := prog_23_method_2_code, exceptionTable := #[], attributes := #[] }
def k9m0 : Method := { name := "mayHoldEditionStatement", desc := "(Ljava/lang/String;)Z", sig := { parameters := [(.object "java/lang/String")], returnType := some .boolean }, accessFlags := 8, code := some k9c0 }
/-- recensio/records/EditionField -/
def k9 : Class := { plain "recensio/records/EditionField" (some 8) with
  accessFlags := 49
  interfaces := #[]
  cf := some (fileOf pool9 28 #[] #[{ accessFlags := 8, nameIndex := 134, descriptorIndex := 56, attributes := #[] }] 49 2 #[] #[{ accessFlags := 18, nameIndex := 8, descriptorIndex := 31, attributes := #[] }, { accessFlags := 18, nameIndex := 34, descriptorIndex := 31, attributes := #[] }, { accessFlags := 18, nameIndex := 37, descriptorIndex := 38, attributes := #[] }])
  fields := #[{ name := "tag", type := (.object "java/lang/String"), accessFlags := 18, slot := 0, constantValue := 0 }, { name := "indicators", type := (.object "java/lang/String"), accessFlags := 18, slot := 1, constantValue := 0 }, { name := "subfields", type := (.object "java/util/List"), accessFlags := 18, slot := 2, constantValue := 0 }]
  methods := #[k9m0]
  instanceTypes := #[(.object "java/lang/String"), (.object "java/lang/String"), (.object "java/util/List")]
  staticTypes := #[]
  resolved := Array.replicate 167 none
  statics := none }

def pool10 : Array CpInfo := pool [(4, .class_ 6), (1, u "java/lang/Object"), (0, u "<init>"), (0, u "()V"), (5, .class_ 16), (1, u "java/lang/StringLatin1"), (104, u "$assertionsDisabled"), (0, u "Z"), (98, .class_ 223), (1, u "java/lang/StringLatin1$LinesSpliterator"), (57, u "equals"), (0, u "([B[B)Z"), (107, .class_ 391), (0, u "java/lang/StringLatin1$CharsSpliterator")] 3

def k10m0 : Method := { name := "<init>", desc := "()V", sig := { parameters := [], returnType := none }, accessFlags := 0, code := none }
def k10c1 : Code := { maxStack := 3, maxLocals := 3, code := jdk_43_method_13_code, exceptionTable := #[], attributes := #[] }
def k10m1 : Method := { name := "equals", desc := "([B[B)Z", sig := { parameters := [(.array .byte), (.array .byte)], returnType := some .boolean }, accessFlags := 9, code := some k10c1 }
/-- java/lang/StringLatin1 -/
def k10 : Class := { plain "java/lang/StringLatin1" (some 0) with
  accessFlags := 48
  interfaces := #[]
  cf := some (fileOf pool10 14 #[.nestMembers #[390, 221]] #[{ accessFlags := 0, nameIndex := 7, descriptorIndex := 8, attributes := #[] }, { accessFlags := 9, nameIndex := 281, descriptorIndex := 282, attributes := #[] }] 48 4 #[] #[{ accessFlags := 4120, nameIndex := 121, descriptorIndex := 122, attributes := #[] }])
  fields := #[{ name := "$assertionsDisabled", type := .boolean, accessFlags := 4120, slot := 0, constantValue := 0 }]
  methods := #[k10m0, k10m1]
  instanceTypes := #[]
  staticTypes := #[.boolean]
  resolved := Array.replicate 395 none
  statics := none }

def pool11 : Array CpInfo := pool [(6, .class_ 8), (1, u "java/lang/Object"), (0, u "<init>"), (0, u "()V"), (1, .class_ 14), (1, u "java/lang/StringUTF16"), (31, u "$assertionsDisabled"), (0, u "Z"), (13, u "HI_BYTE_SHIFT"), (0, u "I"), (2, u "LO_BYTE_SHIFT"), (49, .methodref 12 116), (0, .nameAndType 117 118), (0, u "compress"), (0, u "([CI[BII)I"), (3, u "([CII)[B"), (138, u "coderFromArrayLen"), (0, u "([BI)B"), (106, .class_ 371), (1, u "java/lang/StringUTF16$LinesSpliterator"), (58, u "MAX_LENGTH"), (196, .class_ 628), (0, u "java/lang/StringUTF16$CodePointsSpliterator"), (0, .class_ 630), (0, u "java/lang/StringUTF16$CharsSpliterator")] 4

def k11m0 : Method := { name := "<init>", desc := "()V", sig := { parameters := [], returnType := none }, accessFlags := 0, code := none }
def k11c1 : Code := { maxStack := 2, maxLocals := 2, code := jdk_52_method_15_code, exceptionTable := #[], attributes := #[] }
def k11m1 : Method := { name := "coderFromArrayLen", desc := "([BI)B", sig := { parameters := [(.array .byte), .int], returnType := some .byte }, accessFlags := 8, code := some k11c1 }
def k11c2 : Code := { maxStack := 5, maxLocals := 6, code := jdk_52_method_16_code, exceptionTable := #[], attributes := #[] }
def k11m2 : Method := { name := "compress", desc := "([CII)[B", sig := { parameters := [(.array .char), .int, .int], returnType := some (.array .byte) }, accessFlags := 9, code := some k11c2 }
def k11c3 : Code := { maxStack := 3, maxLocals := 7, code := jdk_52_method_21_code, exceptionTable := #[], attributes := #[] }
def k11m3 : Method := { name := "compress", desc := "([CI[BII)I", sig := { parameters := [(.array .char), .int, (.array .byte), .int, .int], returnType := some .int }, accessFlags := 9, code := some k11c3 }
/-- java/lang/StringUTF16 -/
def k11 : Class := { plain "java/lang/StringUTF16" (some 0) with
  accessFlags := 48
  interfaces := #[]
  cf := some (fileOf pool11 12 #[.nestMembers #[627, 629, 369]] #[{ accessFlags := 0, nameIndex := 9, descriptorIndex := 10, attributes := #[] }, { accessFlags := 8, nameIndex := 261, descriptorIndex := 262, attributes := #[] }, { accessFlags := 9, nameIndex := 117, descriptorIndex := 122, attributes := #[] }, { accessFlags := 9, nameIndex := 117, descriptorIndex := 118, attributes := #[] }] 48 6 #[] #[{ accessFlags := 26, nameIndex := 61, descriptorIndex := 62, attributes := #[] }, { accessFlags := 26, nameIndex := 65, descriptorIndex := 62, attributes := #[] }, { accessFlags := 24, nameIndex := 430, descriptorIndex := 62, attributes := #[] }, { accessFlags := 4120, nameIndex := 46, descriptorIndex := 47, attributes := #[] }])
  fields := #[{ name := "HI_BYTE_SHIFT", type := .int, accessFlags := 26, slot := 0, constantValue := 0 }, { name := "LO_BYTE_SHIFT", type := .int, accessFlags := 26, slot := 1, constantValue := 0 }, { name := "MAX_LENGTH", type := .int, accessFlags := 24, slot := 2, constantValue := 0 }, { name := "$assertionsDisabled", type := .boolean, accessFlags := 4120, slot := 3, constantValue := 0 }]
  methods := #[k11m0, k11m1, k11m2, k11m3]
  instanceTypes := #[]
  staticTypes := #[.int, .int, .int, .boolean]
  resolved := Array.replicate 635 none
  statics := none }

def pool12 : Array CpInfo := pool [(2, .class_ 4), (1, u "java/lang/Object"), (0, u "<init>"), (0, u "()V"), (17, .class_ 26), (1, u "jdk/internal/util/Preconditions"), (28, .class_ 56), (0, u "jdk/internal/util/Preconditions$4"), (57, .class_ 115), (0, u "jdk/internal/util/Preconditions$1"), (7, u "SIOOBE_FORMATTER"), (0, u "Ljava/util/function/BiFunction;"), (0, .class_ 126), (0, u "jdk/internal/util/Preconditions$2"), (3, u "AIOOBE_FORMATTER"), (0, .class_ 132), (0, u "jdk/internal/util/Preconditions$3"), (3, u "IOOBE_FORMATTER")] 57

def k12m0 : Method := { name := "<init>", desc := "()V", sig := { parameters := [], returnType := none }, accessFlags := 1, code := none }
/-- jdk/internal/util/Preconditions -/
def k12 : Class := { plain "jdk/internal/util/Preconditions" (some 0) with
  accessFlags := 33
  interfaces := #[]
  cf := some (fileOf pool12 24 #[.nestMembers #[55, 131, 125, 114]] #[{ accessFlags := 1, nameIndex := 5, descriptorIndex := 6, attributes := #[] }] 33 2 #[] #[{ accessFlags := 25, nameIndex := 123, descriptorIndex := 124, attributes := #[] }, { accessFlags := 25, nameIndex := 130, descriptorIndex := 124, attributes := #[] }, { accessFlags := 25, nameIndex := 136, descriptorIndex := 124, attributes := #[] }])
  fields := #[{ name := "SIOOBE_FORMATTER", type := (.object "java/util/function/BiFunction"), accessFlags := 25, slot := 0, constantValue := 0 }, { name := "AIOOBE_FORMATTER", type := (.object "java/util/function/BiFunction"), accessFlags := 25, slot := 1, constantValue := 0 }, { name := "IOOBE_FORMATTER", type := (.object "java/util/function/BiFunction"), accessFlags := 25, slot := 2, constantValue := 0 }]
  methods := #[k12m0]
  instanceTypes := #[]
  staticTypes := #[(.object "java/util/function/BiFunction"), (.object "java/util/function/BiFunction"), (.object "java/util/function/BiFunction")]
  resolved := Array.replicate 194 none
  statics := some 1 }

def pool13 : Array CpInfo := pool [(9, u "<init>"), (6, .class_ 18), (1, u "java/lang/Object"), (0, u "()V"), (1, .class_ 23), (1, u "jdk/internal/util/ArraysSupport"), (0, u "LOG2_ARRAY_LONG_INDEX_SCALE"), (0, u "I"), (2, u "U"), (0, u "Ljdk/internal/misc/Unsafe;"), (8, u "BIG_ENDIAN"), (0, u "Z"), (8, u "LOG2_BYTE_BIT_SIZE"), (4, u "LOG2_ARRAY_INT_INDEX_SCALE"), (54, u "JLA"), (0, u "Ljdk/internal/access/JavaLangAccess;"), (11, u "LOG2_ARRAY_BOOLEAN_INDEX_SCALE"), (9, u "LOG2_ARRAY_BYTE_INDEX_SCALE"), (5, u "LOG2_ARRAY_CHAR_INDEX_SCALE"), (5, u "LOG2_ARRAY_SHORT_INDEX_SCALE"), (18, u "LOG2_ARRAY_FLOAT_INDEX_SCALE"), (24, u "LOG2_ARRAY_DOUBLE_INDEX_SCALE"), (89, u "T_BOOLEAN"), (2, u "T_CHAR"), (1, u "T_FLOAT"), (1, u "T_DOUBLE"), (1, u "T_BYTE"), (1, u "T_SHORT"), (1, u "T_INT"), (1, u "T_LONG"), (1, u "SOFT_MAX_ARRAY_LENGTH")] 83

def k13m0 : Method := { name := "<init>", desc := "()V", sig := { parameters := [], returnType := none }, accessFlags := 2, code := none }
/-- jdk/internal/util/ArraysSupport -/
def k13 : Class := { plain "jdk/internal/util/ArraysSupport" (some 0) with
  accessFlags := 33
  interfaces := #[]
  cf := some (fileOf pool13 21 #[] #[{ accessFlags := 2, nameIndex := 9, descriptorIndex := 19, attributes := #[] }] 33 16 #[] #[{ accessFlags := 24, nameIndex := 28, descriptorIndex := 29, attributes := #[] }, { accessFlags := 26, nameIndex := 38, descriptorIndex := 39, attributes := #[] }, { accessFlags := 25, nameIndex := 121, descriptorIndex := 25, attributes := #[] }, { accessFlags := 25, nameIndex := 131, descriptorIndex := 25, attributes := #[] }, { accessFlags := 25, nameIndex := 137, descriptorIndex := 25, attributes := #[] }, { accessFlags := 25, nameIndex := 143, descriptorIndex := 25, attributes := #[] }, { accessFlags := 25, nameIndex := 53, descriptorIndex := 25, attributes := #[] }, { accessFlags := 25, nameIndex := 24, descriptorIndex := 25, attributes := #[] }, { accessFlags := 25, nameIndex := 162, descriptorIndex := 25, attributes := #[] }, { accessFlags := 25, nameIndex := 187, descriptorIndex := 25, attributes := #[] }, { accessFlags := 26, nameIndex := 48, descriptorIndex := 25, attributes := #[] }, { accessFlags := 25, nameIndex := 277, descriptorIndex := 25, attributes := #[] }, { accessFlags := 25, nameIndex := 280, descriptorIndex := 25, attributes := #[] }, { accessFlags := 25, nameIndex := 282, descriptorIndex := 25, attributes := #[] }, { accessFlags := 25, nameIndex := 284, descriptorIndex := 25, attributes := #[] }, { accessFlags := 25, nameIndex := 286, descriptorIndex := 25, attributes := #[] }, { accessFlags := 25, nameIndex := 288, descriptorIndex := 25, attributes := #[] }, { accessFlags := 25, nameIndex := 290, descriptorIndex := 25, attributes := #[] }, { accessFlags := 25, nameIndex := 292, descriptorIndex := 25, attributes := #[] }, { accessFlags := 26, nameIndex := 108, descriptorIndex := 109, attributes := #[] }, { accessFlags := 25, nameIndex := 294, descriptorIndex := 25, attributes := #[] }])
  fields := #[{ name := "U", type := (.object "jdk/internal/misc/Unsafe"), accessFlags := 24, slot := 0, constantValue := 0 }, { name := "BIG_ENDIAN", type := .boolean, accessFlags := 26, slot := 1, constantValue := 0 }, { name := "LOG2_ARRAY_BOOLEAN_INDEX_SCALE", type := .int, accessFlags := 25, slot := 2, constantValue := 0 }, { name := "LOG2_ARRAY_BYTE_INDEX_SCALE", type := .int, accessFlags := 25, slot := 3, constantValue := 0 }, { name := "LOG2_ARRAY_CHAR_INDEX_SCALE", type := .int, accessFlags := 25, slot := 4, constantValue := 0 }, { name := "LOG2_ARRAY_SHORT_INDEX_SCALE", type := .int, accessFlags := 25, slot := 5, constantValue := 0 }, { name := "LOG2_ARRAY_INT_INDEX_SCALE", type := .int, accessFlags := 25, slot := 6, constantValue := 0 }, { name := "LOG2_ARRAY_LONG_INDEX_SCALE", type := .int, accessFlags := 25, slot := 7, constantValue := 0 }, { name := "LOG2_ARRAY_FLOAT_INDEX_SCALE", type := .int, accessFlags := 25, slot := 8, constantValue := 0 }, { name := "LOG2_ARRAY_DOUBLE_INDEX_SCALE", type := .int, accessFlags := 25, slot := 9, constantValue := 0 }, { name := "LOG2_BYTE_BIT_SIZE", type := .int, accessFlags := 26, slot := 10, constantValue := 0 }, { name := "T_BOOLEAN", type := .int, accessFlags := 25, slot := 11, constantValue := 0 }, { name := "T_CHAR", type := .int, accessFlags := 25, slot := 12, constantValue := 0 }, { name := "T_FLOAT", type := .int, accessFlags := 25, slot := 13, constantValue := 0 }, { name := "T_DOUBLE", type := .int, accessFlags := 25, slot := 14, constantValue := 0 }, { name := "T_BYTE", type := .int, accessFlags := 25, slot := 15, constantValue := 0 }, { name := "T_SHORT", type := .int, accessFlags := 25, slot := 16, constantValue := 0 }, { name := "T_INT", type := .int, accessFlags := 25, slot := 17, constantValue := 0 }, { name := "T_LONG", type := .int, accessFlags := 25, slot := 18, constantValue := 0 }, { name := "JLA", type := (.object "jdk/internal/access/JavaLangAccess"), accessFlags := 26, slot := 19, constantValue := 0 }, { name := "SOFT_MAX_ARRAY_LENGTH", type := .int, accessFlags := 25, slot := 20, constantValue := 0 }]
  methods := #[k13m0]
  instanceTypes := #[]
  staticTypes := #[(.object "jdk/internal/misc/Unsafe"), .boolean, .int, .int, .int, .int, .int, .int, .int, .int, .int, .int, .int, .int, .int, .int, .int, .int, .int, (.object "jdk/internal/access/JavaLangAccess"), .int]
  resolved := Array.replicate 378 none
  statics := none }

def pool14 : Array CpInfo := pool [(1, u "java/lang/Cloneable"), (0, .class_ 1), (0, u "java/lang/Object"), (0, .class_ 3)] 3

/-- java/lang/Cloneable -/
def k14 : Class := { plain "java/lang/Cloneable" (some 0) with
  accessFlags := 1537
  interfaces := #[]
  cf := some (fileOf pool14 2 #[] #[] 1537 4 #[] #[])
  fields := #[]
  methods := #[]
  instanceTypes := #[]
  staticTypes := #[]
  resolved := Array.replicate 8 none
  statics := none }

/-- the primitive byte -/
def k15 : Class := { plain "byte" none with kind := .primitive 'B', accessFlags := 0x411 }
/-- [B -/
def k16 : Class := { plain "[B" (some 0) with kind := .array 15 .byte, interfaces := #[14, 2], accessFlags := 1041 }

/-- the primitive char -/
def k17 : Class := { plain "char" none with kind := .primitive 'C', accessFlags := 0x411 }
/-- [C -/
def k18 : Class := { plain "[C" (some 0) with kind := .array 17 .char, interfaces := #[14, 2], accessFlags := 1041 }

/-- the primitive int -/
def k19 : Class := { plain "int" none with kind := .primitive 'I', accessFlags := 0x411 }
/-- [I -/
def k20 : Class := { plain "[I" (some 0) with kind := .array 19 .int, interfaces := #[14, 2], accessFlags := 1041 }

def heap : Heap := #[{ cls := 7, slots := #[.long 0, .int 1, .null, .int 0, .null, .int 0, .int 0], vm := .statics 7 },
  { cls := 12, slots := #[.null, .null, .null], vm := .statics 12 }]
def classes : Array Class := #[k0, k1, k2, k3, k4, k5, k6, k7, k8, k9, k10, k11, k12, k13, k14, k15, k16, k17, k18, k19, k20]
def interned : List (Array UInt16 × Addr) := []
def slotsUsed : Nat := 10
def theMethod : MethodId := ⟨1, 3⟩
def args0 : Array Value := #[.int 5, .int 1, .int 1, .int 1, .int 1, .int 1]
def aboutOver (below : List Frame) : State where
  vm := { classes := classes, interned := interned.toArray }
  heap := heap
  slotsUsed := slotsUsed
  threads := #[{ frames := .invoking theMethod args0 :: below }]
def below0 : List Frame := [.native { method := ⟨0, 0⟩, args := #[] }]
def about1 : State := aboutOver below0
def p0 : Program := .bare "" "" ""
def e0 : Env := launch0.env 0 0 0
theorem w_frames : about1.frames = Frame.invoking theMethod args0 :: below0 := rfl
set_option maxRecDepth 65536 in
theorem w_args : argsFit about1.vm theMethod args0 = true := by decide +kernel
set_option maxRecDepth 65536 in
theorem w_heap : heapFits about1 = true := by decide +kernel
set_option maxRecDepth 65536 in
theorem w_runnable : about1.curStatus? = some .runnable := by decide +kernel
set_option maxRecDepth 65536 in
theorem w_alone : about1.alone = true := by decide +kernel
set_option maxRecDepth 65536 in
theorem w_named : about1.methodNamed? x = some theMethod := by decide +kernel
set_option maxRecDepth 65536 in
theorem w_hears : about1.hears theMethod below0 = true := by decide +kernel
set_option maxRecDepth 65536 in
theorem w_ripe : about1.ripe theMethod args0 below0 = true := by decide +kernel
theorem w_running : about1.status = .running := rfl
set_option maxRecDepth 65536 in
theorem w_room : about1.hasRoom e0.platform room_1 = true :=
  launch0.hasRoom_least _ room_1 (by decide +kernel) (by decide +kernel) (by decide +kernel) (by decide +kernel) (by decide +kernel) (by decide +kernel)
theorem allAtoms_all (ts : List Jvm.Cond) (a : Array Jvm.Value) (st : Jvm.State) : (allAtoms ts).before a st = ts.all (fun c => c.before a st) := by
  induction ts with
  | nil => rfl
  | cons c t ih =>
    show (Jvm.Cond.and c (allAtoms t)).before a st = _
    rw [Jvm.Cond.before_and, ih, List.all_cons]
def words1 : List Jvm.Cond := Jvm.Cond.code x code maxLocals ret :: tables_1
/-- a 'code' word, met by the world's own term for the bytes: nothing is compared byte by byte -/
theorem code_word {y : MethodName} {bytes : ByteArray} {mx : Nat} {rt : Option FieldType} {a : Array Value} {s : State} {m : MethodId} {meth : Method} {c : Code} (h1 : s.methodNamed? y = some m) (h2 : s.vm.method? m = some meth) (h3 : meth.code = some c) (h4 : c.code = bytes)
    (h5 : (c.maxLocals == mx && c.exceptionTable.isEmpty && decide (c.maxStack ≤ mostOperands) && decide (meth.sig.returnType = rt) && !meth.locks && decide (parseMethodDescriptor y.desc = some meth.sig)) = true) : (Jvm.Cond.code y bytes mx rt).before a s = true := by
  simp only [Bool.and_eq_true, beq_iff_eq, Bool.not_eq_true', decide_eq_true_eq] at h5
  obtain ⟨⟨⟨⟨⟨g1, g2⟩, g3⟩, g4⟩, g5⟩, g6⟩ := h5
  simp [Cond.before, Cond.holds, Cond.value, h1, h2, h3, h4, g1, g2, g3, g4, g5, g6]
def isCode : Jvm.Cond → Bool
  | .code _ _ _ _ => true
  | _ => false
theorem all_split {L : List Jvm.Cond} {P : Jvm.Cond → Bool} (h1 : L.all (fun c => isCode c || P c) = true) (h2 : ∀ c ∈ L.filter isCode, P c = true) : L.all P = true := by
  refine List.all_eq_true.mpr fun c hc => ?_
  have h := List.all_eq_true.mp h1 c hc
  rcases Bool.eq_false_or_eq_true (isCode c) with hi | hi
  · exact h2 c (List.mem_filter.mpr ⟨hc, hi⟩)
  · simpa [hi] using h
set_option maxRecDepth 65536 in
theorem w_c0 : (Jvm.Cond.code x code maxLocals ret).before args0 about1 = true := code_word (m := ⟨1, 3⟩) (meth := k1m3) (c := k1c3) (by decide +kernel) rfl rfl rfl (by decide +kernel)
set_option maxRecDepth 65536 in
theorem w_c1 : (Jvm.Cond.code ({ cls := "recensio/records/EditionFieldMayHoldEditionStatementPinLaw", name := "ch", desc := "(IZ)C" } : Jvm.MethodName) method_2_code (2 : Nat) (Option.some Jvm.ClassFile.FieldType.char)).before args0 about1 = true := code_word (m := ⟨1, 1⟩) (meth := k1m1) (c := k1c1) (by decide +kernel) rfl rfl rfl (by decide +kernel)
set_option maxRecDepth 65536 in
theorem w_c2 : (Jvm.Cond.code ({ cls := "recensio/records/EditionFieldMayHoldEditionStatementPinLaw", name := "str", desc := "(ICCCC)Ljava/lang/String;" } : Jvm.MethodName) method_3_code (6 : Nat) (Option.some (Jvm.ClassFile.FieldType.object "java/lang/String"))).before args0 about1 = true := code_word (m := ⟨1, 2⟩) (meth := k1m2) (c := k1c2) (by decide +kernel) rfl rfl rfl (by decide +kernel)
set_option maxRecDepth 65536 in
theorem w_c3 : (Jvm.Cond.code ({ cls := "java/lang/String", name := "<init>", desc := "([C)V" } : Jvm.MethodName) jdk_42_method_3_code (2 : Nat) (Option.none : Option Jvm.ClassFile.FieldType)).before args0 about1 = true := code_word (m := ⟨7, 1⟩) (meth := k7m1) (c := k7c1) (by decide +kernel) rfl rfl rfl (by decide +kernel)
set_option maxRecDepth 65536 in
theorem w_c4 : (Jvm.Cond.code ({ cls := "java/lang/String", name := "<init>", desc := "([CIILjava/lang/Void;)V" } : Jvm.MethodName) jdk_42_method_149_code (6 : Nat) (Option.none : Option Jvm.ClassFile.FieldType)).before args0 about1 = true := code_word (m := ⟨7, 3⟩) (meth := k7m3) (c := k7c3) (by decide +kernel) rfl rfl rfl (by decide +kernel)
set_option maxRecDepth 65536 in
theorem w_c5 : (Jvm.Cond.code ({ cls := "java/lang/Object", name := "<init>", desc := "()V" } : Jvm.MethodName) object_method_1_code (1 : Nat) (Option.none : Option Jvm.ClassFile.FieldType)).before args0 about1 = true := code_word (m := ⟨0, 0⟩) (meth := k0m0) (c := k0c0) (by decide +kernel) rfl rfl rfl (by decide +kernel)
set_option maxRecDepth 65536 in
theorem w_c6 : (Jvm.Cond.code ({ cls := "recensio/records/EditionField", name := "mayHoldEditionStatement", desc := "(Ljava/lang/String;)Z" } : Jvm.MethodName) prog_23_method_2_code (1 : Nat) (Option.some Jvm.ClassFile.FieldType.boolean)).before args0 about1 = true := code_word (m := ⟨9, 0⟩) (meth := k9m0) (c := k9c0) (by decide +kernel) rfl rfl rfl (by decide +kernel)
set_option maxRecDepth 65536 in
theorem w_c7 : (Jvm.Cond.code ({ cls := "java/lang/String", name := "equals", desc := "(Ljava/lang/Object;)Z" } : Jvm.MethodName) jdk_42_method_66_code (3 : Nat) (Option.some Jvm.ClassFile.FieldType.boolean)).before args0 about1 = true := code_word (m := ⟨7, 2⟩) (meth := k7m2) (c := k7c2) (by decide +kernel) rfl rfl rfl (by decide +kernel)
set_option maxRecDepth 65536 in
theorem w_c8 : (Jvm.Cond.code ({ cls := "java/lang/StringLatin1", name := "equals", desc := "([B[B)Z" } : Jvm.MethodName) jdk_43_method_13_code (3 : Nat) (Option.some Jvm.ClassFile.FieldType.boolean)).before args0 about1 = true := code_word (m := ⟨10, 1⟩) (meth := k10m1) (c := k10c1) (by decide +kernel) rfl rfl rfl (by decide +kernel)
set_option maxRecDepth 65536 in
theorem w_c9 : (Jvm.Cond.code ({ cls := "java/lang/StringUTF16", name := "compress", desc := "([CII)[B" } : Jvm.MethodName) jdk_52_method_16_code (6 : Nat) (Option.some (Jvm.ClassFile.FieldType.array Jvm.ClassFile.FieldType.byte))).before args0 about1 = true := code_word (m := ⟨11, 2⟩) (meth := k11m2) (c := k11c2) (by decide +kernel) rfl rfl rfl (by decide +kernel)
set_option maxRecDepth 65536 in
theorem w_c10 : (Jvm.Cond.code ({ cls := "java/lang/StringUTF16", name := "compress", desc := "([CI[BII)I" } : Jvm.MethodName) jdk_52_method_21_code (7 : Nat) (Option.some Jvm.ClassFile.FieldType.int)).before args0 about1 = true := code_word (m := ⟨11, 3⟩) (meth := k11m3) (c := k11c3) (by decide +kernel) rfl rfl rfl (by decide +kernel)
set_option maxRecDepth 65536 in
theorem w_c11 : (Jvm.Cond.code ({ cls := "java/lang/StringUTF16", name := "coderFromArrayLen", desc := "([BI)B" } : Jvm.MethodName) jdk_52_method_15_code (2 : Nat) (Option.some Jvm.ClassFile.FieldType.byte)).before args0 about1 = true := code_word (m := ⟨11, 1⟩) (meth := k11m1) (c := k11c1) (by decide +kernel) rfl rfl rfl (by decide +kernel)
def codes1 : List Jvm.Cond := [Jvm.Cond.code x code maxLocals ret, Jvm.Cond.code ({ cls := "recensio/records/EditionFieldMayHoldEditionStatementPinLaw", name := "ch", desc := "(IZ)C" } : Jvm.MethodName) method_2_code (2 : Nat) (Option.some Jvm.ClassFile.FieldType.char), Jvm.Cond.code ({ cls := "recensio/records/EditionFieldMayHoldEditionStatementPinLaw", name := "str", desc := "(ICCCC)Ljava/lang/String;" } : Jvm.MethodName) method_3_code (6 : Nat) (Option.some (Jvm.ClassFile.FieldType.object "java/lang/String")), Jvm.Cond.code ({ cls := "java/lang/String", name := "<init>", desc := "([C)V" } : Jvm.MethodName) jdk_42_method_3_code (2 : Nat) (Option.none : Option Jvm.ClassFile.FieldType), Jvm.Cond.code ({ cls := "java/lang/String", name := "<init>", desc := "([CIILjava/lang/Void;)V" } : Jvm.MethodName) jdk_42_method_149_code (6 : Nat) (Option.none : Option Jvm.ClassFile.FieldType), Jvm.Cond.code ({ cls := "java/lang/Object", name := "<init>", desc := "()V" } : Jvm.MethodName) object_method_1_code (1 : Nat) (Option.none : Option Jvm.ClassFile.FieldType), Jvm.Cond.code ({ cls := "recensio/records/EditionField", name := "mayHoldEditionStatement", desc := "(Ljava/lang/String;)Z" } : Jvm.MethodName) prog_23_method_2_code (1 : Nat) (Option.some Jvm.ClassFile.FieldType.boolean), Jvm.Cond.code ({ cls := "java/lang/String", name := "equals", desc := "(Ljava/lang/Object;)Z" } : Jvm.MethodName) jdk_42_method_66_code (3 : Nat) (Option.some Jvm.ClassFile.FieldType.boolean), Jvm.Cond.code ({ cls := "java/lang/StringLatin1", name := "equals", desc := "([B[B)Z" } : Jvm.MethodName) jdk_43_method_13_code (3 : Nat) (Option.some Jvm.ClassFile.FieldType.boolean), Jvm.Cond.code ({ cls := "java/lang/StringUTF16", name := "compress", desc := "([CII)[B" } : Jvm.MethodName) jdk_52_method_16_code (6 : Nat) (Option.some (Jvm.ClassFile.FieldType.array Jvm.ClassFile.FieldType.byte)), Jvm.Cond.code ({ cls := "java/lang/StringUTF16", name := "compress", desc := "([CI[BII)I" } : Jvm.MethodName) jdk_52_method_21_code (7 : Nat) (Option.some Jvm.ClassFile.FieldType.int), Jvm.Cond.code ({ cls := "java/lang/StringUTF16", name := "coderFromArrayLen", desc := "([BI)B" } : Jvm.MethodName) jdk_52_method_15_code (2 : Nat) (Option.some Jvm.ClassFile.FieldType.byte)]
set_option maxRecDepth 65536 in
theorem codes_eq : words1.filter isCode = codes1 := rfl
theorem w_codes : ∀ c ∈ words1.filter isCode, c.before args0 about1 = true := by
  rw [codes_eq]
  intro c hc
  simp only [codes1, List.mem_cons, List.not_mem_nil, or_false] at hc
  rcases hc with rfl | rfl | rfl | rfl | rfl | rfl | rfl | rfl | rfl | rfl | rfl | rfl
  · exact w_c0
  · exact w_c1
  · exact w_c2
  · exact w_c3
  · exact w_c4
  · exact w_c5
  · exact w_c6
  · exact w_c7
  · exact w_c8
  · exact w_c9
  · exact w_c10
  · exact w_c11
set_option maxRecDepth 65536 in
theorem w_t1 : (words1.take 24).all (fun c => isCode c || c.before args0 about1) = true := by decide +kernel
set_option maxRecDepth 65536 in
theorem w_t2 : ((words1.drop 24).take 24).all (fun c => isCode c || c.before args0 about1) = true := by decide +kernel
set_option maxRecDepth 65536 in
theorem w_t3 : ((words1.drop 24).drop 24).all (fun c => isCode c || c.before args0 about1) = true := by decide +kernel
theorem w_tables : (allAtoms (Jvm.Cond.code x code maxLocals ret :: tables_1)).before args0 about1 = true := by
  rw [allAtoms_all]
  show words1.all (fun c => c.before args0 about1) = true
  refine all_split ?_ w_codes
  rw [← List.take_append_drop 24 words1, List.all_append, w_t1, ← List.take_append_drop 24 (words1.drop 24), List.all_append, w_t2, w_t3]
  rfl
set_option maxRecDepth 65536 in
theorem w_rest : rest_1_c.before args0 about1 = true := by decide +kernel
set_option maxRecDepth 65536 in
theorem w_case : (Jvm.Cond.and given_1 narrow_1).before args0 about1 = true := by decide +kernel
set_option maxRecDepth 65536 in
theorem w_consts : constsHeld consts_1 about1 := Jvm.Lit.constsHeldB_iff.mp (by decide +kernel)
theorem w_applies : (headSpec (Jvm.Cond.code x code maxLocals ret :: tables_1) room_1).applies x e0.platform about1 = true :=
  (Spec.applies_iff w_frames).mpr ⟨w_running, w_runnable, w_alone, w_named, w_hears, w_ripe, w_room, w_tables⟩
theorem atStart : AtStart classFile x code maxLocals ret World_1 tables_1 room_1 Calls_1 rest_1 Pre_1 launch0 p0 e0 about1 theMethod args0 below0 :=
  ⟨lists_1, trivial, launch0.admits_env _ _ _, launch0.least_env, fairChoices_fair.cas, fairChoices_fair.clock, w_frames, w_args, w_heap, w_applies, ⟨w_consts, trivial⟩, w_rest, w_case⟩
end start1
theorem witness_1 : WitnessClaimed_1 := ⟨start1.p0, start1.e0, start1.about1, start1.theMethod, start1.args0, start1.below0, start1.atStart⟩
end Jvm.Pilot.@@N@@
