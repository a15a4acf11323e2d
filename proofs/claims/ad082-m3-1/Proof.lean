import JvmDerived
import JvmDerived.Pilot.@@N@@Statement
import JvmDerived.Pilot.@@N@@Code
set_option linter.unusedVariables false
set_option linter.unusedSimpArgs false
namespace Jvm.RoadKit
open Sem ClassFile Op Lib Jvm.Stand Jvm.Free Jvm.LawKit
section New
variable {p : Program} {l : Launch} {e : Env} {R : Room} {s : State} {m : MethodId} {args : Array Value} {below : List Frame} {meth : Method} {c : Code} {T : State} {locs : List Loc} {cells slots : Nat}
theorem retI (X : Stand p l e R s m args below meth c T locs cells slots) (hx : p.tables.exec = Jvm.exec) {pc : Nat} {Ls : Array Slot} {z : Int32} {rest : List Value} (hret : meth.sig.returnType = some .int) (hd : decode c.code pc = .ok (.ireturn, 1)) {fs : List Frame}
    (hl : ∀ (f : JFrame) (acts : List Action), f.method = m → f.locked = none → f.entered = [] → (doReturn e (T.setTop f) acts (some (.int z))).1 = T.setFrames fs) : Steps p.tables e below (T.setTop (mkF m pc Ls (.int z :: rest))) (T.setFrames fs) := by
  have hm' : T.vm.method? m = some meth := X.method'
  have hn : narrow .int (.int z) = .int z := rfl
  show Steps p.tables e below (T.setTop { method := m, pc := pc, locals := Ls, stack := _ :: rest, locked := none }) _
  jvm_step X.here [X.here.top, hx, hd, hm', hret, hn]
  first | (intro acts; rw [hl _ acts rfl rfl rfl]) | rw [hl _ _ rfl rfl rfl]
  exact Steps.refl _
end New
end Jvm.RoadKit
namespace Jvm.Pilot.@@N@@
open Jvm Jvm.ClassFile Sem Op Lib Jvm.Free Jvm.Stand Jvm.LawKit Jvm.RoadKit Bundle Jvm.Pilot.@@N@@.Jvm.D
theorem own_i2b (x : Int32) : x.toInt8.toInt32.toInt8.toInt32 = x.toInt8.toInt32 := by
  have h1 := c_i2b x; have h2 := c_i2b (x.toInt8.toInt32)
  rw [← Int32.toInt_inj]; omega
theorem own_ch (x : Int32) (h0 : 0 ≤ x.toInt) (h1 : x.toInt < 65536) : x.toUInt32.toUInt16.toUInt32.toInt32 = x := by
  have h := c_i2c x
  rw [← Int32.toInt_inj]; omega
theorem own_and255 (x : Int32) : 0 ≤ (x &&& (255 : Int32)).toInt ∧ (x &&& (255 : Int32)).toInt ≤ 255 := c_and x 255 (by decide)
theorem own_n255 (x : Int32) (h : x.toInt ≤ 255) : ¬ (255 : Int32) < x := by
  rw [Int32.lt_iff_toInt_lt]; have : (255 : Int32).toInt = 255 := rfl; omega
theorem own_lt1 (x : Int32) : ¬ (255 : Int32) < ((x &&& (255 : Int32)).toUInt32.toUInt16.toUInt32.toInt32) := by
  have h := own_and255 x
  rw [own_ch _ h.1 (by omega)]; exact own_n255 _ h.2
theorem own_lt2 (x : Int32) : ¬ (255 : Int32) < (((x &&& (255 : Int32)).toUInt32.toUInt16.toUInt32.toInt32).toUInt32.toUInt16.toUInt32.toInt32) := by
  have h := own_and255 x
  rw [own_ch _ h.1 (by omega), own_ch _ h.1 (by omega)]; exact own_n255 _ h.2
def own_se (n1 n2 ax ay bx by' : Int32) : Int32 := if n1 = n2 then (if (0 : Int32) < n1 then (if ax = bx then (if (1 : Int32) < n1 then (if ay = by' then 1 else 0) else 1) else 0) else 1) else 0
def own_tq (i1 i2 se : Int32) : Int32 := if i1 = i2 then (if se = (0 : Int32) then 0 else 1) else 0
theorem own_arvT {Z : State} {h : Heap} {a : Addr} {k : ClassId} {ty : FieldType} {z z' : Int32} {vs vs' : List Value} {d : Value} (F : Arv Z h a k ty z vs d) (e : z' = z) (q : ∀ i, i < z.toNatClampNeg → vs'.getD i d = vs.getD i d) : Arv Z h a k ty z' vs' d := by
  subst e
  obtain ⟨c, A, r1, r2, r3, H, G⟩ := F
  exact ⟨c, A, r1, r2, r3, fun i hi => by rw [q i (r2 ▸ hi)]; exact H i hi, fun i hi => by rw [q i (r2 ▸ hi)]; exact G i hi⟩
theorem own_pos {n : Int32} {k : Nat} {c : Int32} (e : c.toInt = (k : Int)) (h : c < n) : k < n.toNatClampNeg := by
  rw [Int32.lt_iff_toInt_lt] at h
  unfold Int32.toNatClampNeg; omega
theorem own_seT {Z : State} {h : Heap} {ths o bt bo : Addr} {kct ko : ClassId} {n1 n2 ax ay bx by' : Int32} (F1 : Fld Z h ths "java/lang/String" "value" "[B" (.ref bt)) (F2 : Fld Z h o "java/lang/String" "value" "[B" (.ref bo)) (A1 : Arv Z h bt kct .byte n1 [(.int ax), (.int ay)] (.int (0 : Int32))) (A2 : Arv Z h bo ko .byte n2 [(.int bx), (.int by')] (.int (0 : Int32))) (e : ths = o) : own_se n1 n2 ax ay bx by' = 1 := by
  have key : ¬ (n1.toNatClampNeg ≠ n2.toNatClampNeg ∨ ∃ i, i < n1.toNatClampNeg ∧ ([(.int ax), (.int ay)] : List Value).getD i (.int (0 : Int32)) ≠ ([(.int bx), (.int by')] : List Value).getD i (.int (0 : Int32))) := fun q => Fld.ne F1 F2 (fun z => arv_ne A1 A2 q (Value.ref.inj z)) e
  have hn : n1 = n2 := by
    have q : n1.toNatClampNeg = n2.toNatClampNeg := Classical.byContradiction fun q => key (Or.inl q)
    obtain ⟨-, -, -, -, r1, -⟩ := A1
    obtain ⟨-, -, -, -, r2, -⟩ := A2
    rw [← Int32.toInt_inj, nat_of r1, nat_of r2, q]
  unfold own_se
  rw [if_pos hn]
  split
  · rename_i h0
    have g0 : ax = bx := Classical.byContradiction fun q => key (Or.inr ⟨0, own_pos rfl h0, fun z => q (by simpa using z)⟩)
    rw [if_pos g0]
    split
    · rename_i h1
      have g1 : ay = by' := Classical.byContradiction fun q => key (Or.inr ⟨1, own_pos rfl h1, fun z => q (by simpa using z)⟩)
      rw [if_pos g1]
    · rfl
  · rfl
theorem own_litB {Z s : State} {EL : List (String × Nat)} {vm : Vm} {h : Heap} {own text : String} {index : Nat} {a b : Addr} {a0 : Array Value} (hW : Z.Warmed39 (s.setVm vm).vm) (H : CHv Z EL vm h) (hm : (own, index) ∈ EL) (w : (Jvm.Cond.stringLink own index text).before a0 Z = true) (L : Lit (s.setVm vm) own index a) (F : Fld Z h a "java/lang/String" "value" "[B" (.ref b)) : Exa Z h b "[B" := by
  have hW : Z.Warmed39 vm := hW
  have hal : Z.vm.Alike vm := hW.alike
  have L' : (s.setVm vm).resolvedAt? own index = some (.string a) := L
  have w2 : (Jvm.Cond.stringLink own index text).before a0 (Wst Z vm h) = true := mvS (s := { Z with heap := h }) hW w
  cases hc : vm.findClass own with
  | none => simp [State.resolvedAt?, State.setVm, hc] at L'
  | some c =>
    obtain ⟨k, cf, i, units, hk, hcf, hp, hu, -, htext, -⟩ := Cond.stringLink_spec (s := Wst Z vm h) hc w2
    have hk' : vm.classes[c]? = some k := hk
    have hres : k.resolved[index]? = some (some (.string a)) := by
      simp only [State.resolvedAt?, State.setVm, hc, hk', Option.bind_eq_bind, Option.bind_some] at L'
      cases hr : k.resolved[index]? with
      | none => simp [hr] at L'
      | some r => simp [hr] at L'; rw [L']
    obtain ⟨q, cS, rfl, ⟨⟨s1, s2, s3, ⟨cv, kv, iv, s4, s4'⟩, -, s6, s7, s8, s9, s10, s11, -⟩, -⟩, -, hB, -⟩ := H _ hm units a ⟨c, k, cf, i, hc, hk', hcf, hp, hu, Or.inl hres⟩
    obtain ⟨cell, cf', k', i', f, f1, f2, -, -, -, -, f7⟩ := F
    obtain ⟨kv', z4⟩ := ff_back hal s4
    cases z4.symm.trans f2
    have s1' : h[q.sa]? = some q.sC := s1
    cases s1'.symm.trans f1
    cases s8.symm.trans f7
    have hB' : vm.findClass "[B" = some q.SA.cls := hB
    have hBZ : Z.vm.findClass "[B" = some q.SA.cls := by rw [← hal.findClass]; exact hB'
    obtain ⟨kb, hkb, -⟩ := Vm.findClass_spec hBZ
    obtain ⟨kb', hkb', ekb⟩ := hal.2.2 _ _ hkb
    obtain ⟨hst, k9, hk9, comp, hkind9⟩ := s11
    have ek9 : k9 = kb' := Option.some.inj (hk9.symm.trans hkb')
    refine ⟨q.SA, kb, s10, hBZ, hkb, ?_, fun ho => ?_⟩
    · cases hv : q.SA.vm <;> first | rfl | exact absurd hv (hst _)
    · rw [ek9, ekb] at hkind9
      have hkind : kb.kind = _ := hkind9
      rw [ho] at hkind; cases hkind
def own_EL : List (String × Nat) := [("com/example/disk_to_queue/disktoqueue/store/TopicQueue", 1), ("java/lang/String", 7)]
theorem own_EW {Z : State} {a0 : Array Value} (hw : ∀ d ∈ tables_1, d.before a0 Z = true) : EW Z a0 own_EL := (EW.cons (hw _ (List.mem_of_getElem? (i := 41) rfl)) (by decide) (EW.cons (hw _ (List.mem_of_getElem? (i := 109) rfl)) (by decide) EW.nil))
theorem own_wS {Z : State} {a0 : Array Value} (hw : ∀ d ∈ tables_1, d.before a0 Z = true) : ∀ d ∈ Bundle.stringAtoms, d.before a0 Z = true := fun d hd => by
  simp only [Bundle.stringAtoms, List.mem_cons, List.not_mem_nil, or_false] at hd
  rcases hd with rfl | rfl | rfl | rfl | rfl | rfl | rfl
  · exact (hw _ (List.mem_of_getElem? (i := 7) rfl))
  · exact (hw _ (List.mem_of_getElem? (i := 6) rfl))
  · exact (hw _ (List.mem_of_getElem? (i := 24) rfl))
  · exact (hw _ (List.mem_of_getElem? (i := 34) rfl))
  · exact (hw _ (List.mem_of_getElem? (i := 32) rfl))
  · exact (hw _ (List.mem_of_getElem? (i := 42) rfl))
  · exact (hw _ (List.mem_of_getElem? (i := 43) rfl))
theorem own_slS {Z : State} {EL : List (String × Nat)} {vm : Vm} {h : Heap} {x : Addr} {ws : List Addr} (q : x < h.size) (n : Safe Z EL vm h x) (r : ∀ y ∈ ws, y < h.size ∧ Safe Z EL vm h y) : ∀ y ∈ x :: ws, y < h.size ∧ Safe Z EL vm h y := fun y z => (List.mem_cons.mp z).elim (fun u => u ▸ ⟨q, n⟩) (r y)
theorem own_backSH {p : Program} {l : Launch} {e : Env} {R : Room} {s : State} {below : List Frame} {args : Array Value} {Z : State} {a0 : Array Value} {EL : List (String × Nat)} {h : Heap} {vm0 : Vm} {y : MethodName} {bytes : ByteArray} {maxL : Nat} {ret : Option FieldType} {rm : Room} {len W : Nat} {as' : Array Value} {ws : List Addr} {Q : Option Value → Heap → List Loc → Prop}
    (hM : MetFree l y (head1 [Jvm.Cond.code y bytes maxL ret] rm) (fun a U => a = as' ∧ Z.Warmed39 U.vm ∧ U.heap = h ∧ CHv Z EL U.vm h ∧ ∀ x ∈ ws, Safe Z EL U.vm h x) (fun _ _ _ _ _ => True) (fun _ U o U' => ∃ v L, o = .returned v ∧ Q v U'.heap L ∧ CHr Z EL U.vm U.heap U'.vm U'.heap ∧ ReturnedEndW U o U' L rm.cells rm.slots))
    (hZ : Z.Warmed39 vm0) (wc : (Jvm.Cond.code y bytes maxL ret).before a0 Z = true) (wz : (Jvm.Cond.initialized y.cls).before a0 Z = true) (hf : rm.frames + 1 ≤ R.frames) (hl : W + (maxL + 11) + rm.locals ≤ R.locals) (hEL : EW Z a0 EL) (H : CHv Z EL vm0 h) (hs : ∀ x ∈ ws, x < h.size ∧ Safe Z EL vm0 h x) :
    BackS l R p e below (s.setVm vm0) args y len W (fun A a => a = as' ∧ A.U.heap = h ∧ A.cells + rm.cells ≤ R.cells ∧ A.slots + rm.slots ≤ R.slots)
      (fun A _ v B => ∃ L, Q v B.U.heap L ∧ B.locs = A.locs ++ L ∧ B.cells = A.cells + rm.cells ∧ B.slots = A.slots + rm.slots ∧ CHr Z EL vm0 h B.U.vm B.U.heap) := by
  refine BackS.of_freeW (bytes := bytes) (maxL := maxL) (ret := ret) (E := fun _ first o t L k n => k = rm.cells ∧ n = rm.slots ∧ (∃ v, o = .returned v ∧ Q v t.heap L) ∧ CHr Z EL first.vm first.heap t.vm t.heap) hM hf hl ?_ ?_ (fun _ _ _ _ _ _ _ _ _ => trivial) ?_ ?_
  · intro m meth c A a Y hp
    have hU : Z.Warmed39 A.U.vm := wtrans (s := s.setVm vm0) hZ Y.warmed
    refine ⟨?_, mv hU wc, mv hU wz, hp.2.2.1, hp.2.2.2⟩
    show (Jvm.Cond.and _ .tt).before a A.U = true
    rw [Cond.before_and, mv hU wc]; rfl
  · intro m meth c A a g mk Y hp
    have q := CHv.at Y hZ hEL H
    exact ⟨hp.1, wtrans (s := s.setVm vm0) hZ Y.warmed, hp.2.1, q.1, fun x hx => q.safe (hs x hx).1 (hs x hx).2⟩
  · rintro a first o t ⟨v, L, h1, h2, h3, h4⟩
    exact ⟨L, _, _, h4, rfl, rfl, ⟨v, h1, h2⟩, h3⟩
  · rintro m meth c A a g mk v t L k n Y hp - - ⟨e1, e2, ⟨v', e3, e4⟩, e5⟩
    cases e3; subst e1 e2
    refine ⟨L, e4, rfl, rfl, rfl, (CHv.at Y hZ hEL H).trans ?_⟩
    rw [← hp.2.1]; exact e5
theorem d6_0 : decode jdk_52_method_21_code 0 = .ok (.iconst 0, 1) := by decide +kernel
theorem d6_1 : decode jdk_52_method_21_code 1 = .ok (.istore 5, 2) := by decide +kernel
theorem d6_3 : decode jdk_52_method_21_code 3 = .ok (.iload 5, 2) := by decide +kernel
theorem d6_5 : decode jdk_52_method_21_code 5 = .ok (.iload 4, 2) := by decide +kernel
theorem d6_7 : decode jdk_52_method_21_code 7 = .ok (.if_icmp .ge 37, 3) := by decide +kernel
theorem d6_10 : decode jdk_52_method_21_code 10 = .ok (.aload_n 0, 1) := by decide +kernel
theorem d6_11 : decode jdk_52_method_21_code 11 = .ok (.iload_n 1, 1) := by decide +kernel
theorem d6_12 : decode jdk_52_method_21_code 12 = .ok (.caload, 1) := by decide +kernel
theorem d6_13 : decode jdk_52_method_21_code 13 = .ok (.istore 6, 2) := by decide +kernel
theorem d6_15 : decode jdk_52_method_21_code 15 = .ok (.iload 6, 2) := by decide +kernel
theorem d6_17 : decode jdk_52_method_21_code 17 = .ok (.sipush 255, 3) := by decide +kernel
theorem d6_20 : decode jdk_52_method_21_code 20 = .ok (.if_icmp .le 6, 3) := by decide +kernel
theorem d6_23 : decode jdk_52_method_21_code 23 = .ok (.iload 5, 2) := by decide +kernel
theorem d6_25 : decode jdk_52_method_21_code 25 = .ok (.ireturn, 1) := by decide +kernel
theorem d6_26 : decode jdk_52_method_21_code 26 = .ok (.aload_n 2, 1) := by decide +kernel
theorem d6_27 : decode jdk_52_method_21_code 27 = .ok (.iload_n 3, 1) := by decide +kernel
theorem d6_28 : decode jdk_52_method_21_code 28 = .ok (.iload 6, 2) := by decide +kernel
theorem d6_30 : decode jdk_52_method_21_code 30 = .ok (.i2b, 1) := by decide +kernel
theorem d6_31 : decode jdk_52_method_21_code 31 = .ok (.bastore, 1) := by decide +kernel
theorem d6_32 : decode jdk_52_method_21_code 32 = .ok (.iinc 1 1, 3) := by decide +kernel
theorem d6_35 : decode jdk_52_method_21_code 35 = .ok (.iinc 3 1, 3) := by decide +kernel
theorem d6_38 : decode jdk_52_method_21_code 38 = .ok (.iinc 5 1, 3) := by decide +kernel
theorem d6_41 : decode jdk_52_method_21_code 41 = .ok (.goto (-38), 3) := by decide +kernel
theorem d6_44 : decode jdk_52_method_21_code 44 = .ok (.iload 4, 2) := by decide +kernel
theorem d6_46 : decode jdk_52_method_21_code 46 = .ok (.ireturn, 1) := by decide +kernel
theorem own_pn0 : plainName "java/lang/StringUTF16" = true := by first | (simp [plainName, overriddenIn]; done) | decide +kernel
theorem rmCmp1_ef (m : MethodId) (x0 : Addr) (x2 : Addr) : entryFrame m #[(.ref x0), (.int (0 : Int32)), (.ref x2), (.int (0 : Int32)), (.int (1 : Int32))] 7 = mkF m 0 #[.val (.ref x0), .val (.int (0 : Int32)), .val (.ref x2), .val (.int (0 : Int32)), .val (.int (1 : Int32)), .unset, .unset] [] := by first | (simp [entryFrame, mkF, argsToLocals, Value.category]; done) | rfl
def QCmp1 (Z : State) (a : Addr) (b : Addr) (ka : ClassId) (kb : ClassId) (ch0 : Int32) (h0 : Heap) (n0 : Nat) (v : Option Value) (h : Heap) (L : List Loc) : Prop := v = some (.int (1 : Int32)) ∧ Fr n0 L ∧ Keep h0 h [b] ∧ Arv Z h b kb .byte (1 : Int32) [(.int (ch0.toInt8.toInt32))] (.int (0 : Int32))
set_option maxRecDepth 65536 in
set_option maxHeartbeats 40000000 in
theorem rmCmp1 (l : Launch) (Z : State) (a0 : Array Value) (hw : ∀ d ∈ tables_1, d.before a0 Z = true) (ws : List Jvm.Cond) (a : Addr) (b : Addr) (ka : ClassId) (kb : ClassId) (ch0 : Int32) (h0 : Heap) (n0 : Nat) (Z0 : n0 ≤ h0.size) (Aa : Arv Z h0 a ka .char (1 : Int32) [(.int ch0)] (.int (0 : Int32))) (Ab : Arv Z h0 b kb .byte (1 : Int32) [(.int (0 : Int32))] (.int (0 : Int32))) (g_b : n0 ≤ b) (ne : a ≠ b) (hch0 : ¬ ((255 : Int32) < ch0)) :
    MetFree l (⟨"java/lang/StringUTF16", "compress", "([CI[BII)I"⟩ : MethodName) (head1 (Jvm.Cond.code (⟨"java/lang/StringUTF16", "compress", "([CI[BII)I"⟩ : MethodName) jdk_52_method_21_code 7 (some .int) :: ws) ({ frames := 0, cells := 0, slots := 0, locals := 0 } : Room)) (fun aA' U => aA' = #[(.ref a), (.int (0 : Int32)), (.ref b), (.int (0 : Int32)), (.int (1 : Int32))] ∧ Z.Warmed39 U.vm ∧ U.heap = h0) (fun _ _ _ _ _ => True) (fun _ U oO' U' => ∃ vV' L, oO' = .returned vV' ∧ QCmp1 Z a b ka kb ch0 h0 n0 vV' U'.heap L ∧ FrameEnd U oO' U' L ({ frames := 0, cells := 0, slots := 0, locals := 0 } : Room).cells ({ frames := 0, cells := 0, slots := 0, locals := 0 } : Room).slots) := by
  refine MetFree.of_bodySF (plainFor_of_name own_pn0) hisR ?_
  intro p e s m args below meth c s₁ Bd hml0 hP hK
  obtain ⟨rfl, hZ, hh⟩ := hP
  have hx := Bd.exec
  have hby := Bd.bytes
  have hml : c.maxLocals = 7 := hml0
  have hown : s.vm.findClass "java/lang/StringUTF16" = some m.cls := findClass_of_methodNamed Bd.named
  have hnm := (name_of_methodNamed Bd.named Bd.method).1
  have X0 : Stand p l e ({ frames := 0, cells := 0, slots := 0, locals := 0 } : Room) s m #[(.ref a), (.int (0 : Int32)), (.ref b), (.int (0 : Int32)), (.int (1 : Int32))] below meth c s₁ [] 0 0 := Stand.of_body Bd
  have e0 : s₁.heap = h0 := by rw [← hh, Bd.state]; rfl
  have N0 := Fr.nil n0
  have K0 : Keep h0 h0 [b] := Keep.refl _ _
  have k0 : ∀ t, Steps p.tables e below (s₁.setTop (mkF m 0 #[.val (.ref a), .val (.int (0 : Int32)), .val (.ref b), .val (.int (0 : Int32)), .val (.int (1 : Int32)), .unset, .unset] [])) t → Steps p.tables e below (s₁.setTop (entryFrame m #[(.ref a), (.int (0 : Int32)), (.ref b), (.int (0 : Int32)), (.int (1 : Int32))] 7)) t := fun t k => castTop (rmCmp1_ef m (a) (b)) k
  have hc7_1 : (0 : Int32) < (1 : Int32) := by decide
  have k2 : ∀ t, Steps p.tables e below (s₁.setTop (mkF m 12 #[.val (.ref a), .val (.int (0 : Int32)), .val (.ref b), .val (.int (0 : Int32)), .val (.int (1 : Int32)), .val (.int (0 : Int32)), .unset] [(.int (0 : Int32)), (.ref a)])) t → Steps p.tables e below (s₁.setTop (entryFrame m #[(.ref a), (.int (0 : Int32)), (.ref b), (.int (0 : Int32)), (.int (1 : Int32))] 7)) t := by
    intro t kt
    refine k0 t ?_
    show Steps p.tables e below (s₁.setTop (mkF m 0 #[.val (.ref a), .val (.int (0 : Int32)), .val (.ref b), .val (.int (0 : Int32)), .val (.int (1 : Int32)), .unset, .unset] [])) t
    refine XS.iconst X0.here hx rfl (hb hby d6_0) ?_
    show Steps p.tables e below (s₁.setTop (mkF m 1 #[.val (.ref a), .val (.int (0 : Int32)), .val (.ref b), .val (.int (0 : Int32)), .val (.int (1 : Int32)), .unset, .unset] [(.int (0 : Int32))])) t
    refine XS.istore X0.here hx rfl (hb hby d6_1) rfl (l' := #[.val (.ref a), .val (.int (0 : Int32)), .val (.ref b), .val (.int (0 : Int32)), .val (.int (1 : Int32)), .val (.int (0 : Int32)), .unset]) rfl ?_
    show Steps p.tables e below (s₁.setTop (mkF m 3 #[.val (.ref a), .val (.int (0 : Int32)), .val (.ref b), .val (.int (0 : Int32)), .val (.int (1 : Int32)), .val (.int (0 : Int32)), .unset] [])) t
    refine XS.iload X0.here hx rfl (hb hby d6_3) rfl ?_
    show Steps p.tables e below (s₁.setTop (mkF m 5 #[.val (.ref a), .val (.int (0 : Int32)), .val (.ref b), .val (.int (0 : Int32)), .val (.int (1 : Int32)), .val (.int (0 : Int32)), .unset] [(.int (0 : Int32))])) t
    refine XS.iload X0.here hx rfl (hb hby d6_5) rfl ?_
    show Steps p.tables e below (s₁.setTop (mkF m 7 #[.val (.ref a), .val (.int (0 : Int32)), .val (.ref b), .val (.int (0 : Int32)), .val (.int (1 : Int32)), .val (.int (0 : Int32)), .unset] [(.int (1 : Int32)), (.int (0 : Int32))])) t
    refine XS.icmpNo X0.here hx rfl (hb hby d6_7) rfl (tlt hc7_1).2.1 ?_
    show Steps p.tables e below (s₁.setTop (mkF m 10 #[.val (.ref a), .val (.int (0 : Int32)), .val (.ref b), .val (.int (0 : Int32)), .val (.int (1 : Int32)), .val (.int (0 : Int32)), .unset] [])) t
    refine XS.aloadN X0.here hx rfl (hb hby d6_10) rfl rfl ?_
    show Steps p.tables e below (s₁.setTop (mkF m 11 #[.val (.ref a), .val (.int (0 : Int32)), .val (.ref b), .val (.int (0 : Int32)), .val (.int (1 : Int32)), .val (.int (0 : Int32)), .unset] [(.ref a)])) t
    refine XS.iloadN X0.here hx rfl (hb hby d6_11) rfl ?_
    exact kt
  obtain ⟨cl3, Ar3, q3, S3, M3, H3, G3⟩ := id Aa
  have hin3 : ¬ ((0 : Int32) < 0 ∨ cl3.slots.size ≤ ((0 : Int32)).toNatClampNeg) := inb_of S3 ⟨by decide, by decide⟩
  have hat3 : cl3.slots[((0 : Int32)).toNatClampNeg]? = some (.int ch0) := Has.at H3 hin3 rfl
  have k4 : ∀ t, Steps p.tables e below (s₁.setTop (mkF m 13 #[.val (.ref a), .val (.int (0 : Int32)), .val (.ref b), .val (.int (0 : Int32)), .val (.int (1 : Int32)), .val (.int (0 : Int32)), .unset] [(.int ch0)])) t → Steps p.tables e below (s₁.setTop (entryFrame m #[(.ref a), (.int (0 : Int32)), (.ref b), (.int (0 : Int32)), (.int (1 : Int32))] 7)) t := fun t kt => k2 t (X0.caload hx (j := (0 : Int32)) (v := (.int ch0)) (by rw [e0]; exact Ar3.1) (State.isArrayOf_alike hZ.alike Ar3.2.1) Ar3.2.2 hin3 hat3 (g := (mkF m 12 #[.val (.ref a), .val (.int (0 : Int32)), .val (.ref b), .val (.int (0 : Int32)), .val (.int (1 : Int32)), .val (.int (0 : Int32)), .unset] [(.int (0 : Int32)), (.ref a)])) rfl rfl (hb hby d6_12) t kt)
  have k6 : ∀ t, Steps p.tables e below (s₁.setTop (mkF m 31 #[.val (.ref a), .val (.int (0 : Int32)), .val (.ref b), .val (.int (0 : Int32)), .val (.int (1 : Int32)), .val (.int (0 : Int32)), .val (.int ch0)] [(.int (ch0.toInt8.toInt32)), (.int (0 : Int32)), (.ref b)])) t → Steps p.tables e below (s₁.setTop (entryFrame m #[(.ref a), (.int (0 : Int32)), (.ref b), (.int (0 : Int32)), (.int (1 : Int32))] 7)) t := by
    intro t kt
    refine k4 t ?_
    show Steps p.tables e below (s₁.setTop (mkF m 13 #[.val (.ref a), .val (.int (0 : Int32)), .val (.ref b), .val (.int (0 : Int32)), .val (.int (1 : Int32)), .val (.int (0 : Int32)), .unset] [(.int ch0)])) t
    refine XS.istore X0.here hx rfl (hb hby d6_13) rfl (l' := #[.val (.ref a), .val (.int (0 : Int32)), .val (.ref b), .val (.int (0 : Int32)), .val (.int (1 : Int32)), .val (.int (0 : Int32)), .val (.int ch0)]) rfl ?_
    show Steps p.tables e below (s₁.setTop (mkF m 15 #[.val (.ref a), .val (.int (0 : Int32)), .val (.ref b), .val (.int (0 : Int32)), .val (.int (1 : Int32)), .val (.int (0 : Int32)), .val (.int ch0)] [])) t
    refine XS.iload X0.here hx rfl (hb hby d6_15) rfl ?_
    show Steps p.tables e below (s₁.setTop (mkF m 17 #[.val (.ref a), .val (.int (0 : Int32)), .val (.ref b), .val (.int (0 : Int32)), .val (.int (1 : Int32)), .val (.int (0 : Int32)), .val (.int ch0)] [(.int ch0)])) t
    refine XS.sipush X0.here hx rfl (hb hby d6_17) ?_
    show Steps p.tables e below (s₁.setTop (mkF m 20 #[.val (.ref a), .val (.int (0 : Int32)), .val (.ref b), .val (.int (0 : Int32)), .val (.int (1 : Int32)), .val (.int (0 : Int32)), .val (.int ch0)] [(.int (255 : Int32)), (.int ch0)])) t
    refine XS.icmpYes X0.here hx rfl (pc0 := 20) (pc' := 26) rfl (hb hby d6_20) rfl (flt hch0).2.2.2 (by decide) (by decide) ?_
    show Steps p.tables e below (s₁.setTop (mkF m 26 #[.val (.ref a), .val (.int (0 : Int32)), .val (.ref b), .val (.int (0 : Int32)), .val (.int (1 : Int32)), .val (.int (0 : Int32)), .val (.int ch0)] [])) t
    refine XS.aloadN X0.here hx rfl (hb hby d6_26) rfl rfl ?_
    show Steps p.tables e below (s₁.setTop (mkF m 27 #[.val (.ref a), .val (.int (0 : Int32)), .val (.ref b), .val (.int (0 : Int32)), .val (.int (1 : Int32)), .val (.int (0 : Int32)), .val (.int ch0)] [(.ref b)])) t
    refine XS.iloadN X0.here hx rfl (hb hby d6_27) rfl ?_
    show Steps p.tables e below (s₁.setTop (mkF m 28 #[.val (.ref a), .val (.int (0 : Int32)), .val (.ref b), .val (.int (0 : Int32)), .val (.int (1 : Int32)), .val (.int (0 : Int32)), .val (.int ch0)] [(.int (0 : Int32)), (.ref b)])) t
    refine XS.iload X0.here hx rfl (hb hby d6_28) rfl ?_
    show Steps p.tables e below (s₁.setTop (mkF m 30 #[.val (.ref a), .val (.int (0 : Int32)), .val (.ref b), .val (.int (0 : Int32)), .val (.int (1 : Int32)), .val (.int (0 : Int32)), .val (.int ch0)] [(.int ch0), (.int (0 : Int32)), (.ref b)])) t
    refine XS.i2b X0.here hx rfl (hb hby d6_30) rfl ?_
    exact kt
  obtain ⟨cl7, Ar7, q7, S7, M7, H7, G7⟩ := id Ab
  have hin7 : ¬ ((0 : Int32) < 0 ∨ cl7.slots.size ≤ ((0 : Int32)).toNatClampNeg) := inb_of S7 ⟨by decide, by decide⟩
  obtain ⟨T7, h7, X7, e7, W7, st7⟩ := stB X0 hx hZ e0 Ar7 (j := (0 : Int32)) hin7 (g := (mkF m 31 #[.val (.ref a), .val (.int (0 : Int32)), .val (.ref b), .val (.int (0 : Int32)), .val (.int (1 : Int32)), .val (.int (0 : Int32)), .val (.int ch0)] [(.int (ch0.toInt8.toInt32)), (.int (0 : Int32)), (.ref b)])) rfl rfl (hb hby d6_31)
  have F8 : Arv Z h7 b kb .byte (1 : Int32) [(.int ((ch0.toInt8.toInt32).toInt8.toInt32))] (.int (0 : Int32)) := Arv.set Ar7 q7 S7 M7 H7 G7 (fits_nar_byte _) W7 0 rfl (Nat.le_of_ble_eq_true rfl)
  have F9 := Aa.other W7 ne
  have Z7 : n0 ≤ h7.size := Nat.le_trans Z0 (Keep.of_wr W7).1
  have K7 : Keep h0 h7 [b] := K0.wr W7 (Or.inl (List.mem_of_getElem? (i := 0) rfl))
  have N7 := Fr.snoc X7 N0 g_b
  have k11 : ∀ t, Steps p.tables e below (T7.setTop (mkF m 32 #[.val (.ref a), .val (.int (0 : Int32)), .val (.ref b), .val (.int (0 : Int32)), .val (.int (1 : Int32)), .val (.int (0 : Int32)), .val (.int ch0)] [])) t → Steps p.tables e below (s₁.setTop (entryFrame m #[(.ref a), (.int (0 : Int32)), (.ref b), (.int (0 : Int32)), (.int (1 : Int32))] 7)) t := fun t kt => k6 t (st7 t kt)
  have hc7_12 : ¬ ((1 : Int32) < (1 : Int32)) := by decide
  have k13 : ∀ t, Steps p.tables e below (T7.setTop (mkF m 46 #[.val (.ref a), .val (.int (1 : Int32)), .val (.ref b), .val (.int (1 : Int32)), .val (.int (1 : Int32)), .val (.int (1 : Int32)), .val (.int ch0)] [(.int (1 : Int32))])) t → Steps p.tables e below (s₁.setTop (entryFrame m #[(.ref a), (.int (0 : Int32)), (.ref b), (.int (0 : Int32)), (.int (1 : Int32))] 7)) t := by
    intro t kt
    refine k11 t ?_
    show Steps p.tables e below (T7.setTop (mkF m 32 #[.val (.ref a), .val (.int (0 : Int32)), .val (.ref b), .val (.int (0 : Int32)), .val (.int (1 : Int32)), .val (.int (0 : Int32)), .val (.int ch0)] [])) t
    refine XS.iinc X7.here hx rfl (hb hby d6_32) rfl (l' := #[.val (.ref a), .val (.int (1 : Int32)), .val (.ref b), .val (.int (0 : Int32)), .val (.int (1 : Int32)), .val (.int (0 : Int32)), .val (.int ch0)]) rfl ?_
    show Steps p.tables e below (T7.setTop (mkF m 35 #[.val (.ref a), .val (.int (1 : Int32)), .val (.ref b), .val (.int (0 : Int32)), .val (.int (1 : Int32)), .val (.int (0 : Int32)), .val (.int ch0)] [])) t
    refine XS.iinc X7.here hx rfl (hb hby d6_35) rfl (l' := #[.val (.ref a), .val (.int (1 : Int32)), .val (.ref b), .val (.int (1 : Int32)), .val (.int (1 : Int32)), .val (.int (0 : Int32)), .val (.int ch0)]) rfl ?_
    show Steps p.tables e below (T7.setTop (mkF m 38 #[.val (.ref a), .val (.int (1 : Int32)), .val (.ref b), .val (.int (1 : Int32)), .val (.int (1 : Int32)), .val (.int (0 : Int32)), .val (.int ch0)] [])) t
    refine XS.iinc X7.here hx rfl (hb hby d6_38) rfl (l' := #[.val (.ref a), .val (.int (1 : Int32)), .val (.ref b), .val (.int (1 : Int32)), .val (.int (1 : Int32)), .val (.int (1 : Int32)), .val (.int ch0)]) rfl ?_
    show Steps p.tables e below (T7.setTop (mkF m 41 #[.val (.ref a), .val (.int (1 : Int32)), .val (.ref b), .val (.int (1 : Int32)), .val (.int (1 : Int32)), .val (.int (1 : Int32)), .val (.int ch0)] [])) t
    refine XS.goto X7.here hx rfl (pc0 := 41) (pc' := 3) rfl (hb hby d6_41) (by decide) (by decide) ?_
    show Steps p.tables e below (T7.setTop (mkF m 3 #[.val (.ref a), .val (.int (1 : Int32)), .val (.ref b), .val (.int (1 : Int32)), .val (.int (1 : Int32)), .val (.int (1 : Int32)), .val (.int ch0)] [])) t
    refine XS.iload X7.here hx rfl (hb hby d6_3) rfl ?_
    show Steps p.tables e below (T7.setTop (mkF m 5 #[.val (.ref a), .val (.int (1 : Int32)), .val (.ref b), .val (.int (1 : Int32)), .val (.int (1 : Int32)), .val (.int (1 : Int32)), .val (.int ch0)] [(.int (1 : Int32))])) t
    refine XS.iload X7.here hx rfl (hb hby d6_5) rfl ?_
    show Steps p.tables e below (T7.setTop (mkF m 7 #[.val (.ref a), .val (.int (1 : Int32)), .val (.ref b), .val (.int (1 : Int32)), .val (.int (1 : Int32)), .val (.int (1 : Int32)), .val (.int ch0)] [(.int (1 : Int32)), (.int (1 : Int32))])) t
    refine XS.icmpYes X7.here hx rfl (pc0 := 7) (pc' := 44) rfl (hb hby d6_7) rfl (flt hc7_12).2.1 (by decide) (by decide) ?_
    show Steps p.tables e below (T7.setTop (mkF m 44 #[.val (.ref a), .val (.int (1 : Int32)), .val (.ref b), .val (.int (1 : Int32)), .val (.int (1 : Int32)), .val (.int (1 : Int32)), .val (.int ch0)] [])) t
    refine XS.iload X7.here hx rfl (hb hby d6_44) rfl ?_
    exact kt
  obtain ⟨fs, hr, hrun, hended, hW, hsame⟩ := X7.leave (v := some (.int (1 : Int32))) (fun h => by rw [Bd.returns] at h; cases h)
  refine ⟨_, _, k13 _ ?_, hrun, hended, _, _, rfl, ?_, ⟨_, rfl⟩, hW, hsame.mono (by decide) (by decide)⟩
  · show Steps p.tables e below (T7.setTop (mkF m 46 #[.val (.ref a), .val (.int (1 : Int32)), .val (.ref b), .val (.int (1 : Int32)), .val (.int (1 : Int32)), .val (.int (1 : Int32)), .val (.int ch0)] [(.int (1 : Int32))])) _
    exact retI X7 hx Bd.returns (hb hby d6_46) hr
  · show QCmp1 Z a b ka kb ch0 h0 n0 _ T7.heap _
    rw [e7]
    exact ⟨rfl, N7, K7, by simp only [own_i2b] at F8; exact F8⟩
theorem d5_0 : decode jdk_52_method_16_code 0 = .ok (.iload_n 2, 1) := by decide +kernel
theorem d5_1 : decode jdk_52_method_16_code 1 = .ok (.newarray .byte, 2) := by decide +kernel
theorem d5_3 : decode jdk_52_method_16_code 3 = .ok (.astore_n 3, 1) := by decide +kernel
theorem d5_4 : decode jdk_52_method_16_code 4 = .ok (.aload_n 0, 1) := by decide +kernel
theorem d5_5 : decode jdk_52_method_16_code 5 = .ok (.iload_n 1, 1) := by decide +kernel
theorem d5_6 : decode jdk_52_method_16_code 6 = .ok (.aload_n 3, 1) := by decide +kernel
theorem d5_7 : decode jdk_52_method_16_code 7 = .ok (.iconst 0, 1) := by decide +kernel
theorem d5_8 : decode jdk_52_method_16_code 8 = .ok (.iload_n 2, 1) := by decide +kernel
theorem d5_9 : decode jdk_52_method_16_code 9 = .ok (.invokestatic 115, 3) := by decide +kernel
theorem d5_12 : decode jdk_52_method_16_code 12 = .ok (.istore 4, 2) := by decide +kernel
theorem d5_14 : decode jdk_52_method_16_code 14 = .ok (.iload 4, 2) := by decide +kernel
theorem d5_16 : decode jdk_52_method_16_code 16 = .ok (.iload_n 2, 1) := by decide +kernel
theorem d5_17 : decode jdk_52_method_16_code 17 = .ok (.if_icmp .eq 40, 3) := by decide +kernel
theorem d5_20 : decode jdk_52_method_16_code 20 = .ok (.aload_n 0, 1) := by decide +kernel
theorem d5_21 : decode jdk_52_method_16_code 21 = .ok (.iload_n 1, 1) := by decide +kernel
theorem d5_22 : decode jdk_52_method_16_code 22 = .ok (.iload_n 2, 1) := by decide +kernel
theorem d5_23 : decode jdk_52_method_16_code 23 = .ok (.invokestatic 119, 3) := by decide +kernel
theorem d5_26 : decode jdk_52_method_16_code 26 = .ok (.astore 5, 2) := by decide +kernel
theorem d5_28 : decode jdk_52_method_16_code 28 = .ok (.aload 5, 2) := by decide +kernel
theorem d5_30 : decode jdk_52_method_16_code 30 = .ok (.iload 4, 2) := by decide +kernel
theorem d5_32 : decode jdk_52_method_16_code 32 = .ok (.invokestatic 71, 3) := by decide +kernel
theorem d5_35 : decode jdk_52_method_16_code 35 = .ok (.sipush 255, 3) := by decide +kernel
theorem d5_38 : decode jdk_52_method_16_code 38 = .ok (.if_icmp .gt 16, 3) := by decide +kernel
theorem d5_41 : decode jdk_52_method_16_code 41 = .ok (.aload 5, 2) := by decide +kernel
theorem d5_43 : decode jdk_52_method_16_code 43 = .ok (.iconst 0, 1) := by decide +kernel
theorem d5_44 : decode jdk_52_method_16_code 44 = .ok (.aload_n 3, 1) := by decide +kernel
theorem d5_45 : decode jdk_52_method_16_code 45 = .ok (.iconst 0, 1) := by decide +kernel
theorem d5_46 : decode jdk_52_method_16_code 46 = .ok (.iload_n 2, 1) := by decide +kernel
theorem d5_47 : decode jdk_52_method_16_code 47 = .ok (.invokestatic 123, 3) := by decide +kernel
theorem d5_50 : decode jdk_52_method_16_code 50 = .ok (.iload_n 2, 1) := by decide +kernel
theorem d5_51 : decode jdk_52_method_16_code 51 = .ok (.if_icmp .eq 6, 3) := by decide +kernel
theorem d5_54 : decode jdk_52_method_16_code 54 = .ok (.aload 5, 2) := by decide +kernel
theorem d5_56 : decode jdk_52_method_16_code 56 = .ok (.areturn, 1) := by decide +kernel
theorem d5_57 : decode jdk_52_method_16_code 57 = .ok (.aload_n 3, 1) := by decide +kernel
theorem d5_58 : decode jdk_52_method_16_code 58 = .ok (.areturn, 1) := by decide +kernel
theorem rmCps1_ef (m : MethodId) (x0 : Addr) : entryFrame m #[(.ref x0), (.int (0 : Int32)), (.int (1 : Int32))] 6 = mkF m 0 #[.val (.ref x0), .val (.int (0 : Int32)), .val (.int (1 : Int32)), .unset, .unset, .unset] [] := by first | (simp [entryFrame, mkF, argsToLocals, Value.category]; done) | rfl
def QCps1 (Z : State) (a : Addr) (ka : ClassId) (ch0 : Int32) (h0 : Heap) (n0 : Nat) (v : Option Value) (h : Heap) (L : List Loc) : Prop := ∃ (b : Addr) (kb : ClassId), v = some (.ref b) ∧ Fr n0 L ∧ Keep h0 h [] ∧ h0.size ≤ b ∧ Arv Z h b kb .byte (1 : Int32) [(.int (ch0.toInt8.toInt32))] (.int (0 : Int32)) ∧ Exa Z h b "[B"
theorem own_pd0 : parseMethodDescriptor "([CI[BII)I" = some ⟨[(.array .char), .int, (.array .byte), .int, .int], some .int⟩ := by decide +kernel
set_option maxRecDepth 65536 in
set_option maxHeartbeats 40000000 in
theorem rmCps1 (l : Launch) (Z : State) (a0 : Array Value) (hw : ∀ d ∈ tables_1, d.before a0 Z = true) (ws : List Jvm.Cond) (a : Addr) (ka : ClassId) (ch0 : Int32) (h0 : Heap) (n0 : Nat) (Z0 : n0 ≤ h0.size) (Aa : Arv Z h0 a ka .char (1 : Int32) [(.int ch0)] (.int (0 : Int32))) (hch0 : ¬ ((255 : Int32) < ch0)) :
    MetFree l (⟨"java/lang/StringUTF16", "compress", "([CII)[B"⟩ : MethodName) (head1 (Jvm.Cond.code (⟨"java/lang/StringUTF16", "compress", "([CII)[B"⟩ : MethodName) jdk_52_method_16_code 6 (some (.array .byte)) :: ws) ({ frames := 1, cells := 1, slots := 1, locals := 18 } : Room)) (fun aA' U => aA' = #[(.ref a), (.int (0 : Int32)), (.int (1 : Int32))] ∧ Z.Warmed39 U.vm ∧ U.heap = h0) (fun _ _ _ _ _ => True) (fun _ U oO' U' => ∃ vV' L, oO' = .returned vV' ∧ QCps1 Z a ka ch0 h0 n0 vV' U'.heap L ∧ FrameEnd U oO' U' L ({ frames := 1, cells := 1, slots := 1, locals := 18 } : Room).cells ({ frames := 1, cells := 1, slots := 1, locals := 18 } : Room).slots) := by
  refine MetFree.of_bodySF (plainFor_of_name own_pn0) hisR ?_
  intro p e s m args below meth c s₁ Bd hml0 hP hK
  obtain ⟨rfl, hZ, hh⟩ := hP
  have hx := Bd.exec
  have hby := Bd.bytes
  have hml : c.maxLocals = 6 := hml0
  have hown : s.vm.findClass "java/lang/StringUTF16" = some m.cls := findClass_of_methodNamed Bd.named
  have hnm := (name_of_methodNamed Bd.named Bd.method).1
  have X0 : Stand p l e ({ frames := 1, cells := 1, slots := 1, locals := 18 } : Room) s m #[(.ref a), (.int (0 : Int32)), (.int (1 : Int32))] below meth c s₁ [] 0 0 := Stand.of_body Bd
  have e0 : s₁.heap = h0 := by rw [← hh, Bd.state]; rfl
  have N0 := Fr.nil n0
  have K0 : Keep h0 h0 [] := Keep.refl _ _
  have k0 : ∀ t, Steps p.tables e below (s₁.setTop (mkF m 0 #[.val (.ref a), .val (.int (0 : Int32)), .val (.int (1 : Int32)), .unset, .unset, .unset] [])) t → Steps p.tables e below (s₁.setTop (entryFrame m #[(.ref a), (.int (0 : Int32)), (.int (1 : Int32))] 6)) t := fun t k => castTop (rmCps1_ef m (a)) k
  have k1 : ∀ t, Steps p.tables e below (s₁.setTop (mkF m 1 #[.val (.ref a), .val (.int (0 : Int32)), .val (.int (1 : Int32)), .unset, .unset, .unset] [(.int (1 : Int32))])) t → Steps p.tables e below (s₁.setTop (entryFrame m #[(.ref a), (.int (0 : Int32)), (.int (1 : Int32))] 6)) t := by
    intro t kt
    refine k0 t ?_
    show Steps p.tables e below (s₁.setTop (mkF m 0 #[.val (.ref a), .val (.int (0 : Int32)), .val (.int (1 : Int32)), .unset, .unset, .unset] [])) t
    refine XS.iloadN X0.here hx rfl (hb hby d5_0) rfl ?_
    exact kt
  obtain ⟨T2, h2, c2, X2, e2, E2, A2, Bx2, st2⟩ := newPE X0 hx hZ (hw _ (List.mem_of_getElem? (i := 24) rfl)) e0 (g := (mkF m 1 #[.val (.ref a), .val (.int (0 : Int32)), .val (.int (1 : Int32)), .unset, .unset, .unset] [(.int (1 : Int32))])) rfl (hb hby d5_1) rfl (by decide) (cap := 1) (by decide) (by decide) (by decide) (by decide) (ad := "[B") rfl
  obtain ⟨b2, g2⟩ : ∃ z, z = h0.size := ⟨_, rfl⟩
  rw [← g2] at A2 Bx2 st2
  have g_b2 : n0 ≤ b2 := Nat.le_trans Z0 (Nat.le_of_eq g2.symm)
  have sz_b2 : h0.size ≤ b2 := Nat.le_trans K0.1 (Nat.le_of_eq g2.symm)
  have ne3 : a ≠ b2 := Nat.ne_of_lt (Nat.lt_of_lt_of_le Aa.lt (Nat.le_of_eq g2.symm))
  have F4 := Aa.ext E2
  have Z2 : n0 ≤ h2.size := Nat.le_trans Z0 E2.1
  have K2 : Keep h0 h2 [] := K0.ext E2
  have F5 : Arv Z h2 b2 c2 .byte (1 : Int32) [(.int (0 : Int32))] (.int (0 : Int32)) := (Arv.new A2 (by decide)).pad (pad_rep [] (.int (0 : Int32)) 1)
  have k6 : ∀ t, Steps p.tables e below (T2.setTop (mkF m 3 #[.val (.ref a), .val (.int (0 : Int32)), .val (.int (1 : Int32)), .unset, .unset, .unset] [(.ref b2)])) t → Steps p.tables e below (s₁.setTop (entryFrame m #[(.ref a), (.int (0 : Int32)), (.int (1 : Int32))] 6)) t := fun t kt => k1 t (st2 t kt)
  have k7 : ∀ t, Steps p.tables e below (T2.setTop (mkF m 9 #[.val (.ref a), .val (.int (0 : Int32)), .val (.int (1 : Int32)), .val (.ref b2), .unset, .unset] [(.int (1 : Int32)), (.int (0 : Int32)), (.ref b2), (.int (0 : Int32)), (.ref a)])) t → Steps p.tables e below (s₁.setTop (entryFrame m #[(.ref a), (.int (0 : Int32)), (.int (1 : Int32))] 6)) t := by
    intro t kt
    refine k6 t ?_
    show Steps p.tables e below (T2.setTop (mkF m 3 #[.val (.ref a), .val (.int (0 : Int32)), .val (.int (1 : Int32)), .unset, .unset, .unset] [(.ref b2)])) t
    refine XS.astoreN X2.here hx rfl (hb hby d5_3) rfl rfl (l' := #[.val (.ref a), .val (.int (0 : Int32)), .val (.int (1 : Int32)), .val (.ref b2), .unset, .unset]) rfl ?_
    show Steps p.tables e below (T2.setTop (mkF m 4 #[.val (.ref a), .val (.int (0 : Int32)), .val (.int (1 : Int32)), .val (.ref b2), .unset, .unset] [])) t
    refine XS.aloadN X2.here hx rfl (hb hby d5_4) rfl rfl ?_
    show Steps p.tables e below (T2.setTop (mkF m 5 #[.val (.ref a), .val (.int (0 : Int32)), .val (.int (1 : Int32)), .val (.ref b2), .unset, .unset] [(.ref a)])) t
    refine XS.iloadN X2.here hx rfl (hb hby d5_5) rfl ?_
    show Steps p.tables e below (T2.setTop (mkF m 6 #[.val (.ref a), .val (.int (0 : Int32)), .val (.int (1 : Int32)), .val (.ref b2), .unset, .unset] [(.int (0 : Int32)), (.ref a)])) t
    refine XS.aloadN X2.here hx rfl (hb hby d5_6) rfl rfl ?_
    show Steps p.tables e below (T2.setTop (mkF m 7 #[.val (.ref a), .val (.int (0 : Int32)), .val (.int (1 : Int32)), .val (.ref b2), .unset, .unset] [(.ref b2), (.int (0 : Int32)), (.ref a)])) t
    refine XS.iconst X2.here hx rfl (hb hby d5_7) ?_
    show Steps p.tables e below (T2.setTop (mkF m 8 #[.val (.ref a), .val (.int (0 : Int32)), .val (.int (1 : Int32)), .val (.ref b2), .unset, .unset] [(.int (0 : Int32)), (.ref b2), (.int (0 : Int32)), (.ref a)])) t
    refine XS.iloadN X2.here hx rfl (hb hby d5_8) rfl ?_
    exact kt
  obtain ⟨_, _, ⟨T8, L8, k8c, n8⟩, -, X8, ⟨Lc8, hQ8, l8, y8, z8⟩, st8⟩ := Jvm.LawKit.callS X2 hx (y := (⟨"java/lang/StringUTF16", "compress", "([CI[BII)I"⟩ : MethodName)) hown (mvT hZ (hw _ (List.mem_of_getElem? (i := 25) rfl))) (mvT hZ (hw _ (List.mem_of_getElem? (i := 26) rfl))) (mvT hZ (hw _ (List.mem_of_getElem? (i := 22) rfl))) (mvT hZ (hw _ (List.mem_of_getElem? (i := 27) rfl))) (by decide) (backOf (W := 0) (rmCmp1 l Z a0 hw [] a b2 ka c2 ch0 h2 n0 Z2 F4 F5 g_b2 ne3 hch0) hZ (hw _ (List.mem_of_getElem? (i := 27) rfl)) (hw _ (List.mem_of_getElem? (i := 22) rfl)) (by decide) (by decide)) (g := (mkF m 9 #[.val (.ref a), .val (.int (0 : Int32)), .val (.int (1 : Int32)), .val (.ref b2), .unset, .unset] [(.int (1 : Int32)), (.int (0 : Int32)), (.ref b2), (.int (0 : Int32)), (.ref a)])) rfl (by rw [hml]; rfl) (argsL := [(.ref a), (.int (0 : Int32)), (.ref b2), (.int (0 : Int32)), (.int (1 : Int32))]) (rest := []) (lenOf own_pd0 rfl) rfl (by show 2 * 0 + _ ≤ _; exact Nat.le_of_eq rfl) (hb hby d5_9) (fun _ _ => ⟨rfl, e2, (by decide : 1 + 0 ≤ _), (by decide : 1 + 0 ≤ _)⟩)
  dsimp only [Pt.U, Pt.locs, Pt.cells, Pt.slots] at X8 l8 y8 z8 st8 hQ8
  subst l8 y8 z8
  obtain ⟨rfl, N8q, K8k, A8⟩ := hQ8
  have N8 := Fr.app N0 N8q
  have F9 := F4.keep K8k (ninS ne3 nin0)
  have F10 := Bx2.keep K8k
  have Z12 : n0 ≤ T8.heap.size := Nat.le_trans Z2 K8k.1
  have K12 : Keep h0 T8.heap [] := K2.trans K8k (allS (Or.inr sz_b2) all0)
  have k13 : ∀ t, Steps p.tables e below (T8.setTop (mkF m 12 #[.val (.ref a), .val (.int (0 : Int32)), .val (.int (1 : Int32)), .val (.ref b2), .unset, .unset] [(.int (1 : Int32))])) t → Steps p.tables e below (s₁.setTop (entryFrame m #[(.ref a), (.int (0 : Int32)), (.int (1 : Int32))] 6)) t := fun t kt => k7 t (st8 t kt)
  have k15 : ∀ t, Steps p.tables e below (T8.setTop (mkF m 17 #[.val (.ref a), .val (.int (0 : Int32)), .val (.int (1 : Int32)), .val (.ref b2), .val (.int (1 : Int32)), .unset] [(.int (1 : Int32)), (.int (1 : Int32))])) t → Steps p.tables e below (s₁.setTop (entryFrame m #[(.ref a), (.int (0 : Int32)), (.int (1 : Int32))] 6)) t := by
    intro t kt
    refine k13 t ?_
    show Steps p.tables e below (T8.setTop (mkF m 12 #[.val (.ref a), .val (.int (0 : Int32)), .val (.int (1 : Int32)), .val (.ref b2), .unset, .unset] [(.int (1 : Int32))])) t
    refine XS.istore X8.here hx rfl (hb hby d5_12) rfl (l' := #[.val (.ref a), .val (.int (0 : Int32)), .val (.int (1 : Int32)), .val (.ref b2), .val (.int (1 : Int32)), .unset]) rfl ?_
    show Steps p.tables e below (T8.setTop (mkF m 14 #[.val (.ref a), .val (.int (0 : Int32)), .val (.int (1 : Int32)), .val (.ref b2), .val (.int (1 : Int32)), .unset] [])) t
    refine XS.iload X8.here hx rfl (hb hby d5_14) rfl ?_
    show Steps p.tables e below (T8.setTop (mkF m 16 #[.val (.ref a), .val (.int (0 : Int32)), .val (.int (1 : Int32)), .val (.ref b2), .val (.int (1 : Int32)), .unset] [(.int (1 : Int32))])) t
    refine XS.iloadN X8.here hx rfl (hb hby d5_16) rfl ?_
    exact kt
  have hc17_14 : (1 : Int32) = (1 : Int32) := rfl
  have k16 : ∀ t, Steps p.tables e below (T8.setTop (mkF m 58 #[.val (.ref a), .val (.int (0 : Int32)), .val (.int (1 : Int32)), .val (.ref b2), .val (.int (1 : Int32)), .unset] [(.ref b2)])) t → Steps p.tables e below (s₁.setTop (entryFrame m #[(.ref a), (.int (0 : Int32)), (.int (1 : Int32))] 6)) t := by
    intro t kt
    refine k15 t ?_
    show Steps p.tables e below (T8.setTop (mkF m 17 #[.val (.ref a), .val (.int (0 : Int32)), .val (.int (1 : Int32)), .val (.ref b2), .val (.int (1 : Int32)), .unset] [(.int (1 : Int32)), (.int (1 : Int32))])) t
    refine XS.icmpYes X8.here hx rfl (pc0 := 17) (pc' := 57) rfl (hb hby d5_17) rfl (teq hc17_14).1 (by decide) (by decide) ?_
    show Steps p.tables e below (T8.setTop (mkF m 57 #[.val (.ref a), .val (.int (0 : Int32)), .val (.int (1 : Int32)), .val (.ref b2), .val (.int (1 : Int32)), .unset] [])) t
    refine XS.aloadN X8.here hx rfl (hb hby d5_57) rfl rfl ?_
    exact kt
  obtain ⟨fs, hr, hrun, hended, hW, hsame⟩ := X8.leave (v := some (.ref b2)) (fun h => by rw [Bd.returns] at h; cases h)
  refine ⟨_, _, k16 _ ?_, hrun, hended, _, _, rfl, ?_, ⟨_, rfl⟩, hW, hsame.mono (by decide) (by decide)⟩
  · show Steps p.tables e below (T8.setTop (mkF m 58 #[.val (.ref a), .val (.int (0 : Int32)), .val (.int (1 : Int32)), .val (.ref b2), .val (.int (1 : Int32)), .unset] [(.ref b2)])) _
    jvm_step X8.here [X8.here.top, hx, (hb hby d5_58), X8.method', Bd.returns, Value.isRef, FieldType.isReference]
    first | (intro acts; rw [hr _ acts rfl rfl rfl]) | rw [hr _ _ rfl rfl rfl]
    exact Steps.refl _
  · show QCps1 Z a ka ch0 h0 n0 _ T8.heap _
    exact ⟨b2, c2, rfl, N8, K12, sz_b2, A8, F10⟩
theorem d7_0 : decode jdk_52_method_15_code 0 = .ok (.iload_n 1, 1) := by decide +kernel
theorem d7_1 : decode jdk_52_method_15_code 1 = .ok (.aload_n 0, 1) := by decide +kernel
theorem d7_2 : decode jdk_52_method_15_code 2 = .ok (.arraylength, 1) := by decide +kernel
theorem d7_3 : decode jdk_52_method_15_code 3 = .ok (.isub, 1) := by decide +kernel
theorem d7_4 : decode jdk_52_method_15_code 4 = .ok (.bipush 31, 2) := by decide +kernel
theorem d7_6 : decode jdk_52_method_15_code 6 = .ok (.iushr, 1) := by decide +kernel
theorem d7_7 : decode jdk_52_method_15_code 7 = .ok (.i2b, 1) := by decide +kernel
theorem d7_8 : decode jdk_52_method_15_code 8 = .ok (.ireturn, 1) := by decide +kernel
theorem rmCod1_ef (m : MethodId) (x0 : Addr) : entryFrame m #[(.ref x0), (.int (1 : Int32))] 2 = mkF m 0 #[.val (.ref x0), .val (.int (1 : Int32))] [] := by first | (simp [entryFrame, mkF, argsToLocals, Value.category]; done) | rfl
def QCod1 (Z : State) (b : Addr) (kb : ClassId) (vs : List Value) (h0 : Heap) (n0 : Nat) (v : Option Value) (h : Heap) (L : List Loc) : Prop := v = some (.int (0 : Int32)) ∧ Fr n0 L ∧ h = h0
set_option maxRecDepth 65536 in
set_option maxHeartbeats 40000000 in
theorem rmCod1 (l : Launch) (Z : State) (a0 : Array Value) (hw : ∀ d ∈ tables_1, d.before a0 Z = true) (ws : List Jvm.Cond) (b : Addr) (kb : ClassId) (vs : List Value) (h0 : Heap) (n0 : Nat) (Z0 : n0 ≤ h0.size) (Ab : Arv Z h0 b kb .byte (1 : Int32) vs (.int (0 : Int32))) :
    MetFree l (⟨"java/lang/StringUTF16", "coderFromArrayLen", "([BI)B"⟩ : MethodName) (head1 (Jvm.Cond.code (⟨"java/lang/StringUTF16", "coderFromArrayLen", "([BI)B"⟩ : MethodName) jdk_52_method_15_code 2 (some .byte) :: ws) ({ frames := 0, cells := 0, slots := 0, locals := 0 } : Room)) (fun aA' U => aA' = #[(.ref b), (.int (1 : Int32))] ∧ Z.Warmed39 U.vm ∧ U.heap = h0) (fun _ _ _ _ _ => True) (fun _ U oO' U' => ∃ vV' L, oO' = .returned vV' ∧ QCod1 Z b kb vs h0 n0 vV' U'.heap L ∧ FrameEnd U oO' U' L ({ frames := 0, cells := 0, slots := 0, locals := 0 } : Room).cells ({ frames := 0, cells := 0, slots := 0, locals := 0 } : Room).slots) := by
  refine MetFree.of_bodySF (plainFor_of_name own_pn0) hisR ?_
  intro p e s m args below meth c s₁ Bd hml0 hP hK
  obtain ⟨rfl, hZ, hh⟩ := hP
  have hx := Bd.exec
  have hby := Bd.bytes
  have hml : c.maxLocals = 2 := hml0
  have hown : s.vm.findClass "java/lang/StringUTF16" = some m.cls := findClass_of_methodNamed Bd.named
  have hnm := (name_of_methodNamed Bd.named Bd.method).1
  have X0 : Stand p l e ({ frames := 0, cells := 0, slots := 0, locals := 0 } : Room) s m #[(.ref b), (.int (1 : Int32))] below meth c s₁ [] 0 0 := Stand.of_body Bd
  have e0 : s₁.heap = h0 := by rw [← hh, Bd.state]; rfl
  have N0 := Fr.nil n0
  have K0 : Keep h0 h0 [] := Keep.refl _ _
  have k0 : ∀ t, Steps p.tables e below (s₁.setTop (mkF m 0 #[.val (.ref b), .val (.int (1 : Int32))] [])) t → Steps p.tables e below (s₁.setTop (entryFrame m #[(.ref b), (.int (1 : Int32))] 2)) t := fun t k => castTop (rmCod1_ef m (b)) k
  have k1 : ∀ t, Steps p.tables e below (s₁.setTop (mkF m 2 #[.val (.ref b), .val (.int (1 : Int32))] [(.ref b), (.int (1 : Int32))])) t → Steps p.tables e below (s₁.setTop (entryFrame m #[(.ref b), (.int (1 : Int32))] 2)) t := by
    intro t kt
    refine k0 t ?_
    show Steps p.tables e below (s₁.setTop (mkF m 0 #[.val (.ref b), .val (.int (1 : Int32))] [])) t
    refine XS.iloadN X0.here hx rfl (hb hby d7_0) rfl ?_
    show Steps p.tables e below (s₁.setTop (mkF m 1 #[.val (.ref b), .val (.int (1 : Int32))] [(.int (1 : Int32))])) t
    refine XS.aloadN X0.here hx rfl (hb hby d7_1) rfl rfl ?_
    exact kt
  obtain ⟨cl2, Ar2, -, S2, M2, -, -⟩ := id Ab
  have k3 : ∀ t, Steps p.tables e below (s₁.setTop (mkF m 3 #[.val (.ref b), .val (.int (1 : Int32))] [(.int (1 : Int32)), (.int (1 : Int32))])) t → Steps p.tables e below (s₁.setTop (entryFrame m #[(.ref b), (.int (1 : Int32))] 2)) t := fun t kt => k1 t (X0.arraylength hx (by rw [e0]; exact Ar2.1) (State.isArrayOf_alike hZ.alike Ar2.2.1) (g := (mkF m 2 #[.val (.ref b), .val (.int (1 : Int32))] [(.ref b), (.int (1 : Int32))])) rfl rfl (hb hby d7_2) t (by rw [len_of S2 M2]; exact kt))
  have k4 : ∀ t, Steps p.tables e below (s₁.setTop (mkF m 8 #[.val (.ref b), .val (.int (1 : Int32))] [(.int ((((0 : Int32).toUInt32 >>> ((31 : Int32) &&& 31).toUInt32).toInt32).toInt8.toInt32))])) t → Steps p.tables e below (s₁.setTop (entryFrame m #[(.ref b), (.int (1 : Int32))] 2)) t := by
    intro t kt
    refine k3 t ?_
    show Steps p.tables e below (s₁.setTop (mkF m 3 #[.val (.ref b), .val (.int (1 : Int32))] [(.int (1 : Int32)), (.int (1 : Int32))])) t
    refine XS.isub X0.here hx rfl (hb hby d7_3) rfl ?_
    show Steps p.tables e below (s₁.setTop (mkF m 4 #[.val (.ref b), .val (.int (1 : Int32))] [(.int (0 : Int32))])) t
    refine XS.bipush X0.here hx rfl (hb hby d7_4) ?_
    show Steps p.tables e below (s₁.setTop (mkF m 6 #[.val (.ref b), .val (.int (1 : Int32))] [(.int (31 : Int32)), (.int (0 : Int32))])) t
    refine XS.iushr X0.here hx rfl (hb hby d7_6) rfl ?_
    show Steps p.tables e below (s₁.setTop (mkF m 7 #[.val (.ref b), .val (.int (1 : Int32))] [(.int (((0 : Int32).toUInt32 >>> ((31 : Int32) &&& 31).toUInt32).toInt32))])) t
    refine XS.i2b X0.here hx rfl (hb hby d7_7) rfl ?_
    exact kt
  obtain ⟨fs, hr, hrun, hended, hW, hsame⟩ := X0.leave (v := some (.int (((((0 : Int32).toUInt32 >>> ((31 : Int32) &&& 31).toUInt32).toInt32).toInt8.toInt32).toInt8.toInt32))) (fun h => by rw [Bd.returns] at h; cases h)
  refine ⟨_, _, k4 _ ?_, hrun, hended, _, _, rfl, ?_, ⟨_, rfl⟩, hW, hsame.mono (by decide) (by decide)⟩
  · show Steps p.tables e below (s₁.setTop (mkF m 8 #[.val (.ref b), .val (.int (1 : Int32))] [(.int ((((0 : Int32).toUInt32 >>> ((31 : Int32) &&& 31).toUInt32).toInt32).toInt8.toInt32))])) _
    exact retN X0 hx (t := .byte) Bd.returns (by simp) (hb hby d7_8) hr
  · show QCod1 Z b kb vs h0 n0 _ s₁.heap _
    rw [e0]
    exact ⟨congrArg (fun z => some (Value.int z)) (by decide), N0, rfl⟩
theorem d3_0 : decode jdk_42_method_149_code 0 = .ok (.aload_n 0, 1) := by decide +kernel
theorem d3_1 : decode jdk_42_method_149_code 1 = .ok (.invokespecial 1, 3) := by decide +kernel
theorem d3_4 : decode jdk_42_method_149_code 4 = .ok (.iload_n 3, 1) := by decide +kernel
theorem d3_5 : decode jdk_42_method_149_code 5 = .ok (.ifCond .ne 22, 3) := by decide +kernel
theorem d3_8 : decode jdk_42_method_149_code 8 = .ok (.aload_n 0, 1) := by decide +kernel
theorem d3_9 : decode jdk_42_method_149_code 9 = .ok (.ldc 7, 2) := by decide +kernel
theorem d3_11 : decode jdk_42_method_149_code 11 = .ok (.getfield 9, 3) := by decide +kernel
theorem d3_14 : decode jdk_42_method_149_code 14 = .ok (.putfield 9, 3) := by decide +kernel
theorem d3_17 : decode jdk_42_method_149_code 17 = .ok (.aload_n 0, 1) := by decide +kernel
theorem d3_18 : decode jdk_42_method_149_code 18 = .ok (.ldc 7, 2) := by decide +kernel
theorem d3_20 : decode jdk_42_method_149_code 20 = .ok (.getfield 15, 3) := by decide +kernel
theorem d3_23 : decode jdk_42_method_149_code 23 = .ok (.putfield 15, 3) := by decide +kernel
theorem d3_26 : decode jdk_42_method_149_code 26 = .ok (.return_, 1) := by decide +kernel
theorem d3_27 : decode jdk_42_method_149_code 27 = .ok (.getstatic 38, 3) := by decide +kernel
theorem d3_30 : decode jdk_42_method_149_code 30 = .ok (.ifCond .eq 28, 3) := by decide +kernel
theorem d3_33 : decode jdk_42_method_149_code 33 = .ok (.aload_n 1, 1) := by decide +kernel
theorem d3_34 : decode jdk_42_method_149_code 34 = .ok (.iload_n 2, 1) := by decide +kernel
theorem d3_35 : decode jdk_42_method_149_code 35 = .ok (.iload_n 3, 1) := by decide +kernel
theorem d3_36 : decode jdk_42_method_149_code 36 = .ok (.invokestatic 177, 3) := by decide +kernel
theorem d3_39 : decode jdk_42_method_149_code 39 = .ok (.astore 5, 2) := by decide +kernel
theorem d3_41 : decode jdk_42_method_149_code 41 = .ok (.aload_n 0, 1) := by decide +kernel
theorem d3_42 : decode jdk_42_method_149_code 42 = .ok (.aload 5, 2) := by decide +kernel
theorem d3_44 : decode jdk_42_method_149_code 44 = .ok (.iload_n 3, 1) := by decide +kernel
theorem d3_45 : decode jdk_42_method_149_code 45 = .ok (.invokestatic 47, 3) := by decide +kernel
theorem d3_48 : decode jdk_42_method_149_code 48 = .ok (.putfield 15, 3) := by decide +kernel
theorem d3_51 : decode jdk_42_method_149_code 51 = .ok (.aload_n 0, 1) := by decide +kernel
theorem d3_52 : decode jdk_42_method_149_code 52 = .ok (.aload 5, 2) := by decide +kernel
theorem d3_54 : decode jdk_42_method_149_code 54 = .ok (.putfield 9, 3) := by decide +kernel
theorem d3_57 : decode jdk_42_method_149_code 57 = .ok (.return_, 1) := by decide +kernel
theorem d3_58 : decode jdk_42_method_149_code 58 = .ok (.aload_n 0, 1) := by decide +kernel
theorem d3_59 : decode jdk_42_method_149_code 59 = .ok (.iconst 1, 1) := by decide +kernel
theorem d3_60 : decode jdk_42_method_149_code 60 = .ok (.putfield 15, 3) := by decide +kernel
theorem d3_63 : decode jdk_42_method_149_code 63 = .ok (.aload_n 0, 1) := by decide +kernel
theorem d3_64 : decode jdk_42_method_149_code 64 = .ok (.aload_n 1, 1) := by decide +kernel
theorem d3_65 : decode jdk_42_method_149_code 65 = .ok (.iload_n 2, 1) := by decide +kernel
theorem d3_66 : decode jdk_42_method_149_code 66 = .ok (.iload_n 3, 1) := by decide +kernel
theorem d3_67 : decode jdk_42_method_149_code 67 = .ok (.invokestatic 180, 3) := by decide +kernel
theorem d3_70 : decode jdk_42_method_149_code 70 = .ok (.putfield 9, 3) := by decide +kernel
theorem d3_73 : decode jdk_42_method_149_code 73 = .ok (.return_, 1) := by decide +kernel
theorem own_pn1 : plainName "java/lang/String" = true := by first | (simp [plainName, overriddenIn]; done) | decide +kernel
theorem rmSv1_ef (m : MethodId) (x0 : Addr) (x1 : Addr) : entryFrame m #[(.ref x0), (.ref x1), (.int (0 : Int32)), (.int (1 : Int32)), .null] 6 = mkF m 0 #[.val (.ref x0), .val (.ref x1), .val (.int (0 : Int32)), .val (.int (1 : Int32)), .val .null, .unset] [] := by first | (simp [entryFrame, mkF, argsToLocals, Value.category]; done) | rfl
def QSv1 (Z : State) (ths : Addr) (a : Addr) (u : Value) (u' : Value) (ka : ClassId) (cs : Int32) (ch0 : Int32) (h0 : Heap) (n0 : Nat) (v : Option Value) (h : Heap) (L : List Loc) : Prop := v = none ∧ Fr n0 L ∧ Keep h0 h [ths] ∧ Exa Z h ths "java/lang/String" ∧ ∃ (b : Addr) (kb : ClassId), h0.size ≤ b ∧ Fld Z h ths "java/lang/String" "value" "[B" (.ref b) ∧ Fld Z h ths "java/lang/String" "coder" "B" (.int (0 : Int32)) ∧ Arv Z h b kb .byte (1 : Int32) [(.int (ch0.toInt8.toInt32))] (.int (0 : Int32)) ∧ Exa Z h b "[B"
theorem own_pd1 : parseMethodDescriptor "([CII)[B" = some ⟨[(.array .char), .int, .int], some (.array .byte)⟩ := by decide +kernel
theorem own_pd2 : parseMethodDescriptor "([BI)B" = some ⟨[(.array .byte), .int], some .byte⟩ := by decide +kernel
set_option maxRecDepth 65536 in
set_option maxHeartbeats 40000000 in
theorem rmSv1 (l : Launch) (Z : State) (a0 : Array Value) (hw : ∀ d ∈ tables_1, d.before a0 Z = true) (ws : List Jvm.Cond) (ths : Addr) (a : Addr) (u : Value) (u' : Value) (ka : ClassId) (cs : Int32) (ch0 : Int32) (h0 : Heap) (n0 : Nat) (Z0 : n0 ≤ h0.size) (Fv : Fld Z h0 ths "java/lang/String" "value" "[B" u) (Fc : Fld Z h0 ths "java/lang/String" "coder" "B" u') (Et : Exa Z h0 ths "java/lang/String") (g_t : n0 ≤ ths) (net : ths ≠ a) (Aa : Arv Z h0 a ka .char (1 : Int32) [(.int ch0)] (.int (0 : Int32))) (SC : Sta Z h0 "java/lang/String" "COMPACT_STRINGS" "Z" (.int cs)) (hcs : ¬ (cs = (0 : Int32))) (hch0 : ¬ ((255 : Int32) < ch0)) :
    MetFree l (⟨"java/lang/String", "<init>", "([CIILjava/lang/Void;)V"⟩ : MethodName) (head1 (Jvm.Cond.code (⟨"java/lang/String", "<init>", "([CIILjava/lang/Void;)V"⟩ : MethodName) jdk_42_method_149_code 6 none :: ws) ({ frames := 2, cells := 1, slots := 1, locals := 35 } : Room)) (fun aA' U => aA' = #[(.ref ths), (.ref a), (.int (0 : Int32)), (.int (1 : Int32)), .null] ∧ Z.Warmed39 U.vm ∧ U.heap = h0) (fun _ _ _ _ _ => True) (fun _ U oO' U' => ∃ vV' L, oO' = .returned vV' ∧ QSv1 Z ths a u u' ka cs ch0 h0 n0 vV' U'.heap L ∧ FrameEnd U oO' U' L ({ frames := 2, cells := 1, slots := 1, locals := 35 } : Room).cells ({ frames := 2, cells := 1, slots := 1, locals := 35 } : Room).slots) := by
  refine MetFree.of_bodySF (plainFor_of_name own_pn1) hisR ?_
  intro p e s m args below meth c s₁ Bd hml0 hP hK
  obtain ⟨rfl, hZ, hh⟩ := hP
  have hx := Bd.exec
  have hby := Bd.bytes
  have hml : c.maxLocals = 6 := hml0
  have hown : s.vm.findClass "java/lang/String" = some m.cls := findClass_of_methodNamed Bd.named
  have hnm := (name_of_methodNamed Bd.named Bd.method).1
  have X0 : Stand p l e ({ frames := 2, cells := 1, slots := 1, locals := 35 } : Room) s m #[(.ref ths), (.ref a), (.int (0 : Int32)), (.int (1 : Int32)), .null] below meth c s₁ [] 0 0 := Stand.of_body Bd
  have e0 : s₁.heap = h0 := by rw [← hh, Bd.state]; rfl
  have N0 := Fr.nil n0
  have K0 : Keep h0 h0 [ths] := Keep.refl _ _
  have k0 : ∀ t, Steps p.tables e below (s₁.setTop (mkF m 0 #[.val (.ref ths), .val (.ref a), .val (.int (0 : Int32)), .val (.int (1 : Int32)), .val .null, .unset] [])) t → Steps p.tables e below (s₁.setTop (entryFrame m #[(.ref ths), (.ref a), (.int (0 : Int32)), (.int (1 : Int32)), .null] 6)) t := fun t k => castTop (rmSv1_ef m (ths) (a)) k
  have k1 : ∀ t, Steps p.tables e below (s₁.setTop (mkF m 1 #[.val (.ref ths), .val (.ref a), .val (.int (0 : Int32)), .val (.int (1 : Int32)), .val .null, .unset] [(.ref ths)])) t → Steps p.tables e below (s₁.setTop (entryFrame m #[(.ref ths), (.ref a), (.int (0 : Int32)), (.int (1 : Int32)), .null] 6)) t := by
    intro t kt
    refine k0 t ?_
    show Steps p.tables e below (s₁.setTop (mkF m 0 #[.val (.ref ths), .val (.ref a), .val (.int (0 : Int32)), .val (.int (1 : Int32)), .val .null, .unset] [])) t
    refine XS.aloadN X0.here hx rfl (hb hby d3_0) rfl rfl ?_
    exact kt
  obtain ⟨T2, X2, e2, st2⟩ := initO X0 hx hZ hown (hw _ (List.mem_of_getElem? (i := 16) rfl)) (hw _ (List.mem_of_getElem? (i := 17) rfl)) (hw _ (List.mem_of_getElem? (i := 18) rfl)) e0 (g := (mkF m 1 #[.val (.ref ths), .val (.ref a), .val (.int (0 : Int32)), .val (.int (1 : Int32)), .val .null, .unset] [(.ref ths)])) rfl (by rw [hml]; rfl) rfl (hb hby d3_1) (by decide) (W := 0) (by show 2 * 0 + _ ≤ _; exact Nat.le_of_eq rfl) (by decide)
  have k3 : ∀ t, Steps p.tables e below (T2.setTop (mkF m 4 #[.val (.ref ths), .val (.ref a), .val (.int (0 : Int32)), .val (.int (1 : Int32)), .val .null, .unset] [])) t → Steps p.tables e below (s₁.setTop (entryFrame m #[(.ref ths), (.ref a), (.int (0 : Int32)), (.int (1 : Int32)), .null] 6)) t := fun t kt => k1 t (st2 t kt)
  have hc5_4 : ¬ ((1 : Int32) = (0 : Int32)) := by decide
  have k5 : ∀ t, Steps p.tables e below (T2.setTop (mkF m 27 #[.val (.ref ths), .val (.ref a), .val (.int (0 : Int32)), .val (.int (1 : Int32)), .val .null, .unset] [])) t → Steps p.tables e below (s₁.setTop (entryFrame m #[(.ref ths), (.ref a), (.int (0 : Int32)), (.int (1 : Int32)), .null] 6)) t := by
    intro t kt
    refine k3 t ?_
    show Steps p.tables e below (T2.setTop (mkF m 4 #[.val (.ref ths), .val (.ref a), .val (.int (0 : Int32)), .val (.int (1 : Int32)), .val .null, .unset] [])) t
    refine XS.iloadN X2.here hx rfl (hb hby d3_4) rfl ?_
    show Steps p.tables e below (T2.setTop (mkF m 5 #[.val (.ref ths), .val (.ref a), .val (.int (0 : Int32)), .val (.int (1 : Int32)), .val .null, .unset] [(.int (1 : Int32))])) t
    refine XS.ifYes X2.here hx rfl (pc0 := 5) (pc' := 27) rfl (hb hby d3_5) rfl ((if0 _ _).trans (feq hc5_4).2) (by decide) (by decide) ?_
    exact kt
  obtain ⟨T6, X6, e6, st6⟩ := getS2 X2 hx hZ hown (host := "") (Or.inl (hw _ (List.mem_of_getElem? (i := 19) rfl))) Via.refl e2 SC (g := (mkF m 27 #[.val (.ref ths), .val (.ref a), .val (.int (0 : Int32)), .val (.int (1 : Int32)), .val .null, .unset] [])) rfl (hb hby d3_27)
  have k7 : ∀ t, Steps p.tables e below (T6.setTop (mkF m 30 #[.val (.ref ths), .val (.ref a), .val (.int (0 : Int32)), .val (.int (1 : Int32)), .val .null, .unset] [(.int cs)])) t → Steps p.tables e below (s₁.setTop (entryFrame m #[(.ref ths), (.ref a), (.int (0 : Int32)), (.int (1 : Int32)), .null] 6)) t := fun t kt => k5 t (st6 t kt)
  have k9 : ∀ t, Steps p.tables e below (T6.setTop (mkF m 36 #[.val (.ref ths), .val (.ref a), .val (.int (0 : Int32)), .val (.int (1 : Int32)), .val .null, .unset] [(.int (1 : Int32)), (.int (0 : Int32)), (.ref a)])) t → Steps p.tables e below (s₁.setTop (entryFrame m #[(.ref ths), (.ref a), (.int (0 : Int32)), (.int (1 : Int32)), .null] 6)) t := by
    intro t kt
    refine k7 t ?_
    show Steps p.tables e below (T6.setTop (mkF m 30 #[.val (.ref ths), .val (.ref a), .val (.int (0 : Int32)), .val (.int (1 : Int32)), .val .null, .unset] [(.int cs)])) t
    refine XS.ifNo X6.here hx rfl (hb hby d3_30) rfl ((if0 _ _).trans (feq hcs).1) ?_
    show Steps p.tables e below (T6.setTop (mkF m 33 #[.val (.ref ths), .val (.ref a), .val (.int (0 : Int32)), .val (.int (1 : Int32)), .val .null, .unset] [])) t
    refine XS.aloadN X6.here hx rfl (hb hby d3_33) rfl rfl ?_
    show Steps p.tables e below (T6.setTop (mkF m 34 #[.val (.ref ths), .val (.ref a), .val (.int (0 : Int32)), .val (.int (1 : Int32)), .val .null, .unset] [(.ref a)])) t
    refine XS.iloadN X6.here hx rfl (hb hby d3_34) rfl ?_
    show Steps p.tables e below (T6.setTop (mkF m 35 #[.val (.ref ths), .val (.ref a), .val (.int (0 : Int32)), .val (.int (1 : Int32)), .val .null, .unset] [(.int (0 : Int32)), (.ref a)])) t
    refine XS.iloadN X6.here hx rfl (hb hby d3_35) rfl ?_
    exact kt
  obtain ⟨_, _, ⟨T10, L10, k10c, n10⟩, -, X10, ⟨Lc10, hQ10, l10, y10, z10⟩, st10⟩ := Jvm.LawKit.callS X6 hx (y := (⟨"java/lang/StringUTF16", "compress", "([CII)[B"⟩ : MethodName)) hown (mvT hZ (hw _ (List.mem_of_getElem? (i := 20) rfl))) (mvT hZ (hw _ (List.mem_of_getElem? (i := 21) rfl))) (mvT hZ (hw _ (List.mem_of_getElem? (i := 22) rfl))) (mvT hZ (hw _ (List.mem_of_getElem? (i := 23) rfl))) (by decide) (backOf (W := 0) (rmCps1 l Z a0 hw [] a ka ch0 h0 n0 Z0 Aa hch0) hZ (hw _ (List.mem_of_getElem? (i := 23) rfl)) (hw _ (List.mem_of_getElem? (i := 22) rfl)) (by decide) (by decide)) (g := (mkF m 36 #[.val (.ref ths), .val (.ref a), .val (.int (0 : Int32)), .val (.int (1 : Int32)), .val .null, .unset] [(.int (1 : Int32)), (.int (0 : Int32)), (.ref a)])) rfl (by rw [hml]; rfl) (argsL := [(.ref a), (.int (0 : Int32)), (.int (1 : Int32))]) (rest := []) (lenOf own_pd1 rfl) rfl (by show 2 * 0 + _ ≤ _; exact Nat.le_of_eq rfl) (hb hby d3_36) (fun _ _ => ⟨rfl, e6, (by decide : 0 + 1 ≤ _), (by decide : 0 + 1 ≤ _)⟩)
  dsimp only [Pt.U, Pt.locs, Pt.cells, Pt.slots] at X10 l10 y10 z10 st10 hQ10
  subst l10 y10 z10
  obtain ⟨b10, c10k, rfl, N10q, K10k, s10z, A10, Bx10⟩ := hQ10
  have N10 := Fr.app N0 N10q
  have g_b10 : n0 ≤ b10 := Nat.le_trans Z0 s10z
  have sz_b10 : h0.size ≤ b10 := Nat.le_trans K0.1 s10z
  have ne11 : ths ≠ b10 := Nat.ne_of_lt (Nat.lt_of_lt_of_le Fv.lt s10z)
  have ne12 : a ≠ b10 := Nat.ne_of_lt (Nat.lt_of_lt_of_le Aa.lt s10z)
  have F13 := Fv.keep K10k nin0
  have F14 := Fc.keep K10k nin0
  have F15 := Et.keep K10k
  have F16 := Aa.keep K10k nin0
  have Z18 : n0 ≤ T10.heap.size := Nat.le_trans Z0 K10k.1
  have K18 : Keep h0 T10.heap [ths] := K0.trans K10k all0
  have k19 : ∀ t, Steps p.tables e below (T10.setTop (mkF m 39 #[.val (.ref ths), .val (.ref a), .val (.int (0 : Int32)), .val (.int (1 : Int32)), .val .null, .unset] [(.ref b10)])) t → Steps p.tables e below (s₁.setTop (entryFrame m #[(.ref ths), (.ref a), (.int (0 : Int32)), (.int (1 : Int32)), .null] 6)) t := fun t kt => k9 t (st10 t kt)
  have k20 : ∀ t, Steps p.tables e below (T10.setTop (mkF m 45 #[.val (.ref ths), .val (.ref a), .val (.int (0 : Int32)), .val (.int (1 : Int32)), .val .null, .val (.ref b10)] [(.int (1 : Int32)), (.ref b10), (.ref ths)])) t → Steps p.tables e below (s₁.setTop (entryFrame m #[(.ref ths), (.ref a), (.int (0 : Int32)), (.int (1 : Int32)), .null] 6)) t := by
    intro t kt
    refine k19 t ?_
    show Steps p.tables e below (T10.setTop (mkF m 39 #[.val (.ref ths), .val (.ref a), .val (.int (0 : Int32)), .val (.int (1 : Int32)), .val .null, .unset] [(.ref b10)])) t
    refine XS.astore X10.here hx rfl (hb hby d3_39) rfl rfl (l' := #[.val (.ref ths), .val (.ref a), .val (.int (0 : Int32)), .val (.int (1 : Int32)), .val .null, .val (.ref b10)]) rfl ?_
    show Steps p.tables e below (T10.setTop (mkF m 41 #[.val (.ref ths), .val (.ref a), .val (.int (0 : Int32)), .val (.int (1 : Int32)), .val .null, .val (.ref b10)] [])) t
    refine XS.aloadN X10.here hx rfl (hb hby d3_41) rfl rfl ?_
    show Steps p.tables e below (T10.setTop (mkF m 42 #[.val (.ref ths), .val (.ref a), .val (.int (0 : Int32)), .val (.int (1 : Int32)), .val .null, .val (.ref b10)] [(.ref ths)])) t
    refine XS.aload X10.here hx rfl (hb hby d3_42) rfl rfl ?_
    show Steps p.tables e below (T10.setTop (mkF m 44 #[.val (.ref ths), .val (.ref a), .val (.int (0 : Int32)), .val (.int (1 : Int32)), .val .null, .val (.ref b10)] [(.ref b10), (.ref ths)])) t
    refine XS.iloadN X10.here hx rfl (hb hby d3_44) rfl ?_
    exact kt
  obtain ⟨_, _, ⟨T21, L21, k21c, n21⟩, -, X21, ⟨Lc21, hQ21, l21, y21, z21⟩, st21⟩ := Jvm.LawKit.callS X10 hx (y := (⟨"java/lang/StringUTF16", "coderFromArrayLen", "([BI)B"⟩ : MethodName)) hown (mvT hZ (hw _ (List.mem_of_getElem? (i := 28) rfl))) (mvT hZ (hw _ (List.mem_of_getElem? (i := 29) rfl))) (mvT hZ (hw _ (List.mem_of_getElem? (i := 22) rfl))) (mvT hZ (hw _ (List.mem_of_getElem? (i := 30) rfl))) (by decide) (backOf (W := 1) (rmCod1 l Z a0 hw [] b10 c10k [(.int (ch0.toInt8.toInt32))] T10.heap n0 Z18 A10) hZ (hw _ (List.mem_of_getElem? (i := 30) rfl)) (hw _ (List.mem_of_getElem? (i := 22) rfl)) (by decide) (by decide)) (g := (mkF m 45 #[.val (.ref ths), .val (.ref a), .val (.int (0 : Int32)), .val (.int (1 : Int32)), .val .null, .val (.ref b10)] [(.int (1 : Int32)), (.ref b10), (.ref ths)])) rfl (by rw [hml]; rfl) (argsL := [(.ref b10), (.int (1 : Int32))]) (rest := [(.ref ths)]) (lenOf own_pd2 rfl) rfl (by show 2 * 0 + _ ≤ _; exact Nat.le_of_eq rfl) (hb hby d3_45) (fun _ _ => ⟨rfl, rfl, (by decide : 1 + 0 ≤ _), (by decide : 1 + 0 ≤ _)⟩)
  dsimp only [Pt.U, Pt.locs, Pt.cells, Pt.slots] at X21 l21 y21 z21 st21 hQ21
  subst l21 y21 z21
  obtain ⟨rfl, N21q, e21⟩ := hQ21
  have N21 := Fr.app N10 N21q
  have k22 : ∀ t, Steps p.tables e below (T21.setTop (mkF m 48 #[.val (.ref ths), .val (.ref a), .val (.int (0 : Int32)), .val (.int (1 : Int32)), .val .null, .val (.ref b10)] [(.int (0 : Int32)), (.ref ths)])) t → Steps p.tables e below (s₁.setTop (entryFrame m #[(.ref ths), (.ref a), (.int (0 : Int32)), (.int (1 : Int32)), .null] 6)) t := fun t kt => k20 t (st21 t kt)
  obtain ⟨T23, h23, X23, e23, W23, st23⟩ := putFN X21 hx hZ hown (hw _ (List.mem_of_getElem? (i := 31) rfl)) Via.refl e21 F14 F15 (Or.inr ⟨(hw _ (List.mem_of_getElem? (i := 32) rfl)), rfl, hnm⟩) (hw _ (List.mem_of_getElem? (i := 6) rfl)) (ty := .byte) (v' := (.int (0 : Int32))) (by decide) rfl (by decide) (g := (mkF m 48 #[.val (.ref ths), .val (.ref a), .val (.int (0 : Int32)), .val (.int (1 : Int32)), .val .null, .val (.ref b10)] [(.int (0 : Int32)), (.ref ths)])) rfl rfl (hb hby d3_48)
  have F24 := F13.other W23 (Or.inr (slot_ne (Or.inr (hw _ (List.mem_of_getElem? (i := 34) rfl))) (Or.inr (hw _ (List.mem_of_getElem? (i := 32) rfl))) (by decide) (t := (.array .byte)) (t' := .byte) (by decide) (by decide)))
  have F25 := F14.same W23
  have F26 := F15.wr W23
  have F27 := F16.other W23 (Ne.symm net)
  have F28 := A10.other W23 (Ne.symm ne11)
  have F29 := Bx10.wr W23
  have Z23 : n0 ≤ h23.size := Nat.le_trans Z18 (Keep.of_wr W23).1
  have K23 : Keep h0 h23 [ths] := K18.wr W23 (Or.inl (List.mem_of_getElem? (i := 0) rfl))
  have N23 := Fr.snoc X23 N21 g_t
  have k30 : ∀ t, Steps p.tables e below (T23.setTop (mkF m 51 #[.val (.ref ths), .val (.ref a), .val (.int (0 : Int32)), .val (.int (1 : Int32)), .val .null, .val (.ref b10)] [])) t → Steps p.tables e below (s₁.setTop (entryFrame m #[(.ref ths), (.ref a), (.int (0 : Int32)), (.int (1 : Int32)), .null] 6)) t := fun t kt => k22 t (st23 t kt)
  have k31 : ∀ t, Steps p.tables e below (T23.setTop (mkF m 54 #[.val (.ref ths), .val (.ref a), .val (.int (0 : Int32)), .val (.int (1 : Int32)), .val .null, .val (.ref b10)] [(.ref b10), (.ref ths)])) t → Steps p.tables e below (s₁.setTop (entryFrame m #[(.ref ths), (.ref a), (.int (0 : Int32)), (.int (1 : Int32)), .null] 6)) t := by
    intro t kt
    refine k30 t ?_
    show Steps p.tables e below (T23.setTop (mkF m 51 #[.val (.ref ths), .val (.ref a), .val (.int (0 : Int32)), .val (.int (1 : Int32)), .val .null, .val (.ref b10)] [])) t
    refine XS.aloadN X23.here hx rfl (hb hby d3_51) rfl rfl ?_
    show Steps p.tables e below (T23.setTop (mkF m 52 #[.val (.ref ths), .val (.ref a), .val (.int (0 : Int32)), .val (.int (1 : Int32)), .val .null, .val (.ref b10)] [(.ref ths)])) t
    refine XS.aload X23.here hx rfl (hb hby d3_52) rfl rfl ?_
    exact kt
  obtain ⟨T32, h32, X32, e32, W32, st32⟩ := putF X23 hx hZ hown (host := "") (Or.inl (hw _ (List.mem_of_getElem? (i := 33) rfl))) Via.refl e23 F24 F26 (Or.inr ⟨(hw _ (List.mem_of_getElem? (i := 34) rfl)), rfl, hnm⟩) (hw _ (List.mem_of_getElem? (i := 6) rfl)) (ty := (.array .byte)) (by decide) rfl rfl (g := (mkF m 54 #[.val (.ref ths), .val (.ref a), .val (.int (0 : Int32)), .val (.int (1 : Int32)), .val .null, .val (.ref b10)] [(.ref b10), (.ref ths)])) rfl rfl (hb hby d3_54)
  have F33 := F24.same W32
  have F34 := F25.other W32 (Or.inr (slot_ne (Or.inr (hw _ (List.mem_of_getElem? (i := 32) rfl))) (Or.inr (hw _ (List.mem_of_getElem? (i := 34) rfl))) (by decide) (t := .byte) (t' := (.array .byte)) (by decide) (by decide)))
  have F35 := F26.wr W32
  have F36 := F27.other W32 (Ne.symm net)
  have F37 := F28.other W32 (Ne.symm ne11)
  have F38 := F29.wr W32
  have Z32 : n0 ≤ h32.size := Nat.le_trans Z23 (Keep.of_wr W32).1
  have K32 : Keep h0 h32 [ths] := K23.wr W32 (Or.inl (List.mem_of_getElem? (i := 0) rfl))
  have N32 := Fr.snoc X32 N23 g_t
  have k39 : ∀ t, Steps p.tables e below (T32.setTop (mkF m 57 #[.val (.ref ths), .val (.ref a), .val (.int (0 : Int32)), .val (.int (1 : Int32)), .val .null, .val (.ref b10)] [])) t → Steps p.tables e below (s₁.setTop (entryFrame m #[(.ref ths), (.ref a), (.int (0 : Int32)), (.int (1 : Int32)), .null] 6)) t := fun t kt => k31 t (st32 t kt)
  obtain ⟨fs, hr, hrun, hended, hW, hsame⟩ := X32.leave (v := none) (fun _ => rfl)
  refine ⟨_, _, k39 _ ?_, hrun, hended, _, _, rfl, ?_, ⟨_, rfl⟩, hW, hsame.mono (by decide) (by decide)⟩
  · show Steps p.tables e below (T32.setTop (mkF m 57 #[.val (.ref ths), .val (.ref a), .val (.int (0 : Int32)), .val (.int (1 : Int32)), .val .null, .val (.ref b10)] [])) _
    exact X32.returnOut hx Bd.returns (hb hby d3_57) hr
  · show QSv1 Z ths a u u' ka cs ch0 h0 n0 _ T32.heap _
    rw [e32]
    exact ⟨rfl, N32, K32, F35, b10, c10k, sz_b10, F33, F34, F37, F38⟩
theorem d2_0 : decode jdk_42_method_3_code 0 = .ok (.aload_n 0, 1) := by decide +kernel
theorem d2_1 : decode jdk_42_method_3_code 1 = .ok (.aload_n 1, 1) := by decide +kernel
theorem d2_2 : decode jdk_42_method_3_code 2 = .ok (.iconst 0, 1) := by decide +kernel
theorem d2_3 : decode jdk_42_method_3_code 3 = .ok (.aload_n 1, 1) := by decide +kernel
theorem d2_4 : decode jdk_42_method_3_code 4 = .ok (.arraylength, 1) := by decide +kernel
theorem d2_5 : decode jdk_42_method_3_code 5 = .ok (.aconst_null, 1) := by decide +kernel
theorem d2_6 : decode jdk_42_method_3_code 6 = .ok (.invokespecial 27, 3) := by decide +kernel
theorem d2_9 : decode jdk_42_method_3_code 9 = .ok (.return_, 1) := by decide +kernel
theorem rmSi1_ef (m : MethodId) (x0 : Addr) (x1 : Addr) : entryFrame m #[(.ref x0), (.ref x1)] 2 = mkF m 0 #[.val (.ref x0), .val (.ref x1)] [] := by first | (simp [entryFrame, mkF, argsToLocals, Value.category]; done) | rfl
def QSi1 (Z : State) (ths : Addr) (a : Addr) (u : Value) (u' : Value) (ka : ClassId) (cs : Int32) (ch0 : Int32) (h0 : Heap) (n0 : Nat) (v : Option Value) (h : Heap) (L : List Loc) : Prop := v = none ∧ Fr n0 L ∧ Keep h0 h [ths] ∧ Exa Z h ths "java/lang/String" ∧ ∃ (b : Addr) (kb : ClassId), h0.size ≤ b ∧ Fld Z h ths "java/lang/String" "value" "[B" (.ref b) ∧ Fld Z h ths "java/lang/String" "coder" "B" (.int (0 : Int32)) ∧ Arv Z h b kb .byte (1 : Int32) [(.int (ch0.toInt8.toInt32))] (.int (0 : Int32)) ∧ Exa Z h b "[B"
theorem own_pd3 : parseMethodDescriptor "([CIILjava/lang/Void;)V" = some ⟨[(.array .char), .int, .int, (.object "java/lang/Void")], none⟩ := by decide +kernel
set_option maxRecDepth 65536 in
set_option maxHeartbeats 40000000 in
theorem rmSi1 (l : Launch) (Z : State) (a0 : Array Value) (hw : ∀ d ∈ tables_1, d.before a0 Z = true) (ws : List Jvm.Cond) (ths : Addr) (a : Addr) (u : Value) (u' : Value) (ka : ClassId) (cs : Int32) (ch0 : Int32) (h0 : Heap) (n0 : Nat) (Z0 : n0 ≤ h0.size) (Fv : Fld Z h0 ths "java/lang/String" "value" "[B" u) (Fc : Fld Z h0 ths "java/lang/String" "coder" "B" u') (Et : Exa Z h0 ths "java/lang/String") (g_t : n0 ≤ ths) (net : ths ≠ a) (Aa : Arv Z h0 a ka .char (1 : Int32) [(.int ch0)] (.int (0 : Int32))) (SC : Sta Z h0 "java/lang/String" "COMPACT_STRINGS" "Z" (.int cs)) (hcs : ¬ (cs = (0 : Int32))) (hch0 : ¬ ((255 : Int32) < ch0)) :
    MetFree l (⟨"java/lang/String", "<init>", "([C)V"⟩ : MethodName) (head1 (Jvm.Cond.code (⟨"java/lang/String", "<init>", "([C)V"⟩ : MethodName) jdk_42_method_3_code 2 none :: ws) ({ frames := 3, cells := 1, slots := 1, locals := 52 } : Room)) (fun aA' U => aA' = #[(.ref ths), (.ref a)] ∧ Z.Warmed39 U.vm ∧ U.heap = h0) (fun _ _ _ _ _ => True) (fun _ U oO' U' => ∃ vV' L, oO' = .returned vV' ∧ QSi1 Z ths a u u' ka cs ch0 h0 n0 vV' U'.heap L ∧ FrameEnd U oO' U' L ({ frames := 3, cells := 1, slots := 1, locals := 52 } : Room).cells ({ frames := 3, cells := 1, slots := 1, locals := 52 } : Room).slots) := by
  refine MetFree.of_bodySF (plainFor_of_name own_pn1) hisR ?_
  intro p e s m args below meth c s₁ Bd hml0 hP hK
  obtain ⟨rfl, hZ, hh⟩ := hP
  have hx := Bd.exec
  have hby := Bd.bytes
  have hml : c.maxLocals = 2 := hml0
  have hown : s.vm.findClass "java/lang/String" = some m.cls := findClass_of_methodNamed Bd.named
  have hnm := (name_of_methodNamed Bd.named Bd.method).1
  have X0 : Stand p l e ({ frames := 3, cells := 1, slots := 1, locals := 52 } : Room) s m #[(.ref ths), (.ref a)] below meth c s₁ [] 0 0 := Stand.of_body Bd
  have e0 : s₁.heap = h0 := by rw [← hh, Bd.state]; rfl
  have N0 := Fr.nil n0
  have K0 : Keep h0 h0 [ths] := Keep.refl _ _
  have k0 : ∀ t, Steps p.tables e below (s₁.setTop (mkF m 0 #[.val (.ref ths), .val (.ref a)] [])) t → Steps p.tables e below (s₁.setTop (entryFrame m #[(.ref ths), (.ref a)] 2)) t := fun t k => castTop (rmSi1_ef m (ths) (a)) k
  have k1 : ∀ t, Steps p.tables e below (s₁.setTop (mkF m 4 #[.val (.ref ths), .val (.ref a)] [(.ref a), (.int (0 : Int32)), (.ref a), (.ref ths)])) t → Steps p.tables e below (s₁.setTop (entryFrame m #[(.ref ths), (.ref a)] 2)) t := by
    intro t kt
    refine k0 t ?_
    show Steps p.tables e below (s₁.setTop (mkF m 0 #[.val (.ref ths), .val (.ref a)] [])) t
    refine XS.aloadN X0.here hx rfl (hb hby d2_0) rfl rfl ?_
    show Steps p.tables e below (s₁.setTop (mkF m 1 #[.val (.ref ths), .val (.ref a)] [(.ref ths)])) t
    refine XS.aloadN X0.here hx rfl (hb hby d2_1) rfl rfl ?_
    show Steps p.tables e below (s₁.setTop (mkF m 2 #[.val (.ref ths), .val (.ref a)] [(.ref a), (.ref ths)])) t
    refine XS.iconst X0.here hx rfl (hb hby d2_2) ?_
    show Steps p.tables e below (s₁.setTop (mkF m 3 #[.val (.ref ths), .val (.ref a)] [(.int (0 : Int32)), (.ref a), (.ref ths)])) t
    refine XS.aloadN X0.here hx rfl (hb hby d2_3) rfl rfl ?_
    exact kt
  obtain ⟨cl2, Ar2, -, S2, M2, -, -⟩ := id Aa
  have k3 : ∀ t, Steps p.tables e below (s₁.setTop (mkF m 5 #[.val (.ref ths), .val (.ref a)] [(.int (1 : Int32)), (.int (0 : Int32)), (.ref a), (.ref ths)])) t → Steps p.tables e below (s₁.setTop (entryFrame m #[(.ref ths), (.ref a)] 2)) t := fun t kt => k1 t (X0.arraylength hx (by rw [e0]; exact Ar2.1) (State.isArrayOf_alike hZ.alike Ar2.2.1) (g := (mkF m 4 #[.val (.ref ths), .val (.ref a)] [(.ref a), (.int (0 : Int32)), (.ref a), (.ref ths)])) rfl rfl (hb hby d2_4) t (by rw [len_of S2 M2]; exact kt))
  have k4 : ∀ t, Steps p.tables e below (s₁.setTop (mkF m 6 #[.val (.ref ths), .val (.ref a)] [.null, (.int (1 : Int32)), (.int (0 : Int32)), (.ref a), (.ref ths)])) t → Steps p.tables e below (s₁.setTop (entryFrame m #[(.ref ths), (.ref a)] 2)) t := by
    intro t kt
    refine k3 t ?_
    show Steps p.tables e below (s₁.setTop (mkF m 5 #[.val (.ref ths), .val (.ref a)] [(.int (1 : Int32)), (.int (0 : Int32)), (.ref a), (.ref ths)])) t
    refine XS.aconstNull X0.here hx rfl (hb hby d2_5) ?_
    exact kt
  obtain ⟨_, _, ⟨T5, L5, k5c, n5⟩, -, X5, ⟨Lc5, hQ5, l5, y5, z5⟩, st5⟩ := X0.specialBack hx (y := (⟨"java/lang/String", "<init>", "([CIILjava/lang/Void;)V"⟩ : MethodName)) rfl hown (mvT hZ (hw _ (List.mem_of_getElem? (i := 12) rfl))) (mvT hZ (hw _ (List.mem_of_getElem? (i := 13) rfl))) (mvT hZ (hw _ (List.mem_of_getElem? (i := 15) rfl))) (by decide) (backOf (W := 0) (rmSv1 l Z a0 hw [] ths a u u' ka cs ch0 h0 n0 Z0 Fv Fc Et g_t net Aa SC hcs hch0) hZ (hw _ (List.mem_of_getElem? (i := 15) rfl)) (hw _ (List.mem_of_getElem? (i := 7) rfl)) (by decide) (by decide)) (g := (mkF m 6 #[.val (.ref ths), .val (.ref a)] [.null, (.int (1 : Int32)), (.int (0 : Int32)), (.ref a), (.ref ths)])) rfl (by rw [hml]; rfl) (Steps.refl _) (a := ths) (argsL := [(.ref a), (.int (0 : Int32)), (.int (1 : Int32)), .null]) (rest := []) (lenOf own_pd3 rfl) rfl (by show 2 * 0 + _ ≤ _; exact Nat.le_of_eq rfl) (hb hby d2_6) (fun _ _ => ⟨rfl, e0, (by decide : 0 + 1 ≤ _), (by decide : 0 + 1 ≤ _)⟩)
  dsimp only [Pt.U, Pt.locs, Pt.cells, Pt.slots] at X5 l5 y5 z5 st5 hQ5
  subst l5 y5 z5
  obtain ⟨rfl, N5q, K5k, E5t, b5, c5k, s5z, Fv5, Fc5, A5, Bx5⟩ := hQ5
  have N5 := Fr.app N0 N5q
  have g_b5 : n0 ≤ b5 := Nat.le_trans Z0 s5z
  have sz_b5 : h0.size ≤ b5 := Nat.le_trans K0.1 s5z
  have ne6 : ths ≠ b5 := Nat.ne_of_lt (Nat.lt_of_lt_of_le Fv.lt s5z)
  have ne7 : a ≠ b5 := Nat.ne_of_lt (Nat.lt_of_lt_of_le Aa.lt s5z)
  have F10 := Et.keep K5k
  have F11 := Aa.keep K5k (ninS (Ne.symm net) nin0)
  have Z13 : n0 ≤ T5.heap.size := Nat.le_trans Z0 K5k.1
  have K13 : Keep h0 T5.heap [ths] := K0.trans K5k (allS (Or.inl (List.mem_of_getElem? (i := 0) rfl)) all0)
  have k14 : ∀ t, Steps p.tables e below (T5.setTop (mkF m 9 #[.val (.ref ths), .val (.ref a)] [])) t → Steps p.tables e below (s₁.setTop (entryFrame m #[(.ref ths), (.ref a)] 2)) t := fun t kt => k4 t (st5.trans kt)
  obtain ⟨fs, hr, hrun, hended, hW, hsame⟩ := X5.leave (v := none) (fun _ => rfl)
  refine ⟨_, _, k14 _ ?_, hrun, hended, _, _, rfl, ?_, ⟨_, rfl⟩, hW, hsame.mono (by decide) (by decide)⟩
  · show Steps p.tables e below (T5.setTop (mkF m 9 #[.val (.ref ths), .val (.ref a)] [])) _
    exact X5.returnOut hx Bd.returns (hb hby d2_9) hr
  · show QSi1 Z ths a u u' ka cs ch0 h0 n0 _ T5.heap _
    exact ⟨rfl, N5, K13, F10, b5, c5k, sz_b5, Fv5, Fc5, A5, Bx5⟩
theorem rmCmp2_ef (m : MethodId) (x0 : Addr) (x2 : Addr) : entryFrame m #[(.ref x0), (.int (0 : Int32)), (.ref x2), (.int (0 : Int32)), (.int (2 : Int32))] 7 = mkF m 0 #[.val (.ref x0), .val (.int (0 : Int32)), .val (.ref x2), .val (.int (0 : Int32)), .val (.int (2 : Int32)), .unset, .unset] [] := by first | (simp [entryFrame, mkF, argsToLocals, Value.category]; done) | rfl
def QCmp2 (Z : State) (a : Addr) (b : Addr) (ka : ClassId) (kb : ClassId) (ch0 : Int32) (ch1 : Int32) (h0 : Heap) (n0 : Nat) (v : Option Value) (h : Heap) (L : List Loc) : Prop := v = some (.int (2 : Int32)) ∧ Fr n0 L ∧ Keep h0 h [b] ∧ Arv Z h b kb .byte (2 : Int32) [(.int (ch0.toInt8.toInt32)), (.int (ch1.toInt8.toInt32))] (.int (0 : Int32))
set_option maxRecDepth 65536 in
set_option maxHeartbeats 40000000 in
theorem rmCmp2 (l : Launch) (Z : State) (a0 : Array Value) (hw : ∀ d ∈ tables_1, d.before a0 Z = true) (ws : List Jvm.Cond) (a : Addr) (b : Addr) (ka : ClassId) (kb : ClassId) (ch0 : Int32) (ch1 : Int32) (h0 : Heap) (n0 : Nat) (Z0 : n0 ≤ h0.size) (Aa : Arv Z h0 a ka .char (2 : Int32) [(.int ch0), (.int ch1)] (.int (0 : Int32))) (Ab : Arv Z h0 b kb .byte (2 : Int32) [(.int (0 : Int32)), (.int (0 : Int32))] (.int (0 : Int32))) (g_b : n0 ≤ b) (ne : a ≠ b) (hch0 : ¬ ((255 : Int32) < ch0)) (hch1 : ¬ ((255 : Int32) < ch1)) :
    MetFree l (⟨"java/lang/StringUTF16", "compress", "([CI[BII)I"⟩ : MethodName) (head1 (Jvm.Cond.code (⟨"java/lang/StringUTF16", "compress", "([CI[BII)I"⟩ : MethodName) jdk_52_method_21_code 7 (some .int) :: ws) ({ frames := 0, cells := 0, slots := 0, locals := 0 } : Room)) (fun aA' U => aA' = #[(.ref a), (.int (0 : Int32)), (.ref b), (.int (0 : Int32)), (.int (2 : Int32))] ∧ Z.Warmed39 U.vm ∧ U.heap = h0) (fun _ _ _ _ _ => True) (fun _ U oO' U' => ∃ vV' L, oO' = .returned vV' ∧ QCmp2 Z a b ka kb ch0 ch1 h0 n0 vV' U'.heap L ∧ FrameEnd U oO' U' L ({ frames := 0, cells := 0, slots := 0, locals := 0 } : Room).cells ({ frames := 0, cells := 0, slots := 0, locals := 0 } : Room).slots) := by
  refine MetFree.of_bodySF (plainFor_of_name own_pn0) hisR ?_
  intro p e s m args below meth c s₁ Bd hml0 hP hK
  obtain ⟨rfl, hZ, hh⟩ := hP
  have hx := Bd.exec
  have hby := Bd.bytes
  have hml : c.maxLocals = 7 := hml0
  have hown : s.vm.findClass "java/lang/StringUTF16" = some m.cls := findClass_of_methodNamed Bd.named
  have hnm := (name_of_methodNamed Bd.named Bd.method).1
  have X0 : Stand p l e ({ frames := 0, cells := 0, slots := 0, locals := 0 } : Room) s m #[(.ref a), (.int (0 : Int32)), (.ref b), (.int (0 : Int32)), (.int (2 : Int32))] below meth c s₁ [] 0 0 := Stand.of_body Bd
  have e0 : s₁.heap = h0 := by rw [← hh, Bd.state]; rfl
  have N0 := Fr.nil n0
  have K0 : Keep h0 h0 [b] := Keep.refl _ _
  have k0 : ∀ t, Steps p.tables e below (s₁.setTop (mkF m 0 #[.val (.ref a), .val (.int (0 : Int32)), .val (.ref b), .val (.int (0 : Int32)), .val (.int (2 : Int32)), .unset, .unset] [])) t → Steps p.tables e below (s₁.setTop (entryFrame m #[(.ref a), (.int (0 : Int32)), (.ref b), (.int (0 : Int32)), (.int (2 : Int32))] 7)) t := fun t k => castTop (rmCmp2_ef m (a) (b)) k
  have hc7_1 : (0 : Int32) < (2 : Int32) := by decide
  have k2 : ∀ t, Steps p.tables e below (s₁.setTop (mkF m 12 #[.val (.ref a), .val (.int (0 : Int32)), .val (.ref b), .val (.int (0 : Int32)), .val (.int (2 : Int32)), .val (.int (0 : Int32)), .unset] [(.int (0 : Int32)), (.ref a)])) t → Steps p.tables e below (s₁.setTop (entryFrame m #[(.ref a), (.int (0 : Int32)), (.ref b), (.int (0 : Int32)), (.int (2 : Int32))] 7)) t := by
    intro t kt
    refine k0 t ?_
    show Steps p.tables e below (s₁.setTop (mkF m 0 #[.val (.ref a), .val (.int (0 : Int32)), .val (.ref b), .val (.int (0 : Int32)), .val (.int (2 : Int32)), .unset, .unset] [])) t
    refine XS.iconst X0.here hx rfl (hb hby d6_0) ?_
    show Steps p.tables e below (s₁.setTop (mkF m 1 #[.val (.ref a), .val (.int (0 : Int32)), .val (.ref b), .val (.int (0 : Int32)), .val (.int (2 : Int32)), .unset, .unset] [(.int (0 : Int32))])) t
    refine XS.istore X0.here hx rfl (hb hby d6_1) rfl (l' := #[.val (.ref a), .val (.int (0 : Int32)), .val (.ref b), .val (.int (0 : Int32)), .val (.int (2 : Int32)), .val (.int (0 : Int32)), .unset]) rfl ?_
    show Steps p.tables e below (s₁.setTop (mkF m 3 #[.val (.ref a), .val (.int (0 : Int32)), .val (.ref b), .val (.int (0 : Int32)), .val (.int (2 : Int32)), .val (.int (0 : Int32)), .unset] [])) t
    refine XS.iload X0.here hx rfl (hb hby d6_3) rfl ?_
    show Steps p.tables e below (s₁.setTop (mkF m 5 #[.val (.ref a), .val (.int (0 : Int32)), .val (.ref b), .val (.int (0 : Int32)), .val (.int (2 : Int32)), .val (.int (0 : Int32)), .unset] [(.int (0 : Int32))])) t
    refine XS.iload X0.here hx rfl (hb hby d6_5) rfl ?_
    show Steps p.tables e below (s₁.setTop (mkF m 7 #[.val (.ref a), .val (.int (0 : Int32)), .val (.ref b), .val (.int (0 : Int32)), .val (.int (2 : Int32)), .val (.int (0 : Int32)), .unset] [(.int (2 : Int32)), (.int (0 : Int32))])) t
    refine XS.icmpNo X0.here hx rfl (hb hby d6_7) rfl (tlt hc7_1).2.1 ?_
    show Steps p.tables e below (s₁.setTop (mkF m 10 #[.val (.ref a), .val (.int (0 : Int32)), .val (.ref b), .val (.int (0 : Int32)), .val (.int (2 : Int32)), .val (.int (0 : Int32)), .unset] [])) t
    refine XS.aloadN X0.here hx rfl (hb hby d6_10) rfl rfl ?_
    show Steps p.tables e below (s₁.setTop (mkF m 11 #[.val (.ref a), .val (.int (0 : Int32)), .val (.ref b), .val (.int (0 : Int32)), .val (.int (2 : Int32)), .val (.int (0 : Int32)), .unset] [(.ref a)])) t
    refine XS.iloadN X0.here hx rfl (hb hby d6_11) rfl ?_
    exact kt
  obtain ⟨cl3, Ar3, q3, S3, M3, H3, G3⟩ := id Aa
  have hin3 : ¬ ((0 : Int32) < 0 ∨ cl3.slots.size ≤ ((0 : Int32)).toNatClampNeg) := inb_of S3 ⟨by decide, by decide⟩
  have hat3 : cl3.slots[((0 : Int32)).toNatClampNeg]? = some (.int ch0) := Has.at H3 hin3 rfl
  have k4 : ∀ t, Steps p.tables e below (s₁.setTop (mkF m 13 #[.val (.ref a), .val (.int (0 : Int32)), .val (.ref b), .val (.int (0 : Int32)), .val (.int (2 : Int32)), .val (.int (0 : Int32)), .unset] [(.int ch0)])) t → Steps p.tables e below (s₁.setTop (entryFrame m #[(.ref a), (.int (0 : Int32)), (.ref b), (.int (0 : Int32)), (.int (2 : Int32))] 7)) t := fun t kt => k2 t (X0.caload hx (j := (0 : Int32)) (v := (.int ch0)) (by rw [e0]; exact Ar3.1) (State.isArrayOf_alike hZ.alike Ar3.2.1) Ar3.2.2 hin3 hat3 (g := (mkF m 12 #[.val (.ref a), .val (.int (0 : Int32)), .val (.ref b), .val (.int (0 : Int32)), .val (.int (2 : Int32)), .val (.int (0 : Int32)), .unset] [(.int (0 : Int32)), (.ref a)])) rfl rfl (hb hby d6_12) t kt)
  have k6 : ∀ t, Steps p.tables e below (s₁.setTop (mkF m 31 #[.val (.ref a), .val (.int (0 : Int32)), .val (.ref b), .val (.int (0 : Int32)), .val (.int (2 : Int32)), .val (.int (0 : Int32)), .val (.int ch0)] [(.int (ch0.toInt8.toInt32)), (.int (0 : Int32)), (.ref b)])) t → Steps p.tables e below (s₁.setTop (entryFrame m #[(.ref a), (.int (0 : Int32)), (.ref b), (.int (0 : Int32)), (.int (2 : Int32))] 7)) t := by
    intro t kt
    refine k4 t ?_
    show Steps p.tables e below (s₁.setTop (mkF m 13 #[.val (.ref a), .val (.int (0 : Int32)), .val (.ref b), .val (.int (0 : Int32)), .val (.int (2 : Int32)), .val (.int (0 : Int32)), .unset] [(.int ch0)])) t
    refine XS.istore X0.here hx rfl (hb hby d6_13) rfl (l' := #[.val (.ref a), .val (.int (0 : Int32)), .val (.ref b), .val (.int (0 : Int32)), .val (.int (2 : Int32)), .val (.int (0 : Int32)), .val (.int ch0)]) rfl ?_
    show Steps p.tables e below (s₁.setTop (mkF m 15 #[.val (.ref a), .val (.int (0 : Int32)), .val (.ref b), .val (.int (0 : Int32)), .val (.int (2 : Int32)), .val (.int (0 : Int32)), .val (.int ch0)] [])) t
    refine XS.iload X0.here hx rfl (hb hby d6_15) rfl ?_
    show Steps p.tables e below (s₁.setTop (mkF m 17 #[.val (.ref a), .val (.int (0 : Int32)), .val (.ref b), .val (.int (0 : Int32)), .val (.int (2 : Int32)), .val (.int (0 : Int32)), .val (.int ch0)] [(.int ch0)])) t
    refine XS.sipush X0.here hx rfl (hb hby d6_17) ?_
    show Steps p.tables e below (s₁.setTop (mkF m 20 #[.val (.ref a), .val (.int (0 : Int32)), .val (.ref b), .val (.int (0 : Int32)), .val (.int (2 : Int32)), .val (.int (0 : Int32)), .val (.int ch0)] [(.int (255 : Int32)), (.int ch0)])) t
    refine XS.icmpYes X0.here hx rfl (pc0 := 20) (pc' := 26) rfl (hb hby d6_20) rfl (flt hch0).2.2.2 (by decide) (by decide) ?_
    show Steps p.tables e below (s₁.setTop (mkF m 26 #[.val (.ref a), .val (.int (0 : Int32)), .val (.ref b), .val (.int (0 : Int32)), .val (.int (2 : Int32)), .val (.int (0 : Int32)), .val (.int ch0)] [])) t
    refine XS.aloadN X0.here hx rfl (hb hby d6_26) rfl rfl ?_
    show Steps p.tables e below (s₁.setTop (mkF m 27 #[.val (.ref a), .val (.int (0 : Int32)), .val (.ref b), .val (.int (0 : Int32)), .val (.int (2 : Int32)), .val (.int (0 : Int32)), .val (.int ch0)] [(.ref b)])) t
    refine XS.iloadN X0.here hx rfl (hb hby d6_27) rfl ?_
    show Steps p.tables e below (s₁.setTop (mkF m 28 #[.val (.ref a), .val (.int (0 : Int32)), .val (.ref b), .val (.int (0 : Int32)), .val (.int (2 : Int32)), .val (.int (0 : Int32)), .val (.int ch0)] [(.int (0 : Int32)), (.ref b)])) t
    refine XS.iload X0.here hx rfl (hb hby d6_28) rfl ?_
    show Steps p.tables e below (s₁.setTop (mkF m 30 #[.val (.ref a), .val (.int (0 : Int32)), .val (.ref b), .val (.int (0 : Int32)), .val (.int (2 : Int32)), .val (.int (0 : Int32)), .val (.int ch0)] [(.int ch0), (.int (0 : Int32)), (.ref b)])) t
    refine XS.i2b X0.here hx rfl (hb hby d6_30) rfl ?_
    exact kt
  obtain ⟨cl7, Ar7, q7, S7, M7, H7, G7⟩ := id Ab
  have hin7 : ¬ ((0 : Int32) < 0 ∨ cl7.slots.size ≤ ((0 : Int32)).toNatClampNeg) := inb_of S7 ⟨by decide, by decide⟩
  obtain ⟨T7, h7, X7, e7, W7, st7⟩ := stB X0 hx hZ e0 Ar7 (j := (0 : Int32)) hin7 (g := (mkF m 31 #[.val (.ref a), .val (.int (0 : Int32)), .val (.ref b), .val (.int (0 : Int32)), .val (.int (2 : Int32)), .val (.int (0 : Int32)), .val (.int ch0)] [(.int (ch0.toInt8.toInt32)), (.int (0 : Int32)), (.ref b)])) rfl rfl (hb hby d6_31)
  have F8 : Arv Z h7 b kb .byte (2 : Int32) [(.int ((ch0.toInt8.toInt32).toInt8.toInt32)), (.int (0 : Int32))] (.int (0 : Int32)) := Arv.set Ar7 q7 S7 M7 H7 G7 (fits_nar_byte _) W7 0 rfl (Nat.le_of_ble_eq_true rfl)
  have F9 := Aa.other W7 ne
  have Z7 : n0 ≤ h7.size := Nat.le_trans Z0 (Keep.of_wr W7).1
  have K7 : Keep h0 h7 [b] := K0.wr W7 (Or.inl (List.mem_of_getElem? (i := 0) rfl))
  have N7 := Fr.snoc X7 N0 g_b
  have k11 : ∀ t, Steps p.tables e below (T7.setTop (mkF m 32 #[.val (.ref a), .val (.int (0 : Int32)), .val (.ref b), .val (.int (0 : Int32)), .val (.int (2 : Int32)), .val (.int (0 : Int32)), .val (.int ch0)] [])) t → Steps p.tables e below (s₁.setTop (entryFrame m #[(.ref a), (.int (0 : Int32)), (.ref b), (.int (0 : Int32)), (.int (2 : Int32))] 7)) t := fun t kt => k6 t (st7 t kt)
  have hc7_12 : (1 : Int32) < (2 : Int32) := by decide
  have k13 : ∀ t, Steps p.tables e below (T7.setTop (mkF m 12 #[.val (.ref a), .val (.int (1 : Int32)), .val (.ref b), .val (.int (1 : Int32)), .val (.int (2 : Int32)), .val (.int (1 : Int32)), .val (.int ch0)] [(.int (1 : Int32)), (.ref a)])) t → Steps p.tables e below (s₁.setTop (entryFrame m #[(.ref a), (.int (0 : Int32)), (.ref b), (.int (0 : Int32)), (.int (2 : Int32))] 7)) t := by
    intro t kt
    refine k11 t ?_
    show Steps p.tables e below (T7.setTop (mkF m 32 #[.val (.ref a), .val (.int (0 : Int32)), .val (.ref b), .val (.int (0 : Int32)), .val (.int (2 : Int32)), .val (.int (0 : Int32)), .val (.int ch0)] [])) t
    refine XS.iinc X7.here hx rfl (hb hby d6_32) rfl (l' := #[.val (.ref a), .val (.int (1 : Int32)), .val (.ref b), .val (.int (0 : Int32)), .val (.int (2 : Int32)), .val (.int (0 : Int32)), .val (.int ch0)]) rfl ?_
    show Steps p.tables e below (T7.setTop (mkF m 35 #[.val (.ref a), .val (.int (1 : Int32)), .val (.ref b), .val (.int (0 : Int32)), .val (.int (2 : Int32)), .val (.int (0 : Int32)), .val (.int ch0)] [])) t
    refine XS.iinc X7.here hx rfl (hb hby d6_35) rfl (l' := #[.val (.ref a), .val (.int (1 : Int32)), .val (.ref b), .val (.int (1 : Int32)), .val (.int (2 : Int32)), .val (.int (0 : Int32)), .val (.int ch0)]) rfl ?_
    show Steps p.tables e below (T7.setTop (mkF m 38 #[.val (.ref a), .val (.int (1 : Int32)), .val (.ref b), .val (.int (1 : Int32)), .val (.int (2 : Int32)), .val (.int (0 : Int32)), .val (.int ch0)] [])) t
    refine XS.iinc X7.here hx rfl (hb hby d6_38) rfl (l' := #[.val (.ref a), .val (.int (1 : Int32)), .val (.ref b), .val (.int (1 : Int32)), .val (.int (2 : Int32)), .val (.int (1 : Int32)), .val (.int ch0)]) rfl ?_
    show Steps p.tables e below (T7.setTop (mkF m 41 #[.val (.ref a), .val (.int (1 : Int32)), .val (.ref b), .val (.int (1 : Int32)), .val (.int (2 : Int32)), .val (.int (1 : Int32)), .val (.int ch0)] [])) t
    refine XS.goto X7.here hx rfl (pc0 := 41) (pc' := 3) rfl (hb hby d6_41) (by decide) (by decide) ?_
    show Steps p.tables e below (T7.setTop (mkF m 3 #[.val (.ref a), .val (.int (1 : Int32)), .val (.ref b), .val (.int (1 : Int32)), .val (.int (2 : Int32)), .val (.int (1 : Int32)), .val (.int ch0)] [])) t
    refine XS.iload X7.here hx rfl (hb hby d6_3) rfl ?_
    show Steps p.tables e below (T7.setTop (mkF m 5 #[.val (.ref a), .val (.int (1 : Int32)), .val (.ref b), .val (.int (1 : Int32)), .val (.int (2 : Int32)), .val (.int (1 : Int32)), .val (.int ch0)] [(.int (1 : Int32))])) t
    refine XS.iload X7.here hx rfl (hb hby d6_5) rfl ?_
    show Steps p.tables e below (T7.setTop (mkF m 7 #[.val (.ref a), .val (.int (1 : Int32)), .val (.ref b), .val (.int (1 : Int32)), .val (.int (2 : Int32)), .val (.int (1 : Int32)), .val (.int ch0)] [(.int (2 : Int32)), (.int (1 : Int32))])) t
    refine XS.icmpNo X7.here hx rfl (hb hby d6_7) rfl (tlt hc7_12).2.1 ?_
    show Steps p.tables e below (T7.setTop (mkF m 10 #[.val (.ref a), .val (.int (1 : Int32)), .val (.ref b), .val (.int (1 : Int32)), .val (.int (2 : Int32)), .val (.int (1 : Int32)), .val (.int ch0)] [])) t
    refine XS.aloadN X7.here hx rfl (hb hby d6_10) rfl rfl ?_
    show Steps p.tables e below (T7.setTop (mkF m 11 #[.val (.ref a), .val (.int (1 : Int32)), .val (.ref b), .val (.int (1 : Int32)), .val (.int (2 : Int32)), .val (.int (1 : Int32)), .val (.int ch0)] [(.ref a)])) t
    refine XS.iloadN X7.here hx rfl (hb hby d6_11) rfl ?_
    exact kt
  obtain ⟨cl14, Ar14, q14, S14, M14, H14, G14⟩ := id F9
  have hin14 : ¬ ((1 : Int32) < 0 ∨ cl14.slots.size ≤ ((1 : Int32)).toNatClampNeg) := inb_of S14 ⟨by decide, by decide⟩
  have hat14 : cl14.slots[((1 : Int32)).toNatClampNeg]? = some (.int ch1) := Has.at H14 hin14 rfl
  have k15 : ∀ t, Steps p.tables e below (T7.setTop (mkF m 13 #[.val (.ref a), .val (.int (1 : Int32)), .val (.ref b), .val (.int (1 : Int32)), .val (.int (2 : Int32)), .val (.int (1 : Int32)), .val (.int ch0)] [(.int ch1)])) t → Steps p.tables e below (s₁.setTop (entryFrame m #[(.ref a), (.int (0 : Int32)), (.ref b), (.int (0 : Int32)), (.int (2 : Int32))] 7)) t := fun t kt => k13 t (X7.caload hx (j := (1 : Int32)) (v := (.int ch1)) (by rw [e7]; exact Ar14.1) (State.isArrayOf_alike hZ.alike Ar14.2.1) Ar14.2.2 hin14 hat14 (g := (mkF m 12 #[.val (.ref a), .val (.int (1 : Int32)), .val (.ref b), .val (.int (1 : Int32)), .val (.int (2 : Int32)), .val (.int (1 : Int32)), .val (.int ch0)] [(.int (1 : Int32)), (.ref a)])) rfl rfl (hb hby d6_12) t kt)
  have k17 : ∀ t, Steps p.tables e below (T7.setTop (mkF m 31 #[.val (.ref a), .val (.int (1 : Int32)), .val (.ref b), .val (.int (1 : Int32)), .val (.int (2 : Int32)), .val (.int (1 : Int32)), .val (.int ch1)] [(.int (ch1.toInt8.toInt32)), (.int (1 : Int32)), (.ref b)])) t → Steps p.tables e below (s₁.setTop (entryFrame m #[(.ref a), (.int (0 : Int32)), (.ref b), (.int (0 : Int32)), (.int (2 : Int32))] 7)) t := by
    intro t kt
    refine k15 t ?_
    show Steps p.tables e below (T7.setTop (mkF m 13 #[.val (.ref a), .val (.int (1 : Int32)), .val (.ref b), .val (.int (1 : Int32)), .val (.int (2 : Int32)), .val (.int (1 : Int32)), .val (.int ch0)] [(.int ch1)])) t
    refine XS.istore X7.here hx rfl (hb hby d6_13) rfl (l' := #[.val (.ref a), .val (.int (1 : Int32)), .val (.ref b), .val (.int (1 : Int32)), .val (.int (2 : Int32)), .val (.int (1 : Int32)), .val (.int ch1)]) rfl ?_
    show Steps p.tables e below (T7.setTop (mkF m 15 #[.val (.ref a), .val (.int (1 : Int32)), .val (.ref b), .val (.int (1 : Int32)), .val (.int (2 : Int32)), .val (.int (1 : Int32)), .val (.int ch1)] [])) t
    refine XS.iload X7.here hx rfl (hb hby d6_15) rfl ?_
    show Steps p.tables e below (T7.setTop (mkF m 17 #[.val (.ref a), .val (.int (1 : Int32)), .val (.ref b), .val (.int (1 : Int32)), .val (.int (2 : Int32)), .val (.int (1 : Int32)), .val (.int ch1)] [(.int ch1)])) t
    refine XS.sipush X7.here hx rfl (hb hby d6_17) ?_
    show Steps p.tables e below (T7.setTop (mkF m 20 #[.val (.ref a), .val (.int (1 : Int32)), .val (.ref b), .val (.int (1 : Int32)), .val (.int (2 : Int32)), .val (.int (1 : Int32)), .val (.int ch1)] [(.int (255 : Int32)), (.int ch1)])) t
    refine XS.icmpYes X7.here hx rfl (pc0 := 20) (pc' := 26) rfl (hb hby d6_20) rfl (flt hch1).2.2.2 (by decide) (by decide) ?_
    show Steps p.tables e below (T7.setTop (mkF m 26 #[.val (.ref a), .val (.int (1 : Int32)), .val (.ref b), .val (.int (1 : Int32)), .val (.int (2 : Int32)), .val (.int (1 : Int32)), .val (.int ch1)] [])) t
    refine XS.aloadN X7.here hx rfl (hb hby d6_26) rfl rfl ?_
    show Steps p.tables e below (T7.setTop (mkF m 27 #[.val (.ref a), .val (.int (1 : Int32)), .val (.ref b), .val (.int (1 : Int32)), .val (.int (2 : Int32)), .val (.int (1 : Int32)), .val (.int ch1)] [(.ref b)])) t
    refine XS.iloadN X7.here hx rfl (hb hby d6_27) rfl ?_
    show Steps p.tables e below (T7.setTop (mkF m 28 #[.val (.ref a), .val (.int (1 : Int32)), .val (.ref b), .val (.int (1 : Int32)), .val (.int (2 : Int32)), .val (.int (1 : Int32)), .val (.int ch1)] [(.int (1 : Int32)), (.ref b)])) t
    refine XS.iload X7.here hx rfl (hb hby d6_28) rfl ?_
    show Steps p.tables e below (T7.setTop (mkF m 30 #[.val (.ref a), .val (.int (1 : Int32)), .val (.ref b), .val (.int (1 : Int32)), .val (.int (2 : Int32)), .val (.int (1 : Int32)), .val (.int ch1)] [(.int ch1), (.int (1 : Int32)), (.ref b)])) t
    refine XS.i2b X7.here hx rfl (hb hby d6_30) rfl ?_
    exact kt
  obtain ⟨cl18, Ar18, q18, S18, M18, H18, G18⟩ := id F8
  have hin18 : ¬ ((1 : Int32) < 0 ∨ cl18.slots.size ≤ ((1 : Int32)).toNatClampNeg) := inb_of S18 ⟨by decide, by decide⟩
  obtain ⟨T18, h18, X18, e18, W18, st18⟩ := stB X7 hx hZ e7 Ar18 (j := (1 : Int32)) hin18 (g := (mkF m 31 #[.val (.ref a), .val (.int (1 : Int32)), .val (.ref b), .val (.int (1 : Int32)), .val (.int (2 : Int32)), .val (.int (1 : Int32)), .val (.int ch1)] [(.int (ch1.toInt8.toInt32)), (.int (1 : Int32)), (.ref b)])) rfl rfl (hb hby d6_31)
  have F19 : Arv Z h18 b kb .byte (2 : Int32) [(.int ((ch0.toInt8.toInt32).toInt8.toInt32)), (.int ((ch1.toInt8.toInt32).toInt8.toInt32))] (.int (0 : Int32)) := Arv.set Ar18 q18 S18 M18 H18 G18 (fits_nar_byte _) W18 1 rfl (Nat.le_of_ble_eq_true rfl)
  have F20 := F9.other W18 ne
  have Z18 : n0 ≤ h18.size := Nat.le_trans Z7 (Keep.of_wr W18).1
  have K18 : Keep h0 h18 [b] := K7.wr W18 (Or.inl (List.mem_of_getElem? (i := 0) rfl))
  have N18 := Fr.snoc X18 N7 g_b
  have k22 : ∀ t, Steps p.tables e below (T18.setTop (mkF m 32 #[.val (.ref a), .val (.int (1 : Int32)), .val (.ref b), .val (.int (1 : Int32)), .val (.int (2 : Int32)), .val (.int (1 : Int32)), .val (.int ch1)] [])) t → Steps p.tables e below (s₁.setTop (entryFrame m #[(.ref a), (.int (0 : Int32)), (.ref b), (.int (0 : Int32)), (.int (2 : Int32))] 7)) t := fun t kt => k17 t (st18 t kt)
  have hc7_23 : ¬ ((2 : Int32) < (2 : Int32)) := by decide
  have k24 : ∀ t, Steps p.tables e below (T18.setTop (mkF m 46 #[.val (.ref a), .val (.int (2 : Int32)), .val (.ref b), .val (.int (2 : Int32)), .val (.int (2 : Int32)), .val (.int (2 : Int32)), .val (.int ch1)] [(.int (2 : Int32))])) t → Steps p.tables e below (s₁.setTop (entryFrame m #[(.ref a), (.int (0 : Int32)), (.ref b), (.int (0 : Int32)), (.int (2 : Int32))] 7)) t := by
    intro t kt
    refine k22 t ?_
    show Steps p.tables e below (T18.setTop (mkF m 32 #[.val (.ref a), .val (.int (1 : Int32)), .val (.ref b), .val (.int (1 : Int32)), .val (.int (2 : Int32)), .val (.int (1 : Int32)), .val (.int ch1)] [])) t
    refine XS.iinc X18.here hx rfl (hb hby d6_32) rfl (l' := #[.val (.ref a), .val (.int (2 : Int32)), .val (.ref b), .val (.int (1 : Int32)), .val (.int (2 : Int32)), .val (.int (1 : Int32)), .val (.int ch1)]) rfl ?_
    show Steps p.tables e below (T18.setTop (mkF m 35 #[.val (.ref a), .val (.int (2 : Int32)), .val (.ref b), .val (.int (1 : Int32)), .val (.int (2 : Int32)), .val (.int (1 : Int32)), .val (.int ch1)] [])) t
    refine XS.iinc X18.here hx rfl (hb hby d6_35) rfl (l' := #[.val (.ref a), .val (.int (2 : Int32)), .val (.ref b), .val (.int (2 : Int32)), .val (.int (2 : Int32)), .val (.int (1 : Int32)), .val (.int ch1)]) rfl ?_
    show Steps p.tables e below (T18.setTop (mkF m 38 #[.val (.ref a), .val (.int (2 : Int32)), .val (.ref b), .val (.int (2 : Int32)), .val (.int (2 : Int32)), .val (.int (1 : Int32)), .val (.int ch1)] [])) t
    refine XS.iinc X18.here hx rfl (hb hby d6_38) rfl (l' := #[.val (.ref a), .val (.int (2 : Int32)), .val (.ref b), .val (.int (2 : Int32)), .val (.int (2 : Int32)), .val (.int (2 : Int32)), .val (.int ch1)]) rfl ?_
    show Steps p.tables e below (T18.setTop (mkF m 41 #[.val (.ref a), .val (.int (2 : Int32)), .val (.ref b), .val (.int (2 : Int32)), .val (.int (2 : Int32)), .val (.int (2 : Int32)), .val (.int ch1)] [])) t
    refine XS.goto X18.here hx rfl (pc0 := 41) (pc' := 3) rfl (hb hby d6_41) (by decide) (by decide) ?_
    show Steps p.tables e below (T18.setTop (mkF m 3 #[.val (.ref a), .val (.int (2 : Int32)), .val (.ref b), .val (.int (2 : Int32)), .val (.int (2 : Int32)), .val (.int (2 : Int32)), .val (.int ch1)] [])) t
    refine XS.iload X18.here hx rfl (hb hby d6_3) rfl ?_
    show Steps p.tables e below (T18.setTop (mkF m 5 #[.val (.ref a), .val (.int (2 : Int32)), .val (.ref b), .val (.int (2 : Int32)), .val (.int (2 : Int32)), .val (.int (2 : Int32)), .val (.int ch1)] [(.int (2 : Int32))])) t
    refine XS.iload X18.here hx rfl (hb hby d6_5) rfl ?_
    show Steps p.tables e below (T18.setTop (mkF m 7 #[.val (.ref a), .val (.int (2 : Int32)), .val (.ref b), .val (.int (2 : Int32)), .val (.int (2 : Int32)), .val (.int (2 : Int32)), .val (.int ch1)] [(.int (2 : Int32)), (.int (2 : Int32))])) t
    refine XS.icmpYes X18.here hx rfl (pc0 := 7) (pc' := 44) rfl (hb hby d6_7) rfl (flt hc7_23).2.1 (by decide) (by decide) ?_
    show Steps p.tables e below (T18.setTop (mkF m 44 #[.val (.ref a), .val (.int (2 : Int32)), .val (.ref b), .val (.int (2 : Int32)), .val (.int (2 : Int32)), .val (.int (2 : Int32)), .val (.int ch1)] [])) t
    refine XS.iload X18.here hx rfl (hb hby d6_44) rfl ?_
    exact kt
  obtain ⟨fs, hr, hrun, hended, hW, hsame⟩ := X18.leave (v := some (.int (2 : Int32))) (fun h => by rw [Bd.returns] at h; cases h)
  refine ⟨_, _, k24 _ ?_, hrun, hended, _, _, rfl, ?_, ⟨_, rfl⟩, hW, hsame.mono (by decide) (by decide)⟩
  · show Steps p.tables e below (T18.setTop (mkF m 46 #[.val (.ref a), .val (.int (2 : Int32)), .val (.ref b), .val (.int (2 : Int32)), .val (.int (2 : Int32)), .val (.int (2 : Int32)), .val (.int ch1)] [(.int (2 : Int32))])) _
    exact retI X18 hx Bd.returns (hb hby d6_46) hr
  · show QCmp2 Z a b ka kb ch0 ch1 h0 n0 _ T18.heap _
    rw [e18]
    exact ⟨rfl, N18, K18, by simp only [own_i2b] at F19; exact F19⟩
theorem rmCps2_ef (m : MethodId) (x0 : Addr) : entryFrame m #[(.ref x0), (.int (0 : Int32)), (.int (2 : Int32))] 6 = mkF m 0 #[.val (.ref x0), .val (.int (0 : Int32)), .val (.int (2 : Int32)), .unset, .unset, .unset] [] := by first | (simp [entryFrame, mkF, argsToLocals, Value.category]; done) | rfl
def QCps2 (Z : State) (a : Addr) (ka : ClassId) (ch0 : Int32) (ch1 : Int32) (h0 : Heap) (n0 : Nat) (v : Option Value) (h : Heap) (L : List Loc) : Prop := ∃ (b : Addr) (kb : ClassId), v = some (.ref b) ∧ Fr n0 L ∧ Keep h0 h [] ∧ h0.size ≤ b ∧ Arv Z h b kb .byte (2 : Int32) [(.int (ch0.toInt8.toInt32)), (.int (ch1.toInt8.toInt32))] (.int (0 : Int32)) ∧ Exa Z h b "[B"
set_option maxRecDepth 65536 in
set_option maxHeartbeats 40000000 in
theorem rmCps2 (l : Launch) (Z : State) (a0 : Array Value) (hw : ∀ d ∈ tables_1, d.before a0 Z = true) (ws : List Jvm.Cond) (a : Addr) (ka : ClassId) (ch0 : Int32) (ch1 : Int32) (h0 : Heap) (n0 : Nat) (Z0 : n0 ≤ h0.size) (Aa : Arv Z h0 a ka .char (2 : Int32) [(.int ch0), (.int ch1)] (.int (0 : Int32))) (hch0 : ¬ ((255 : Int32) < ch0)) (hch1 : ¬ ((255 : Int32) < ch1)) :
    MetFree l (⟨"java/lang/StringUTF16", "compress", "([CII)[B"⟩ : MethodName) (head1 (Jvm.Cond.code (⟨"java/lang/StringUTF16", "compress", "([CII)[B"⟩ : MethodName) jdk_52_method_16_code 6 (some (.array .byte)) :: ws) ({ frames := 1, cells := 1, slots := 2, locals := 18 } : Room)) (fun aA' U => aA' = #[(.ref a), (.int (0 : Int32)), (.int (2 : Int32))] ∧ Z.Warmed39 U.vm ∧ U.heap = h0) (fun _ _ _ _ _ => True) (fun _ U oO' U' => ∃ vV' L, oO' = .returned vV' ∧ QCps2 Z a ka ch0 ch1 h0 n0 vV' U'.heap L ∧ FrameEnd U oO' U' L ({ frames := 1, cells := 1, slots := 2, locals := 18 } : Room).cells ({ frames := 1, cells := 1, slots := 2, locals := 18 } : Room).slots) := by
  refine MetFree.of_bodySF (plainFor_of_name own_pn0) hisR ?_
  intro p e s m args below meth c s₁ Bd hml0 hP hK
  obtain ⟨rfl, hZ, hh⟩ := hP
  have hx := Bd.exec
  have hby := Bd.bytes
  have hml : c.maxLocals = 6 := hml0
  have hown : s.vm.findClass "java/lang/StringUTF16" = some m.cls := findClass_of_methodNamed Bd.named
  have hnm := (name_of_methodNamed Bd.named Bd.method).1
  have X0 : Stand p l e ({ frames := 1, cells := 1, slots := 2, locals := 18 } : Room) s m #[(.ref a), (.int (0 : Int32)), (.int (2 : Int32))] below meth c s₁ [] 0 0 := Stand.of_body Bd
  have e0 : s₁.heap = h0 := by rw [← hh, Bd.state]; rfl
  have N0 := Fr.nil n0
  have K0 : Keep h0 h0 [] := Keep.refl _ _
  have k0 : ∀ t, Steps p.tables e below (s₁.setTop (mkF m 0 #[.val (.ref a), .val (.int (0 : Int32)), .val (.int (2 : Int32)), .unset, .unset, .unset] [])) t → Steps p.tables e below (s₁.setTop (entryFrame m #[(.ref a), (.int (0 : Int32)), (.int (2 : Int32))] 6)) t := fun t k => castTop (rmCps2_ef m (a)) k
  have k1 : ∀ t, Steps p.tables e below (s₁.setTop (mkF m 1 #[.val (.ref a), .val (.int (0 : Int32)), .val (.int (2 : Int32)), .unset, .unset, .unset] [(.int (2 : Int32))])) t → Steps p.tables e below (s₁.setTop (entryFrame m #[(.ref a), (.int (0 : Int32)), (.int (2 : Int32))] 6)) t := by
    intro t kt
    refine k0 t ?_
    show Steps p.tables e below (s₁.setTop (mkF m 0 #[.val (.ref a), .val (.int (0 : Int32)), .val (.int (2 : Int32)), .unset, .unset, .unset] [])) t
    refine XS.iloadN X0.here hx rfl (hb hby d5_0) rfl ?_
    exact kt
  obtain ⟨T2, h2, c2, X2, e2, E2, A2, Bx2, st2⟩ := newPE X0 hx hZ (hw _ (List.mem_of_getElem? (i := 24) rfl)) e0 (g := (mkF m 1 #[.val (.ref a), .val (.int (0 : Int32)), .val (.int (2 : Int32)), .unset, .unset, .unset] [(.int (2 : Int32))])) rfl (hb hby d5_1) rfl (by decide) (cap := 2) (by decide) (by decide) (by decide) (by decide) (ad := "[B") rfl
  obtain ⟨b2, g2⟩ : ∃ z, z = h0.size := ⟨_, rfl⟩
  rw [← g2] at A2 Bx2 st2
  have g_b2 : n0 ≤ b2 := Nat.le_trans Z0 (Nat.le_of_eq g2.symm)
  have sz_b2 : h0.size ≤ b2 := Nat.le_trans K0.1 (Nat.le_of_eq g2.symm)
  have ne3 : a ≠ b2 := Nat.ne_of_lt (Nat.lt_of_lt_of_le Aa.lt (Nat.le_of_eq g2.symm))
  have F4 := Aa.ext E2
  have Z2 : n0 ≤ h2.size := Nat.le_trans Z0 E2.1
  have K2 : Keep h0 h2 [] := K0.ext E2
  have F5 : Arv Z h2 b2 c2 .byte (2 : Int32) [(.int (0 : Int32)), (.int (0 : Int32))] (.int (0 : Int32)) := (Arv.new A2 (by decide)).pad (pad_rep [] (.int (0 : Int32)) 2)
  have k6 : ∀ t, Steps p.tables e below (T2.setTop (mkF m 3 #[.val (.ref a), .val (.int (0 : Int32)), .val (.int (2 : Int32)), .unset, .unset, .unset] [(.ref b2)])) t → Steps p.tables e below (s₁.setTop (entryFrame m #[(.ref a), (.int (0 : Int32)), (.int (2 : Int32))] 6)) t := fun t kt => k1 t (st2 t kt)
  have k7 : ∀ t, Steps p.tables e below (T2.setTop (mkF m 9 #[.val (.ref a), .val (.int (0 : Int32)), .val (.int (2 : Int32)), .val (.ref b2), .unset, .unset] [(.int (2 : Int32)), (.int (0 : Int32)), (.ref b2), (.int (0 : Int32)), (.ref a)])) t → Steps p.tables e below (s₁.setTop (entryFrame m #[(.ref a), (.int (0 : Int32)), (.int (2 : Int32))] 6)) t := by
    intro t kt
    refine k6 t ?_
    show Steps p.tables e below (T2.setTop (mkF m 3 #[.val (.ref a), .val (.int (0 : Int32)), .val (.int (2 : Int32)), .unset, .unset, .unset] [(.ref b2)])) t
    refine XS.astoreN X2.here hx rfl (hb hby d5_3) rfl rfl (l' := #[.val (.ref a), .val (.int (0 : Int32)), .val (.int (2 : Int32)), .val (.ref b2), .unset, .unset]) rfl ?_
    show Steps p.tables e below (T2.setTop (mkF m 4 #[.val (.ref a), .val (.int (0 : Int32)), .val (.int (2 : Int32)), .val (.ref b2), .unset, .unset] [])) t
    refine XS.aloadN X2.here hx rfl (hb hby d5_4) rfl rfl ?_
    show Steps p.tables e below (T2.setTop (mkF m 5 #[.val (.ref a), .val (.int (0 : Int32)), .val (.int (2 : Int32)), .val (.ref b2), .unset, .unset] [(.ref a)])) t
    refine XS.iloadN X2.here hx rfl (hb hby d5_5) rfl ?_
    show Steps p.tables e below (T2.setTop (mkF m 6 #[.val (.ref a), .val (.int (0 : Int32)), .val (.int (2 : Int32)), .val (.ref b2), .unset, .unset] [(.int (0 : Int32)), (.ref a)])) t
    refine XS.aloadN X2.here hx rfl (hb hby d5_6) rfl rfl ?_
    show Steps p.tables e below (T2.setTop (mkF m 7 #[.val (.ref a), .val (.int (0 : Int32)), .val (.int (2 : Int32)), .val (.ref b2), .unset, .unset] [(.ref b2), (.int (0 : Int32)), (.ref a)])) t
    refine XS.iconst X2.here hx rfl (hb hby d5_7) ?_
    show Steps p.tables e below (T2.setTop (mkF m 8 #[.val (.ref a), .val (.int (0 : Int32)), .val (.int (2 : Int32)), .val (.ref b2), .unset, .unset] [(.int (0 : Int32)), (.ref b2), (.int (0 : Int32)), (.ref a)])) t
    refine XS.iloadN X2.here hx rfl (hb hby d5_8) rfl ?_
    exact kt
  obtain ⟨_, _, ⟨T8, L8, k8c, n8⟩, -, X8, ⟨Lc8, hQ8, l8, y8, z8⟩, st8⟩ := Jvm.LawKit.callS X2 hx (y := (⟨"java/lang/StringUTF16", "compress", "([CI[BII)I"⟩ : MethodName)) hown (mvT hZ (hw _ (List.mem_of_getElem? (i := 25) rfl))) (mvT hZ (hw _ (List.mem_of_getElem? (i := 26) rfl))) (mvT hZ (hw _ (List.mem_of_getElem? (i := 22) rfl))) (mvT hZ (hw _ (List.mem_of_getElem? (i := 27) rfl))) (by decide) (backOf (W := 0) (rmCmp2 l Z a0 hw [] a b2 ka c2 ch0 ch1 h2 n0 Z2 F4 F5 g_b2 ne3 hch0 hch1) hZ (hw _ (List.mem_of_getElem? (i := 27) rfl)) (hw _ (List.mem_of_getElem? (i := 22) rfl)) (by decide) (by decide)) (g := (mkF m 9 #[.val (.ref a), .val (.int (0 : Int32)), .val (.int (2 : Int32)), .val (.ref b2), .unset, .unset] [(.int (2 : Int32)), (.int (0 : Int32)), (.ref b2), (.int (0 : Int32)), (.ref a)])) rfl (by rw [hml]; rfl) (argsL := [(.ref a), (.int (0 : Int32)), (.ref b2), (.int (0 : Int32)), (.int (2 : Int32))]) (rest := []) (lenOf own_pd0 rfl) rfl (by show 2 * 0 + _ ≤ _; exact Nat.le_of_eq rfl) (hb hby d5_9) (fun _ _ => ⟨rfl, e2, (by decide : 1 + 0 ≤ _), (by decide : 2 + 0 ≤ _)⟩)
  dsimp only [Pt.U, Pt.locs, Pt.cells, Pt.slots] at X8 l8 y8 z8 st8 hQ8
  subst l8 y8 z8
  obtain ⟨rfl, N8q, K8k, A8⟩ := hQ8
  have N8 := Fr.app N0 N8q
  have F9 := F4.keep K8k (ninS ne3 nin0)
  have F10 := Bx2.keep K8k
  have Z12 : n0 ≤ T8.heap.size := Nat.le_trans Z2 K8k.1
  have K12 : Keep h0 T8.heap [] := K2.trans K8k (allS (Or.inr sz_b2) all0)
  have k13 : ∀ t, Steps p.tables e below (T8.setTop (mkF m 12 #[.val (.ref a), .val (.int (0 : Int32)), .val (.int (2 : Int32)), .val (.ref b2), .unset, .unset] [(.int (2 : Int32))])) t → Steps p.tables e below (s₁.setTop (entryFrame m #[(.ref a), (.int (0 : Int32)), (.int (2 : Int32))] 6)) t := fun t kt => k7 t (st8 t kt)
  have k15 : ∀ t, Steps p.tables e below (T8.setTop (mkF m 17 #[.val (.ref a), .val (.int (0 : Int32)), .val (.int (2 : Int32)), .val (.ref b2), .val (.int (2 : Int32)), .unset] [(.int (2 : Int32)), (.int (2 : Int32))])) t → Steps p.tables e below (s₁.setTop (entryFrame m #[(.ref a), (.int (0 : Int32)), (.int (2 : Int32))] 6)) t := by
    intro t kt
    refine k13 t ?_
    show Steps p.tables e below (T8.setTop (mkF m 12 #[.val (.ref a), .val (.int (0 : Int32)), .val (.int (2 : Int32)), .val (.ref b2), .unset, .unset] [(.int (2 : Int32))])) t
    refine XS.istore X8.here hx rfl (hb hby d5_12) rfl (l' := #[.val (.ref a), .val (.int (0 : Int32)), .val (.int (2 : Int32)), .val (.ref b2), .val (.int (2 : Int32)), .unset]) rfl ?_
    show Steps p.tables e below (T8.setTop (mkF m 14 #[.val (.ref a), .val (.int (0 : Int32)), .val (.int (2 : Int32)), .val (.ref b2), .val (.int (2 : Int32)), .unset] [])) t
    refine XS.iload X8.here hx rfl (hb hby d5_14) rfl ?_
    show Steps p.tables e below (T8.setTop (mkF m 16 #[.val (.ref a), .val (.int (0 : Int32)), .val (.int (2 : Int32)), .val (.ref b2), .val (.int (2 : Int32)), .unset] [(.int (2 : Int32))])) t
    refine XS.iloadN X8.here hx rfl (hb hby d5_16) rfl ?_
    exact kt
  have hc17_14 : (2 : Int32) = (2 : Int32) := rfl
  have k16 : ∀ t, Steps p.tables e below (T8.setTop (mkF m 58 #[.val (.ref a), .val (.int (0 : Int32)), .val (.int (2 : Int32)), .val (.ref b2), .val (.int (2 : Int32)), .unset] [(.ref b2)])) t → Steps p.tables e below (s₁.setTop (entryFrame m #[(.ref a), (.int (0 : Int32)), (.int (2 : Int32))] 6)) t := by
    intro t kt
    refine k15 t ?_
    show Steps p.tables e below (T8.setTop (mkF m 17 #[.val (.ref a), .val (.int (0 : Int32)), .val (.int (2 : Int32)), .val (.ref b2), .val (.int (2 : Int32)), .unset] [(.int (2 : Int32)), (.int (2 : Int32))])) t
    refine XS.icmpYes X8.here hx rfl (pc0 := 17) (pc' := 57) rfl (hb hby d5_17) rfl (teq hc17_14).1 (by decide) (by decide) ?_
    show Steps p.tables e below (T8.setTop (mkF m 57 #[.val (.ref a), .val (.int (0 : Int32)), .val (.int (2 : Int32)), .val (.ref b2), .val (.int (2 : Int32)), .unset] [])) t
    refine XS.aloadN X8.here hx rfl (hb hby d5_57) rfl rfl ?_
    exact kt
  obtain ⟨fs, hr, hrun, hended, hW, hsame⟩ := X8.leave (v := some (.ref b2)) (fun h => by rw [Bd.returns] at h; cases h)
  refine ⟨_, _, k16 _ ?_, hrun, hended, _, _, rfl, ?_, ⟨_, rfl⟩, hW, hsame.mono (by decide) (by decide)⟩
  · show Steps p.tables e below (T8.setTop (mkF m 58 #[.val (.ref a), .val (.int (0 : Int32)), .val (.int (2 : Int32)), .val (.ref b2), .val (.int (2 : Int32)), .unset] [(.ref b2)])) _
    jvm_step X8.here [X8.here.top, hx, (hb hby d5_58), X8.method', Bd.returns, Value.isRef, FieldType.isReference]
    first | (intro acts; rw [hr _ acts rfl rfl rfl]) | rw [hr _ _ rfl rfl rfl]
    exact Steps.refl _
  · show QCps2 Z a ka ch0 ch1 h0 n0 _ T8.heap _
    exact ⟨b2, c2, rfl, N8, K12, sz_b2, A8, F10⟩
theorem rmCod2_ef (m : MethodId) (x0 : Addr) : entryFrame m #[(.ref x0), (.int (2 : Int32))] 2 = mkF m 0 #[.val (.ref x0), .val (.int (2 : Int32))] [] := by first | (simp [entryFrame, mkF, argsToLocals, Value.category]; done) | rfl
def QCod2 (Z : State) (b : Addr) (kb : ClassId) (vs : List Value) (h0 : Heap) (n0 : Nat) (v : Option Value) (h : Heap) (L : List Loc) : Prop := v = some (.int (0 : Int32)) ∧ Fr n0 L ∧ h = h0
set_option maxRecDepth 65536 in
set_option maxHeartbeats 40000000 in
theorem rmCod2 (l : Launch) (Z : State) (a0 : Array Value) (hw : ∀ d ∈ tables_1, d.before a0 Z = true) (ws : List Jvm.Cond) (b : Addr) (kb : ClassId) (vs : List Value) (h0 : Heap) (n0 : Nat) (Z0 : n0 ≤ h0.size) (Ab : Arv Z h0 b kb .byte (2 : Int32) vs (.int (0 : Int32))) :
    MetFree l (⟨"java/lang/StringUTF16", "coderFromArrayLen", "([BI)B"⟩ : MethodName) (head1 (Jvm.Cond.code (⟨"java/lang/StringUTF16", "coderFromArrayLen", "([BI)B"⟩ : MethodName) jdk_52_method_15_code 2 (some .byte) :: ws) ({ frames := 0, cells := 0, slots := 0, locals := 0 } : Room)) (fun aA' U => aA' = #[(.ref b), (.int (2 : Int32))] ∧ Z.Warmed39 U.vm ∧ U.heap = h0) (fun _ _ _ _ _ => True) (fun _ U oO' U' => ∃ vV' L, oO' = .returned vV' ∧ QCod2 Z b kb vs h0 n0 vV' U'.heap L ∧ FrameEnd U oO' U' L ({ frames := 0, cells := 0, slots := 0, locals := 0 } : Room).cells ({ frames := 0, cells := 0, slots := 0, locals := 0 } : Room).slots) := by
  refine MetFree.of_bodySF (plainFor_of_name own_pn0) hisR ?_
  intro p e s m args below meth c s₁ Bd hml0 hP hK
  obtain ⟨rfl, hZ, hh⟩ := hP
  have hx := Bd.exec
  have hby := Bd.bytes
  have hml : c.maxLocals = 2 := hml0
  have hown : s.vm.findClass "java/lang/StringUTF16" = some m.cls := findClass_of_methodNamed Bd.named
  have hnm := (name_of_methodNamed Bd.named Bd.method).1
  have X0 : Stand p l e ({ frames := 0, cells := 0, slots := 0, locals := 0 } : Room) s m #[(.ref b), (.int (2 : Int32))] below meth c s₁ [] 0 0 := Stand.of_body Bd
  have e0 : s₁.heap = h0 := by rw [← hh, Bd.state]; rfl
  have N0 := Fr.nil n0
  have K0 : Keep h0 h0 [] := Keep.refl _ _
  have k0 : ∀ t, Steps p.tables e below (s₁.setTop (mkF m 0 #[.val (.ref b), .val (.int (2 : Int32))] [])) t → Steps p.tables e below (s₁.setTop (entryFrame m #[(.ref b), (.int (2 : Int32))] 2)) t := fun t k => castTop (rmCod2_ef m (b)) k
  have k1 : ∀ t, Steps p.tables e below (s₁.setTop (mkF m 2 #[.val (.ref b), .val (.int (2 : Int32))] [(.ref b), (.int (2 : Int32))])) t → Steps p.tables e below (s₁.setTop (entryFrame m #[(.ref b), (.int (2 : Int32))] 2)) t := by
    intro t kt
    refine k0 t ?_
    show Steps p.tables e below (s₁.setTop (mkF m 0 #[.val (.ref b), .val (.int (2 : Int32))] [])) t
    refine XS.iloadN X0.here hx rfl (hb hby d7_0) rfl ?_
    show Steps p.tables e below (s₁.setTop (mkF m 1 #[.val (.ref b), .val (.int (2 : Int32))] [(.int (2 : Int32))])) t
    refine XS.aloadN X0.here hx rfl (hb hby d7_1) rfl rfl ?_
    exact kt
  obtain ⟨cl2, Ar2, -, S2, M2, -, -⟩ := id Ab
  have k3 : ∀ t, Steps p.tables e below (s₁.setTop (mkF m 3 #[.val (.ref b), .val (.int (2 : Int32))] [(.int (2 : Int32)), (.int (2 : Int32))])) t → Steps p.tables e below (s₁.setTop (entryFrame m #[(.ref b), (.int (2 : Int32))] 2)) t := fun t kt => k1 t (X0.arraylength hx (by rw [e0]; exact Ar2.1) (State.isArrayOf_alike hZ.alike Ar2.2.1) (g := (mkF m 2 #[.val (.ref b), .val (.int (2 : Int32))] [(.ref b), (.int (2 : Int32))])) rfl rfl (hb hby d7_2) t (by rw [len_of S2 M2]; exact kt))
  have k4 : ∀ t, Steps p.tables e below (s₁.setTop (mkF m 8 #[.val (.ref b), .val (.int (2 : Int32))] [(.int ((((0 : Int32).toUInt32 >>> ((31 : Int32) &&& 31).toUInt32).toInt32).toInt8.toInt32))])) t → Steps p.tables e below (s₁.setTop (entryFrame m #[(.ref b), (.int (2 : Int32))] 2)) t := by
    intro t kt
    refine k3 t ?_
    show Steps p.tables e below (s₁.setTop (mkF m 3 #[.val (.ref b), .val (.int (2 : Int32))] [(.int (2 : Int32)), (.int (2 : Int32))])) t
    refine XS.isub X0.here hx rfl (hb hby d7_3) rfl ?_
    show Steps p.tables e below (s₁.setTop (mkF m 4 #[.val (.ref b), .val (.int (2 : Int32))] [(.int (0 : Int32))])) t
    refine XS.bipush X0.here hx rfl (hb hby d7_4) ?_
    show Steps p.tables e below (s₁.setTop (mkF m 6 #[.val (.ref b), .val (.int (2 : Int32))] [(.int (31 : Int32)), (.int (0 : Int32))])) t
    refine XS.iushr X0.here hx rfl (hb hby d7_6) rfl ?_
    show Steps p.tables e below (s₁.setTop (mkF m 7 #[.val (.ref b), .val (.int (2 : Int32))] [(.int (((0 : Int32).toUInt32 >>> ((31 : Int32) &&& 31).toUInt32).toInt32))])) t
    refine XS.i2b X0.here hx rfl (hb hby d7_7) rfl ?_
    exact kt
  obtain ⟨fs, hr, hrun, hended, hW, hsame⟩ := X0.leave (v := some (.int (((((0 : Int32).toUInt32 >>> ((31 : Int32) &&& 31).toUInt32).toInt32).toInt8.toInt32).toInt8.toInt32))) (fun h => by rw [Bd.returns] at h; cases h)
  refine ⟨_, _, k4 _ ?_, hrun, hended, _, _, rfl, ?_, ⟨_, rfl⟩, hW, hsame.mono (by decide) (by decide)⟩
  · show Steps p.tables e below (s₁.setTop (mkF m 8 #[.val (.ref b), .val (.int (2 : Int32))] [(.int ((((0 : Int32).toUInt32 >>> ((31 : Int32) &&& 31).toUInt32).toInt32).toInt8.toInt32))])) _
    exact retN X0 hx (t := .byte) Bd.returns (by simp) (hb hby d7_8) hr
  · show QCod2 Z b kb vs h0 n0 _ s₁.heap _
    rw [e0]
    exact ⟨congrArg (fun z => some (Value.int z)) (by decide), N0, rfl⟩
theorem rmSv2_ef (m : MethodId) (x0 : Addr) (x1 : Addr) : entryFrame m #[(.ref x0), (.ref x1), (.int (0 : Int32)), (.int (2 : Int32)), .null] 6 = mkF m 0 #[.val (.ref x0), .val (.ref x1), .val (.int (0 : Int32)), .val (.int (2 : Int32)), .val .null, .unset] [] := by first | (simp [entryFrame, mkF, argsToLocals, Value.category]; done) | rfl
def QSv2 (Z : State) (ths : Addr) (a : Addr) (u : Value) (u' : Value) (ka : ClassId) (cs : Int32) (ch0 : Int32) (ch1 : Int32) (h0 : Heap) (n0 : Nat) (v : Option Value) (h : Heap) (L : List Loc) : Prop := v = none ∧ Fr n0 L ∧ Keep h0 h [ths] ∧ Exa Z h ths "java/lang/String" ∧ ∃ (b : Addr) (kb : ClassId), h0.size ≤ b ∧ Fld Z h ths "java/lang/String" "value" "[B" (.ref b) ∧ Fld Z h ths "java/lang/String" "coder" "B" (.int (0 : Int32)) ∧ Arv Z h b kb .byte (2 : Int32) [(.int (ch0.toInt8.toInt32)), (.int (ch1.toInt8.toInt32))] (.int (0 : Int32)) ∧ Exa Z h b "[B"
set_option maxRecDepth 65536 in
set_option maxHeartbeats 40000000 in
theorem rmSv2 (l : Launch) (Z : State) (a0 : Array Value) (hw : ∀ d ∈ tables_1, d.before a0 Z = true) (ws : List Jvm.Cond) (ths : Addr) (a : Addr) (u : Value) (u' : Value) (ka : ClassId) (cs : Int32) (ch0 : Int32) (ch1 : Int32) (h0 : Heap) (n0 : Nat) (Z0 : n0 ≤ h0.size) (Fv : Fld Z h0 ths "java/lang/String" "value" "[B" u) (Fc : Fld Z h0 ths "java/lang/String" "coder" "B" u') (Et : Exa Z h0 ths "java/lang/String") (g_t : n0 ≤ ths) (net : ths ≠ a) (Aa : Arv Z h0 a ka .char (2 : Int32) [(.int ch0), (.int ch1)] (.int (0 : Int32))) (SC : Sta Z h0 "java/lang/String" "COMPACT_STRINGS" "Z" (.int cs)) (hcs : ¬ (cs = (0 : Int32))) (hch0 : ¬ ((255 : Int32) < ch0)) (hch1 : ¬ ((255 : Int32) < ch1)) :
    MetFree l (⟨"java/lang/String", "<init>", "([CIILjava/lang/Void;)V"⟩ : MethodName) (head1 (Jvm.Cond.code (⟨"java/lang/String", "<init>", "([CIILjava/lang/Void;)V"⟩ : MethodName) jdk_42_method_149_code 6 none :: ws) ({ frames := 2, cells := 1, slots := 2, locals := 35 } : Room)) (fun aA' U => aA' = #[(.ref ths), (.ref a), (.int (0 : Int32)), (.int (2 : Int32)), .null] ∧ Z.Warmed39 U.vm ∧ U.heap = h0) (fun _ _ _ _ _ => True) (fun _ U oO' U' => ∃ vV' L, oO' = .returned vV' ∧ QSv2 Z ths a u u' ka cs ch0 ch1 h0 n0 vV' U'.heap L ∧ FrameEnd U oO' U' L ({ frames := 2, cells := 1, slots := 2, locals := 35 } : Room).cells ({ frames := 2, cells := 1, slots := 2, locals := 35 } : Room).slots) := by
  refine MetFree.of_bodySF (plainFor_of_name own_pn1) hisR ?_
  intro p e s m args below meth c s₁ Bd hml0 hP hK
  obtain ⟨rfl, hZ, hh⟩ := hP
  have hx := Bd.exec
  have hby := Bd.bytes
  have hml : c.maxLocals = 6 := hml0
  have hown : s.vm.findClass "java/lang/String" = some m.cls := findClass_of_methodNamed Bd.named
  have hnm := (name_of_methodNamed Bd.named Bd.method).1
  have X0 : Stand p l e ({ frames := 2, cells := 1, slots := 2, locals := 35 } : Room) s m #[(.ref ths), (.ref a), (.int (0 : Int32)), (.int (2 : Int32)), .null] below meth c s₁ [] 0 0 := Stand.of_body Bd
  have e0 : s₁.heap = h0 := by rw [← hh, Bd.state]; rfl
  have N0 := Fr.nil n0
  have K0 : Keep h0 h0 [ths] := Keep.refl _ _
  have k0 : ∀ t, Steps p.tables e below (s₁.setTop (mkF m 0 #[.val (.ref ths), .val (.ref a), .val (.int (0 : Int32)), .val (.int (2 : Int32)), .val .null, .unset] [])) t → Steps p.tables e below (s₁.setTop (entryFrame m #[(.ref ths), (.ref a), (.int (0 : Int32)), (.int (2 : Int32)), .null] 6)) t := fun t k => castTop (rmSv2_ef m (ths) (a)) k
  have k1 : ∀ t, Steps p.tables e below (s₁.setTop (mkF m 1 #[.val (.ref ths), .val (.ref a), .val (.int (0 : Int32)), .val (.int (2 : Int32)), .val .null, .unset] [(.ref ths)])) t → Steps p.tables e below (s₁.setTop (entryFrame m #[(.ref ths), (.ref a), (.int (0 : Int32)), (.int (2 : Int32)), .null] 6)) t := by
    intro t kt
    refine k0 t ?_
    show Steps p.tables e below (s₁.setTop (mkF m 0 #[.val (.ref ths), .val (.ref a), .val (.int (0 : Int32)), .val (.int (2 : Int32)), .val .null, .unset] [])) t
    refine XS.aloadN X0.here hx rfl (hb hby d3_0) rfl rfl ?_
    exact kt
  obtain ⟨T2, X2, e2, st2⟩ := initO X0 hx hZ hown (hw _ (List.mem_of_getElem? (i := 16) rfl)) (hw _ (List.mem_of_getElem? (i := 17) rfl)) (hw _ (List.mem_of_getElem? (i := 18) rfl)) e0 (g := (mkF m 1 #[.val (.ref ths), .val (.ref a), .val (.int (0 : Int32)), .val (.int (2 : Int32)), .val .null, .unset] [(.ref ths)])) rfl (by rw [hml]; rfl) rfl (hb hby d3_1) (by decide) (W := 0) (by show 2 * 0 + _ ≤ _; exact Nat.le_of_eq rfl) (by decide)
  have k3 : ∀ t, Steps p.tables e below (T2.setTop (mkF m 4 #[.val (.ref ths), .val (.ref a), .val (.int (0 : Int32)), .val (.int (2 : Int32)), .val .null, .unset] [])) t → Steps p.tables e below (s₁.setTop (entryFrame m #[(.ref ths), (.ref a), (.int (0 : Int32)), (.int (2 : Int32)), .null] 6)) t := fun t kt => k1 t (st2 t kt)
  have hc5_4 : ¬ ((2 : Int32) = (0 : Int32)) := by decide
  have k5 : ∀ t, Steps p.tables e below (T2.setTop (mkF m 27 #[.val (.ref ths), .val (.ref a), .val (.int (0 : Int32)), .val (.int (2 : Int32)), .val .null, .unset] [])) t → Steps p.tables e below (s₁.setTop (entryFrame m #[(.ref ths), (.ref a), (.int (0 : Int32)), (.int (2 : Int32)), .null] 6)) t := by
    intro t kt
    refine k3 t ?_
    show Steps p.tables e below (T2.setTop (mkF m 4 #[.val (.ref ths), .val (.ref a), .val (.int (0 : Int32)), .val (.int (2 : Int32)), .val .null, .unset] [])) t
    refine XS.iloadN X2.here hx rfl (hb hby d3_4) rfl ?_
    show Steps p.tables e below (T2.setTop (mkF m 5 #[.val (.ref ths), .val (.ref a), .val (.int (0 : Int32)), .val (.int (2 : Int32)), .val .null, .unset] [(.int (2 : Int32))])) t
    refine XS.ifYes X2.here hx rfl (pc0 := 5) (pc' := 27) rfl (hb hby d3_5) rfl ((if0 _ _).trans (feq hc5_4).2) (by decide) (by decide) ?_
    exact kt
  obtain ⟨T6, X6, e6, st6⟩ := getS2 X2 hx hZ hown (host := "") (Or.inl (hw _ (List.mem_of_getElem? (i := 19) rfl))) Via.refl e2 SC (g := (mkF m 27 #[.val (.ref ths), .val (.ref a), .val (.int (0 : Int32)), .val (.int (2 : Int32)), .val .null, .unset] [])) rfl (hb hby d3_27)
  have k7 : ∀ t, Steps p.tables e below (T6.setTop (mkF m 30 #[.val (.ref ths), .val (.ref a), .val (.int (0 : Int32)), .val (.int (2 : Int32)), .val .null, .unset] [(.int cs)])) t → Steps p.tables e below (s₁.setTop (entryFrame m #[(.ref ths), (.ref a), (.int (0 : Int32)), (.int (2 : Int32)), .null] 6)) t := fun t kt => k5 t (st6 t kt)
  have k9 : ∀ t, Steps p.tables e below (T6.setTop (mkF m 36 #[.val (.ref ths), .val (.ref a), .val (.int (0 : Int32)), .val (.int (2 : Int32)), .val .null, .unset] [(.int (2 : Int32)), (.int (0 : Int32)), (.ref a)])) t → Steps p.tables e below (s₁.setTop (entryFrame m #[(.ref ths), (.ref a), (.int (0 : Int32)), (.int (2 : Int32)), .null] 6)) t := by
    intro t kt
    refine k7 t ?_
    show Steps p.tables e below (T6.setTop (mkF m 30 #[.val (.ref ths), .val (.ref a), .val (.int (0 : Int32)), .val (.int (2 : Int32)), .val .null, .unset] [(.int cs)])) t
    refine XS.ifNo X6.here hx rfl (hb hby d3_30) rfl ((if0 _ _).trans (feq hcs).1) ?_
    show Steps p.tables e below (T6.setTop (mkF m 33 #[.val (.ref ths), .val (.ref a), .val (.int (0 : Int32)), .val (.int (2 : Int32)), .val .null, .unset] [])) t
    refine XS.aloadN X6.here hx rfl (hb hby d3_33) rfl rfl ?_
    show Steps p.tables e below (T6.setTop (mkF m 34 #[.val (.ref ths), .val (.ref a), .val (.int (0 : Int32)), .val (.int (2 : Int32)), .val .null, .unset] [(.ref a)])) t
    refine XS.iloadN X6.here hx rfl (hb hby d3_34) rfl ?_
    show Steps p.tables e below (T6.setTop (mkF m 35 #[.val (.ref ths), .val (.ref a), .val (.int (0 : Int32)), .val (.int (2 : Int32)), .val .null, .unset] [(.int (0 : Int32)), (.ref a)])) t
    refine XS.iloadN X6.here hx rfl (hb hby d3_35) rfl ?_
    exact kt
  obtain ⟨_, _, ⟨T10, L10, k10c, n10⟩, -, X10, ⟨Lc10, hQ10, l10, y10, z10⟩, st10⟩ := Jvm.LawKit.callS X6 hx (y := (⟨"java/lang/StringUTF16", "compress", "([CII)[B"⟩ : MethodName)) hown (mvT hZ (hw _ (List.mem_of_getElem? (i := 20) rfl))) (mvT hZ (hw _ (List.mem_of_getElem? (i := 21) rfl))) (mvT hZ (hw _ (List.mem_of_getElem? (i := 22) rfl))) (mvT hZ (hw _ (List.mem_of_getElem? (i := 23) rfl))) (by decide) (backOf (W := 0) (rmCps2 l Z a0 hw [] a ka ch0 ch1 h0 n0 Z0 Aa hch0 hch1) hZ (hw _ (List.mem_of_getElem? (i := 23) rfl)) (hw _ (List.mem_of_getElem? (i := 22) rfl)) (by decide) (by decide)) (g := (mkF m 36 #[.val (.ref ths), .val (.ref a), .val (.int (0 : Int32)), .val (.int (2 : Int32)), .val .null, .unset] [(.int (2 : Int32)), (.int (0 : Int32)), (.ref a)])) rfl (by rw [hml]; rfl) (argsL := [(.ref a), (.int (0 : Int32)), (.int (2 : Int32))]) (rest := []) (lenOf own_pd1 rfl) rfl (by show 2 * 0 + _ ≤ _; exact Nat.le_of_eq rfl) (hb hby d3_36) (fun _ _ => ⟨rfl, e6, (by decide : 0 + 1 ≤ _), (by decide : 0 + 2 ≤ _)⟩)
  dsimp only [Pt.U, Pt.locs, Pt.cells, Pt.slots] at X10 l10 y10 z10 st10 hQ10
  subst l10 y10 z10
  obtain ⟨b10, c10k, rfl, N10q, K10k, s10z, A10, Bx10⟩ := hQ10
  have N10 := Fr.app N0 N10q
  have g_b10 : n0 ≤ b10 := Nat.le_trans Z0 s10z
  have sz_b10 : h0.size ≤ b10 := Nat.le_trans K0.1 s10z
  have ne11 : ths ≠ b10 := Nat.ne_of_lt (Nat.lt_of_lt_of_le Fv.lt s10z)
  have ne12 : a ≠ b10 := Nat.ne_of_lt (Nat.lt_of_lt_of_le Aa.lt s10z)
  have F13 := Fv.keep K10k nin0
  have F14 := Fc.keep K10k nin0
  have F15 := Et.keep K10k
  have F16 := Aa.keep K10k nin0
  have Z18 : n0 ≤ T10.heap.size := Nat.le_trans Z0 K10k.1
  have K18 : Keep h0 T10.heap [ths] := K0.trans K10k all0
  have k19 : ∀ t, Steps p.tables e below (T10.setTop (mkF m 39 #[.val (.ref ths), .val (.ref a), .val (.int (0 : Int32)), .val (.int (2 : Int32)), .val .null, .unset] [(.ref b10)])) t → Steps p.tables e below (s₁.setTop (entryFrame m #[(.ref ths), (.ref a), (.int (0 : Int32)), (.int (2 : Int32)), .null] 6)) t := fun t kt => k9 t (st10 t kt)
  have k20 : ∀ t, Steps p.tables e below (T10.setTop (mkF m 45 #[.val (.ref ths), .val (.ref a), .val (.int (0 : Int32)), .val (.int (2 : Int32)), .val .null, .val (.ref b10)] [(.int (2 : Int32)), (.ref b10), (.ref ths)])) t → Steps p.tables e below (s₁.setTop (entryFrame m #[(.ref ths), (.ref a), (.int (0 : Int32)), (.int (2 : Int32)), .null] 6)) t := by
    intro t kt
    refine k19 t ?_
    show Steps p.tables e below (T10.setTop (mkF m 39 #[.val (.ref ths), .val (.ref a), .val (.int (0 : Int32)), .val (.int (2 : Int32)), .val .null, .unset] [(.ref b10)])) t
    refine XS.astore X10.here hx rfl (hb hby d3_39) rfl rfl (l' := #[.val (.ref ths), .val (.ref a), .val (.int (0 : Int32)), .val (.int (2 : Int32)), .val .null, .val (.ref b10)]) rfl ?_
    show Steps p.tables e below (T10.setTop (mkF m 41 #[.val (.ref ths), .val (.ref a), .val (.int (0 : Int32)), .val (.int (2 : Int32)), .val .null, .val (.ref b10)] [])) t
    refine XS.aloadN X10.here hx rfl (hb hby d3_41) rfl rfl ?_
    show Steps p.tables e below (T10.setTop (mkF m 42 #[.val (.ref ths), .val (.ref a), .val (.int (0 : Int32)), .val (.int (2 : Int32)), .val .null, .val (.ref b10)] [(.ref ths)])) t
    refine XS.aload X10.here hx rfl (hb hby d3_42) rfl rfl ?_
    show Steps p.tables e below (T10.setTop (mkF m 44 #[.val (.ref ths), .val (.ref a), .val (.int (0 : Int32)), .val (.int (2 : Int32)), .val .null, .val (.ref b10)] [(.ref b10), (.ref ths)])) t
    refine XS.iloadN X10.here hx rfl (hb hby d3_44) rfl ?_
    exact kt
  obtain ⟨_, _, ⟨T21, L21, k21c, n21⟩, -, X21, ⟨Lc21, hQ21, l21, y21, z21⟩, st21⟩ := Jvm.LawKit.callS X10 hx (y := (⟨"java/lang/StringUTF16", "coderFromArrayLen", "([BI)B"⟩ : MethodName)) hown (mvT hZ (hw _ (List.mem_of_getElem? (i := 28) rfl))) (mvT hZ (hw _ (List.mem_of_getElem? (i := 29) rfl))) (mvT hZ (hw _ (List.mem_of_getElem? (i := 22) rfl))) (mvT hZ (hw _ (List.mem_of_getElem? (i := 30) rfl))) (by decide) (backOf (W := 1) (rmCod2 l Z a0 hw [] b10 c10k [(.int (ch0.toInt8.toInt32)), (.int (ch1.toInt8.toInt32))] T10.heap n0 Z18 A10) hZ (hw _ (List.mem_of_getElem? (i := 30) rfl)) (hw _ (List.mem_of_getElem? (i := 22) rfl)) (by decide) (by decide)) (g := (mkF m 45 #[.val (.ref ths), .val (.ref a), .val (.int (0 : Int32)), .val (.int (2 : Int32)), .val .null, .val (.ref b10)] [(.int (2 : Int32)), (.ref b10), (.ref ths)])) rfl (by rw [hml]; rfl) (argsL := [(.ref b10), (.int (2 : Int32))]) (rest := [(.ref ths)]) (lenOf own_pd2 rfl) rfl (by show 2 * 0 + _ ≤ _; exact Nat.le_of_eq rfl) (hb hby d3_45) (fun _ _ => ⟨rfl, rfl, (by decide : 1 + 0 ≤ _), (by decide : 2 + 0 ≤ _)⟩)
  dsimp only [Pt.U, Pt.locs, Pt.cells, Pt.slots] at X21 l21 y21 z21 st21 hQ21
  subst l21 y21 z21
  obtain ⟨rfl, N21q, e21⟩ := hQ21
  have N21 := Fr.app N10 N21q
  have k22 : ∀ t, Steps p.tables e below (T21.setTop (mkF m 48 #[.val (.ref ths), .val (.ref a), .val (.int (0 : Int32)), .val (.int (2 : Int32)), .val .null, .val (.ref b10)] [(.int (0 : Int32)), (.ref ths)])) t → Steps p.tables e below (s₁.setTop (entryFrame m #[(.ref ths), (.ref a), (.int (0 : Int32)), (.int (2 : Int32)), .null] 6)) t := fun t kt => k20 t (st21 t kt)
  obtain ⟨T23, h23, X23, e23, W23, st23⟩ := putFN X21 hx hZ hown (hw _ (List.mem_of_getElem? (i := 31) rfl)) Via.refl e21 F14 F15 (Or.inr ⟨(hw _ (List.mem_of_getElem? (i := 32) rfl)), rfl, hnm⟩) (hw _ (List.mem_of_getElem? (i := 6) rfl)) (ty := .byte) (v' := (.int (0 : Int32))) (by decide) rfl (by decide) (g := (mkF m 48 #[.val (.ref ths), .val (.ref a), .val (.int (0 : Int32)), .val (.int (2 : Int32)), .val .null, .val (.ref b10)] [(.int (0 : Int32)), (.ref ths)])) rfl rfl (hb hby d3_48)
  have F24 := F13.other W23 (Or.inr (slot_ne (Or.inr (hw _ (List.mem_of_getElem? (i := 34) rfl))) (Or.inr (hw _ (List.mem_of_getElem? (i := 32) rfl))) (by decide) (t := (.array .byte)) (t' := .byte) (by decide) (by decide)))
  have F25 := F14.same W23
  have F26 := F15.wr W23
  have F27 := F16.other W23 (Ne.symm net)
  have F28 := A10.other W23 (Ne.symm ne11)
  have F29 := Bx10.wr W23
  have Z23 : n0 ≤ h23.size := Nat.le_trans Z18 (Keep.of_wr W23).1
  have K23 : Keep h0 h23 [ths] := K18.wr W23 (Or.inl (List.mem_of_getElem? (i := 0) rfl))
  have N23 := Fr.snoc X23 N21 g_t
  have k30 : ∀ t, Steps p.tables e below (T23.setTop (mkF m 51 #[.val (.ref ths), .val (.ref a), .val (.int (0 : Int32)), .val (.int (2 : Int32)), .val .null, .val (.ref b10)] [])) t → Steps p.tables e below (s₁.setTop (entryFrame m #[(.ref ths), (.ref a), (.int (0 : Int32)), (.int (2 : Int32)), .null] 6)) t := fun t kt => k22 t (st23 t kt)
  have k31 : ∀ t, Steps p.tables e below (T23.setTop (mkF m 54 #[.val (.ref ths), .val (.ref a), .val (.int (0 : Int32)), .val (.int (2 : Int32)), .val .null, .val (.ref b10)] [(.ref b10), (.ref ths)])) t → Steps p.tables e below (s₁.setTop (entryFrame m #[(.ref ths), (.ref a), (.int (0 : Int32)), (.int (2 : Int32)), .null] 6)) t := by
    intro t kt
    refine k30 t ?_
    show Steps p.tables e below (T23.setTop (mkF m 51 #[.val (.ref ths), .val (.ref a), .val (.int (0 : Int32)), .val (.int (2 : Int32)), .val .null, .val (.ref b10)] [])) t
    refine XS.aloadN X23.here hx rfl (hb hby d3_51) rfl rfl ?_
    show Steps p.tables e below (T23.setTop (mkF m 52 #[.val (.ref ths), .val (.ref a), .val (.int (0 : Int32)), .val (.int (2 : Int32)), .val .null, .val (.ref b10)] [(.ref ths)])) t
    refine XS.aload X23.here hx rfl (hb hby d3_52) rfl rfl ?_
    exact kt
  obtain ⟨T32, h32, X32, e32, W32, st32⟩ := putF X23 hx hZ hown (host := "") (Or.inl (hw _ (List.mem_of_getElem? (i := 33) rfl))) Via.refl e23 F24 F26 (Or.inr ⟨(hw _ (List.mem_of_getElem? (i := 34) rfl)), rfl, hnm⟩) (hw _ (List.mem_of_getElem? (i := 6) rfl)) (ty := (.array .byte)) (by decide) rfl rfl (g := (mkF m 54 #[.val (.ref ths), .val (.ref a), .val (.int (0 : Int32)), .val (.int (2 : Int32)), .val .null, .val (.ref b10)] [(.ref b10), (.ref ths)])) rfl rfl (hb hby d3_54)
  have F33 := F24.same W32
  have F34 := F25.other W32 (Or.inr (slot_ne (Or.inr (hw _ (List.mem_of_getElem? (i := 32) rfl))) (Or.inr (hw _ (List.mem_of_getElem? (i := 34) rfl))) (by decide) (t := .byte) (t' := (.array .byte)) (by decide) (by decide)))
  have F35 := F26.wr W32
  have F36 := F27.other W32 (Ne.symm net)
  have F37 := F28.other W32 (Ne.symm ne11)
  have F38 := F29.wr W32
  have Z32 : n0 ≤ h32.size := Nat.le_trans Z23 (Keep.of_wr W32).1
  have K32 : Keep h0 h32 [ths] := K23.wr W32 (Or.inl (List.mem_of_getElem? (i := 0) rfl))
  have N32 := Fr.snoc X32 N23 g_t
  have k39 : ∀ t, Steps p.tables e below (T32.setTop (mkF m 57 #[.val (.ref ths), .val (.ref a), .val (.int (0 : Int32)), .val (.int (2 : Int32)), .val .null, .val (.ref b10)] [])) t → Steps p.tables e below (s₁.setTop (entryFrame m #[(.ref ths), (.ref a), (.int (0 : Int32)), (.int (2 : Int32)), .null] 6)) t := fun t kt => k31 t (st32 t kt)
  obtain ⟨fs, hr, hrun, hended, hW, hsame⟩ := X32.leave (v := none) (fun _ => rfl)
  refine ⟨_, _, k39 _ ?_, hrun, hended, _, _, rfl, ?_, ⟨_, rfl⟩, hW, hsame.mono (by decide) (by decide)⟩
  · show Steps p.tables e below (T32.setTop (mkF m 57 #[.val (.ref ths), .val (.ref a), .val (.int (0 : Int32)), .val (.int (2 : Int32)), .val .null, .val (.ref b10)] [])) _
    exact X32.returnOut hx Bd.returns (hb hby d3_57) hr
  · show QSv2 Z ths a u u' ka cs ch0 ch1 h0 n0 _ T32.heap _
    rw [e32]
    exact ⟨rfl, N32, K32, F35, b10, c10k, sz_b10, F33, F34, F37, F38⟩
theorem rmSi2_ef (m : MethodId) (x0 : Addr) (x1 : Addr) : entryFrame m #[(.ref x0), (.ref x1)] 2 = mkF m 0 #[.val (.ref x0), .val (.ref x1)] [] := by first | (simp [entryFrame, mkF, argsToLocals, Value.category]; done) | rfl
def QSi2 (Z : State) (ths : Addr) (a : Addr) (u : Value) (u' : Value) (ka : ClassId) (cs : Int32) (ch0 : Int32) (ch1 : Int32) (h0 : Heap) (n0 : Nat) (v : Option Value) (h : Heap) (L : List Loc) : Prop := v = none ∧ Fr n0 L ∧ Keep h0 h [ths] ∧ Exa Z h ths "java/lang/String" ∧ ∃ (b : Addr) (kb : ClassId), h0.size ≤ b ∧ Fld Z h ths "java/lang/String" "value" "[B" (.ref b) ∧ Fld Z h ths "java/lang/String" "coder" "B" (.int (0 : Int32)) ∧ Arv Z h b kb .byte (2 : Int32) [(.int (ch0.toInt8.toInt32)), (.int (ch1.toInt8.toInt32))] (.int (0 : Int32)) ∧ Exa Z h b "[B"
set_option maxRecDepth 65536 in
set_option maxHeartbeats 40000000 in
theorem rmSi2 (l : Launch) (Z : State) (a0 : Array Value) (hw : ∀ d ∈ tables_1, d.before a0 Z = true) (ws : List Jvm.Cond) (ths : Addr) (a : Addr) (u : Value) (u' : Value) (ka : ClassId) (cs : Int32) (ch0 : Int32) (ch1 : Int32) (h0 : Heap) (n0 : Nat) (Z0 : n0 ≤ h0.size) (Fv : Fld Z h0 ths "java/lang/String" "value" "[B" u) (Fc : Fld Z h0 ths "java/lang/String" "coder" "B" u') (Et : Exa Z h0 ths "java/lang/String") (g_t : n0 ≤ ths) (net : ths ≠ a) (Aa : Arv Z h0 a ka .char (2 : Int32) [(.int ch0), (.int ch1)] (.int (0 : Int32))) (SC : Sta Z h0 "java/lang/String" "COMPACT_STRINGS" "Z" (.int cs)) (hcs : ¬ (cs = (0 : Int32))) (hch0 : ¬ ((255 : Int32) < ch0)) (hch1 : ¬ ((255 : Int32) < ch1)) :
    MetFree l (⟨"java/lang/String", "<init>", "([C)V"⟩ : MethodName) (head1 (Jvm.Cond.code (⟨"java/lang/String", "<init>", "([C)V"⟩ : MethodName) jdk_42_method_3_code 2 none :: ws) ({ frames := 3, cells := 1, slots := 2, locals := 52 } : Room)) (fun aA' U => aA' = #[(.ref ths), (.ref a)] ∧ Z.Warmed39 U.vm ∧ U.heap = h0) (fun _ _ _ _ _ => True) (fun _ U oO' U' => ∃ vV' L, oO' = .returned vV' ∧ QSi2 Z ths a u u' ka cs ch0 ch1 h0 n0 vV' U'.heap L ∧ FrameEnd U oO' U' L ({ frames := 3, cells := 1, slots := 2, locals := 52 } : Room).cells ({ frames := 3, cells := 1, slots := 2, locals := 52 } : Room).slots) := by
  refine MetFree.of_bodySF (plainFor_of_name own_pn1) hisR ?_
  intro p e s m args below meth c s₁ Bd hml0 hP hK
  obtain ⟨rfl, hZ, hh⟩ := hP
  have hx := Bd.exec
  have hby := Bd.bytes
  have hml : c.maxLocals = 2 := hml0
  have hown : s.vm.findClass "java/lang/String" = some m.cls := findClass_of_methodNamed Bd.named
  have hnm := (name_of_methodNamed Bd.named Bd.method).1
  have X0 : Stand p l e ({ frames := 3, cells := 1, slots := 2, locals := 52 } : Room) s m #[(.ref ths), (.ref a)] below meth c s₁ [] 0 0 := Stand.of_body Bd
  have e0 : s₁.heap = h0 := by rw [← hh, Bd.state]; rfl
  have N0 := Fr.nil n0
  have K0 : Keep h0 h0 [ths] := Keep.refl _ _
  have k0 : ∀ t, Steps p.tables e below (s₁.setTop (mkF m 0 #[.val (.ref ths), .val (.ref a)] [])) t → Steps p.tables e below (s₁.setTop (entryFrame m #[(.ref ths), (.ref a)] 2)) t := fun t k => castTop (rmSi2_ef m (ths) (a)) k
  have k1 : ∀ t, Steps p.tables e below (s₁.setTop (mkF m 4 #[.val (.ref ths), .val (.ref a)] [(.ref a), (.int (0 : Int32)), (.ref a), (.ref ths)])) t → Steps p.tables e below (s₁.setTop (entryFrame m #[(.ref ths), (.ref a)] 2)) t := by
    intro t kt
    refine k0 t ?_
    show Steps p.tables e below (s₁.setTop (mkF m 0 #[.val (.ref ths), .val (.ref a)] [])) t
    refine XS.aloadN X0.here hx rfl (hb hby d2_0) rfl rfl ?_
    show Steps p.tables e below (s₁.setTop (mkF m 1 #[.val (.ref ths), .val (.ref a)] [(.ref ths)])) t
    refine XS.aloadN X0.here hx rfl (hb hby d2_1) rfl rfl ?_
    show Steps p.tables e below (s₁.setTop (mkF m 2 #[.val (.ref ths), .val (.ref a)] [(.ref a), (.ref ths)])) t
    refine XS.iconst X0.here hx rfl (hb hby d2_2) ?_
    show Steps p.tables e below (s₁.setTop (mkF m 3 #[.val (.ref ths), .val (.ref a)] [(.int (0 : Int32)), (.ref a), (.ref ths)])) t
    refine XS.aloadN X0.here hx rfl (hb hby d2_3) rfl rfl ?_
    exact kt
  obtain ⟨cl2, Ar2, -, S2, M2, -, -⟩ := id Aa
  have k3 : ∀ t, Steps p.tables e below (s₁.setTop (mkF m 5 #[.val (.ref ths), .val (.ref a)] [(.int (2 : Int32)), (.int (0 : Int32)), (.ref a), (.ref ths)])) t → Steps p.tables e below (s₁.setTop (entryFrame m #[(.ref ths), (.ref a)] 2)) t := fun t kt => k1 t (X0.arraylength hx (by rw [e0]; exact Ar2.1) (State.isArrayOf_alike hZ.alike Ar2.2.1) (g := (mkF m 4 #[.val (.ref ths), .val (.ref a)] [(.ref a), (.int (0 : Int32)), (.ref a), (.ref ths)])) rfl rfl (hb hby d2_4) t (by rw [len_of S2 M2]; exact kt))
  have k4 : ∀ t, Steps p.tables e below (s₁.setTop (mkF m 6 #[.val (.ref ths), .val (.ref a)] [.null, (.int (2 : Int32)), (.int (0 : Int32)), (.ref a), (.ref ths)])) t → Steps p.tables e below (s₁.setTop (entryFrame m #[(.ref ths), (.ref a)] 2)) t := by
    intro t kt
    refine k3 t ?_
    show Steps p.tables e below (s₁.setTop (mkF m 5 #[.val (.ref ths), .val (.ref a)] [(.int (2 : Int32)), (.int (0 : Int32)), (.ref a), (.ref ths)])) t
    refine XS.aconstNull X0.here hx rfl (hb hby d2_5) ?_
    exact kt
  obtain ⟨_, _, ⟨T5, L5, k5c, n5⟩, -, X5, ⟨Lc5, hQ5, l5, y5, z5⟩, st5⟩ := X0.specialBack hx (y := (⟨"java/lang/String", "<init>", "([CIILjava/lang/Void;)V"⟩ : MethodName)) rfl hown (mvT hZ (hw _ (List.mem_of_getElem? (i := 12) rfl))) (mvT hZ (hw _ (List.mem_of_getElem? (i := 13) rfl))) (mvT hZ (hw _ (List.mem_of_getElem? (i := 15) rfl))) (by decide) (backOf (W := 0) (rmSv2 l Z a0 hw [] ths a u u' ka cs ch0 ch1 h0 n0 Z0 Fv Fc Et g_t net Aa SC hcs hch0 hch1) hZ (hw _ (List.mem_of_getElem? (i := 15) rfl)) (hw _ (List.mem_of_getElem? (i := 7) rfl)) (by decide) (by decide)) (g := (mkF m 6 #[.val (.ref ths), .val (.ref a)] [.null, (.int (2 : Int32)), (.int (0 : Int32)), (.ref a), (.ref ths)])) rfl (by rw [hml]; rfl) (Steps.refl _) (a := ths) (argsL := [(.ref a), (.int (0 : Int32)), (.int (2 : Int32)), .null]) (rest := []) (lenOf own_pd3 rfl) rfl (by show 2 * 0 + _ ≤ _; exact Nat.le_of_eq rfl) (hb hby d2_6) (fun _ _ => ⟨rfl, e0, (by decide : 0 + 1 ≤ _), (by decide : 0 + 2 ≤ _)⟩)
  dsimp only [Pt.U, Pt.locs, Pt.cells, Pt.slots] at X5 l5 y5 z5 st5 hQ5
  subst l5 y5 z5
  obtain ⟨rfl, N5q, K5k, E5t, b5, c5k, s5z, Fv5, Fc5, A5, Bx5⟩ := hQ5
  have N5 := Fr.app N0 N5q
  have g_b5 : n0 ≤ b5 := Nat.le_trans Z0 s5z
  have sz_b5 : h0.size ≤ b5 := Nat.le_trans K0.1 s5z
  have ne6 : ths ≠ b5 := Nat.ne_of_lt (Nat.lt_of_lt_of_le Fv.lt s5z)
  have ne7 : a ≠ b5 := Nat.ne_of_lt (Nat.lt_of_lt_of_le Aa.lt s5z)
  have F10 := Et.keep K5k
  have F11 := Aa.keep K5k (ninS (Ne.symm net) nin0)
  have Z13 : n0 ≤ T5.heap.size := Nat.le_trans Z0 K5k.1
  have K13 : Keep h0 T5.heap [ths] := K0.trans K5k (allS (Or.inl (List.mem_of_getElem? (i := 0) rfl)) all0)
  have k14 : ∀ t, Steps p.tables e below (T5.setTop (mkF m 9 #[.val (.ref ths), .val (.ref a)] [])) t → Steps p.tables e below (s₁.setTop (entryFrame m #[(.ref ths), (.ref a)] 2)) t := fun t kt => k4 t (st5.trans kt)
  obtain ⟨fs, hr, hrun, hended, hW, hsame⟩ := X5.leave (v := none) (fun _ => rfl)
  refine ⟨_, _, k14 _ ?_, hrun, hended, _, _, rfl, ?_, ⟨_, rfl⟩, hW, hsame.mono (by decide) (by decide)⟩
  · show Steps p.tables e below (T5.setTop (mkF m 9 #[.val (.ref ths), .val (.ref a)] [])) _
    exact X5.returnOut hx Bd.returns (hb hby d2_9) hr
  · show QSi2 Z ths a u u' ka cs ch0 ch1 h0 n0 _ T5.heap _
    exact ⟨rfl, N5, K13, F10, b5, c5k, sz_b5, Fv5, Fc5, A5, Bx5⟩
theorem rmSe4_ef (m : MethodId) (x0 : Addr) (x1 : Addr) : entryFrame m #[(.ref x0), (.ref x1), (.int (0 : Int32)), (.int (0 : Int32)), .null] 6 = mkF m 0 #[.val (.ref x0), .val (.ref x1), .val (.int (0 : Int32)), .val (.int (0 : Int32)), .val .null, .unset] [] := by first | (simp [entryFrame, mkF, argsToLocals, Value.category]; done) | rfl
def QSe4 (Z : State) (ths : Addr) (a : Addr) (u : Value) (u' : Value) (ka : ClassId) (cs : Int32) (h0 : Heap) (n0 : Nat) (v : Option Value) (h : Heap) (L : List Loc) : Prop := v = none ∧ Fr n0 L ∧ Keep h0 h [ths] ∧ Exa Z h ths "java/lang/String" ∧ ∃ (b : Addr) (kb : ClassId), Fld Z h ths "java/lang/String" "value" "[B" (.ref b) ∧ Fld Z h ths "java/lang/String" "coder" "B" (.int (0 : Int32)) ∧ Arv Z h b kb .byte (0 : Int32) [] (.int (0 : Int32)) ∧ Exa Z h b "[B"
set_option maxRecDepth 65536 in
set_option maxHeartbeats 40000000 in
theorem rmSe4 (l : Launch) (Z : State) (a0 : Array Value) (hw : ∀ d ∈ tables_1, d.before a0 Z = true) (ws : List Jvm.Cond) (ths : Addr) (a : Addr) (u : Value) (u' : Value) (ka : ClassId) (cs : Int32) (h0 : Heap) (n0 : Nat) (Z0 : n0 ≤ h0.size) (Fv : Fld Z h0 ths "java/lang/String" "value" "[B" u) (Fc : Fld Z h0 ths "java/lang/String" "coder" "B" u') (Et : Exa Z h0 ths "java/lang/String") (g_t : n0 ≤ ths) :
    MetFree l (⟨"java/lang/String", "<init>", "([CIILjava/lang/Void;)V"⟩ : MethodName) (head1 (Jvm.Cond.code (⟨"java/lang/String", "<init>", "([CIILjava/lang/Void;)V"⟩ : MethodName) jdk_42_method_149_code 6 none :: ws) ({ frames := 1, cells := 2, slots := 4, locals := 12 } : Room)) (fun aA' U => aA' = #[(.ref ths), (.ref a), (.int (0 : Int32)), (.int (0 : Int32)), .null] ∧ Z.Warmed39 U.vm ∧ U.heap = h0 ∧ CHv Z own_EL U.vm h0 ∧ ∀ xX' ∈ ([ths] : List Addr), Safe Z own_EL U.vm h0 xX') (fun _ _ _ _ _ => True) (fun _ U oO' U' => ∃ vV' L, oO' = .returned vV' ∧ QSe4 Z ths a u u' ka cs h0 n0 vV' U'.heap L ∧ CHr Z own_EL U.vm U.heap U'.vm U'.heap ∧ ReturnedEndW U oO' U' L ({ frames := 1, cells := 2, slots := 4, locals := 12 } : Room).cells ({ frames := 1, cells := 2, slots := 4, locals := 12 } : Room).slots) := by
  refine MetFree.of_bodySF (plainFor_of_name own_pn1) hisR ?_
  intro p e s m args below meth c s₁ Bd hml0 hP hK
  obtain ⟨rfl, hZ, hh, hC0, hSf⟩ := hP
  have hx := Bd.exec
  have hby := Bd.bytes
  have hml : c.maxLocals = 6 := hml0
  have hown : s.vm.findClass "java/lang/String" = some m.cls := findClass_of_methodNamed Bd.named
  have hnm := (name_of_methodNamed Bd.named Bd.method).1
  have X0 : Stand p l e ({ frames := 1, cells := 2, slots := 4, locals := 12 } : Room) (s.setVm s.vm) m #[(.ref ths), (.ref a), (.int (0 : Int32)), (.int (0 : Int32)), .null] below meth c s₁ [] 0 0 := Stand.of_body Bd
  have e0 : s₁.heap = h0 := by rw [← hh, Bd.state]; rfl
  have N0 := Fr.nil n0
  have K0 : Keep h0 h0 [ths] := Keep.refl _ _
  have k0 : ∀ t, Steps p.tables e below (s₁.setTop (mkF m 0 #[.val (.ref ths), .val (.ref a), .val (.int (0 : Int32)), .val (.int (0 : Int32)), .val .null, .unset] [])) t → Steps p.tables e below (s₁.setTop (entryFrame m #[(.ref ths), (.ref a), (.int (0 : Int32)), (.int (0 : Int32)), .null] 6)) t := fun t k => castTop (rmSe4_ef m (ths) (a)) k
  have C0 : CHr Z own_EL s.vm h0 s.vm h0 := CHr.refl hC0
  have hS0 : s.Since s.vm 0 := (State.WarmedH.refl s).since 0
  have hk0 : 0 ≤ h0.size := Nat.zero_le _
  have hEL := own_EW hw
  have S_ths : Safe Z own_EL s.vm h0 ths := hSf _ (List.mem_of_getElem? (i := 0) rfl)
  have k1 : ∀ t, Steps p.tables e below (s₁.setTop (mkF m 1 #[.val (.ref ths), .val (.ref a), .val (.int (0 : Int32)), .val (.int (0 : Int32)), .val .null, .unset] [(.ref ths)])) t → Steps p.tables e below (s₁.setTop (entryFrame m #[(.ref ths), (.ref a), (.int (0 : Int32)), (.int (0 : Int32)), .null] 6)) t := by
    intro t kt
    refine k0 t ?_
    show Steps p.tables e below (s₁.setTop (mkF m 0 #[.val (.ref ths), .val (.ref a), .val (.int (0 : Int32)), .val (.int (0 : Int32)), .val .null, .unset] [])) t
    refine XS.aloadN X0.here hx rfl (hb hby d3_0) rfl rfl ?_
    exact kt
  obtain ⟨T2, X2, e2, st2⟩ := initO X0 hx hZ hown (hw _ (List.mem_of_getElem? (i := 16) rfl)) (hw _ (List.mem_of_getElem? (i := 17) rfl)) (hw _ (List.mem_of_getElem? (i := 18) rfl)) e0 (g := (mkF m 1 #[.val (.ref ths), .val (.ref a), .val (.int (0 : Int32)), .val (.int (0 : Int32)), .val .null, .unset] [(.ref ths)])) rfl (by rw [hml]; rfl) rfl (hb hby d3_1) (by decide) (W := 0) (by show 2 * 0 + _ ≤ _; exact Nat.le_of_eq rfl) (by decide)
  have k3 : ∀ t, Steps p.tables e below (T2.setTop (mkF m 4 #[.val (.ref ths), .val (.ref a), .val (.int (0 : Int32)), .val (.int (0 : Int32)), .val .null, .unset] [])) t → Steps p.tables e below (s₁.setTop (entryFrame m #[(.ref ths), (.ref a), (.int (0 : Int32)), (.int (0 : Int32)), .null] 6)) t := fun t kt => k1 t (st2 t kt)
  have k5 : ∀ t, Steps p.tables e below (T2.setTop (mkF m 5 #[.val (.ref ths), .val (.ref a), .val (.int (0 : Int32)), .val (.int (0 : Int32)), .val .null, .unset] [(.int (0 : Int32))])) t → Steps p.tables e below (s₁.setTop (entryFrame m #[(.ref ths), (.ref a), (.int (0 : Int32)), (.int (0 : Int32)), .null] 6)) t := by
    intro t kt
    refine k3 t ?_
    show Steps p.tables e below (T2.setTop (mkF m 4 #[.val (.ref ths), .val (.ref a), .val (.int (0 : Int32)), .val (.int (0 : Int32)), .val .null, .unset] [])) t
    refine XS.iloadN X2.here hx rfl (hb hby d3_4) rfl ?_
    exact kt
  have hc5_4 : (0 : Int32) = (0 : Int32) := rfl
  have k6 : ∀ t, Steps p.tables e below (T2.setTop (mkF m 9 #[.val (.ref ths), .val (.ref a), .val (.int (0 : Int32)), .val (.int (0 : Int32)), .val .null, .unset] [(.ref ths)])) t → Steps p.tables e below (s₁.setTop (entryFrame m #[(.ref ths), (.ref a), (.int (0 : Int32)), (.int (0 : Int32)), .null] 6)) t := by
    intro t kt
    refine k5 t ?_
    show Steps p.tables e below (T2.setTop (mkF m 5 #[.val (.ref ths), .val (.ref a), .val (.int (0 : Int32)), .val (.int (0 : Int32)), .val .null, .unset] [(.int (0 : Int32))])) t
    refine XS.ifNo X2.here hx rfl (hb hby d3_5) rfl ((if0 _ _).trans (teq hc5_4).2) ?_
    show Steps p.tables e below (T2.setTop (mkF m 8 #[.val (.ref ths), .val (.ref a), .val (.int (0 : Int32)), .val (.int (0 : Int32)), .val .null, .unset] [])) t
    refine XS.aloadN X2.here hx rfl (hb hby d3_8) rfl rfl ?_
    exact kt
  obtain ⟨a7, T7, h7, j7, b7, c7, X7, e7, E7, hS7, hk7, hZ7, hown7, A7, Fc7, Fv7, V7, la7, lb7, Cn7, Li7, sf7, st7⟩ := ldcCH (s := s) (vm0 := s.vm) X2 hx hZ hown (hw _ (List.mem_of_getElem? (i := 109) rfl)) (own_wS hw) e2 hS0 hk0 hEL (List.mem_of_getElem? (i := 1) rfl) C0.1 (vs := []) (z := (0 : Int32)) ⟨by decide, by decide⟩ (by decide) rfl (g := (mkF m 9 #[.val (.ref ths), .val (.ref a), .val (.int (0 : Int32)), .val (.int (0 : Int32)), .val .null, .unset] [(.ref ths)])) rfl (hb hby d3_9) (n := 0) (by decide) (by decide) (by decide) (by decide)
  have F8 := CHr.safe Cn7 Et.lt S_ths
  have C9 := CHr.trans C0 Cn7
  have F10 := Fv.ext E7
  have F11 := Fc.ext E7
  have F12 := Et.ext E7
  have Z7 : n0 ≤ h7.size := Nat.le_trans Z0 E7.1
  have K7 : Keep h0 h7 [ths] := K0.ext E7
  have Bx7 := own_litB hZ7 Cn7.1 (List.mem_of_getElem? (i := 1) rfl) (hw _ (List.mem_of_getElem? (i := 109) rfl)) Li7 Fv7
  have k13 : ∀ t, Steps p.tables e below (T7.setTop (mkF m 11 #[.val (.ref ths), .val (.ref a), .val (.int (0 : Int32)), .val (.int (0 : Int32)), .val .null, .unset] [(.ref a7), (.ref ths)])) t → Steps p.tables e below (s₁.setTop (entryFrame m #[(.ref ths), (.ref a), (.int (0 : Int32)), (.int (0 : Int32)), .null] 6)) t := fun t kt => k6 t (st7 t kt)
  obtain ⟨T14, X14, e14, st14⟩ := getF X7 hx hZ7 hown7 (host := "") (Or.inl (hw _ (List.mem_of_getElem? (i := 33) rfl))) Via.refl e7 Fv7 (g := (mkF m 11 #[.val (.ref ths), .val (.ref a), .val (.int (0 : Int32)), .val (.int (0 : Int32)), .val .null, .unset] [(.ref a7), (.ref ths)])) rfl rfl (hb hby d3_11)
  have k15 : ∀ t, Steps p.tables e below (T14.setTop (mkF m 14 #[.val (.ref ths), .val (.ref a), .val (.int (0 : Int32)), .val (.int (0 : Int32)), .val .null, .unset] [(.ref b7), (.ref ths)])) t → Steps p.tables e below (s₁.setTop (entryFrame m #[(.ref ths), (.ref a), (.int (0 : Int32)), (.int (0 : Int32)), .null] 6)) t := fun t kt => k13 t (st14 t kt)
  obtain ⟨T16, h16, X16, e16, W16, st16⟩ := putF X14 hx hZ7 hown7 (host := "") (Or.inl (hw _ (List.mem_of_getElem? (i := 33) rfl))) Via.refl e14 F10 F12 (Or.inr ⟨(hw _ (List.mem_of_getElem? (i := 34) rfl)), rfl, hnm⟩) (hw _ (List.mem_of_getElem? (i := 6) rfl)) (ty := (.array .byte)) (by decide) rfl rfl (g := (mkF m 14 #[.val (.ref ths), .val (.ref a), .val (.int (0 : Int32)), .val (.int (0 : Int32)), .val .null, .unset] [(.ref b7), (.ref ths)])) rfl rfl (hb hby d3_14)
  have F17 := Safe.wr W16 F8 C9.1 F8
  have C18 := CHr.trans C9 (CHr.wr W16 F8 C9.1)
  have F19 := F10.same W16
  have F20 := F11.other W16 (Or.inr (slot_ne (Or.inr (hw _ (List.mem_of_getElem? (i := 32) rfl))) (Or.inr (hw _ (List.mem_of_getElem? (i := 34) rfl))) (by decide) (t := .byte) (t' := (.array .byte)) (by decide) (by decide)))
  have F21 := F12.wr W16
  have F22 := A7.wr W16
  have F23 := Fc7.other W16 (Or.inl (Ne.symm (sf7 _ F8).1))
  have F24 := Fv7.other W16 (Or.inl (Ne.symm (sf7 _ F8).1))
  have F25 := V7.other W16 (Ne.symm (sf7 _ F8).2)
  have F26 := Bx7.wr W16
  have hk_27 := Nat.le_trans hk7 (Keep.of_wr W16).1
  have Z16 : n0 ≤ h16.size := Nat.le_trans Z7 (Keep.of_wr W16).1
  have K16 : Keep h0 h16 [ths] := K7.wr W16 (Or.inl (List.mem_of_getElem? (i := 0) rfl))
  have N16 := Fr.snoc X16 N0 g_t
  have k28 : ∀ t, Steps p.tables e below (T16.setTop (mkF m 17 #[.val (.ref ths), .val (.ref a), .val (.int (0 : Int32)), .val (.int (0 : Int32)), .val .null, .unset] [])) t → Steps p.tables e below (s₁.setTop (entryFrame m #[(.ref ths), (.ref a), (.int (0 : Int32)), (.int (0 : Int32)), .null] 6)) t := fun t kt => k15 t (st16 t kt)
  have k29 : ∀ t, Steps p.tables e below (T16.setTop (mkF m 18 #[.val (.ref ths), .val (.ref a), .val (.int (0 : Int32)), .val (.int (0 : Int32)), .val .null, .unset] [(.ref ths)])) t → Steps p.tables e below (s₁.setTop (entryFrame m #[(.ref ths), (.ref a), (.int (0 : Int32)), (.int (0 : Int32)), .null] 6)) t := by
    intro t kt
    refine k28 t ?_
    show Steps p.tables e below (T16.setTop (mkF m 17 #[.val (.ref ths), .val (.ref a), .val (.int (0 : Int32)), .val (.int (0 : Int32)), .val .null, .unset] [])) t
    refine XS.aloadN X16.here hx rfl (hb hby d3_17) rfl rfl ?_
    exact kt
  have k31 : ∀ t, Steps p.tables e below (T16.setTop (mkF m 20 #[.val (.ref ths), .val (.ref a), .val (.int (0 : Int32)), .val (.int (0 : Int32)), .val .null, .unset] [(.ref a7), (.ref ths)])) t → Steps p.tables e below (s₁.setTop (entryFrame m #[(.ref ths), (.ref a), (.int (0 : Int32)), (.int (0 : Int32)), .null] 6)) t := fun t kt => k29 t (ldcAgain (s := s) (vm0 := T7.vm) X16 hx hZ7 hown7 (hw _ (List.mem_of_getElem? (i := 109) rfl)) Li7 (g := (mkF m 18 #[.val (.ref ths), .val (.ref a), .val (.int (0 : Int32)), .val (.int (0 : Int32)), .val .null, .unset] [(.ref ths)])) rfl (hb hby d3_18) t kt)
  obtain ⟨T32, X32, e32, st32⟩ := getF X16 hx hZ7 hown7 (host := "") (Or.inl (hw _ (List.mem_of_getElem? (i := 31) rfl))) Via.refl e16 F23 (g := (mkF m 20 #[.val (.ref ths), .val (.ref a), .val (.int (0 : Int32)), .val (.int (0 : Int32)), .val .null, .unset] [(.ref a7), (.ref ths)])) rfl rfl (hb hby d3_20)
  have k33 : ∀ t, Steps p.tables e below (T32.setTop (mkF m 23 #[.val (.ref ths), .val (.ref a), .val (.int (0 : Int32)), .val (.int (0 : Int32)), .val .null, .unset] [(.int (0 : Int32)), (.ref ths)])) t → Steps p.tables e below (s₁.setTop (entryFrame m #[(.ref ths), (.ref a), (.int (0 : Int32)), (.int (0 : Int32)), .null] 6)) t := fun t kt => k31 t (st32 t kt)
  obtain ⟨T34, h34, X34, e34, W34, st34⟩ := putFN X32 hx hZ7 hown7 (hw _ (List.mem_of_getElem? (i := 31) rfl)) Via.refl e32 F20 F21 (Or.inr ⟨(hw _ (List.mem_of_getElem? (i := 32) rfl)), rfl, hnm⟩) (hw _ (List.mem_of_getElem? (i := 6) rfl)) (ty := .byte) (v' := (.int (0 : Int32))) (by decide) rfl (by decide) (g := (mkF m 23 #[.val (.ref ths), .val (.ref a), .val (.int (0 : Int32)), .val (.int (0 : Int32)), .val .null, .unset] [(.int (0 : Int32)), (.ref ths)])) rfl rfl (hb hby d3_23)
  have F35 := Safe.wr W34 F17 C18.1 F17
  have C36 := CHr.trans C18 (CHr.wr W34 F17 C18.1)
  have F37 := F19.other W34 (Or.inr (slot_ne (Or.inr (hw _ (List.mem_of_getElem? (i := 34) rfl))) (Or.inr (hw _ (List.mem_of_getElem? (i := 32) rfl))) (by decide) (t := (.array .byte)) (t' := .byte) (by decide) (by decide)))
  have F38 := F20.same W34
  have F39 := F21.wr W34
  have F40 := F22.wr W34
  have F41 := F23.other W34 (Or.inl (Ne.symm (sf7 _ F8).1))
  have F42 := F24.other W34 (Or.inl (Ne.symm (sf7 _ F8).1))
  have F43 := F25.other W34 (Ne.symm (sf7 _ F8).2)
  have F44 := F26.wr W34
  have hk_45 := Nat.le_trans hk_27 (Keep.of_wr W34).1
  have Z34 : n0 ≤ h34.size := Nat.le_trans Z16 (Keep.of_wr W34).1
  have K34 : Keep h0 h34 [ths] := K16.wr W34 (Or.inl (List.mem_of_getElem? (i := 0) rfl))
  have N34 := Fr.snoc X34 N16 g_t
  have k46 : ∀ t, Steps p.tables e below (T34.setTop (mkF m 26 #[.val (.ref ths), .val (.ref a), .val (.int (0 : Int32)), .val (.int (0 : Int32)), .val .null, .unset] [])) t → Steps p.tables e below (s₁.setTop (entryFrame m #[(.ref ths), (.ref a), (.int (0 : Int32)), (.int (0 : Int32)), .null] 6)) t := fun t kt => k33 t (st34 t kt)
  obtain ⟨fs, hr, hrun, hended, hRW⟩ := X34.leaveW hS7 (by rw [e34]; exact hk_45) (v := none) (fun _ => rfl)
  refine ⟨_, _, k46 _ ?_, hrun, hended, _, _, rfl, ?_, ?_, hRW.1, hRW.2.1, hRW.2.2.1, hRW.2.2.2.mono (by decide) (by decide)⟩
  · show Steps p.tables e below (T34.setTop (mkF m 26 #[.val (.ref ths), .val (.ref a), .val (.int (0 : Int32)), .val (.int (0 : Int32)), .val .null, .unset] [])) _
    exact X34.returnOut hx Bd.returns (hb hby d3_26) hr
  · show QSe4 Z ths a u u' ka cs h0 n0 _ T34.heap _
    rw [e34]
    exact ⟨rfl, N34, K34, F39, b7, c7, F37, F38, F43, F44⟩
  · show CHr Z own_EL s.vm s.heap T34.vm T34.heap
    rw [hh, e34]
    exact CHr.trans C36 (CHv.at (s := s) (vm0 := T7.vm) X34 hZ7 hEL C36.1)
theorem rmSe1_ef (m : MethodId) (x0 : Addr) (x1 : Addr) : entryFrame m #[(.ref x0), (.ref x1)] 2 = mkF m 0 #[.val (.ref x0), .val (.ref x1)] [] := by first | (simp [entryFrame, mkF, argsToLocals, Value.category]; done) | rfl
def QSe1 (Z : State) (ths : Addr) (a : Addr) (u : Value) (u' : Value) (ka : ClassId) (cs : Int32) (h0 : Heap) (n0 : Nat) (v : Option Value) (h : Heap) (L : List Loc) : Prop := v = none ∧ Fr n0 L ∧ Keep h0 h [ths] ∧ Exa Z h ths "java/lang/String" ∧ ∃ (b : Addr) (kb : ClassId), Fld Z h ths "java/lang/String" "value" "[B" (.ref b) ∧ Fld Z h ths "java/lang/String" "coder" "B" (.int (0 : Int32)) ∧ Arv Z h b kb .byte (0 : Int32) [] (.int (0 : Int32)) ∧ Exa Z h b "[B"
set_option maxRecDepth 65536 in
set_option maxHeartbeats 40000000 in
theorem rmSe1 (l : Launch) (Z : State) (a0 : Array Value) (hw : ∀ d ∈ tables_1, d.before a0 Z = true) (ws : List Jvm.Cond) (ths : Addr) (a : Addr) (u : Value) (u' : Value) (ka : ClassId) (cs : Int32) (h0 : Heap) (n0 : Nat) (Z0 : n0 ≤ h0.size) (Fv : Fld Z h0 ths "java/lang/String" "value" "[B" u) (Fc : Fld Z h0 ths "java/lang/String" "coder" "B" u') (Et : Exa Z h0 ths "java/lang/String") (g_t : n0 ≤ ths) (Aa : Arv Z h0 a ka .char (0 : Int32) [] (.int (0 : Int32))) :
    MetFree l (⟨"java/lang/String", "<init>", "([C)V"⟩ : MethodName) (head1 (Jvm.Cond.code (⟨"java/lang/String", "<init>", "([C)V"⟩ : MethodName) jdk_42_method_3_code 2 none :: ws) ({ frames := 2, cells := 2, slots := 4, locals := 29 } : Room)) (fun aA' U => aA' = #[(.ref ths), (.ref a)] ∧ Z.Warmed39 U.vm ∧ U.heap = h0 ∧ CHv Z own_EL U.vm h0 ∧ ∀ xX' ∈ ([ths] : List Addr), Safe Z own_EL U.vm h0 xX') (fun _ _ _ _ _ => True) (fun _ U oO' U' => ∃ vV' L, oO' = .returned vV' ∧ QSe1 Z ths a u u' ka cs h0 n0 vV' U'.heap L ∧ CHr Z own_EL U.vm U.heap U'.vm U'.heap ∧ ReturnedEndW U oO' U' L ({ frames := 2, cells := 2, slots := 4, locals := 29 } : Room).cells ({ frames := 2, cells := 2, slots := 4, locals := 29 } : Room).slots) := by
  refine MetFree.of_bodySF (plainFor_of_name own_pn1) hisR ?_
  intro p e s m args below meth c s₁ Bd hml0 hP hK
  obtain ⟨rfl, hZ, hh, hC0, hSf⟩ := hP
  have hx := Bd.exec
  have hby := Bd.bytes
  have hml : c.maxLocals = 2 := hml0
  have hown : s.vm.findClass "java/lang/String" = some m.cls := findClass_of_methodNamed Bd.named
  have hnm := (name_of_methodNamed Bd.named Bd.method).1
  have X0 : Stand p l e ({ frames := 2, cells := 2, slots := 4, locals := 29 } : Room) (s.setVm s.vm) m #[(.ref ths), (.ref a)] below meth c s₁ [] 0 0 := Stand.of_body Bd
  have e0 : s₁.heap = h0 := by rw [← hh, Bd.state]; rfl
  have N0 := Fr.nil n0
  have K0 : Keep h0 h0 [ths] := Keep.refl _ _
  have k0 : ∀ t, Steps p.tables e below (s₁.setTop (mkF m 0 #[.val (.ref ths), .val (.ref a)] [])) t → Steps p.tables e below (s₁.setTop (entryFrame m #[(.ref ths), (.ref a)] 2)) t := fun t k => castTop (rmSe1_ef m (ths) (a)) k
  have C0 : CHr Z own_EL s.vm h0 s.vm h0 := CHr.refl hC0
  have hS0 : s.Since s.vm 0 := (State.WarmedH.refl s).since 0
  have hk0 : 0 ≤ h0.size := Nat.zero_le _
  have hEL := own_EW hw
  have S_ths : Safe Z own_EL s.vm h0 ths := hSf _ (List.mem_of_getElem? (i := 0) rfl)
  have k1 : ∀ t, Steps p.tables e below (s₁.setTop (mkF m 4 #[.val (.ref ths), .val (.ref a)] [(.ref a), (.int (0 : Int32)), (.ref a), (.ref ths)])) t → Steps p.tables e below (s₁.setTop (entryFrame m #[(.ref ths), (.ref a)] 2)) t := by
    intro t kt
    refine k0 t ?_
    show Steps p.tables e below (s₁.setTop (mkF m 0 #[.val (.ref ths), .val (.ref a)] [])) t
    refine XS.aloadN X0.here hx rfl (hb hby d2_0) rfl rfl ?_
    show Steps p.tables e below (s₁.setTop (mkF m 1 #[.val (.ref ths), .val (.ref a)] [(.ref ths)])) t
    refine XS.aloadN X0.here hx rfl (hb hby d2_1) rfl rfl ?_
    show Steps p.tables e below (s₁.setTop (mkF m 2 #[.val (.ref ths), .val (.ref a)] [(.ref a), (.ref ths)])) t
    refine XS.iconst X0.here hx rfl (hb hby d2_2) ?_
    show Steps p.tables e below (s₁.setTop (mkF m 3 #[.val (.ref ths), .val (.ref a)] [(.int (0 : Int32)), (.ref a), (.ref ths)])) t
    refine XS.aloadN X0.here hx rfl (hb hby d2_3) rfl rfl ?_
    exact kt
  obtain ⟨cl2, Ar2, -, S2, M2, -, -⟩ := id Aa
  have k3 : ∀ t, Steps p.tables e below (s₁.setTop (mkF m 5 #[.val (.ref ths), .val (.ref a)] [(.int (0 : Int32)), (.int (0 : Int32)), (.ref a), (.ref ths)])) t → Steps p.tables e below (s₁.setTop (entryFrame m #[(.ref ths), (.ref a)] 2)) t := fun t kt => k1 t (X0.arraylength hx (by rw [e0]; exact Ar2.1) (State.isArrayOf_alike hZ.alike Ar2.2.1) (g := (mkF m 4 #[.val (.ref ths), .val (.ref a)] [(.ref a), (.int (0 : Int32)), (.ref a), (.ref ths)])) rfl rfl (hb hby d2_4) t (by rw [len_of S2 M2]; exact kt))
  have k4 : ∀ t, Steps p.tables e below (s₁.setTop (mkF m 6 #[.val (.ref ths), .val (.ref a)] [.null, (.int (0 : Int32)), (.int (0 : Int32)), (.ref a), (.ref ths)])) t → Steps p.tables e below (s₁.setTop (entryFrame m #[(.ref ths), (.ref a)] 2)) t := by
    intro t kt
    refine k3 t ?_
    show Steps p.tables e below (s₁.setTop (mkF m 5 #[.val (.ref ths), .val (.ref a)] [(.int (0 : Int32)), (.int (0 : Int32)), (.ref a), (.ref ths)])) t
    refine XS.aconstNull X0.here hx rfl (hb hby d2_5) ?_
    exact kt
  obtain ⟨_, _, ⟨T5, L5, k5c, n5⟩, -, Y5, hS5p, hg5, ⟨Lc5, hQ5, l5, y5, z5, Cn5⟩, st5⟩ := X0.specialBackS hx (y := (⟨"java/lang/String", "<init>", "([CIILjava/lang/Void;)V"⟩ : MethodName)) rfl hown (mvT hZ (hw _ (List.mem_of_getElem? (i := 12) rfl))) (mvT hZ (hw _ (List.mem_of_getElem? (i := 13) rfl))) (mvT hZ (hw _ (List.mem_of_getElem? (i := 15) rfl))) (by decide) (own_backSH (s := s) (vm0 := s.vm) (W := 0) (rmSe4 l Z a0 hw [] ths a u u' ka cs h0 n0 Z0 Fv Fc Et g_t) hZ (hw _ (List.mem_of_getElem? (i := 15) rfl)) (hw _ (List.mem_of_getElem? (i := 7) rfl)) (by decide) (by decide) hEL C0.1 (own_slS Et.lt S_ths (fun _ q => nomatch q))) (g := (mkF m 6 #[.val (.ref ths), .val (.ref a)] [.null, (.int (0 : Int32)), (.int (0 : Int32)), (.ref a), (.ref ths)])) rfl (by rw [hml]; rfl) (Steps.refl _) (a := ths) (argsL := [(.ref a), (.int (0 : Int32)), (.int (0 : Int32)), .null]) (rest := []) (lenOf own_pd3 rfl) rfl (by show 2 * 0 + _ ≤ _; exact Nat.le_of_eq rfl) (hb hby d2_6) (fun _ _ => ⟨rfl, e0, (by decide : 0 + 2 ≤ _), (by decide : 0 + 4 ≤ _)⟩)
  dsimp only [Pt.U, Pt.locs, Pt.cells, Pt.slots] at Y5 hS5p hg5 l5 y5 z5 st5 hQ5 Cn5
  subst l5 y5 z5
  obtain ⟨X5, hS5, hZ5, hown5⟩ := rebS hS0 (by rw [e0]; exact hk0) Y5 hS5p hg5 hZ hown
  have hk5 := Nat.le_refl T5.heap.size
  obtain ⟨rfl, N5q, K5k, E5t, b5, c5k, Fv5, Fc5, A5, Bx5⟩ := hQ5
  have N5 := Fr.app N0 N5q
  have F6 := CHr.safe Cn5 Et.lt S_ths
  have C7 := CHr.trans C0 Cn5
  have F10 := Et.keep K5k
  have Z12 : n0 ≤ T5.heap.size := Nat.le_trans Z0 K5k.1
  have K12 : Keep h0 T5.heap [ths] := K0.trans K5k (allS (Or.inl (List.mem_of_getElem? (i := 0) rfl)) all0)
  have k13 : ∀ t, Steps p.tables e below (T5.setTop (mkF m 9 #[.val (.ref ths), .val (.ref a)] [])) t → Steps p.tables e below (s₁.setTop (entryFrame m #[(.ref ths), (.ref a)] 2)) t := fun t kt => k4 t (st5.trans kt)
  obtain ⟨fs, hr, hrun, hended, hRW⟩ := X5.leaveW hS5 hk5 (v := none) (fun _ => rfl)
  refine ⟨_, _, k13 _ ?_, hrun, hended, _, _, rfl, ?_, ?_, hRW.1, hRW.2.1, hRW.2.2.1, hRW.2.2.2.mono (by decide) (by decide)⟩
  · show Steps p.tables e below (T5.setTop (mkF m 9 #[.val (.ref ths), .val (.ref a)] [])) _
    exact X5.returnOut hx Bd.returns (hb hby d2_9) hr
  · show QSe1 Z ths a u u' ka cs h0 n0 _ T5.heap _
    exact ⟨rfl, N5, K12, F10, b5, c5k, Fv5, Fc5, A5, Bx5⟩
  · show CHr Z own_EL s.vm s.heap T5.vm T5.heap
    rw [hh]
    exact CHr.trans C7 (CHv.at (s := s) (vm0 := T5.vm) X5 hZ5 hEL C7.1)
theorem d1_0 : decode method_2_code 0 = .ok (.iload_n 0, 1) := by decide +kernel
theorem d1_1 : decode method_2_code 1 = .ok (.ifCond .ne 14, 3) := by decide +kernel
theorem d1_4 : decode method_2_code 4 = .ok (.new 7, 3) := by decide +kernel
theorem d1_7 : decode method_2_code 7 = .ok (.dup, 1) := by decide +kernel
theorem d1_8 : decode method_2_code 8 = .ok (.iconst 0, 1) := by decide +kernel
theorem d1_9 : decode method_2_code 9 = .ok (.newarray .char, 2) := by decide +kernel
theorem d1_11 : decode method_2_code 11 = .ok (.invokespecial 9, 3) := by decide +kernel
theorem d1_14 : decode method_2_code 14 = .ok (.areturn, 1) := by decide +kernel
theorem d1_15 : decode method_2_code 15 = .ok (.iload_n 0, 1) := by decide +kernel
theorem d1_16 : decode method_2_code 16 = .ok (.iconst 1, 1) := by decide +kernel
theorem d1_17 : decode method_2_code 17 = .ok (.if_icmp .ne 18, 3) := by decide +kernel
theorem d1_20 : decode method_2_code 20 = .ok (.new 7, 3) := by decide +kernel
theorem d1_23 : decode method_2_code 23 = .ok (.dup, 1) := by decide +kernel
theorem d1_24 : decode method_2_code 24 = .ok (.iconst 1, 1) := by decide +kernel
theorem d1_25 : decode method_2_code 25 = .ok (.newarray .char, 2) := by decide +kernel
theorem d1_27 : decode method_2_code 27 = .ok (.dup, 1) := by decide +kernel
theorem d1_28 : decode method_2_code 28 = .ok (.iconst 0, 1) := by decide +kernel
theorem d1_29 : decode method_2_code 29 = .ok (.iload_n 1, 1) := by decide +kernel
theorem d1_30 : decode method_2_code 30 = .ok (.castore, 1) := by decide +kernel
theorem d1_31 : decode method_2_code 31 = .ok (.invokespecial 9, 3) := by decide +kernel
theorem d1_34 : decode method_2_code 34 = .ok (.areturn, 1) := by decide +kernel
theorem d1_35 : decode method_2_code 35 = .ok (.new 7, 3) := by decide +kernel
theorem d1_38 : decode method_2_code 38 = .ok (.dup, 1) := by decide +kernel
theorem d1_39 : decode method_2_code 39 = .ok (.iconst 2, 1) := by decide +kernel
theorem d1_40 : decode method_2_code 40 = .ok (.newarray .char, 2) := by decide +kernel
theorem d1_42 : decode method_2_code 42 = .ok (.dup, 1) := by decide +kernel
theorem d1_43 : decode method_2_code 43 = .ok (.iconst 0, 1) := by decide +kernel
theorem d1_44 : decode method_2_code 44 = .ok (.iload_n 1, 1) := by decide +kernel
theorem d1_45 : decode method_2_code 45 = .ok (.castore, 1) := by decide +kernel
theorem d1_46 : decode method_2_code 46 = .ok (.dup, 1) := by decide +kernel
theorem d1_47 : decode method_2_code 47 = .ok (.iconst 1, 1) := by decide +kernel
theorem d1_48 : decode method_2_code 48 = .ok (.iload_n 2, 1) := by decide +kernel
theorem d1_49 : decode method_2_code 49 = .ok (.castore, 1) := by decide +kernel
theorem d1_50 : decode method_2_code 50 = .ok (.invokespecial 9, 3) := by decide +kernel
theorem d1_53 : decode method_2_code 53 = .ok (.areturn, 1) := by decide +kernel
theorem own_pn2 : plainName "com/example/disk_to_queue/disktoqueue/store/TopicQueueEqualsPinLaw" = true := by first | (simp [plainName, overriddenIn]; done) | decide +kernel
theorem rmMk_ef (m : MethodId) (x0 : Int32) (x1 : Int32) (x2 : Int32) : entryFrame m #[(.int x0), (.int x1), (.int x2)] 3 = mkF m 0 #[.val (.int x0), .val (.int x1), .val (.int x2)] [] := by first | (simp [entryFrame, mkF, argsToLocals, Value.category]; done) | rfl
def QMk (Z : State) (p1 : Int32) (p2 : Int32) (p3 : Int32) (cs : Int32) (h0 : Heap) (n0 : Nat) (v : Option Value) (h : Heap) (L : List Loc) : Prop := ∃ (r b : Addr) (k : ClassId), v = some (.ref r) ∧ Fr n0 L ∧ Keep h0 h [] ∧ h0.size ≤ r ∧ Exa Z h r "java/lang/String" ∧ Fld Z h r "java/lang/String" "value" "[B" (.ref b) ∧ Fld Z h r "java/lang/String" "coder" "B" (.int (0 : Int32)) ∧ Arv Z h b k .byte p1 [(.int (p2.toInt8.toInt32)), (.int (p3.toInt8.toInt32))] (.int (0 : Int32)) ∧ Exa Z h b "[B"
theorem own_pd4 : parseMethodDescriptor "([C)V" = some ⟨[(.array .char)], none⟩ := by decide +kernel
set_option maxRecDepth 65536 in
set_option maxHeartbeats 40000000 in
theorem rmMk (l : Launch) (Z : State) (a0 : Array Value) (hw : ∀ d ∈ tables_1, d.before a0 Z = true) (ws : List Jvm.Cond) (p1 : Int32) (p2 : Int32) (p3 : Int32) (cs : Int32) (h0 : Heap) (n0 : Nat) (Z0 : n0 ≤ h0.size) (SC : Sta Z h0 "java/lang/String" "COMPACT_STRINGS" "Z" (.int cs)) (hcs : ¬ (cs = (0 : Int32))) (hp : p1 = (0 : Int32) ∨ p1 = (1 : Int32) ∨ p1 = (2 : Int32)) (r2 : 0 ≤ p2.toInt ∧ p2.toInt ≤ 255) (r3 : 0 ≤ p3.toInt ∧ p3.toInt ≤ 255) :
    MetFree l (⟨"com/example/disk_to_queue/disktoqueue/store/TopicQueueEqualsPinLaw", "mk", "(ICC)Ljava/lang/String;"⟩ : MethodName) (head1 (Jvm.Cond.code (⟨"com/example/disk_to_queue/disktoqueue/store/TopicQueueEqualsPinLaw", "mk", "(ICC)Ljava/lang/String;"⟩ : MethodName) method_2_code 3 (some (.object "java/lang/String")) :: ws) ({ frames := 4, cells := 4, slots := 8, locals := 66 } : Room)) (fun aA' U => aA' = #[(.int p1), (.int p2), (.int p3)] ∧ Z.Warmed39 U.vm ∧ U.heap = h0 ∧ CHv Z own_EL U.vm h0 ∧ ∀ xX' ∈ ([] : List Addr), Safe Z own_EL U.vm h0 xX') (fun _ _ _ _ _ => True) (fun _ U oO' U' => ∃ vV' L, oO' = .returned vV' ∧ QMk Z p1 p2 p3 cs h0 n0 vV' U'.heap L ∧ CHr Z own_EL U.vm U.heap U'.vm U'.heap ∧ ReturnedEndW U oO' U' L ({ frames := 4, cells := 4, slots := 8, locals := 66 } : Room).cells ({ frames := 4, cells := 4, slots := 8, locals := 66 } : Room).slots) := by
  refine MetFree.of_bodySF (plainFor_of_name own_pn2) hisR ?_
  intro p e s m args below meth c s₁ Bd hml0 hP hK
  obtain ⟨rfl, hZ, hh, hC0, hSf⟩ := hP
  have hx := Bd.exec
  have hby := Bd.bytes
  have hml : c.maxLocals = 3 := hml0
  have hown : s.vm.findClass "com/example/disk_to_queue/disktoqueue/store/TopicQueueEqualsPinLaw" = some m.cls := findClass_of_methodNamed Bd.named
  have hnm := (name_of_methodNamed Bd.named Bd.method).1
  have X0 : Stand p l e ({ frames := 4, cells := 4, slots := 8, locals := 66 } : Room) (s.setVm s.vm) m #[(.int p1), (.int p2), (.int p3)] below meth c s₁ [] 0 0 := Stand.of_body Bd
  have e0 : s₁.heap = h0 := by rw [← hh, Bd.state]; rfl
  have N0 := Fr.nil n0
  have K0 : Keep h0 h0 [] := Keep.refl _ _
  have k0 : ∀ t, Steps p.tables e below (s₁.setTop (mkF m 0 #[.val (.int p1), .val (.int p2), .val (.int p3)] [])) t → Steps p.tables e below (s₁.setTop (entryFrame m #[(.int p1), (.int p2), (.int p3)] 3)) t := fun t k => castTop (rmMk_ef m (p1) (p2) (p3)) k
  have C0 : CHr Z own_EL s.vm h0 s.vm h0 := CHr.refl hC0
  have hS0 : s.Since s.vm 0 := (State.WarmedH.refl s).since 0
  have hk0 : 0 ≤ h0.size := Nat.zero_le _
  have hEL := own_EW hw
  have k2 : ∀ t, Steps p.tables e below (s₁.setTop (mkF m 1 #[.val (.int p1), .val (.int p2), .val (.int p3)] [(.int p1)])) t → Steps p.tables e below (s₁.setTop (entryFrame m #[(.int p1), (.int p2), (.int p3)] 3)) t := by
    intro t kt
    refine k0 t ?_
    show Steps p.tables e below (s₁.setTop (mkF m 0 #[.val (.int p1), .val (.int p2), .val (.int p3)] [])) t
    refine XS.iloadN X0.here hx rfl (hb hby d1_0) rfl ?_
    exact kt
  by_cases hc1_1 : p1 = (0 : Int32)
  · have k3 : ∀ t, Steps p.tables e below (s₁.setTop (mkF m 4 #[.val (.int p1), .val (.int p2), .val (.int p3)] [])) t → Steps p.tables e below (s₁.setTop (entryFrame m #[(.int p1), (.int p2), (.int p3)] 3)) t := by
      intro t kt
      refine k2 t ?_
      show Steps p.tables e below (s₁.setTop (mkF m 1 #[.val (.int p1), .val (.int p2), .val (.int p3)] [(.int p1)])) t
      refine XS.ifNo X0.here hx rfl (hb hby d1_1) rfl ((if0 _ _).trans (teq hc1_1).2) ?_
      exact kt
    obtain ⟨T4, h4, X4, e4, E4, A4, D4, -, st4⟩ := newO X0 hx hZ hown (hw _ (List.mem_of_getElem? (i := 5) rfl)) (hw _ (List.mem_of_getElem? (i := 6) rfl)) (hw _ (List.mem_of_getElem? (i := 7) rfl)) e0 (g := (mkF m 4 #[.val (.int p1), .val (.int p2), .val (.int p3)] [])) rfl (hb hby d1_4) (by decide) (by decide)
    obtain ⟨b4, g4⟩ : ∃ z, z = h0.size := ⟨_, rfl⟩
    rw [← g4] at A4 D4 st4
    have F5 : Safe Z own_EL s.vm h0 b4 := Safe.new (Nat.le_of_eq g4.symm)
    have g_b4 : n0 ≤ b4 := Nat.le_trans Z0 (Nat.le_of_eq g4.symm)
    have sz_b4 : h0.size ≤ b4 := Nat.le_trans K0.1 (Nat.le_of_eq g4.symm)
    have F6 := Safe.ext E4 C0.1 F5
    have C7 := CHr.trans C0 (CHr.ext E4 C0.1)
    have F8 := SC.ext E4
    have hk_9 := Nat.le_trans hk0 E4.1
    have Z4 : n0 ≤ h4.size := Nat.le_trans Z0 E4.1
    have K4 : Keep h0 h4 [] := K0.ext E4
    have F10 : Fld Z h4 b4 "java/lang/String" "coder" "B" (.int (0 : Int32)) := D4 (Or.inr (hw _ (List.mem_of_getElem? (i := 32) rfl))) (ty := .byte) (by decide)
    have F11 : Fld Z h4 b4 "java/lang/String" "value" "[B" .null := D4 (Or.inr (hw _ (List.mem_of_getElem? (i := 34) rfl))) (ty := (.array .byte)) (by decide)
    have k12 : ∀ t, Steps p.tables e below (T4.setTop (mkF m 7 #[.val (.int p1), .val (.int p2), .val (.int p3)] [(.ref b4)])) t → Steps p.tables e below (s₁.setTop (entryFrame m #[(.int p1), (.int p2), (.int p3)] 3)) t := fun t kt => k3 t (st4 t kt)
    have k13 : ∀ t, Steps p.tables e below (T4.setTop (mkF m 9 #[.val (.int p1), .val (.int p2), .val (.int p3)] [(.int (0 : Int32)), (.ref b4), (.ref b4)])) t → Steps p.tables e below (s₁.setTop (entryFrame m #[(.int p1), (.int p2), (.int p3)] 3)) t := by
      intro t kt
      refine k12 t ?_
      show Steps p.tables e below (T4.setTop (mkF m 7 #[.val (.int p1), .val (.int p2), .val (.int p3)] [(.ref b4)])) t
      refine XS.dup X4.here hx rfl (hb hby d1_7) rfl rfl ?_
      show Steps p.tables e below (T4.setTop (mkF m 8 #[.val (.int p1), .val (.int p2), .val (.int p3)] [(.ref b4), (.ref b4)])) t
      refine XS.iconst X4.here hx rfl (hb hby d1_8) ?_
      exact kt
    obtain ⟨T14, h14, c14, X14, e14, E14, A14, st14⟩ := newP X4 hx hZ (hw _ (List.mem_of_getElem? (i := 8) rfl)) e4 (g := (mkF m 9 #[.val (.int p1), .val (.int p2), .val (.int p3)] [(.int (0 : Int32)), (.ref b4), (.ref b4)])) rfl (hb hby d1_9) rfl (by decide) (cap := 0) (by decide) (by decide) (by decide) (by decide)
    obtain ⟨b14, g14⟩ : ∃ z, z = h4.size := ⟨_, rfl⟩
    rw [← g14] at A14 st14
    have F15 : Safe Z own_EL s.vm h4 b14 := Safe.new (Nat.le_of_eq g14.symm)
    have g_b14 : n0 ≤ b14 := Nat.le_trans Z4 (Nat.le_of_eq g14.symm)
    have sz_b14 : h0.size ≤ b14 := Nat.le_trans K4.1 (Nat.le_of_eq g14.symm)
    have ne16 : b4 ≠ b14 := Nat.ne_of_lt (Nat.lt_of_lt_of_le A4.lt (Nat.le_of_eq g14.symm))
    have F17 := Safe.ext E14 C7.1 F6
    have F18 := Safe.ext E14 C7.1 F15
    have C19 := CHr.trans C7 (CHr.ext E14 C7.1)
    have F20 := F8.ext E14
    have F21 := A4.ext E14
    have F22 := F10.ext E14
    have F23 := F11.ext E14
    have hk_24 := Nat.le_trans hk_9 E14.1
    have Z14 : n0 ≤ h14.size := Nat.le_trans Z4 E14.1
    have K14 : Keep h0 h14 [] := K4.ext E14
    have F25 : Arv Z h14 b14 c14 .char (0 : Int32) [] (.int (0 : Int32)) := Arv.new A14 (by decide)
    have k26 : ∀ t, Steps p.tables e below (T14.setTop (mkF m 11 #[.val (.int p1), .val (.int p2), .val (.int p3)] [(.ref b14), (.ref b4), (.ref b4)])) t → Steps p.tables e below (s₁.setTop (entryFrame m #[(.int p1), (.int p2), (.int p3)] 3)) t := fun t kt => k13 t (st14 t kt)
    obtain ⟨_, _, ⟨T27, L27, k27c, n27⟩, -, Y27, hS27p, hg27, ⟨Lc27, hQ27, l27, y27, z27, Cn27⟩, st27⟩ := X14.specialBackS hx (y := (⟨"java/lang/String", "<init>", "([C)V"⟩ : MethodName)) rfl hown (mvT hZ (hw _ (List.mem_of_getElem? (i := 9) rfl))) (mvT hZ (hw _ (List.mem_of_getElem? (i := 10) rfl))) (mvT hZ (hw _ (List.mem_of_getElem? (i := 11) rfl))) (by decide) (own_backSH (s := s) (vm0 := s.vm) (W := 1) (rmSe1 l Z a0 hw [] b4 b14 .null (.int (0 : Int32)) c14 cs h14 n0 Z14 F23 F22 F21 g_b4 F25) hZ (hw _ (List.mem_of_getElem? (i := 11) rfl)) (hw _ (List.mem_of_getElem? (i := 7) rfl)) (by decide) (by decide) hEL C19.1 (own_slS F21.lt F17 (fun _ q => nomatch q))) (g := (mkF m 11 #[.val (.int p1), .val (.int p2), .val (.int p3)] [(.ref b14), (.ref b4), (.ref b4)])) rfl (by rw [hml]; rfl) (Steps.refl _) (a := b4) (argsL := [(.ref b14)]) (rest := [(.ref b4)]) (lenOf own_pd4 rfl) rfl (by show 2 * 0 + _ ≤ _; exact Nat.le_of_eq rfl) (hb hby d1_11) (fun _ _ => ⟨rfl, e14, (by decide : 2 + 2 ≤ _), (by decide : 4 + 4 ≤ _)⟩)
    dsimp only [Pt.U, Pt.locs, Pt.cells, Pt.slots] at Y27 hS27p hg27 l27 y27 z27 st27 hQ27 Cn27
    subst l27 y27 z27
    obtain ⟨X27, hS27, hZ27, hown27⟩ := rebS hS0 (by rw [e14]; exact hk_24) Y27 hS27p hg27 hZ hown
    have hk27 := Nat.le_refl T27.heap.size
    obtain ⟨rfl, N27q, K27k, -, b27, c27k, Fv27, Fc27, A27, Bx27⟩ := hQ27
    have N27 := Fr.app N0 N27q
    have F28 := CHr.safe Cn27 F21.lt F17
    have F29 := CHr.safe Cn27 F25.lt F18
    have C30 := CHr.trans C19 Cn27
    have F32 := F21.keep K27k
    have F35 := F25.keep K27k (ninS (Ne.symm ne16) nin0)
    have Z36 : n0 ≤ T27.heap.size := Nat.le_trans Z14 K27k.1
    have K36 : Keep h0 T27.heap [] := K14.trans K27k (allS (Or.inr sz_b4) all0)
    have k37 : ∀ t, Steps p.tables e below (T27.setTop (mkF m 14 #[.val (.int p1), .val (.int p2), .val (.int p3)] [(.ref b4)])) t → Steps p.tables e below (s₁.setTop (entryFrame m #[(.int p1), (.int p2), (.int p3)] 3)) t := fun t kt => k26 t (st27.trans kt)
    obtain ⟨fs, hr, hrun, hended, hRW⟩ := X27.leaveW hS27 hk27 (v := some (.ref b4)) (fun h => by rw [Bd.returns] at h; cases h)
    refine ⟨_, _, k37 _ ?_, hrun, hended, _, _, rfl, ?_, ?_, hRW.1, hRW.2.1, hRW.2.2.1, hRW.2.2.2.mono (by decide) (by decide)⟩
    · show Steps p.tables e below (T27.setTop (mkF m 14 #[.val (.int p1), .val (.int p2), .val (.int p3)] [(.ref b4)])) _
      jvm_step X27.here [X27.here.top, hx, (hb hby d1_14), X27.method', Bd.returns, Value.isRef, FieldType.isReference]
      first | (intro acts; rw [hr _ acts rfl rfl rfl]) | rw [hr _ _ rfl rfl rfl]
      exact Steps.refl _
    · show QMk Z p1 p2 p3 cs h0 n0 _ T27.heap _
      exact ⟨b4, b27, c27k, rfl, N27, K36, sz_b4, F32, Fv27, Fc27, own_arvT A27 hc1_1 (by first | exact fun _ _ => rfl | intro i hi; have e : (0 : Int32).toNatClampNeg = 0 := rfl; rw [e] at hi; rcases i with _ | _ | i <;> first | rfl | omega), Bx27⟩
    · show CHr Z own_EL s.vm s.heap T27.vm T27.heap
      rw [hh]
      exact CHr.trans C30 (CHv.at (s := s) (vm0 := T27.vm) X27 hZ27 hEL C30.1)
  · have k39 : ∀ t, Steps p.tables e below (s₁.setTop (mkF m 17 #[.val (.int p1), .val (.int p2), .val (.int p3)] [(.int (1 : Int32)), (.int p1)])) t → Steps p.tables e below (s₁.setTop (entryFrame m #[(.int p1), (.int p2), (.int p3)] 3)) t := by
      intro t kt
      refine k2 t ?_
      show Steps p.tables e below (s₁.setTop (mkF m 1 #[.val (.int p1), .val (.int p2), .val (.int p3)] [(.int p1)])) t
      refine XS.ifYes X0.here hx rfl (pc0 := 1) (pc' := 15) rfl (hb hby d1_1) rfl ((if0 _ _).trans (feq hc1_1).2) (by decide) (by decide) ?_
      show Steps p.tables e below (s₁.setTop (mkF m 15 #[.val (.int p1), .val (.int p2), .val (.int p3)] [])) t
      refine XS.iloadN X0.here hx rfl (hb hby d1_15) rfl ?_
      show Steps p.tables e below (s₁.setTop (mkF m 16 #[.val (.int p1), .val (.int p2), .val (.int p3)] [(.int p1)])) t
      refine XS.iconst X0.here hx rfl (hb hby d1_16) ?_
      exact kt
    by_cases hc17_38 : p1 = (1 : Int32)
    · have k40 : ∀ t, Steps p.tables e below (s₁.setTop (mkF m 20 #[.val (.int p1), .val (.int p2), .val (.int p3)] [])) t → Steps p.tables e below (s₁.setTop (entryFrame m #[(.int p1), (.int p2), (.int p3)] 3)) t := by
        intro t kt
        refine k39 t ?_
        show Steps p.tables e below (s₁.setTop (mkF m 17 #[.val (.int p1), .val (.int p2), .val (.int p3)] [(.int (1 : Int32)), (.int p1)])) t
        refine XS.icmpNo X0.here hx rfl (hb hby d1_17) rfl (teq hc17_38).2 ?_
        exact kt
      obtain ⟨T41, h41, X41, e41, E41, A41, D41, -, st41⟩ := newO X0 hx hZ hown (hw _ (List.mem_of_getElem? (i := 5) rfl)) (hw _ (List.mem_of_getElem? (i := 6) rfl)) (hw _ (List.mem_of_getElem? (i := 7) rfl)) e0 (g := (mkF m 20 #[.val (.int p1), .val (.int p2), .val (.int p3)] [])) rfl (hb hby d1_20) (by decide) (by decide)
      obtain ⟨b41, g41⟩ : ∃ z, z = h0.size := ⟨_, rfl⟩
      rw [← g41] at A41 D41 st41
      have F42 : Safe Z own_EL s.vm h0 b41 := Safe.new (Nat.le_of_eq g41.symm)
      have g_b41 : n0 ≤ b41 := Nat.le_trans Z0 (Nat.le_of_eq g41.symm)
      have sz_b41 : h0.size ≤ b41 := Nat.le_trans K0.1 (Nat.le_of_eq g41.symm)
      have F43 := Safe.ext E41 C0.1 F42
      have C44 := CHr.trans C0 (CHr.ext E41 C0.1)
      have F45 := SC.ext E41
      have hk_46 := Nat.le_trans hk0 E41.1
      have Z41 : n0 ≤ h41.size := Nat.le_trans Z0 E41.1
      have K41 : Keep h0 h41 [] := K0.ext E41
      have F47 : Fld Z h41 b41 "java/lang/String" "coder" "B" (.int (0 : Int32)) := D41 (Or.inr (hw _ (List.mem_of_getElem? (i := 32) rfl))) (ty := .byte) (by decide)
      have F48 : Fld Z h41 b41 "java/lang/String" "value" "[B" .null := D41 (Or.inr (hw _ (List.mem_of_getElem? (i := 34) rfl))) (ty := (.array .byte)) (by decide)
      have k49 : ∀ t, Steps p.tables e below (T41.setTop (mkF m 23 #[.val (.int p1), .val (.int p2), .val (.int p3)] [(.ref b41)])) t → Steps p.tables e below (s₁.setTop (entryFrame m #[(.int p1), (.int p2), (.int p3)] 3)) t := fun t kt => k40 t (st41 t kt)
      have k50 : ∀ t, Steps p.tables e below (T41.setTop (mkF m 25 #[.val (.int p1), .val (.int p2), .val (.int p3)] [(.int (1 : Int32)), (.ref b41), (.ref b41)])) t → Steps p.tables e below (s₁.setTop (entryFrame m #[(.int p1), (.int p2), (.int p3)] 3)) t := by
        intro t kt
        refine k49 t ?_
        show Steps p.tables e below (T41.setTop (mkF m 23 #[.val (.int p1), .val (.int p2), .val (.int p3)] [(.ref b41)])) t
        refine XS.dup X41.here hx rfl (hb hby d1_23) rfl rfl ?_
        show Steps p.tables e below (T41.setTop (mkF m 24 #[.val (.int p1), .val (.int p2), .val (.int p3)] [(.ref b41), (.ref b41)])) t
        refine XS.iconst X41.here hx rfl (hb hby d1_24) ?_
        exact kt
      obtain ⟨T51, h51, c51, X51, e51, E51, A51, st51⟩ := newP X41 hx hZ (hw _ (List.mem_of_getElem? (i := 8) rfl)) e41 (g := (mkF m 25 #[.val (.int p1), .val (.int p2), .val (.int p3)] [(.int (1 : Int32)), (.ref b41), (.ref b41)])) rfl (hb hby d1_25) rfl (by decide) (cap := 1) (by decide) (by decide) (by decide) (by decide)
      obtain ⟨b51, g51⟩ : ∃ z, z = h41.size := ⟨_, rfl⟩
      rw [← g51] at A51 st51
      have F52 : Safe Z own_EL s.vm h41 b51 := Safe.new (Nat.le_of_eq g51.symm)
      have g_b51 : n0 ≤ b51 := Nat.le_trans Z41 (Nat.le_of_eq g51.symm)
      have sz_b51 : h0.size ≤ b51 := Nat.le_trans K41.1 (Nat.le_of_eq g51.symm)
      have ne53 : b41 ≠ b51 := Nat.ne_of_lt (Nat.lt_of_lt_of_le A41.lt (Nat.le_of_eq g51.symm))
      have F54 := Safe.ext E51 C44.1 F43
      have F55 := Safe.ext E51 C44.1 F52
      have C56 := CHr.trans C44 (CHr.ext E51 C44.1)
      have F57 := F45.ext E51
      have F58 := A41.ext E51
      have F59 := F47.ext E51
      have F60 := F48.ext E51
      have hk_61 := Nat.le_trans hk_46 E51.1
      have Z51 : n0 ≤ h51.size := Nat.le_trans Z41 E51.1
      have K51 : Keep h0 h51 [] := K41.ext E51
      have F62 : Arv Z h51 b51 c51 .char (1 : Int32) [(.int (0 : Int32))] (.int (0 : Int32)) := (Arv.new A51 (by decide)).pad (pad_rep [] (.int (0 : Int32)) 1)
      have k63 : ∀ t, Steps p.tables e below (T51.setTop (mkF m 27 #[.val (.int p1), .val (.int p2), .val (.int p3)] [(.ref b51), (.ref b41), (.ref b41)])) t → Steps p.tables e below (s₁.setTop (entryFrame m #[(.int p1), (.int p2), (.int p3)] 3)) t := fun t kt => k50 t (st51 t kt)
      have k64 : ∀ t, Steps p.tables e below (T51.setTop (mkF m 30 #[.val (.int p1), .val (.int p2), .val (.int p3)] [(.int p2), (.int (0 : Int32)), (.ref b51), (.ref b51), (.ref b41), (.ref b41)])) t → Steps p.tables e below (s₁.setTop (entryFrame m #[(.int p1), (.int p2), (.int p3)] 3)) t := by
        intro t kt
        refine k63 t ?_
        show Steps p.tables e below (T51.setTop (mkF m 27 #[.val (.int p1), .val (.int p2), .val (.int p3)] [(.ref b51), (.ref b41), (.ref b41)])) t
        refine XS.dup X51.here hx rfl (hb hby d1_27) rfl rfl ?_
        show Steps p.tables e below (T51.setTop (mkF m 28 #[.val (.int p1), .val (.int p2), .val (.int p3)] [(.ref b51), (.ref b51), (.ref b41), (.ref b41)])) t
        refine XS.iconst X51.here hx rfl (hb hby d1_28) ?_
        show Steps p.tables e below (T51.setTop (mkF m 29 #[.val (.int p1), .val (.int p2), .val (.int p3)] [(.int (0 : Int32)), (.ref b51), (.ref b51), (.ref b41), (.ref b41)])) t
        refine XS.iloadN X51.here hx rfl (hb hby d1_29) rfl ?_
        exact kt
      obtain ⟨cl65, Ar65, q65, S65, M65, H65, G65⟩ := id F62
      have hin65 : ¬ ((0 : Int32) < 0 ∨ cl65.slots.size ≤ ((0 : Int32)).toNatClampNeg) := inb_of S65 ⟨by decide, by decide⟩
      obtain ⟨T65, h65, X65, e65, W65, st65⟩ := stC X51 hx hZ e51 Ar65 (j := (0 : Int32)) hin65 (g := (mkF m 30 #[.val (.int p1), .val (.int p2), .val (.int p3)] [(.int p2), (.int (0 : Int32)), (.ref b51), (.ref b51), (.ref b41), (.ref b41)])) rfl rfl (hb hby d1_30)
      have F66 : Arv Z h65 b51 c51 .char (1 : Int32) [(.int (p2.toUInt32.toUInt16.toUInt32.toInt32))] (.int (0 : Int32)) := Arv.set Ar65 q65 S65 M65 H65 G65 (fits_nar_char _) W65 0 rfl (Nat.le_of_ble_eq_true rfl)
      have F67 := Safe.wr W65 F55 C56.1 F54
      have F68 := Safe.wr W65 F55 C56.1 F55
      have C69 := CHr.trans C56 (CHr.wr W65 F55 C56.1)
      have F70 := F57.wr W65
      have F71 := F58.wr W65
      have F72 := F59.other W65 (Or.inl ne53)
      have F73 := F60.other W65 (Or.inl ne53)
      have hk_75 := Nat.le_trans hk_61 (Keep.of_wr W65).1
      have Z65 : n0 ≤ h65.size := Nat.le_trans Z51 (Keep.of_wr W65).1
      have K65 : Keep h0 h65 [] := K51.wr W65 (Or.inr sz_b51)
      have N65 := Fr.snoc X65 N0 g_b51
      have k76 : ∀ t, Steps p.tables e below (T65.setTop (mkF m 31 #[.val (.int p1), .val (.int p2), .val (.int p3)] [(.ref b51), (.ref b41), (.ref b41)])) t → Steps p.tables e below (s₁.setTop (entryFrame m #[(.int p1), (.int p2), (.int p3)] 3)) t := fun t kt => k64 t (st65 t kt)
      obtain ⟨_, _, ⟨T77, L77, k77c, n77⟩, -, X77, ⟨Lc77, hQ77, l77, y77, z77⟩, st77⟩ := X65.specialBack hx (y := (⟨"java/lang/String", "<init>", "([C)V"⟩ : MethodName)) rfl hown (mvT hZ (hw _ (List.mem_of_getElem? (i := 9) rfl))) (mvT hZ (hw _ (List.mem_of_getElem? (i := 10) rfl))) (mvT hZ (hw _ (List.mem_of_getElem? (i := 11) rfl))) (by decide) (backOf (W := 1) (rmSi1 l Z a0 hw [] b41 b51 .null (.int (0 : Int32)) c51 cs (p2.toUInt32.toUInt16.toUInt32.toInt32) h65 n0 Z65 F73 F72 F71 g_b41 ne53 F66 F70 hcs (by rw [own_ch p2 r2.1 (by omega)]; exact own_n255 _ r2.2)) hZ (hw _ (List.mem_of_getElem? (i := 11) rfl)) (hw _ (List.mem_of_getElem? (i := 7) rfl)) (by decide) (by decide)) (g := (mkF m 31 #[.val (.int p1), .val (.int p2), .val (.int p3)] [(.ref b51), (.ref b41), (.ref b41)])) rfl (by rw [hml]; rfl) (Steps.refl _) (a := b41) (argsL := [(.ref b51)]) (rest := [(.ref b41)]) (lenOf own_pd4 rfl) rfl (by show 2 * 0 + _ ≤ _; exact Nat.le_of_eq rfl) (hb hby d1_31) (fun _ _ => ⟨rfl, e65, (by decide : 2 + 1 ≤ _), (by decide : 5 + 1 ≤ _)⟩)
      dsimp only [Pt.U, Pt.locs, Pt.cells, Pt.slots] at X77 l77 y77 z77 st77 hQ77
      subst l77 y77 z77
      obtain ⟨rfl, N77q, K77k, -, b77, c77k, s77z, Fv77, Fc77, A77, Bx77⟩ := hQ77
      have N77 := Fr.app N65 N77q
      have g_b77 : n0 ≤ b77 := Nat.le_trans Z65 s77z
      have sz_b77 : h0.size ≤ b77 := Nat.le_trans K65.1 s77z
      have ne78 : b41 ≠ b77 := Nat.ne_of_lt (Nat.lt_of_lt_of_le F71.lt s77z)
      have ne79 : b51 ≠ b77 := Nat.ne_of_lt (Nat.lt_of_lt_of_le F66.lt s77z)
      have F80 := Safe.keep K77k (sfS F67 sf0) C69.1 F67
      have F81 := Safe.keep K77k (sfS F67 sf0) C69.1 F68
      have C82 := CHr.trans C69 (CHr.keep K77k (sfS F67 sf0) C69.1)
      have F84 := F71.keep K77k
      have F87 := F66.keep K77k (ninS (Ne.symm ne53) nin0)
      have hk_88 := Nat.le_trans hk_75 K77k.1
      have Z89 : n0 ≤ T77.heap.size := Nat.le_trans Z65 K77k.1
      have K89 : Keep h0 T77.heap [] := K65.trans K77k (allS (Or.inr sz_b41) all0)
      have k90 : ∀ t, Steps p.tables e below (T77.setTop (mkF m 34 #[.val (.int p1), .val (.int p2), .val (.int p3)] [(.ref b41)])) t → Steps p.tables e below (s₁.setTop (entryFrame m #[(.int p1), (.int p2), (.int p3)] 3)) t := fun t kt => k76 t (st77.trans kt)
      obtain ⟨fs, hr, hrun, hended, hRW⟩ := X77.leaveW hS0 hk_88 (v := some (.ref b41)) (fun h => by rw [Bd.returns] at h; cases h)
      refine ⟨_, _, k90 _ ?_, hrun, hended, _, _, rfl, ?_, ?_, hRW.1, hRW.2.1, hRW.2.2.1, hRW.2.2.2.mono (by decide) (by decide)⟩
      · show Steps p.tables e below (T77.setTop (mkF m 34 #[.val (.int p1), .val (.int p2), .val (.int p3)] [(.ref b41)])) _
        jvm_step X77.here [X77.here.top, hx, (hb hby d1_34), X77.method', Bd.returns, Value.isRef, FieldType.isReference]
        first | (intro acts; rw [hr _ acts rfl rfl rfl]) | rw [hr _ _ rfl rfl rfl]
        exact Steps.refl _
      · show QMk Z p1 p2 p3 cs h0 n0 _ T77.heap _
        rw [own_ch p2 r2.1 (by omega)] at A77
        exact ⟨b41, b77, c77k, rfl, N77, K89, sz_b41, F84, Fv77, Fc77, own_arvT A77 hc17_38 (by first | exact fun _ _ => rfl | intro i hi; have e : (1 : Int32).toNatClampNeg = 1 := rfl; rw [e] at hi; rcases i with _ | _ | i <;> first | rfl | omega), Bx77⟩
      · show CHr Z own_EL s.vm s.heap T77.vm T77.heap
        rw [hh]
        exact CHr.trans C82 (CHv.at (s := s) (vm0 := s.vm) X77 hZ hEL C82.1)
    · have k91 : ∀ t, Steps p.tables e below (s₁.setTop (mkF m 35 #[.val (.int p1), .val (.int p2), .val (.int p3)] [])) t → Steps p.tables e below (s₁.setTop (entryFrame m #[(.int p1), (.int p2), (.int p3)] 3)) t := by
        intro t kt
        refine k39 t ?_
        show Steps p.tables e below (s₁.setTop (mkF m 17 #[.val (.int p1), .val (.int p2), .val (.int p3)] [(.int (1 : Int32)), (.int p1)])) t
        refine XS.icmpYes X0.here hx rfl (pc0 := 17) (pc' := 35) rfl (hb hby d1_17) rfl (feq hc17_38).2 (by decide) (by decide) ?_
        exact kt
      obtain ⟨T92, h92, X92, e92, E92, A92, D92, -, st92⟩ := newO X0 hx hZ hown (hw _ (List.mem_of_getElem? (i := 5) rfl)) (hw _ (List.mem_of_getElem? (i := 6) rfl)) (hw _ (List.mem_of_getElem? (i := 7) rfl)) e0 (g := (mkF m 35 #[.val (.int p1), .val (.int p2), .val (.int p3)] [])) rfl (hb hby d1_35) (by decide) (by decide)
      obtain ⟨b92, g92⟩ : ∃ z, z = h0.size := ⟨_, rfl⟩
      rw [← g92] at A92 D92 st92
      have F93 : Safe Z own_EL s.vm h0 b92 := Safe.new (Nat.le_of_eq g92.symm)
      have g_b92 : n0 ≤ b92 := Nat.le_trans Z0 (Nat.le_of_eq g92.symm)
      have sz_b92 : h0.size ≤ b92 := Nat.le_trans K0.1 (Nat.le_of_eq g92.symm)
      have F94 := Safe.ext E92 C0.1 F93
      have C95 := CHr.trans C0 (CHr.ext E92 C0.1)
      have F96 := SC.ext E92
      have hk_97 := Nat.le_trans hk0 E92.1
      have Z92 : n0 ≤ h92.size := Nat.le_trans Z0 E92.1
      have K92 : Keep h0 h92 [] := K0.ext E92
      have F98 : Fld Z h92 b92 "java/lang/String" "coder" "B" (.int (0 : Int32)) := D92 (Or.inr (hw _ (List.mem_of_getElem? (i := 32) rfl))) (ty := .byte) (by decide)
      have F99 : Fld Z h92 b92 "java/lang/String" "value" "[B" .null := D92 (Or.inr (hw _ (List.mem_of_getElem? (i := 34) rfl))) (ty := (.array .byte)) (by decide)
      have k100 : ∀ t, Steps p.tables e below (T92.setTop (mkF m 38 #[.val (.int p1), .val (.int p2), .val (.int p3)] [(.ref b92)])) t → Steps p.tables e below (s₁.setTop (entryFrame m #[(.int p1), (.int p2), (.int p3)] 3)) t := fun t kt => k91 t (st92 t kt)
      have k101 : ∀ t, Steps p.tables e below (T92.setTop (mkF m 40 #[.val (.int p1), .val (.int p2), .val (.int p3)] [(.int (2 : Int32)), (.ref b92), (.ref b92)])) t → Steps p.tables e below (s₁.setTop (entryFrame m #[(.int p1), (.int p2), (.int p3)] 3)) t := by
        intro t kt
        refine k100 t ?_
        show Steps p.tables e below (T92.setTop (mkF m 38 #[.val (.int p1), .val (.int p2), .val (.int p3)] [(.ref b92)])) t
        refine XS.dup X92.here hx rfl (hb hby d1_38) rfl rfl ?_
        show Steps p.tables e below (T92.setTop (mkF m 39 #[.val (.int p1), .val (.int p2), .val (.int p3)] [(.ref b92), (.ref b92)])) t
        refine XS.iconst X92.here hx rfl (hb hby d1_39) ?_
        exact kt
      obtain ⟨T102, h102, c102, X102, e102, E102, A102, st102⟩ := newP X92 hx hZ (hw _ (List.mem_of_getElem? (i := 8) rfl)) e92 (g := (mkF m 40 #[.val (.int p1), .val (.int p2), .val (.int p3)] [(.int (2 : Int32)), (.ref b92), (.ref b92)])) rfl (hb hby d1_40) rfl (by decide) (cap := 2) (by decide) (by decide) (by decide) (by decide)
      obtain ⟨b102, g102⟩ : ∃ z, z = h92.size := ⟨_, rfl⟩
      rw [← g102] at A102 st102
      have F103 : Safe Z own_EL s.vm h92 b102 := Safe.new (Nat.le_of_eq g102.symm)
      have g_b102 : n0 ≤ b102 := Nat.le_trans Z92 (Nat.le_of_eq g102.symm)
      have sz_b102 : h0.size ≤ b102 := Nat.le_trans K92.1 (Nat.le_of_eq g102.symm)
      have ne104 : b92 ≠ b102 := Nat.ne_of_lt (Nat.lt_of_lt_of_le A92.lt (Nat.le_of_eq g102.symm))
      have F105 := Safe.ext E102 C95.1 F94
      have F106 := Safe.ext E102 C95.1 F103
      have C107 := CHr.trans C95 (CHr.ext E102 C95.1)
      have F108 := F96.ext E102
      have F109 := A92.ext E102
      have F110 := F98.ext E102
      have F111 := F99.ext E102
      have hk_112 := Nat.le_trans hk_97 E102.1
      have Z102 : n0 ≤ h102.size := Nat.le_trans Z92 E102.1
      have K102 : Keep h0 h102 [] := K92.ext E102
      have F113 : Arv Z h102 b102 c102 .char (2 : Int32) [(.int (0 : Int32)), (.int (0 : Int32))] (.int (0 : Int32)) := (Arv.new A102 (by decide)).pad (pad_rep [] (.int (0 : Int32)) 2)
      have k114 : ∀ t, Steps p.tables e below (T102.setTop (mkF m 42 #[.val (.int p1), .val (.int p2), .val (.int p3)] [(.ref b102), (.ref b92), (.ref b92)])) t → Steps p.tables e below (s₁.setTop (entryFrame m #[(.int p1), (.int p2), (.int p3)] 3)) t := fun t kt => k101 t (st102 t kt)
      have k115 : ∀ t, Steps p.tables e below (T102.setTop (mkF m 45 #[.val (.int p1), .val (.int p2), .val (.int p3)] [(.int p2), (.int (0 : Int32)), (.ref b102), (.ref b102), (.ref b92), (.ref b92)])) t → Steps p.tables e below (s₁.setTop (entryFrame m #[(.int p1), (.int p2), (.int p3)] 3)) t := by
        intro t kt
        refine k114 t ?_
        show Steps p.tables e below (T102.setTop (mkF m 42 #[.val (.int p1), .val (.int p2), .val (.int p3)] [(.ref b102), (.ref b92), (.ref b92)])) t
        refine XS.dup X102.here hx rfl (hb hby d1_42) rfl rfl ?_
        show Steps p.tables e below (T102.setTop (mkF m 43 #[.val (.int p1), .val (.int p2), .val (.int p3)] [(.ref b102), (.ref b102), (.ref b92), (.ref b92)])) t
        refine XS.iconst X102.here hx rfl (hb hby d1_43) ?_
        show Steps p.tables e below (T102.setTop (mkF m 44 #[.val (.int p1), .val (.int p2), .val (.int p3)] [(.int (0 : Int32)), (.ref b102), (.ref b102), (.ref b92), (.ref b92)])) t
        refine XS.iloadN X102.here hx rfl (hb hby d1_44) rfl ?_
        exact kt
      obtain ⟨cl116, Ar116, q116, S116, M116, H116, G116⟩ := id F113
      have hin116 : ¬ ((0 : Int32) < 0 ∨ cl116.slots.size ≤ ((0 : Int32)).toNatClampNeg) := inb_of S116 ⟨by decide, by decide⟩
      obtain ⟨T116, h116, X116, e116, W116, st116⟩ := stC X102 hx hZ e102 Ar116 (j := (0 : Int32)) hin116 (g := (mkF m 45 #[.val (.int p1), .val (.int p2), .val (.int p3)] [(.int p2), (.int (0 : Int32)), (.ref b102), (.ref b102), (.ref b92), (.ref b92)])) rfl rfl (hb hby d1_45)
      have F117 : Arv Z h116 b102 c102 .char (2 : Int32) [(.int (p2.toUInt32.toUInt16.toUInt32.toInt32)), (.int (0 : Int32))] (.int (0 : Int32)) := Arv.set Ar116 q116 S116 M116 H116 G116 (fits_nar_char _) W116 0 rfl (Nat.le_of_ble_eq_true rfl)
      have F118 := Safe.wr W116 F106 C107.1 F105
      have F119 := Safe.wr W116 F106 C107.1 F106
      have C120 := CHr.trans C107 (CHr.wr W116 F106 C107.1)
      have F121 := F108.wr W116
      have F122 := F109.wr W116
      have F123 := F110.other W116 (Or.inl ne104)
      have F124 := F111.other W116 (Or.inl ne104)
      have hk_126 := Nat.le_trans hk_112 (Keep.of_wr W116).1
      have Z116 : n0 ≤ h116.size := Nat.le_trans Z102 (Keep.of_wr W116).1
      have K116 : Keep h0 h116 [] := K102.wr W116 (Or.inr sz_b102)
      have N116 := Fr.snoc X116 N0 g_b102
      have k127 : ∀ t, Steps p.tables e below (T116.setTop (mkF m 46 #[.val (.int p1), .val (.int p2), .val (.int p3)] [(.ref b102), (.ref b92), (.ref b92)])) t → Steps p.tables e below (s₁.setTop (entryFrame m #[(.int p1), (.int p2), (.int p3)] 3)) t := fun t kt => k115 t (st116 t kt)
      have k128 : ∀ t, Steps p.tables e below (T116.setTop (mkF m 49 #[.val (.int p1), .val (.int p2), .val (.int p3)] [(.int p3), (.int (1 : Int32)), (.ref b102), (.ref b102), (.ref b92), (.ref b92)])) t → Steps p.tables e below (s₁.setTop (entryFrame m #[(.int p1), (.int p2), (.int p3)] 3)) t := by
        intro t kt
        refine k127 t ?_
        show Steps p.tables e below (T116.setTop (mkF m 46 #[.val (.int p1), .val (.int p2), .val (.int p3)] [(.ref b102), (.ref b92), (.ref b92)])) t
        refine XS.dup X116.here hx rfl (hb hby d1_46) rfl rfl ?_
        show Steps p.tables e below (T116.setTop (mkF m 47 #[.val (.int p1), .val (.int p2), .val (.int p3)] [(.ref b102), (.ref b102), (.ref b92), (.ref b92)])) t
        refine XS.iconst X116.here hx rfl (hb hby d1_47) ?_
        show Steps p.tables e below (T116.setTop (mkF m 48 #[.val (.int p1), .val (.int p2), .val (.int p3)] [(.int (1 : Int32)), (.ref b102), (.ref b102), (.ref b92), (.ref b92)])) t
        refine XS.iloadN X116.here hx rfl (hb hby d1_48) rfl ?_
        exact kt
      obtain ⟨cl129, Ar129, q129, S129, M129, H129, G129⟩ := id F117
      have hin129 : ¬ ((1 : Int32) < 0 ∨ cl129.slots.size ≤ ((1 : Int32)).toNatClampNeg) := inb_of S129 ⟨by decide, by decide⟩
      obtain ⟨T129, h129, X129, e129, W129, st129⟩ := stC X116 hx hZ e116 Ar129 (j := (1 : Int32)) hin129 (g := (mkF m 49 #[.val (.int p1), .val (.int p2), .val (.int p3)] [(.int p3), (.int (1 : Int32)), (.ref b102), (.ref b102), (.ref b92), (.ref b92)])) rfl rfl (hb hby d1_49)
      have F130 : Arv Z h129 b102 c102 .char (2 : Int32) [(.int (p2.toUInt32.toUInt16.toUInt32.toInt32)), (.int (p3.toUInt32.toUInt16.toUInt32.toInt32))] (.int (0 : Int32)) := Arv.set Ar129 q129 S129 M129 H129 G129 (fits_nar_char _) W129 1 rfl (Nat.le_of_ble_eq_true rfl)
      have F131 := Safe.wr W129 F119 C120.1 F118
      have F132 := Safe.wr W129 F119 C120.1 F119
      have C133 := CHr.trans C120 (CHr.wr W129 F119 C120.1)
      have F134 := F121.wr W129
      have F135 := F122.wr W129
      have F136 := F123.other W129 (Or.inl ne104)
      have F137 := F124.other W129 (Or.inl ne104)
      have hk_139 := Nat.le_trans hk_126 (Keep.of_wr W129).1
      have Z129 : n0 ≤ h129.size := Nat.le_trans Z116 (Keep.of_wr W129).1
      have K129 : Keep h0 h129 [] := K116.wr W129 (Or.inr sz_b102)
      have N129 := Fr.snoc X129 N116 g_b102
      have k140 : ∀ t, Steps p.tables e below (T129.setTop (mkF m 50 #[.val (.int p1), .val (.int p2), .val (.int p3)] [(.ref b102), (.ref b92), (.ref b92)])) t → Steps p.tables e below (s₁.setTop (entryFrame m #[(.int p1), (.int p2), (.int p3)] 3)) t := fun t kt => k128 t (st129 t kt)
      obtain ⟨_, _, ⟨T141, L141, k141c, n141⟩, -, X141, ⟨Lc141, hQ141, l141, y141, z141⟩, st141⟩ := X129.specialBack hx (y := (⟨"java/lang/String", "<init>", "([C)V"⟩ : MethodName)) rfl hown (mvT hZ (hw _ (List.mem_of_getElem? (i := 9) rfl))) (mvT hZ (hw _ (List.mem_of_getElem? (i := 10) rfl))) (mvT hZ (hw _ (List.mem_of_getElem? (i := 11) rfl))) (by decide) (backOf (W := 1) (rmSi2 l Z a0 hw [] b92 b102 .null (.int (0 : Int32)) c102 cs (p2.toUInt32.toUInt16.toUInt32.toInt32) (p3.toUInt32.toUInt16.toUInt32.toInt32) h129 n0 Z129 F137 F136 F135 g_b92 ne104 F130 F134 hcs (by rw [own_ch p2 r2.1 (by omega)]; exact own_n255 _ r2.2) (by rw [own_ch p3 r3.1 (by omega)]; exact own_n255 _ r3.2)) hZ (hw _ (List.mem_of_getElem? (i := 11) rfl)) (hw _ (List.mem_of_getElem? (i := 7) rfl)) (by decide) (by decide)) (g := (mkF m 50 #[.val (.int p1), .val (.int p2), .val (.int p3)] [(.ref b102), (.ref b92), (.ref b92)])) rfl (by rw [hml]; rfl) (Steps.refl _) (a := b92) (argsL := [(.ref b102)]) (rest := [(.ref b92)]) (lenOf own_pd4 rfl) rfl (by show 2 * 0 + _ ≤ _; exact Nat.le_of_eq rfl) (hb hby d1_50) (fun _ _ => ⟨rfl, e129, (by decide : 2 + 1 ≤ _), (by decide : 6 + 2 ≤ _)⟩)
      dsimp only [Pt.U, Pt.locs, Pt.cells, Pt.slots] at X141 l141 y141 z141 st141 hQ141
      subst l141 y141 z141
      obtain ⟨rfl, N141q, K141k, -, b141, c141k, s141z, Fv141, Fc141, A141, Bx141⟩ := hQ141
      have N141 := Fr.app N129 N141q
      have g_b141 : n0 ≤ b141 := Nat.le_trans Z129 s141z
      have sz_b141 : h0.size ≤ b141 := Nat.le_trans K129.1 s141z
      have ne142 : b92 ≠ b141 := Nat.ne_of_lt (Nat.lt_of_lt_of_le F135.lt s141z)
      have ne143 : b102 ≠ b141 := Nat.ne_of_lt (Nat.lt_of_lt_of_le F130.lt s141z)
      have F144 := Safe.keep K141k (sfS F131 sf0) C133.1 F131
      have F145 := Safe.keep K141k (sfS F131 sf0) C133.1 F132
      have C146 := CHr.trans C133 (CHr.keep K141k (sfS F131 sf0) C133.1)
      have F148 := F135.keep K141k
      have F151 := F130.keep K141k (ninS (Ne.symm ne104) nin0)
      have hk_152 := Nat.le_trans hk_139 K141k.1
      have Z153 : n0 ≤ T141.heap.size := Nat.le_trans Z129 K141k.1
      have K153 : Keep h0 T141.heap [] := K129.trans K141k (allS (Or.inr sz_b92) all0)
      have k154 : ∀ t, Steps p.tables e below (T141.setTop (mkF m 53 #[.val (.int p1), .val (.int p2), .val (.int p3)] [(.ref b92)])) t → Steps p.tables e below (s₁.setTop (entryFrame m #[(.int p1), (.int p2), (.int p3)] 3)) t := fun t kt => k140 t (st141.trans kt)
      obtain ⟨fs, hr, hrun, hended, hRW⟩ := X141.leaveW hS0 hk_152 (v := some (.ref b92)) (fun h => by rw [Bd.returns] at h; cases h)
      refine ⟨_, _, k154 _ ?_, hrun, hended, _, _, rfl, ?_, ?_, hRW.1, hRW.2.1, hRW.2.2.1, hRW.2.2.2.mono (by decide) (by decide)⟩
      · show Steps p.tables e below (T141.setTop (mkF m 53 #[.val (.int p1), .val (.int p2), .val (.int p3)] [(.ref b92)])) _
        jvm_step X141.here [X141.here.top, hx, (hb hby d1_53), X141.method', Bd.returns, Value.isRef, FieldType.isReference]
        first | (intro acts; rw [hr _ acts rfl rfl rfl]) | rw [hr _ _ rfl rfl rfl]
        exact Steps.refl _
      · show QMk Z p1 p2 p3 cs h0 n0 _ T141.heap _
        rw [own_ch p2 r2.1 (by omega)] at A141
        rw [own_ch p3 r3.1 (by omega)] at A141
        have hp2 : p1 = (2 : Int32) := by rcases hp with q | q | q <;> first | exact q | exact absurd q (by assumption)
        exact ⟨b92, b141, c141k, rfl, N141, K153, sz_b92, F148, Fv141, Fc141, own_arvT A141 hp2 (by first | exact fun _ _ => rfl | intro i hi; have e : (2 : Int32).toNatClampNeg = 2 := rfl; rw [e] at hi; rcases i with _ | _ | i <;> first | rfl | omega), Bx141⟩
      · show CHr Z own_EL s.vm s.heap T141.vm T141.heap
        rw [hh]
        exact CHr.trans C146 (CHv.at (s := s) (vm0 := s.vm) X141 hZ hEL C146.1)
theorem d19_0 : decode jdk_43_method_13_code 0 = .ok (.aload_n 0, 1) := by decide +kernel
theorem d19_1 : decode jdk_43_method_13_code 1 = .ok (.arraylength, 1) := by decide +kernel
theorem d19_2 : decode jdk_43_method_13_code 2 = .ok (.aload_n 1, 1) := by decide +kernel
theorem d19_3 : decode jdk_43_method_13_code 3 = .ok (.arraylength, 1) := by decide +kernel
theorem d19_4 : decode jdk_43_method_13_code 4 = .ok (.if_icmp .ne 30, 3) := by decide +kernel
theorem d19_7 : decode jdk_43_method_13_code 7 = .ok (.iconst 0, 1) := by decide +kernel
theorem d19_8 : decode jdk_43_method_13_code 8 = .ok (.istore_n 2, 1) := by decide +kernel
theorem d19_9 : decode jdk_43_method_13_code 9 = .ok (.iload_n 2, 1) := by decide +kernel
theorem d19_10 : decode jdk_43_method_13_code 10 = .ok (.aload_n 0, 1) := by decide +kernel
theorem d19_11 : decode jdk_43_method_13_code 11 = .ok (.arraylength, 1) := by decide +kernel
theorem d19_12 : decode jdk_43_method_13_code 12 = .ok (.if_icmp .ge 20, 3) := by decide +kernel
theorem d19_15 : decode jdk_43_method_13_code 15 = .ok (.aload_n 0, 1) := by decide +kernel
theorem d19_16 : decode jdk_43_method_13_code 16 = .ok (.iload_n 2, 1) := by decide +kernel
theorem d19_17 : decode jdk_43_method_13_code 17 = .ok (.baload, 1) := by decide +kernel
theorem d19_18 : decode jdk_43_method_13_code 18 = .ok (.aload_n 1, 1) := by decide +kernel
theorem d19_19 : decode jdk_43_method_13_code 19 = .ok (.iload_n 2, 1) := by decide +kernel
theorem d19_20 : decode jdk_43_method_13_code 20 = .ok (.baload, 1) := by decide +kernel
theorem d19_21 : decode jdk_43_method_13_code 21 = .ok (.if_icmp .eq 5, 3) := by decide +kernel
theorem d19_24 : decode jdk_43_method_13_code 24 = .ok (.iconst 0, 1) := by decide +kernel
theorem d19_25 : decode jdk_43_method_13_code 25 = .ok (.ireturn, 1) := by decide +kernel
theorem d19_26 : decode jdk_43_method_13_code 26 = .ok (.iinc 2 1, 3) := by decide +kernel
theorem d19_29 : decode jdk_43_method_13_code 29 = .ok (.goto (-20), 3) := by decide +kernel
theorem d19_32 : decode jdk_43_method_13_code 32 = .ok (.iconst 1, 1) := by decide +kernel
theorem d19_33 : decode jdk_43_method_13_code 33 = .ok (.ireturn, 1) := by decide +kernel
theorem d19_34 : decode jdk_43_method_13_code 34 = .ok (.iconst 0, 1) := by decide +kernel
theorem d19_35 : decode jdk_43_method_13_code 35 = .ok (.ireturn, 1) := by decide +kernel
theorem own_pn3 : plainName "java/lang/StringLatin1" = true := by first | (simp [plainName, overriddenIn]; done) | decide +kernel
theorem rmL_ef (m : MethodId) (x0 : Addr) (x1 : Addr) : entryFrame m #[(.ref x0), (.ref x1)] 3 = mkF m 0 #[.val (.ref x0), .val (.ref x1), .unset] [] := by first | (simp [entryFrame, mkF, argsToLocals, Value.category]; done) | rfl
def QL (Z : State) (bt : Addr) (bo : Addr) (n1 : Int32) (n2 : Int32) (ax : Int32) (ay : Int32) (bx : Int32) (by' : Int32) (kct : ClassId) (ko : ClassId) (h0 : Heap) (n0 : Nat) (v : Option Value) (h : Heap) (L : List Loc) : Prop := v = some (.int (own_se n1 n2 ax ay bx by')) ∧ Fr n0 L ∧ h = h0
set_option maxRecDepth 65536 in
set_option maxHeartbeats 40000000 in
theorem rmL (l : Launch) (Z : State) (a0 : Array Value) (hw : ∀ d ∈ tables_1, d.before a0 Z = true) (ws : List Jvm.Cond) (bt : Addr) (bo : Addr) (n1 : Int32) (n2 : Int32) (ax : Int32) (ay : Int32) (bx : Int32) (by' : Int32) (kct : ClassId) (ko : ClassId) (h0 : Heap) (n0 : Nat) (Z0 : n0 ≤ h0.size) (At : Arv Z h0 bt kct .byte n1 [(.int ax), (.int ay)] (.int (0 : Int32))) (Ao : Arv Z h0 bo ko .byte n2 [(.int bx), (.int by')] (.int (0 : Int32))) (h2 : ¬ ((2 : Int32) < n1)) :
    MetFree l (⟨"java/lang/StringLatin1", "equals", "([B[B)Z"⟩ : MethodName) (head1 (Jvm.Cond.code (⟨"java/lang/StringLatin1", "equals", "([B[B)Z"⟩ : MethodName) jdk_43_method_13_code 3 (some .boolean) :: ws) ({ frames := 0, cells := 0, slots := 0, locals := 0 } : Room)) (fun aA' U => aA' = #[(.ref bt), (.ref bo)] ∧ Z.Warmed39 U.vm ∧ U.heap = h0) (fun _ _ _ _ _ => True) (fun _ U oO' U' => ∃ vV' L, oO' = .returned vV' ∧ QL Z bt bo n1 n2 ax ay bx by' kct ko h0 n0 vV' U'.heap L ∧ FrameEnd U oO' U' L ({ frames := 0, cells := 0, slots := 0, locals := 0 } : Room).cells ({ frames := 0, cells := 0, slots := 0, locals := 0 } : Room).slots) := by
  refine MetFree.of_bodySF (plainFor_of_name own_pn3) hisR ?_
  intro p e s m args below meth c s₁ Bd hml0 hP hK
  obtain ⟨rfl, hZ, hh⟩ := hP
  have hx := Bd.exec
  have hby := Bd.bytes
  have hml : c.maxLocals = 3 := hml0
  have hown : s.vm.findClass "java/lang/StringLatin1" = some m.cls := findClass_of_methodNamed Bd.named
  have hnm := (name_of_methodNamed Bd.named Bd.method).1
  have X0 : Stand p l e ({ frames := 0, cells := 0, slots := 0, locals := 0 } : Room) s m #[(.ref bt), (.ref bo)] below meth c s₁ [] 0 0 := Stand.of_body Bd
  have e0 : s₁.heap = h0 := by rw [← hh, Bd.state]; rfl
  have N0 := Fr.nil n0
  have K0 : Keep h0 h0 [] := Keep.refl _ _
  have k0 : ∀ t, Steps p.tables e below (s₁.setTop (mkF m 0 #[.val (.ref bt), .val (.ref bo), .unset] [])) t → Steps p.tables e below (s₁.setTop (entryFrame m #[(.ref bt), (.ref bo)] 3)) t := fun t k => castTop (rmL_ef m (bt) (bo)) k
  have k1 : ∀ t, Steps p.tables e below (s₁.setTop (mkF m 1 #[.val (.ref bt), .val (.ref bo), .unset] [(.ref bt)])) t → Steps p.tables e below (s₁.setTop (entryFrame m #[(.ref bt), (.ref bo)] 3)) t := by
    intro t kt
    refine k0 t ?_
    show Steps p.tables e below (s₁.setTop (mkF m 0 #[.val (.ref bt), .val (.ref bo), .unset] [])) t
    refine XS.aloadN X0.here hx rfl (hb hby d19_0) rfl rfl ?_
    exact kt
  obtain ⟨cl2, Ar2, -, S2, M2, -, -⟩ := id At
  have k3 : ∀ t, Steps p.tables e below (s₁.setTop (mkF m 2 #[.val (.ref bt), .val (.ref bo), .unset] [(.int n1)])) t → Steps p.tables e below (s₁.setTop (entryFrame m #[(.ref bt), (.ref bo)] 3)) t := fun t kt => k1 t (X0.arraylength hx (by rw [e0]; exact Ar2.1) (State.isArrayOf_alike hZ.alike Ar2.2.1) (g := (mkF m 1 #[.val (.ref bt), .val (.ref bo), .unset] [(.ref bt)])) rfl rfl (hb hby d19_1) t (by rw [len_of S2 M2]; exact kt))
  have k4 : ∀ t, Steps p.tables e below (s₁.setTop (mkF m 3 #[.val (.ref bt), .val (.ref bo), .unset] [(.ref bo), (.int n1)])) t → Steps p.tables e below (s₁.setTop (entryFrame m #[(.ref bt), (.ref bo)] 3)) t := by
    intro t kt
    refine k3 t ?_
    show Steps p.tables e below (s₁.setTop (mkF m 2 #[.val (.ref bt), .val (.ref bo), .unset] [(.int n1)])) t
    refine XS.aloadN X0.here hx rfl (hb hby d19_2) rfl rfl ?_
    exact kt
  obtain ⟨cl5, Ar5, -, S5, M5, -, -⟩ := id Ao
  have k6 : ∀ t, Steps p.tables e below (s₁.setTop (mkF m 4 #[.val (.ref bt), .val (.ref bo), .unset] [(.int n2), (.int n1)])) t → Steps p.tables e below (s₁.setTop (entryFrame m #[(.ref bt), (.ref bo)] 3)) t := fun t kt => k4 t (X0.arraylength hx (by rw [e0]; exact Ar5.1) (State.isArrayOf_alike hZ.alike Ar5.2.1) (g := (mkF m 3 #[.val (.ref bt), .val (.ref bo), .unset] [(.ref bo), (.int n1)])) rfl rfl (hb hby d19_3) t (by rw [len_of S5 M5]; exact kt))
  by_cases hc4_7 : n1 = n2
  · have k8 : ∀ t, Steps p.tables e below (s₁.setTop (mkF m 11 #[.val (.ref bt), .val (.ref bo), .val (.int (0 : Int32))] [(.ref bt), (.int (0 : Int32))])) t → Steps p.tables e below (s₁.setTop (entryFrame m #[(.ref bt), (.ref bo)] 3)) t := by
      intro t kt
      refine k6 t ?_
      show Steps p.tables e below (s₁.setTop (mkF m 4 #[.val (.ref bt), .val (.ref bo), .unset] [(.int n2), (.int n1)])) t
      refine XS.icmpNo X0.here hx rfl (hb hby d19_4) rfl (teq hc4_7).2 ?_
      show Steps p.tables e below (s₁.setTop (mkF m 7 #[.val (.ref bt), .val (.ref bo), .unset] [])) t
      refine XS.iconst X0.here hx rfl (hb hby d19_7) ?_
      show Steps p.tables e below (s₁.setTop (mkF m 8 #[.val (.ref bt), .val (.ref bo), .unset] [(.int (0 : Int32))])) t
      refine XS.istoreN X0.here hx rfl (hb hby d19_8) rfl (l' := #[.val (.ref bt), .val (.ref bo), .val (.int (0 : Int32))]) rfl ?_
      show Steps p.tables e below (s₁.setTop (mkF m 9 #[.val (.ref bt), .val (.ref bo), .val (.int (0 : Int32))] [])) t
      refine XS.iloadN X0.here hx rfl (hb hby d19_9) rfl ?_
      show Steps p.tables e below (s₁.setTop (mkF m 10 #[.val (.ref bt), .val (.ref bo), .val (.int (0 : Int32))] [(.int (0 : Int32))])) t
      refine XS.aloadN X0.here hx rfl (hb hby d19_10) rfl rfl ?_
      exact kt
    obtain ⟨cl9, Ar9, -, S9, M9, -, -⟩ := id At
    have k10 : ∀ t, Steps p.tables e below (s₁.setTop (mkF m 12 #[.val (.ref bt), .val (.ref bo), .val (.int (0 : Int32))] [(.int n1), (.int (0 : Int32))])) t → Steps p.tables e below (s₁.setTop (entryFrame m #[(.ref bt), (.ref bo)] 3)) t := fun t kt => k8 t (X0.arraylength hx (by rw [e0]; exact Ar9.1) (State.isArrayOf_alike hZ.alike Ar9.2.1) (g := (mkF m 11 #[.val (.ref bt), .val (.ref bo), .val (.int (0 : Int32))] [(.ref bt), (.int (0 : Int32))])) rfl rfl (hb hby d19_11) t (by rw [len_of S9 M9]; exact kt))
    by_cases hc12_11 : (0 : Int32) < n1
    · have k12 : ∀ t, Steps p.tables e below (s₁.setTop (mkF m 17 #[.val (.ref bt), .val (.ref bo), .val (.int (0 : Int32))] [(.int (0 : Int32)), (.ref bt)])) t → Steps p.tables e below (s₁.setTop (entryFrame m #[(.ref bt), (.ref bo)] 3)) t := by
        intro t kt
        refine k10 t ?_
        show Steps p.tables e below (s₁.setTop (mkF m 12 #[.val (.ref bt), .val (.ref bo), .val (.int (0 : Int32))] [(.int n1), (.int (0 : Int32))])) t
        refine XS.icmpNo X0.here hx rfl (hb hby d19_12) rfl (tlt hc12_11).2.1 ?_
        show Steps p.tables e below (s₁.setTop (mkF m 15 #[.val (.ref bt), .val (.ref bo), .val (.int (0 : Int32))] [])) t
        refine XS.aloadN X0.here hx rfl (hb hby d19_15) rfl rfl ?_
        show Steps p.tables e below (s₁.setTop (mkF m 16 #[.val (.ref bt), .val (.ref bo), .val (.int (0 : Int32))] [(.ref bt)])) t
        refine XS.iloadN X0.here hx rfl (hb hby d19_16) rfl ?_
        exact kt
      obtain ⟨cl13, Ar13, q13, S13, M13, H13, G13⟩ := id At
      have hin13 : ¬ ((0 : Int32) < 0 ∨ cl13.slots.size ≤ ((0 : Int32)).toNatClampNeg) := inb_of S13 ⟨by decide, hc12_11⟩
      have hat13 : cl13.slots[((0 : Int32)).toNatClampNeg]? = some (.int ax) := Has.at H13 hin13 rfl
      have k14 : ∀ t, Steps p.tables e below (s₁.setTop (mkF m 18 #[.val (.ref bt), .val (.ref bo), .val (.int (0 : Int32))] [(.int ax)])) t → Steps p.tables e below (s₁.setTop (entryFrame m #[(.ref bt), (.ref bo)] 3)) t := fun t kt => k12 t (X0.baloadBytes hx (j := (0 : Int32)) (v := (.int ax)) (by rw [e0]; exact Ar13.1) (State.isArrayOf_alike hZ.alike Ar13.2.1) Ar13.2.2 hin13 hat13 (g := (mkF m 17 #[.val (.ref bt), .val (.ref bo), .val (.int (0 : Int32))] [(.int (0 : Int32)), (.ref bt)])) rfl rfl (hb hby d19_17) t kt)
      have k15 : ∀ t, Steps p.tables e below (s₁.setTop (mkF m 20 #[.val (.ref bt), .val (.ref bo), .val (.int (0 : Int32))] [(.int (0 : Int32)), (.ref bo), (.int ax)])) t → Steps p.tables e below (s₁.setTop (entryFrame m #[(.ref bt), (.ref bo)] 3)) t := by
        intro t kt
        refine k14 t ?_
        show Steps p.tables e below (s₁.setTop (mkF m 18 #[.val (.ref bt), .val (.ref bo), .val (.int (0 : Int32))] [(.int ax)])) t
        refine XS.aloadN X0.here hx rfl (hb hby d19_18) rfl rfl ?_
        show Steps p.tables e below (s₁.setTop (mkF m 19 #[.val (.ref bt), .val (.ref bo), .val (.int (0 : Int32))] [(.ref bo), (.int ax)])) t
        refine XS.iloadN X0.here hx rfl (hb hby d19_19) rfl ?_
        exact kt
      obtain ⟨cl16, Ar16, q16, S16, M16, H16, G16⟩ := id Ao
      have hin16 : ¬ ((0 : Int32) < 0 ∨ cl16.slots.size ≤ ((0 : Int32)).toNatClampNeg) := inb_of S16 ⟨by decide, (by rw [← hc4_7]; exact hc12_11)⟩
      have hat16 : cl16.slots[((0 : Int32)).toNatClampNeg]? = some (.int bx) := Has.at H16 hin16 rfl
      have k17 : ∀ t, Steps p.tables e below (s₁.setTop (mkF m 21 #[.val (.ref bt), .val (.ref bo), .val (.int (0 : Int32))] [(.int bx), (.int ax)])) t → Steps p.tables e below (s₁.setTop (entryFrame m #[(.ref bt), (.ref bo)] 3)) t := fun t kt => k15 t (X0.baloadBytes hx (j := (0 : Int32)) (v := (.int bx)) (by rw [e0]; exact Ar16.1) (State.isArrayOf_alike hZ.alike Ar16.2.1) Ar16.2.2 hin16 hat16 (g := (mkF m 20 #[.val (.ref bt), .val (.ref bo), .val (.int (0 : Int32))] [(.int (0 : Int32)), (.ref bo), (.int ax)])) rfl rfl (hb hby d19_20) t kt)
      by_cases hc21_18 : ax = bx
      · have k19 : ∀ t, Steps p.tables e below (s₁.setTop (mkF m 11 #[.val (.ref bt), .val (.ref bo), .val (.int (1 : Int32))] [(.ref bt), (.int (1 : Int32))])) t → Steps p.tables e below (s₁.setTop (entryFrame m #[(.ref bt), (.ref bo)] 3)) t := by
          intro t kt
          refine k17 t ?_
          show Steps p.tables e below (s₁.setTop (mkF m 21 #[.val (.ref bt), .val (.ref bo), .val (.int (0 : Int32))] [(.int bx), (.int ax)])) t
          refine XS.icmpYes X0.here hx rfl (pc0 := 21) (pc' := 26) rfl (hb hby d19_21) rfl (teq hc21_18).1 (by decide) (by decide) ?_
          show Steps p.tables e below (s₁.setTop (mkF m 26 #[.val (.ref bt), .val (.ref bo), .val (.int (0 : Int32))] [])) t
          refine XS.iinc X0.here hx rfl (hb hby d19_26) rfl (l' := #[.val (.ref bt), .val (.ref bo), .val (.int (1 : Int32))]) rfl ?_
          show Steps p.tables e below (s₁.setTop (mkF m 29 #[.val (.ref bt), .val (.ref bo), .val (.int (1 : Int32))] [])) t
          refine XS.goto X0.here hx rfl (pc0 := 29) (pc' := 9) rfl (hb hby d19_29) (by decide) (by decide) ?_
          show Steps p.tables e below (s₁.setTop (mkF m 9 #[.val (.ref bt), .val (.ref bo), .val (.int (1 : Int32))] [])) t
          refine XS.iloadN X0.here hx rfl (hb hby d19_9) rfl ?_
          show Steps p.tables e below (s₁.setTop (mkF m 10 #[.val (.ref bt), .val (.ref bo), .val (.int (1 : Int32))] [(.int (1 : Int32))])) t
          refine XS.aloadN X0.here hx rfl (hb hby d19_10) rfl rfl ?_
          exact kt
        obtain ⟨cl20, Ar20, -, S20, M20, -, -⟩ := id At
        have k21 : ∀ t, Steps p.tables e below (s₁.setTop (mkF m 12 #[.val (.ref bt), .val (.ref bo), .val (.int (1 : Int32))] [(.int n1), (.int (1 : Int32))])) t → Steps p.tables e below (s₁.setTop (entryFrame m #[(.ref bt), (.ref bo)] 3)) t := fun t kt => k19 t (X0.arraylength hx (by rw [e0]; exact Ar20.1) (State.isArrayOf_alike hZ.alike Ar20.2.1) (g := (mkF m 11 #[.val (.ref bt), .val (.ref bo), .val (.int (1 : Int32))] [(.ref bt), (.int (1 : Int32))])) rfl rfl (hb hby d19_11) t (by rw [len_of S20 M20]; exact kt))
        by_cases hc12_22 : (1 : Int32) < n1
        · have k23 : ∀ t, Steps p.tables e below (s₁.setTop (mkF m 17 #[.val (.ref bt), .val (.ref bo), .val (.int (1 : Int32))] [(.int (1 : Int32)), (.ref bt)])) t → Steps p.tables e below (s₁.setTop (entryFrame m #[(.ref bt), (.ref bo)] 3)) t := by
            intro t kt
            refine k21 t ?_
            show Steps p.tables e below (s₁.setTop (mkF m 12 #[.val (.ref bt), .val (.ref bo), .val (.int (1 : Int32))] [(.int n1), (.int (1 : Int32))])) t
            refine XS.icmpNo X0.here hx rfl (hb hby d19_12) rfl (tlt hc12_22).2.1 ?_
            show Steps p.tables e below (s₁.setTop (mkF m 15 #[.val (.ref bt), .val (.ref bo), .val (.int (1 : Int32))] [])) t
            refine XS.aloadN X0.here hx rfl (hb hby d19_15) rfl rfl ?_
            show Steps p.tables e below (s₁.setTop (mkF m 16 #[.val (.ref bt), .val (.ref bo), .val (.int (1 : Int32))] [(.ref bt)])) t
            refine XS.iloadN X0.here hx rfl (hb hby d19_16) rfl ?_
            exact kt
          obtain ⟨cl24, Ar24, q24, S24, M24, H24, G24⟩ := id At
          have hin24 : ¬ ((1 : Int32) < 0 ∨ cl24.slots.size ≤ ((1 : Int32)).toNatClampNeg) := inb_of S24 ⟨by decide, hc12_22⟩
          have hat24 : cl24.slots[((1 : Int32)).toNatClampNeg]? = some (.int ay) := Has.at H24 hin24 rfl
          have k25 : ∀ t, Steps p.tables e below (s₁.setTop (mkF m 18 #[.val (.ref bt), .val (.ref bo), .val (.int (1 : Int32))] [(.int ay)])) t → Steps p.tables e below (s₁.setTop (entryFrame m #[(.ref bt), (.ref bo)] 3)) t := fun t kt => k23 t (X0.baloadBytes hx (j := (1 : Int32)) (v := (.int ay)) (by rw [e0]; exact Ar24.1) (State.isArrayOf_alike hZ.alike Ar24.2.1) Ar24.2.2 hin24 hat24 (g := (mkF m 17 #[.val (.ref bt), .val (.ref bo), .val (.int (1 : Int32))] [(.int (1 : Int32)), (.ref bt)])) rfl rfl (hb hby d19_17) t kt)
          have k26 : ∀ t, Steps p.tables e below (s₁.setTop (mkF m 20 #[.val (.ref bt), .val (.ref bo), .val (.int (1 : Int32))] [(.int (1 : Int32)), (.ref bo), (.int ay)])) t → Steps p.tables e below (s₁.setTop (entryFrame m #[(.ref bt), (.ref bo)] 3)) t := by
            intro t kt
            refine k25 t ?_
            show Steps p.tables e below (s₁.setTop (mkF m 18 #[.val (.ref bt), .val (.ref bo), .val (.int (1 : Int32))] [(.int ay)])) t
            refine XS.aloadN X0.here hx rfl (hb hby d19_18) rfl rfl ?_
            show Steps p.tables e below (s₁.setTop (mkF m 19 #[.val (.ref bt), .val (.ref bo), .val (.int (1 : Int32))] [(.ref bo), (.int ay)])) t
            refine XS.iloadN X0.here hx rfl (hb hby d19_19) rfl ?_
            exact kt
          obtain ⟨cl27, Ar27, q27, S27, M27, H27, G27⟩ := id Ao
          have hin27 : ¬ ((1 : Int32) < 0 ∨ cl27.slots.size ≤ ((1 : Int32)).toNatClampNeg) := inb_of S27 ⟨by decide, (by rw [← hc4_7]; exact hc12_22)⟩
          have hat27 : cl27.slots[((1 : Int32)).toNatClampNeg]? = some (.int by') := Has.at H27 hin27 rfl
          have k28 : ∀ t, Steps p.tables e below (s₁.setTop (mkF m 21 #[.val (.ref bt), .val (.ref bo), .val (.int (1 : Int32))] [(.int by'), (.int ay)])) t → Steps p.tables e below (s₁.setTop (entryFrame m #[(.ref bt), (.ref bo)] 3)) t := fun t kt => k26 t (X0.baloadBytes hx (j := (1 : Int32)) (v := (.int by')) (by rw [e0]; exact Ar27.1) (State.isArrayOf_alike hZ.alike Ar27.2.1) Ar27.2.2 hin27 hat27 (g := (mkF m 20 #[.val (.ref bt), .val (.ref bo), .val (.int (1 : Int32))] [(.int (1 : Int32)), (.ref bo), (.int ay)])) rfl rfl (hb hby d19_20) t kt)
          by_cases hc21_29 : ay = by'
          · have k30 : ∀ t, Steps p.tables e below (s₁.setTop (mkF m 11 #[.val (.ref bt), .val (.ref bo), .val (.int (2 : Int32))] [(.ref bt), (.int (2 : Int32))])) t → Steps p.tables e below (s₁.setTop (entryFrame m #[(.ref bt), (.ref bo)] 3)) t := by
              intro t kt
              refine k28 t ?_
              show Steps p.tables e below (s₁.setTop (mkF m 21 #[.val (.ref bt), .val (.ref bo), .val (.int (1 : Int32))] [(.int by'), (.int ay)])) t
              refine XS.icmpYes X0.here hx rfl (pc0 := 21) (pc' := 26) rfl (hb hby d19_21) rfl (teq hc21_29).1 (by decide) (by decide) ?_
              show Steps p.tables e below (s₁.setTop (mkF m 26 #[.val (.ref bt), .val (.ref bo), .val (.int (1 : Int32))] [])) t
              refine XS.iinc X0.here hx rfl (hb hby d19_26) rfl (l' := #[.val (.ref bt), .val (.ref bo), .val (.int (2 : Int32))]) rfl ?_
              show Steps p.tables e below (s₁.setTop (mkF m 29 #[.val (.ref bt), .val (.ref bo), .val (.int (2 : Int32))] [])) t
              refine XS.goto X0.here hx rfl (pc0 := 29) (pc' := 9) rfl (hb hby d19_29) (by decide) (by decide) ?_
              show Steps p.tables e below (s₁.setTop (mkF m 9 #[.val (.ref bt), .val (.ref bo), .val (.int (2 : Int32))] [])) t
              refine XS.iloadN X0.here hx rfl (hb hby d19_9) rfl ?_
              show Steps p.tables e below (s₁.setTop (mkF m 10 #[.val (.ref bt), .val (.ref bo), .val (.int (2 : Int32))] [(.int (2 : Int32))])) t
              refine XS.aloadN X0.here hx rfl (hb hby d19_10) rfl rfl ?_
              exact kt
            obtain ⟨cl31, Ar31, -, S31, M31, -, -⟩ := id At
            have k32 : ∀ t, Steps p.tables e below (s₁.setTop (mkF m 12 #[.val (.ref bt), .val (.ref bo), .val (.int (2 : Int32))] [(.int n1), (.int (2 : Int32))])) t → Steps p.tables e below (s₁.setTop (entryFrame m #[(.ref bt), (.ref bo)] 3)) t := fun t kt => k30 t (X0.arraylength hx (by rw [e0]; exact Ar31.1) (State.isArrayOf_alike hZ.alike Ar31.2.1) (g := (mkF m 11 #[.val (.ref bt), .val (.ref bo), .val (.int (2 : Int32))] [(.ref bt), (.int (2 : Int32))])) rfl rfl (hb hby d19_11) t (by rw [len_of S31 M31]; exact kt))
            have hc12_33 : ¬ ((2 : Int32) < n1) := h2
            have k34 : ∀ t, Steps p.tables e below (s₁.setTop (mkF m 33 #[.val (.ref bt), .val (.ref bo), .val (.int (2 : Int32))] [(.int (1 : Int32))])) t → Steps p.tables e below (s₁.setTop (entryFrame m #[(.ref bt), (.ref bo)] 3)) t := by
              intro t kt
              refine k32 t ?_
              show Steps p.tables e below (s₁.setTop (mkF m 12 #[.val (.ref bt), .val (.ref bo), .val (.int (2 : Int32))] [(.int n1), (.int (2 : Int32))])) t
              refine XS.icmpYes X0.here hx rfl (pc0 := 12) (pc' := 32) rfl (hb hby d19_12) rfl (flt hc12_33).2.1 (by decide) (by decide) ?_
              show Steps p.tables e below (s₁.setTop (mkF m 32 #[.val (.ref bt), .val (.ref bo), .val (.int (2 : Int32))] [])) t
              refine XS.iconst X0.here hx rfl (hb hby d19_32) ?_
              exact kt
            obtain ⟨fs, hr, hrun, hended, hW, hsame⟩ := X0.leave (v := some (.int (1 : Int32))) (fun h => by rw [Bd.returns] at h; cases h)
            refine ⟨_, _, k34 _ ?_, hrun, hended, _, _, rfl, ?_, ⟨_, rfl⟩, hW, hsame.mono (by decide) (by decide)⟩
            · show Steps p.tables e below (s₁.setTop (mkF m 33 #[.val (.ref bt), .val (.ref bo), .val (.int (2 : Int32))] [(.int (1 : Int32))])) _
              exact retN X0 hx (t := .boolean) Bd.returns (by simp) (hb hby d19_33) hr
            · show QL Z bt bo n1 n2 ax ay bx by' kct ko h0 n0 _ s₁.heap _
              rw [e0]
              refine ⟨congrArg (fun z => some (Value.int z)) ?_, N0, rfl⟩
              unfold own_se; rw [if_pos hc4_7, if_pos hc12_11, if_pos hc21_18, if_pos hc12_22, if_pos hc21_29]
          · have k35 : ∀ t, Steps p.tables e below (s₁.setTop (mkF m 25 #[.val (.ref bt), .val (.ref bo), .val (.int (1 : Int32))] [(.int (0 : Int32))])) t → Steps p.tables e below (s₁.setTop (entryFrame m #[(.ref bt), (.ref bo)] 3)) t := by
              intro t kt
              refine k28 t ?_
              show Steps p.tables e below (s₁.setTop (mkF m 21 #[.val (.ref bt), .val (.ref bo), .val (.int (1 : Int32))] [(.int by'), (.int ay)])) t
              refine XS.icmpNo X0.here hx rfl (hb hby d19_21) rfl (feq hc21_29).1 ?_
              show Steps p.tables e below (s₁.setTop (mkF m 24 #[.val (.ref bt), .val (.ref bo), .val (.int (1 : Int32))] [])) t
              refine XS.iconst X0.here hx rfl (hb hby d19_24) ?_
              exact kt
            obtain ⟨fs, hr, hrun, hended, hW, hsame⟩ := X0.leave (v := some (.int (0 : Int32))) (fun h => by rw [Bd.returns] at h; cases h)
            refine ⟨_, _, k35 _ ?_, hrun, hended, _, _, rfl, ?_, ⟨_, rfl⟩, hW, hsame.mono (by decide) (by decide)⟩
            · show Steps p.tables e below (s₁.setTop (mkF m 25 #[.val (.ref bt), .val (.ref bo), .val (.int (1 : Int32))] [(.int (0 : Int32))])) _
              exact retN X0 hx (t := .boolean) Bd.returns (by simp) (hb hby d19_25) hr
            · show QL Z bt bo n1 n2 ax ay bx by' kct ko h0 n0 _ s₁.heap _
              rw [e0]
              refine ⟨congrArg (fun z => some (Value.int z)) ?_, N0, rfl⟩
              unfold own_se; rw [if_pos hc4_7, if_pos hc12_11, if_pos hc21_18, if_pos hc12_22, if_neg hc21_29]
        · have k36 : ∀ t, Steps p.tables e below (s₁.setTop (mkF m 33 #[.val (.ref bt), .val (.ref bo), .val (.int (1 : Int32))] [(.int (1 : Int32))])) t → Steps p.tables e below (s₁.setTop (entryFrame m #[(.ref bt), (.ref bo)] 3)) t := by
            intro t kt
            refine k21 t ?_
            show Steps p.tables e below (s₁.setTop (mkF m 12 #[.val (.ref bt), .val (.ref bo), .val (.int (1 : Int32))] [(.int n1), (.int (1 : Int32))])) t
            refine XS.icmpYes X0.here hx rfl (pc0 := 12) (pc' := 32) rfl (hb hby d19_12) rfl (flt hc12_22).2.1 (by decide) (by decide) ?_
            show Steps p.tables e below (s₁.setTop (mkF m 32 #[.val (.ref bt), .val (.ref bo), .val (.int (1 : Int32))] [])) t
            refine XS.iconst X0.here hx rfl (hb hby d19_32) ?_
            exact kt
          obtain ⟨fs, hr, hrun, hended, hW, hsame⟩ := X0.leave (v := some (.int (1 : Int32))) (fun h => by rw [Bd.returns] at h; cases h)
          refine ⟨_, _, k36 _ ?_, hrun, hended, _, _, rfl, ?_, ⟨_, rfl⟩, hW, hsame.mono (by decide) (by decide)⟩
          · show Steps p.tables e below (s₁.setTop (mkF m 33 #[.val (.ref bt), .val (.ref bo), .val (.int (1 : Int32))] [(.int (1 : Int32))])) _
            exact retN X0 hx (t := .boolean) Bd.returns (by simp) (hb hby d19_33) hr
          · show QL Z bt bo n1 n2 ax ay bx by' kct ko h0 n0 _ s₁.heap _
            rw [e0]
            refine ⟨congrArg (fun z => some (Value.int z)) ?_, N0, rfl⟩
            unfold own_se; rw [if_pos hc4_7, if_pos hc12_11, if_pos hc21_18, if_neg hc12_22]
      · have k37 : ∀ t, Steps p.tables e below (s₁.setTop (mkF m 25 #[.val (.ref bt), .val (.ref bo), .val (.int (0 : Int32))] [(.int (0 : Int32))])) t → Steps p.tables e below (s₁.setTop (entryFrame m #[(.ref bt), (.ref bo)] 3)) t := by
          intro t kt
          refine k17 t ?_
          show Steps p.tables e below (s₁.setTop (mkF m 21 #[.val (.ref bt), .val (.ref bo), .val (.int (0 : Int32))] [(.int bx), (.int ax)])) t
          refine XS.icmpNo X0.here hx rfl (hb hby d19_21) rfl (feq hc21_18).1 ?_
          show Steps p.tables e below (s₁.setTop (mkF m 24 #[.val (.ref bt), .val (.ref bo), .val (.int (0 : Int32))] [])) t
          refine XS.iconst X0.here hx rfl (hb hby d19_24) ?_
          exact kt
        obtain ⟨fs, hr, hrun, hended, hW, hsame⟩ := X0.leave (v := some (.int (0 : Int32))) (fun h => by rw [Bd.returns] at h; cases h)
        refine ⟨_, _, k37 _ ?_, hrun, hended, _, _, rfl, ?_, ⟨_, rfl⟩, hW, hsame.mono (by decide) (by decide)⟩
        · show Steps p.tables e below (s₁.setTop (mkF m 25 #[.val (.ref bt), .val (.ref bo), .val (.int (0 : Int32))] [(.int (0 : Int32))])) _
          exact retN X0 hx (t := .boolean) Bd.returns (by simp) (hb hby d19_25) hr
        · show QL Z bt bo n1 n2 ax ay bx by' kct ko h0 n0 _ s₁.heap _
          rw [e0]
          refine ⟨congrArg (fun z => some (Value.int z)) ?_, N0, rfl⟩
          unfold own_se; rw [if_pos hc4_7, if_pos hc12_11, if_neg hc21_18]
    · have k38 : ∀ t, Steps p.tables e below (s₁.setTop (mkF m 33 #[.val (.ref bt), .val (.ref bo), .val (.int (0 : Int32))] [(.int (1 : Int32))])) t → Steps p.tables e below (s₁.setTop (entryFrame m #[(.ref bt), (.ref bo)] 3)) t := by
        intro t kt
        refine k10 t ?_
        show Steps p.tables e below (s₁.setTop (mkF m 12 #[.val (.ref bt), .val (.ref bo), .val (.int (0 : Int32))] [(.int n1), (.int (0 : Int32))])) t
        refine XS.icmpYes X0.here hx rfl (pc0 := 12) (pc' := 32) rfl (hb hby d19_12) rfl (flt hc12_11).2.1 (by decide) (by decide) ?_
        show Steps p.tables e below (s₁.setTop (mkF m 32 #[.val (.ref bt), .val (.ref bo), .val (.int (0 : Int32))] [])) t
        refine XS.iconst X0.here hx rfl (hb hby d19_32) ?_
        exact kt
      obtain ⟨fs, hr, hrun, hended, hW, hsame⟩ := X0.leave (v := some (.int (1 : Int32))) (fun h => by rw [Bd.returns] at h; cases h)
      refine ⟨_, _, k38 _ ?_, hrun, hended, _, _, rfl, ?_, ⟨_, rfl⟩, hW, hsame.mono (by decide) (by decide)⟩
      · show Steps p.tables e below (s₁.setTop (mkF m 33 #[.val (.ref bt), .val (.ref bo), .val (.int (0 : Int32))] [(.int (1 : Int32))])) _
        exact retN X0 hx (t := .boolean) Bd.returns (by simp) (hb hby d19_33) hr
      · show QL Z bt bo n1 n2 ax ay bx by' kct ko h0 n0 _ s₁.heap _
        rw [e0]
        refine ⟨congrArg (fun z => some (Value.int z)) ?_, N0, rfl⟩
        unfold own_se; rw [if_pos hc4_7, if_neg hc12_11]
  · have k39 : ∀ t, Steps p.tables e below (s₁.setTop (mkF m 35 #[.val (.ref bt), .val (.ref bo), .unset] [(.int (0 : Int32))])) t → Steps p.tables e below (s₁.setTop (entryFrame m #[(.ref bt), (.ref bo)] 3)) t := by
      intro t kt
      refine k6 t ?_
      show Steps p.tables e below (s₁.setTop (mkF m 4 #[.val (.ref bt), .val (.ref bo), .unset] [(.int n2), (.int n1)])) t
      refine XS.icmpYes X0.here hx rfl (pc0 := 4) (pc' := 34) rfl (hb hby d19_4) rfl (feq hc4_7).2 (by decide) (by decide) ?_
      show Steps p.tables e below (s₁.setTop (mkF m 34 #[.val (.ref bt), .val (.ref bo), .unset] [])) t
      refine XS.iconst X0.here hx rfl (hb hby d19_34) ?_
      exact kt
    obtain ⟨fs, hr, hrun, hended, hW, hsame⟩ := X0.leave (v := some (.int (0 : Int32))) (fun h => by rw [Bd.returns] at h; cases h)
    refine ⟨_, _, k39 _ ?_, hrun, hended, _, _, rfl, ?_, ⟨_, rfl⟩, hW, hsame.mono (by decide) (by decide)⟩
    · show Steps p.tables e below (s₁.setTop (mkF m 35 #[.val (.ref bt), .val (.ref bo), .unset] [(.int (0 : Int32))])) _
      exact retN X0 hx (t := .boolean) Bd.returns (by simp) (hb hby d19_35) hr
    · show QL Z bt bo n1 n2 ax ay bx by' kct ko h0 n0 _ s₁.heap _
      rw [e0]
      refine ⟨congrArg (fun z => some (Value.int z)) ?_, N0, rfl⟩
      unfold own_se; rw [if_neg hc4_7]
theorem d18_0 : decode jdk_42_method_66_code 0 = .ok (.aload_n 0, 1) := by decide +kernel
theorem d18_1 : decode jdk_42_method_66_code 1 = .ok (.aload_n 1, 1) := by decide +kernel
theorem d18_2 : decode jdk_42_method_66_code 2 = .ok (.if_acmp .ne 5, 3) := by decide +kernel
theorem d18_5 : decode jdk_42_method_66_code 5 = .ok (.iconst 1, 1) := by decide +kernel
theorem d18_6 : decode jdk_42_method_66_code 6 = .ok (.ireturn, 1) := by decide +kernel
theorem d18_7 : decode jdk_42_method_66_code 7 = .ok (.aload_n 1, 1) := by decide +kernel
theorem d18_8 : decode jdk_42_method_66_code 8 = .ok (.instanceof 10, 3) := by decide +kernel
theorem d18_11 : decode jdk_42_method_66_code 11 = .ok (.ifCond .eq 43, 3) := by decide +kernel
theorem d18_14 : decode jdk_42_method_66_code 14 = .ok (.aload_n 1, 1) := by decide +kernel
theorem d18_15 : decode jdk_42_method_66_code 15 = .ok (.checkcast 10, 3) := by decide +kernel
theorem d18_18 : decode jdk_42_method_66_code 18 = .ok (.astore_n 2, 1) := by decide +kernel
theorem d18_19 : decode jdk_42_method_66_code 19 = .ok (.getstatic 38, 3) := by decide +kernel
theorem d18_22 : decode jdk_42_method_66_code 22 = .ok (.ifCond .eq 14, 3) := by decide +kernel
theorem d18_25 : decode jdk_42_method_66_code 25 = .ok (.aload_n 0, 1) := by decide +kernel
theorem d18_26 : decode jdk_42_method_66_code 26 = .ok (.getfield 15, 3) := by decide +kernel
theorem d18_29 : decode jdk_42_method_66_code 29 = .ok (.aload_n 2, 1) := by decide +kernel
theorem d18_30 : decode jdk_42_method_66_code 30 = .ok (.getfield 15, 3) := by decide +kernel
theorem d18_33 : decode jdk_42_method_66_code 33 = .ok (.if_icmp .ne 21, 3) := by decide +kernel
theorem d18_36 : decode jdk_42_method_66_code 36 = .ok (.aload_n 0, 1) := by decide +kernel
theorem d18_37 : decode jdk_42_method_66_code 37 = .ok (.getfield 9, 3) := by decide +kernel
theorem d18_40 : decode jdk_42_method_66_code 40 = .ok (.aload_n 2, 1) := by decide +kernel
theorem d18_41 : decode jdk_42_method_66_code 41 = .ok (.getfield 9, 3) := by decide +kernel
theorem d18_44 : decode jdk_42_method_66_code 44 = .ok (.invokestatic 541, 3) := by decide +kernel
theorem d18_47 : decode jdk_42_method_66_code 47 = .ok (.ifCond .eq 7, 3) := by decide +kernel
theorem d18_50 : decode jdk_42_method_66_code 50 = .ok (.iconst 1, 1) := by decide +kernel
theorem d18_51 : decode jdk_42_method_66_code 51 = .ok (.goto 4, 3) := by decide +kernel
theorem d18_54 : decode jdk_42_method_66_code 54 = .ok (.iconst 0, 1) := by decide +kernel
theorem d18_55 : decode jdk_42_method_66_code 55 = .ok (.ireturn, 1) := by decide +kernel
theorem rmE_ef (m : MethodId) (x0 : Addr) (x1 : Addr) : entryFrame m #[(.ref x0), (.ref x1)] 3 = mkF m 0 #[.val (.ref x0), .val (.ref x1), .unset] [] := by first | (simp [entryFrame, mkF, argsToLocals, Value.category]; done) | rfl
def QE (Z : State) (ths : Addr) (o : Addr) (bt : Addr) (bo : Addr) (n1 : Int32) (n2 : Int32) (ax : Int32) (ay : Int32) (bx : Int32) (by' : Int32) (kct : ClassId) (ko : ClassId) (cs : Int32) (h0 : Heap) (n0 : Nat) (v : Option Value) (h : Heap) (L : List Loc) : Prop := v = some (.int (own_se n1 n2 ax ay bx by')) ∧ Fr n0 L ∧ h = h0
theorem own_pd5 : parseMethodDescriptor "([B[B)Z" = some ⟨[(.array .byte), (.array .byte)], some .boolean⟩ := by decide +kernel
set_option maxRecDepth 65536 in
set_option maxHeartbeats 40000000 in
theorem rmE (l : Launch) (Z : State) (a0 : Array Value) (hw : ∀ d ∈ tables_1, d.before a0 Z = true) (ws : List Jvm.Cond) (ths : Addr) (o : Addr) (bt : Addr) (bo : Addr) (n1 : Int32) (n2 : Int32) (ax : Int32) (ay : Int32) (bx : Int32) (by' : Int32) (kct : ClassId) (ko : ClassId) (cs : Int32) (h0 : Heap) (n0 : Nat) (Z0 : n0 ≤ h0.size) (Et : Exa Z h0 ths "java/lang/String") (Ft : Fld Z h0 ths "java/lang/String" "value" "[B" (.ref bt)) (Ct : Fld Z h0 ths "java/lang/String" "coder" "B" (.int (0 : Int32))) (Eo : Exa Z h0 o "java/lang/String") (Fo : Fld Z h0 o "java/lang/String" "value" "[B" (.ref bo)) (Co : Fld Z h0 o "java/lang/String" "coder" "B" (.int (0 : Int32))) (At : Arv Z h0 bt kct .byte n1 [(.int ax), (.int ay)] (.int (0 : Int32))) (Ao : Arv Z h0 bo ko .byte n2 [(.int bx), (.int by')] (.int (0 : Int32))) (h2 : ¬ ((2 : Int32) < n1)) (SC : Sta Z h0 "java/lang/String" "COMPACT_STRINGS" "Z" (.int cs)) (hcs : ¬ (cs = (0 : Int32))) :
    MetFree l (⟨"java/lang/String", "equals", "(Ljava/lang/Object;)Z"⟩ : MethodName) (head1 (Jvm.Cond.code (⟨"java/lang/String", "equals", "(Ljava/lang/Object;)Z"⟩ : MethodName) jdk_42_method_66_code 3 (some .boolean) :: ws) ({ frames := 1, cells := 0, slots := 0, locals := 14 } : Room)) (fun aA' U => aA' = #[(.ref ths), (.ref o)] ∧ Z.Warmed39 U.vm ∧ U.heap = h0) (fun _ _ _ _ _ => True) (fun _ U oO' U' => ∃ vV' L, oO' = .returned vV' ∧ QE Z ths o bt bo n1 n2 ax ay bx by' kct ko cs h0 n0 vV' U'.heap L ∧ FrameEnd U oO' U' L ({ frames := 1, cells := 0, slots := 0, locals := 14 } : Room).cells ({ frames := 1, cells := 0, slots := 0, locals := 14 } : Room).slots) := by
  refine MetFree.of_bodySF (plainFor_of_name own_pn1) hisR ?_
  intro p e s m args below meth c s₁ Bd hml0 hP hK
  obtain ⟨rfl, hZ, hh⟩ := hP
  have hx := Bd.exec
  have hby := Bd.bytes
  have hml : c.maxLocals = 3 := hml0
  have hown : s.vm.findClass "java/lang/String" = some m.cls := findClass_of_methodNamed Bd.named
  have hnm := (name_of_methodNamed Bd.named Bd.method).1
  have X0 : Stand p l e ({ frames := 1, cells := 0, slots := 0, locals := 14 } : Room) s m #[(.ref ths), (.ref o)] below meth c s₁ [] 0 0 := Stand.of_body Bd
  have e0 : s₁.heap = h0 := by rw [← hh, Bd.state]; rfl
  have N0 := Fr.nil n0
  have K0 : Keep h0 h0 [] := Keep.refl _ _
  have k0 : ∀ t, Steps p.tables e below (s₁.setTop (mkF m 0 #[.val (.ref ths), .val (.ref o), .unset] [])) t → Steps p.tables e below (s₁.setTop (entryFrame m #[(.ref ths), (.ref o)] 3)) t := fun t k => castTop (rmE_ef m (ths) (o)) k
  have k2 : ∀ t, Steps p.tables e below (s₁.setTop (mkF m 2 #[.val (.ref ths), .val (.ref o), .unset] [(.ref o), (.ref ths)])) t → Steps p.tables e below (s₁.setTop (entryFrame m #[(.ref ths), (.ref o)] 3)) t := by
    intro t kt
    refine k0 t ?_
    show Steps p.tables e below (s₁.setTop (mkF m 0 #[.val (.ref ths), .val (.ref o), .unset] [])) t
    refine XS.aloadN X0.here hx rfl (hb hby d18_0) rfl rfl ?_
    show Steps p.tables e below (s₁.setTop (mkF m 1 #[.val (.ref ths), .val (.ref o), .unset] [(.ref ths)])) t
    refine XS.aloadN X0.here hx rfl (hb hby d18_1) rfl rfl ?_
    exact kt
  by_cases ha2_1 : ths = o
  · have k3 : ∀ t, Steps p.tables e below (s₁.setTop (mkF m 6 #[.val (.ref ths), .val (.ref o), .unset] [(.int (1 : Int32))])) t → Steps p.tables e below (s₁.setTop (entryFrame m #[(.ref ths), (.ref o)] 3)) t := by
      intro t kt
      refine k2 t ?_
      show Steps p.tables e below (s₁.setTop (mkF m 2 #[.val (.ref ths), .val (.ref o), .unset] [(.ref o), (.ref ths)])) t
      refine Jvm.RoadKit.acmp (g := (mkF m 2 #[.val (.ref ths), .val (.ref o), .unset] [(.ref o), (.ref ths)])) X0 hx rfl rfl rfl (pc0 := 2) (pc' := 5) (same := true) rfl (hb hby d18_2) rfl (decide_eq_true (congrArg Value.ref ha2_1)) (by decide) (by decide) ?_
      show Steps p.tables e below (s₁.setTop (mkF m 5 #[.val (.ref ths), .val (.ref o), .unset] [])) t
      refine XS.iconst X0.here hx rfl (hb hby d18_5) ?_
      exact kt
    obtain ⟨fs, hr, hrun, hended, hW, hsame⟩ := X0.leave (v := some (.int (1 : Int32))) (fun h => by rw [Bd.returns] at h; cases h)
    refine ⟨_, _, k3 _ ?_, hrun, hended, _, _, rfl, ?_, ⟨_, rfl⟩, hW, hsame.mono (by decide) (by decide)⟩
    · show Steps p.tables e below (s₁.setTop (mkF m 6 #[.val (.ref ths), .val (.ref o), .unset] [(.int (1 : Int32))])) _
      exact retN X0 hx (t := .boolean) Bd.returns (by simp) (hb hby d18_6) hr
    · show QE Z ths o bt bo n1 n2 ax ay bx by' kct ko cs h0 n0 _ s₁.heap _
      rw [e0]
      exact ⟨congrArg (fun z => some (Value.int z)) (own_seT Ft Fo At Ao ha2_1).symm, N0, rfl⟩
  · have k4 : ∀ t, Steps p.tables e below (s₁.setTop (mkF m 8 #[.val (.ref ths), .val (.ref o), .unset] [(.ref o)])) t → Steps p.tables e below (s₁.setTop (entryFrame m #[(.ref ths), (.ref o)] 3)) t := by
      intro t kt
      refine k2 t ?_
      show Steps p.tables e below (s₁.setTop (mkF m 2 #[.val (.ref ths), .val (.ref o), .unset] [(.ref o), (.ref ths)])) t
      refine Jvm.RoadKit.acmp (g := (mkF m 2 #[.val (.ref ths), .val (.ref o), .unset] [(.ref o), (.ref ths)])) X0 hx rfl rfl rfl (pc0 := 2) (pc' := 7) (same := false) rfl (hb hby d18_2) rfl (decide_eq_false fun q => ha2_1 (Value.ref.inj q)) (by decide) (by decide) ?_
      show Steps p.tables e below (s₁.setTop (mkF m 7 #[.val (.ref ths), .val (.ref o), .unset] [])) t
      refine XS.aloadN X0.here hx rfl (hb hby d18_7) rfl rfl ?_
      exact kt
    obtain ⟨T5, X5, e5, st5⟩ := instY X0 hx hZ hown (hw _ (List.mem_of_getElem? (i := 110) rfl)) e0 (Ins.self Eo) (g := (mkF m 8 #[.val (.ref ths), .val (.ref o), .unset] [(.ref o)])) rfl rfl (hb hby d18_8)
    have k6 : ∀ t, Steps p.tables e below (T5.setTop (mkF m 11 #[.val (.ref ths), .val (.ref o), .unset] [(.int (1 : Int32))])) t → Steps p.tables e below (s₁.setTop (entryFrame m #[(.ref ths), (.ref o)] 3)) t := fun t kt => k4 t (st5 t kt)
    have hc11_7 : ¬ ((1 : Int32) = (0 : Int32)) := by decide
    have k8 : ∀ t, Steps p.tables e below (T5.setTop (mkF m 15 #[.val (.ref ths), .val (.ref o), .unset] [(.ref o)])) t → Steps p.tables e below (s₁.setTop (entryFrame m #[(.ref ths), (.ref o)] 3)) t := by
      intro t kt
      refine k6 t ?_
      show Steps p.tables e below (T5.setTop (mkF m 11 #[.val (.ref ths), .val (.ref o), .unset] [(.int (1 : Int32))])) t
      refine XS.ifNo X5.here hx rfl (hb hby d18_11) rfl ((if0 _ _).trans (feq hc11_7).1) ?_
      show Steps p.tables e below (T5.setTop (mkF m 14 #[.val (.ref ths), .val (.ref o), .unset] [])) t
      refine XS.aloadN X5.here hx rfl (hb hby d18_14) rfl rfl ?_
      exact kt
    obtain ⟨T9, X9, e9, st9⟩ := castY X5 hx hZ hown (hw _ (List.mem_of_getElem? (i := 110) rfl)) e5 (Ins.self Eo) (g := (mkF m 15 #[.val (.ref ths), .val (.ref o), .unset] [(.ref o)])) rfl rfl (hb hby d18_15)
    have k10 : ∀ t, Steps p.tables e below (T9.setTop (mkF m 18 #[.val (.ref ths), .val (.ref o), .unset] [(.ref o)])) t → Steps p.tables e below (s₁.setTop (entryFrame m #[(.ref ths), (.ref o)] 3)) t := fun t kt => k8 t (st9 t kt)
    have k11 : ∀ t, Steps p.tables e below (T9.setTop (mkF m 19 #[.val (.ref ths), .val (.ref o), .val (.ref o)] [])) t → Steps p.tables e below (s₁.setTop (entryFrame m #[(.ref ths), (.ref o)] 3)) t := by
      intro t kt
      refine k10 t ?_
      show Steps p.tables e below (T9.setTop (mkF m 18 #[.val (.ref ths), .val (.ref o), .unset] [(.ref o)])) t
      refine XS.astoreN X9.here hx rfl (hb hby d18_18) rfl rfl (l' := #[.val (.ref ths), .val (.ref o), .val (.ref o)]) rfl ?_
      exact kt
    obtain ⟨T12, X12, e12, st12⟩ := getS2 X9 hx hZ hown (host := "") (Or.inl (hw _ (List.mem_of_getElem? (i := 19) rfl))) Via.refl e9 SC (g := (mkF m 19 #[.val (.ref ths), .val (.ref o), .val (.ref o)] [])) rfl (hb hby d18_19)
    have k13 : ∀ t, Steps p.tables e below (T12.setTop (mkF m 22 #[.val (.ref ths), .val (.ref o), .val (.ref o)] [(.int cs)])) t → Steps p.tables e below (s₁.setTop (entryFrame m #[(.ref ths), (.ref o)] 3)) t := fun t kt => k11 t (st12 t kt)
    have k15 : ∀ t, Steps p.tables e below (T12.setTop (mkF m 26 #[.val (.ref ths), .val (.ref o), .val (.ref o)] [(.ref ths)])) t → Steps p.tables e below (s₁.setTop (entryFrame m #[(.ref ths), (.ref o)] 3)) t := by
      intro t kt
      refine k13 t ?_
      show Steps p.tables e below (T12.setTop (mkF m 22 #[.val (.ref ths), .val (.ref o), .val (.ref o)] [(.int cs)])) t
      refine XS.ifNo X12.here hx rfl (hb hby d18_22) rfl ((if0 _ _).trans (feq hcs).1) ?_
      show Steps p.tables e below (T12.setTop (mkF m 25 #[.val (.ref ths), .val (.ref o), .val (.ref o)] [])) t
      refine XS.aloadN X12.here hx rfl (hb hby d18_25) rfl rfl ?_
      exact kt
    obtain ⟨T16, X16, e16, st16⟩ := getF X12 hx hZ hown (host := "") (Or.inl (hw _ (List.mem_of_getElem? (i := 31) rfl))) Via.refl e12 Ct (g := (mkF m 26 #[.val (.ref ths), .val (.ref o), .val (.ref o)] [(.ref ths)])) rfl rfl (hb hby d18_26)
    have k17 : ∀ t, Steps p.tables e below (T16.setTop (mkF m 29 #[.val (.ref ths), .val (.ref o), .val (.ref o)] [(.int (0 : Int32))])) t → Steps p.tables e below (s₁.setTop (entryFrame m #[(.ref ths), (.ref o)] 3)) t := fun t kt => k15 t (st16 t kt)
    have k18 : ∀ t, Steps p.tables e below (T16.setTop (mkF m 30 #[.val (.ref ths), .val (.ref o), .val (.ref o)] [(.ref o), (.int (0 : Int32))])) t → Steps p.tables e below (s₁.setTop (entryFrame m #[(.ref ths), (.ref o)] 3)) t := by
      intro t kt
      refine k17 t ?_
      show Steps p.tables e below (T16.setTop (mkF m 29 #[.val (.ref ths), .val (.ref o), .val (.ref o)] [(.int (0 : Int32))])) t
      refine XS.aloadN X16.here hx rfl (hb hby d18_29) rfl rfl ?_
      exact kt
    obtain ⟨T19, X19, e19, st19⟩ := getF X16 hx hZ hown (host := "") (Or.inl (hw _ (List.mem_of_getElem? (i := 31) rfl))) Via.refl e16 Co (g := (mkF m 30 #[.val (.ref ths), .val (.ref o), .val (.ref o)] [(.ref o), (.int (0 : Int32))])) rfl rfl (hb hby d18_30)
    have k20 : ∀ t, Steps p.tables e below (T19.setTop (mkF m 33 #[.val (.ref ths), .val (.ref o), .val (.ref o)] [(.int (0 : Int32)), (.int (0 : Int32))])) t → Steps p.tables e below (s₁.setTop (entryFrame m #[(.ref ths), (.ref o)] 3)) t := fun t kt => k18 t (st19 t kt)
    have hc33_21 : (0 : Int32) = (0 : Int32) := rfl
    have k22 : ∀ t, Steps p.tables e below (T19.setTop (mkF m 37 #[.val (.ref ths), .val (.ref o), .val (.ref o)] [(.ref ths)])) t → Steps p.tables e below (s₁.setTop (entryFrame m #[(.ref ths), (.ref o)] 3)) t := by
      intro t kt
      refine k20 t ?_
      show Steps p.tables e below (T19.setTop (mkF m 33 #[.val (.ref ths), .val (.ref o), .val (.ref o)] [(.int (0 : Int32)), (.int (0 : Int32))])) t
      refine XS.icmpNo X19.here hx rfl (hb hby d18_33) rfl (teq hc33_21).2 ?_
      show Steps p.tables e below (T19.setTop (mkF m 36 #[.val (.ref ths), .val (.ref o), .val (.ref o)] [])) t
      refine XS.aloadN X19.here hx rfl (hb hby d18_36) rfl rfl ?_
      exact kt
    obtain ⟨T23, X23, e23, st23⟩ := getF X19 hx hZ hown (host := "") (Or.inl (hw _ (List.mem_of_getElem? (i := 33) rfl))) Via.refl e19 Ft (g := (mkF m 37 #[.val (.ref ths), .val (.ref o), .val (.ref o)] [(.ref ths)])) rfl rfl (hb hby d18_37)
    have k24 : ∀ t, Steps p.tables e below (T23.setTop (mkF m 40 #[.val (.ref ths), .val (.ref o), .val (.ref o)] [(.ref bt)])) t → Steps p.tables e below (s₁.setTop (entryFrame m #[(.ref ths), (.ref o)] 3)) t := fun t kt => k22 t (st23 t kt)
    have k25 : ∀ t, Steps p.tables e below (T23.setTop (mkF m 41 #[.val (.ref ths), .val (.ref o), .val (.ref o)] [(.ref o), (.ref bt)])) t → Steps p.tables e below (s₁.setTop (entryFrame m #[(.ref ths), (.ref o)] 3)) t := by
      intro t kt
      refine k24 t ?_
      show Steps p.tables e below (T23.setTop (mkF m 40 #[.val (.ref ths), .val (.ref o), .val (.ref o)] [(.ref bt)])) t
      refine XS.aloadN X23.here hx rfl (hb hby d18_40) rfl rfl ?_
      exact kt
    obtain ⟨T26, X26, e26, st26⟩ := getF X23 hx hZ hown (host := "") (Or.inl (hw _ (List.mem_of_getElem? (i := 33) rfl))) Via.refl e23 Fo (g := (mkF m 41 #[.val (.ref ths), .val (.ref o), .val (.ref o)] [(.ref o), (.ref bt)])) rfl rfl (hb hby d18_41)
    have k27 : ∀ t, Steps p.tables e below (T26.setTop (mkF m 44 #[.val (.ref ths), .val (.ref o), .val (.ref o)] [(.ref bo), (.ref bt)])) t → Steps p.tables e below (s₁.setTop (entryFrame m #[(.ref ths), (.ref o)] 3)) t := fun t kt => k25 t (st26 t kt)
    obtain ⟨_, _, ⟨T28, L28, k28c, n28⟩, -, X28, ⟨Lc28, hQ28, l28, y28, z28⟩, st28⟩ := Jvm.LawKit.callS X26 hx (y := (⟨"java/lang/StringLatin1", "equals", "([B[B)Z"⟩ : MethodName)) hown (mvT hZ (hw _ (List.mem_of_getElem? (i := 111) rfl))) (mvT hZ (hw _ (List.mem_of_getElem? (i := 112) rfl))) (mvT hZ (hw _ (List.mem_of_getElem? (i := 113) rfl))) (mvT hZ (hw _ (List.mem_of_getElem? (i := 114) rfl))) (by decide) (backOf (W := 0) (rmL l Z a0 hw [] bt bo n1 n2 ax ay bx by' kct ko h0 n0 Z0 At Ao h2) hZ (hw _ (List.mem_of_getElem? (i := 114) rfl)) (hw _ (List.mem_of_getElem? (i := 113) rfl)) (by decide) (by decide)) (g := (mkF m 44 #[.val (.ref ths), .val (.ref o), .val (.ref o)] [(.ref bo), (.ref bt)])) rfl (by rw [hml]; rfl) (argsL := [(.ref bt), (.ref bo)]) (rest := []) (lenOf own_pd5 rfl) rfl (by show 2 * 0 + _ ≤ _; exact Nat.le_of_eq rfl) (hb hby d18_44) (fun _ _ => ⟨rfl, e26, (by decide : 0 + 0 ≤ _), (by decide : 0 + 0 ≤ _)⟩)
    dsimp only [Pt.U, Pt.locs, Pt.cells, Pt.slots] at X28 l28 y28 z28 st28 hQ28
    subst l28 y28 z28
    obtain ⟨rfl, N28q, e28⟩ := hQ28
    have N28 := Fr.app N0 N28q
    have k29 : ∀ t, Steps p.tables e below (T28.setTop (mkF m 47 #[.val (.ref ths), .val (.ref o), .val (.ref o)] [(.int (own_se n1 n2 ax ay bx by'))])) t → Steps p.tables e below (s₁.setTop (entryFrame m #[(.ref ths), (.ref o)] 3)) t := fun t kt => k27 t (st28 t kt)
    by_cases hc47_30 : (own_se n1 n2 ax ay bx by') = (0 : Int32)
    · have k31 : ∀ t, Steps p.tables e below (T28.setTop (mkF m 55 #[.val (.ref ths), .val (.ref o), .val (.ref o)] [(.int (0 : Int32))])) t → Steps p.tables e below (s₁.setTop (entryFrame m #[(.ref ths), (.ref o)] 3)) t := by
        intro t kt
        refine k29 t ?_
        show Steps p.tables e below (T28.setTop (mkF m 47 #[.val (.ref ths), .val (.ref o), .val (.ref o)] [(.int (own_se n1 n2 ax ay bx by'))])) t
        refine XS.ifYes X28.here hx rfl (pc0 := 47) (pc' := 54) rfl (hb hby d18_47) rfl ((if0 _ _).trans (teq hc47_30).1) (by decide) (by decide) ?_
        show Steps p.tables e below (T28.setTop (mkF m 54 #[.val (.ref ths), .val (.ref o), .val (.ref o)] [])) t
        refine XS.iconst X28.here hx rfl (hb hby d18_54) ?_
        exact kt
      obtain ⟨fs, hr, hrun, hended, hW, hsame⟩ := X28.leave (v := some (.int (0 : Int32))) (fun h => by rw [Bd.returns] at h; cases h)
      refine ⟨_, _, k31 _ ?_, hrun, hended, _, _, rfl, ?_, ⟨_, rfl⟩, hW, hsame.mono (by decide) (by decide)⟩
      · show Steps p.tables e below (T28.setTop (mkF m 55 #[.val (.ref ths), .val (.ref o), .val (.ref o)] [(.int (0 : Int32))])) _
        exact retN X28 hx (t := .boolean) Bd.returns (by simp) (hb hby d18_55) hr
      · show QE Z ths o bt bo n1 n2 ax ay bx by' kct ko cs h0 n0 _ T28.heap _
        rw [e28]
        refine ⟨congrArg (fun z => some (Value.int z)) ?_, N28, rfl⟩
        exact hc47_30.symm
    · have k32 : ∀ t, Steps p.tables e below (T28.setTop (mkF m 55 #[.val (.ref ths), .val (.ref o), .val (.ref o)] [(.int (1 : Int32))])) t → Steps p.tables e below (s₁.setTop (entryFrame m #[(.ref ths), (.ref o)] 3)) t := by
        intro t kt
        refine k29 t ?_
        show Steps p.tables e below (T28.setTop (mkF m 47 #[.val (.ref ths), .val (.ref o), .val (.ref o)] [(.int (own_se n1 n2 ax ay bx by'))])) t
        refine XS.ifNo X28.here hx rfl (hb hby d18_47) rfl ((if0 _ _).trans (feq hc47_30).1) ?_
        show Steps p.tables e below (T28.setTop (mkF m 50 #[.val (.ref ths), .val (.ref o), .val (.ref o)] [])) t
        refine XS.iconst X28.here hx rfl (hb hby d18_50) ?_
        show Steps p.tables e below (T28.setTop (mkF m 51 #[.val (.ref ths), .val (.ref o), .val (.ref o)] [(.int (1 : Int32))])) t
        refine XS.goto X28.here hx rfl (pc0 := 51) (pc' := 55) rfl (hb hby d18_51) (by decide) (by decide) ?_
        exact kt
      obtain ⟨fs, hr, hrun, hended, hW, hsame⟩ := X28.leave (v := some (.int (1 : Int32))) (fun h => by rw [Bd.returns] at h; cases h)
      refine ⟨_, _, k32 _ ?_, hrun, hended, _, _, rfl, ?_, ⟨_, rfl⟩, hW, hsame.mono (by decide) (by decide)⟩
      · show Steps p.tables e below (T28.setTop (mkF m 55 #[.val (.ref ths), .val (.ref o), .val (.ref o)] [(.int (1 : Int32))])) _
        exact retN X28 hx (t := .boolean) Bd.returns (by simp) (hb hby d18_55) hr
      · show QE Z ths o bt bo n1 n2 ax ay bx by' kct ko cs h0 n0 _ T28.heap _
        rw [e28]
        refine ⟨congrArg (fun z => some (Value.int z)) ?_, N28, rfl⟩
        revert hc47_30; unfold own_se; repeat' split
        all_goals simp
theorem d9_0 : decode jdk_31_method_11_code 0 = .ok (.aload_n 0, 1) := by decide +kernel
theorem d9_1 : decode jdk_31_method_11_code 1 = .ok (.ifnonnull 12, 3) := by decide +kernel
theorem d9_4 : decode jdk_31_method_11_code 4 = .ok (.new 84, 3) := by decide +kernel
theorem d9_7 : decode jdk_31_method_11_code 7 = .ok (.dup, 1) := by decide +kernel
theorem d9_8 : decode jdk_31_method_11_code 8 = .ok (.aload_n 1, 1) := by decide +kernel
theorem d9_9 : decode jdk_31_method_11_code 9 = .ok (.invokespecial 87, 3) := by decide +kernel
theorem d9_12 : decode jdk_31_method_11_code 12 = .ok (.athrow, 1) := by decide +kernel
theorem d9_13 : decode jdk_31_method_11_code 13 = .ok (.aload_n 0, 1) := by decide +kernel
theorem d9_14 : decode jdk_31_method_11_code 14 = .ok (.areturn, 1) := by decide +kernel
theorem own_pn4 : plainName "java/util/Objects" = true := by first | (simp [plainName, overriddenIn]; done) | decide +kernel
theorem rmNn_ef (m : MethodId) (x0 : Addr) (x1 : Addr) : entryFrame m #[(.ref x0), (.ref x1)] 2 = mkF m 0 #[.val (.ref x0), .val (.ref x1)] [] := by first | (simp [entryFrame, mkF, argsToLocals, Value.category]; done) | rfl
def QNn (Z : State) (a : Addr) (b : Addr) (h0 : Heap) (n0 : Nat) (v : Option Value) (h : Heap) (L : List Loc) : Prop := v = some (.ref a) ∧ Fr n0 L ∧ h = h0
set_option maxRecDepth 65536 in
set_option maxHeartbeats 40000000 in
theorem rmNn (l : Launch) (Z : State) (a0 : Array Value) (hw : ∀ d ∈ tables_1, d.before a0 Z = true) (ws : List Jvm.Cond) (a : Addr) (b : Addr) (h0 : Heap) (n0 : Nat) (Z0 : n0 ≤ h0.size) :
    MetFree l (⟨"java/util/Objects", "requireNonNull", "(Ljava/lang/Object;Ljava/lang/String;)Ljava/lang/Object;"⟩ : MethodName) (head1 (Jvm.Cond.code (⟨"java/util/Objects", "requireNonNull", "(Ljava/lang/Object;Ljava/lang/String;)Ljava/lang/Object;"⟩ : MethodName) jdk_31_method_11_code 2 (some (.object "java/lang/Object")) :: ws) ({ frames := 0, cells := 0, slots := 0, locals := 0 } : Room)) (fun aA' U => aA' = #[(.ref a), (.ref b)] ∧ Z.Warmed39 U.vm ∧ U.heap = h0) (fun _ _ _ _ _ => True) (fun _ U oO' U' => ∃ vV' L, oO' = .returned vV' ∧ QNn Z a b h0 n0 vV' U'.heap L ∧ FrameEnd U oO' U' L ({ frames := 0, cells := 0, slots := 0, locals := 0 } : Room).cells ({ frames := 0, cells := 0, slots := 0, locals := 0 } : Room).slots) := by
  refine MetFree.of_bodySF (plainFor_of_name own_pn4) hisR ?_
  intro p e s m args below meth c s₁ Bd hml0 hP hK
  obtain ⟨rfl, hZ, hh⟩ := hP
  have hx := Bd.exec
  have hby := Bd.bytes
  have hml : c.maxLocals = 2 := hml0
  have hown : s.vm.findClass "java/util/Objects" = some m.cls := findClass_of_methodNamed Bd.named
  have hnm := (name_of_methodNamed Bd.named Bd.method).1
  have X0 : Stand p l e ({ frames := 0, cells := 0, slots := 0, locals := 0 } : Room) s m #[(.ref a), (.ref b)] below meth c s₁ [] 0 0 := Stand.of_body Bd
  have e0 : s₁.heap = h0 := by rw [← hh, Bd.state]; rfl
  have N0 := Fr.nil n0
  have K0 : Keep h0 h0 [] := Keep.refl _ _
  have k0 : ∀ t, Steps p.tables e below (s₁.setTop (mkF m 0 #[.val (.ref a), .val (.ref b)] [])) t → Steps p.tables e below (s₁.setTop (entryFrame m #[(.ref a), (.ref b)] 2)) t := fun t k => castTop (rmNn_ef m (a) (b)) k
  have k1 : ∀ t, Steps p.tables e below (s₁.setTop (mkF m 14 #[.val (.ref a), .val (.ref b)] [(.ref a)])) t → Steps p.tables e below (s₁.setTop (entryFrame m #[(.ref a), (.ref b)] 2)) t := by
    intro t kt
    refine k0 t ?_
    show Steps p.tables e below (s₁.setTop (mkF m 0 #[.val (.ref a), .val (.ref b)] [])) t
    refine XS.aloadN X0.here hx rfl (hb hby d9_0) rfl rfl ?_
    show Steps p.tables e below (s₁.setTop (mkF m 1 #[.val (.ref a), .val (.ref b)] [(.ref a)])) t
    refine XS.ifnonnullYes X0.here hx rfl (pc0 := 1) (pc' := 13) rfl (hb hby d9_1) rfl (by decide) (by decide) ?_
    show Steps p.tables e below (s₁.setTop (mkF m 13 #[.val (.ref a), .val (.ref b)] [])) t
    refine XS.aloadN X0.here hx rfl (hb hby d9_13) rfl rfl ?_
    exact kt
  obtain ⟨fs, hr, hrun, hended, hW, hsame⟩ := X0.leave (v := some (.ref a)) (fun h => by rw [Bd.returns] at h; cases h)
  refine ⟨_, _, k1 _ ?_, hrun, hended, _, _, rfl, ?_, ⟨_, rfl⟩, hW, hsame.mono (by decide) (by decide)⟩
  · show Steps p.tables e below (s₁.setTop (mkF m 14 #[.val (.ref a), .val (.ref b)] [(.ref a)])) _
    jvm_step X0.here [X0.here.top, hx, (hb hby d9_14), X0.method', Bd.returns, Value.isRef, FieldType.isReference]
    first | (intro acts; rw [hr _ acts rfl rfl rfl]) | rw [hr _ _ rfl rfl rfl]
    exact Steps.refl _
  · show QNn Z a b h0 n0 _ s₁.heap _
    rw [e0]
    exact ⟨rfl, N0, rfl⟩
theorem d11_0 : decode jdk_42_method_152_code 0 = .ok (.getstatic 38, 3) := by decide +kernel
theorem d11_3 : decode jdk_42_method_152_code 3 = .ok (.ifCond .eq 10, 3) := by decide +kernel
theorem d11_6 : decode jdk_42_method_152_code 6 = .ok (.aload_n 0, 1) := by decide +kernel
theorem d11_7 : decode jdk_42_method_152_code 7 = .ok (.getfield 15, 3) := by decide +kernel
theorem d11_10 : decode jdk_42_method_152_code 10 = .ok (.goto 4, 3) := by decide +kernel
theorem d11_13 : decode jdk_42_method_152_code 13 = .ok (.iconst 1, 1) := by decide +kernel
theorem d11_14 : decode jdk_42_method_152_code 14 = .ok (.ireturn, 1) := by decide +kernel
theorem rmCo_ef (m : MethodId) (x0 : Addr) : entryFrame m #[(.ref x0)] 1 = mkF m 0 #[.val (.ref x0)] [] := by first | (simp [entryFrame, mkF, argsToLocals, Value.category]; done) | rfl
def QCo (Z : State) (ths : Addr) (cs : Int32) (h0 : Heap) (n0 : Nat) (v : Option Value) (h : Heap) (L : List Loc) : Prop := v = some (.int (0 : Int32)) ∧ Fr n0 L ∧ h = h0
set_option maxRecDepth 65536 in
set_option maxHeartbeats 40000000 in
theorem rmCo (l : Launch) (Z : State) (a0 : Array Value) (hw : ∀ d ∈ tables_1, d.before a0 Z = true) (ws : List Jvm.Cond) (ths : Addr) (cs : Int32) (h0 : Heap) (n0 : Nat) (Z0 : n0 ≤ h0.size) (Ct : Fld Z h0 ths "java/lang/String" "coder" "B" (.int (0 : Int32))) (SC : Sta Z h0 "java/lang/String" "COMPACT_STRINGS" "Z" (.int cs)) (hcs : ¬ (cs = (0 : Int32))) :
    MetFree l (⟨"java/lang/String", "coder", "()B"⟩ : MethodName) (head1 (Jvm.Cond.code (⟨"java/lang/String", "coder", "()B"⟩ : MethodName) jdk_42_method_152_code 1 (some .byte) :: ws) ({ frames := 0, cells := 0, slots := 0, locals := 0 } : Room)) (fun aA' U => aA' = #[(.ref ths)] ∧ Z.Warmed39 U.vm ∧ U.heap = h0) (fun _ _ _ _ _ => True) (fun _ U oO' U' => ∃ vV' L, oO' = .returned vV' ∧ QCo Z ths cs h0 n0 vV' U'.heap L ∧ FrameEnd U oO' U' L ({ frames := 0, cells := 0, slots := 0, locals := 0 } : Room).cells ({ frames := 0, cells := 0, slots := 0, locals := 0 } : Room).slots) := by
  refine MetFree.of_bodySF (plainFor_of_name own_pn1) hisR ?_
  intro p e s m args below meth c s₁ Bd hml0 hP hK
  obtain ⟨rfl, hZ, hh⟩ := hP
  have hx := Bd.exec
  have hby := Bd.bytes
  have hml : c.maxLocals = 1 := hml0
  have hown : s.vm.findClass "java/lang/String" = some m.cls := findClass_of_methodNamed Bd.named
  have hnm := (name_of_methodNamed Bd.named Bd.method).1
  have X0 : Stand p l e ({ frames := 0, cells := 0, slots := 0, locals := 0 } : Room) s m #[(.ref ths)] below meth c s₁ [] 0 0 := Stand.of_body Bd
  have e0 : s₁.heap = h0 := by rw [← hh, Bd.state]; rfl
  have N0 := Fr.nil n0
  have K0 : Keep h0 h0 [] := Keep.refl _ _
  have k0 : ∀ t, Steps p.tables e below (s₁.setTop (mkF m 0 #[.val (.ref ths)] [])) t → Steps p.tables e below (s₁.setTop (entryFrame m #[(.ref ths)] 1)) t := fun t k => castTop (rmCo_ef m (ths)) k
  obtain ⟨T1, X1, e1, st1⟩ := getS2 X0 hx hZ hown (host := "") (Or.inl (hw _ (List.mem_of_getElem? (i := 19) rfl))) Via.refl e0 SC (g := (mkF m 0 #[.val (.ref ths)] [])) rfl (hb hby d11_0)
  have k2 : ∀ t, Steps p.tables e below (T1.setTop (mkF m 3 #[.val (.ref ths)] [(.int cs)])) t → Steps p.tables e below (s₁.setTop (entryFrame m #[(.ref ths)] 1)) t := fun t kt => k0 t (st1 t kt)
  have k4 : ∀ t, Steps p.tables e below (T1.setTop (mkF m 7 #[.val (.ref ths)] [(.ref ths)])) t → Steps p.tables e below (s₁.setTop (entryFrame m #[(.ref ths)] 1)) t := by
    intro t kt
    refine k2 t ?_
    show Steps p.tables e below (T1.setTop (mkF m 3 #[.val (.ref ths)] [(.int cs)])) t
    refine XS.ifNo X1.here hx rfl (hb hby d11_3) rfl ((if0 _ _).trans (feq hcs).1) ?_
    show Steps p.tables e below (T1.setTop (mkF m 6 #[.val (.ref ths)] [])) t
    refine XS.aloadN X1.here hx rfl (hb hby d11_6) rfl rfl ?_
    exact kt
  obtain ⟨T5, X5, e5, st5⟩ := getF X1 hx hZ hown (host := "") (Or.inl (hw _ (List.mem_of_getElem? (i := 31) rfl))) Via.refl e1 Ct (g := (mkF m 7 #[.val (.ref ths)] [(.ref ths)])) rfl rfl (hb hby d11_7)
  have k6 : ∀ t, Steps p.tables e below (T5.setTop (mkF m 10 #[.val (.ref ths)] [(.int (0 : Int32))])) t → Steps p.tables e below (s₁.setTop (entryFrame m #[(.ref ths)] 1)) t := fun t kt => k4 t (st5 t kt)
  have k7 : ∀ t, Steps p.tables e below (T5.setTop (mkF m 14 #[.val (.ref ths)] [(.int (0 : Int32))])) t → Steps p.tables e below (s₁.setTop (entryFrame m #[(.ref ths)] 1)) t := by
    intro t kt
    refine k6 t ?_
    show Steps p.tables e below (T5.setTop (mkF m 10 #[.val (.ref ths)] [(.int (0 : Int32))])) t
    refine XS.goto X5.here hx rfl (pc0 := 10) (pc' := 14) rfl (hb hby d11_10) (by decide) (by decide) ?_
    exact kt
  obtain ⟨fs, hr, hrun, hended, hW, hsame⟩ := X5.leave (v := some (.int (0 : Int32))) (fun h => by rw [Bd.returns] at h; cases h)
  refine ⟨_, _, k7 _ ?_, hrun, hended, _, _, rfl, ?_, ⟨_, rfl⟩, hW, hsame.mono (by decide) (by decide)⟩
  · show Steps p.tables e below (T5.setTop (mkF m 14 #[.val (.ref ths)] [(.int (0 : Int32))])) _
    exact retN X5 hx (t := .byte) Bd.returns (by simp) (hb hby d11_14) hr
  · show QCo Z ths cs h0 n0 _ T5.heap _
    rw [e5]
    exact ⟨rfl, N0, rfl⟩
theorem d15_0 : decode jdk_123_method_3_code 0 = .ok (.iload_n 1, 1) := by decide +kernel
theorem d15_1 : decode jdk_123_method_3_code 1 = .ok (.iload_n 2, 1) := by decide +kernel
theorem d15_2 : decode jdk_123_method_3_code 2 = .ok (.iadd, 1) := by decide +kernel
theorem d15_3 : decode jdk_123_method_3_code 3 = .ok (.istore_n 3, 1) := by decide +kernel
theorem d15_4 : decode jdk_123_method_3_code 4 = .ok (.iload_n 1, 1) := by decide +kernel
theorem d15_5 : decode jdk_123_method_3_code 5 = .ok (.istore 4, 2) := by decide +kernel
theorem d15_7 : decode jdk_123_method_3_code 7 = .ok (.iload 4, 2) := by decide +kernel
theorem d15_9 : decode jdk_123_method_3_code 9 = .ok (.iload_n 3, 1) := by decide +kernel
theorem d15_10 : decode jdk_123_method_3_code 10 = .ok (.if_icmp .ge 21, 3) := by decide +kernel
theorem d15_13 : decode jdk_123_method_3_code 13 = .ok (.aload_n 0, 1) := by decide +kernel
theorem d15_14 : decode jdk_123_method_3_code 14 = .ok (.iload 4, 2) := by decide +kernel
theorem d15_16 : decode jdk_123_method_3_code 16 = .ok (.baload, 1) := by decide +kernel
theorem d15_17 : decode jdk_123_method_3_code 17 = .ok (.ifCond .ge 8, 3) := by decide +kernel
theorem d15_20 : decode jdk_123_method_3_code 20 = .ok (.iload 4, 2) := by decide +kernel
theorem d15_22 : decode jdk_123_method_3_code 22 = .ok (.iload_n 1, 1) := by decide +kernel
theorem d15_23 : decode jdk_123_method_3_code 23 = .ok (.isub, 1) := by decide +kernel
theorem d15_24 : decode jdk_123_method_3_code 24 = .ok (.ireturn, 1) := by decide +kernel
theorem d15_25 : decode jdk_123_method_3_code 25 = .ok (.iinc 4 1, 3) := by decide +kernel
theorem d15_28 : decode jdk_123_method_3_code 28 = .ok (.goto (-21), 3) := by decide +kernel
theorem d15_31 : decode jdk_123_method_3_code 31 = .ok (.iload_n 2, 1) := by decide +kernel
theorem d15_32 : decode jdk_123_method_3_code 32 = .ok (.ireturn, 1) := by decide +kernel
theorem own_pn5 : plainName "java/lang/StringCoding" = true := by first | (simp [plainName, overriddenIn]; done) | decide +kernel
theorem rmCp0_ef (m : MethodId) (x0 : Addr) : entryFrame m #[(.ref x0), (.int (0 : Int32)), (.int (0 : Int32))] 5 = mkF m 0 #[.val (.ref x0), .val (.int (0 : Int32)), .val (.int (0 : Int32)), .unset, .unset] [] := by first | (simp [entryFrame, mkF, argsToLocals, Value.category]; done) | rfl
def QCp0 (Z : State) (b : Addr) (kb : ClassId) (h0 : Heap) (n0 : Nat) (v : Option Value) (h : Heap) (L : List Loc) : Prop := v = some (.int (0 : Int32)) ∧ Fr n0 L ∧ h = h0
set_option maxRecDepth 65536 in
set_option maxHeartbeats 40000000 in
theorem rmCp0 (l : Launch) (Z : State) (a0 : Array Value) (hw : ∀ d ∈ tables_1, d.before a0 Z = true) (ws : List Jvm.Cond) (b : Addr) (kb : ClassId) (h0 : Heap) (n0 : Nat) (Z0 : n0 ≤ h0.size) (Ab : Arv Z h0 b kb .byte (0 : Int32) [] (.int (0 : Int32))) :
    MetFree l (⟨"java/lang/StringCoding", "countPositives", "([BII)I"⟩ : MethodName) (head1 (Jvm.Cond.code (⟨"java/lang/StringCoding", "countPositives", "([BII)I"⟩ : MethodName) jdk_123_method_3_code 5 (some .int) :: ws) ({ frames := 0, cells := 0, slots := 0, locals := 0 } : Room)) (fun aA' U => aA' = #[(.ref b), (.int (0 : Int32)), (.int (0 : Int32))] ∧ Z.Warmed39 U.vm ∧ U.heap = h0) (fun _ _ _ _ _ => True) (fun _ U oO' U' => ∃ vV' L, oO' = .returned vV' ∧ QCp0 Z b kb h0 n0 vV' U'.heap L ∧ FrameEnd U oO' U' L ({ frames := 0, cells := 0, slots := 0, locals := 0 } : Room).cells ({ frames := 0, cells := 0, slots := 0, locals := 0 } : Room).slots) := by
  refine MetFree.of_bodySF (plainFor_of_name own_pn5) hisR ?_
  intro p e s m args below meth c s₁ Bd hml0 hP hK
  obtain ⟨rfl, hZ, hh⟩ := hP
  have hx := Bd.exec
  have hby := Bd.bytes
  have hml : c.maxLocals = 5 := hml0
  have hown : s.vm.findClass "java/lang/StringCoding" = some m.cls := findClass_of_methodNamed Bd.named
  have hnm := (name_of_methodNamed Bd.named Bd.method).1
  have X0 : Stand p l e ({ frames := 0, cells := 0, slots := 0, locals := 0 } : Room) s m #[(.ref b), (.int (0 : Int32)), (.int (0 : Int32))] below meth c s₁ [] 0 0 := Stand.of_body Bd
  have e0 : s₁.heap = h0 := by rw [← hh, Bd.state]; rfl
  have N0 := Fr.nil n0
  have K0 : Keep h0 h0 [] := Keep.refl _ _
  have k0 : ∀ t, Steps p.tables e below (s₁.setTop (mkF m 0 #[.val (.ref b), .val (.int (0 : Int32)), .val (.int (0 : Int32)), .unset, .unset] [])) t → Steps p.tables e below (s₁.setTop (entryFrame m #[(.ref b), (.int (0 : Int32)), (.int (0 : Int32))] 5)) t := fun t k => castTop (rmCp0_ef m (b)) k
  have hc10_1 : ¬ ((0 : Int32) < (0 : Int32)) := by decide
  have k2 : ∀ t, Steps p.tables e below (s₁.setTop (mkF m 32 #[.val (.ref b), .val (.int (0 : Int32)), .val (.int (0 : Int32)), .val (.int (0 : Int32)), .val (.int (0 : Int32))] [(.int (0 : Int32))])) t → Steps p.tables e below (s₁.setTop (entryFrame m #[(.ref b), (.int (0 : Int32)), (.int (0 : Int32))] 5)) t := by
    intro t kt
    refine k0 t ?_
    show Steps p.tables e below (s₁.setTop (mkF m 0 #[.val (.ref b), .val (.int (0 : Int32)), .val (.int (0 : Int32)), .unset, .unset] [])) t
    refine XS.iloadN X0.here hx rfl (hb hby d15_0) rfl ?_
    show Steps p.tables e below (s₁.setTop (mkF m 1 #[.val (.ref b), .val (.int (0 : Int32)), .val (.int (0 : Int32)), .unset, .unset] [(.int (0 : Int32))])) t
    refine XS.iloadN X0.here hx rfl (hb hby d15_1) rfl ?_
    show Steps p.tables e below (s₁.setTop (mkF m 2 #[.val (.ref b), .val (.int (0 : Int32)), .val (.int (0 : Int32)), .unset, .unset] [(.int (0 : Int32)), (.int (0 : Int32))])) t
    refine XS.iadd X0.here hx rfl (hb hby d15_2) rfl ?_
    show Steps p.tables e below (s₁.setTop (mkF m 3 #[.val (.ref b), .val (.int (0 : Int32)), .val (.int (0 : Int32)), .unset, .unset] [(.int (0 : Int32))])) t
    refine XS.istoreN X0.here hx rfl (hb hby d15_3) rfl (l' := #[.val (.ref b), .val (.int (0 : Int32)), .val (.int (0 : Int32)), .val (.int (0 : Int32)), .unset]) rfl ?_
    show Steps p.tables e below (s₁.setTop (mkF m 4 #[.val (.ref b), .val (.int (0 : Int32)), .val (.int (0 : Int32)), .val (.int (0 : Int32)), .unset] [])) t
    refine XS.iloadN X0.here hx rfl (hb hby d15_4) rfl ?_
    show Steps p.tables e below (s₁.setTop (mkF m 5 #[.val (.ref b), .val (.int (0 : Int32)), .val (.int (0 : Int32)), .val (.int (0 : Int32)), .unset] [(.int (0 : Int32))])) t
    refine XS.istore X0.here hx rfl (hb hby d15_5) rfl (l' := #[.val (.ref b), .val (.int (0 : Int32)), .val (.int (0 : Int32)), .val (.int (0 : Int32)), .val (.int (0 : Int32))]) rfl ?_
    show Steps p.tables e below (s₁.setTop (mkF m 7 #[.val (.ref b), .val (.int (0 : Int32)), .val (.int (0 : Int32)), .val (.int (0 : Int32)), .val (.int (0 : Int32))] [])) t
    refine XS.iload X0.here hx rfl (hb hby d15_7) rfl ?_
    show Steps p.tables e below (s₁.setTop (mkF m 9 #[.val (.ref b), .val (.int (0 : Int32)), .val (.int (0 : Int32)), .val (.int (0 : Int32)), .val (.int (0 : Int32))] [(.int (0 : Int32))])) t
    refine XS.iloadN X0.here hx rfl (hb hby d15_9) rfl ?_
    show Steps p.tables e below (s₁.setTop (mkF m 10 #[.val (.ref b), .val (.int (0 : Int32)), .val (.int (0 : Int32)), .val (.int (0 : Int32)), .val (.int (0 : Int32))] [(.int (0 : Int32)), (.int (0 : Int32))])) t
    refine XS.icmpYes X0.here hx rfl (pc0 := 10) (pc' := 31) rfl (hb hby d15_10) rfl (flt hc10_1).2.1 (by decide) (by decide) ?_
    show Steps p.tables e below (s₁.setTop (mkF m 31 #[.val (.ref b), .val (.int (0 : Int32)), .val (.int (0 : Int32)), .val (.int (0 : Int32)), .val (.int (0 : Int32))] [])) t
    refine XS.iloadN X0.here hx rfl (hb hby d15_31) rfl ?_
    exact kt
  obtain ⟨fs, hr, hrun, hended, hW, hsame⟩ := X0.leave (v := some (.int (0 : Int32))) (fun h => by rw [Bd.returns] at h; cases h)
  refine ⟨_, _, k2 _ ?_, hrun, hended, _, _, rfl, ?_, ⟨_, rfl⟩, hW, hsame.mono (by decide) (by decide)⟩
  · show Steps p.tables e below (s₁.setTop (mkF m 32 #[.val (.ref b), .val (.int (0 : Int32)), .val (.int (0 : Int32)), .val (.int (0 : Int32)), .val (.int (0 : Int32))] [(.int (0 : Int32))])) _
    exact retI X0 hx Bd.returns (hb hby d15_32) hr
  · show QCp0 Z b kb h0 n0 _ s₁.heap _
    rw [e0]
    exact ⟨rfl, N0, rfl⟩
theorem d14_0 : decode jdk_123_method_2_code 0 = .ok (.aload_n 0, 1) := by decide +kernel
theorem d14_1 : decode jdk_123_method_2_code 1 = .ok (.iload_n 1, 1) := by decide +kernel
theorem d14_2 : decode jdk_123_method_2_code 2 = .ok (.iload_n 2, 1) := by decide +kernel
theorem d14_3 : decode jdk_123_method_2_code 3 = .ok (.invokestatic 7, 3) := by decide +kernel
theorem d14_6 : decode jdk_123_method_2_code 6 = .ok (.iload_n 2, 1) := by decide +kernel
theorem d14_7 : decode jdk_123_method_2_code 7 = .ok (.if_icmp .eq 7, 3) := by decide +kernel
theorem d14_10 : decode jdk_123_method_2_code 10 = .ok (.iconst 1, 1) := by decide +kernel
theorem d14_11 : decode jdk_123_method_2_code 11 = .ok (.goto 4, 3) := by decide +kernel
theorem d14_14 : decode jdk_123_method_2_code 14 = .ok (.iconst 0, 1) := by decide +kernel
theorem d14_15 : decode jdk_123_method_2_code 15 = .ok (.ireturn, 1) := by decide +kernel
theorem rmHn0_ef (m : MethodId) (x0 : Addr) : entryFrame m #[(.ref x0), (.int (0 : Int32)), (.int (0 : Int32))] 3 = mkF m 0 #[.val (.ref x0), .val (.int (0 : Int32)), .val (.int (0 : Int32))] [] := by first | (simp [entryFrame, mkF, argsToLocals, Value.category]; done) | rfl
def QHn0 (Z : State) (b : Addr) (kb : ClassId) (h0 : Heap) (n0 : Nat) (v : Option Value) (h : Heap) (L : List Loc) : Prop := v = some (.int (0 : Int32)) ∧ Fr n0 L ∧ h = h0
theorem own_pd6 : parseMethodDescriptor "([BII)I" = some ⟨[(.array .byte), .int, .int], some .int⟩ := by decide +kernel
set_option maxRecDepth 65536 in
set_option maxHeartbeats 40000000 in
theorem rmHn0 (l : Launch) (Z : State) (a0 : Array Value) (hw : ∀ d ∈ tables_1, d.before a0 Z = true) (ws : List Jvm.Cond) (b : Addr) (kb : ClassId) (h0 : Heap) (n0 : Nat) (Z0 : n0 ≤ h0.size) (Ab : Arv Z h0 b kb .byte (0 : Int32) [] (.int (0 : Int32))) :
    MetFree l (⟨"java/lang/StringCoding", "hasNegatives", "([BII)Z"⟩ : MethodName) (head1 (Jvm.Cond.code (⟨"java/lang/StringCoding", "hasNegatives", "([BII)Z"⟩ : MethodName) jdk_123_method_2_code 3 (some .boolean) :: ws) ({ frames := 1, cells := 0, slots := 0, locals := 16 } : Room)) (fun aA' U => aA' = #[(.ref b), (.int (0 : Int32)), (.int (0 : Int32))] ∧ Z.Warmed39 U.vm ∧ U.heap = h0) (fun _ _ _ _ _ => True) (fun _ U oO' U' => ∃ vV' L, oO' = .returned vV' ∧ QHn0 Z b kb h0 n0 vV' U'.heap L ∧ FrameEnd U oO' U' L ({ frames := 1, cells := 0, slots := 0, locals := 16 } : Room).cells ({ frames := 1, cells := 0, slots := 0, locals := 16 } : Room).slots) := by
  refine MetFree.of_bodySF (plainFor_of_name own_pn5) hisR ?_
  intro p e s m args below meth c s₁ Bd hml0 hP hK
  obtain ⟨rfl, hZ, hh⟩ := hP
  have hx := Bd.exec
  have hby := Bd.bytes
  have hml : c.maxLocals = 3 := hml0
  have hown : s.vm.findClass "java/lang/StringCoding" = some m.cls := findClass_of_methodNamed Bd.named
  have hnm := (name_of_methodNamed Bd.named Bd.method).1
  have X0 : Stand p l e ({ frames := 1, cells := 0, slots := 0, locals := 16 } : Room) s m #[(.ref b), (.int (0 : Int32)), (.int (0 : Int32))] below meth c s₁ [] 0 0 := Stand.of_body Bd
  have e0 : s₁.heap = h0 := by rw [← hh, Bd.state]; rfl
  have N0 := Fr.nil n0
  have K0 : Keep h0 h0 [] := Keep.refl _ _
  have k0 : ∀ t, Steps p.tables e below (s₁.setTop (mkF m 0 #[.val (.ref b), .val (.int (0 : Int32)), .val (.int (0 : Int32))] [])) t → Steps p.tables e below (s₁.setTop (entryFrame m #[(.ref b), (.int (0 : Int32)), (.int (0 : Int32))] 3)) t := fun t k => castTop (rmHn0_ef m (b)) k
  have k1 : ∀ t, Steps p.tables e below (s₁.setTop (mkF m 3 #[.val (.ref b), .val (.int (0 : Int32)), .val (.int (0 : Int32))] [(.int (0 : Int32)), (.int (0 : Int32)), (.ref b)])) t → Steps p.tables e below (s₁.setTop (entryFrame m #[(.ref b), (.int (0 : Int32)), (.int (0 : Int32))] 3)) t := by
    intro t kt
    refine k0 t ?_
    show Steps p.tables e below (s₁.setTop (mkF m 0 #[.val (.ref b), .val (.int (0 : Int32)), .val (.int (0 : Int32))] [])) t
    refine XS.aloadN X0.here hx rfl (hb hby d14_0) rfl rfl ?_
    show Steps p.tables e below (s₁.setTop (mkF m 1 #[.val (.ref b), .val (.int (0 : Int32)), .val (.int (0 : Int32))] [(.ref b)])) t
    refine XS.iloadN X0.here hx rfl (hb hby d14_1) rfl ?_
    show Steps p.tables e below (s₁.setTop (mkF m 2 #[.val (.ref b), .val (.int (0 : Int32)), .val (.int (0 : Int32))] [(.int (0 : Int32)), (.ref b)])) t
    refine XS.iloadN X0.here hx rfl (hb hby d14_2) rfl ?_
    exact kt
  obtain ⟨_, _, ⟨T2, L2, k2c, n2⟩, -, X2, ⟨Lc2, hQ2, l2, y2, z2⟩, st2⟩ := Jvm.LawKit.callS X0 hx (y := (⟨"java/lang/StringCoding", "countPositives", "([BII)I"⟩ : MethodName)) hown (mvT hZ (hw _ (List.mem_of_getElem? (i := 73) rfl))) (mvT hZ (hw _ (List.mem_of_getElem? (i := 74) rfl))) (mvT hZ (hw _ (List.mem_of_getElem? (i := 71) rfl))) (mvT hZ (hw _ (List.mem_of_getElem? (i := 75) rfl))) (by decide) (backOf (W := 0) (rmCp0 l Z a0 hw [] b kb  h0 n0 Z0 Ab ) hZ (hw _ (List.mem_of_getElem? (i := 75) rfl)) (hw _ (List.mem_of_getElem? (i := 71) rfl)) (by decide) (by decide)) (g := (mkF m 3 #[.val (.ref b), .val (.int (0 : Int32)), .val (.int (0 : Int32))] [(.int (0 : Int32)), (.int (0 : Int32)), (.ref b)])) rfl (by rw [hml]; rfl) (argsL := [(.ref b), (.int (0 : Int32)), (.int (0 : Int32))]) (rest := []) (lenOf own_pd6 rfl) rfl (by show 2 * 0 + _ ≤ _; exact Nat.le_of_eq rfl) (hb hby d14_3) (fun _ _ => ⟨rfl, e0, (by decide : 0 + 0 ≤ _), (by decide : 0 + 0 ≤ _)⟩)
  dsimp only [Pt.U, Pt.locs, Pt.cells, Pt.slots] at X2 l2 y2 z2 st2 hQ2
  subst l2 y2 z2
  obtain ⟨rfl, N2q, e2⟩ := hQ2
  have N2 := Fr.app N0 N2q
  have k3 : ∀ t, Steps p.tables e below (T2.setTop (mkF m 6 #[.val (.ref b), .val (.int (0 : Int32)), .val (.int (0 : Int32))] [(.int (0 : Int32))])) t → Steps p.tables e below (s₁.setTop (entryFrame m #[(.ref b), (.int (0 : Int32)), (.int (0 : Int32))] 3)) t := fun t kt => k1 t (st2 t kt)
  have k5 : ∀ t, Steps p.tables e below (T2.setTop (mkF m 7 #[.val (.ref b), .val (.int (0 : Int32)), .val (.int (0 : Int32))] [(.int (0 : Int32)), (.int (0 : Int32))])) t → Steps p.tables e below (s₁.setTop (entryFrame m #[(.ref b), (.int (0 : Int32)), (.int (0 : Int32))] 3)) t := by
    intro t kt
    refine k3 t ?_
    show Steps p.tables e below (T2.setTop (mkF m 6 #[.val (.ref b), .val (.int (0 : Int32)), .val (.int (0 : Int32))] [(.int (0 : Int32))])) t
    refine XS.iloadN X2.here hx rfl (hb hby d14_6) rfl ?_
    exact kt
  have hc7_4 : (0 : Int32) = (0 : Int32) := rfl
  have k6 : ∀ t, Steps p.tables e below (T2.setTop (mkF m 15 #[.val (.ref b), .val (.int (0 : Int32)), .val (.int (0 : Int32))] [(.int (0 : Int32))])) t → Steps p.tables e below (s₁.setTop (entryFrame m #[(.ref b), (.int (0 : Int32)), (.int (0 : Int32))] 3)) t := by
    intro t kt
    refine k5 t ?_
    show Steps p.tables e below (T2.setTop (mkF m 7 #[.val (.ref b), .val (.int (0 : Int32)), .val (.int (0 : Int32))] [(.int (0 : Int32)), (.int (0 : Int32))])) t
    refine XS.icmpYes X2.here hx rfl (pc0 := 7) (pc' := 14) rfl (hb hby d14_7) rfl (teq hc7_4).1 (by decide) (by decide) ?_
    show Steps p.tables e below (T2.setTop (mkF m 14 #[.val (.ref b), .val (.int (0 : Int32)), .val (.int (0 : Int32))] [])) t
    refine XS.iconst X2.here hx rfl (hb hby d14_14) ?_
    exact kt
  obtain ⟨fs, hr, hrun, hended, hW, hsame⟩ := X2.leave (v := some (.int (0 : Int32))) (fun h => by rw [Bd.returns] at h; cases h)
  refine ⟨_, _, k6 _ ?_, hrun, hended, _, _, rfl, ?_, ⟨_, rfl⟩, hW, hsame.mono (by decide) (by decide)⟩
  · show Steps p.tables e below (T2.setTop (mkF m 15 #[.val (.ref b), .val (.int (0 : Int32)), .val (.int (0 : Int32))] [(.int (0 : Int32))])) _
    exact retN X2 hx (t := .boolean) Bd.returns (by simp) (hb hby d14_15) hr
  · show QHn0 Z b kb h0 n0 _ T2.heap _
    rw [e2]
    exact ⟨rfl, N2, rfl⟩
theorem rmCp1n_ef (m : MethodId) (x0 : Addr) : entryFrame m #[(.ref x0), (.int (0 : Int32)), (.int (1 : Int32))] 5 = mkF m 0 #[.val (.ref x0), .val (.int (0 : Int32)), .val (.int (1 : Int32)), .unset, .unset] [] := by first | (simp [entryFrame, mkF, argsToLocals, Value.category]; done) | rfl
def QCp1n (Z : State) (b : Addr) (kb : ClassId) (ax : Int32) (h0 : Heap) (n0 : Nat) (v : Option Value) (h : Heap) (L : List Loc) : Prop := v = some (.int (0 : Int32)) ∧ Fr n0 L ∧ h = h0
set_option maxRecDepth 65536 in
set_option maxHeartbeats 40000000 in
theorem rmCp1n (l : Launch) (Z : State) (a0 : Array Value) (hw : ∀ d ∈ tables_1, d.before a0 Z = true) (ws : List Jvm.Cond) (b : Addr) (kb : ClassId) (ax : Int32) (h0 : Heap) (n0 : Nat) (Z0 : n0 ≤ h0.size) (Ab : Arv Z h0 b kb .byte (1 : Int32) [(.int ax)] (.int (0 : Int32))) (sax : ax < (0 : Int32)) :
    MetFree l (⟨"java/lang/StringCoding", "countPositives", "([BII)I"⟩ : MethodName) (head1 (Jvm.Cond.code (⟨"java/lang/StringCoding", "countPositives", "([BII)I"⟩ : MethodName) jdk_123_method_3_code 5 (some .int) :: ws) ({ frames := 0, cells := 0, slots := 0, locals := 0 } : Room)) (fun aA' U => aA' = #[(.ref b), (.int (0 : Int32)), (.int (1 : Int32))] ∧ Z.Warmed39 U.vm ∧ U.heap = h0) (fun _ _ _ _ _ => True) (fun _ U oO' U' => ∃ vV' L, oO' = .returned vV' ∧ QCp1n Z b kb ax h0 n0 vV' U'.heap L ∧ FrameEnd U oO' U' L ({ frames := 0, cells := 0, slots := 0, locals := 0 } : Room).cells ({ frames := 0, cells := 0, slots := 0, locals := 0 } : Room).slots) := by
  refine MetFree.of_bodySF (plainFor_of_name own_pn5) hisR ?_
  intro p e s m args below meth c s₁ Bd hml0 hP hK
  obtain ⟨rfl, hZ, hh⟩ := hP
  have hx := Bd.exec
  have hby := Bd.bytes
  have hml : c.maxLocals = 5 := hml0
  have hown : s.vm.findClass "java/lang/StringCoding" = some m.cls := findClass_of_methodNamed Bd.named
  have hnm := (name_of_methodNamed Bd.named Bd.method).1
  have X0 : Stand p l e ({ frames := 0, cells := 0, slots := 0, locals := 0 } : Room) s m #[(.ref b), (.int (0 : Int32)), (.int (1 : Int32))] below meth c s₁ [] 0 0 := Stand.of_body Bd
  have e0 : s₁.heap = h0 := by rw [← hh, Bd.state]; rfl
  have N0 := Fr.nil n0
  have K0 : Keep h0 h0 [] := Keep.refl _ _
  have k0 : ∀ t, Steps p.tables e below (s₁.setTop (mkF m 0 #[.val (.ref b), .val (.int (0 : Int32)), .val (.int (1 : Int32)), .unset, .unset] [])) t → Steps p.tables e below (s₁.setTop (entryFrame m #[(.ref b), (.int (0 : Int32)), (.int (1 : Int32))] 5)) t := fun t k => castTop (rmCp1n_ef m (b)) k
  have hc10_1 : (0 : Int32) < (1 : Int32) := by decide
  have k2 : ∀ t, Steps p.tables e below (s₁.setTop (mkF m 16 #[.val (.ref b), .val (.int (0 : Int32)), .val (.int (1 : Int32)), .val (.int (1 : Int32)), .val (.int (0 : Int32))] [(.int (0 : Int32)), (.ref b)])) t → Steps p.tables e below (s₁.setTop (entryFrame m #[(.ref b), (.int (0 : Int32)), (.int (1 : Int32))] 5)) t := by
    intro t kt
    refine k0 t ?_
    show Steps p.tables e below (s₁.setTop (mkF m 0 #[.val (.ref b), .val (.int (0 : Int32)), .val (.int (1 : Int32)), .unset, .unset] [])) t
    refine XS.iloadN X0.here hx rfl (hb hby d15_0) rfl ?_
    show Steps p.tables e below (s₁.setTop (mkF m 1 #[.val (.ref b), .val (.int (0 : Int32)), .val (.int (1 : Int32)), .unset, .unset] [(.int (0 : Int32))])) t
    refine XS.iloadN X0.here hx rfl (hb hby d15_1) rfl ?_
    show Steps p.tables e below (s₁.setTop (mkF m 2 #[.val (.ref b), .val (.int (0 : Int32)), .val (.int (1 : Int32)), .unset, .unset] [(.int (1 : Int32)), (.int (0 : Int32))])) t
    refine XS.iadd X0.here hx rfl (hb hby d15_2) rfl ?_
    show Steps p.tables e below (s₁.setTop (mkF m 3 #[.val (.ref b), .val (.int (0 : Int32)), .val (.int (1 : Int32)), .unset, .unset] [(.int (1 : Int32))])) t
    refine XS.istoreN X0.here hx rfl (hb hby d15_3) rfl (l' := #[.val (.ref b), .val (.int (0 : Int32)), .val (.int (1 : Int32)), .val (.int (1 : Int32)), .unset]) rfl ?_
    show Steps p.tables e below (s₁.setTop (mkF m 4 #[.val (.ref b), .val (.int (0 : Int32)), .val (.int (1 : Int32)), .val (.int (1 : Int32)), .unset] [])) t
    refine XS.iloadN X0.here hx rfl (hb hby d15_4) rfl ?_
    show Steps p.tables e below (s₁.setTop (mkF m 5 #[.val (.ref b), .val (.int (0 : Int32)), .val (.int (1 : Int32)), .val (.int (1 : Int32)), .unset] [(.int (0 : Int32))])) t
    refine XS.istore X0.here hx rfl (hb hby d15_5) rfl (l' := #[.val (.ref b), .val (.int (0 : Int32)), .val (.int (1 : Int32)), .val (.int (1 : Int32)), .val (.int (0 : Int32))]) rfl ?_
    show Steps p.tables e below (s₁.setTop (mkF m 7 #[.val (.ref b), .val (.int (0 : Int32)), .val (.int (1 : Int32)), .val (.int (1 : Int32)), .val (.int (0 : Int32))] [])) t
    refine XS.iload X0.here hx rfl (hb hby d15_7) rfl ?_
    show Steps p.tables e below (s₁.setTop (mkF m 9 #[.val (.ref b), .val (.int (0 : Int32)), .val (.int (1 : Int32)), .val (.int (1 : Int32)), .val (.int (0 : Int32))] [(.int (0 : Int32))])) t
    refine XS.iloadN X0.here hx rfl (hb hby d15_9) rfl ?_
    show Steps p.tables e below (s₁.setTop (mkF m 10 #[.val (.ref b), .val (.int (0 : Int32)), .val (.int (1 : Int32)), .val (.int (1 : Int32)), .val (.int (0 : Int32))] [(.int (1 : Int32)), (.int (0 : Int32))])) t
    refine XS.icmpNo X0.here hx rfl (hb hby d15_10) rfl (tlt hc10_1).2.1 ?_
    show Steps p.tables e below (s₁.setTop (mkF m 13 #[.val (.ref b), .val (.int (0 : Int32)), .val (.int (1 : Int32)), .val (.int (1 : Int32)), .val (.int (0 : Int32))] [])) t
    refine XS.aloadN X0.here hx rfl (hb hby d15_13) rfl rfl ?_
    show Steps p.tables e below (s₁.setTop (mkF m 14 #[.val (.ref b), .val (.int (0 : Int32)), .val (.int (1 : Int32)), .val (.int (1 : Int32)), .val (.int (0 : Int32))] [(.ref b)])) t
    refine XS.iload X0.here hx rfl (hb hby d15_14) rfl ?_
    exact kt
  obtain ⟨cl3, Ar3, q3, S3, M3, H3, G3⟩ := id Ab
  have hin3 : ¬ ((0 : Int32) < 0 ∨ cl3.slots.size ≤ ((0 : Int32)).toNatClampNeg) := inb_of S3 ⟨by decide, by decide⟩
  have hat3 : cl3.slots[((0 : Int32)).toNatClampNeg]? = some (.int ax) := Has.at H3 hin3 rfl
  have k4 : ∀ t, Steps p.tables e below (s₁.setTop (mkF m 17 #[.val (.ref b), .val (.int (0 : Int32)), .val (.int (1 : Int32)), .val (.int (1 : Int32)), .val (.int (0 : Int32))] [(.int ax)])) t → Steps p.tables e below (s₁.setTop (entryFrame m #[(.ref b), (.int (0 : Int32)), (.int (1 : Int32))] 5)) t := fun t kt => k2 t (X0.baloadBytes hx (j := (0 : Int32)) (v := (.int ax)) (by rw [e0]; exact Ar3.1) (State.isArrayOf_alike hZ.alike Ar3.2.1) Ar3.2.2 hin3 hat3 (g := (mkF m 16 #[.val (.ref b), .val (.int (0 : Int32)), .val (.int (1 : Int32)), .val (.int (1 : Int32)), .val (.int (0 : Int32))] [(.int (0 : Int32)), (.ref b)])) rfl rfl (hb hby d15_16) t kt)
  have k6 : ∀ t, Steps p.tables e below (s₁.setTop (mkF m 24 #[.val (.ref b), .val (.int (0 : Int32)), .val (.int (1 : Int32)), .val (.int (1 : Int32)), .val (.int (0 : Int32))] [(.int (0 : Int32))])) t → Steps p.tables e below (s₁.setTop (entryFrame m #[(.ref b), (.int (0 : Int32)), (.int (1 : Int32))] 5)) t := by
    intro t kt
    refine k4 t ?_
    show Steps p.tables e below (s₁.setTop (mkF m 17 #[.val (.ref b), .val (.int (0 : Int32)), .val (.int (1 : Int32)), .val (.int (1 : Int32)), .val (.int (0 : Int32))] [(.int ax)])) t
    refine XS.ifNo X0.here hx rfl (hb hby d15_17) rfl ((if0 _ _).trans (tlt sax).2.1) ?_
    show Steps p.tables e below (s₁.setTop (mkF m 20 #[.val (.ref b), .val (.int (0 : Int32)), .val (.int (1 : Int32)), .val (.int (1 : Int32)), .val (.int (0 : Int32))] [])) t
    refine XS.iload X0.here hx rfl (hb hby d15_20) rfl ?_
    show Steps p.tables e below (s₁.setTop (mkF m 22 #[.val (.ref b), .val (.int (0 : Int32)), .val (.int (1 : Int32)), .val (.int (1 : Int32)), .val (.int (0 : Int32))] [(.int (0 : Int32))])) t
    refine XS.iloadN X0.here hx rfl (hb hby d15_22) rfl ?_
    show Steps p.tables e below (s₁.setTop (mkF m 23 #[.val (.ref b), .val (.int (0 : Int32)), .val (.int (1 : Int32)), .val (.int (1 : Int32)), .val (.int (0 : Int32))] [(.int (0 : Int32)), (.int (0 : Int32))])) t
    refine XS.isub X0.here hx rfl (hb hby d15_23) rfl ?_
    exact kt
  obtain ⟨fs, hr, hrun, hended, hW, hsame⟩ := X0.leave (v := some (.int (0 : Int32))) (fun h => by rw [Bd.returns] at h; cases h)
  refine ⟨_, _, k6 _ ?_, hrun, hended, _, _, rfl, ?_, ⟨_, rfl⟩, hW, hsame.mono (by decide) (by decide)⟩
  · show Steps p.tables e below (s₁.setTop (mkF m 24 #[.val (.ref b), .val (.int (0 : Int32)), .val (.int (1 : Int32)), .val (.int (1 : Int32)), .val (.int (0 : Int32))] [(.int (0 : Int32))])) _
    exact retI X0 hx Bd.returns (hb hby d15_24) hr
  · show QCp1n Z b kb ax h0 n0 _ s₁.heap _
    rw [e0]
    exact ⟨rfl, N0, rfl⟩
theorem rmHn1n_ef (m : MethodId) (x0 : Addr) : entryFrame m #[(.ref x0), (.int (0 : Int32)), (.int (1 : Int32))] 3 = mkF m 0 #[.val (.ref x0), .val (.int (0 : Int32)), .val (.int (1 : Int32))] [] := by first | (simp [entryFrame, mkF, argsToLocals, Value.category]; done) | rfl
def QHn1n (Z : State) (b : Addr) (kb : ClassId) (ax : Int32) (h0 : Heap) (n0 : Nat) (v : Option Value) (h : Heap) (L : List Loc) : Prop := v = some (.int (1 : Int32)) ∧ Fr n0 L ∧ h = h0
set_option maxRecDepth 65536 in
set_option maxHeartbeats 40000000 in
theorem rmHn1n (l : Launch) (Z : State) (a0 : Array Value) (hw : ∀ d ∈ tables_1, d.before a0 Z = true) (ws : List Jvm.Cond) (b : Addr) (kb : ClassId) (ax : Int32) (h0 : Heap) (n0 : Nat) (Z0 : n0 ≤ h0.size) (Ab : Arv Z h0 b kb .byte (1 : Int32) [(.int ax)] (.int (0 : Int32))) (sax : ax < (0 : Int32)) :
    MetFree l (⟨"java/lang/StringCoding", "hasNegatives", "([BII)Z"⟩ : MethodName) (head1 (Jvm.Cond.code (⟨"java/lang/StringCoding", "hasNegatives", "([BII)Z"⟩ : MethodName) jdk_123_method_2_code 3 (some .boolean) :: ws) ({ frames := 1, cells := 0, slots := 0, locals := 16 } : Room)) (fun aA' U => aA' = #[(.ref b), (.int (0 : Int32)), (.int (1 : Int32))] ∧ Z.Warmed39 U.vm ∧ U.heap = h0) (fun _ _ _ _ _ => True) (fun _ U oO' U' => ∃ vV' L, oO' = .returned vV' ∧ QHn1n Z b kb ax h0 n0 vV' U'.heap L ∧ FrameEnd U oO' U' L ({ frames := 1, cells := 0, slots := 0, locals := 16 } : Room).cells ({ frames := 1, cells := 0, slots := 0, locals := 16 } : Room).slots) := by
  refine MetFree.of_bodySF (plainFor_of_name own_pn5) hisR ?_
  intro p e s m args below meth c s₁ Bd hml0 hP hK
  obtain ⟨rfl, hZ, hh⟩ := hP
  have hx := Bd.exec
  have hby := Bd.bytes
  have hml : c.maxLocals = 3 := hml0
  have hown : s.vm.findClass "java/lang/StringCoding" = some m.cls := findClass_of_methodNamed Bd.named
  have hnm := (name_of_methodNamed Bd.named Bd.method).1
  have X0 : Stand p l e ({ frames := 1, cells := 0, slots := 0, locals := 16 } : Room) s m #[(.ref b), (.int (0 : Int32)), (.int (1 : Int32))] below meth c s₁ [] 0 0 := Stand.of_body Bd
  have e0 : s₁.heap = h0 := by rw [← hh, Bd.state]; rfl
  have N0 := Fr.nil n0
  have K0 : Keep h0 h0 [] := Keep.refl _ _
  have k0 : ∀ t, Steps p.tables e below (s₁.setTop (mkF m 0 #[.val (.ref b), .val (.int (0 : Int32)), .val (.int (1 : Int32))] [])) t → Steps p.tables e below (s₁.setTop (entryFrame m #[(.ref b), (.int (0 : Int32)), (.int (1 : Int32))] 3)) t := fun t k => castTop (rmHn1n_ef m (b)) k
  have k1 : ∀ t, Steps p.tables e below (s₁.setTop (mkF m 3 #[.val (.ref b), .val (.int (0 : Int32)), .val (.int (1 : Int32))] [(.int (1 : Int32)), (.int (0 : Int32)), (.ref b)])) t → Steps p.tables e below (s₁.setTop (entryFrame m #[(.ref b), (.int (0 : Int32)), (.int (1 : Int32))] 3)) t := by
    intro t kt
    refine k0 t ?_
    show Steps p.tables e below (s₁.setTop (mkF m 0 #[.val (.ref b), .val (.int (0 : Int32)), .val (.int (1 : Int32))] [])) t
    refine XS.aloadN X0.here hx rfl (hb hby d14_0) rfl rfl ?_
    show Steps p.tables e below (s₁.setTop (mkF m 1 #[.val (.ref b), .val (.int (0 : Int32)), .val (.int (1 : Int32))] [(.ref b)])) t
    refine XS.iloadN X0.here hx rfl (hb hby d14_1) rfl ?_
    show Steps p.tables e below (s₁.setTop (mkF m 2 #[.val (.ref b), .val (.int (0 : Int32)), .val (.int (1 : Int32))] [(.int (0 : Int32)), (.ref b)])) t
    refine XS.iloadN X0.here hx rfl (hb hby d14_2) rfl ?_
    exact kt
  obtain ⟨_, _, ⟨T2, L2, k2c, n2⟩, -, X2, ⟨Lc2, hQ2, l2, y2, z2⟩, st2⟩ := Jvm.LawKit.callS X0 hx (y := (⟨"java/lang/StringCoding", "countPositives", "([BII)I"⟩ : MethodName)) hown (mvT hZ (hw _ (List.mem_of_getElem? (i := 73) rfl))) (mvT hZ (hw _ (List.mem_of_getElem? (i := 74) rfl))) (mvT hZ (hw _ (List.mem_of_getElem? (i := 71) rfl))) (mvT hZ (hw _ (List.mem_of_getElem? (i := 75) rfl))) (by decide) (backOf (W := 0) (rmCp1n l Z a0 hw [] b kb ax h0 n0 Z0 Ab sax) hZ (hw _ (List.mem_of_getElem? (i := 75) rfl)) (hw _ (List.mem_of_getElem? (i := 71) rfl)) (by decide) (by decide)) (g := (mkF m 3 #[.val (.ref b), .val (.int (0 : Int32)), .val (.int (1 : Int32))] [(.int (1 : Int32)), (.int (0 : Int32)), (.ref b)])) rfl (by rw [hml]; rfl) (argsL := [(.ref b), (.int (0 : Int32)), (.int (1 : Int32))]) (rest := []) (lenOf own_pd6 rfl) rfl (by show 2 * 0 + _ ≤ _; exact Nat.le_of_eq rfl) (hb hby d14_3) (fun _ _ => ⟨rfl, e0, (by decide : 0 + 0 ≤ _), (by decide : 0 + 0 ≤ _)⟩)
  dsimp only [Pt.U, Pt.locs, Pt.cells, Pt.slots] at X2 l2 y2 z2 st2 hQ2
  subst l2 y2 z2
  obtain ⟨rfl, N2q, e2⟩ := hQ2
  have N2 := Fr.app N0 N2q
  have k3 : ∀ t, Steps p.tables e below (T2.setTop (mkF m 6 #[.val (.ref b), .val (.int (0 : Int32)), .val (.int (1 : Int32))] [(.int (0 : Int32))])) t → Steps p.tables e below (s₁.setTop (entryFrame m #[(.ref b), (.int (0 : Int32)), (.int (1 : Int32))] 3)) t := fun t kt => k1 t (st2 t kt)
  have hc7_4 : ¬ ((0 : Int32) = (1 : Int32)) := by decide
  have k5 : ∀ t, Steps p.tables e below (T2.setTop (mkF m 15 #[.val (.ref b), .val (.int (0 : Int32)), .val (.int (1 : Int32))] [(.int (1 : Int32))])) t → Steps p.tables e below (s₁.setTop (entryFrame m #[(.ref b), (.int (0 : Int32)), (.int (1 : Int32))] 3)) t := by
    intro t kt
    refine k3 t ?_
    show Steps p.tables e below (T2.setTop (mkF m 6 #[.val (.ref b), .val (.int (0 : Int32)), .val (.int (1 : Int32))] [(.int (0 : Int32))])) t
    refine XS.iloadN X2.here hx rfl (hb hby d14_6) rfl ?_
    show Steps p.tables e below (T2.setTop (mkF m 7 #[.val (.ref b), .val (.int (0 : Int32)), .val (.int (1 : Int32))] [(.int (1 : Int32)), (.int (0 : Int32))])) t
    refine XS.icmpNo X2.here hx rfl (hb hby d14_7) rfl (feq hc7_4).1 ?_
    show Steps p.tables e below (T2.setTop (mkF m 10 #[.val (.ref b), .val (.int (0 : Int32)), .val (.int (1 : Int32))] [])) t
    refine XS.iconst X2.here hx rfl (hb hby d14_10) ?_
    show Steps p.tables e below (T2.setTop (mkF m 11 #[.val (.ref b), .val (.int (0 : Int32)), .val (.int (1 : Int32))] [(.int (1 : Int32))])) t
    refine XS.goto X2.here hx rfl (pc0 := 11) (pc' := 15) rfl (hb hby d14_11) (by decide) (by decide) ?_
    exact kt
  obtain ⟨fs, hr, hrun, hended, hW, hsame⟩ := X2.leave (v := some (.int (1 : Int32))) (fun h => by rw [Bd.returns] at h; cases h)
  refine ⟨_, _, k5 _ ?_, hrun, hended, _, _, rfl, ?_, ⟨_, rfl⟩, hW, hsame.mono (by decide) (by decide)⟩
  · show Steps p.tables e below (T2.setTop (mkF m 15 #[.val (.ref b), .val (.int (0 : Int32)), .val (.int (1 : Int32))] [(.int (1 : Int32))])) _
    exact retN X2 hx (t := .boolean) Bd.returns (by simp) (hb hby d14_15) hr
  · show QHn1n Z b kb ax h0 n0 _ T2.heap _
    rw [e2]
    exact ⟨rfl, N2, rfl⟩
theorem rmCp1p_ef (m : MethodId) (x0 : Addr) : entryFrame m #[(.ref x0), (.int (0 : Int32)), (.int (1 : Int32))] 5 = mkF m 0 #[.val (.ref x0), .val (.int (0 : Int32)), .val (.int (1 : Int32)), .unset, .unset] [] := by first | (simp [entryFrame, mkF, argsToLocals, Value.category]; done) | rfl
def QCp1p (Z : State) (b : Addr) (kb : ClassId) (ax : Int32) (h0 : Heap) (n0 : Nat) (v : Option Value) (h : Heap) (L : List Loc) : Prop := v = some (.int (1 : Int32)) ∧ Fr n0 L ∧ h = h0
set_option maxRecDepth 65536 in
set_option maxHeartbeats 40000000 in
theorem rmCp1p (l : Launch) (Z : State) (a0 : Array Value) (hw : ∀ d ∈ tables_1, d.before a0 Z = true) (ws : List Jvm.Cond) (b : Addr) (kb : ClassId) (ax : Int32) (h0 : Heap) (n0 : Nat) (Z0 : n0 ≤ h0.size) (Ab : Arv Z h0 b kb .byte (1 : Int32) [(.int ax)] (.int (0 : Int32))) (sax : ¬ (ax < (0 : Int32))) :
    MetFree l (⟨"java/lang/StringCoding", "countPositives", "([BII)I"⟩ : MethodName) (head1 (Jvm.Cond.code (⟨"java/lang/StringCoding", "countPositives", "([BII)I"⟩ : MethodName) jdk_123_method_3_code 5 (some .int) :: ws) ({ frames := 0, cells := 0, slots := 0, locals := 0 } : Room)) (fun aA' U => aA' = #[(.ref b), (.int (0 : Int32)), (.int (1 : Int32))] ∧ Z.Warmed39 U.vm ∧ U.heap = h0) (fun _ _ _ _ _ => True) (fun _ U oO' U' => ∃ vV' L, oO' = .returned vV' ∧ QCp1p Z b kb ax h0 n0 vV' U'.heap L ∧ FrameEnd U oO' U' L ({ frames := 0, cells := 0, slots := 0, locals := 0 } : Room).cells ({ frames := 0, cells := 0, slots := 0, locals := 0 } : Room).slots) := by
  refine MetFree.of_bodySF (plainFor_of_name own_pn5) hisR ?_
  intro p e s m args below meth c s₁ Bd hml0 hP hK
  obtain ⟨rfl, hZ, hh⟩ := hP
  have hx := Bd.exec
  have hby := Bd.bytes
  have hml : c.maxLocals = 5 := hml0
  have hown : s.vm.findClass "java/lang/StringCoding" = some m.cls := findClass_of_methodNamed Bd.named
  have hnm := (name_of_methodNamed Bd.named Bd.method).1
  have X0 : Stand p l e ({ frames := 0, cells := 0, slots := 0, locals := 0 } : Room) s m #[(.ref b), (.int (0 : Int32)), (.int (1 : Int32))] below meth c s₁ [] 0 0 := Stand.of_body Bd
  have e0 : s₁.heap = h0 := by rw [← hh, Bd.state]; rfl
  have N0 := Fr.nil n0
  have K0 : Keep h0 h0 [] := Keep.refl _ _
  have k0 : ∀ t, Steps p.tables e below (s₁.setTop (mkF m 0 #[.val (.ref b), .val (.int (0 : Int32)), .val (.int (1 : Int32)), .unset, .unset] [])) t → Steps p.tables e below (s₁.setTop (entryFrame m #[(.ref b), (.int (0 : Int32)), (.int (1 : Int32))] 5)) t := fun t k => castTop (rmCp1p_ef m (b)) k
  have hc10_1 : (0 : Int32) < (1 : Int32) := by decide
  have k2 : ∀ t, Steps p.tables e below (s₁.setTop (mkF m 16 #[.val (.ref b), .val (.int (0 : Int32)), .val (.int (1 : Int32)), .val (.int (1 : Int32)), .val (.int (0 : Int32))] [(.int (0 : Int32)), (.ref b)])) t → Steps p.tables e below (s₁.setTop (entryFrame m #[(.ref b), (.int (0 : Int32)), (.int (1 : Int32))] 5)) t := by
    intro t kt
    refine k0 t ?_
    show Steps p.tables e below (s₁.setTop (mkF m 0 #[.val (.ref b), .val (.int (0 : Int32)), .val (.int (1 : Int32)), .unset, .unset] [])) t
    refine XS.iloadN X0.here hx rfl (hb hby d15_0) rfl ?_
    show Steps p.tables e below (s₁.setTop (mkF m 1 #[.val (.ref b), .val (.int (0 : Int32)), .val (.int (1 : Int32)), .unset, .unset] [(.int (0 : Int32))])) t
    refine XS.iloadN X0.here hx rfl (hb hby d15_1) rfl ?_
    show Steps p.tables e below (s₁.setTop (mkF m 2 #[.val (.ref b), .val (.int (0 : Int32)), .val (.int (1 : Int32)), .unset, .unset] [(.int (1 : Int32)), (.int (0 : Int32))])) t
    refine XS.iadd X0.here hx rfl (hb hby d15_2) rfl ?_
    show Steps p.tables e below (s₁.setTop (mkF m 3 #[.val (.ref b), .val (.int (0 : Int32)), .val (.int (1 : Int32)), .unset, .unset] [(.int (1 : Int32))])) t
    refine XS.istoreN X0.here hx rfl (hb hby d15_3) rfl (l' := #[.val (.ref b), .val (.int (0 : Int32)), .val (.int (1 : Int32)), .val (.int (1 : Int32)), .unset]) rfl ?_
    show Steps p.tables e below (s₁.setTop (mkF m 4 #[.val (.ref b), .val (.int (0 : Int32)), .val (.int (1 : Int32)), .val (.int (1 : Int32)), .unset] [])) t
    refine XS.iloadN X0.here hx rfl (hb hby d15_4) rfl ?_
    show Steps p.tables e below (s₁.setTop (mkF m 5 #[.val (.ref b), .val (.int (0 : Int32)), .val (.int (1 : Int32)), .val (.int (1 : Int32)), .unset] [(.int (0 : Int32))])) t
    refine XS.istore X0.here hx rfl (hb hby d15_5) rfl (l' := #[.val (.ref b), .val (.int (0 : Int32)), .val (.int (1 : Int32)), .val (.int (1 : Int32)), .val (.int (0 : Int32))]) rfl ?_
    show Steps p.tables e below (s₁.setTop (mkF m 7 #[.val (.ref b), .val (.int (0 : Int32)), .val (.int (1 : Int32)), .val (.int (1 : Int32)), .val (.int (0 : Int32))] [])) t
    refine XS.iload X0.here hx rfl (hb hby d15_7) rfl ?_
    show Steps p.tables e below (s₁.setTop (mkF m 9 #[.val (.ref b), .val (.int (0 : Int32)), .val (.int (1 : Int32)), .val (.int (1 : Int32)), .val (.int (0 : Int32))] [(.int (0 : Int32))])) t
    refine XS.iloadN X0.here hx rfl (hb hby d15_9) rfl ?_
    show Steps p.tables e below (s₁.setTop (mkF m 10 #[.val (.ref b), .val (.int (0 : Int32)), .val (.int (1 : Int32)), .val (.int (1 : Int32)), .val (.int (0 : Int32))] [(.int (1 : Int32)), (.int (0 : Int32))])) t
    refine XS.icmpNo X0.here hx rfl (hb hby d15_10) rfl (tlt hc10_1).2.1 ?_
    show Steps p.tables e below (s₁.setTop (mkF m 13 #[.val (.ref b), .val (.int (0 : Int32)), .val (.int (1 : Int32)), .val (.int (1 : Int32)), .val (.int (0 : Int32))] [])) t
    refine XS.aloadN X0.here hx rfl (hb hby d15_13) rfl rfl ?_
    show Steps p.tables e below (s₁.setTop (mkF m 14 #[.val (.ref b), .val (.int (0 : Int32)), .val (.int (1 : Int32)), .val (.int (1 : Int32)), .val (.int (0 : Int32))] [(.ref b)])) t
    refine XS.iload X0.here hx rfl (hb hby d15_14) rfl ?_
    exact kt
  obtain ⟨cl3, Ar3, q3, S3, M3, H3, G3⟩ := id Ab
  have hin3 : ¬ ((0 : Int32) < 0 ∨ cl3.slots.size ≤ ((0 : Int32)).toNatClampNeg) := inb_of S3 ⟨by decide, by decide⟩
  have hat3 : cl3.slots[((0 : Int32)).toNatClampNeg]? = some (.int ax) := Has.at H3 hin3 rfl
  have k4 : ∀ t, Steps p.tables e below (s₁.setTop (mkF m 17 #[.val (.ref b), .val (.int (0 : Int32)), .val (.int (1 : Int32)), .val (.int (1 : Int32)), .val (.int (0 : Int32))] [(.int ax)])) t → Steps p.tables e below (s₁.setTop (entryFrame m #[(.ref b), (.int (0 : Int32)), (.int (1 : Int32))] 5)) t := fun t kt => k2 t (X0.baloadBytes hx (j := (0 : Int32)) (v := (.int ax)) (by rw [e0]; exact Ar3.1) (State.isArrayOf_alike hZ.alike Ar3.2.1) Ar3.2.2 hin3 hat3 (g := (mkF m 16 #[.val (.ref b), .val (.int (0 : Int32)), .val (.int (1 : Int32)), .val (.int (1 : Int32)), .val (.int (0 : Int32))] [(.int (0 : Int32)), (.ref b)])) rfl rfl (hb hby d15_16) t kt)
  have hc10_6 : ¬ ((1 : Int32) < (1 : Int32)) := by decide
  have k7 : ∀ t, Steps p.tables e below (s₁.setTop (mkF m 32 #[.val (.ref b), .val (.int (0 : Int32)), .val (.int (1 : Int32)), .val (.int (1 : Int32)), .val (.int (1 : Int32))] [(.int (1 : Int32))])) t → Steps p.tables e below (s₁.setTop (entryFrame m #[(.ref b), (.int (0 : Int32)), (.int (1 : Int32))] 5)) t := by
    intro t kt
    refine k4 t ?_
    show Steps p.tables e below (s₁.setTop (mkF m 17 #[.val (.ref b), .val (.int (0 : Int32)), .val (.int (1 : Int32)), .val (.int (1 : Int32)), .val (.int (0 : Int32))] [(.int ax)])) t
    refine XS.ifYes X0.here hx rfl (pc0 := 17) (pc' := 25) rfl (hb hby d15_17) rfl ((if0 _ _).trans (flt sax).2.1) (by decide) (by decide) ?_
    show Steps p.tables e below (s₁.setTop (mkF m 25 #[.val (.ref b), .val (.int (0 : Int32)), .val (.int (1 : Int32)), .val (.int (1 : Int32)), .val (.int (0 : Int32))] [])) t
    refine XS.iinc X0.here hx rfl (hb hby d15_25) rfl (l' := #[.val (.ref b), .val (.int (0 : Int32)), .val (.int (1 : Int32)), .val (.int (1 : Int32)), .val (.int (1 : Int32))]) rfl ?_
    show Steps p.tables e below (s₁.setTop (mkF m 28 #[.val (.ref b), .val (.int (0 : Int32)), .val (.int (1 : Int32)), .val (.int (1 : Int32)), .val (.int (1 : Int32))] [])) t
    refine XS.goto X0.here hx rfl (pc0 := 28) (pc' := 7) rfl (hb hby d15_28) (by decide) (by decide) ?_
    show Steps p.tables e below (s₁.setTop (mkF m 7 #[.val (.ref b), .val (.int (0 : Int32)), .val (.int (1 : Int32)), .val (.int (1 : Int32)), .val (.int (1 : Int32))] [])) t
    refine XS.iload X0.here hx rfl (hb hby d15_7) rfl ?_
    show Steps p.tables e below (s₁.setTop (mkF m 9 #[.val (.ref b), .val (.int (0 : Int32)), .val (.int (1 : Int32)), .val (.int (1 : Int32)), .val (.int (1 : Int32))] [(.int (1 : Int32))])) t
    refine XS.iloadN X0.here hx rfl (hb hby d15_9) rfl ?_
    show Steps p.tables e below (s₁.setTop (mkF m 10 #[.val (.ref b), .val (.int (0 : Int32)), .val (.int (1 : Int32)), .val (.int (1 : Int32)), .val (.int (1 : Int32))] [(.int (1 : Int32)), (.int (1 : Int32))])) t
    refine XS.icmpYes X0.here hx rfl (pc0 := 10) (pc' := 31) rfl (hb hby d15_10) rfl (flt hc10_6).2.1 (by decide) (by decide) ?_
    show Steps p.tables e below (s₁.setTop (mkF m 31 #[.val (.ref b), .val (.int (0 : Int32)), .val (.int (1 : Int32)), .val (.int (1 : Int32)), .val (.int (1 : Int32))] [])) t
    refine XS.iloadN X0.here hx rfl (hb hby d15_31) rfl ?_
    exact kt
  obtain ⟨fs, hr, hrun, hended, hW, hsame⟩ := X0.leave (v := some (.int (1 : Int32))) (fun h => by rw [Bd.returns] at h; cases h)
  refine ⟨_, _, k7 _ ?_, hrun, hended, _, _, rfl, ?_, ⟨_, rfl⟩, hW, hsame.mono (by decide) (by decide)⟩
  · show Steps p.tables e below (s₁.setTop (mkF m 32 #[.val (.ref b), .val (.int (0 : Int32)), .val (.int (1 : Int32)), .val (.int (1 : Int32)), .val (.int (1 : Int32))] [(.int (1 : Int32))])) _
    exact retI X0 hx Bd.returns (hb hby d15_32) hr
  · show QCp1p Z b kb ax h0 n0 _ s₁.heap _
    rw [e0]
    exact ⟨rfl, N0, rfl⟩
theorem rmHn1p_ef (m : MethodId) (x0 : Addr) : entryFrame m #[(.ref x0), (.int (0 : Int32)), (.int (1 : Int32))] 3 = mkF m 0 #[.val (.ref x0), .val (.int (0 : Int32)), .val (.int (1 : Int32))] [] := by first | (simp [entryFrame, mkF, argsToLocals, Value.category]; done) | rfl
def QHn1p (Z : State) (b : Addr) (kb : ClassId) (ax : Int32) (h0 : Heap) (n0 : Nat) (v : Option Value) (h : Heap) (L : List Loc) : Prop := v = some (.int (0 : Int32)) ∧ Fr n0 L ∧ h = h0
set_option maxRecDepth 65536 in
set_option maxHeartbeats 40000000 in
theorem rmHn1p (l : Launch) (Z : State) (a0 : Array Value) (hw : ∀ d ∈ tables_1, d.before a0 Z = true) (ws : List Jvm.Cond) (b : Addr) (kb : ClassId) (ax : Int32) (h0 : Heap) (n0 : Nat) (Z0 : n0 ≤ h0.size) (Ab : Arv Z h0 b kb .byte (1 : Int32) [(.int ax)] (.int (0 : Int32))) (sax : ¬ (ax < (0 : Int32))) :
    MetFree l (⟨"java/lang/StringCoding", "hasNegatives", "([BII)Z"⟩ : MethodName) (head1 (Jvm.Cond.code (⟨"java/lang/StringCoding", "hasNegatives", "([BII)Z"⟩ : MethodName) jdk_123_method_2_code 3 (some .boolean) :: ws) ({ frames := 1, cells := 0, slots := 0, locals := 16 } : Room)) (fun aA' U => aA' = #[(.ref b), (.int (0 : Int32)), (.int (1 : Int32))] ∧ Z.Warmed39 U.vm ∧ U.heap = h0) (fun _ _ _ _ _ => True) (fun _ U oO' U' => ∃ vV' L, oO' = .returned vV' ∧ QHn1p Z b kb ax h0 n0 vV' U'.heap L ∧ FrameEnd U oO' U' L ({ frames := 1, cells := 0, slots := 0, locals := 16 } : Room).cells ({ frames := 1, cells := 0, slots := 0, locals := 16 } : Room).slots) := by
  refine MetFree.of_bodySF (plainFor_of_name own_pn5) hisR ?_
  intro p e s m args below meth c s₁ Bd hml0 hP hK
  obtain ⟨rfl, hZ, hh⟩ := hP
  have hx := Bd.exec
  have hby := Bd.bytes
  have hml : c.maxLocals = 3 := hml0
  have hown : s.vm.findClass "java/lang/StringCoding" = some m.cls := findClass_of_methodNamed Bd.named
  have hnm := (name_of_methodNamed Bd.named Bd.method).1
  have X0 : Stand p l e ({ frames := 1, cells := 0, slots := 0, locals := 16 } : Room) s m #[(.ref b), (.int (0 : Int32)), (.int (1 : Int32))] below meth c s₁ [] 0 0 := Stand.of_body Bd
  have e0 : s₁.heap = h0 := by rw [← hh, Bd.state]; rfl
  have N0 := Fr.nil n0
  have K0 : Keep h0 h0 [] := Keep.refl _ _
  have k0 : ∀ t, Steps p.tables e below (s₁.setTop (mkF m 0 #[.val (.ref b), .val (.int (0 : Int32)), .val (.int (1 : Int32))] [])) t → Steps p.tables e below (s₁.setTop (entryFrame m #[(.ref b), (.int (0 : Int32)), (.int (1 : Int32))] 3)) t := fun t k => castTop (rmHn1p_ef m (b)) k
  have k1 : ∀ t, Steps p.tables e below (s₁.setTop (mkF m 3 #[.val (.ref b), .val (.int (0 : Int32)), .val (.int (1 : Int32))] [(.int (1 : Int32)), (.int (0 : Int32)), (.ref b)])) t → Steps p.tables e below (s₁.setTop (entryFrame m #[(.ref b), (.int (0 : Int32)), (.int (1 : Int32))] 3)) t := by
    intro t kt
    refine k0 t ?_
    show Steps p.tables e below (s₁.setTop (mkF m 0 #[.val (.ref b), .val (.int (0 : Int32)), .val (.int (1 : Int32))] [])) t
    refine XS.aloadN X0.here hx rfl (hb hby d14_0) rfl rfl ?_
    show Steps p.tables e below (s₁.setTop (mkF m 1 #[.val (.ref b), .val (.int (0 : Int32)), .val (.int (1 : Int32))] [(.ref b)])) t
    refine XS.iloadN X0.here hx rfl (hb hby d14_1) rfl ?_
    show Steps p.tables e below (s₁.setTop (mkF m 2 #[.val (.ref b), .val (.int (0 : Int32)), .val (.int (1 : Int32))] [(.int (0 : Int32)), (.ref b)])) t
    refine XS.iloadN X0.here hx rfl (hb hby d14_2) rfl ?_
    exact kt
  obtain ⟨_, _, ⟨T2, L2, k2c, n2⟩, -, X2, ⟨Lc2, hQ2, l2, y2, z2⟩, st2⟩ := Jvm.LawKit.callS X0 hx (y := (⟨"java/lang/StringCoding", "countPositives", "([BII)I"⟩ : MethodName)) hown (mvT hZ (hw _ (List.mem_of_getElem? (i := 73) rfl))) (mvT hZ (hw _ (List.mem_of_getElem? (i := 74) rfl))) (mvT hZ (hw _ (List.mem_of_getElem? (i := 71) rfl))) (mvT hZ (hw _ (List.mem_of_getElem? (i := 75) rfl))) (by decide) (backOf (W := 0) (rmCp1p l Z a0 hw [] b kb ax h0 n0 Z0 Ab sax) hZ (hw _ (List.mem_of_getElem? (i := 75) rfl)) (hw _ (List.mem_of_getElem? (i := 71) rfl)) (by decide) (by decide)) (g := (mkF m 3 #[.val (.ref b), .val (.int (0 : Int32)), .val (.int (1 : Int32))] [(.int (1 : Int32)), (.int (0 : Int32)), (.ref b)])) rfl (by rw [hml]; rfl) (argsL := [(.ref b), (.int (0 : Int32)), (.int (1 : Int32))]) (rest := []) (lenOf own_pd6 rfl) rfl (by show 2 * 0 + _ ≤ _; exact Nat.le_of_eq rfl) (hb hby d14_3) (fun _ _ => ⟨rfl, e0, (by decide : 0 + 0 ≤ _), (by decide : 0 + 0 ≤ _)⟩)
  dsimp only [Pt.U, Pt.locs, Pt.cells, Pt.slots] at X2 l2 y2 z2 st2 hQ2
  subst l2 y2 z2
  obtain ⟨rfl, N2q, e2⟩ := hQ2
  have N2 := Fr.app N0 N2q
  have k3 : ∀ t, Steps p.tables e below (T2.setTop (mkF m 6 #[.val (.ref b), .val (.int (0 : Int32)), .val (.int (1 : Int32))] [(.int (1 : Int32))])) t → Steps p.tables e below (s₁.setTop (entryFrame m #[(.ref b), (.int (0 : Int32)), (.int (1 : Int32))] 3)) t := fun t kt => k1 t (st2 t kt)
  have k5 : ∀ t, Steps p.tables e below (T2.setTop (mkF m 7 #[.val (.ref b), .val (.int (0 : Int32)), .val (.int (1 : Int32))] [(.int (1 : Int32)), (.int (1 : Int32))])) t → Steps p.tables e below (s₁.setTop (entryFrame m #[(.ref b), (.int (0 : Int32)), (.int (1 : Int32))] 3)) t := by
    intro t kt
    refine k3 t ?_
    show Steps p.tables e below (T2.setTop (mkF m 6 #[.val (.ref b), .val (.int (0 : Int32)), .val (.int (1 : Int32))] [(.int (1 : Int32))])) t
    refine XS.iloadN X2.here hx rfl (hb hby d14_6) rfl ?_
    exact kt
  have hc7_4 : (1 : Int32) = (1 : Int32) := rfl
  have k6 : ∀ t, Steps p.tables e below (T2.setTop (mkF m 15 #[.val (.ref b), .val (.int (0 : Int32)), .val (.int (1 : Int32))] [(.int (0 : Int32))])) t → Steps p.tables e below (s₁.setTop (entryFrame m #[(.ref b), (.int (0 : Int32)), (.int (1 : Int32))] 3)) t := by
    intro t kt
    refine k5 t ?_
    show Steps p.tables e below (T2.setTop (mkF m 7 #[.val (.ref b), .val (.int (0 : Int32)), .val (.int (1 : Int32))] [(.int (1 : Int32)), (.int (1 : Int32))])) t
    refine XS.icmpYes X2.here hx rfl (pc0 := 7) (pc' := 14) rfl (hb hby d14_7) rfl (teq hc7_4).1 (by decide) (by decide) ?_
    show Steps p.tables e below (T2.setTop (mkF m 14 #[.val (.ref b), .val (.int (0 : Int32)), .val (.int (1 : Int32))] [])) t
    refine XS.iconst X2.here hx rfl (hb hby d14_14) ?_
    exact kt
  obtain ⟨fs, hr, hrun, hended, hW, hsame⟩ := X2.leave (v := some (.int (0 : Int32))) (fun h => by rw [Bd.returns] at h; cases h)
  refine ⟨_, _, k6 _ ?_, hrun, hended, _, _, rfl, ?_, ⟨_, rfl⟩, hW, hsame.mono (by decide) (by decide)⟩
  · show Steps p.tables e below (T2.setTop (mkF m 15 #[.val (.ref b), .val (.int (0 : Int32)), .val (.int (1 : Int32))] [(.int (0 : Int32))])) _
    exact retN X2 hx (t := .boolean) Bd.returns (by simp) (hb hby d14_15) hr
  · show QHn1p Z b kb ax h0 n0 _ T2.heap _
    rw [e2]
    exact ⟨rfl, N2, rfl⟩
theorem rmCp2n_ef (m : MethodId) (x0 : Addr) : entryFrame m #[(.ref x0), (.int (0 : Int32)), (.int (2 : Int32))] 5 = mkF m 0 #[.val (.ref x0), .val (.int (0 : Int32)), .val (.int (2 : Int32)), .unset, .unset] [] := by first | (simp [entryFrame, mkF, argsToLocals, Value.category]; done) | rfl
def QCp2n (Z : State) (b : Addr) (kb : ClassId) (ax : Int32) (ay : Int32) (h0 : Heap) (n0 : Nat) (v : Option Value) (h : Heap) (L : List Loc) : Prop := v = some (.int (0 : Int32)) ∧ Fr n0 L ∧ h = h0
set_option maxRecDepth 65536 in
set_option maxHeartbeats 40000000 in
theorem rmCp2n (l : Launch) (Z : State) (a0 : Array Value) (hw : ∀ d ∈ tables_1, d.before a0 Z = true) (ws : List Jvm.Cond) (b : Addr) (kb : ClassId) (ax : Int32) (ay : Int32) (h0 : Heap) (n0 : Nat) (Z0 : n0 ≤ h0.size) (Ab : Arv Z h0 b kb .byte (2 : Int32) [(.int ax), (.int ay)] (.int (0 : Int32))) (sax : ax < (0 : Int32)) :
    MetFree l (⟨"java/lang/StringCoding", "countPositives", "([BII)I"⟩ : MethodName) (head1 (Jvm.Cond.code (⟨"java/lang/StringCoding", "countPositives", "([BII)I"⟩ : MethodName) jdk_123_method_3_code 5 (some .int) :: ws) ({ frames := 0, cells := 0, slots := 0, locals := 0 } : Room)) (fun aA' U => aA' = #[(.ref b), (.int (0 : Int32)), (.int (2 : Int32))] ∧ Z.Warmed39 U.vm ∧ U.heap = h0) (fun _ _ _ _ _ => True) (fun _ U oO' U' => ∃ vV' L, oO' = .returned vV' ∧ QCp2n Z b kb ax ay h0 n0 vV' U'.heap L ∧ FrameEnd U oO' U' L ({ frames := 0, cells := 0, slots := 0, locals := 0 } : Room).cells ({ frames := 0, cells := 0, slots := 0, locals := 0 } : Room).slots) := by
  refine MetFree.of_bodySF (plainFor_of_name own_pn5) hisR ?_
  intro p e s m args below meth c s₁ Bd hml0 hP hK
  obtain ⟨rfl, hZ, hh⟩ := hP
  have hx := Bd.exec
  have hby := Bd.bytes
  have hml : c.maxLocals = 5 := hml0
  have hown : s.vm.findClass "java/lang/StringCoding" = some m.cls := findClass_of_methodNamed Bd.named
  have hnm := (name_of_methodNamed Bd.named Bd.method).1
  have X0 : Stand p l e ({ frames := 0, cells := 0, slots := 0, locals := 0 } : Room) s m #[(.ref b), (.int (0 : Int32)), (.int (2 : Int32))] below meth c s₁ [] 0 0 := Stand.of_body Bd
  have e0 : s₁.heap = h0 := by rw [← hh, Bd.state]; rfl
  have N0 := Fr.nil n0
  have K0 : Keep h0 h0 [] := Keep.refl _ _
  have k0 : ∀ t, Steps p.tables e below (s₁.setTop (mkF m 0 #[.val (.ref b), .val (.int (0 : Int32)), .val (.int (2 : Int32)), .unset, .unset] [])) t → Steps p.tables e below (s₁.setTop (entryFrame m #[(.ref b), (.int (0 : Int32)), (.int (2 : Int32))] 5)) t := fun t k => castTop (rmCp2n_ef m (b)) k
  have hc10_1 : (0 : Int32) < (2 : Int32) := by decide
  have k2 : ∀ t, Steps p.tables e below (s₁.setTop (mkF m 16 #[.val (.ref b), .val (.int (0 : Int32)), .val (.int (2 : Int32)), .val (.int (2 : Int32)), .val (.int (0 : Int32))] [(.int (0 : Int32)), (.ref b)])) t → Steps p.tables e below (s₁.setTop (entryFrame m #[(.ref b), (.int (0 : Int32)), (.int (2 : Int32))] 5)) t := by
    intro t kt
    refine k0 t ?_
    show Steps p.tables e below (s₁.setTop (mkF m 0 #[.val (.ref b), .val (.int (0 : Int32)), .val (.int (2 : Int32)), .unset, .unset] [])) t
    refine XS.iloadN X0.here hx rfl (hb hby d15_0) rfl ?_
    show Steps p.tables e below (s₁.setTop (mkF m 1 #[.val (.ref b), .val (.int (0 : Int32)), .val (.int (2 : Int32)), .unset, .unset] [(.int (0 : Int32))])) t
    refine XS.iloadN X0.here hx rfl (hb hby d15_1) rfl ?_
    show Steps p.tables e below (s₁.setTop (mkF m 2 #[.val (.ref b), .val (.int (0 : Int32)), .val (.int (2 : Int32)), .unset, .unset] [(.int (2 : Int32)), (.int (0 : Int32))])) t
    refine XS.iadd X0.here hx rfl (hb hby d15_2) rfl ?_
    show Steps p.tables e below (s₁.setTop (mkF m 3 #[.val (.ref b), .val (.int (0 : Int32)), .val (.int (2 : Int32)), .unset, .unset] [(.int (2 : Int32))])) t
    refine XS.istoreN X0.here hx rfl (hb hby d15_3) rfl (l' := #[.val (.ref b), .val (.int (0 : Int32)), .val (.int (2 : Int32)), .val (.int (2 : Int32)), .unset]) rfl ?_
    show Steps p.tables e below (s₁.setTop (mkF m 4 #[.val (.ref b), .val (.int (0 : Int32)), .val (.int (2 : Int32)), .val (.int (2 : Int32)), .unset] [])) t
    refine XS.iloadN X0.here hx rfl (hb hby d15_4) rfl ?_
    show Steps p.tables e below (s₁.setTop (mkF m 5 #[.val (.ref b), .val (.int (0 : Int32)), .val (.int (2 : Int32)), .val (.int (2 : Int32)), .unset] [(.int (0 : Int32))])) t
    refine XS.istore X0.here hx rfl (hb hby d15_5) rfl (l' := #[.val (.ref b), .val (.int (0 : Int32)), .val (.int (2 : Int32)), .val (.int (2 : Int32)), .val (.int (0 : Int32))]) rfl ?_
    show Steps p.tables e below (s₁.setTop (mkF m 7 #[.val (.ref b), .val (.int (0 : Int32)), .val (.int (2 : Int32)), .val (.int (2 : Int32)), .val (.int (0 : Int32))] [])) t
    refine XS.iload X0.here hx rfl (hb hby d15_7) rfl ?_
    show Steps p.tables e below (s₁.setTop (mkF m 9 #[.val (.ref b), .val (.int (0 : Int32)), .val (.int (2 : Int32)), .val (.int (2 : Int32)), .val (.int (0 : Int32))] [(.int (0 : Int32))])) t
    refine XS.iloadN X0.here hx rfl (hb hby d15_9) rfl ?_
    show Steps p.tables e below (s₁.setTop (mkF m 10 #[.val (.ref b), .val (.int (0 : Int32)), .val (.int (2 : Int32)), .val (.int (2 : Int32)), .val (.int (0 : Int32))] [(.int (2 : Int32)), (.int (0 : Int32))])) t
    refine XS.icmpNo X0.here hx rfl (hb hby d15_10) rfl (tlt hc10_1).2.1 ?_
    show Steps p.tables e below (s₁.setTop (mkF m 13 #[.val (.ref b), .val (.int (0 : Int32)), .val (.int (2 : Int32)), .val (.int (2 : Int32)), .val (.int (0 : Int32))] [])) t
    refine XS.aloadN X0.here hx rfl (hb hby d15_13) rfl rfl ?_
    show Steps p.tables e below (s₁.setTop (mkF m 14 #[.val (.ref b), .val (.int (0 : Int32)), .val (.int (2 : Int32)), .val (.int (2 : Int32)), .val (.int (0 : Int32))] [(.ref b)])) t
    refine XS.iload X0.here hx rfl (hb hby d15_14) rfl ?_
    exact kt
  obtain ⟨cl3, Ar3, q3, S3, M3, H3, G3⟩ := id Ab
  have hin3 : ¬ ((0 : Int32) < 0 ∨ cl3.slots.size ≤ ((0 : Int32)).toNatClampNeg) := inb_of S3 ⟨by decide, by decide⟩
  have hat3 : cl3.slots[((0 : Int32)).toNatClampNeg]? = some (.int ax) := Has.at H3 hin3 rfl
  have k4 : ∀ t, Steps p.tables e below (s₁.setTop (mkF m 17 #[.val (.ref b), .val (.int (0 : Int32)), .val (.int (2 : Int32)), .val (.int (2 : Int32)), .val (.int (0 : Int32))] [(.int ax)])) t → Steps p.tables e below (s₁.setTop (entryFrame m #[(.ref b), (.int (0 : Int32)), (.int (2 : Int32))] 5)) t := fun t kt => k2 t (X0.baloadBytes hx (j := (0 : Int32)) (v := (.int ax)) (by rw [e0]; exact Ar3.1) (State.isArrayOf_alike hZ.alike Ar3.2.1) Ar3.2.2 hin3 hat3 (g := (mkF m 16 #[.val (.ref b), .val (.int (0 : Int32)), .val (.int (2 : Int32)), .val (.int (2 : Int32)), .val (.int (0 : Int32))] [(.int (0 : Int32)), (.ref b)])) rfl rfl (hb hby d15_16) t kt)
  have k6 : ∀ t, Steps p.tables e below (s₁.setTop (mkF m 24 #[.val (.ref b), .val (.int (0 : Int32)), .val (.int (2 : Int32)), .val (.int (2 : Int32)), .val (.int (0 : Int32))] [(.int (0 : Int32))])) t → Steps p.tables e below (s₁.setTop (entryFrame m #[(.ref b), (.int (0 : Int32)), (.int (2 : Int32))] 5)) t := by
    intro t kt
    refine k4 t ?_
    show Steps p.tables e below (s₁.setTop (mkF m 17 #[.val (.ref b), .val (.int (0 : Int32)), .val (.int (2 : Int32)), .val (.int (2 : Int32)), .val (.int (0 : Int32))] [(.int ax)])) t
    refine XS.ifNo X0.here hx rfl (hb hby d15_17) rfl ((if0 _ _).trans (tlt sax).2.1) ?_
    show Steps p.tables e below (s₁.setTop (mkF m 20 #[.val (.ref b), .val (.int (0 : Int32)), .val (.int (2 : Int32)), .val (.int (2 : Int32)), .val (.int (0 : Int32))] [])) t
    refine XS.iload X0.here hx rfl (hb hby d15_20) rfl ?_
    show Steps p.tables e below (s₁.setTop (mkF m 22 #[.val (.ref b), .val (.int (0 : Int32)), .val (.int (2 : Int32)), .val (.int (2 : Int32)), .val (.int (0 : Int32))] [(.int (0 : Int32))])) t
    refine XS.iloadN X0.here hx rfl (hb hby d15_22) rfl ?_
    show Steps p.tables e below (s₁.setTop (mkF m 23 #[.val (.ref b), .val (.int (0 : Int32)), .val (.int (2 : Int32)), .val (.int (2 : Int32)), .val (.int (0 : Int32))] [(.int (0 : Int32)), (.int (0 : Int32))])) t
    refine XS.isub X0.here hx rfl (hb hby d15_23) rfl ?_
    exact kt
  obtain ⟨fs, hr, hrun, hended, hW, hsame⟩ := X0.leave (v := some (.int (0 : Int32))) (fun h => by rw [Bd.returns] at h; cases h)
  refine ⟨_, _, k6 _ ?_, hrun, hended, _, _, rfl, ?_, ⟨_, rfl⟩, hW, hsame.mono (by decide) (by decide)⟩
  · show Steps p.tables e below (s₁.setTop (mkF m 24 #[.val (.ref b), .val (.int (0 : Int32)), .val (.int (2 : Int32)), .val (.int (2 : Int32)), .val (.int (0 : Int32))] [(.int (0 : Int32))])) _
    exact retI X0 hx Bd.returns (hb hby d15_24) hr
  · show QCp2n Z b kb ax ay h0 n0 _ s₁.heap _
    rw [e0]
    exact ⟨rfl, N0, rfl⟩
theorem rmHn2n_ef (m : MethodId) (x0 : Addr) : entryFrame m #[(.ref x0), (.int (0 : Int32)), (.int (2 : Int32))] 3 = mkF m 0 #[.val (.ref x0), .val (.int (0 : Int32)), .val (.int (2 : Int32))] [] := by first | (simp [entryFrame, mkF, argsToLocals, Value.category]; done) | rfl
def QHn2n (Z : State) (b : Addr) (kb : ClassId) (ax : Int32) (ay : Int32) (h0 : Heap) (n0 : Nat) (v : Option Value) (h : Heap) (L : List Loc) : Prop := v = some (.int (1 : Int32)) ∧ Fr n0 L ∧ h = h0
set_option maxRecDepth 65536 in
set_option maxHeartbeats 40000000 in
theorem rmHn2n (l : Launch) (Z : State) (a0 : Array Value) (hw : ∀ d ∈ tables_1, d.before a0 Z = true) (ws : List Jvm.Cond) (b : Addr) (kb : ClassId) (ax : Int32) (ay : Int32) (h0 : Heap) (n0 : Nat) (Z0 : n0 ≤ h0.size) (Ab : Arv Z h0 b kb .byte (2 : Int32) [(.int ax), (.int ay)] (.int (0 : Int32))) (sax : ax < (0 : Int32)) :
    MetFree l (⟨"java/lang/StringCoding", "hasNegatives", "([BII)Z"⟩ : MethodName) (head1 (Jvm.Cond.code (⟨"java/lang/StringCoding", "hasNegatives", "([BII)Z"⟩ : MethodName) jdk_123_method_2_code 3 (some .boolean) :: ws) ({ frames := 1, cells := 0, slots := 0, locals := 16 } : Room)) (fun aA' U => aA' = #[(.ref b), (.int (0 : Int32)), (.int (2 : Int32))] ∧ Z.Warmed39 U.vm ∧ U.heap = h0) (fun _ _ _ _ _ => True) (fun _ U oO' U' => ∃ vV' L, oO' = .returned vV' ∧ QHn2n Z b kb ax ay h0 n0 vV' U'.heap L ∧ FrameEnd U oO' U' L ({ frames := 1, cells := 0, slots := 0, locals := 16 } : Room).cells ({ frames := 1, cells := 0, slots := 0, locals := 16 } : Room).slots) := by
  refine MetFree.of_bodySF (plainFor_of_name own_pn5) hisR ?_
  intro p e s m args below meth c s₁ Bd hml0 hP hK
  obtain ⟨rfl, hZ, hh⟩ := hP
  have hx := Bd.exec
  have hby := Bd.bytes
  have hml : c.maxLocals = 3 := hml0
  have hown : s.vm.findClass "java/lang/StringCoding" = some m.cls := findClass_of_methodNamed Bd.named
  have hnm := (name_of_methodNamed Bd.named Bd.method).1
  have X0 : Stand p l e ({ frames := 1, cells := 0, slots := 0, locals := 16 } : Room) s m #[(.ref b), (.int (0 : Int32)), (.int (2 : Int32))] below meth c s₁ [] 0 0 := Stand.of_body Bd
  have e0 : s₁.heap = h0 := by rw [← hh, Bd.state]; rfl
  have N0 := Fr.nil n0
  have K0 : Keep h0 h0 [] := Keep.refl _ _
  have k0 : ∀ t, Steps p.tables e below (s₁.setTop (mkF m 0 #[.val (.ref b), .val (.int (0 : Int32)), .val (.int (2 : Int32))] [])) t → Steps p.tables e below (s₁.setTop (entryFrame m #[(.ref b), (.int (0 : Int32)), (.int (2 : Int32))] 3)) t := fun t k => castTop (rmHn2n_ef m (b)) k
  have k1 : ∀ t, Steps p.tables e below (s₁.setTop (mkF m 3 #[.val (.ref b), .val (.int (0 : Int32)), .val (.int (2 : Int32))] [(.int (2 : Int32)), (.int (0 : Int32)), (.ref b)])) t → Steps p.tables e below (s₁.setTop (entryFrame m #[(.ref b), (.int (0 : Int32)), (.int (2 : Int32))] 3)) t := by
    intro t kt
    refine k0 t ?_
    show Steps p.tables e below (s₁.setTop (mkF m 0 #[.val (.ref b), .val (.int (0 : Int32)), .val (.int (2 : Int32))] [])) t
    refine XS.aloadN X0.here hx rfl (hb hby d14_0) rfl rfl ?_
    show Steps p.tables e below (s₁.setTop (mkF m 1 #[.val (.ref b), .val (.int (0 : Int32)), .val (.int (2 : Int32))] [(.ref b)])) t
    refine XS.iloadN X0.here hx rfl (hb hby d14_1) rfl ?_
    show Steps p.tables e below (s₁.setTop (mkF m 2 #[.val (.ref b), .val (.int (0 : Int32)), .val (.int (2 : Int32))] [(.int (0 : Int32)), (.ref b)])) t
    refine XS.iloadN X0.here hx rfl (hb hby d14_2) rfl ?_
    exact kt
  obtain ⟨_, _, ⟨T2, L2, k2c, n2⟩, -, X2, ⟨Lc2, hQ2, l2, y2, z2⟩, st2⟩ := Jvm.LawKit.callS X0 hx (y := (⟨"java/lang/StringCoding", "countPositives", "([BII)I"⟩ : MethodName)) hown (mvT hZ (hw _ (List.mem_of_getElem? (i := 73) rfl))) (mvT hZ (hw _ (List.mem_of_getElem? (i := 74) rfl))) (mvT hZ (hw _ (List.mem_of_getElem? (i := 71) rfl))) (mvT hZ (hw _ (List.mem_of_getElem? (i := 75) rfl))) (by decide) (backOf (W := 0) (rmCp2n l Z a0 hw [] b kb ax ay h0 n0 Z0 Ab sax) hZ (hw _ (List.mem_of_getElem? (i := 75) rfl)) (hw _ (List.mem_of_getElem? (i := 71) rfl)) (by decide) (by decide)) (g := (mkF m 3 #[.val (.ref b), .val (.int (0 : Int32)), .val (.int (2 : Int32))] [(.int (2 : Int32)), (.int (0 : Int32)), (.ref b)])) rfl (by rw [hml]; rfl) (argsL := [(.ref b), (.int (0 : Int32)), (.int (2 : Int32))]) (rest := []) (lenOf own_pd6 rfl) rfl (by show 2 * 0 + _ ≤ _; exact Nat.le_of_eq rfl) (hb hby d14_3) (fun _ _ => ⟨rfl, e0, (by decide : 0 + 0 ≤ _), (by decide : 0 + 0 ≤ _)⟩)
  dsimp only [Pt.U, Pt.locs, Pt.cells, Pt.slots] at X2 l2 y2 z2 st2 hQ2
  subst l2 y2 z2
  obtain ⟨rfl, N2q, e2⟩ := hQ2
  have N2 := Fr.app N0 N2q
  have k3 : ∀ t, Steps p.tables e below (T2.setTop (mkF m 6 #[.val (.ref b), .val (.int (0 : Int32)), .val (.int (2 : Int32))] [(.int (0 : Int32))])) t → Steps p.tables e below (s₁.setTop (entryFrame m #[(.ref b), (.int (0 : Int32)), (.int (2 : Int32))] 3)) t := fun t kt => k1 t (st2 t kt)
  have hc7_4 : ¬ ((0 : Int32) = (2 : Int32)) := by decide
  have k5 : ∀ t, Steps p.tables e below (T2.setTop (mkF m 15 #[.val (.ref b), .val (.int (0 : Int32)), .val (.int (2 : Int32))] [(.int (1 : Int32))])) t → Steps p.tables e below (s₁.setTop (entryFrame m #[(.ref b), (.int (0 : Int32)), (.int (2 : Int32))] 3)) t := by
    intro t kt
    refine k3 t ?_
    show Steps p.tables e below (T2.setTop (mkF m 6 #[.val (.ref b), .val (.int (0 : Int32)), .val (.int (2 : Int32))] [(.int (0 : Int32))])) t
    refine XS.iloadN X2.here hx rfl (hb hby d14_6) rfl ?_
    show Steps p.tables e below (T2.setTop (mkF m 7 #[.val (.ref b), .val (.int (0 : Int32)), .val (.int (2 : Int32))] [(.int (2 : Int32)), (.int (0 : Int32))])) t
    refine XS.icmpNo X2.here hx rfl (hb hby d14_7) rfl (feq hc7_4).1 ?_
    show Steps p.tables e below (T2.setTop (mkF m 10 #[.val (.ref b), .val (.int (0 : Int32)), .val (.int (2 : Int32))] [])) t
    refine XS.iconst X2.here hx rfl (hb hby d14_10) ?_
    show Steps p.tables e below (T2.setTop (mkF m 11 #[.val (.ref b), .val (.int (0 : Int32)), .val (.int (2 : Int32))] [(.int (1 : Int32))])) t
    refine XS.goto X2.here hx rfl (pc0 := 11) (pc' := 15) rfl (hb hby d14_11) (by decide) (by decide) ?_
    exact kt
  obtain ⟨fs, hr, hrun, hended, hW, hsame⟩ := X2.leave (v := some (.int (1 : Int32))) (fun h => by rw [Bd.returns] at h; cases h)
  refine ⟨_, _, k5 _ ?_, hrun, hended, _, _, rfl, ?_, ⟨_, rfl⟩, hW, hsame.mono (by decide) (by decide)⟩
  · show Steps p.tables e below (T2.setTop (mkF m 15 #[.val (.ref b), .val (.int (0 : Int32)), .val (.int (2 : Int32))] [(.int (1 : Int32))])) _
    exact retN X2 hx (t := .boolean) Bd.returns (by simp) (hb hby d14_15) hr
  · show QHn2n Z b kb ax ay h0 n0 _ T2.heap _
    rw [e2]
    exact ⟨rfl, N2, rfl⟩
theorem rmCp2pn_ef (m : MethodId) (x0 : Addr) : entryFrame m #[(.ref x0), (.int (0 : Int32)), (.int (2 : Int32))] 5 = mkF m 0 #[.val (.ref x0), .val (.int (0 : Int32)), .val (.int (2 : Int32)), .unset, .unset] [] := by first | (simp [entryFrame, mkF, argsToLocals, Value.category]; done) | rfl
def QCp2pn (Z : State) (b : Addr) (kb : ClassId) (ax : Int32) (ay : Int32) (h0 : Heap) (n0 : Nat) (v : Option Value) (h : Heap) (L : List Loc) : Prop := v = some (.int (1 : Int32)) ∧ Fr n0 L ∧ h = h0
set_option maxRecDepth 65536 in
set_option maxHeartbeats 40000000 in
theorem rmCp2pn (l : Launch) (Z : State) (a0 : Array Value) (hw : ∀ d ∈ tables_1, d.before a0 Z = true) (ws : List Jvm.Cond) (b : Addr) (kb : ClassId) (ax : Int32) (ay : Int32) (h0 : Heap) (n0 : Nat) (Z0 : n0 ≤ h0.size) (Ab : Arv Z h0 b kb .byte (2 : Int32) [(.int ax), (.int ay)] (.int (0 : Int32))) (sax : ¬ (ax < (0 : Int32))) (say : ay < (0 : Int32)) :
    MetFree l (⟨"java/lang/StringCoding", "countPositives", "([BII)I"⟩ : MethodName) (head1 (Jvm.Cond.code (⟨"java/lang/StringCoding", "countPositives", "([BII)I"⟩ : MethodName) jdk_123_method_3_code 5 (some .int) :: ws) ({ frames := 0, cells := 0, slots := 0, locals := 0 } : Room)) (fun aA' U => aA' = #[(.ref b), (.int (0 : Int32)), (.int (2 : Int32))] ∧ Z.Warmed39 U.vm ∧ U.heap = h0) (fun _ _ _ _ _ => True) (fun _ U oO' U' => ∃ vV' L, oO' = .returned vV' ∧ QCp2pn Z b kb ax ay h0 n0 vV' U'.heap L ∧ FrameEnd U oO' U' L ({ frames := 0, cells := 0, slots := 0, locals := 0 } : Room).cells ({ frames := 0, cells := 0, slots := 0, locals := 0 } : Room).slots) := by
  refine MetFree.of_bodySF (plainFor_of_name own_pn5) hisR ?_
  intro p e s m args below meth c s₁ Bd hml0 hP hK
  obtain ⟨rfl, hZ, hh⟩ := hP
  have hx := Bd.exec
  have hby := Bd.bytes
  have hml : c.maxLocals = 5 := hml0
  have hown : s.vm.findClass "java/lang/StringCoding" = some m.cls := findClass_of_methodNamed Bd.named
  have hnm := (name_of_methodNamed Bd.named Bd.method).1
  have X0 : Stand p l e ({ frames := 0, cells := 0, slots := 0, locals := 0 } : Room) s m #[(.ref b), (.int (0 : Int32)), (.int (2 : Int32))] below meth c s₁ [] 0 0 := Stand.of_body Bd
  have e0 : s₁.heap = h0 := by rw [← hh, Bd.state]; rfl
  have N0 := Fr.nil n0
  have K0 : Keep h0 h0 [] := Keep.refl _ _
  have k0 : ∀ t, Steps p.tables e below (s₁.setTop (mkF m 0 #[.val (.ref b), .val (.int (0 : Int32)), .val (.int (2 : Int32)), .unset, .unset] [])) t → Steps p.tables e below (s₁.setTop (entryFrame m #[(.ref b), (.int (0 : Int32)), (.int (2 : Int32))] 5)) t := fun t k => castTop (rmCp2pn_ef m (b)) k
  have hc10_1 : (0 : Int32) < (2 : Int32) := by decide
  have k2 : ∀ t, Steps p.tables e below (s₁.setTop (mkF m 16 #[.val (.ref b), .val (.int (0 : Int32)), .val (.int (2 : Int32)), .val (.int (2 : Int32)), .val (.int (0 : Int32))] [(.int (0 : Int32)), (.ref b)])) t → Steps p.tables e below (s₁.setTop (entryFrame m #[(.ref b), (.int (0 : Int32)), (.int (2 : Int32))] 5)) t := by
    intro t kt
    refine k0 t ?_
    show Steps p.tables e below (s₁.setTop (mkF m 0 #[.val (.ref b), .val (.int (0 : Int32)), .val (.int (2 : Int32)), .unset, .unset] [])) t
    refine XS.iloadN X0.here hx rfl (hb hby d15_0) rfl ?_
    show Steps p.tables e below (s₁.setTop (mkF m 1 #[.val (.ref b), .val (.int (0 : Int32)), .val (.int (2 : Int32)), .unset, .unset] [(.int (0 : Int32))])) t
    refine XS.iloadN X0.here hx rfl (hb hby d15_1) rfl ?_
    show Steps p.tables e below (s₁.setTop (mkF m 2 #[.val (.ref b), .val (.int (0 : Int32)), .val (.int (2 : Int32)), .unset, .unset] [(.int (2 : Int32)), (.int (0 : Int32))])) t
    refine XS.iadd X0.here hx rfl (hb hby d15_2) rfl ?_
    show Steps p.tables e below (s₁.setTop (mkF m 3 #[.val (.ref b), .val (.int (0 : Int32)), .val (.int (2 : Int32)), .unset, .unset] [(.int (2 : Int32))])) t
    refine XS.istoreN X0.here hx rfl (hb hby d15_3) rfl (l' := #[.val (.ref b), .val (.int (0 : Int32)), .val (.int (2 : Int32)), .val (.int (2 : Int32)), .unset]) rfl ?_
    show Steps p.tables e below (s₁.setTop (mkF m 4 #[.val (.ref b), .val (.int (0 : Int32)), .val (.int (2 : Int32)), .val (.int (2 : Int32)), .unset] [])) t
    refine XS.iloadN X0.here hx rfl (hb hby d15_4) rfl ?_
    show Steps p.tables e below (s₁.setTop (mkF m 5 #[.val (.ref b), .val (.int (0 : Int32)), .val (.int (2 : Int32)), .val (.int (2 : Int32)), .unset] [(.int (0 : Int32))])) t
    refine XS.istore X0.here hx rfl (hb hby d15_5) rfl (l' := #[.val (.ref b), .val (.int (0 : Int32)), .val (.int (2 : Int32)), .val (.int (2 : Int32)), .val (.int (0 : Int32))]) rfl ?_
    show Steps p.tables e below (s₁.setTop (mkF m 7 #[.val (.ref b), .val (.int (0 : Int32)), .val (.int (2 : Int32)), .val (.int (2 : Int32)), .val (.int (0 : Int32))] [])) t
    refine XS.iload X0.here hx rfl (hb hby d15_7) rfl ?_
    show Steps p.tables e below (s₁.setTop (mkF m 9 #[.val (.ref b), .val (.int (0 : Int32)), .val (.int (2 : Int32)), .val (.int (2 : Int32)), .val (.int (0 : Int32))] [(.int (0 : Int32))])) t
    refine XS.iloadN X0.here hx rfl (hb hby d15_9) rfl ?_
    show Steps p.tables e below (s₁.setTop (mkF m 10 #[.val (.ref b), .val (.int (0 : Int32)), .val (.int (2 : Int32)), .val (.int (2 : Int32)), .val (.int (0 : Int32))] [(.int (2 : Int32)), (.int (0 : Int32))])) t
    refine XS.icmpNo X0.here hx rfl (hb hby d15_10) rfl (tlt hc10_1).2.1 ?_
    show Steps p.tables e below (s₁.setTop (mkF m 13 #[.val (.ref b), .val (.int (0 : Int32)), .val (.int (2 : Int32)), .val (.int (2 : Int32)), .val (.int (0 : Int32))] [])) t
    refine XS.aloadN X0.here hx rfl (hb hby d15_13) rfl rfl ?_
    show Steps p.tables e below (s₁.setTop (mkF m 14 #[.val (.ref b), .val (.int (0 : Int32)), .val (.int (2 : Int32)), .val (.int (2 : Int32)), .val (.int (0 : Int32))] [(.ref b)])) t
    refine XS.iload X0.here hx rfl (hb hby d15_14) rfl ?_
    exact kt
  obtain ⟨cl3, Ar3, q3, S3, M3, H3, G3⟩ := id Ab
  have hin3 : ¬ ((0 : Int32) < 0 ∨ cl3.slots.size ≤ ((0 : Int32)).toNatClampNeg) := inb_of S3 ⟨by decide, by decide⟩
  have hat3 : cl3.slots[((0 : Int32)).toNatClampNeg]? = some (.int ax) := Has.at H3 hin3 rfl
  have k4 : ∀ t, Steps p.tables e below (s₁.setTop (mkF m 17 #[.val (.ref b), .val (.int (0 : Int32)), .val (.int (2 : Int32)), .val (.int (2 : Int32)), .val (.int (0 : Int32))] [(.int ax)])) t → Steps p.tables e below (s₁.setTop (entryFrame m #[(.ref b), (.int (0 : Int32)), (.int (2 : Int32))] 5)) t := fun t kt => k2 t (X0.baloadBytes hx (j := (0 : Int32)) (v := (.int ax)) (by rw [e0]; exact Ar3.1) (State.isArrayOf_alike hZ.alike Ar3.2.1) Ar3.2.2 hin3 hat3 (g := (mkF m 16 #[.val (.ref b), .val (.int (0 : Int32)), .val (.int (2 : Int32)), .val (.int (2 : Int32)), .val (.int (0 : Int32))] [(.int (0 : Int32)), (.ref b)])) rfl rfl (hb hby d15_16) t kt)
  have hc10_6 : (1 : Int32) < (2 : Int32) := by decide
  have k7 : ∀ t, Steps p.tables e below (s₁.setTop (mkF m 16 #[.val (.ref b), .val (.int (0 : Int32)), .val (.int (2 : Int32)), .val (.int (2 : Int32)), .val (.int (1 : Int32))] [(.int (1 : Int32)), (.ref b)])) t → Steps p.tables e below (s₁.setTop (entryFrame m #[(.ref b), (.int (0 : Int32)), (.int (2 : Int32))] 5)) t := by
    intro t kt
    refine k4 t ?_
    show Steps p.tables e below (s₁.setTop (mkF m 17 #[.val (.ref b), .val (.int (0 : Int32)), .val (.int (2 : Int32)), .val (.int (2 : Int32)), .val (.int (0 : Int32))] [(.int ax)])) t
    refine XS.ifYes X0.here hx rfl (pc0 := 17) (pc' := 25) rfl (hb hby d15_17) rfl ((if0 _ _).trans (flt sax).2.1) (by decide) (by decide) ?_
    show Steps p.tables e below (s₁.setTop (mkF m 25 #[.val (.ref b), .val (.int (0 : Int32)), .val (.int (2 : Int32)), .val (.int (2 : Int32)), .val (.int (0 : Int32))] [])) t
    refine XS.iinc X0.here hx rfl (hb hby d15_25) rfl (l' := #[.val (.ref b), .val (.int (0 : Int32)), .val (.int (2 : Int32)), .val (.int (2 : Int32)), .val (.int (1 : Int32))]) rfl ?_
    show Steps p.tables e below (s₁.setTop (mkF m 28 #[.val (.ref b), .val (.int (0 : Int32)), .val (.int (2 : Int32)), .val (.int (2 : Int32)), .val (.int (1 : Int32))] [])) t
    refine XS.goto X0.here hx rfl (pc0 := 28) (pc' := 7) rfl (hb hby d15_28) (by decide) (by decide) ?_
    show Steps p.tables e below (s₁.setTop (mkF m 7 #[.val (.ref b), .val (.int (0 : Int32)), .val (.int (2 : Int32)), .val (.int (2 : Int32)), .val (.int (1 : Int32))] [])) t
    refine XS.iload X0.here hx rfl (hb hby d15_7) rfl ?_
    show Steps p.tables e below (s₁.setTop (mkF m 9 #[.val (.ref b), .val (.int (0 : Int32)), .val (.int (2 : Int32)), .val (.int (2 : Int32)), .val (.int (1 : Int32))] [(.int (1 : Int32))])) t
    refine XS.iloadN X0.here hx rfl (hb hby d15_9) rfl ?_
    show Steps p.tables e below (s₁.setTop (mkF m 10 #[.val (.ref b), .val (.int (0 : Int32)), .val (.int (2 : Int32)), .val (.int (2 : Int32)), .val (.int (1 : Int32))] [(.int (2 : Int32)), (.int (1 : Int32))])) t
    refine XS.icmpNo X0.here hx rfl (hb hby d15_10) rfl (tlt hc10_6).2.1 ?_
    show Steps p.tables e below (s₁.setTop (mkF m 13 #[.val (.ref b), .val (.int (0 : Int32)), .val (.int (2 : Int32)), .val (.int (2 : Int32)), .val (.int (1 : Int32))] [])) t
    refine XS.aloadN X0.here hx rfl (hb hby d15_13) rfl rfl ?_
    show Steps p.tables e below (s₁.setTop (mkF m 14 #[.val (.ref b), .val (.int (0 : Int32)), .val (.int (2 : Int32)), .val (.int (2 : Int32)), .val (.int (1 : Int32))] [(.ref b)])) t
    refine XS.iload X0.here hx rfl (hb hby d15_14) rfl ?_
    exact kt
  obtain ⟨cl8, Ar8, q8, S8, M8, H8, G8⟩ := id Ab
  have hin8 : ¬ ((1 : Int32) < 0 ∨ cl8.slots.size ≤ ((1 : Int32)).toNatClampNeg) := inb_of S8 ⟨by decide, by decide⟩
  have hat8 : cl8.slots[((1 : Int32)).toNatClampNeg]? = some (.int ay) := Has.at H8 hin8 rfl
  have k9 : ∀ t, Steps p.tables e below (s₁.setTop (mkF m 17 #[.val (.ref b), .val (.int (0 : Int32)), .val (.int (2 : Int32)), .val (.int (2 : Int32)), .val (.int (1 : Int32))] [(.int ay)])) t → Steps p.tables e below (s₁.setTop (entryFrame m #[(.ref b), (.int (0 : Int32)), (.int (2 : Int32))] 5)) t := fun t kt => k7 t (X0.baloadBytes hx (j := (1 : Int32)) (v := (.int ay)) (by rw [e0]; exact Ar8.1) (State.isArrayOf_alike hZ.alike Ar8.2.1) Ar8.2.2 hin8 hat8 (g := (mkF m 16 #[.val (.ref b), .val (.int (0 : Int32)), .val (.int (2 : Int32)), .val (.int (2 : Int32)), .val (.int (1 : Int32))] [(.int (1 : Int32)), (.ref b)])) rfl rfl (hb hby d15_16) t kt)
  have k11 : ∀ t, Steps p.tables e below (s₁.setTop (mkF m 24 #[.val (.ref b), .val (.int (0 : Int32)), .val (.int (2 : Int32)), .val (.int (2 : Int32)), .val (.int (1 : Int32))] [(.int (1 : Int32))])) t → Steps p.tables e below (s₁.setTop (entryFrame m #[(.ref b), (.int (0 : Int32)), (.int (2 : Int32))] 5)) t := by
    intro t kt
    refine k9 t ?_
    show Steps p.tables e below (s₁.setTop (mkF m 17 #[.val (.ref b), .val (.int (0 : Int32)), .val (.int (2 : Int32)), .val (.int (2 : Int32)), .val (.int (1 : Int32))] [(.int ay)])) t
    refine XS.ifNo X0.here hx rfl (hb hby d15_17) rfl ((if0 _ _).trans (tlt say).2.1) ?_
    show Steps p.tables e below (s₁.setTop (mkF m 20 #[.val (.ref b), .val (.int (0 : Int32)), .val (.int (2 : Int32)), .val (.int (2 : Int32)), .val (.int (1 : Int32))] [])) t
    refine XS.iload X0.here hx rfl (hb hby d15_20) rfl ?_
    show Steps p.tables e below (s₁.setTop (mkF m 22 #[.val (.ref b), .val (.int (0 : Int32)), .val (.int (2 : Int32)), .val (.int (2 : Int32)), .val (.int (1 : Int32))] [(.int (1 : Int32))])) t
    refine XS.iloadN X0.here hx rfl (hb hby d15_22) rfl ?_
    show Steps p.tables e below (s₁.setTop (mkF m 23 #[.val (.ref b), .val (.int (0 : Int32)), .val (.int (2 : Int32)), .val (.int (2 : Int32)), .val (.int (1 : Int32))] [(.int (0 : Int32)), (.int (1 : Int32))])) t
    refine XS.isub X0.here hx rfl (hb hby d15_23) rfl ?_
    exact kt
  obtain ⟨fs, hr, hrun, hended, hW, hsame⟩ := X0.leave (v := some (.int (1 : Int32))) (fun h => by rw [Bd.returns] at h; cases h)
  refine ⟨_, _, k11 _ ?_, hrun, hended, _, _, rfl, ?_, ⟨_, rfl⟩, hW, hsame.mono (by decide) (by decide)⟩
  · show Steps p.tables e below (s₁.setTop (mkF m 24 #[.val (.ref b), .val (.int (0 : Int32)), .val (.int (2 : Int32)), .val (.int (2 : Int32)), .val (.int (1 : Int32))] [(.int (1 : Int32))])) _
    exact retI X0 hx Bd.returns (hb hby d15_24) hr
  · show QCp2pn Z b kb ax ay h0 n0 _ s₁.heap _
    rw [e0]
    exact ⟨rfl, N0, rfl⟩
theorem rmHn2pn_ef (m : MethodId) (x0 : Addr) : entryFrame m #[(.ref x0), (.int (0 : Int32)), (.int (2 : Int32))] 3 = mkF m 0 #[.val (.ref x0), .val (.int (0 : Int32)), .val (.int (2 : Int32))] [] := by first | (simp [entryFrame, mkF, argsToLocals, Value.category]; done) | rfl
def QHn2pn (Z : State) (b : Addr) (kb : ClassId) (ax : Int32) (ay : Int32) (h0 : Heap) (n0 : Nat) (v : Option Value) (h : Heap) (L : List Loc) : Prop := v = some (.int (1 : Int32)) ∧ Fr n0 L ∧ h = h0
set_option maxRecDepth 65536 in
set_option maxHeartbeats 40000000 in
theorem rmHn2pn (l : Launch) (Z : State) (a0 : Array Value) (hw : ∀ d ∈ tables_1, d.before a0 Z = true) (ws : List Jvm.Cond) (b : Addr) (kb : ClassId) (ax : Int32) (ay : Int32) (h0 : Heap) (n0 : Nat) (Z0 : n0 ≤ h0.size) (Ab : Arv Z h0 b kb .byte (2 : Int32) [(.int ax), (.int ay)] (.int (0 : Int32))) (sax : ¬ (ax < (0 : Int32))) (say : ay < (0 : Int32)) :
    MetFree l (⟨"java/lang/StringCoding", "hasNegatives", "([BII)Z"⟩ : MethodName) (head1 (Jvm.Cond.code (⟨"java/lang/StringCoding", "hasNegatives", "([BII)Z"⟩ : MethodName) jdk_123_method_2_code 3 (some .boolean) :: ws) ({ frames := 1, cells := 0, slots := 0, locals := 16 } : Room)) (fun aA' U => aA' = #[(.ref b), (.int (0 : Int32)), (.int (2 : Int32))] ∧ Z.Warmed39 U.vm ∧ U.heap = h0) (fun _ _ _ _ _ => True) (fun _ U oO' U' => ∃ vV' L, oO' = .returned vV' ∧ QHn2pn Z b kb ax ay h0 n0 vV' U'.heap L ∧ FrameEnd U oO' U' L ({ frames := 1, cells := 0, slots := 0, locals := 16 } : Room).cells ({ frames := 1, cells := 0, slots := 0, locals := 16 } : Room).slots) := by
  refine MetFree.of_bodySF (plainFor_of_name own_pn5) hisR ?_
  intro p e s m args below meth c s₁ Bd hml0 hP hK
  obtain ⟨rfl, hZ, hh⟩ := hP
  have hx := Bd.exec
  have hby := Bd.bytes
  have hml : c.maxLocals = 3 := hml0
  have hown : s.vm.findClass "java/lang/StringCoding" = some m.cls := findClass_of_methodNamed Bd.named
  have hnm := (name_of_methodNamed Bd.named Bd.method).1
  have X0 : Stand p l e ({ frames := 1, cells := 0, slots := 0, locals := 16 } : Room) s m #[(.ref b), (.int (0 : Int32)), (.int (2 : Int32))] below meth c s₁ [] 0 0 := Stand.of_body Bd
  have e0 : s₁.heap = h0 := by rw [← hh, Bd.state]; rfl
  have N0 := Fr.nil n0
  have K0 : Keep h0 h0 [] := Keep.refl _ _
  have k0 : ∀ t, Steps p.tables e below (s₁.setTop (mkF m 0 #[.val (.ref b), .val (.int (0 : Int32)), .val (.int (2 : Int32))] [])) t → Steps p.tables e below (s₁.setTop (entryFrame m #[(.ref b), (.int (0 : Int32)), (.int (2 : Int32))] 3)) t := fun t k => castTop (rmHn2pn_ef m (b)) k
  have k1 : ∀ t, Steps p.tables e below (s₁.setTop (mkF m 3 #[.val (.ref b), .val (.int (0 : Int32)), .val (.int (2 : Int32))] [(.int (2 : Int32)), (.int (0 : Int32)), (.ref b)])) t → Steps p.tables e below (s₁.setTop (entryFrame m #[(.ref b), (.int (0 : Int32)), (.int (2 : Int32))] 3)) t := by
    intro t kt
    refine k0 t ?_
    show Steps p.tables e below (s₁.setTop (mkF m 0 #[.val (.ref b), .val (.int (0 : Int32)), .val (.int (2 : Int32))] [])) t
    refine XS.aloadN X0.here hx rfl (hb hby d14_0) rfl rfl ?_
    show Steps p.tables e below (s₁.setTop (mkF m 1 #[.val (.ref b), .val (.int (0 : Int32)), .val (.int (2 : Int32))] [(.ref b)])) t
    refine XS.iloadN X0.here hx rfl (hb hby d14_1) rfl ?_
    show Steps p.tables e below (s₁.setTop (mkF m 2 #[.val (.ref b), .val (.int (0 : Int32)), .val (.int (2 : Int32))] [(.int (0 : Int32)), (.ref b)])) t
    refine XS.iloadN X0.here hx rfl (hb hby d14_2) rfl ?_
    exact kt
  obtain ⟨_, _, ⟨T2, L2, k2c, n2⟩, -, X2, ⟨Lc2, hQ2, l2, y2, z2⟩, st2⟩ := Jvm.LawKit.callS X0 hx (y := (⟨"java/lang/StringCoding", "countPositives", "([BII)I"⟩ : MethodName)) hown (mvT hZ (hw _ (List.mem_of_getElem? (i := 73) rfl))) (mvT hZ (hw _ (List.mem_of_getElem? (i := 74) rfl))) (mvT hZ (hw _ (List.mem_of_getElem? (i := 71) rfl))) (mvT hZ (hw _ (List.mem_of_getElem? (i := 75) rfl))) (by decide) (backOf (W := 0) (rmCp2pn l Z a0 hw [] b kb ax ay h0 n0 Z0 Ab sax say) hZ (hw _ (List.mem_of_getElem? (i := 75) rfl)) (hw _ (List.mem_of_getElem? (i := 71) rfl)) (by decide) (by decide)) (g := (mkF m 3 #[.val (.ref b), .val (.int (0 : Int32)), .val (.int (2 : Int32))] [(.int (2 : Int32)), (.int (0 : Int32)), (.ref b)])) rfl (by rw [hml]; rfl) (argsL := [(.ref b), (.int (0 : Int32)), (.int (2 : Int32))]) (rest := []) (lenOf own_pd6 rfl) rfl (by show 2 * 0 + _ ≤ _; exact Nat.le_of_eq rfl) (hb hby d14_3) (fun _ _ => ⟨rfl, e0, (by decide : 0 + 0 ≤ _), (by decide : 0 + 0 ≤ _)⟩)
  dsimp only [Pt.U, Pt.locs, Pt.cells, Pt.slots] at X2 l2 y2 z2 st2 hQ2
  subst l2 y2 z2
  obtain ⟨rfl, N2q, e2⟩ := hQ2
  have N2 := Fr.app N0 N2q
  have k3 : ∀ t, Steps p.tables e below (T2.setTop (mkF m 6 #[.val (.ref b), .val (.int (0 : Int32)), .val (.int (2 : Int32))] [(.int (1 : Int32))])) t → Steps p.tables e below (s₁.setTop (entryFrame m #[(.ref b), (.int (0 : Int32)), (.int (2 : Int32))] 3)) t := fun t kt => k1 t (st2 t kt)
  have hc7_4 : ¬ ((1 : Int32) = (2 : Int32)) := by decide
  have k5 : ∀ t, Steps p.tables e below (T2.setTop (mkF m 15 #[.val (.ref b), .val (.int (0 : Int32)), .val (.int (2 : Int32))] [(.int (1 : Int32))])) t → Steps p.tables e below (s₁.setTop (entryFrame m #[(.ref b), (.int (0 : Int32)), (.int (2 : Int32))] 3)) t := by
    intro t kt
    refine k3 t ?_
    show Steps p.tables e below (T2.setTop (mkF m 6 #[.val (.ref b), .val (.int (0 : Int32)), .val (.int (2 : Int32))] [(.int (1 : Int32))])) t
    refine XS.iloadN X2.here hx rfl (hb hby d14_6) rfl ?_
    show Steps p.tables e below (T2.setTop (mkF m 7 #[.val (.ref b), .val (.int (0 : Int32)), .val (.int (2 : Int32))] [(.int (2 : Int32)), (.int (1 : Int32))])) t
    refine XS.icmpNo X2.here hx rfl (hb hby d14_7) rfl (feq hc7_4).1 ?_
    show Steps p.tables e below (T2.setTop (mkF m 10 #[.val (.ref b), .val (.int (0 : Int32)), .val (.int (2 : Int32))] [])) t
    refine XS.iconst X2.here hx rfl (hb hby d14_10) ?_
    show Steps p.tables e below (T2.setTop (mkF m 11 #[.val (.ref b), .val (.int (0 : Int32)), .val (.int (2 : Int32))] [(.int (1 : Int32))])) t
    refine XS.goto X2.here hx rfl (pc0 := 11) (pc' := 15) rfl (hb hby d14_11) (by decide) (by decide) ?_
    exact kt
  obtain ⟨fs, hr, hrun, hended, hW, hsame⟩ := X2.leave (v := some (.int (1 : Int32))) (fun h => by rw [Bd.returns] at h; cases h)
  refine ⟨_, _, k5 _ ?_, hrun, hended, _, _, rfl, ?_, ⟨_, rfl⟩, hW, hsame.mono (by decide) (by decide)⟩
  · show Steps p.tables e below (T2.setTop (mkF m 15 #[.val (.ref b), .val (.int (0 : Int32)), .val (.int (2 : Int32))] [(.int (1 : Int32))])) _
    exact retN X2 hx (t := .boolean) Bd.returns (by simp) (hb hby d14_15) hr
  · show QHn2pn Z b kb ax ay h0 n0 _ T2.heap _
    rw [e2]
    exact ⟨rfl, N2, rfl⟩
theorem rmCp2pp_ef (m : MethodId) (x0 : Addr) : entryFrame m #[(.ref x0), (.int (0 : Int32)), (.int (2 : Int32))] 5 = mkF m 0 #[.val (.ref x0), .val (.int (0 : Int32)), .val (.int (2 : Int32)), .unset, .unset] [] := by first | (simp [entryFrame, mkF, argsToLocals, Value.category]; done) | rfl
def QCp2pp (Z : State) (b : Addr) (kb : ClassId) (ax : Int32) (ay : Int32) (h0 : Heap) (n0 : Nat) (v : Option Value) (h : Heap) (L : List Loc) : Prop := v = some (.int (2 : Int32)) ∧ Fr n0 L ∧ h = h0
set_option maxRecDepth 65536 in
set_option maxHeartbeats 40000000 in
theorem rmCp2pp (l : Launch) (Z : State) (a0 : Array Value) (hw : ∀ d ∈ tables_1, d.before a0 Z = true) (ws : List Jvm.Cond) (b : Addr) (kb : ClassId) (ax : Int32) (ay : Int32) (h0 : Heap) (n0 : Nat) (Z0 : n0 ≤ h0.size) (Ab : Arv Z h0 b kb .byte (2 : Int32) [(.int ax), (.int ay)] (.int (0 : Int32))) (sax : ¬ (ax < (0 : Int32))) (say : ¬ (ay < (0 : Int32))) :
    MetFree l (⟨"java/lang/StringCoding", "countPositives", "([BII)I"⟩ : MethodName) (head1 (Jvm.Cond.code (⟨"java/lang/StringCoding", "countPositives", "([BII)I"⟩ : MethodName) jdk_123_method_3_code 5 (some .int) :: ws) ({ frames := 0, cells := 0, slots := 0, locals := 0 } : Room)) (fun aA' U => aA' = #[(.ref b), (.int (0 : Int32)), (.int (2 : Int32))] ∧ Z.Warmed39 U.vm ∧ U.heap = h0) (fun _ _ _ _ _ => True) (fun _ U oO' U' => ∃ vV' L, oO' = .returned vV' ∧ QCp2pp Z b kb ax ay h0 n0 vV' U'.heap L ∧ FrameEnd U oO' U' L ({ frames := 0, cells := 0, slots := 0, locals := 0 } : Room).cells ({ frames := 0, cells := 0, slots := 0, locals := 0 } : Room).slots) := by
  refine MetFree.of_bodySF (plainFor_of_name own_pn5) hisR ?_
  intro p e s m args below meth c s₁ Bd hml0 hP hK
  obtain ⟨rfl, hZ, hh⟩ := hP
  have hx := Bd.exec
  have hby := Bd.bytes
  have hml : c.maxLocals = 5 := hml0
  have hown : s.vm.findClass "java/lang/StringCoding" = some m.cls := findClass_of_methodNamed Bd.named
  have hnm := (name_of_methodNamed Bd.named Bd.method).1
  have X0 : Stand p l e ({ frames := 0, cells := 0, slots := 0, locals := 0 } : Room) s m #[(.ref b), (.int (0 : Int32)), (.int (2 : Int32))] below meth c s₁ [] 0 0 := Stand.of_body Bd
  have e0 : s₁.heap = h0 := by rw [← hh, Bd.state]; rfl
  have N0 := Fr.nil n0
  have K0 : Keep h0 h0 [] := Keep.refl _ _
  have k0 : ∀ t, Steps p.tables e below (s₁.setTop (mkF m 0 #[.val (.ref b), .val (.int (0 : Int32)), .val (.int (2 : Int32)), .unset, .unset] [])) t → Steps p.tables e below (s₁.setTop (entryFrame m #[(.ref b), (.int (0 : Int32)), (.int (2 : Int32))] 5)) t := fun t k => castTop (rmCp2pp_ef m (b)) k
  have hc10_1 : (0 : Int32) < (2 : Int32) := by decide
  have k2 : ∀ t, Steps p.tables e below (s₁.setTop (mkF m 16 #[.val (.ref b), .val (.int (0 : Int32)), .val (.int (2 : Int32)), .val (.int (2 : Int32)), .val (.int (0 : Int32))] [(.int (0 : Int32)), (.ref b)])) t → Steps p.tables e below (s₁.setTop (entryFrame m #[(.ref b), (.int (0 : Int32)), (.int (2 : Int32))] 5)) t := by
    intro t kt
    refine k0 t ?_
    show Steps p.tables e below (s₁.setTop (mkF m 0 #[.val (.ref b), .val (.int (0 : Int32)), .val (.int (2 : Int32)), .unset, .unset] [])) t
    refine XS.iloadN X0.here hx rfl (hb hby d15_0) rfl ?_
    show Steps p.tables e below (s₁.setTop (mkF m 1 #[.val (.ref b), .val (.int (0 : Int32)), .val (.int (2 : Int32)), .unset, .unset] [(.int (0 : Int32))])) t
    refine XS.iloadN X0.here hx rfl (hb hby d15_1) rfl ?_
    show Steps p.tables e below (s₁.setTop (mkF m 2 #[.val (.ref b), .val (.int (0 : Int32)), .val (.int (2 : Int32)), .unset, .unset] [(.int (2 : Int32)), (.int (0 : Int32))])) t
    refine XS.iadd X0.here hx rfl (hb hby d15_2) rfl ?_
    show Steps p.tables e below (s₁.setTop (mkF m 3 #[.val (.ref b), .val (.int (0 : Int32)), .val (.int (2 : Int32)), .unset, .unset] [(.int (2 : Int32))])) t
    refine XS.istoreN X0.here hx rfl (hb hby d15_3) rfl (l' := #[.val (.ref b), .val (.int (0 : Int32)), .val (.int (2 : Int32)), .val (.int (2 : Int32)), .unset]) rfl ?_
    show Steps p.tables e below (s₁.setTop (mkF m 4 #[.val (.ref b), .val (.int (0 : Int32)), .val (.int (2 : Int32)), .val (.int (2 : Int32)), .unset] [])) t
    refine XS.iloadN X0.here hx rfl (hb hby d15_4) rfl ?_
    show Steps p.tables e below (s₁.setTop (mkF m 5 #[.val (.ref b), .val (.int (0 : Int32)), .val (.int (2 : Int32)), .val (.int (2 : Int32)), .unset] [(.int (0 : Int32))])) t
    refine XS.istore X0.here hx rfl (hb hby d15_5) rfl (l' := #[.val (.ref b), .val (.int (0 : Int32)), .val (.int (2 : Int32)), .val (.int (2 : Int32)), .val (.int (0 : Int32))]) rfl ?_
    show Steps p.tables e below (s₁.setTop (mkF m 7 #[.val (.ref b), .val (.int (0 : Int32)), .val (.int (2 : Int32)), .val (.int (2 : Int32)), .val (.int (0 : Int32))] [])) t
    refine XS.iload X0.here hx rfl (hb hby d15_7) rfl ?_
    show Steps p.tables e below (s₁.setTop (mkF m 9 #[.val (.ref b), .val (.int (0 : Int32)), .val (.int (2 : Int32)), .val (.int (2 : Int32)), .val (.int (0 : Int32))] [(.int (0 : Int32))])) t
    refine XS.iloadN X0.here hx rfl (hb hby d15_9) rfl ?_
    show Steps p.tables e below (s₁.setTop (mkF m 10 #[.val (.ref b), .val (.int (0 : Int32)), .val (.int (2 : Int32)), .val (.int (2 : Int32)), .val (.int (0 : Int32))] [(.int (2 : Int32)), (.int (0 : Int32))])) t
    refine XS.icmpNo X0.here hx rfl (hb hby d15_10) rfl (tlt hc10_1).2.1 ?_
    show Steps p.tables e below (s₁.setTop (mkF m 13 #[.val (.ref b), .val (.int (0 : Int32)), .val (.int (2 : Int32)), .val (.int (2 : Int32)), .val (.int (0 : Int32))] [])) t
    refine XS.aloadN X0.here hx rfl (hb hby d15_13) rfl rfl ?_
    show Steps p.tables e below (s₁.setTop (mkF m 14 #[.val (.ref b), .val (.int (0 : Int32)), .val (.int (2 : Int32)), .val (.int (2 : Int32)), .val (.int (0 : Int32))] [(.ref b)])) t
    refine XS.iload X0.here hx rfl (hb hby d15_14) rfl ?_
    exact kt
  obtain ⟨cl3, Ar3, q3, S3, M3, H3, G3⟩ := id Ab
  have hin3 : ¬ ((0 : Int32) < 0 ∨ cl3.slots.size ≤ ((0 : Int32)).toNatClampNeg) := inb_of S3 ⟨by decide, by decide⟩
  have hat3 : cl3.slots[((0 : Int32)).toNatClampNeg]? = some (.int ax) := Has.at H3 hin3 rfl
  have k4 : ∀ t, Steps p.tables e below (s₁.setTop (mkF m 17 #[.val (.ref b), .val (.int (0 : Int32)), .val (.int (2 : Int32)), .val (.int (2 : Int32)), .val (.int (0 : Int32))] [(.int ax)])) t → Steps p.tables e below (s₁.setTop (entryFrame m #[(.ref b), (.int (0 : Int32)), (.int (2 : Int32))] 5)) t := fun t kt => k2 t (X0.baloadBytes hx (j := (0 : Int32)) (v := (.int ax)) (by rw [e0]; exact Ar3.1) (State.isArrayOf_alike hZ.alike Ar3.2.1) Ar3.2.2 hin3 hat3 (g := (mkF m 16 #[.val (.ref b), .val (.int (0 : Int32)), .val (.int (2 : Int32)), .val (.int (2 : Int32)), .val (.int (0 : Int32))] [(.int (0 : Int32)), (.ref b)])) rfl rfl (hb hby d15_16) t kt)
  have hc10_6 : (1 : Int32) < (2 : Int32) := by decide
  have k7 : ∀ t, Steps p.tables e below (s₁.setTop (mkF m 16 #[.val (.ref b), .val (.int (0 : Int32)), .val (.int (2 : Int32)), .val (.int (2 : Int32)), .val (.int (1 : Int32))] [(.int (1 : Int32)), (.ref b)])) t → Steps p.tables e below (s₁.setTop (entryFrame m #[(.ref b), (.int (0 : Int32)), (.int (2 : Int32))] 5)) t := by
    intro t kt
    refine k4 t ?_
    show Steps p.tables e below (s₁.setTop (mkF m 17 #[.val (.ref b), .val (.int (0 : Int32)), .val (.int (2 : Int32)), .val (.int (2 : Int32)), .val (.int (0 : Int32))] [(.int ax)])) t
    refine XS.ifYes X0.here hx rfl (pc0 := 17) (pc' := 25) rfl (hb hby d15_17) rfl ((if0 _ _).trans (flt sax).2.1) (by decide) (by decide) ?_
    show Steps p.tables e below (s₁.setTop (mkF m 25 #[.val (.ref b), .val (.int (0 : Int32)), .val (.int (2 : Int32)), .val (.int (2 : Int32)), .val (.int (0 : Int32))] [])) t
    refine XS.iinc X0.here hx rfl (hb hby d15_25) rfl (l' := #[.val (.ref b), .val (.int (0 : Int32)), .val (.int (2 : Int32)), .val (.int (2 : Int32)), .val (.int (1 : Int32))]) rfl ?_
    show Steps p.tables e below (s₁.setTop (mkF m 28 #[.val (.ref b), .val (.int (0 : Int32)), .val (.int (2 : Int32)), .val (.int (2 : Int32)), .val (.int (1 : Int32))] [])) t
    refine XS.goto X0.here hx rfl (pc0 := 28) (pc' := 7) rfl (hb hby d15_28) (by decide) (by decide) ?_
    show Steps p.tables e below (s₁.setTop (mkF m 7 #[.val (.ref b), .val (.int (0 : Int32)), .val (.int (2 : Int32)), .val (.int (2 : Int32)), .val (.int (1 : Int32))] [])) t
    refine XS.iload X0.here hx rfl (hb hby d15_7) rfl ?_
    show Steps p.tables e below (s₁.setTop (mkF m 9 #[.val (.ref b), .val (.int (0 : Int32)), .val (.int (2 : Int32)), .val (.int (2 : Int32)), .val (.int (1 : Int32))] [(.int (1 : Int32))])) t
    refine XS.iloadN X0.here hx rfl (hb hby d15_9) rfl ?_
    show Steps p.tables e below (s₁.setTop (mkF m 10 #[.val (.ref b), .val (.int (0 : Int32)), .val (.int (2 : Int32)), .val (.int (2 : Int32)), .val (.int (1 : Int32))] [(.int (2 : Int32)), (.int (1 : Int32))])) t
    refine XS.icmpNo X0.here hx rfl (hb hby d15_10) rfl (tlt hc10_6).2.1 ?_
    show Steps p.tables e below (s₁.setTop (mkF m 13 #[.val (.ref b), .val (.int (0 : Int32)), .val (.int (2 : Int32)), .val (.int (2 : Int32)), .val (.int (1 : Int32))] [])) t
    refine XS.aloadN X0.here hx rfl (hb hby d15_13) rfl rfl ?_
    show Steps p.tables e below (s₁.setTop (mkF m 14 #[.val (.ref b), .val (.int (0 : Int32)), .val (.int (2 : Int32)), .val (.int (2 : Int32)), .val (.int (1 : Int32))] [(.ref b)])) t
    refine XS.iload X0.here hx rfl (hb hby d15_14) rfl ?_
    exact kt
  obtain ⟨cl8, Ar8, q8, S8, M8, H8, G8⟩ := id Ab
  have hin8 : ¬ ((1 : Int32) < 0 ∨ cl8.slots.size ≤ ((1 : Int32)).toNatClampNeg) := inb_of S8 ⟨by decide, by decide⟩
  have hat8 : cl8.slots[((1 : Int32)).toNatClampNeg]? = some (.int ay) := Has.at H8 hin8 rfl
  have k9 : ∀ t, Steps p.tables e below (s₁.setTop (mkF m 17 #[.val (.ref b), .val (.int (0 : Int32)), .val (.int (2 : Int32)), .val (.int (2 : Int32)), .val (.int (1 : Int32))] [(.int ay)])) t → Steps p.tables e below (s₁.setTop (entryFrame m #[(.ref b), (.int (0 : Int32)), (.int (2 : Int32))] 5)) t := fun t kt => k7 t (X0.baloadBytes hx (j := (1 : Int32)) (v := (.int ay)) (by rw [e0]; exact Ar8.1) (State.isArrayOf_alike hZ.alike Ar8.2.1) Ar8.2.2 hin8 hat8 (g := (mkF m 16 #[.val (.ref b), .val (.int (0 : Int32)), .val (.int (2 : Int32)), .val (.int (2 : Int32)), .val (.int (1 : Int32))] [(.int (1 : Int32)), (.ref b)])) rfl rfl (hb hby d15_16) t kt)
  have hc10_11 : ¬ ((2 : Int32) < (2 : Int32)) := by decide
  have k12 : ∀ t, Steps p.tables e below (s₁.setTop (mkF m 32 #[.val (.ref b), .val (.int (0 : Int32)), .val (.int (2 : Int32)), .val (.int (2 : Int32)), .val (.int (2 : Int32))] [(.int (2 : Int32))])) t → Steps p.tables e below (s₁.setTop (entryFrame m #[(.ref b), (.int (0 : Int32)), (.int (2 : Int32))] 5)) t := by
    intro t kt
    refine k9 t ?_
    show Steps p.tables e below (s₁.setTop (mkF m 17 #[.val (.ref b), .val (.int (0 : Int32)), .val (.int (2 : Int32)), .val (.int (2 : Int32)), .val (.int (1 : Int32))] [(.int ay)])) t
    refine XS.ifYes X0.here hx rfl (pc0 := 17) (pc' := 25) rfl (hb hby d15_17) rfl ((if0 _ _).trans (flt say).2.1) (by decide) (by decide) ?_
    show Steps p.tables e below (s₁.setTop (mkF m 25 #[.val (.ref b), .val (.int (0 : Int32)), .val (.int (2 : Int32)), .val (.int (2 : Int32)), .val (.int (1 : Int32))] [])) t
    refine XS.iinc X0.here hx rfl (hb hby d15_25) rfl (l' := #[.val (.ref b), .val (.int (0 : Int32)), .val (.int (2 : Int32)), .val (.int (2 : Int32)), .val (.int (2 : Int32))]) rfl ?_
    show Steps p.tables e below (s₁.setTop (mkF m 28 #[.val (.ref b), .val (.int (0 : Int32)), .val (.int (2 : Int32)), .val (.int (2 : Int32)), .val (.int (2 : Int32))] [])) t
    refine XS.goto X0.here hx rfl (pc0 := 28) (pc' := 7) rfl (hb hby d15_28) (by decide) (by decide) ?_
    show Steps p.tables e below (s₁.setTop (mkF m 7 #[.val (.ref b), .val (.int (0 : Int32)), .val (.int (2 : Int32)), .val (.int (2 : Int32)), .val (.int (2 : Int32))] [])) t
    refine XS.iload X0.here hx rfl (hb hby d15_7) rfl ?_
    show Steps p.tables e below (s₁.setTop (mkF m 9 #[.val (.ref b), .val (.int (0 : Int32)), .val (.int (2 : Int32)), .val (.int (2 : Int32)), .val (.int (2 : Int32))] [(.int (2 : Int32))])) t
    refine XS.iloadN X0.here hx rfl (hb hby d15_9) rfl ?_
    show Steps p.tables e below (s₁.setTop (mkF m 10 #[.val (.ref b), .val (.int (0 : Int32)), .val (.int (2 : Int32)), .val (.int (2 : Int32)), .val (.int (2 : Int32))] [(.int (2 : Int32)), (.int (2 : Int32))])) t
    refine XS.icmpYes X0.here hx rfl (pc0 := 10) (pc' := 31) rfl (hb hby d15_10) rfl (flt hc10_11).2.1 (by decide) (by decide) ?_
    show Steps p.tables e below (s₁.setTop (mkF m 31 #[.val (.ref b), .val (.int (0 : Int32)), .val (.int (2 : Int32)), .val (.int (2 : Int32)), .val (.int (2 : Int32))] [])) t
    refine XS.iloadN X0.here hx rfl (hb hby d15_31) rfl ?_
    exact kt
  obtain ⟨fs, hr, hrun, hended, hW, hsame⟩ := X0.leave (v := some (.int (2 : Int32))) (fun h => by rw [Bd.returns] at h; cases h)
  refine ⟨_, _, k12 _ ?_, hrun, hended, _, _, rfl, ?_, ⟨_, rfl⟩, hW, hsame.mono (by decide) (by decide)⟩
  · show Steps p.tables e below (s₁.setTop (mkF m 32 #[.val (.ref b), .val (.int (0 : Int32)), .val (.int (2 : Int32)), .val (.int (2 : Int32)), .val (.int (2 : Int32))] [(.int (2 : Int32))])) _
    exact retI X0 hx Bd.returns (hb hby d15_32) hr
  · show QCp2pp Z b kb ax ay h0 n0 _ s₁.heap _
    rw [e0]
    exact ⟨rfl, N0, rfl⟩
theorem rmHn2pp_ef (m : MethodId) (x0 : Addr) : entryFrame m #[(.ref x0), (.int (0 : Int32)), (.int (2 : Int32))] 3 = mkF m 0 #[.val (.ref x0), .val (.int (0 : Int32)), .val (.int (2 : Int32))] [] := by first | (simp [entryFrame, mkF, argsToLocals, Value.category]; done) | rfl
def QHn2pp (Z : State) (b : Addr) (kb : ClassId) (ax : Int32) (ay : Int32) (h0 : Heap) (n0 : Nat) (v : Option Value) (h : Heap) (L : List Loc) : Prop := v = some (.int (0 : Int32)) ∧ Fr n0 L ∧ h = h0
set_option maxRecDepth 65536 in
set_option maxHeartbeats 40000000 in
theorem rmHn2pp (l : Launch) (Z : State) (a0 : Array Value) (hw : ∀ d ∈ tables_1, d.before a0 Z = true) (ws : List Jvm.Cond) (b : Addr) (kb : ClassId) (ax : Int32) (ay : Int32) (h0 : Heap) (n0 : Nat) (Z0 : n0 ≤ h0.size) (Ab : Arv Z h0 b kb .byte (2 : Int32) [(.int ax), (.int ay)] (.int (0 : Int32))) (sax : ¬ (ax < (0 : Int32))) (say : ¬ (ay < (0 : Int32))) :
    MetFree l (⟨"java/lang/StringCoding", "hasNegatives", "([BII)Z"⟩ : MethodName) (head1 (Jvm.Cond.code (⟨"java/lang/StringCoding", "hasNegatives", "([BII)Z"⟩ : MethodName) jdk_123_method_2_code 3 (some .boolean) :: ws) ({ frames := 1, cells := 0, slots := 0, locals := 16 } : Room)) (fun aA' U => aA' = #[(.ref b), (.int (0 : Int32)), (.int (2 : Int32))] ∧ Z.Warmed39 U.vm ∧ U.heap = h0) (fun _ _ _ _ _ => True) (fun _ U oO' U' => ∃ vV' L, oO' = .returned vV' ∧ QHn2pp Z b kb ax ay h0 n0 vV' U'.heap L ∧ FrameEnd U oO' U' L ({ frames := 1, cells := 0, slots := 0, locals := 16 } : Room).cells ({ frames := 1, cells := 0, slots := 0, locals := 16 } : Room).slots) := by
  refine MetFree.of_bodySF (plainFor_of_name own_pn5) hisR ?_
  intro p e s m args below meth c s₁ Bd hml0 hP hK
  obtain ⟨rfl, hZ, hh⟩ := hP
  have hx := Bd.exec
  have hby := Bd.bytes
  have hml : c.maxLocals = 3 := hml0
  have hown : s.vm.findClass "java/lang/StringCoding" = some m.cls := findClass_of_methodNamed Bd.named
  have hnm := (name_of_methodNamed Bd.named Bd.method).1
  have X0 : Stand p l e ({ frames := 1, cells := 0, slots := 0, locals := 16 } : Room) s m #[(.ref b), (.int (0 : Int32)), (.int (2 : Int32))] below meth c s₁ [] 0 0 := Stand.of_body Bd
  have e0 : s₁.heap = h0 := by rw [← hh, Bd.state]; rfl
  have N0 := Fr.nil n0
  have K0 : Keep h0 h0 [] := Keep.refl _ _
  have k0 : ∀ t, Steps p.tables e below (s₁.setTop (mkF m 0 #[.val (.ref b), .val (.int (0 : Int32)), .val (.int (2 : Int32))] [])) t → Steps p.tables e below (s₁.setTop (entryFrame m #[(.ref b), (.int (0 : Int32)), (.int (2 : Int32))] 3)) t := fun t k => castTop (rmHn2pp_ef m (b)) k
  have k1 : ∀ t, Steps p.tables e below (s₁.setTop (mkF m 3 #[.val (.ref b), .val (.int (0 : Int32)), .val (.int (2 : Int32))] [(.int (2 : Int32)), (.int (0 : Int32)), (.ref b)])) t → Steps p.tables e below (s₁.setTop (entryFrame m #[(.ref b), (.int (0 : Int32)), (.int (2 : Int32))] 3)) t := by
    intro t kt
    refine k0 t ?_
    show Steps p.tables e below (s₁.setTop (mkF m 0 #[.val (.ref b), .val (.int (0 : Int32)), .val (.int (2 : Int32))] [])) t
    refine XS.aloadN X0.here hx rfl (hb hby d14_0) rfl rfl ?_
    show Steps p.tables e below (s₁.setTop (mkF m 1 #[.val (.ref b), .val (.int (0 : Int32)), .val (.int (2 : Int32))] [(.ref b)])) t
    refine XS.iloadN X0.here hx rfl (hb hby d14_1) rfl ?_
    show Steps p.tables e below (s₁.setTop (mkF m 2 #[.val (.ref b), .val (.int (0 : Int32)), .val (.int (2 : Int32))] [(.int (0 : Int32)), (.ref b)])) t
    refine XS.iloadN X0.here hx rfl (hb hby d14_2) rfl ?_
    exact kt
  obtain ⟨_, _, ⟨T2, L2, k2c, n2⟩, -, X2, ⟨Lc2, hQ2, l2, y2, z2⟩, st2⟩ := Jvm.LawKit.callS X0 hx (y := (⟨"java/lang/StringCoding", "countPositives", "([BII)I"⟩ : MethodName)) hown (mvT hZ (hw _ (List.mem_of_getElem? (i := 73) rfl))) (mvT hZ (hw _ (List.mem_of_getElem? (i := 74) rfl))) (mvT hZ (hw _ (List.mem_of_getElem? (i := 71) rfl))) (mvT hZ (hw _ (List.mem_of_getElem? (i := 75) rfl))) (by decide) (backOf (W := 0) (rmCp2pp l Z a0 hw [] b kb ax ay h0 n0 Z0 Ab sax say) hZ (hw _ (List.mem_of_getElem? (i := 75) rfl)) (hw _ (List.mem_of_getElem? (i := 71) rfl)) (by decide) (by decide)) (g := (mkF m 3 #[.val (.ref b), .val (.int (0 : Int32)), .val (.int (2 : Int32))] [(.int (2 : Int32)), (.int (0 : Int32)), (.ref b)])) rfl (by rw [hml]; rfl) (argsL := [(.ref b), (.int (0 : Int32)), (.int (2 : Int32))]) (rest := []) (lenOf own_pd6 rfl) rfl (by show 2 * 0 + _ ≤ _; exact Nat.le_of_eq rfl) (hb hby d14_3) (fun _ _ => ⟨rfl, e0, (by decide : 0 + 0 ≤ _), (by decide : 0 + 0 ≤ _)⟩)
  dsimp only [Pt.U, Pt.locs, Pt.cells, Pt.slots] at X2 l2 y2 z2 st2 hQ2
  subst l2 y2 z2
  obtain ⟨rfl, N2q, e2⟩ := hQ2
  have N2 := Fr.app N0 N2q
  have k3 : ∀ t, Steps p.tables e below (T2.setTop (mkF m 6 #[.val (.ref b), .val (.int (0 : Int32)), .val (.int (2 : Int32))] [(.int (2 : Int32))])) t → Steps p.tables e below (s₁.setTop (entryFrame m #[(.ref b), (.int (0 : Int32)), (.int (2 : Int32))] 3)) t := fun t kt => k1 t (st2 t kt)
  have k5 : ∀ t, Steps p.tables e below (T2.setTop (mkF m 7 #[.val (.ref b), .val (.int (0 : Int32)), .val (.int (2 : Int32))] [(.int (2 : Int32)), (.int (2 : Int32))])) t → Steps p.tables e below (s₁.setTop (entryFrame m #[(.ref b), (.int (0 : Int32)), (.int (2 : Int32))] 3)) t := by
    intro t kt
    refine k3 t ?_
    show Steps p.tables e below (T2.setTop (mkF m 6 #[.val (.ref b), .val (.int (0 : Int32)), .val (.int (2 : Int32))] [(.int (2 : Int32))])) t
    refine XS.iloadN X2.here hx rfl (hb hby d14_6) rfl ?_
    exact kt
  have hc7_4 : (2 : Int32) = (2 : Int32) := rfl
  have k6 : ∀ t, Steps p.tables e below (T2.setTop (mkF m 15 #[.val (.ref b), .val (.int (0 : Int32)), .val (.int (2 : Int32))] [(.int (0 : Int32))])) t → Steps p.tables e below (s₁.setTop (entryFrame m #[(.ref b), (.int (0 : Int32)), (.int (2 : Int32))] 3)) t := by
    intro t kt
    refine k5 t ?_
    show Steps p.tables e below (T2.setTop (mkF m 7 #[.val (.ref b), .val (.int (0 : Int32)), .val (.int (2 : Int32))] [(.int (2 : Int32)), (.int (2 : Int32))])) t
    refine XS.icmpYes X2.here hx rfl (pc0 := 7) (pc' := 14) rfl (hb hby d14_7) rfl (teq hc7_4).1 (by decide) (by decide) ?_
    show Steps p.tables e below (T2.setTop (mkF m 14 #[.val (.ref b), .val (.int (0 : Int32)), .val (.int (2 : Int32))] [])) t
    refine XS.iconst X2.here hx rfl (hb hby d14_14) ?_
    exact kt
  obtain ⟨fs, hr, hrun, hended, hW, hsame⟩ := X2.leave (v := some (.int (0 : Int32))) (fun h => by rw [Bd.returns] at h; cases h)
  refine ⟨_, _, k6 _ ?_, hrun, hended, _, _, rfl, ?_, ⟨_, rfl⟩, hW, hsame.mono (by decide) (by decide)⟩
  · show Steps p.tables e below (T2.setTop (mkF m 15 #[.val (.ref b), .val (.int (0 : Int32)), .val (.int (2 : Int32))] [(.int (0 : Int32))])) _
    exact retN X2 hx (t := .boolean) Bd.returns (by simp) (hb hby d14_15) hr
  · show QHn2pp Z b kb ax ay h0 n0 _ T2.heap _
    rw [e2]
    exact ⟨rfl, N2, rfl⟩
theorem d21_0 : decode jdk_52_method_3_code 0 = .ok (.iload_n 0, 1) := by decide +kernel
theorem d21_1 : decode jdk_52_method_3_code 1 = .ok (.ifCond .ge 11, 3) := by decide +kernel
theorem d21_4 : decode jdk_52_method_3_code 4 = .ok (.new 17, 3) := by decide +kernel
theorem d21_7 : decode jdk_52_method_3_code 7 = .ok (.dup, 1) := by decide +kernel
theorem d21_8 : decode jdk_52_method_3_code 8 = .ok (.invokespecial 19, 3) := by decide +kernel
theorem d21_11 : decode jdk_52_method_3_code 11 = .ok (.athrow, 1) := by decide +kernel
theorem d21_12 : decode jdk_52_method_3_code 12 = .ok (.iload_n 0, 1) := by decide +kernel
theorem d21_13 : decode jdk_52_method_3_code 13 = .ok (.ldc 20, 2) := by decide +kernel
theorem d21_15 : decode jdk_52_method_3_code 15 = .ok (.if_icmp .lt 40, 3) := by decide +kernel
theorem d21_18 : decode jdk_52_method_3_code 18 = .ok (.new 21, 3) := by decide +kernel
theorem d21_21 : decode jdk_52_method_3_code 21 = .ok (.dup, 1) := by decide +kernel
theorem d21_22 : decode jdk_52_method_3_code 22 = .ok (.new 23, 3) := by decide +kernel
theorem d21_25 : decode jdk_52_method_3_code 25 = .ok (.dup, 1) := by decide +kernel
theorem d21_26 : decode jdk_52_method_3_code 26 = .ok (.invokespecial 25, 3) := by decide +kernel
theorem d21_29 : decode jdk_52_method_3_code 29 = .ok (.ldc 26, 2) := by decide +kernel
theorem d21_31 : decode jdk_52_method_3_code 31 = .ok (.invokevirtual 28, 3) := by decide +kernel
theorem d21_34 : decode jdk_52_method_3_code 34 = .ok (.iload_n 0, 1) := by decide +kernel
theorem d21_35 : decode jdk_52_method_3_code 35 = .ok (.invokevirtual 32, 3) := by decide +kernel
theorem d21_38 : decode jdk_52_method_3_code 38 = .ok (.ldc 35, 2) := by decide +kernel
theorem d21_40 : decode jdk_52_method_3_code 40 = .ok (.invokevirtual 28, 3) := by decide +kernel
theorem d21_43 : decode jdk_52_method_3_code 43 = .ok (.ldc 20, 2) := by decide +kernel
theorem d21_45 : decode jdk_52_method_3_code 45 = .ok (.invokevirtual 32, 3) := by decide +kernel
theorem d21_48 : decode jdk_52_method_3_code 48 = .ok (.invokevirtual 37, 3) := by decide +kernel
theorem d21_51 : decode jdk_52_method_3_code 51 = .ok (.invokespecial 41, 3) := by decide +kernel
theorem d21_54 : decode jdk_52_method_3_code 54 = .ok (.athrow, 1) := by decide +kernel
theorem d21_55 : decode jdk_52_method_3_code 55 = .ok (.iload_n 0, 1) := by decide +kernel
theorem d21_56 : decode jdk_52_method_3_code 56 = .ok (.iconst 1, 1) := by decide +kernel
theorem d21_57 : decode jdk_52_method_3_code 57 = .ok (.ishl, 1) := by decide +kernel
theorem d21_58 : decode jdk_52_method_3_code 58 = .ok (.ireturn, 1) := by decide +kernel
theorem rmNl1_ef (m : MethodId)  : entryFrame m #[(.int (1 : Int32))] 1 = mkF m 0 #[.val (.int (1 : Int32))] [] := by first | (simp [entryFrame, mkF, argsToLocals, Value.category]; done) | rfl
def QNl1 (Z : State)  (h0 : Heap) (n0 : Nat) (v : Option Value) (h : Heap) (L : List Loc) : Prop := v = some (.int (2 : Int32)) ∧ Fr n0 L ∧ h = h0
set_option maxRecDepth 65536 in
set_option maxHeartbeats 40000000 in
theorem rmNl1 (l : Launch) (Z : State) (a0 : Array Value) (hw : ∀ d ∈ tables_1, d.before a0 Z = true) (ws : List Jvm.Cond)  (h0 : Heap) (n0 : Nat) (Z0 : n0 ≤ h0.size) :
    MetFree l (⟨"java/lang/StringUTF16", "newBytesLength", "(I)I"⟩ : MethodName) (head1 (Jvm.Cond.code (⟨"java/lang/StringUTF16", "newBytesLength", "(I)I"⟩ : MethodName) jdk_52_method_3_code 1 (some .int) :: ws) ({ frames := 0, cells := 0, slots := 0, locals := 0 } : Room)) (fun aA' U => aA' = #[(.int (1 : Int32))] ∧ Z.Warmed39 U.vm ∧ U.heap = h0) (fun _ _ _ _ _ => True) (fun _ U oO' U' => ∃ vV' L, oO' = .returned vV' ∧ QNl1 Z  h0 n0 vV' U'.heap L ∧ FrameEnd U oO' U' L ({ frames := 0, cells := 0, slots := 0, locals := 0 } : Room).cells ({ frames := 0, cells := 0, slots := 0, locals := 0 } : Room).slots) := by
  refine MetFree.of_bodySF (plainFor_of_name own_pn0) hisR ?_
  intro p e s m args below meth c s₁ Bd hml0 hP hK
  obtain ⟨rfl, hZ, hh⟩ := hP
  have hx := Bd.exec
  have hby := Bd.bytes
  have hml : c.maxLocals = 1 := hml0
  have hown : s.vm.findClass "java/lang/StringUTF16" = some m.cls := findClass_of_methodNamed Bd.named
  have hnm := (name_of_methodNamed Bd.named Bd.method).1
  have X0 : Stand p l e ({ frames := 0, cells := 0, slots := 0, locals := 0 } : Room) s m #[(.int (1 : Int32))] below meth c s₁ [] 0 0 := Stand.of_body Bd
  have e0 : s₁.heap = h0 := by rw [← hh, Bd.state]; rfl
  have N0 := Fr.nil n0
  have K0 : Keep h0 h0 [] := Keep.refl _ _
  have k0 : ∀ t, Steps p.tables e below (s₁.setTop (mkF m 0 #[.val (.int (1 : Int32))] [])) t → Steps p.tables e below (s₁.setTop (entryFrame m #[(.int (1 : Int32))] 1)) t := fun t k => castTop (rmNl1_ef m ) k
  have hc1_1 : ¬ ((1 : Int32) < (0 : Int32)) := by decide
  have hc15_2 : (1 : Int32) < (1073741823 : Int32) := by decide
  have k3 : ∀ t, Steps p.tables e below (s₁.setTop (mkF m 58 #[.val (.int (1 : Int32))] [(.int (2 : Int32))])) t → Steps p.tables e below (s₁.setTop (entryFrame m #[(.int (1 : Int32))] 1)) t := by
    intro t kt
    refine k0 t ?_
    show Steps p.tables e below (s₁.setTop (mkF m 0 #[.val (.int (1 : Int32))] [])) t
    refine XS.iloadN X0.here hx rfl (hb hby d21_0) rfl ?_
    show Steps p.tables e below (s₁.setTop (mkF m 1 #[.val (.int (1 : Int32))] [(.int (1 : Int32))])) t
    refine XS.ifYes X0.here hx rfl (pc0 := 1) (pc' := 12) rfl (hb hby d21_1) rfl ((if0 _ _).trans (flt hc1_1).2.1) (by decide) (by decide) ?_
    show Steps p.tables e below (s₁.setTop (mkF m 12 #[.val (.int (1 : Int32))] [])) t
    refine XS.iloadN X0.here hx rfl (hb hby d21_12) rfl ?_
    show Steps p.tables e below (s₁.setTop (mkF m 13 #[.val (.int (1 : Int32))] [(.int (1 : Int32))])) t
    refine X0.ldcInt hx hown (mvT hZ (hw _ (List.mem_of_getElem? (i := 121) rfl))) (g := (mkF m 13 #[.val (.int (1 : Int32))] [(.int (1 : Int32))])) rfl (hb hby d21_13) _ ?_
    show Steps p.tables e below (s₁.setTop (mkF m 15 #[.val (.int (1 : Int32))] [(.int (1073741823 : Int32)), (.int (1 : Int32))])) t
    refine XS.icmpYes X0.here hx rfl (pc0 := 15) (pc' := 55) rfl (hb hby d21_15) rfl (tlt hc15_2).1 (by decide) (by decide) ?_
    show Steps p.tables e below (s₁.setTop (mkF m 55 #[.val (.int (1 : Int32))] [])) t
    refine XS.iloadN X0.here hx rfl (hb hby d21_55) rfl ?_
    show Steps p.tables e below (s₁.setTop (mkF m 56 #[.val (.int (1 : Int32))] [(.int (1 : Int32))])) t
    refine XS.iconst X0.here hx rfl (hb hby d21_56) ?_
    show Steps p.tables e below (s₁.setTop (mkF m 57 #[.val (.int (1 : Int32))] [(.int (1 : Int32)), (.int (1 : Int32))])) t
    refine XS.ishl X0.here hx rfl (hb hby d21_57) rfl ?_
    exact kt
  obtain ⟨fs, hr, hrun, hended, hW, hsame⟩ := X0.leave (v := some (.int (2 : Int32))) (fun h => by rw [Bd.returns] at h; cases h)
  refine ⟨_, _, k3 _ ?_, hrun, hended, _, _, rfl, ?_, ⟨_, rfl⟩, hW, hsame.mono (by decide) (by decide)⟩
  · show Steps p.tables e below (s₁.setTop (mkF m 58 #[.val (.int (1 : Int32))] [(.int (2 : Int32))])) _
    exact retI X0 hx Bd.returns (hb hby d21_58) hr
  · show QNl1 Z  h0 n0 _ s₁.heap _
    rw [e0]
    exact ⟨rfl, N0, rfl⟩
theorem d20_0 : decode jdk_52_method_2_code 0 = .ok (.iload_n 0, 1) := by decide +kernel
theorem d20_1 : decode jdk_52_method_2_code 1 = .ok (.invokestatic 11, 3) := by decide +kernel
theorem d20_4 : decode jdk_52_method_2_code 4 = .ok (.newarray .byte, 2) := by decide +kernel
theorem d20_6 : decode jdk_52_method_2_code 6 = .ok (.areturn, 1) := by decide +kernel
theorem rmNf1_ef (m : MethodId)  : entryFrame m #[(.int (1 : Int32))] 1 = mkF m 0 #[.val (.int (1 : Int32))] [] := by first | (simp [entryFrame, mkF, argsToLocals, Value.category]; done) | rfl
def QNf1 (Z : State)  (h0 : Heap) (n0 : Nat) (v : Option Value) (h : Heap) (L : List Loc) : Prop := ∃ (b : Addr) (k : ClassId), v = some (.ref b) ∧ Fr n0 L ∧ Keep h0 h [] ∧ h0.size ≤ b ∧ Arv Z h b k .byte (2 : Int32) [(.int (0 : Int32)), (.int (0 : Int32))] (.int (0 : Int32))
theorem own_pd7 : parseMethodDescriptor "(I)I" = some ⟨[.int], some .int⟩ := by decide +kernel
set_option maxRecDepth 65536 in
set_option maxHeartbeats 40000000 in
theorem rmNf1 (l : Launch) (Z : State) (a0 : Array Value) (hw : ∀ d ∈ tables_1, d.before a0 Z = true) (ws : List Jvm.Cond)  (h0 : Heap) (n0 : Nat) (Z0 : n0 ≤ h0.size) :
    MetFree l (⟨"java/lang/StringUTF16", "newBytesFor", "(I)[B"⟩ : MethodName) (head1 (Jvm.Cond.code (⟨"java/lang/StringUTF16", "newBytesFor", "(I)[B"⟩ : MethodName) jdk_52_method_2_code 1 (some (.array .byte)) :: ws) ({ frames := 1, cells := 1, slots := 2, locals := 12 } : Room)) (fun aA' U => aA' = #[(.int (1 : Int32))] ∧ Z.Warmed39 U.vm ∧ U.heap = h0) (fun _ _ _ _ _ => True) (fun _ U oO' U' => ∃ vV' L, oO' = .returned vV' ∧ QNf1 Z  h0 n0 vV' U'.heap L ∧ FrameEnd U oO' U' L ({ frames := 1, cells := 1, slots := 2, locals := 12 } : Room).cells ({ frames := 1, cells := 1, slots := 2, locals := 12 } : Room).slots) := by
  refine MetFree.of_bodySF (plainFor_of_name own_pn0) hisR ?_
  intro p e s m args below meth c s₁ Bd hml0 hP hK
  obtain ⟨rfl, hZ, hh⟩ := hP
  have hx := Bd.exec
  have hby := Bd.bytes
  have hml : c.maxLocals = 1 := hml0
  have hown : s.vm.findClass "java/lang/StringUTF16" = some m.cls := findClass_of_methodNamed Bd.named
  have hnm := (name_of_methodNamed Bd.named Bd.method).1
  have X0 : Stand p l e ({ frames := 1, cells := 1, slots := 2, locals := 12 } : Room) s m #[(.int (1 : Int32))] below meth c s₁ [] 0 0 := Stand.of_body Bd
  have e0 : s₁.heap = h0 := by rw [← hh, Bd.state]; rfl
  have N0 := Fr.nil n0
  have K0 : Keep h0 h0 [] := Keep.refl _ _
  have k0 : ∀ t, Steps p.tables e below (s₁.setTop (mkF m 0 #[.val (.int (1 : Int32))] [])) t → Steps p.tables e below (s₁.setTop (entryFrame m #[(.int (1 : Int32))] 1)) t := fun t k => castTop (rmNf1_ef m ) k
  have k1 : ∀ t, Steps p.tables e below (s₁.setTop (mkF m 1 #[.val (.int (1 : Int32))] [(.int (1 : Int32))])) t → Steps p.tables e below (s₁.setTop (entryFrame m #[(.int (1 : Int32))] 1)) t := by
    intro t kt
    refine k0 t ?_
    show Steps p.tables e below (s₁.setTop (mkF m 0 #[.val (.int (1 : Int32))] [])) t
    refine XS.iloadN X0.here hx rfl (hb hby d20_0) rfl ?_
    exact kt
  obtain ⟨_, _, ⟨T2, L2, k2c, n2⟩, -, X2, ⟨Lc2, hQ2, l2, y2, z2⟩, st2⟩ := Jvm.LawKit.callS X0 hx (y := (⟨"java/lang/StringUTF16", "newBytesLength", "(I)I"⟩ : MethodName)) hown (mvT hZ (hw _ (List.mem_of_getElem? (i := 118) rfl))) (mvT hZ (hw _ (List.mem_of_getElem? (i := 119) rfl))) (mvT hZ (hw _ (List.mem_of_getElem? (i := 22) rfl))) (mvT hZ (hw _ (List.mem_of_getElem? (i := 120) rfl))) (by decide) (backOf (W := 0) (rmNl1 l Z a0 hw [] h0 n0 Z0) hZ (hw _ (List.mem_of_getElem? (i := 120) rfl)) (hw _ (List.mem_of_getElem? (i := 22) rfl)) (by decide) (by decide)) (g := (mkF m 1 #[.val (.int (1 : Int32))] [(.int (1 : Int32))])) rfl (by rw [hml]; rfl) (argsL := [(.int (1 : Int32))]) (rest := []) (lenOf own_pd7 rfl) rfl (by show 2 * 0 + _ ≤ _; exact Nat.le_of_eq rfl) (hb hby d20_1) (fun _ _ => ⟨rfl, e0, (by decide : 0 + 0 ≤ _), (by decide : 0 + 0 ≤ _)⟩)
  dsimp only [Pt.U, Pt.locs, Pt.cells, Pt.slots] at X2 l2 y2 z2 st2 hQ2
  subst l2 y2 z2
  obtain ⟨rfl, N2q, e2⟩ := hQ2
  have N2 := Fr.app N0 N2q
  have k3 : ∀ t, Steps p.tables e below (T2.setTop (mkF m 4 #[.val (.int (1 : Int32))] [(.int (2 : Int32))])) t → Steps p.tables e below (s₁.setTop (entryFrame m #[(.int (1 : Int32))] 1)) t := fun t kt => k1 t (st2 t kt)
  obtain ⟨T4, h4, c4, X4, e4, E4, A4, Bx4, st4⟩ := newPE X2 hx hZ (hw _ (List.mem_of_getElem? (i := 24) rfl)) e2 (g := (mkF m 4 #[.val (.int (1 : Int32))] [(.int (2 : Int32))])) rfl (hb hby d20_4) rfl (by decide) (cap := 2) (by decide) (by decide) (by decide) (by decide) (ad := "[B") rfl
  obtain ⟨b4, g4⟩ : ∃ z, z = h0.size := ⟨_, rfl⟩
  rw [← g4] at A4 Bx4 st4
  have g_b4 : n0 ≤ b4 := Nat.le_trans Z0 (Nat.le_of_eq g4.symm)
  have sz_b4 : h0.size ≤ b4 := Nat.le_trans K0.1 (Nat.le_of_eq g4.symm)
  have Z4 : n0 ≤ h4.size := Nat.le_trans Z0 E4.1
  have K4 : Keep h0 h4 [] := K0.ext E4
  have F5 : Arv Z h4 b4 c4 .byte (2 : Int32) [(.int (0 : Int32)), (.int (0 : Int32))] (.int (0 : Int32)) := (Arv.new A4 (by decide)).pad (pad_rep [] (.int (0 : Int32)) 2)
  have k6 : ∀ t, Steps p.tables e below (T4.setTop (mkF m 6 #[.val (.int (1 : Int32))] [(.ref b4)])) t → Steps p.tables e below (s₁.setTop (entryFrame m #[(.int (1 : Int32))] 1)) t := fun t kt => k3 t (st4 t kt)
  obtain ⟨fs, hr, hrun, hended, hW, hsame⟩ := X4.leave (v := some (.ref b4)) (fun h => by rw [Bd.returns] at h; cases h)
  refine ⟨_, _, k6 _ ?_, hrun, hended, _, _, rfl, ?_, ⟨_, rfl⟩, hW, hsame.mono (by decide) (by decide)⟩
  · show Steps p.tables e below (T4.setTop (mkF m 6 #[.val (.int (1 : Int32))] [(.ref b4)])) _
    jvm_step X4.here [X4.here.top, hx, (hb hby d20_6), X4.method', Bd.returns, Value.isRef, FieldType.isReference]
    first | (intro acts; rw [hr _ acts rfl rfl rfl]) | rw [hr _ _ rfl rfl rfl]
    exact Steps.refl _
  · show QNf1 Z  h0 n0 _ T4.heap _
    rw [e4]
    exact ⟨b4, c4, rfl, N2, K4, sz_b4, F5⟩
theorem rmNl2_ef (m : MethodId)  : entryFrame m #[(.int (2 : Int32))] 1 = mkF m 0 #[.val (.int (2 : Int32))] [] := by first | (simp [entryFrame, mkF, argsToLocals, Value.category]; done) | rfl
def QNl2 (Z : State)  (h0 : Heap) (n0 : Nat) (v : Option Value) (h : Heap) (L : List Loc) : Prop := v = some (.int (4 : Int32)) ∧ Fr n0 L ∧ h = h0
set_option maxRecDepth 65536 in
set_option maxHeartbeats 40000000 in
theorem rmNl2 (l : Launch) (Z : State) (a0 : Array Value) (hw : ∀ d ∈ tables_1, d.before a0 Z = true) (ws : List Jvm.Cond)  (h0 : Heap) (n0 : Nat) (Z0 : n0 ≤ h0.size) :
    MetFree l (⟨"java/lang/StringUTF16", "newBytesLength", "(I)I"⟩ : MethodName) (head1 (Jvm.Cond.code (⟨"java/lang/StringUTF16", "newBytesLength", "(I)I"⟩ : MethodName) jdk_52_method_3_code 1 (some .int) :: ws) ({ frames := 0, cells := 0, slots := 0, locals := 0 } : Room)) (fun aA' U => aA' = #[(.int (2 : Int32))] ∧ Z.Warmed39 U.vm ∧ U.heap = h0) (fun _ _ _ _ _ => True) (fun _ U oO' U' => ∃ vV' L, oO' = .returned vV' ∧ QNl2 Z  h0 n0 vV' U'.heap L ∧ FrameEnd U oO' U' L ({ frames := 0, cells := 0, slots := 0, locals := 0 } : Room).cells ({ frames := 0, cells := 0, slots := 0, locals := 0 } : Room).slots) := by
  refine MetFree.of_bodySF (plainFor_of_name own_pn0) hisR ?_
  intro p e s m args below meth c s₁ Bd hml0 hP hK
  obtain ⟨rfl, hZ, hh⟩ := hP
  have hx := Bd.exec
  have hby := Bd.bytes
  have hml : c.maxLocals = 1 := hml0
  have hown : s.vm.findClass "java/lang/StringUTF16" = some m.cls := findClass_of_methodNamed Bd.named
  have hnm := (name_of_methodNamed Bd.named Bd.method).1
  have X0 : Stand p l e ({ frames := 0, cells := 0, slots := 0, locals := 0 } : Room) s m #[(.int (2 : Int32))] below meth c s₁ [] 0 0 := Stand.of_body Bd
  have e0 : s₁.heap = h0 := by rw [← hh, Bd.state]; rfl
  have N0 := Fr.nil n0
  have K0 : Keep h0 h0 [] := Keep.refl _ _
  have k0 : ∀ t, Steps p.tables e below (s₁.setTop (mkF m 0 #[.val (.int (2 : Int32))] [])) t → Steps p.tables e below (s₁.setTop (entryFrame m #[(.int (2 : Int32))] 1)) t := fun t k => castTop (rmNl2_ef m ) k
  have hc1_1 : ¬ ((2 : Int32) < (0 : Int32)) := by decide
  have hc15_2 : (2 : Int32) < (1073741823 : Int32) := by decide
  have k3 : ∀ t, Steps p.tables e below (s₁.setTop (mkF m 58 #[.val (.int (2 : Int32))] [(.int (4 : Int32))])) t → Steps p.tables e below (s₁.setTop (entryFrame m #[(.int (2 : Int32))] 1)) t := by
    intro t kt
    refine k0 t ?_
    show Steps p.tables e below (s₁.setTop (mkF m 0 #[.val (.int (2 : Int32))] [])) t
    refine XS.iloadN X0.here hx rfl (hb hby d21_0) rfl ?_
    show Steps p.tables e below (s₁.setTop (mkF m 1 #[.val (.int (2 : Int32))] [(.int (2 : Int32))])) t
    refine XS.ifYes X0.here hx rfl (pc0 := 1) (pc' := 12) rfl (hb hby d21_1) rfl ((if0 _ _).trans (flt hc1_1).2.1) (by decide) (by decide) ?_
    show Steps p.tables e below (s₁.setTop (mkF m 12 #[.val (.int (2 : Int32))] [])) t
    refine XS.iloadN X0.here hx rfl (hb hby d21_12) rfl ?_
    show Steps p.tables e below (s₁.setTop (mkF m 13 #[.val (.int (2 : Int32))] [(.int (2 : Int32))])) t
    refine X0.ldcInt hx hown (mvT hZ (hw _ (List.mem_of_getElem? (i := 121) rfl))) (g := (mkF m 13 #[.val (.int (2 : Int32))] [(.int (2 : Int32))])) rfl (hb hby d21_13) _ ?_
    show Steps p.tables e below (s₁.setTop (mkF m 15 #[.val (.int (2 : Int32))] [(.int (1073741823 : Int32)), (.int (2 : Int32))])) t
    refine XS.icmpYes X0.here hx rfl (pc0 := 15) (pc' := 55) rfl (hb hby d21_15) rfl (tlt hc15_2).1 (by decide) (by decide) ?_
    show Steps p.tables e below (s₁.setTop (mkF m 55 #[.val (.int (2 : Int32))] [])) t
    refine XS.iloadN X0.here hx rfl (hb hby d21_55) rfl ?_
    show Steps p.tables e below (s₁.setTop (mkF m 56 #[.val (.int (2 : Int32))] [(.int (2 : Int32))])) t
    refine XS.iconst X0.here hx rfl (hb hby d21_56) ?_
    show Steps p.tables e below (s₁.setTop (mkF m 57 #[.val (.int (2 : Int32))] [(.int (1 : Int32)), (.int (2 : Int32))])) t
    refine XS.ishl X0.here hx rfl (hb hby d21_57) rfl ?_
    exact kt
  obtain ⟨fs, hr, hrun, hended, hW, hsame⟩ := X0.leave (v := some (.int (4 : Int32))) (fun h => by rw [Bd.returns] at h; cases h)
  refine ⟨_, _, k3 _ ?_, hrun, hended, _, _, rfl, ?_, ⟨_, rfl⟩, hW, hsame.mono (by decide) (by decide)⟩
  · show Steps p.tables e below (s₁.setTop (mkF m 58 #[.val (.int (2 : Int32))] [(.int (4 : Int32))])) _
    exact retI X0 hx Bd.returns (hb hby d21_58) hr
  · show QNl2 Z  h0 n0 _ s₁.heap _
    rw [e0]
    exact ⟨rfl, N0, rfl⟩
theorem rmNf2_ef (m : MethodId)  : entryFrame m #[(.int (2 : Int32))] 1 = mkF m 0 #[.val (.int (2 : Int32))] [] := by first | (simp [entryFrame, mkF, argsToLocals, Value.category]; done) | rfl
def QNf2 (Z : State)  (h0 : Heap) (n0 : Nat) (v : Option Value) (h : Heap) (L : List Loc) : Prop := ∃ (b : Addr) (k : ClassId), v = some (.ref b) ∧ Fr n0 L ∧ Keep h0 h [] ∧ h0.size ≤ b ∧ Arv Z h b k .byte (4 : Int32) [(.int (0 : Int32)), (.int (0 : Int32)), (.int (0 : Int32)), (.int (0 : Int32))] (.int (0 : Int32))
set_option maxRecDepth 65536 in
set_option maxHeartbeats 40000000 in
theorem rmNf2 (l : Launch) (Z : State) (a0 : Array Value) (hw : ∀ d ∈ tables_1, d.before a0 Z = true) (ws : List Jvm.Cond)  (h0 : Heap) (n0 : Nat) (Z0 : n0 ≤ h0.size) :
    MetFree l (⟨"java/lang/StringUTF16", "newBytesFor", "(I)[B"⟩ : MethodName) (head1 (Jvm.Cond.code (⟨"java/lang/StringUTF16", "newBytesFor", "(I)[B"⟩ : MethodName) jdk_52_method_2_code 1 (some (.array .byte)) :: ws) ({ frames := 1, cells := 1, slots := 4, locals := 12 } : Room)) (fun aA' U => aA' = #[(.int (2 : Int32))] ∧ Z.Warmed39 U.vm ∧ U.heap = h0) (fun _ _ _ _ _ => True) (fun _ U oO' U' => ∃ vV' L, oO' = .returned vV' ∧ QNf2 Z  h0 n0 vV' U'.heap L ∧ FrameEnd U oO' U' L ({ frames := 1, cells := 1, slots := 4, locals := 12 } : Room).cells ({ frames := 1, cells := 1, slots := 4, locals := 12 } : Room).slots) := by
  refine MetFree.of_bodySF (plainFor_of_name own_pn0) hisR ?_
  intro p e s m args below meth c s₁ Bd hml0 hP hK
  obtain ⟨rfl, hZ, hh⟩ := hP
  have hx := Bd.exec
  have hby := Bd.bytes
  have hml : c.maxLocals = 1 := hml0
  have hown : s.vm.findClass "java/lang/StringUTF16" = some m.cls := findClass_of_methodNamed Bd.named
  have hnm := (name_of_methodNamed Bd.named Bd.method).1
  have X0 : Stand p l e ({ frames := 1, cells := 1, slots := 4, locals := 12 } : Room) s m #[(.int (2 : Int32))] below meth c s₁ [] 0 0 := Stand.of_body Bd
  have e0 : s₁.heap = h0 := by rw [← hh, Bd.state]; rfl
  have N0 := Fr.nil n0
  have K0 : Keep h0 h0 [] := Keep.refl _ _
  have k0 : ∀ t, Steps p.tables e below (s₁.setTop (mkF m 0 #[.val (.int (2 : Int32))] [])) t → Steps p.tables e below (s₁.setTop (entryFrame m #[(.int (2 : Int32))] 1)) t := fun t k => castTop (rmNf2_ef m ) k
  have k1 : ∀ t, Steps p.tables e below (s₁.setTop (mkF m 1 #[.val (.int (2 : Int32))] [(.int (2 : Int32))])) t → Steps p.tables e below (s₁.setTop (entryFrame m #[(.int (2 : Int32))] 1)) t := by
    intro t kt
    refine k0 t ?_
    show Steps p.tables e below (s₁.setTop (mkF m 0 #[.val (.int (2 : Int32))] [])) t
    refine XS.iloadN X0.here hx rfl (hb hby d20_0) rfl ?_
    exact kt
  obtain ⟨_, _, ⟨T2, L2, k2c, n2⟩, -, X2, ⟨Lc2, hQ2, l2, y2, z2⟩, st2⟩ := Jvm.LawKit.callS X0 hx (y := (⟨"java/lang/StringUTF16", "newBytesLength", "(I)I"⟩ : MethodName)) hown (mvT hZ (hw _ (List.mem_of_getElem? (i := 118) rfl))) (mvT hZ (hw _ (List.mem_of_getElem? (i := 119) rfl))) (mvT hZ (hw _ (List.mem_of_getElem? (i := 22) rfl))) (mvT hZ (hw _ (List.mem_of_getElem? (i := 120) rfl))) (by decide) (backOf (W := 0) (rmNl2 l Z a0 hw [] h0 n0 Z0) hZ (hw _ (List.mem_of_getElem? (i := 120) rfl)) (hw _ (List.mem_of_getElem? (i := 22) rfl)) (by decide) (by decide)) (g := (mkF m 1 #[.val (.int (2 : Int32))] [(.int (2 : Int32))])) rfl (by rw [hml]; rfl) (argsL := [(.int (2 : Int32))]) (rest := []) (lenOf own_pd7 rfl) rfl (by show 2 * 0 + _ ≤ _; exact Nat.le_of_eq rfl) (hb hby d20_1) (fun _ _ => ⟨rfl, e0, (by decide : 0 + 0 ≤ _), (by decide : 0 + 0 ≤ _)⟩)
  dsimp only [Pt.U, Pt.locs, Pt.cells, Pt.slots] at X2 l2 y2 z2 st2 hQ2
  subst l2 y2 z2
  obtain ⟨rfl, N2q, e2⟩ := hQ2
  have N2 := Fr.app N0 N2q
  have k3 : ∀ t, Steps p.tables e below (T2.setTop (mkF m 4 #[.val (.int (2 : Int32))] [(.int (4 : Int32))])) t → Steps p.tables e below (s₁.setTop (entryFrame m #[(.int (2 : Int32))] 1)) t := fun t kt => k1 t (st2 t kt)
  obtain ⟨T4, h4, c4, X4, e4, E4, A4, Bx4, st4⟩ := newPE X2 hx hZ (hw _ (List.mem_of_getElem? (i := 24) rfl)) e2 (g := (mkF m 4 #[.val (.int (2 : Int32))] [(.int (4 : Int32))])) rfl (hb hby d20_4) rfl (by decide) (cap := 4) (by decide) (by decide) (by decide) (by decide) (ad := "[B") rfl
  obtain ⟨b4, g4⟩ : ∃ z, z = h0.size := ⟨_, rfl⟩
  rw [← g4] at A4 Bx4 st4
  have g_b4 : n0 ≤ b4 := Nat.le_trans Z0 (Nat.le_of_eq g4.symm)
  have sz_b4 : h0.size ≤ b4 := Nat.le_trans K0.1 (Nat.le_of_eq g4.symm)
  have Z4 : n0 ≤ h4.size := Nat.le_trans Z0 E4.1
  have K4 : Keep h0 h4 [] := K0.ext E4
  have F5 : Arv Z h4 b4 c4 .byte (4 : Int32) [(.int (0 : Int32)), (.int (0 : Int32)), (.int (0 : Int32)), (.int (0 : Int32))] (.int (0 : Int32)) := (Arv.new A4 (by decide)).pad (pad_rep [] (.int (0 : Int32)) 4)
  have k6 : ∀ t, Steps p.tables e below (T4.setTop (mkF m 6 #[.val (.int (2 : Int32))] [(.ref b4)])) t → Steps p.tables e below (s₁.setTop (entryFrame m #[(.int (2 : Int32))] 1)) t := fun t kt => k3 t (st4 t kt)
  obtain ⟨fs, hr, hrun, hended, hW, hsame⟩ := X4.leave (v := some (.ref b4)) (fun h => by rw [Bd.returns] at h; cases h)
  refine ⟨_, _, k6 _ ?_, hrun, hended, _, _, rfl, ?_, ⟨_, rfl⟩, hW, hsame.mono (by decide) (by decide)⟩
  · show Steps p.tables e below (T4.setTop (mkF m 6 #[.val (.int (2 : Int32))] [(.ref b4)])) _
    jvm_step X4.here [X4.here.top, hx, (hb hby d20_6), X4.method', Bd.returns, Value.isRef, FieldType.isReference]
    first | (intro acts; rw [hr _ acts rfl rfl rfl]) | rw [hr _ _ rfl rfl rfl]
    exact Steps.refl _
  · show QNf2 Z  h0 n0 _ T4.heap _
    rw [e4]
    exact ⟨b4, c4, rfl, N2, K4, sz_b4, F5⟩
theorem d23_0 : decode jdk_29_method_69_code 0 = .ok (.iload_n 0, 1) := by decide +kernel
theorem d23_1 : decode jdk_29_method_69_code 1 = .ok (.iload_n 1, 1) := by decide +kernel
theorem d23_2 : decode jdk_29_method_69_code 2 = .ok (.if_icmp .gt 7, 3) := by decide +kernel
theorem d23_5 : decode jdk_29_method_69_code 5 = .ok (.iload_n 0, 1) := by decide +kernel
theorem d23_6 : decode jdk_29_method_69_code 6 = .ok (.goto 4, 3) := by decide +kernel
theorem d23_9 : decode jdk_29_method_69_code 9 = .ok (.iload_n 1, 1) := by decide +kernel
theorem d23_10 : decode jdk_29_method_69_code 10 = .ok (.ireturn, 1) := by decide +kernel
theorem rmMin_ef (m : MethodId)  : entryFrame m #[(.int (4 : Int32)), (.int (3 : Int32))] 2 = mkF m 0 #[.val (.int (4 : Int32)), .val (.int (3 : Int32))] [] := by first | (simp [entryFrame, mkF, argsToLocals, Value.category]; done) | rfl
def QMin (Z : State)  (h0 : Heap) (n0 : Nat) (v : Option Value) (h : Heap) (L : List Loc) : Prop := v = some (.int (3 : Int32)) ∧ Fr n0 L ∧ h = h0
set_option maxRecDepth 65536 in
set_option maxHeartbeats 40000000 in
theorem rmMin (l : Launch) (Z : State) (a0 : Array Value) (hw : ∀ d ∈ tables_1, d.before a0 Z = true) (ws : List Jvm.Cond)  (h0 : Heap) (n0 : Nat) (Z0 : n0 ≤ h0.size) :
    MetFree l (⟨"java/lang/Math", "min", "(II)I"⟩ : MethodName) (head1 (Jvm.Cond.code (⟨"java/lang/Math", "min", "(II)I"⟩ : MethodName) jdk_29_method_69_code 2 (some .int) :: ws) ({ frames := 0, cells := 0, slots := 0, locals := 0 } : Room)) (fun aA' U => aA' = #[(.int (4 : Int32)), (.int (3 : Int32))] ∧ Z.Warmed39 U.vm ∧ U.heap = h0) (fun _ _ _ _ _ => True) (fun _ U oO' U' => ∃ vV' L, oO' = .returned vV' ∧ QMin Z  h0 n0 vV' U'.heap L ∧ FrameEnd U oO' U' L ({ frames := 0, cells := 0, slots := 0, locals := 0 } : Room).cells ({ frames := 0, cells := 0, slots := 0, locals := 0 } : Room).slots) := by
  refine MetFree.of_bodySF (Jvm.Free.JP.mathPlain rfl (by decide +kernel)) hisR ?_
  intro p e s m args below meth c s₁ Bd hml0 hP hK
  obtain ⟨rfl, hZ, hh⟩ := hP
  have hx := Bd.exec
  have hby := Bd.bytes
  have hml : c.maxLocals = 2 := hml0
  have hown : s.vm.findClass "java/lang/Math" = some m.cls := findClass_of_methodNamed Bd.named
  have hnm := (name_of_methodNamed Bd.named Bd.method).1
  have X0 : Stand p l e ({ frames := 0, cells := 0, slots := 0, locals := 0 } : Room) s m #[(.int (4 : Int32)), (.int (3 : Int32))] below meth c s₁ [] 0 0 := Stand.of_body Bd
  have e0 : s₁.heap = h0 := by rw [← hh, Bd.state]; rfl
  have N0 := Fr.nil n0
  have K0 : Keep h0 h0 [] := Keep.refl _ _
  have k0 : ∀ t, Steps p.tables e below (s₁.setTop (mkF m 0 #[.val (.int (4 : Int32)), .val (.int (3 : Int32))] [])) t → Steps p.tables e below (s₁.setTop (entryFrame m #[(.int (4 : Int32)), (.int (3 : Int32))] 2)) t := fun t k => castTop (rmMin_ef m ) k
  have hc2_1 : (3 : Int32) < (4 : Int32) := by decide
  have k2 : ∀ t, Steps p.tables e below (s₁.setTop (mkF m 10 #[.val (.int (4 : Int32)), .val (.int (3 : Int32))] [(.int (3 : Int32))])) t → Steps p.tables e below (s₁.setTop (entryFrame m #[(.int (4 : Int32)), (.int (3 : Int32))] 2)) t := by
    intro t kt
    refine k0 t ?_
    show Steps p.tables e below (s₁.setTop (mkF m 0 #[.val (.int (4 : Int32)), .val (.int (3 : Int32))] [])) t
    refine XS.iloadN X0.here hx rfl (hb hby d23_0) rfl ?_
    show Steps p.tables e below (s₁.setTop (mkF m 1 #[.val (.int (4 : Int32)), .val (.int (3 : Int32))] [(.int (4 : Int32))])) t
    refine XS.iloadN X0.here hx rfl (hb hby d23_1) rfl ?_
    show Steps p.tables e below (s₁.setTop (mkF m 2 #[.val (.int (4 : Int32)), .val (.int (3 : Int32))] [(.int (3 : Int32)), (.int (4 : Int32))])) t
    refine XS.icmpYes X0.here hx rfl (pc0 := 2) (pc' := 9) rfl (hb hby d23_2) rfl (tlt hc2_1).2.2.1 (by decide) (by decide) ?_
    show Steps p.tables e below (s₁.setTop (mkF m 9 #[.val (.int (4 : Int32)), .val (.int (3 : Int32))] [])) t
    refine XS.iloadN X0.here hx rfl (hb hby d23_9) rfl ?_
    exact kt
  obtain ⟨fs, hr, hrun, hended, hW, hsame⟩ := X0.leave (v := some (.int (3 : Int32))) (fun h => by rw [Bd.returns] at h; cases h)
  refine ⟨_, _, k2 _ ?_, hrun, hended, _, _, rfl, ?_, ⟨_, rfl⟩, hW, hsame.mono (by decide) (by decide)⟩
  · show Steps p.tables e below (s₁.setTop (mkF m 10 #[.val (.int (4 : Int32)), .val (.int (3 : Int32))] [(.int (3 : Int32))])) _
    exact retI X0 hx Bd.returns (hb hby d23_10) hr
  · show QMin Z  h0 n0 _ s₁.heap _
    rw [e0]
    exact ⟨rfl, N0, rfl⟩
theorem d22_0 : decode jdk_65_method_121_code 0 = .ok (.iload_n 1, 1) := by decide +kernel
theorem d22_1 : decode jdk_65_method_121_code 1 = .ok (.aload_n 0, 1) := by decide +kernel
theorem d22_2 : decode jdk_65_method_121_code 2 = .ok (.arraylength, 1) := by decide +kernel
theorem d22_3 : decode jdk_65_method_121_code 3 = .ok (.if_icmp .ne 11, 3) := by decide +kernel
theorem d22_6 : decode jdk_65_method_121_code 6 = .ok (.aload_n 0, 1) := by decide +kernel
theorem d22_7 : decode jdk_65_method_121_code 7 = .ok (.invokevirtual 310, 3) := by decide +kernel
theorem d22_10 : decode jdk_65_method_121_code 10 = .ok (.checkcast 311, 3) := by decide +kernel
theorem d22_13 : decode jdk_65_method_121_code 13 = .ok (.areturn, 1) := by decide +kernel
theorem d22_14 : decode jdk_65_method_121_code 14 = .ok (.iload_n 1, 1) := by decide +kernel
theorem d22_15 : decode jdk_65_method_121_code 15 = .ok (.newarray .byte, 2) := by decide +kernel
theorem d22_17 : decode jdk_65_method_121_code 17 = .ok (.astore_n 2, 1) := by decide +kernel
theorem d22_18 : decode jdk_65_method_121_code 18 = .ok (.aload_n 0, 1) := by decide +kernel
theorem d22_19 : decode jdk_65_method_121_code 19 = .ok (.iconst 0, 1) := by decide +kernel
theorem d22_20 : decode jdk_65_method_121_code 20 = .ok (.aload_n 2, 1) := by decide +kernel
theorem d22_21 : decode jdk_65_method_121_code 21 = .ok (.iconst 0, 1) := by decide +kernel
theorem d22_22 : decode jdk_65_method_121_code 22 = .ok (.aload_n 0, 1) := by decide +kernel
theorem d22_23 : decode jdk_65_method_121_code 23 = .ok (.arraylength, 1) := by decide +kernel
theorem d22_24 : decode jdk_65_method_121_code 24 = .ok (.iload_n 1, 1) := by decide +kernel
theorem d22_25 : decode jdk_65_method_121_code 25 = .ok (.invokestatic 304, 3) := by decide +kernel
theorem d22_28 : decode jdk_65_method_121_code 28 = .ok (.invokestatic 150, 3) := by decide +kernel
theorem d22_31 : decode jdk_65_method_121_code 31 = .ok (.aload_n 2, 1) := by decide +kernel
theorem d22_32 : decode jdk_65_method_121_code 32 = .ok (.areturn, 1) := by decide +kernel
theorem own_pn6 : plainName "java/util/Arrays" = true := by first | (simp [plainName, overriddenIn]; done) | decide +kernel
theorem rmCf_ef (m : MethodId) (x0 : Addr) : entryFrame m #[(.ref x0), (.int (3 : Int32))] 3 = mkF m 0 #[.val (.ref x0), .val (.int (3 : Int32)), .unset] [] := by first | (simp [entryFrame, mkF, argsToLocals, Value.category]; done) | rfl
def QCf (Z : State) (b : Addr) (kb : ClassId) (y0' : Int32) (y1' : Int32) (y2' : Int32) (y3' : Int32) (h0 : Heap) (n0 : Nat) (v : Option Value) (h : Heap) (L : List Loc) : Prop := ∃ r : Addr, v = some (.ref r) ∧ Fr n0 L ∧ Keep h0 h [] ∧ h0.size ≤ r
theorem own_pd8 : parseMethodDescriptor "(II)I" = some ⟨[.int, .int], some .int⟩ := by decide +kernel
set_option maxRecDepth 65536 in
set_option maxHeartbeats 40000000 in
theorem rmCf (l : Launch) (Z : State) (a0 : Array Value) (hw : ∀ d ∈ tables_1, d.before a0 Z = true) (ws : List Jvm.Cond) (b : Addr) (kb : ClassId) (y0' : Int32) (y1' : Int32) (y2' : Int32) (y3' : Int32) (h0 : Heap) (n0 : Nat) (Z0 : n0 ≤ h0.size) (Ab : Arv Z h0 b kb .byte (4 : Int32) [(.int y0'), (.int y1'), (.int y2'), (.int y3')] (.int (0 : Int32))) :
    MetFree l (⟨"java/util/Arrays", "copyOf", "([BI)[B"⟩ : MethodName) (head1 (Jvm.Cond.code (⟨"java/util/Arrays", "copyOf", "([BI)[B"⟩ : MethodName) jdk_65_method_121_code 3 (some (.array .byte)) :: ws) ({ frames := 1, cells := 1, slots := 3, locals := 40 } : Room)) (fun aA' U => aA' = #[(.ref b), (.int (3 : Int32))] ∧ Z.Warmed39 U.vm ∧ U.heap = h0) (fun _ _ _ _ _ => True) (fun _ U oO' U' => ∃ vV' L, oO' = .returned vV' ∧ QCf Z b kb y0' y1' y2' y3' h0 n0 vV' U'.heap L ∧ FrameEnd U oO' U' L ({ frames := 1, cells := 1, slots := 3, locals := 40 } : Room).cells ({ frames := 1, cells := 1, slots := 3, locals := 40 } : Room).slots) := by
  refine MetFree.of_bodySF (plainFor_of_name own_pn6) hisR ?_
  intro p e s m args below meth c s₁ Bd hml0 hP hK
  obtain ⟨rfl, hZ, hh⟩ := hP
  have hx := Bd.exec
  have hby := Bd.bytes
  have hml : c.maxLocals = 3 := hml0
  have hown : s.vm.findClass "java/util/Arrays" = some m.cls := findClass_of_methodNamed Bd.named
  have hnm := (name_of_methodNamed Bd.named Bd.method).1
  have X0 : Stand p l e ({ frames := 1, cells := 1, slots := 3, locals := 40 } : Room) s m #[(.ref b), (.int (3 : Int32))] below meth c s₁ [] 0 0 := Stand.of_body Bd
  have e0 : s₁.heap = h0 := by rw [← hh, Bd.state]; rfl
  have N0 := Fr.nil n0
  have K0 : Keep h0 h0 [] := Keep.refl _ _
  have k0 : ∀ t, Steps p.tables e below (s₁.setTop (mkF m 0 #[.val (.ref b), .val (.int (3 : Int32)), .unset] [])) t → Steps p.tables e below (s₁.setTop (entryFrame m #[(.ref b), (.int (3 : Int32))] 3)) t := fun t k => castTop (rmCf_ef m (b)) k
  have k1 : ∀ t, Steps p.tables e below (s₁.setTop (mkF m 2 #[.val (.ref b), .val (.int (3 : Int32)), .unset] [(.ref b), (.int (3 : Int32))])) t → Steps p.tables e below (s₁.setTop (entryFrame m #[(.ref b), (.int (3 : Int32))] 3)) t := by
    intro t kt
    refine k0 t ?_
    show Steps p.tables e below (s₁.setTop (mkF m 0 #[.val (.ref b), .val (.int (3 : Int32)), .unset] [])) t
    refine XS.iloadN X0.here hx rfl (hb hby d22_0) rfl ?_
    show Steps p.tables e below (s₁.setTop (mkF m 1 #[.val (.ref b), .val (.int (3 : Int32)), .unset] [(.int (3 : Int32))])) t
    refine XS.aloadN X0.here hx rfl (hb hby d22_1) rfl rfl ?_
    exact kt
  obtain ⟨cl2, Ar2, -, S2, M2, -, -⟩ := id Ab
  have k3 : ∀ t, Steps p.tables e below (s₁.setTop (mkF m 3 #[.val (.ref b), .val (.int (3 : Int32)), .unset] [(.int (4 : Int32)), (.int (3 : Int32))])) t → Steps p.tables e below (s₁.setTop (entryFrame m #[(.ref b), (.int (3 : Int32))] 3)) t := fun t kt => k1 t (X0.arraylength hx (by rw [e0]; exact Ar2.1) (State.isArrayOf_alike hZ.alike Ar2.2.1) (g := (mkF m 2 #[.val (.ref b), .val (.int (3 : Int32)), .unset] [(.ref b), (.int (3 : Int32))])) rfl rfl (hb hby d22_2) t (by rw [len_of S2 M2]; exact kt))
  have hc3_4 : ¬ ((3 : Int32) = (4 : Int32)) := by decide
  have k5 : ∀ t, Steps p.tables e below (s₁.setTop (mkF m 15 #[.val (.ref b), .val (.int (3 : Int32)), .unset] [(.int (3 : Int32))])) t → Steps p.tables e below (s₁.setTop (entryFrame m #[(.ref b), (.int (3 : Int32))] 3)) t := by
    intro t kt
    refine k3 t ?_
    show Steps p.tables e below (s₁.setTop (mkF m 3 #[.val (.ref b), .val (.int (3 : Int32)), .unset] [(.int (4 : Int32)), (.int (3 : Int32))])) t
    refine XS.icmpYes X0.here hx rfl (pc0 := 3) (pc' := 14) rfl (hb hby d22_3) rfl (feq hc3_4).2 (by decide) (by decide) ?_
    show Steps p.tables e below (s₁.setTop (mkF m 14 #[.val (.ref b), .val (.int (3 : Int32)), .unset] [])) t
    refine XS.iloadN X0.here hx rfl (hb hby d22_14) rfl ?_
    exact kt
  obtain ⟨T6, h6, c6, X6, e6, E6, A6, Bx6, st6⟩ := newPE X0 hx hZ (hw _ (List.mem_of_getElem? (i := 24) rfl)) e0 (g := (mkF m 15 #[.val (.ref b), .val (.int (3 : Int32)), .unset] [(.int (3 : Int32))])) rfl (hb hby d22_15) rfl (by decide) (cap := 3) (by decide) (by decide) (by decide) (by decide) (ad := "[B") rfl
  obtain ⟨b6, g6⟩ : ∃ z, z = h0.size := ⟨_, rfl⟩
  rw [← g6] at A6 Bx6 st6
  have g_b6 : n0 ≤ b6 := Nat.le_trans Z0 (Nat.le_of_eq g6.symm)
  have sz_b6 : h0.size ≤ b6 := Nat.le_trans K0.1 (Nat.le_of_eq g6.symm)
  have ne7 : b ≠ b6 := Nat.ne_of_lt (Nat.lt_of_lt_of_le Ab.lt (Nat.le_of_eq g6.symm))
  have F8 := Ab.ext E6
  have Z6 : n0 ≤ h6.size := Nat.le_trans Z0 E6.1
  have K6 : Keep h0 h6 [] := K0.ext E6
  have F9 : Arv Z h6 b6 c6 .byte (3 : Int32) [(.int (0 : Int32)), (.int (0 : Int32)), (.int (0 : Int32))] (.int (0 : Int32)) := (Arv.new A6 (by decide)).pad (pad_rep [] (.int (0 : Int32)) 3)
  have k10 : ∀ t, Steps p.tables e below (T6.setTop (mkF m 17 #[.val (.ref b), .val (.int (3 : Int32)), .unset] [(.ref b6)])) t → Steps p.tables e below (s₁.setTop (entryFrame m #[(.ref b), (.int (3 : Int32))] 3)) t := fun t kt => k5 t (st6 t kt)
  have k11 : ∀ t, Steps p.tables e below (T6.setTop (mkF m 23 #[.val (.ref b), .val (.int (3 : Int32)), .val (.ref b6)] [(.ref b), (.int (0 : Int32)), (.ref b6), (.int (0 : Int32)), (.ref b)])) t → Steps p.tables e below (s₁.setTop (entryFrame m #[(.ref b), (.int (3 : Int32))] 3)) t := by
    intro t kt
    refine k10 t ?_
    show Steps p.tables e below (T6.setTop (mkF m 17 #[.val (.ref b), .val (.int (3 : Int32)), .unset] [(.ref b6)])) t
    refine XS.astoreN X6.here hx rfl (hb hby d22_17) rfl rfl (l' := #[.val (.ref b), .val (.int (3 : Int32)), .val (.ref b6)]) rfl ?_
    show Steps p.tables e below (T6.setTop (mkF m 18 #[.val (.ref b), .val (.int (3 : Int32)), .val (.ref b6)] [])) t
    refine XS.aloadN X6.here hx rfl (hb hby d22_18) rfl rfl ?_
    show Steps p.tables e below (T6.setTop (mkF m 19 #[.val (.ref b), .val (.int (3 : Int32)), .val (.ref b6)] [(.ref b)])) t
    refine XS.iconst X6.here hx rfl (hb hby d22_19) ?_
    show Steps p.tables e below (T6.setTop (mkF m 20 #[.val (.ref b), .val (.int (3 : Int32)), .val (.ref b6)] [(.int (0 : Int32)), (.ref b)])) t
    refine XS.aloadN X6.here hx rfl (hb hby d22_20) rfl rfl ?_
    show Steps p.tables e below (T6.setTop (mkF m 21 #[.val (.ref b), .val (.int (3 : Int32)), .val (.ref b6)] [(.ref b6), (.int (0 : Int32)), (.ref b)])) t
    refine XS.iconst X6.here hx rfl (hb hby d22_21) ?_
    show Steps p.tables e below (T6.setTop (mkF m 22 #[.val (.ref b), .val (.int (3 : Int32)), .val (.ref b6)] [(.int (0 : Int32)), (.ref b6), (.int (0 : Int32)), (.ref b)])) t
    refine XS.aloadN X6.here hx rfl (hb hby d22_22) rfl rfl ?_
    exact kt
  obtain ⟨cl12, Ar12, -, S12, M12, -, -⟩ := id F8
  have k13 : ∀ t, Steps p.tables e below (T6.setTop (mkF m 24 #[.val (.ref b), .val (.int (3 : Int32)), .val (.ref b6)] [(.int (4 : Int32)), (.int (0 : Int32)), (.ref b6), (.int (0 : Int32)), (.ref b)])) t → Steps p.tables e below (s₁.setTop (entryFrame m #[(.ref b), (.int (3 : Int32))] 3)) t := fun t kt => k11 t (X6.arraylength hx (by rw [e6]; exact Ar12.1) (State.isArrayOf_alike hZ.alike Ar12.2.1) (g := (mkF m 23 #[.val (.ref b), .val (.int (3 : Int32)), .val (.ref b6)] [(.ref b), (.int (0 : Int32)), (.ref b6), (.int (0 : Int32)), (.ref b)])) rfl rfl (hb hby d22_23) t (by rw [len_of S12 M12]; exact kt))
  have k14 : ∀ t, Steps p.tables e below (T6.setTop (mkF m 25 #[.val (.ref b), .val (.int (3 : Int32)), .val (.ref b6)] [(.int (3 : Int32)), (.int (4 : Int32)), (.int (0 : Int32)), (.ref b6), (.int (0 : Int32)), (.ref b)])) t → Steps p.tables e below (s₁.setTop (entryFrame m #[(.ref b), (.int (3 : Int32))] 3)) t := by
    intro t kt
    refine k13 t ?_
    show Steps p.tables e below (T6.setTop (mkF m 24 #[.val (.ref b), .val (.int (3 : Int32)), .val (.ref b6)] [(.int (4 : Int32)), (.int (0 : Int32)), (.ref b6), (.int (0 : Int32)), (.ref b)])) t
    refine XS.iloadN X6.here hx rfl (hb hby d22_24) rfl ?_
    exact kt
  obtain ⟨_, _, ⟨T15, L15, k15c, n15⟩, -, X15, ⟨Lc15, hQ15, l15, y15, z15⟩, st15⟩ := Jvm.LawKit.callS X6 hx (y := (⟨"java/lang/Math", "min", "(II)I"⟩ : MethodName)) hown (mvT hZ (hw _ (List.mem_of_getElem? (i := 126) rfl))) (mvT hZ (hw _ (List.mem_of_getElem? (i := 127) rfl))) (mvT hZ (hw _ (List.mem_of_getElem? (i := 128) rfl))) (mvT hZ (hw _ (List.mem_of_getElem? (i := 129) rfl))) (by decide) (backOf (W := 4) (rmMin l Z a0 hw [] h6 n0 Z6) hZ (hw _ (List.mem_of_getElem? (i := 129) rfl)) (hw _ (List.mem_of_getElem? (i := 128) rfl)) (by decide) (by decide)) (g := (mkF m 25 #[.val (.ref b), .val (.int (3 : Int32)), .val (.ref b6)] [(.int (3 : Int32)), (.int (4 : Int32)), (.int (0 : Int32)), (.ref b6), (.int (0 : Int32)), (.ref b)])) rfl (by rw [hml]; rfl) (argsL := [(.int (4 : Int32)), (.int (3 : Int32))]) (rest := [(.int (0 : Int32)), (.ref b6), (.int (0 : Int32)), (.ref b)]) (lenOf own_pd8 rfl) rfl (by show 2 * 0 + _ ≤ _; exact Nat.le_of_eq rfl) (hb hby d22_25) (fun _ _ => ⟨rfl, e6, (by decide : 1 + 0 ≤ _), (by decide : 3 + 0 ≤ _)⟩)
  dsimp only [Pt.U, Pt.locs, Pt.cells, Pt.slots] at X15 l15 y15 z15 st15 hQ15
  subst l15 y15 z15
  obtain ⟨rfl, N15q, e15⟩ := hQ15
  have N15 := Fr.app N0 N15q
  have k16 : ∀ t, Steps p.tables e below (T15.setTop (mkF m 28 #[.val (.ref b), .val (.int (3 : Int32)), .val (.ref b6)] [(.int (3 : Int32)), (.int (0 : Int32)), (.ref b6), (.int (0 : Int32)), (.ref b)])) t → Steps p.tables e below (s₁.setTop (entryFrame m #[(.ref b), (.int (3 : Int32))] 3)) t := fun t kt => k14 t (st15 t kt)
  obtain ⟨T17, h17, lo17, X17, e17, N17, Kk17, Va17, st17⟩ := cpA X15 hx hZ hown (hw _ (List.mem_of_getElem? (i := 130) rfl)) (hw _ (List.mem_of_getElem? (i := 133) rfl)) (hw _ (List.mem_of_getElem? (i := 131) rfl)) (hw _ (List.mem_of_getElem? (i := 132) rfl)) e15 F8 F9 (us := [(.int y0'), (.int y1'), (.int y2')]) (Or.inl ⟨rfl, rfl⟩) (by decide) (by decide) (by decide) (by decide) (by decide) rfl (by decide) N15 g_b6 (g := (mkF m 28 #[.val (.ref b), .val (.int (3 : Int32)), .val (.ref b6)] [(.int (3 : Int32)), (.int (0 : Int32)), (.ref b6), (.int (0 : Int32)), (.ref b)])) rfl (by rw [hml]; rfl) rfl (hb hby d22_28) (by decide) (W := 0) (by show 2 * 0 + _ ≤ _; exact Nat.le_of_eq rfl) (by decide)
  have Kh17 : Keep h6 h17 [b6] := Kk17
  have F18 := Bx6.keep Kh17
  have Z17 : n0 ≤ h17.size := Nat.le_trans Z6 Kh17.1
  have K17 : Keep h0 h17 [] := K6.trans Kh17 (allS (Or.inr sz_b6) all0)
  have k19 : ∀ t, Steps p.tables e below (T17.setTop (mkF m 31 #[.val (.ref b), .val (.int (3 : Int32)), .val (.ref b6)] [])) t → Steps p.tables e below (s₁.setTop (entryFrame m #[(.ref b), (.int (3 : Int32))] 3)) t := fun t kt => k16 t (st17 t kt)
  have k20 : ∀ t, Steps p.tables e below (T17.setTop (mkF m 32 #[.val (.ref b), .val (.int (3 : Int32)), .val (.ref b6)] [(.ref b6)])) t → Steps p.tables e below (s₁.setTop (entryFrame m #[(.ref b), (.int (3 : Int32))] 3)) t := by
    intro t kt
    refine k19 t ?_
    show Steps p.tables e below (T17.setTop (mkF m 31 #[.val (.ref b), .val (.int (3 : Int32)), .val (.ref b6)] [])) t
    refine XS.aloadN X17.here hx rfl (hb hby d22_31) rfl rfl ?_
    exact kt
  obtain ⟨fs, hr, hrun, hended, hW, hsame⟩ := X17.leave (v := some (.ref b6)) (fun h => by rw [Bd.returns] at h; cases h)
  refine ⟨_, _, k20 _ ?_, hrun, hended, _, _, rfl, ?_, ⟨_, rfl⟩, hW, hsame.mono (by decide) (by decide)⟩
  · show Steps p.tables e below (T17.setTop (mkF m 32 #[.val (.ref b), .val (.int (3 : Int32)), .val (.ref b6)] [(.ref b6)])) _
    jvm_step X17.here [X17.here.top, hx, (hb hby d22_32), X17.method', Bd.returns, Value.isRef, FieldType.isReference]
    first | (intro acts; rw [hr _ acts rfl rfl rfl]) | rw [hr _ _ rfl rfl rfl]
    exact Steps.refl _
  · show QCf Z b kb y0' y1' y2' y3' h0 n0 _ T17.heap _
    rw [e17]
    exact ⟨b6, rfl, N17, K17, sz_b6⟩
theorem d13_0 : decode jdk_42_method_46_code 0 = .ok (.iload_n 0, 1) := by decide +kernel
theorem d13_1 : decode jdk_42_method_46_code 1 = .ok (.iconst 1, 1) := by decide +kernel
theorem d13_2 : decode jdk_42_method_46_code 2 = .ok (.if_icmp .ne 9, 3) := by decide +kernel
theorem d13_5 : decode jdk_42_method_46_code 5 = .ok (.aload_n 1, 1) := by decide +kernel
theorem d13_6 : decode jdk_42_method_46_code 6 = .ok (.iload_n 2, 1) := by decide +kernel
theorem d13_7 : decode jdk_42_method_46_code 7 = .ok (.invokestatic 473, 3) := by decide +kernel
theorem d13_10 : decode jdk_42_method_46_code 10 = .ok (.areturn, 1) := by decide +kernel
theorem d13_11 : decode jdk_42_method_46_code 11 = .ok (.aload_n 1, 1) := by decide +kernel
theorem d13_12 : decode jdk_42_method_46_code 12 = .ok (.iconst 0, 1) := by decide +kernel
theorem d13_13 : decode jdk_42_method_46_code 13 = .ok (.aload_n 1, 1) := by decide +kernel
theorem d13_14 : decode jdk_42_method_46_code 14 = .ok (.arraylength, 1) := by decide +kernel
theorem d13_15 : decode jdk_42_method_46_code 15 = .ok (.invokestatic 128, 3) := by decide +kernel
theorem d13_18 : decode jdk_42_method_46_code 18 = .ok (.ifCond .ne 11, 3) := by decide +kernel
theorem d13_21 : decode jdk_42_method_46_code 21 = .ok (.aload_n 1, 1) := by decide +kernel
theorem d13_22 : decode jdk_42_method_46_code 22 = .ok (.invokevirtual 279, 3) := by decide +kernel
theorem d13_25 : decode jdk_42_method_46_code 25 = .ok (.checkcast 280, 3) := by decide +kernel
theorem d13_28 : decode jdk_42_method_46_code 28 = .ok (.areturn, 1) := by decide +kernel
theorem d13_29 : decode jdk_42_method_46_code 29 = .ok (.iconst 0, 1) := by decide +kernel
theorem d13_30 : decode jdk_42_method_46_code 30 = .ok (.istore_n 3, 1) := by decide +kernel
theorem d13_31 : decode jdk_42_method_46_code 31 = .ok (.aload_n 1, 1) := by decide +kernel
theorem d13_32 : decode jdk_42_method_46_code 32 = .ok (.arraylength, 1) := by decide +kernel
theorem d13_33 : decode jdk_42_method_46_code 33 = .ok (.invokestatic 60, 3) := by decide +kernel
theorem d13_36 : decode jdk_42_method_46_code 36 = .ok (.astore 4, 2) := by decide +kernel
theorem d13_38 : decode jdk_42_method_46_code 38 = .ok (.aload_n 1, 1) := by decide +kernel
theorem d13_39 : decode jdk_42_method_46_code 39 = .ok (.astore 5, 2) := by decide +kernel
theorem d13_41 : decode jdk_42_method_46_code 41 = .ok (.aload 5, 2) := by decide +kernel
theorem d13_43 : decode jdk_42_method_46_code 43 = .ok (.arraylength, 1) := by decide +kernel
theorem d13_44 : decode jdk_42_method_46_code 44 = .ok (.istore 6, 2) := by decide +kernel
theorem d13_46 : decode jdk_42_method_46_code 46 = .ok (.iconst 0, 1) := by decide +kernel
theorem d13_47 : decode jdk_42_method_46_code 47 = .ok (.istore 7, 2) := by decide +kernel
theorem d13_49 : decode jdk_42_method_46_code 49 = .ok (.iload 7, 2) := by decide +kernel
theorem d13_51 : decode jdk_42_method_46_code 51 = .ok (.iload 6, 2) := by decide +kernel
theorem d13_53 : decode jdk_42_method_46_code 53 = .ok (.if_icmp .ge 71, 3) := by decide +kernel
theorem d13_56 : decode jdk_42_method_46_code 56 = .ok (.aload 5, 2) := by decide +kernel
theorem d13_58 : decode jdk_42_method_46_code 58 = .ok (.iload 7, 2) := by decide +kernel
theorem d13_60 : decode jdk_42_method_46_code 60 = .ok (.baload, 1) := by decide +kernel
theorem d13_61 : decode jdk_42_method_46_code 61 = .ok (.istore 8, 2) := by decide +kernel
theorem d13_63 : decode jdk_42_method_46_code 63 = .ok (.iload 8, 2) := by decide +kernel
theorem d13_65 : decode jdk_42_method_46_code 65 = .ok (.ifCond .ge 44, 3) := by decide +kernel
theorem d13_68 : decode jdk_42_method_46_code 68 = .ok (.aload 4, 2) := by decide +kernel
theorem d13_70 : decode jdk_42_method_46_code 70 = .ok (.iload_n 3, 1) := by decide +kernel
theorem d13_71 : decode jdk_42_method_46_code 71 = .ok (.iinc 3 1, 3) := by decide +kernel
theorem d13_74 : decode jdk_42_method_46_code 74 = .ok (.sipush 192, 3) := by decide +kernel
theorem d13_77 : decode jdk_42_method_46_code 77 = .ok (.iload 8, 2) := by decide +kernel
theorem d13_79 : decode jdk_42_method_46_code 79 = .ok (.sipush 255, 3) := by decide +kernel
theorem d13_82 : decode jdk_42_method_46_code 82 = .ok (.iand, 1) := by decide +kernel
theorem d13_83 : decode jdk_42_method_46_code 83 = .ok (.bipush 6, 2) := by decide +kernel
theorem d13_85 : decode jdk_42_method_46_code 85 = .ok (.ishr, 1) := by decide +kernel
theorem d13_86 : decode jdk_42_method_46_code 86 = .ok (.ior, 1) := by decide +kernel
theorem d13_87 : decode jdk_42_method_46_code 87 = .ok (.i2b, 1) := by decide +kernel
theorem d13_88 : decode jdk_42_method_46_code 88 = .ok (.bastore, 1) := by decide +kernel
theorem d13_89 : decode jdk_42_method_46_code 89 = .ok (.aload 4, 2) := by decide +kernel
theorem d13_91 : decode jdk_42_method_46_code 91 = .ok (.iload_n 3, 1) := by decide +kernel
theorem d13_92 : decode jdk_42_method_46_code 92 = .ok (.iinc 3 1, 3) := by decide +kernel
theorem d13_95 : decode jdk_42_method_46_code 95 = .ok (.sipush 128, 3) := by decide +kernel
theorem d13_98 : decode jdk_42_method_46_code 98 = .ok (.iload 8, 2) := by decide +kernel
theorem d13_100 : decode jdk_42_method_46_code 100 = .ok (.bipush 63, 2) := by decide +kernel
theorem d13_102 : decode jdk_42_method_46_code 102 = .ok (.iand, 1) := by decide +kernel
theorem d13_103 : decode jdk_42_method_46_code 103 = .ok (.ior, 1) := by decide +kernel
theorem d13_104 : decode jdk_42_method_46_code 104 = .ok (.i2b, 1) := by decide +kernel
theorem d13_105 : decode jdk_42_method_46_code 105 = .ok (.bastore, 1) := by decide +kernel
theorem d13_106 : decode jdk_42_method_46_code 106 = .ok (.goto 12, 3) := by decide +kernel
theorem d13_109 : decode jdk_42_method_46_code 109 = .ok (.aload 4, 2) := by decide +kernel
theorem d13_111 : decode jdk_42_method_46_code 111 = .ok (.iload_n 3, 1) := by decide +kernel
theorem d13_112 : decode jdk_42_method_46_code 112 = .ok (.iinc 3 1, 3) := by decide +kernel
theorem d13_115 : decode jdk_42_method_46_code 115 = .ok (.iload 8, 2) := by decide +kernel
theorem d13_117 : decode jdk_42_method_46_code 117 = .ok (.bastore, 1) := by decide +kernel
theorem d13_118 : decode jdk_42_method_46_code 118 = .ok (.iinc 7 1, 3) := by decide +kernel
theorem d13_121 : decode jdk_42_method_46_code 121 = .ok (.goto (-72), 3) := by decide +kernel
theorem d13_124 : decode jdk_42_method_46_code 124 = .ok (.iload_n 3, 1) := by decide +kernel
theorem d13_125 : decode jdk_42_method_46_code 125 = .ok (.aload 4, 2) := by decide +kernel
theorem d13_127 : decode jdk_42_method_46_code 127 = .ok (.arraylength, 1) := by decide +kernel
theorem d13_128 : decode jdk_42_method_46_code 128 = .ok (.if_icmp .ne 6, 3) := by decide +kernel
theorem d13_131 : decode jdk_42_method_46_code 131 = .ok (.aload 4, 2) := by decide +kernel
theorem d13_133 : decode jdk_42_method_46_code 133 = .ok (.areturn, 1) := by decide +kernel
theorem d13_134 : decode jdk_42_method_46_code 134 = .ok (.aload 4, 2) := by decide +kernel
theorem d13_136 : decode jdk_42_method_46_code 136 = .ok (.iload_n 3, 1) := by decide +kernel
theorem d13_137 : decode jdk_42_method_46_code 137 = .ok (.invokestatic 102, 3) := by decide +kernel
theorem d13_140 : decode jdk_42_method_46_code 140 = .ok (.areturn, 1) := by decide +kernel
theorem rmEu_ef (m : MethodId) (x1 : Addr) : entryFrame m #[(.int (0 : Int32)), (.ref x1), (.int (1 : Int32))] 9 = mkF m 0 #[.val (.int (0 : Int32)), .val (.ref x1), .val (.int (1 : Int32)), .unset, .unset, .unset, .unset, .unset, .unset] [] := by first | (simp [entryFrame, mkF, argsToLocals, Value.category]; done) | rfl
def QEu (Z : State) (b : Addr) (kb : ClassId) (n1 : Int32) (ax : Int32) (ay : Int32) (h0 : Heap) (n0 : Nat) (v : Option Value) (h : Heap) (L : List Loc) : Prop := ∃ r : Addr, v = some (.ref r) ∧ Fr n0 L ∧ Keep h0 h [] ∧ h0.size ≤ r
theorem own_pd9 : parseMethodDescriptor "([BII)Z" = some ⟨[(.array .byte), .int, .int], some .boolean⟩ := by decide +kernel
theorem own_pd10 : parseMethodDescriptor "(I)[B" = some ⟨[.int], some (.array .byte)⟩ := by decide +kernel
theorem own_pd11 : parseMethodDescriptor "([BI)[B" = some ⟨[(.array .byte), .int], some (.array .byte)⟩ := by decide +kernel
set_option maxRecDepth 65536 in
set_option maxHeartbeats 40000000 in
theorem rmEu (l : Launch) (Z : State) (a0 : Array Value) (hw : ∀ d ∈ tables_1, d.before a0 Z = true) (ws : List Jvm.Cond) (b : Addr) (kb : ClassId) (n1 : Int32) (ax : Int32) (ay : Int32) (h0 : Heap) (n0 : Nat) (Z0 : n0 ≤ h0.size) (Ab : Arv Z h0 b kb .byte n1 [(.int ax), (.int ay)] (.int (0 : Int32))) (Eb : Exa Z h0 b "[B") (hn : n1 = (0 : Int32) ∨ n1 = (1 : Int32) ∨ n1 = (2 : Int32)) :
    MetFree l (⟨"java/lang/String", "encodeUTF8", "(B[BZ)[B"⟩ : MethodName) (head1 (Jvm.Cond.code (⟨"java/lang/String", "encodeUTF8", "(B[BZ)[B"⟩ : MethodName) jdk_42_method_46_code 9 (some (.array .byte)) :: ws) ({ frames := 2, cells := 2, slots := 7, locals := 54 } : Room)) (fun aA' U => aA' = #[(.int (0 : Int32)), (.ref b), (.int (1 : Int32))] ∧ Z.Warmed39 U.vm ∧ U.heap = h0) (fun _ _ _ _ _ => True) (fun _ U oO' U' => ∃ vV' L, oO' = .returned vV' ∧ QEu Z b kb n1 ax ay h0 n0 vV' U'.heap L ∧ FrameEnd U oO' U' L ({ frames := 2, cells := 2, slots := 7, locals := 54 } : Room).cells ({ frames := 2, cells := 2, slots := 7, locals := 54 } : Room).slots) := by
  refine MetFree.of_bodySF (plainFor_of_name own_pn1) hisR ?_
  intro p e s m args below meth c s₁ Bd hml0 hP hK
  obtain ⟨rfl, hZ, hh⟩ := hP
  have hx := Bd.exec
  have hby := Bd.bytes
  have hml : c.maxLocals = 9 := hml0
  have hown : s.vm.findClass "java/lang/String" = some m.cls := findClass_of_methodNamed Bd.named
  have hnm := (name_of_methodNamed Bd.named Bd.method).1
  have X0 : Stand p l e ({ frames := 2, cells := 2, slots := 7, locals := 54 } : Room) s m #[(.int (0 : Int32)), (.ref b), (.int (1 : Int32))] below meth c s₁ [] 0 0 := Stand.of_body Bd
  have e0 : s₁.heap = h0 := by rw [← hh, Bd.state]; rfl
  have N0 := Fr.nil n0
  have K0 : Keep h0 h0 [] := Keep.refl _ _
  have k0 : ∀ t, Steps p.tables e below (s₁.setTop (mkF m 0 #[.val (.int (0 : Int32)), .val (.ref b), .val (.int (1 : Int32)), .unset, .unset, .unset, .unset, .unset, .unset] [])) t → Steps p.tables e below (s₁.setTop (entryFrame m #[(.int (0 : Int32)), (.ref b), (.int (1 : Int32))] 9)) t := fun t k => castTop (rmEu_ef m (b)) k
  by_cases hq0 : n1 = (0 : Int32)
  · have Ab0 : Arv Z h0 b kb .byte (0 : Int32) [] (.int (0 : Int32)) := own_arvT Ab hq0.symm (by first | exact fun _ _ => rfl | intro i hi; have e : n1.toNatClampNeg = 0 := (by rw [hq0]; rfl); rw [e] at hi; rcases i with _ | _ | i <;> first | rfl | omega)
    have hc2_1 : ¬ ((0 : Int32) = (1 : Int32)) := by decide
    have k2 : ∀ t, Steps p.tables e below (s₁.setTop (mkF m 14 #[.val (.int (0 : Int32)), .val (.ref b), .val (.int (1 : Int32)), .unset, .unset, .unset, .unset, .unset, .unset] [(.ref b), (.int (0 : Int32)), (.ref b)])) t → Steps p.tables e below (s₁.setTop (entryFrame m #[(.int (0 : Int32)), (.ref b), (.int (1 : Int32))] 9)) t := by
      intro t kt
      refine k0 t ?_
      show Steps p.tables e below (s₁.setTop (mkF m 0 #[.val (.int (0 : Int32)), .val (.ref b), .val (.int (1 : Int32)), .unset, .unset, .unset, .unset, .unset, .unset] [])) t
      refine XS.iloadN X0.here hx rfl (hb hby d13_0) rfl ?_
      show Steps p.tables e below (s₁.setTop (mkF m 1 #[.val (.int (0 : Int32)), .val (.ref b), .val (.int (1 : Int32)), .unset, .unset, .unset, .unset, .unset, .unset] [(.int (0 : Int32))])) t
      refine XS.iconst X0.here hx rfl (hb hby d13_1) ?_
      show Steps p.tables e below (s₁.setTop (mkF m 2 #[.val (.int (0 : Int32)), .val (.ref b), .val (.int (1 : Int32)), .unset, .unset, .unset, .unset, .unset, .unset] [(.int (1 : Int32)), (.int (0 : Int32))])) t
      refine XS.icmpYes X0.here hx rfl (pc0 := 2) (pc' := 11) rfl (hb hby d13_2) rfl (feq hc2_1).2 (by decide) (by decide) ?_
      show Steps p.tables e below (s₁.setTop (mkF m 11 #[.val (.int (0 : Int32)), .val (.ref b), .val (.int (1 : Int32)), .unset, .unset, .unset, .unset, .unset, .unset] [])) t
      refine XS.aloadN X0.here hx rfl (hb hby d13_11) rfl rfl ?_
      show Steps p.tables e below (s₁.setTop (mkF m 12 #[.val (.int (0 : Int32)), .val (.ref b), .val (.int (1 : Int32)), .unset, .unset, .unset, .unset, .unset, .unset] [(.ref b)])) t
      refine XS.iconst X0.here hx rfl (hb hby d13_12) ?_
      show Steps p.tables e below (s₁.setTop (mkF m 13 #[.val (.int (0 : Int32)), .val (.ref b), .val (.int (1 : Int32)), .unset, .unset, .unset, .unset, .unset, .unset] [(.int (0 : Int32)), (.ref b)])) t
      refine XS.aloadN X0.here hx rfl (hb hby d13_13) rfl rfl ?_
      exact kt
    obtain ⟨cl3, Ar3, -, S3, M3, -, -⟩ := id Ab0
    have k4 : ∀ t, Steps p.tables e below (s₁.setTop (mkF m 15 #[.val (.int (0 : Int32)), .val (.ref b), .val (.int (1 : Int32)), .unset, .unset, .unset, .unset, .unset, .unset] [(.int (0 : Int32)), (.int (0 : Int32)), (.ref b)])) t → Steps p.tables e below (s₁.setTop (entryFrame m #[(.int (0 : Int32)), (.ref b), (.int (1 : Int32))] 9)) t := fun t kt => k2 t (X0.arraylength hx (by rw [e0]; exact Ar3.1) (State.isArrayOf_alike hZ.alike Ar3.2.1) (g := (mkF m 14 #[.val (.int (0 : Int32)), .val (.ref b), .val (.int (1 : Int32)), .unset, .unset, .unset, .unset, .unset, .unset] [(.ref b), (.int (0 : Int32)), (.ref b)])) rfl rfl (hb hby d13_14) t (by rw [len_of S3 M3]; exact kt))
    obtain ⟨_, _, ⟨T5, L5, k5c, n5⟩, -, X5, ⟨Lc5, hQ5, l5, y5, z5⟩, st5⟩ := Jvm.LawKit.callS X0 hx (y := (⟨"java/lang/StringCoding", "hasNegatives", "([BII)Z"⟩ : MethodName)) hown (mvT hZ (hw _ (List.mem_of_getElem? (i := 69) rfl))) (mvT hZ (hw _ (List.mem_of_getElem? (i := 70) rfl))) (mvT hZ (hw _ (List.mem_of_getElem? (i := 71) rfl))) (mvT hZ (hw _ (List.mem_of_getElem? (i := 72) rfl))) (by decide) (backOf (W := 0) (rmHn0 l Z a0 hw [] b kb  h0 n0 Z0 Ab0 ) hZ (hw _ (List.mem_of_getElem? (i := 72) rfl)) (hw _ (List.mem_of_getElem? (i := 71) rfl)) (by decide) (by decide)) (g := (mkF m 15 #[.val (.int (0 : Int32)), .val (.ref b), .val (.int (1 : Int32)), .unset, .unset, .unset, .unset, .unset, .unset] [(.int (0 : Int32)), (.int (0 : Int32)), (.ref b)])) rfl (by rw [hml]; rfl) (argsL := [(.ref b), (.int (0 : Int32)), (.int (0 : Int32))]) (rest := []) (lenOf own_pd9 rfl) rfl (by show 2 * 0 + _ ≤ _; exact Nat.le_of_eq rfl) (hb hby d13_15) (fun _ _ => ⟨rfl, e0, (by decide : 0 + 0 ≤ _), (by decide : 0 + 0 ≤ _)⟩)
    dsimp only [Pt.U, Pt.locs, Pt.cells, Pt.slots] at X5 l5 y5 z5 st5 hQ5
    subst l5 y5 z5
    obtain ⟨rfl, N5q, e5⟩ := hQ5
    have N5 := Fr.app N0 N5q
    have k6 : ∀ t, Steps p.tables e below (T5.setTop (mkF m 18 #[.val (.int (0 : Int32)), .val (.ref b), .val (.int (1 : Int32)), .unset, .unset, .unset, .unset, .unset, .unset] [(.int (0 : Int32))])) t → Steps p.tables e below (s₁.setTop (entryFrame m #[(.int (0 : Int32)), (.ref b), (.int (1 : Int32))] 9)) t := fun t kt => k4 t (st5 t kt)
    have hc18_7 : (0 : Int32) = (0 : Int32) := rfl
    have k8 : ∀ t, Steps p.tables e below (T5.setTop (mkF m 22 #[.val (.int (0 : Int32)), .val (.ref b), .val (.int (1 : Int32)), .unset, .unset, .unset, .unset, .unset, .unset] [(.ref b)])) t → Steps p.tables e below (s₁.setTop (entryFrame m #[(.int (0 : Int32)), (.ref b), (.int (1 : Int32))] 9)) t := by
      intro t kt
      refine k6 t ?_
      show Steps p.tables e below (T5.setTop (mkF m 18 #[.val (.int (0 : Int32)), .val (.ref b), .val (.int (1 : Int32)), .unset, .unset, .unset, .unset, .unset, .unset] [(.int (0 : Int32))])) t
      refine XS.ifNo X5.here hx rfl (hb hby d13_18) rfl ((if0 _ _).trans (teq hc18_7).2) ?_
      show Steps p.tables e below (T5.setTop (mkF m 21 #[.val (.int (0 : Int32)), .val (.ref b), .val (.int (1 : Int32)), .unset, .unset, .unset, .unset, .unset, .unset] [])) t
      refine XS.aloadN X5.here hx rfl (hb hby d13_21) rfl rfl ?_
      exact kt
    obtain ⟨T9, h9, X9, e9, E9, A9, B9, st9⟩ := cloneH X5 hx hZ hown (hw _ (List.mem_of_getElem? (i := 76) rfl)) (hw _ (List.mem_of_getElem? (i := 77) rfl)) (hw _ (List.mem_of_getElem? (i := 81) rfl)) (hw _ (List.mem_of_getElem? (i := 79) rfl)) (hw _ (List.mem_of_getElem? (i := 80) rfl)) (hw _ (List.mem_of_getElem? (i := 82) rfl)) e5 Ab0.arh Eb (g := (mkF m 22 #[.val (.int (0 : Int32)), .val (.ref b), .val (.int (1 : Int32)), .unset, .unset, .unset, .unset, .unset, .unset] [(.ref b)])) rfl (by rw [hml]; rfl) rfl (hb hby d13_22) (by decide) (W := 0) (by show 2 * 0 + _ ≤ _; exact Nat.le_of_eq rfl) (by decide) (cap := 0) (by decide) (by decide) (by decide)
    obtain ⟨b9, g9⟩ : ∃ z, z = h0.size := ⟨_, rfl⟩
    rw [← g9] at A9 B9 st9
    have g_b9 : n0 ≤ b9 := Nat.le_trans Z0 (Nat.le_of_eq g9.symm)
    have sz_b9 : h0.size ≤ b9 := Nat.le_trans K0.1 (Nat.le_of_eq g9.symm)
    have ne10 : b ≠ b9 := Nat.ne_of_lt (Nat.lt_of_lt_of_le Eb.lt (Nat.le_of_eq g9.symm))
    have F11 := Eb.ext E9
    have F12 := Ab0.ext E9
    have Z9 : n0 ≤ h9.size := Nat.le_trans Z0 E9.1
    have K9 : Keep h0 h9 [] := K0.ext E9
    have k13 : ∀ t, Steps p.tables e below (T9.setTop (mkF m 25 #[.val (.int (0 : Int32)), .val (.ref b), .val (.int (1 : Int32)), .unset, .unset, .unset, .unset, .unset, .unset] [(.ref b9)])) t → Steps p.tables e below (s₁.setTop (entryFrame m #[(.int (0 : Int32)), (.ref b), (.int (1 : Int32))] 9)) t := fun t kt => k8 t (st9 t kt)
    obtain ⟨T14, X14, e14, st14⟩ := castY X9 hx hZ hown (hw _ (List.mem_of_getElem? (i := 83) rfl)) e9 (Ins.self B9) (g := (mkF m 25 #[.val (.int (0 : Int32)), .val (.ref b), .val (.int (1 : Int32)), .unset, .unset, .unset, .unset, .unset, .unset] [(.ref b9)])) rfl rfl (hb hby d13_25)
    have k15 : ∀ t, Steps p.tables e below (T14.setTop (mkF m 28 #[.val (.int (0 : Int32)), .val (.ref b), .val (.int (1 : Int32)), .unset, .unset, .unset, .unset, .unset, .unset] [(.ref b9)])) t → Steps p.tables e below (s₁.setTop (entryFrame m #[(.int (0 : Int32)), (.ref b), (.int (1 : Int32))] 9)) t := fun t kt => k13 t (st14 t kt)
    obtain ⟨fs, hr, hrun, hended, hW, hsame⟩ := X14.leave (v := some (.ref b9)) (fun h => by rw [Bd.returns] at h; cases h)
    refine ⟨_, _, k15 _ ?_, hrun, hended, _, _, rfl, ?_, ⟨_, rfl⟩, hW, hsame.mono (by decide) (by decide)⟩
    · show Steps p.tables e below (T14.setTop (mkF m 28 #[.val (.int (0 : Int32)), .val (.ref b), .val (.int (1 : Int32)), .unset, .unset, .unset, .unset, .unset, .unset] [(.ref b9)])) _
      jvm_step X14.here [X14.here.top, hx, (hb hby d13_28), X14.method', Bd.returns, Value.isRef, FieldType.isReference]
      first | (intro acts; rw [hr _ acts rfl rfl rfl]) | rw [hr _ _ rfl rfl rfl]
      exact Steps.refl _
    · show QEu Z b kb n1 ax ay h0 n0 _ T14.heap _
      rw [e14]
      exact ⟨b9, rfl, N5, K9, sz_b9⟩
  · by_cases hq1 : n1 = (1 : Int32)
    · have Ab1 : Arv Z h0 b kb .byte (1 : Int32) [(.int ax)] (.int (0 : Int32)) := own_arvT Ab hq1.symm (by first | exact fun _ _ => rfl | intro i hi; have e : n1.toNatClampNeg = 1 := (by rw [hq1]; rfl); rw [e] at hi; rcases i with _ | _ | i <;> first | rfl | omega)
      by_cases hsx_16 : ax < (0 : Int32)
      · have hc2_17 : ¬ ((0 : Int32) = (1 : Int32)) := by decide
        have k18 : ∀ t, Steps p.tables e below (s₁.setTop (mkF m 14 #[.val (.int (0 : Int32)), .val (.ref b), .val (.int (1 : Int32)), .unset, .unset, .unset, .unset, .unset, .unset] [(.ref b), (.int (0 : Int32)), (.ref b)])) t → Steps p.tables e below (s₁.setTop (entryFrame m #[(.int (0 : Int32)), (.ref b), (.int (1 : Int32))] 9)) t := by
          intro t kt
          refine k0 t ?_
          show Steps p.tables e below (s₁.setTop (mkF m 0 #[.val (.int (0 : Int32)), .val (.ref b), .val (.int (1 : Int32)), .unset, .unset, .unset, .unset, .unset, .unset] [])) t
          refine XS.iloadN X0.here hx rfl (hb hby d13_0) rfl ?_
          show Steps p.tables e below (s₁.setTop (mkF m 1 #[.val (.int (0 : Int32)), .val (.ref b), .val (.int (1 : Int32)), .unset, .unset, .unset, .unset, .unset, .unset] [(.int (0 : Int32))])) t
          refine XS.iconst X0.here hx rfl (hb hby d13_1) ?_
          show Steps p.tables e below (s₁.setTop (mkF m 2 #[.val (.int (0 : Int32)), .val (.ref b), .val (.int (1 : Int32)), .unset, .unset, .unset, .unset, .unset, .unset] [(.int (1 : Int32)), (.int (0 : Int32))])) t
          refine XS.icmpYes X0.here hx rfl (pc0 := 2) (pc' := 11) rfl (hb hby d13_2) rfl (feq hc2_17).2 (by decide) (by decide) ?_
          show Steps p.tables e below (s₁.setTop (mkF m 11 #[.val (.int (0 : Int32)), .val (.ref b), .val (.int (1 : Int32)), .unset, .unset, .unset, .unset, .unset, .unset] [])) t
          refine XS.aloadN X0.here hx rfl (hb hby d13_11) rfl rfl ?_
          show Steps p.tables e below (s₁.setTop (mkF m 12 #[.val (.int (0 : Int32)), .val (.ref b), .val (.int (1 : Int32)), .unset, .unset, .unset, .unset, .unset, .unset] [(.ref b)])) t
          refine XS.iconst X0.here hx rfl (hb hby d13_12) ?_
          show Steps p.tables e below (s₁.setTop (mkF m 13 #[.val (.int (0 : Int32)), .val (.ref b), .val (.int (1 : Int32)), .unset, .unset, .unset, .unset, .unset, .unset] [(.int (0 : Int32)), (.ref b)])) t
          refine XS.aloadN X0.here hx rfl (hb hby d13_13) rfl rfl ?_
          exact kt
        obtain ⟨cl19, Ar19, -, S19, M19, -, -⟩ := id Ab1
        have k20 : ∀ t, Steps p.tables e below (s₁.setTop (mkF m 15 #[.val (.int (0 : Int32)), .val (.ref b), .val (.int (1 : Int32)), .unset, .unset, .unset, .unset, .unset, .unset] [(.int (1 : Int32)), (.int (0 : Int32)), (.ref b)])) t → Steps p.tables e below (s₁.setTop (entryFrame m #[(.int (0 : Int32)), (.ref b), (.int (1 : Int32))] 9)) t := fun t kt => k18 t (X0.arraylength hx (by rw [e0]; exact Ar19.1) (State.isArrayOf_alike hZ.alike Ar19.2.1) (g := (mkF m 14 #[.val (.int (0 : Int32)), .val (.ref b), .val (.int (1 : Int32)), .unset, .unset, .unset, .unset, .unset, .unset] [(.ref b), (.int (0 : Int32)), (.ref b)])) rfl rfl (hb hby d13_14) t (by rw [len_of S19 M19]; exact kt))
        obtain ⟨_, _, ⟨T21, L21, k21c, n21⟩, -, X21, ⟨Lc21, hQ21, l21, y21, z21⟩, st21⟩ := Jvm.LawKit.callS X0 hx (y := (⟨"java/lang/StringCoding", "hasNegatives", "([BII)Z"⟩ : MethodName)) hown (mvT hZ (hw _ (List.mem_of_getElem? (i := 69) rfl))) (mvT hZ (hw _ (List.mem_of_getElem? (i := 70) rfl))) (mvT hZ (hw _ (List.mem_of_getElem? (i := 71) rfl))) (mvT hZ (hw _ (List.mem_of_getElem? (i := 72) rfl))) (by decide) (backOf (W := 0) (rmHn1n l Z a0 hw [] b kb ax h0 n0 Z0 Ab1 hsx_16) hZ (hw _ (List.mem_of_getElem? (i := 72) rfl)) (hw _ (List.mem_of_getElem? (i := 71) rfl)) (by decide) (by decide)) (g := (mkF m 15 #[.val (.int (0 : Int32)), .val (.ref b), .val (.int (1 : Int32)), .unset, .unset, .unset, .unset, .unset, .unset] [(.int (1 : Int32)), (.int (0 : Int32)), (.ref b)])) rfl (by rw [hml]; rfl) (argsL := [(.ref b), (.int (0 : Int32)), (.int (1 : Int32))]) (rest := []) (lenOf own_pd9 rfl) rfl (by show 2 * 0 + _ ≤ _; exact Nat.le_of_eq rfl) (hb hby d13_15) (fun _ _ => ⟨rfl, e0, (by decide : 0 + 0 ≤ _), (by decide : 0 + 0 ≤ _)⟩)
        dsimp only [Pt.U, Pt.locs, Pt.cells, Pt.slots] at X21 l21 y21 z21 st21 hQ21
        subst l21 y21 z21
        obtain ⟨rfl, N21q, e21⟩ := hQ21
        have N21 := Fr.app N0 N21q
        have k22 : ∀ t, Steps p.tables e below (T21.setTop (mkF m 18 #[.val (.int (0 : Int32)), .val (.ref b), .val (.int (1 : Int32)), .unset, .unset, .unset, .unset, .unset, .unset] [(.int (1 : Int32))])) t → Steps p.tables e below (s₁.setTop (entryFrame m #[(.int (0 : Int32)), (.ref b), (.int (1 : Int32))] 9)) t := fun t kt => k20 t (st21 t kt)
        have hc18_23 : ¬ ((1 : Int32) = (0 : Int32)) := by decide
        have k24 : ∀ t, Steps p.tables e below (T21.setTop (mkF m 32 #[.val (.int (0 : Int32)), .val (.ref b), .val (.int (1 : Int32)), .val (.int (0 : Int32)), .unset, .unset, .unset, .unset, .unset] [(.ref b)])) t → Steps p.tables e below (s₁.setTop (entryFrame m #[(.int (0 : Int32)), (.ref b), (.int (1 : Int32))] 9)) t := by
          intro t kt
          refine k22 t ?_
          show Steps p.tables e below (T21.setTop (mkF m 18 #[.val (.int (0 : Int32)), .val (.ref b), .val (.int (1 : Int32)), .unset, .unset, .unset, .unset, .unset, .unset] [(.int (1 : Int32))])) t
          refine XS.ifYes X21.here hx rfl (pc0 := 18) (pc' := 29) rfl (hb hby d13_18) rfl ((if0 _ _).trans (feq hc18_23).2) (by decide) (by decide) ?_
          show Steps p.tables e below (T21.setTop (mkF m 29 #[.val (.int (0 : Int32)), .val (.ref b), .val (.int (1 : Int32)), .unset, .unset, .unset, .unset, .unset, .unset] [])) t
          refine XS.iconst X21.here hx rfl (hb hby d13_29) ?_
          show Steps p.tables e below (T21.setTop (mkF m 30 #[.val (.int (0 : Int32)), .val (.ref b), .val (.int (1 : Int32)), .unset, .unset, .unset, .unset, .unset, .unset] [(.int (0 : Int32))])) t
          refine XS.istoreN X21.here hx rfl (hb hby d13_30) rfl (l' := #[.val (.int (0 : Int32)), .val (.ref b), .val (.int (1 : Int32)), .val (.int (0 : Int32)), .unset, .unset, .unset, .unset, .unset]) rfl ?_
          show Steps p.tables e below (T21.setTop (mkF m 31 #[.val (.int (0 : Int32)), .val (.ref b), .val (.int (1 : Int32)), .val (.int (0 : Int32)), .unset, .unset, .unset, .unset, .unset] [])) t
          refine XS.aloadN X21.here hx rfl (hb hby d13_31) rfl rfl ?_
          exact kt
        obtain ⟨cl25, Ar25, -, S25, M25, -, -⟩ := id Ab1
        have k26 : ∀ t, Steps p.tables e below (T21.setTop (mkF m 33 #[.val (.int (0 : Int32)), .val (.ref b), .val (.int (1 : Int32)), .val (.int (0 : Int32)), .unset, .unset, .unset, .unset, .unset] [(.int (1 : Int32))])) t → Steps p.tables e below (s₁.setTop (entryFrame m #[(.int (0 : Int32)), (.ref b), (.int (1 : Int32))] 9)) t := fun t kt => k24 t (X21.arraylength hx (by rw [e21]; exact Ar25.1) (State.isArrayOf_alike hZ.alike Ar25.2.1) (g := (mkF m 32 #[.val (.int (0 : Int32)), .val (.ref b), .val (.int (1 : Int32)), .val (.int (0 : Int32)), .unset, .unset, .unset, .unset, .unset] [(.ref b)])) rfl rfl (hb hby d13_32) t (by rw [len_of S25 M25]; exact kt))
        obtain ⟨_, _, ⟨T27, L27, k27c, n27⟩, -, X27, ⟨Lc27, hQ27, l27, y27, z27⟩, st27⟩ := Jvm.LawKit.callS X21 hx (y := (⟨"java/lang/StringUTF16", "newBytesFor", "(I)[B"⟩ : MethodName)) hown (mvT hZ (hw _ (List.mem_of_getElem? (i := 115) rfl))) (mvT hZ (hw _ (List.mem_of_getElem? (i := 116) rfl))) (mvT hZ (hw _ (List.mem_of_getElem? (i := 22) rfl))) (mvT hZ (hw _ (List.mem_of_getElem? (i := 117) rfl))) (by decide) (backOf (W := 0) (rmNf1 l Z a0 hw [] h0 n0 Z0) hZ (hw _ (List.mem_of_getElem? (i := 117) rfl)) (hw _ (List.mem_of_getElem? (i := 22) rfl)) (by decide) (by decide)) (g := (mkF m 33 #[.val (.int (0 : Int32)), .val (.ref b), .val (.int (1 : Int32)), .val (.int (0 : Int32)), .unset, .unset, .unset, .unset, .unset] [(.int (1 : Int32))])) rfl (by rw [hml]; rfl) (argsL := [(.int (1 : Int32))]) (rest := []) (lenOf own_pd10 rfl) rfl (by show 2 * 0 + _ ≤ _; exact Nat.le_of_eq rfl) (hb hby d13_33) (fun _ _ => ⟨rfl, e21, (by decide : 0 + 1 ≤ _), (by decide : 0 + 2 ≤ _)⟩)
        dsimp only [Pt.U, Pt.locs, Pt.cells, Pt.slots] at X27 l27 y27 z27 st27 hQ27
        subst l27 y27 z27
        obtain ⟨b27, c27k, rfl, N27q, K27k, s27z, A27⟩ := hQ27
        have N27 := Fr.app N21 N27q
        have g_b27 : n0 ≤ b27 := Nat.le_trans Z0 s27z
        have sz_b27 : h0.size ≤ b27 := Nat.le_trans K0.1 s27z
        have ne28 : b ≠ b27 := Nat.ne_of_lt (Nat.lt_of_lt_of_le Eb.lt s27z)
        have F29 := Eb.keep K27k
        have F30 := Ab1.keep K27k nin0
        have Z31 : n0 ≤ T27.heap.size := Nat.le_trans Z0 K27k.1
        have K31 : Keep h0 T27.heap [] := K0.trans K27k all0
        have k32 : ∀ t, Steps p.tables e below (T27.setTop (mkF m 36 #[.val (.int (0 : Int32)), .val (.ref b), .val (.int (1 : Int32)), .val (.int (0 : Int32)), .unset, .unset, .unset, .unset, .unset] [(.ref b27)])) t → Steps p.tables e below (s₁.setTop (entryFrame m #[(.int (0 : Int32)), (.ref b), (.int (1 : Int32))] 9)) t := fun t kt => k26 t (st27 t kt)
        have k33 : ∀ t, Steps p.tables e below (T27.setTop (mkF m 43 #[.val (.int (0 : Int32)), .val (.ref b), .val (.int (1 : Int32)), .val (.int (0 : Int32)), .val (.ref b27), .val (.ref b), .unset, .unset, .unset] [(.ref b)])) t → Steps p.tables e below (s₁.setTop (entryFrame m #[(.int (0 : Int32)), (.ref b), (.int (1 : Int32))] 9)) t := by
          intro t kt
          refine k32 t ?_
          show Steps p.tables e below (T27.setTop (mkF m 36 #[.val (.int (0 : Int32)), .val (.ref b), .val (.int (1 : Int32)), .val (.int (0 : Int32)), .unset, .unset, .unset, .unset, .unset] [(.ref b27)])) t
          refine XS.astore X27.here hx rfl (hb hby d13_36) rfl rfl (l' := #[.val (.int (0 : Int32)), .val (.ref b), .val (.int (1 : Int32)), .val (.int (0 : Int32)), .val (.ref b27), .unset, .unset, .unset, .unset]) rfl ?_
          show Steps p.tables e below (T27.setTop (mkF m 38 #[.val (.int (0 : Int32)), .val (.ref b), .val (.int (1 : Int32)), .val (.int (0 : Int32)), .val (.ref b27), .unset, .unset, .unset, .unset] [])) t
          refine XS.aloadN X27.here hx rfl (hb hby d13_38) rfl rfl ?_
          show Steps p.tables e below (T27.setTop (mkF m 39 #[.val (.int (0 : Int32)), .val (.ref b), .val (.int (1 : Int32)), .val (.int (0 : Int32)), .val (.ref b27), .unset, .unset, .unset, .unset] [(.ref b)])) t
          refine XS.astore X27.here hx rfl (hb hby d13_39) rfl rfl (l' := #[.val (.int (0 : Int32)), .val (.ref b), .val (.int (1 : Int32)), .val (.int (0 : Int32)), .val (.ref b27), .val (.ref b), .unset, .unset, .unset]) rfl ?_
          show Steps p.tables e below (T27.setTop (mkF m 41 #[.val (.int (0 : Int32)), .val (.ref b), .val (.int (1 : Int32)), .val (.int (0 : Int32)), .val (.ref b27), .val (.ref b), .unset, .unset, .unset] [])) t
          refine XS.aload X27.here hx rfl (hb hby d13_41) rfl rfl ?_
          exact kt
        obtain ⟨cl34, Ar34, -, S34, M34, -, -⟩ := id F30
        have k35 : ∀ t, Steps p.tables e below (T27.setTop (mkF m 44 #[.val (.int (0 : Int32)), .val (.ref b), .val (.int (1 : Int32)), .val (.int (0 : Int32)), .val (.ref b27), .val (.ref b), .unset, .unset, .unset] [(.int (1 : Int32))])) t → Steps p.tables e below (s₁.setTop (entryFrame m #[(.int (0 : Int32)), (.ref b), (.int (1 : Int32))] 9)) t := fun t kt => k33 t (X27.arraylength hx Ar34.1 (State.isArrayOf_alike hZ.alike Ar34.2.1) (g := (mkF m 43 #[.val (.int (0 : Int32)), .val (.ref b), .val (.int (1 : Int32)), .val (.int (0 : Int32)), .val (.ref b27), .val (.ref b), .unset, .unset, .unset] [(.ref b)])) rfl rfl (hb hby d13_43) t (by rw [len_of S34 M34]; exact kt))
        have hc53_36 : (0 : Int32) < (1 : Int32) := by decide
        have k37 : ∀ t, Steps p.tables e below (T27.setTop (mkF m 60 #[.val (.int (0 : Int32)), .val (.ref b), .val (.int (1 : Int32)), .val (.int (0 : Int32)), .val (.ref b27), .val (.ref b), .val (.int (1 : Int32)), .val (.int (0 : Int32)), .unset] [(.int (0 : Int32)), (.ref b)])) t → Steps p.tables e below (s₁.setTop (entryFrame m #[(.int (0 : Int32)), (.ref b), (.int (1 : Int32))] 9)) t := by
          intro t kt
          refine k35 t ?_
          show Steps p.tables e below (T27.setTop (mkF m 44 #[.val (.int (0 : Int32)), .val (.ref b), .val (.int (1 : Int32)), .val (.int (0 : Int32)), .val (.ref b27), .val (.ref b), .unset, .unset, .unset] [(.int (1 : Int32))])) t
          refine XS.istore X27.here hx rfl (hb hby d13_44) rfl (l' := #[.val (.int (0 : Int32)), .val (.ref b), .val (.int (1 : Int32)), .val (.int (0 : Int32)), .val (.ref b27), .val (.ref b), .val (.int (1 : Int32)), .unset, .unset]) rfl ?_
          show Steps p.tables e below (T27.setTop (mkF m 46 #[.val (.int (0 : Int32)), .val (.ref b), .val (.int (1 : Int32)), .val (.int (0 : Int32)), .val (.ref b27), .val (.ref b), .val (.int (1 : Int32)), .unset, .unset] [])) t
          refine XS.iconst X27.here hx rfl (hb hby d13_46) ?_
          show Steps p.tables e below (T27.setTop (mkF m 47 #[.val (.int (0 : Int32)), .val (.ref b), .val (.int (1 : Int32)), .val (.int (0 : Int32)), .val (.ref b27), .val (.ref b), .val (.int (1 : Int32)), .unset, .unset] [(.int (0 : Int32))])) t
          refine XS.istore X27.here hx rfl (hb hby d13_47) rfl (l' := #[.val (.int (0 : Int32)), .val (.ref b), .val (.int (1 : Int32)), .val (.int (0 : Int32)), .val (.ref b27), .val (.ref b), .val (.int (1 : Int32)), .val (.int (0 : Int32)), .unset]) rfl ?_
          show Steps p.tables e below (T27.setTop (mkF m 49 #[.val (.int (0 : Int32)), .val (.ref b), .val (.int (1 : Int32)), .val (.int (0 : Int32)), .val (.ref b27), .val (.ref b), .val (.int (1 : Int32)), .val (.int (0 : Int32)), .unset] [])) t
          refine XS.iload X27.here hx rfl (hb hby d13_49) rfl ?_
          show Steps p.tables e below (T27.setTop (mkF m 51 #[.val (.int (0 : Int32)), .val (.ref b), .val (.int (1 : Int32)), .val (.int (0 : Int32)), .val (.ref b27), .val (.ref b), .val (.int (1 : Int32)), .val (.int (0 : Int32)), .unset] [(.int (0 : Int32))])) t
          refine XS.iload X27.here hx rfl (hb hby d13_51) rfl ?_
          show Steps p.tables e below (T27.setTop (mkF m 53 #[.val (.int (0 : Int32)), .val (.ref b), .val (.int (1 : Int32)), .val (.int (0 : Int32)), .val (.ref b27), .val (.ref b), .val (.int (1 : Int32)), .val (.int (0 : Int32)), .unset] [(.int (1 : Int32)), (.int (0 : Int32))])) t
          refine XS.icmpNo X27.here hx rfl (hb hby d13_53) rfl (tlt hc53_36).2.1 ?_
          show Steps p.tables e below (T27.setTop (mkF m 56 #[.val (.int (0 : Int32)), .val (.ref b), .val (.int (1 : Int32)), .val (.int (0 : Int32)), .val (.ref b27), .val (.ref b), .val (.int (1 : Int32)), .val (.int (0 : Int32)), .unset] [])) t
          refine XS.aload X27.here hx rfl (hb hby d13_56) rfl rfl ?_
          show Steps p.tables e below (T27.setTop (mkF m 58 #[.val (.int (0 : Int32)), .val (.ref b), .val (.int (1 : Int32)), .val (.int (0 : Int32)), .val (.ref b27), .val (.ref b), .val (.int (1 : Int32)), .val (.int (0 : Int32)), .unset] [(.ref b)])) t
          refine XS.iload X27.here hx rfl (hb hby d13_58) rfl ?_
          exact kt
        obtain ⟨cl38, Ar38, q38, S38, M38, H38, G38⟩ := id F30
        have hin38 : ¬ ((0 : Int32) < 0 ∨ cl38.slots.size ≤ ((0 : Int32)).toNatClampNeg) := inb_of S38 ⟨by decide, by decide⟩
        have hat38 : cl38.slots[((0 : Int32)).toNatClampNeg]? = some (.int ax) := Has.at H38 hin38 rfl
        have k39 : ∀ t, Steps p.tables e below (T27.setTop (mkF m 61 #[.val (.int (0 : Int32)), .val (.ref b), .val (.int (1 : Int32)), .val (.int (0 : Int32)), .val (.ref b27), .val (.ref b), .val (.int (1 : Int32)), .val (.int (0 : Int32)), .unset] [(.int ax)])) t → Steps p.tables e below (s₁.setTop (entryFrame m #[(.int (0 : Int32)), (.ref b), (.int (1 : Int32))] 9)) t := fun t kt => k37 t (X27.baloadBytes hx (j := (0 : Int32)) (v := (.int ax)) Ar38.1 (State.isArrayOf_alike hZ.alike Ar38.2.1) Ar38.2.2 hin38 hat38 (g := (mkF m 60 #[.val (.int (0 : Int32)), .val (.ref b), .val (.int (1 : Int32)), .val (.int (0 : Int32)), .val (.ref b27), .val (.ref b), .val (.int (1 : Int32)), .val (.int (0 : Int32)), .unset] [(.int (0 : Int32)), (.ref b)])) rfl rfl (hb hby d13_60) t kt)
        have k41 : ∀ t, Steps p.tables e below (T27.setTop (mkF m 88 #[.val (.int (0 : Int32)), .val (.ref b), .val (.int (1 : Int32)), .val (.int (1 : Int32)), .val (.ref b27), .val (.ref b), .val (.int (1 : Int32)), .val (.int (0 : Int32)), .val (.int ax)] [(.int (((192 : Int32) ||| ((ax &&& (255 : Int32)) >>> ((6 : Int32) &&& 31))).toInt8.toInt32)), (.int (0 : Int32)), (.ref b27)])) t → Steps p.tables e below (s₁.setTop (entryFrame m #[(.int (0 : Int32)), (.ref b), (.int (1 : Int32))] 9)) t := by
          intro t kt
          refine k39 t ?_
          show Steps p.tables e below (T27.setTop (mkF m 61 #[.val (.int (0 : Int32)), .val (.ref b), .val (.int (1 : Int32)), .val (.int (0 : Int32)), .val (.ref b27), .val (.ref b), .val (.int (1 : Int32)), .val (.int (0 : Int32)), .unset] [(.int ax)])) t
          refine XS.istore X27.here hx rfl (hb hby d13_61) rfl (l' := #[.val (.int (0 : Int32)), .val (.ref b), .val (.int (1 : Int32)), .val (.int (0 : Int32)), .val (.ref b27), .val (.ref b), .val (.int (1 : Int32)), .val (.int (0 : Int32)), .val (.int ax)]) rfl ?_
          show Steps p.tables e below (T27.setTop (mkF m 63 #[.val (.int (0 : Int32)), .val (.ref b), .val (.int (1 : Int32)), .val (.int (0 : Int32)), .val (.ref b27), .val (.ref b), .val (.int (1 : Int32)), .val (.int (0 : Int32)), .val (.int ax)] [])) t
          refine XS.iload X27.here hx rfl (hb hby d13_63) rfl ?_
          show Steps p.tables e below (T27.setTop (mkF m 65 #[.val (.int (0 : Int32)), .val (.ref b), .val (.int (1 : Int32)), .val (.int (0 : Int32)), .val (.ref b27), .val (.ref b), .val (.int (1 : Int32)), .val (.int (0 : Int32)), .val (.int ax)] [(.int ax)])) t
          refine XS.ifNo X27.here hx rfl (hb hby d13_65) rfl ((if0 _ _).trans (tlt hsx_16).2.1) ?_
          show Steps p.tables e below (T27.setTop (mkF m 68 #[.val (.int (0 : Int32)), .val (.ref b), .val (.int (1 : Int32)), .val (.int (0 : Int32)), .val (.ref b27), .val (.ref b), .val (.int (1 : Int32)), .val (.int (0 : Int32)), .val (.int ax)] [])) t
          refine XS.aload X27.here hx rfl (hb hby d13_68) rfl rfl ?_
          show Steps p.tables e below (T27.setTop (mkF m 70 #[.val (.int (0 : Int32)), .val (.ref b), .val (.int (1 : Int32)), .val (.int (0 : Int32)), .val (.ref b27), .val (.ref b), .val (.int (1 : Int32)), .val (.int (0 : Int32)), .val (.int ax)] [(.ref b27)])) t
          refine XS.iloadN X27.here hx rfl (hb hby d13_70) rfl ?_
          show Steps p.tables e below (T27.setTop (mkF m 71 #[.val (.int (0 : Int32)), .val (.ref b), .val (.int (1 : Int32)), .val (.int (0 : Int32)), .val (.ref b27), .val (.ref b), .val (.int (1 : Int32)), .val (.int (0 : Int32)), .val (.int ax)] [(.int (0 : Int32)), (.ref b27)])) t
          refine XS.iinc X27.here hx rfl (hb hby d13_71) rfl (l' := #[.val (.int (0 : Int32)), .val (.ref b), .val (.int (1 : Int32)), .val (.int (1 : Int32)), .val (.ref b27), .val (.ref b), .val (.int (1 : Int32)), .val (.int (0 : Int32)), .val (.int ax)]) rfl ?_
          show Steps p.tables e below (T27.setTop (mkF m 74 #[.val (.int (0 : Int32)), .val (.ref b), .val (.int (1 : Int32)), .val (.int (1 : Int32)), .val (.ref b27), .val (.ref b), .val (.int (1 : Int32)), .val (.int (0 : Int32)), .val (.int ax)] [(.int (0 : Int32)), (.ref b27)])) t
          refine XS.sipush X27.here hx rfl (hb hby d13_74) ?_
          show Steps p.tables e below (T27.setTop (mkF m 77 #[.val (.int (0 : Int32)), .val (.ref b), .val (.int (1 : Int32)), .val (.int (1 : Int32)), .val (.ref b27), .val (.ref b), .val (.int (1 : Int32)), .val (.int (0 : Int32)), .val (.int ax)] [(.int (192 : Int32)), (.int (0 : Int32)), (.ref b27)])) t
          refine XS.iload X27.here hx rfl (hb hby d13_77) rfl ?_
          show Steps p.tables e below (T27.setTop (mkF m 79 #[.val (.int (0 : Int32)), .val (.ref b), .val (.int (1 : Int32)), .val (.int (1 : Int32)), .val (.ref b27), .val (.ref b), .val (.int (1 : Int32)), .val (.int (0 : Int32)), .val (.int ax)] [(.int ax), (.int (192 : Int32)), (.int (0 : Int32)), (.ref b27)])) t
          refine XS.sipush X27.here hx rfl (hb hby d13_79) ?_
          show Steps p.tables e below (T27.setTop (mkF m 82 #[.val (.int (0 : Int32)), .val (.ref b), .val (.int (1 : Int32)), .val (.int (1 : Int32)), .val (.ref b27), .val (.ref b), .val (.int (1 : Int32)), .val (.int (0 : Int32)), .val (.int ax)] [(.int (255 : Int32)), (.int ax), (.int (192 : Int32)), (.int (0 : Int32)), (.ref b27)])) t
          refine XS.iand X27.here hx rfl (hb hby d13_82) rfl ?_
          show Steps p.tables e below (T27.setTop (mkF m 83 #[.val (.int (0 : Int32)), .val (.ref b), .val (.int (1 : Int32)), .val (.int (1 : Int32)), .val (.ref b27), .val (.ref b), .val (.int (1 : Int32)), .val (.int (0 : Int32)), .val (.int ax)] [(.int (ax &&& (255 : Int32))), (.int (192 : Int32)), (.int (0 : Int32)), (.ref b27)])) t
          refine XS.bipush X27.here hx rfl (hb hby d13_83) ?_
          show Steps p.tables e below (T27.setTop (mkF m 85 #[.val (.int (0 : Int32)), .val (.ref b), .val (.int (1 : Int32)), .val (.int (1 : Int32)), .val (.ref b27), .val (.ref b), .val (.int (1 : Int32)), .val (.int (0 : Int32)), .val (.int ax)] [(.int (6 : Int32)), (.int (ax &&& (255 : Int32))), (.int (192 : Int32)), (.int (0 : Int32)), (.ref b27)])) t
          refine XS.ishr X27.here hx rfl (hb hby d13_85) rfl ?_
          show Steps p.tables e below (T27.setTop (mkF m 86 #[.val (.int (0 : Int32)), .val (.ref b), .val (.int (1 : Int32)), .val (.int (1 : Int32)), .val (.ref b27), .val (.ref b), .val (.int (1 : Int32)), .val (.int (0 : Int32)), .val (.int ax)] [(.int ((ax &&& (255 : Int32)) >>> ((6 : Int32) &&& 31))), (.int (192 : Int32)), (.int (0 : Int32)), (.ref b27)])) t
          refine XS.ior X27.here hx rfl (hb hby d13_86) rfl ?_
          show Steps p.tables e below (T27.setTop (mkF m 87 #[.val (.int (0 : Int32)), .val (.ref b), .val (.int (1 : Int32)), .val (.int (1 : Int32)), .val (.ref b27), .val (.ref b), .val (.int (1 : Int32)), .val (.int (0 : Int32)), .val (.int ax)] [(.int ((192 : Int32) ||| ((ax &&& (255 : Int32)) >>> ((6 : Int32) &&& 31)))), (.int (0 : Int32)), (.ref b27)])) t
          refine XS.i2b X27.here hx rfl (hb hby d13_87) rfl ?_
          exact kt
        obtain ⟨cl42, Ar42, q42, S42, M42, H42, G42⟩ := id A27
        have hin42 : ¬ ((0 : Int32) < 0 ∨ cl42.slots.size ≤ ((0 : Int32)).toNatClampNeg) := inb_of S42 ⟨by decide, by decide⟩
        obtain ⟨T42, h42, X42, e42, W42, st42⟩ := stB X27 hx hZ rfl Ar42 (j := (0 : Int32)) hin42 (g := (mkF m 88 #[.val (.int (0 : Int32)), .val (.ref b), .val (.int (1 : Int32)), .val (.int (1 : Int32)), .val (.ref b27), .val (.ref b), .val (.int (1 : Int32)), .val (.int (0 : Int32)), .val (.int ax)] [(.int (((192 : Int32) ||| ((ax &&& (255 : Int32)) >>> ((6 : Int32) &&& 31))).toInt8.toInt32)), (.int (0 : Int32)), (.ref b27)])) rfl rfl (hb hby d13_88)
        have F43 : Arv Z h42 b27 c27k .byte (2 : Int32) [(.int ((((192 : Int32) ||| ((ax &&& (255 : Int32)) >>> ((6 : Int32) &&& 31))).toInt8.toInt32).toInt8.toInt32)), (.int (0 : Int32))] (.int (0 : Int32)) := Arv.set Ar42 q42 S42 M42 H42 G42 (fits_nar_byte _) W42 0 rfl (Nat.le_of_ble_eq_true rfl)
        have F44 := F29.wr W42
        have F45 := F30.other W42 ne28
        have Z42 : n0 ≤ h42.size := Nat.le_trans Z31 (Keep.of_wr W42).1
        have K42 : Keep h0 h42 [] := K31.wr W42 (Or.inr sz_b27)
        have N42 := Fr.snoc X42 N27 g_b27
        have k47 : ∀ t, Steps p.tables e below (T42.setTop (mkF m 89 #[.val (.int (0 : Int32)), .val (.ref b), .val (.int (1 : Int32)), .val (.int (1 : Int32)), .val (.ref b27), .val (.ref b), .val (.int (1 : Int32)), .val (.int (0 : Int32)), .val (.int ax)] [])) t → Steps p.tables e below (s₁.setTop (entryFrame m #[(.int (0 : Int32)), (.ref b), (.int (1 : Int32))] 9)) t := fun t kt => k41 t (st42 t kt)
        have k48 : ∀ t, Steps p.tables e below (T42.setTop (mkF m 105 #[.val (.int (0 : Int32)), .val (.ref b), .val (.int (1 : Int32)), .val (.int (2 : Int32)), .val (.ref b27), .val (.ref b), .val (.int (1 : Int32)), .val (.int (0 : Int32)), .val (.int ax)] [(.int (((128 : Int32) ||| (ax &&& (63 : Int32))).toInt8.toInt32)), (.int (1 : Int32)), (.ref b27)])) t → Steps p.tables e below (s₁.setTop (entryFrame m #[(.int (0 : Int32)), (.ref b), (.int (1 : Int32))] 9)) t := by
          intro t kt
          refine k47 t ?_
          show Steps p.tables e below (T42.setTop (mkF m 89 #[.val (.int (0 : Int32)), .val (.ref b), .val (.int (1 : Int32)), .val (.int (1 : Int32)), .val (.ref b27), .val (.ref b), .val (.int (1 : Int32)), .val (.int (0 : Int32)), .val (.int ax)] [])) t
          refine XS.aload X42.here hx rfl (hb hby d13_89) rfl rfl ?_
          show Steps p.tables e below (T42.setTop (mkF m 91 #[.val (.int (0 : Int32)), .val (.ref b), .val (.int (1 : Int32)), .val (.int (1 : Int32)), .val (.ref b27), .val (.ref b), .val (.int (1 : Int32)), .val (.int (0 : Int32)), .val (.int ax)] [(.ref b27)])) t
          refine XS.iloadN X42.here hx rfl (hb hby d13_91) rfl ?_
          show Steps p.tables e below (T42.setTop (mkF m 92 #[.val (.int (0 : Int32)), .val (.ref b), .val (.int (1 : Int32)), .val (.int (1 : Int32)), .val (.ref b27), .val (.ref b), .val (.int (1 : Int32)), .val (.int (0 : Int32)), .val (.int ax)] [(.int (1 : Int32)), (.ref b27)])) t
          refine XS.iinc X42.here hx rfl (hb hby d13_92) rfl (l' := #[.val (.int (0 : Int32)), .val (.ref b), .val (.int (1 : Int32)), .val (.int (2 : Int32)), .val (.ref b27), .val (.ref b), .val (.int (1 : Int32)), .val (.int (0 : Int32)), .val (.int ax)]) rfl ?_
          show Steps p.tables e below (T42.setTop (mkF m 95 #[.val (.int (0 : Int32)), .val (.ref b), .val (.int (1 : Int32)), .val (.int (2 : Int32)), .val (.ref b27), .val (.ref b), .val (.int (1 : Int32)), .val (.int (0 : Int32)), .val (.int ax)] [(.int (1 : Int32)), (.ref b27)])) t
          refine XS.sipush X42.here hx rfl (hb hby d13_95) ?_
          show Steps p.tables e below (T42.setTop (mkF m 98 #[.val (.int (0 : Int32)), .val (.ref b), .val (.int (1 : Int32)), .val (.int (2 : Int32)), .val (.ref b27), .val (.ref b), .val (.int (1 : Int32)), .val (.int (0 : Int32)), .val (.int ax)] [(.int (128 : Int32)), (.int (1 : Int32)), (.ref b27)])) t
          refine XS.iload X42.here hx rfl (hb hby d13_98) rfl ?_
          show Steps p.tables e below (T42.setTop (mkF m 100 #[.val (.int (0 : Int32)), .val (.ref b), .val (.int (1 : Int32)), .val (.int (2 : Int32)), .val (.ref b27), .val (.ref b), .val (.int (1 : Int32)), .val (.int (0 : Int32)), .val (.int ax)] [(.int ax), (.int (128 : Int32)), (.int (1 : Int32)), (.ref b27)])) t
          refine XS.bipush X42.here hx rfl (hb hby d13_100) ?_
          show Steps p.tables e below (T42.setTop (mkF m 102 #[.val (.int (0 : Int32)), .val (.ref b), .val (.int (1 : Int32)), .val (.int (2 : Int32)), .val (.ref b27), .val (.ref b), .val (.int (1 : Int32)), .val (.int (0 : Int32)), .val (.int ax)] [(.int (63 : Int32)), (.int ax), (.int (128 : Int32)), (.int (1 : Int32)), (.ref b27)])) t
          refine XS.iand X42.here hx rfl (hb hby d13_102) rfl ?_
          show Steps p.tables e below (T42.setTop (mkF m 103 #[.val (.int (0 : Int32)), .val (.ref b), .val (.int (1 : Int32)), .val (.int (2 : Int32)), .val (.ref b27), .val (.ref b), .val (.int (1 : Int32)), .val (.int (0 : Int32)), .val (.int ax)] [(.int (ax &&& (63 : Int32))), (.int (128 : Int32)), (.int (1 : Int32)), (.ref b27)])) t
          refine XS.ior X42.here hx rfl (hb hby d13_103) rfl ?_
          show Steps p.tables e below (T42.setTop (mkF m 104 #[.val (.int (0 : Int32)), .val (.ref b), .val (.int (1 : Int32)), .val (.int (2 : Int32)), .val (.ref b27), .val (.ref b), .val (.int (1 : Int32)), .val (.int (0 : Int32)), .val (.int ax)] [(.int ((128 : Int32) ||| (ax &&& (63 : Int32)))), (.int (1 : Int32)), (.ref b27)])) t
          refine XS.i2b X42.here hx rfl (hb hby d13_104) rfl ?_
          exact kt
        obtain ⟨cl49, Ar49, q49, S49, M49, H49, G49⟩ := id F43
        have hin49 : ¬ ((1 : Int32) < 0 ∨ cl49.slots.size ≤ ((1 : Int32)).toNatClampNeg) := inb_of S49 ⟨by decide, by decide⟩
        obtain ⟨T49, h49, X49, e49, W49, st49⟩ := stB X42 hx hZ e42 Ar49 (j := (1 : Int32)) hin49 (g := (mkF m 105 #[.val (.int (0 : Int32)), .val (.ref b), .val (.int (1 : Int32)), .val (.int (2 : Int32)), .val (.ref b27), .val (.ref b), .val (.int (1 : Int32)), .val (.int (0 : Int32)), .val (.int ax)] [(.int (((128 : Int32) ||| (ax &&& (63 : Int32))).toInt8.toInt32)), (.int (1 : Int32)), (.ref b27)])) rfl rfl (hb hby d13_105)
        have F50 : Arv Z h49 b27 c27k .byte (2 : Int32) [(.int ((((192 : Int32) ||| ((ax &&& (255 : Int32)) >>> ((6 : Int32) &&& 31))).toInt8.toInt32).toInt8.toInt32)), (.int ((((128 : Int32) ||| (ax &&& (63 : Int32))).toInt8.toInt32).toInt8.toInt32))] (.int (0 : Int32)) := Arv.set Ar49 q49 S49 M49 H49 G49 (fits_nar_byte _) W49 1 rfl (Nat.le_of_ble_eq_true rfl)
        have F51 := F44.wr W49
        have F52 := F45.other W49 ne28
        have Z49 : n0 ≤ h49.size := Nat.le_trans Z42 (Keep.of_wr W49).1
        have K49 : Keep h0 h49 [] := K42.wr W49 (Or.inr sz_b27)
        have N49 := Fr.snoc X49 N42 g_b27
        have k54 : ∀ t, Steps p.tables e below (T49.setTop (mkF m 106 #[.val (.int (0 : Int32)), .val (.ref b), .val (.int (1 : Int32)), .val (.int (2 : Int32)), .val (.ref b27), .val (.ref b), .val (.int (1 : Int32)), .val (.int (0 : Int32)), .val (.int ax)] [])) t → Steps p.tables e below (s₁.setTop (entryFrame m #[(.int (0 : Int32)), (.ref b), (.int (1 : Int32))] 9)) t := fun t kt => k48 t (st49 t kt)
        have hc53_55 : ¬ ((1 : Int32) < (1 : Int32)) := by decide
        have k56 : ∀ t, Steps p.tables e below (T49.setTop (mkF m 127 #[.val (.int (0 : Int32)), .val (.ref b), .val (.int (1 : Int32)), .val (.int (2 : Int32)), .val (.ref b27), .val (.ref b), .val (.int (1 : Int32)), .val (.int (1 : Int32)), .val (.int ax)] [(.ref b27), (.int (2 : Int32))])) t → Steps p.tables e below (s₁.setTop (entryFrame m #[(.int (0 : Int32)), (.ref b), (.int (1 : Int32))] 9)) t := by
          intro t kt
          refine k54 t ?_
          show Steps p.tables e below (T49.setTop (mkF m 106 #[.val (.int (0 : Int32)), .val (.ref b), .val (.int (1 : Int32)), .val (.int (2 : Int32)), .val (.ref b27), .val (.ref b), .val (.int (1 : Int32)), .val (.int (0 : Int32)), .val (.int ax)] [])) t
          refine XS.goto X49.here hx rfl (pc0 := 106) (pc' := 118) rfl (hb hby d13_106) (by decide) (by decide) ?_
          show Steps p.tables e below (T49.setTop (mkF m 118 #[.val (.int (0 : Int32)), .val (.ref b), .val (.int (1 : Int32)), .val (.int (2 : Int32)), .val (.ref b27), .val (.ref b), .val (.int (1 : Int32)), .val (.int (0 : Int32)), .val (.int ax)] [])) t
          refine XS.iinc X49.here hx rfl (hb hby d13_118) rfl (l' := #[.val (.int (0 : Int32)), .val (.ref b), .val (.int (1 : Int32)), .val (.int (2 : Int32)), .val (.ref b27), .val (.ref b), .val (.int (1 : Int32)), .val (.int (1 : Int32)), .val (.int ax)]) rfl ?_
          show Steps p.tables e below (T49.setTop (mkF m 121 #[.val (.int (0 : Int32)), .val (.ref b), .val (.int (1 : Int32)), .val (.int (2 : Int32)), .val (.ref b27), .val (.ref b), .val (.int (1 : Int32)), .val (.int (1 : Int32)), .val (.int ax)] [])) t
          refine XS.goto X49.here hx rfl (pc0 := 121) (pc' := 49) rfl (hb hby d13_121) (by decide) (by decide) ?_
          show Steps p.tables e below (T49.setTop (mkF m 49 #[.val (.int (0 : Int32)), .val (.ref b), .val (.int (1 : Int32)), .val (.int (2 : Int32)), .val (.ref b27), .val (.ref b), .val (.int (1 : Int32)), .val (.int (1 : Int32)), .val (.int ax)] [])) t
          refine XS.iload X49.here hx rfl (hb hby d13_49) rfl ?_
          show Steps p.tables e below (T49.setTop (mkF m 51 #[.val (.int (0 : Int32)), .val (.ref b), .val (.int (1 : Int32)), .val (.int (2 : Int32)), .val (.ref b27), .val (.ref b), .val (.int (1 : Int32)), .val (.int (1 : Int32)), .val (.int ax)] [(.int (1 : Int32))])) t
          refine XS.iload X49.here hx rfl (hb hby d13_51) rfl ?_
          show Steps p.tables e below (T49.setTop (mkF m 53 #[.val (.int (0 : Int32)), .val (.ref b), .val (.int (1 : Int32)), .val (.int (2 : Int32)), .val (.ref b27), .val (.ref b), .val (.int (1 : Int32)), .val (.int (1 : Int32)), .val (.int ax)] [(.int (1 : Int32)), (.int (1 : Int32))])) t
          refine XS.icmpYes X49.here hx rfl (pc0 := 53) (pc' := 124) rfl (hb hby d13_53) rfl (flt hc53_55).2.1 (by decide) (by decide) ?_
          show Steps p.tables e below (T49.setTop (mkF m 124 #[.val (.int (0 : Int32)), .val (.ref b), .val (.int (1 : Int32)), .val (.int (2 : Int32)), .val (.ref b27), .val (.ref b), .val (.int (1 : Int32)), .val (.int (1 : Int32)), .val (.int ax)] [])) t
          refine XS.iloadN X49.here hx rfl (hb hby d13_124) rfl ?_
          show Steps p.tables e below (T49.setTop (mkF m 125 #[.val (.int (0 : Int32)), .val (.ref b), .val (.int (1 : Int32)), .val (.int (2 : Int32)), .val (.ref b27), .val (.ref b), .val (.int (1 : Int32)), .val (.int (1 : Int32)), .val (.int ax)] [(.int (2 : Int32))])) t
          refine XS.aload X49.here hx rfl (hb hby d13_125) rfl rfl ?_
          exact kt
        obtain ⟨cl57, Ar57, -, S57, M57, -, -⟩ := id F50
        have k58 : ∀ t, Steps p.tables e below (T49.setTop (mkF m 128 #[.val (.int (0 : Int32)), .val (.ref b), .val (.int (1 : Int32)), .val (.int (2 : Int32)), .val (.ref b27), .val (.ref b), .val (.int (1 : Int32)), .val (.int (1 : Int32)), .val (.int ax)] [(.int (2 : Int32)), (.int (2 : Int32))])) t → Steps p.tables e below (s₁.setTop (entryFrame m #[(.int (0 : Int32)), (.ref b), (.int (1 : Int32))] 9)) t := fun t kt => k56 t (X49.arraylength hx (by rw [e49]; exact Ar57.1) (State.isArrayOf_alike hZ.alike Ar57.2.1) (g := (mkF m 127 #[.val (.int (0 : Int32)), .val (.ref b), .val (.int (1 : Int32)), .val (.int (2 : Int32)), .val (.ref b27), .val (.ref b), .val (.int (1 : Int32)), .val (.int (1 : Int32)), .val (.int ax)] [(.ref b27), (.int (2 : Int32))])) rfl rfl (hb hby d13_127) t (by rw [len_of S57 M57]; exact kt))
        have hc128_59 : (2 : Int32) = (2 : Int32) := rfl
        have k60 : ∀ t, Steps p.tables e below (T49.setTop (mkF m 133 #[.val (.int (0 : Int32)), .val (.ref b), .val (.int (1 : Int32)), .val (.int (2 : Int32)), .val (.ref b27), .val (.ref b), .val (.int (1 : Int32)), .val (.int (1 : Int32)), .val (.int ax)] [(.ref b27)])) t → Steps p.tables e below (s₁.setTop (entryFrame m #[(.int (0 : Int32)), (.ref b), (.int (1 : Int32))] 9)) t := by
          intro t kt
          refine k58 t ?_
          show Steps p.tables e below (T49.setTop (mkF m 128 #[.val (.int (0 : Int32)), .val (.ref b), .val (.int (1 : Int32)), .val (.int (2 : Int32)), .val (.ref b27), .val (.ref b), .val (.int (1 : Int32)), .val (.int (1 : Int32)), .val (.int ax)] [(.int (2 : Int32)), (.int (2 : Int32))])) t
          refine XS.icmpNo X49.here hx rfl (hb hby d13_128) rfl (teq hc128_59).2 ?_
          show Steps p.tables e below (T49.setTop (mkF m 131 #[.val (.int (0 : Int32)), .val (.ref b), .val (.int (1 : Int32)), .val (.int (2 : Int32)), .val (.ref b27), .val (.ref b), .val (.int (1 : Int32)), .val (.int (1 : Int32)), .val (.int ax)] [])) t
          refine XS.aload X49.here hx rfl (hb hby d13_131) rfl rfl ?_
          exact kt
        obtain ⟨fs, hr, hrun, hended, hW, hsame⟩ := X49.leave (v := some (.ref b27)) (fun h => by rw [Bd.returns] at h; cases h)
        refine ⟨_, _, k60 _ ?_, hrun, hended, _, _, rfl, ?_, ⟨_, rfl⟩, hW, hsame.mono (by decide) (by decide)⟩
        · show Steps p.tables e below (T49.setTop (mkF m 133 #[.val (.int (0 : Int32)), .val (.ref b), .val (.int (1 : Int32)), .val (.int (2 : Int32)), .val (.ref b27), .val (.ref b), .val (.int (1 : Int32)), .val (.int (1 : Int32)), .val (.int ax)] [(.ref b27)])) _
          jvm_step X49.here [X49.here.top, hx, (hb hby d13_133), X49.method', Bd.returns, Value.isRef, FieldType.isReference]
          first | (intro acts; rw [hr _ acts rfl rfl rfl]) | rw [hr _ _ rfl rfl rfl]
          exact Steps.refl _
        · show QEu Z b kb n1 ax ay h0 n0 _ T49.heap _
          rw [e49]
          exact ⟨b27, rfl, N49, K49, sz_b27⟩
      · have hc2_61 : ¬ ((0 : Int32) = (1 : Int32)) := by decide
        have k62 : ∀ t, Steps p.tables e below (s₁.setTop (mkF m 14 #[.val (.int (0 : Int32)), .val (.ref b), .val (.int (1 : Int32)), .unset, .unset, .unset, .unset, .unset, .unset] [(.ref b), (.int (0 : Int32)), (.ref b)])) t → Steps p.tables e below (s₁.setTop (entryFrame m #[(.int (0 : Int32)), (.ref b), (.int (1 : Int32))] 9)) t := by
          intro t kt
          refine k0 t ?_
          show Steps p.tables e below (s₁.setTop (mkF m 0 #[.val (.int (0 : Int32)), .val (.ref b), .val (.int (1 : Int32)), .unset, .unset, .unset, .unset, .unset, .unset] [])) t
          refine XS.iloadN X0.here hx rfl (hb hby d13_0) rfl ?_
          show Steps p.tables e below (s₁.setTop (mkF m 1 #[.val (.int (0 : Int32)), .val (.ref b), .val (.int (1 : Int32)), .unset, .unset, .unset, .unset, .unset, .unset] [(.int (0 : Int32))])) t
          refine XS.iconst X0.here hx rfl (hb hby d13_1) ?_
          show Steps p.tables e below (s₁.setTop (mkF m 2 #[.val (.int (0 : Int32)), .val (.ref b), .val (.int (1 : Int32)), .unset, .unset, .unset, .unset, .unset, .unset] [(.int (1 : Int32)), (.int (0 : Int32))])) t
          refine XS.icmpYes X0.here hx rfl (pc0 := 2) (pc' := 11) rfl (hb hby d13_2) rfl (feq hc2_61).2 (by decide) (by decide) ?_
          show Steps p.tables e below (s₁.setTop (mkF m 11 #[.val (.int (0 : Int32)), .val (.ref b), .val (.int (1 : Int32)), .unset, .unset, .unset, .unset, .unset, .unset] [])) t
          refine XS.aloadN X0.here hx rfl (hb hby d13_11) rfl rfl ?_
          show Steps p.tables e below (s₁.setTop (mkF m 12 #[.val (.int (0 : Int32)), .val (.ref b), .val (.int (1 : Int32)), .unset, .unset, .unset, .unset, .unset, .unset] [(.ref b)])) t
          refine XS.iconst X0.here hx rfl (hb hby d13_12) ?_
          show Steps p.tables e below (s₁.setTop (mkF m 13 #[.val (.int (0 : Int32)), .val (.ref b), .val (.int (1 : Int32)), .unset, .unset, .unset, .unset, .unset, .unset] [(.int (0 : Int32)), (.ref b)])) t
          refine XS.aloadN X0.here hx rfl (hb hby d13_13) rfl rfl ?_
          exact kt
        obtain ⟨cl63, Ar63, -, S63, M63, -, -⟩ := id Ab1
        have k64 : ∀ t, Steps p.tables e below (s₁.setTop (mkF m 15 #[.val (.int (0 : Int32)), .val (.ref b), .val (.int (1 : Int32)), .unset, .unset, .unset, .unset, .unset, .unset] [(.int (1 : Int32)), (.int (0 : Int32)), (.ref b)])) t → Steps p.tables e below (s₁.setTop (entryFrame m #[(.int (0 : Int32)), (.ref b), (.int (1 : Int32))] 9)) t := fun t kt => k62 t (X0.arraylength hx (by rw [e0]; exact Ar63.1) (State.isArrayOf_alike hZ.alike Ar63.2.1) (g := (mkF m 14 #[.val (.int (0 : Int32)), .val (.ref b), .val (.int (1 : Int32)), .unset, .unset, .unset, .unset, .unset, .unset] [(.ref b), (.int (0 : Int32)), (.ref b)])) rfl rfl (hb hby d13_14) t (by rw [len_of S63 M63]; exact kt))
        obtain ⟨_, _, ⟨T65, L65, k65c, n65⟩, -, X65, ⟨Lc65, hQ65, l65, y65, z65⟩, st65⟩ := Jvm.LawKit.callS X0 hx (y := (⟨"java/lang/StringCoding", "hasNegatives", "([BII)Z"⟩ : MethodName)) hown (mvT hZ (hw _ (List.mem_of_getElem? (i := 69) rfl))) (mvT hZ (hw _ (List.mem_of_getElem? (i := 70) rfl))) (mvT hZ (hw _ (List.mem_of_getElem? (i := 71) rfl))) (mvT hZ (hw _ (List.mem_of_getElem? (i := 72) rfl))) (by decide) (backOf (W := 0) (rmHn1p l Z a0 hw [] b kb ax h0 n0 Z0 Ab1 hsx_16) hZ (hw _ (List.mem_of_getElem? (i := 72) rfl)) (hw _ (List.mem_of_getElem? (i := 71) rfl)) (by decide) (by decide)) (g := (mkF m 15 #[.val (.int (0 : Int32)), .val (.ref b), .val (.int (1 : Int32)), .unset, .unset, .unset, .unset, .unset, .unset] [(.int (1 : Int32)), (.int (0 : Int32)), (.ref b)])) rfl (by rw [hml]; rfl) (argsL := [(.ref b), (.int (0 : Int32)), (.int (1 : Int32))]) (rest := []) (lenOf own_pd9 rfl) rfl (by show 2 * 0 + _ ≤ _; exact Nat.le_of_eq rfl) (hb hby d13_15) (fun _ _ => ⟨rfl, e0, (by decide : 0 + 0 ≤ _), (by decide : 0 + 0 ≤ _)⟩)
        dsimp only [Pt.U, Pt.locs, Pt.cells, Pt.slots] at X65 l65 y65 z65 st65 hQ65
        subst l65 y65 z65
        obtain ⟨rfl, N65q, e65⟩ := hQ65
        have N65 := Fr.app N0 N65q
        have k66 : ∀ t, Steps p.tables e below (T65.setTop (mkF m 18 #[.val (.int (0 : Int32)), .val (.ref b), .val (.int (1 : Int32)), .unset, .unset, .unset, .unset, .unset, .unset] [(.int (0 : Int32))])) t → Steps p.tables e below (s₁.setTop (entryFrame m #[(.int (0 : Int32)), (.ref b), (.int (1 : Int32))] 9)) t := fun t kt => k64 t (st65 t kt)
        have hc18_67 : (0 : Int32) = (0 : Int32) := rfl
        have k68 : ∀ t, Steps p.tables e below (T65.setTop (mkF m 22 #[.val (.int (0 : Int32)), .val (.ref b), .val (.int (1 : Int32)), .unset, .unset, .unset, .unset, .unset, .unset] [(.ref b)])) t → Steps p.tables e below (s₁.setTop (entryFrame m #[(.int (0 : Int32)), (.ref b), (.int (1 : Int32))] 9)) t := by
          intro t kt
          refine k66 t ?_
          show Steps p.tables e below (T65.setTop (mkF m 18 #[.val (.int (0 : Int32)), .val (.ref b), .val (.int (1 : Int32)), .unset, .unset, .unset, .unset, .unset, .unset] [(.int (0 : Int32))])) t
          refine XS.ifNo X65.here hx rfl (hb hby d13_18) rfl ((if0 _ _).trans (teq hc18_67).2) ?_
          show Steps p.tables e below (T65.setTop (mkF m 21 #[.val (.int (0 : Int32)), .val (.ref b), .val (.int (1 : Int32)), .unset, .unset, .unset, .unset, .unset, .unset] [])) t
          refine XS.aloadN X65.here hx rfl (hb hby d13_21) rfl rfl ?_
          exact kt
        obtain ⟨T69, h69, X69, e69, E69, A69, B69, st69⟩ := cloneH X65 hx hZ hown (hw _ (List.mem_of_getElem? (i := 76) rfl)) (hw _ (List.mem_of_getElem? (i := 77) rfl)) (hw _ (List.mem_of_getElem? (i := 81) rfl)) (hw _ (List.mem_of_getElem? (i := 79) rfl)) (hw _ (List.mem_of_getElem? (i := 80) rfl)) (hw _ (List.mem_of_getElem? (i := 82) rfl)) e65 Ab1.arh Eb (g := (mkF m 22 #[.val (.int (0 : Int32)), .val (.ref b), .val (.int (1 : Int32)), .unset, .unset, .unset, .unset, .unset, .unset] [(.ref b)])) rfl (by rw [hml]; rfl) rfl (hb hby d13_22) (by decide) (W := 0) (by show 2 * 0 + _ ≤ _; exact Nat.le_of_eq rfl) (by decide) (cap := 1) (by decide) (by decide) (by decide)
        obtain ⟨b69, g69⟩ : ∃ z, z = h0.size := ⟨_, rfl⟩
        rw [← g69] at A69 B69 st69
        have g_b69 : n0 ≤ b69 := Nat.le_trans Z0 (Nat.le_of_eq g69.symm)
        have sz_b69 : h0.size ≤ b69 := Nat.le_trans K0.1 (Nat.le_of_eq g69.symm)
        have ne70 : b ≠ b69 := Nat.ne_of_lt (Nat.lt_of_lt_of_le Eb.lt (Nat.le_of_eq g69.symm))
        have F71 := Eb.ext E69
        have F72 := Ab1.ext E69
        have Z69 : n0 ≤ h69.size := Nat.le_trans Z0 E69.1
        have K69 : Keep h0 h69 [] := K0.ext E69
        have k73 : ∀ t, Steps p.tables e below (T69.setTop (mkF m 25 #[.val (.int (0 : Int32)), .val (.ref b), .val (.int (1 : Int32)), .unset, .unset, .unset, .unset, .unset, .unset] [(.ref b69)])) t → Steps p.tables e below (s₁.setTop (entryFrame m #[(.int (0 : Int32)), (.ref b), (.int (1 : Int32))] 9)) t := fun t kt => k68 t (st69 t kt)
        obtain ⟨T74, X74, e74, st74⟩ := castY X69 hx hZ hown (hw _ (List.mem_of_getElem? (i := 83) rfl)) e69 (Ins.self B69) (g := (mkF m 25 #[.val (.int (0 : Int32)), .val (.ref b), .val (.int (1 : Int32)), .unset, .unset, .unset, .unset, .unset, .unset] [(.ref b69)])) rfl rfl (hb hby d13_25)
        have k75 : ∀ t, Steps p.tables e below (T74.setTop (mkF m 28 #[.val (.int (0 : Int32)), .val (.ref b), .val (.int (1 : Int32)), .unset, .unset, .unset, .unset, .unset, .unset] [(.ref b69)])) t → Steps p.tables e below (s₁.setTop (entryFrame m #[(.int (0 : Int32)), (.ref b), (.int (1 : Int32))] 9)) t := fun t kt => k73 t (st74 t kt)
        obtain ⟨fs, hr, hrun, hended, hW, hsame⟩ := X74.leave (v := some (.ref b69)) (fun h => by rw [Bd.returns] at h; cases h)
        refine ⟨_, _, k75 _ ?_, hrun, hended, _, _, rfl, ?_, ⟨_, rfl⟩, hW, hsame.mono (by decide) (by decide)⟩
        · show Steps p.tables e below (T74.setTop (mkF m 28 #[.val (.int (0 : Int32)), .val (.ref b), .val (.int (1 : Int32)), .unset, .unset, .unset, .unset, .unset, .unset] [(.ref b69)])) _
          jvm_step X74.here [X74.here.top, hx, (hb hby d13_28), X74.method', Bd.returns, Value.isRef, FieldType.isReference]
          first | (intro acts; rw [hr _ acts rfl rfl rfl]) | rw [hr _ _ rfl rfl rfl]
          exact Steps.refl _
        · show QEu Z b kb n1 ax ay h0 n0 _ T74.heap _
          rw [e74]
          exact ⟨b69, rfl, N65, K69, sz_b69⟩
    · have hn2 : n1 = (2 : Int32) := by rcases hn with q | q | q <;> first | exact q | exact absurd q (by assumption)
      have Ab2 : Arv Z h0 b kb .byte (2 : Int32) [(.int ax), (.int ay)] (.int (0 : Int32)) := own_arvT Ab hn2.symm (by first | exact fun _ _ => rfl | intro i hi; have e : n1.toNatClampNeg = 2 := (by rw [hn2]; rfl); rw [e] at hi; rcases i with _ | _ | i <;> first | rfl | omega)
      by_cases hsx_76 : ax < (0 : Int32)
      · have hc2_77 : ¬ ((0 : Int32) = (1 : Int32)) := by decide
        have k78 : ∀ t, Steps p.tables e below (s₁.setTop (mkF m 14 #[.val (.int (0 : Int32)), .val (.ref b), .val (.int (1 : Int32)), .unset, .unset, .unset, .unset, .unset, .unset] [(.ref b), (.int (0 : Int32)), (.ref b)])) t → Steps p.tables e below (s₁.setTop (entryFrame m #[(.int (0 : Int32)), (.ref b), (.int (1 : Int32))] 9)) t := by
          intro t kt
          refine k0 t ?_
          show Steps p.tables e below (s₁.setTop (mkF m 0 #[.val (.int (0 : Int32)), .val (.ref b), .val (.int (1 : Int32)), .unset, .unset, .unset, .unset, .unset, .unset] [])) t
          refine XS.iloadN X0.here hx rfl (hb hby d13_0) rfl ?_
          show Steps p.tables e below (s₁.setTop (mkF m 1 #[.val (.int (0 : Int32)), .val (.ref b), .val (.int (1 : Int32)), .unset, .unset, .unset, .unset, .unset, .unset] [(.int (0 : Int32))])) t
          refine XS.iconst X0.here hx rfl (hb hby d13_1) ?_
          show Steps p.tables e below (s₁.setTop (mkF m 2 #[.val (.int (0 : Int32)), .val (.ref b), .val (.int (1 : Int32)), .unset, .unset, .unset, .unset, .unset, .unset] [(.int (1 : Int32)), (.int (0 : Int32))])) t
          refine XS.icmpYes X0.here hx rfl (pc0 := 2) (pc' := 11) rfl (hb hby d13_2) rfl (feq hc2_77).2 (by decide) (by decide) ?_
          show Steps p.tables e below (s₁.setTop (mkF m 11 #[.val (.int (0 : Int32)), .val (.ref b), .val (.int (1 : Int32)), .unset, .unset, .unset, .unset, .unset, .unset] [])) t
          refine XS.aloadN X0.here hx rfl (hb hby d13_11) rfl rfl ?_
          show Steps p.tables e below (s₁.setTop (mkF m 12 #[.val (.int (0 : Int32)), .val (.ref b), .val (.int (1 : Int32)), .unset, .unset, .unset, .unset, .unset, .unset] [(.ref b)])) t
          refine XS.iconst X0.here hx rfl (hb hby d13_12) ?_
          show Steps p.tables e below (s₁.setTop (mkF m 13 #[.val (.int (0 : Int32)), .val (.ref b), .val (.int (1 : Int32)), .unset, .unset, .unset, .unset, .unset, .unset] [(.int (0 : Int32)), (.ref b)])) t
          refine XS.aloadN X0.here hx rfl (hb hby d13_13) rfl rfl ?_
          exact kt
        obtain ⟨cl79, Ar79, -, S79, M79, -, -⟩ := id Ab2
        have k80 : ∀ t, Steps p.tables e below (s₁.setTop (mkF m 15 #[.val (.int (0 : Int32)), .val (.ref b), .val (.int (1 : Int32)), .unset, .unset, .unset, .unset, .unset, .unset] [(.int (2 : Int32)), (.int (0 : Int32)), (.ref b)])) t → Steps p.tables e below (s₁.setTop (entryFrame m #[(.int (0 : Int32)), (.ref b), (.int (1 : Int32))] 9)) t := fun t kt => k78 t (X0.arraylength hx (by rw [e0]; exact Ar79.1) (State.isArrayOf_alike hZ.alike Ar79.2.1) (g := (mkF m 14 #[.val (.int (0 : Int32)), .val (.ref b), .val (.int (1 : Int32)), .unset, .unset, .unset, .unset, .unset, .unset] [(.ref b), (.int (0 : Int32)), (.ref b)])) rfl rfl (hb hby d13_14) t (by rw [len_of S79 M79]; exact kt))
        obtain ⟨_, _, ⟨T81, L81, k81c, n81⟩, -, X81, ⟨Lc81, hQ81, l81, y81, z81⟩, st81⟩ := Jvm.LawKit.callS X0 hx (y := (⟨"java/lang/StringCoding", "hasNegatives", "([BII)Z"⟩ : MethodName)) hown (mvT hZ (hw _ (List.mem_of_getElem? (i := 69) rfl))) (mvT hZ (hw _ (List.mem_of_getElem? (i := 70) rfl))) (mvT hZ (hw _ (List.mem_of_getElem? (i := 71) rfl))) (mvT hZ (hw _ (List.mem_of_getElem? (i := 72) rfl))) (by decide) (backOf (W := 0) (rmHn2n l Z a0 hw [] b kb ax ay h0 n0 Z0 Ab2 hsx_76) hZ (hw _ (List.mem_of_getElem? (i := 72) rfl)) (hw _ (List.mem_of_getElem? (i := 71) rfl)) (by decide) (by decide)) (g := (mkF m 15 #[.val (.int (0 : Int32)), .val (.ref b), .val (.int (1 : Int32)), .unset, .unset, .unset, .unset, .unset, .unset] [(.int (2 : Int32)), (.int (0 : Int32)), (.ref b)])) rfl (by rw [hml]; rfl) (argsL := [(.ref b), (.int (0 : Int32)), (.int (2 : Int32))]) (rest := []) (lenOf own_pd9 rfl) rfl (by show 2 * 0 + _ ≤ _; exact Nat.le_of_eq rfl) (hb hby d13_15) (fun _ _ => ⟨rfl, e0, (by decide : 0 + 0 ≤ _), (by decide : 0 + 0 ≤ _)⟩)
        dsimp only [Pt.U, Pt.locs, Pt.cells, Pt.slots] at X81 l81 y81 z81 st81 hQ81
        subst l81 y81 z81
        obtain ⟨rfl, N81q, e81⟩ := hQ81
        have N81 := Fr.app N0 N81q
        have k82 : ∀ t, Steps p.tables e below (T81.setTop (mkF m 18 #[.val (.int (0 : Int32)), .val (.ref b), .val (.int (1 : Int32)), .unset, .unset, .unset, .unset, .unset, .unset] [(.int (1 : Int32))])) t → Steps p.tables e below (s₁.setTop (entryFrame m #[(.int (0 : Int32)), (.ref b), (.int (1 : Int32))] 9)) t := fun t kt => k80 t (st81 t kt)
        have hc18_83 : ¬ ((1 : Int32) = (0 : Int32)) := by decide
        have k84 : ∀ t, Steps p.tables e below (T81.setTop (mkF m 32 #[.val (.int (0 : Int32)), .val (.ref b), .val (.int (1 : Int32)), .val (.int (0 : Int32)), .unset, .unset, .unset, .unset, .unset] [(.ref b)])) t → Steps p.tables e below (s₁.setTop (entryFrame m #[(.int (0 : Int32)), (.ref b), (.int (1 : Int32))] 9)) t := by
          intro t kt
          refine k82 t ?_
          show Steps p.tables e below (T81.setTop (mkF m 18 #[.val (.int (0 : Int32)), .val (.ref b), .val (.int (1 : Int32)), .unset, .unset, .unset, .unset, .unset, .unset] [(.int (1 : Int32))])) t
          refine XS.ifYes X81.here hx rfl (pc0 := 18) (pc' := 29) rfl (hb hby d13_18) rfl ((if0 _ _).trans (feq hc18_83).2) (by decide) (by decide) ?_
          show Steps p.tables e below (T81.setTop (mkF m 29 #[.val (.int (0 : Int32)), .val (.ref b), .val (.int (1 : Int32)), .unset, .unset, .unset, .unset, .unset, .unset] [])) t
          refine XS.iconst X81.here hx rfl (hb hby d13_29) ?_
          show Steps p.tables e below (T81.setTop (mkF m 30 #[.val (.int (0 : Int32)), .val (.ref b), .val (.int (1 : Int32)), .unset, .unset, .unset, .unset, .unset, .unset] [(.int (0 : Int32))])) t
          refine XS.istoreN X81.here hx rfl (hb hby d13_30) rfl (l' := #[.val (.int (0 : Int32)), .val (.ref b), .val (.int (1 : Int32)), .val (.int (0 : Int32)), .unset, .unset, .unset, .unset, .unset]) rfl ?_
          show Steps p.tables e below (T81.setTop (mkF m 31 #[.val (.int (0 : Int32)), .val (.ref b), .val (.int (1 : Int32)), .val (.int (0 : Int32)), .unset, .unset, .unset, .unset, .unset] [])) t
          refine XS.aloadN X81.here hx rfl (hb hby d13_31) rfl rfl ?_
          exact kt
        obtain ⟨cl85, Ar85, -, S85, M85, -, -⟩ := id Ab2
        have k86 : ∀ t, Steps p.tables e below (T81.setTop (mkF m 33 #[.val (.int (0 : Int32)), .val (.ref b), .val (.int (1 : Int32)), .val (.int (0 : Int32)), .unset, .unset, .unset, .unset, .unset] [(.int (2 : Int32))])) t → Steps p.tables e below (s₁.setTop (entryFrame m #[(.int (0 : Int32)), (.ref b), (.int (1 : Int32))] 9)) t := fun t kt => k84 t (X81.arraylength hx (by rw [e81]; exact Ar85.1) (State.isArrayOf_alike hZ.alike Ar85.2.1) (g := (mkF m 32 #[.val (.int (0 : Int32)), .val (.ref b), .val (.int (1 : Int32)), .val (.int (0 : Int32)), .unset, .unset, .unset, .unset, .unset] [(.ref b)])) rfl rfl (hb hby d13_32) t (by rw [len_of S85 M85]; exact kt))
        obtain ⟨_, _, ⟨T87, L87, k87c, n87⟩, -, X87, ⟨Lc87, hQ87, l87, y87, z87⟩, st87⟩ := Jvm.LawKit.callS X81 hx (y := (⟨"java/lang/StringUTF16", "newBytesFor", "(I)[B"⟩ : MethodName)) hown (mvT hZ (hw _ (List.mem_of_getElem? (i := 115) rfl))) (mvT hZ (hw _ (List.mem_of_getElem? (i := 116) rfl))) (mvT hZ (hw _ (List.mem_of_getElem? (i := 22) rfl))) (mvT hZ (hw _ (List.mem_of_getElem? (i := 117) rfl))) (by decide) (backOf (W := 0) (rmNf2 l Z a0 hw [] h0 n0 Z0) hZ (hw _ (List.mem_of_getElem? (i := 117) rfl)) (hw _ (List.mem_of_getElem? (i := 22) rfl)) (by decide) (by decide)) (g := (mkF m 33 #[.val (.int (0 : Int32)), .val (.ref b), .val (.int (1 : Int32)), .val (.int (0 : Int32)), .unset, .unset, .unset, .unset, .unset] [(.int (2 : Int32))])) rfl (by rw [hml]; rfl) (argsL := [(.int (2 : Int32))]) (rest := []) (lenOf own_pd10 rfl) rfl (by show 2 * 0 + _ ≤ _; exact Nat.le_of_eq rfl) (hb hby d13_33) (fun _ _ => ⟨rfl, e81, (by decide : 0 + 1 ≤ _), (by decide : 0 + 4 ≤ _)⟩)
        dsimp only [Pt.U, Pt.locs, Pt.cells, Pt.slots] at X87 l87 y87 z87 st87 hQ87
        subst l87 y87 z87
        obtain ⟨b87, c87k, rfl, N87q, K87k, s87z, A87⟩ := hQ87
        have N87 := Fr.app N81 N87q
        have g_b87 : n0 ≤ b87 := Nat.le_trans Z0 s87z
        have sz_b87 : h0.size ≤ b87 := Nat.le_trans K0.1 s87z
        have ne88 : b ≠ b87 := Nat.ne_of_lt (Nat.lt_of_lt_of_le Eb.lt s87z)
        have F89 := Eb.keep K87k
        have F90 := Ab2.keep K87k nin0
        have Z91 : n0 ≤ T87.heap.size := Nat.le_trans Z0 K87k.1
        have K91 : Keep h0 T87.heap [] := K0.trans K87k all0
        have k92 : ∀ t, Steps p.tables e below (T87.setTop (mkF m 36 #[.val (.int (0 : Int32)), .val (.ref b), .val (.int (1 : Int32)), .val (.int (0 : Int32)), .unset, .unset, .unset, .unset, .unset] [(.ref b87)])) t → Steps p.tables e below (s₁.setTop (entryFrame m #[(.int (0 : Int32)), (.ref b), (.int (1 : Int32))] 9)) t := fun t kt => k86 t (st87 t kt)
        have k93 : ∀ t, Steps p.tables e below (T87.setTop (mkF m 43 #[.val (.int (0 : Int32)), .val (.ref b), .val (.int (1 : Int32)), .val (.int (0 : Int32)), .val (.ref b87), .val (.ref b), .unset, .unset, .unset] [(.ref b)])) t → Steps p.tables e below (s₁.setTop (entryFrame m #[(.int (0 : Int32)), (.ref b), (.int (1 : Int32))] 9)) t := by
          intro t kt
          refine k92 t ?_
          show Steps p.tables e below (T87.setTop (mkF m 36 #[.val (.int (0 : Int32)), .val (.ref b), .val (.int (1 : Int32)), .val (.int (0 : Int32)), .unset, .unset, .unset, .unset, .unset] [(.ref b87)])) t
          refine XS.astore X87.here hx rfl (hb hby d13_36) rfl rfl (l' := #[.val (.int (0 : Int32)), .val (.ref b), .val (.int (1 : Int32)), .val (.int (0 : Int32)), .val (.ref b87), .unset, .unset, .unset, .unset]) rfl ?_
          show Steps p.tables e below (T87.setTop (mkF m 38 #[.val (.int (0 : Int32)), .val (.ref b), .val (.int (1 : Int32)), .val (.int (0 : Int32)), .val (.ref b87), .unset, .unset, .unset, .unset] [])) t
          refine XS.aloadN X87.here hx rfl (hb hby d13_38) rfl rfl ?_
          show Steps p.tables e below (T87.setTop (mkF m 39 #[.val (.int (0 : Int32)), .val (.ref b), .val (.int (1 : Int32)), .val (.int (0 : Int32)), .val (.ref b87), .unset, .unset, .unset, .unset] [(.ref b)])) t
          refine XS.astore X87.here hx rfl (hb hby d13_39) rfl rfl (l' := #[.val (.int (0 : Int32)), .val (.ref b), .val (.int (1 : Int32)), .val (.int (0 : Int32)), .val (.ref b87), .val (.ref b), .unset, .unset, .unset]) rfl ?_
          show Steps p.tables e below (T87.setTop (mkF m 41 #[.val (.int (0 : Int32)), .val (.ref b), .val (.int (1 : Int32)), .val (.int (0 : Int32)), .val (.ref b87), .val (.ref b), .unset, .unset, .unset] [])) t
          refine XS.aload X87.here hx rfl (hb hby d13_41) rfl rfl ?_
          exact kt
        obtain ⟨cl94, Ar94, -, S94, M94, -, -⟩ := id F90
        have k95 : ∀ t, Steps p.tables e below (T87.setTop (mkF m 44 #[.val (.int (0 : Int32)), .val (.ref b), .val (.int (1 : Int32)), .val (.int (0 : Int32)), .val (.ref b87), .val (.ref b), .unset, .unset, .unset] [(.int (2 : Int32))])) t → Steps p.tables e below (s₁.setTop (entryFrame m #[(.int (0 : Int32)), (.ref b), (.int (1 : Int32))] 9)) t := fun t kt => k93 t (X87.arraylength hx Ar94.1 (State.isArrayOf_alike hZ.alike Ar94.2.1) (g := (mkF m 43 #[.val (.int (0 : Int32)), .val (.ref b), .val (.int (1 : Int32)), .val (.int (0 : Int32)), .val (.ref b87), .val (.ref b), .unset, .unset, .unset] [(.ref b)])) rfl rfl (hb hby d13_43) t (by rw [len_of S94 M94]; exact kt))
        have hc53_96 : (0 : Int32) < (2 : Int32) := by decide
        have k97 : ∀ t, Steps p.tables e below (T87.setTop (mkF m 60 #[.val (.int (0 : Int32)), .val (.ref b), .val (.int (1 : Int32)), .val (.int (0 : Int32)), .val (.ref b87), .val (.ref b), .val (.int (2 : Int32)), .val (.int (0 : Int32)), .unset] [(.int (0 : Int32)), (.ref b)])) t → Steps p.tables e below (s₁.setTop (entryFrame m #[(.int (0 : Int32)), (.ref b), (.int (1 : Int32))] 9)) t := by
          intro t kt
          refine k95 t ?_
          show Steps p.tables e below (T87.setTop (mkF m 44 #[.val (.int (0 : Int32)), .val (.ref b), .val (.int (1 : Int32)), .val (.int (0 : Int32)), .val (.ref b87), .val (.ref b), .unset, .unset, .unset] [(.int (2 : Int32))])) t
          refine XS.istore X87.here hx rfl (hb hby d13_44) rfl (l' := #[.val (.int (0 : Int32)), .val (.ref b), .val (.int (1 : Int32)), .val (.int (0 : Int32)), .val (.ref b87), .val (.ref b), .val (.int (2 : Int32)), .unset, .unset]) rfl ?_
          show Steps p.tables e below (T87.setTop (mkF m 46 #[.val (.int (0 : Int32)), .val (.ref b), .val (.int (1 : Int32)), .val (.int (0 : Int32)), .val (.ref b87), .val (.ref b), .val (.int (2 : Int32)), .unset, .unset] [])) t
          refine XS.iconst X87.here hx rfl (hb hby d13_46) ?_
          show Steps p.tables e below (T87.setTop (mkF m 47 #[.val (.int (0 : Int32)), .val (.ref b), .val (.int (1 : Int32)), .val (.int (0 : Int32)), .val (.ref b87), .val (.ref b), .val (.int (2 : Int32)), .unset, .unset] [(.int (0 : Int32))])) t
          refine XS.istore X87.here hx rfl (hb hby d13_47) rfl (l' := #[.val (.int (0 : Int32)), .val (.ref b), .val (.int (1 : Int32)), .val (.int (0 : Int32)), .val (.ref b87), .val (.ref b), .val (.int (2 : Int32)), .val (.int (0 : Int32)), .unset]) rfl ?_
          show Steps p.tables e below (T87.setTop (mkF m 49 #[.val (.int (0 : Int32)), .val (.ref b), .val (.int (1 : Int32)), .val (.int (0 : Int32)), .val (.ref b87), .val (.ref b), .val (.int (2 : Int32)), .val (.int (0 : Int32)), .unset] [])) t
          refine XS.iload X87.here hx rfl (hb hby d13_49) rfl ?_
          show Steps p.tables e below (T87.setTop (mkF m 51 #[.val (.int (0 : Int32)), .val (.ref b), .val (.int (1 : Int32)), .val (.int (0 : Int32)), .val (.ref b87), .val (.ref b), .val (.int (2 : Int32)), .val (.int (0 : Int32)), .unset] [(.int (0 : Int32))])) t
          refine XS.iload X87.here hx rfl (hb hby d13_51) rfl ?_
          show Steps p.tables e below (T87.setTop (mkF m 53 #[.val (.int (0 : Int32)), .val (.ref b), .val (.int (1 : Int32)), .val (.int (0 : Int32)), .val (.ref b87), .val (.ref b), .val (.int (2 : Int32)), .val (.int (0 : Int32)), .unset] [(.int (2 : Int32)), (.int (0 : Int32))])) t
          refine XS.icmpNo X87.here hx rfl (hb hby d13_53) rfl (tlt hc53_96).2.1 ?_
          show Steps p.tables e below (T87.setTop (mkF m 56 #[.val (.int (0 : Int32)), .val (.ref b), .val (.int (1 : Int32)), .val (.int (0 : Int32)), .val (.ref b87), .val (.ref b), .val (.int (2 : Int32)), .val (.int (0 : Int32)), .unset] [])) t
          refine XS.aload X87.here hx rfl (hb hby d13_56) rfl rfl ?_
          show Steps p.tables e below (T87.setTop (mkF m 58 #[.val (.int (0 : Int32)), .val (.ref b), .val (.int (1 : Int32)), .val (.int (0 : Int32)), .val (.ref b87), .val (.ref b), .val (.int (2 : Int32)), .val (.int (0 : Int32)), .unset] [(.ref b)])) t
          refine XS.iload X87.here hx rfl (hb hby d13_58) rfl ?_
          exact kt
        obtain ⟨cl98, Ar98, q98, S98, M98, H98, G98⟩ := id F90
        have hin98 : ¬ ((0 : Int32) < 0 ∨ cl98.slots.size ≤ ((0 : Int32)).toNatClampNeg) := inb_of S98 ⟨by decide, by decide⟩
        have hat98 : cl98.slots[((0 : Int32)).toNatClampNeg]? = some (.int ax) := Has.at H98 hin98 rfl
        have k99 : ∀ t, Steps p.tables e below (T87.setTop (mkF m 61 #[.val (.int (0 : Int32)), .val (.ref b), .val (.int (1 : Int32)), .val (.int (0 : Int32)), .val (.ref b87), .val (.ref b), .val (.int (2 : Int32)), .val (.int (0 : Int32)), .unset] [(.int ax)])) t → Steps p.tables e below (s₁.setTop (entryFrame m #[(.int (0 : Int32)), (.ref b), (.int (1 : Int32))] 9)) t := fun t kt => k97 t (X87.baloadBytes hx (j := (0 : Int32)) (v := (.int ax)) Ar98.1 (State.isArrayOf_alike hZ.alike Ar98.2.1) Ar98.2.2 hin98 hat98 (g := (mkF m 60 #[.val (.int (0 : Int32)), .val (.ref b), .val (.int (1 : Int32)), .val (.int (0 : Int32)), .val (.ref b87), .val (.ref b), .val (.int (2 : Int32)), .val (.int (0 : Int32)), .unset] [(.int (0 : Int32)), (.ref b)])) rfl rfl (hb hby d13_60) t kt)
        have k101 : ∀ t, Steps p.tables e below (T87.setTop (mkF m 88 #[.val (.int (0 : Int32)), .val (.ref b), .val (.int (1 : Int32)), .val (.int (1 : Int32)), .val (.ref b87), .val (.ref b), .val (.int (2 : Int32)), .val (.int (0 : Int32)), .val (.int ax)] [(.int (((192 : Int32) ||| ((ax &&& (255 : Int32)) >>> ((6 : Int32) &&& 31))).toInt8.toInt32)), (.int (0 : Int32)), (.ref b87)])) t → Steps p.tables e below (s₁.setTop (entryFrame m #[(.int (0 : Int32)), (.ref b), (.int (1 : Int32))] 9)) t := by
          intro t kt
          refine k99 t ?_
          show Steps p.tables e below (T87.setTop (mkF m 61 #[.val (.int (0 : Int32)), .val (.ref b), .val (.int (1 : Int32)), .val (.int (0 : Int32)), .val (.ref b87), .val (.ref b), .val (.int (2 : Int32)), .val (.int (0 : Int32)), .unset] [(.int ax)])) t
          refine XS.istore X87.here hx rfl (hb hby d13_61) rfl (l' := #[.val (.int (0 : Int32)), .val (.ref b), .val (.int (1 : Int32)), .val (.int (0 : Int32)), .val (.ref b87), .val (.ref b), .val (.int (2 : Int32)), .val (.int (0 : Int32)), .val (.int ax)]) rfl ?_
          show Steps p.tables e below (T87.setTop (mkF m 63 #[.val (.int (0 : Int32)), .val (.ref b), .val (.int (1 : Int32)), .val (.int (0 : Int32)), .val (.ref b87), .val (.ref b), .val (.int (2 : Int32)), .val (.int (0 : Int32)), .val (.int ax)] [])) t
          refine XS.iload X87.here hx rfl (hb hby d13_63) rfl ?_
          show Steps p.tables e below (T87.setTop (mkF m 65 #[.val (.int (0 : Int32)), .val (.ref b), .val (.int (1 : Int32)), .val (.int (0 : Int32)), .val (.ref b87), .val (.ref b), .val (.int (2 : Int32)), .val (.int (0 : Int32)), .val (.int ax)] [(.int ax)])) t
          refine XS.ifNo X87.here hx rfl (hb hby d13_65) rfl ((if0 _ _).trans (tlt hsx_76).2.1) ?_
          show Steps p.tables e below (T87.setTop (mkF m 68 #[.val (.int (0 : Int32)), .val (.ref b), .val (.int (1 : Int32)), .val (.int (0 : Int32)), .val (.ref b87), .val (.ref b), .val (.int (2 : Int32)), .val (.int (0 : Int32)), .val (.int ax)] [])) t
          refine XS.aload X87.here hx rfl (hb hby d13_68) rfl rfl ?_
          show Steps p.tables e below (T87.setTop (mkF m 70 #[.val (.int (0 : Int32)), .val (.ref b), .val (.int (1 : Int32)), .val (.int (0 : Int32)), .val (.ref b87), .val (.ref b), .val (.int (2 : Int32)), .val (.int (0 : Int32)), .val (.int ax)] [(.ref b87)])) t
          refine XS.iloadN X87.here hx rfl (hb hby d13_70) rfl ?_
          show Steps p.tables e below (T87.setTop (mkF m 71 #[.val (.int (0 : Int32)), .val (.ref b), .val (.int (1 : Int32)), .val (.int (0 : Int32)), .val (.ref b87), .val (.ref b), .val (.int (2 : Int32)), .val (.int (0 : Int32)), .val (.int ax)] [(.int (0 : Int32)), (.ref b87)])) t
          refine XS.iinc X87.here hx rfl (hb hby d13_71) rfl (l' := #[.val (.int (0 : Int32)), .val (.ref b), .val (.int (1 : Int32)), .val (.int (1 : Int32)), .val (.ref b87), .val (.ref b), .val (.int (2 : Int32)), .val (.int (0 : Int32)), .val (.int ax)]) rfl ?_
          show Steps p.tables e below (T87.setTop (mkF m 74 #[.val (.int (0 : Int32)), .val (.ref b), .val (.int (1 : Int32)), .val (.int (1 : Int32)), .val (.ref b87), .val (.ref b), .val (.int (2 : Int32)), .val (.int (0 : Int32)), .val (.int ax)] [(.int (0 : Int32)), (.ref b87)])) t
          refine XS.sipush X87.here hx rfl (hb hby d13_74) ?_
          show Steps p.tables e below (T87.setTop (mkF m 77 #[.val (.int (0 : Int32)), .val (.ref b), .val (.int (1 : Int32)), .val (.int (1 : Int32)), .val (.ref b87), .val (.ref b), .val (.int (2 : Int32)), .val (.int (0 : Int32)), .val (.int ax)] [(.int (192 : Int32)), (.int (0 : Int32)), (.ref b87)])) t
          refine XS.iload X87.here hx rfl (hb hby d13_77) rfl ?_
          show Steps p.tables e below (T87.setTop (mkF m 79 #[.val (.int (0 : Int32)), .val (.ref b), .val (.int (1 : Int32)), .val (.int (1 : Int32)), .val (.ref b87), .val (.ref b), .val (.int (2 : Int32)), .val (.int (0 : Int32)), .val (.int ax)] [(.int ax), (.int (192 : Int32)), (.int (0 : Int32)), (.ref b87)])) t
          refine XS.sipush X87.here hx rfl (hb hby d13_79) ?_
          show Steps p.tables e below (T87.setTop (mkF m 82 #[.val (.int (0 : Int32)), .val (.ref b), .val (.int (1 : Int32)), .val (.int (1 : Int32)), .val (.ref b87), .val (.ref b), .val (.int (2 : Int32)), .val (.int (0 : Int32)), .val (.int ax)] [(.int (255 : Int32)), (.int ax), (.int (192 : Int32)), (.int (0 : Int32)), (.ref b87)])) t
          refine XS.iand X87.here hx rfl (hb hby d13_82) rfl ?_
          show Steps p.tables e below (T87.setTop (mkF m 83 #[.val (.int (0 : Int32)), .val (.ref b), .val (.int (1 : Int32)), .val (.int (1 : Int32)), .val (.ref b87), .val (.ref b), .val (.int (2 : Int32)), .val (.int (0 : Int32)), .val (.int ax)] [(.int (ax &&& (255 : Int32))), (.int (192 : Int32)), (.int (0 : Int32)), (.ref b87)])) t
          refine XS.bipush X87.here hx rfl (hb hby d13_83) ?_
          show Steps p.tables e below (T87.setTop (mkF m 85 #[.val (.int (0 : Int32)), .val (.ref b), .val (.int (1 : Int32)), .val (.int (1 : Int32)), .val (.ref b87), .val (.ref b), .val (.int (2 : Int32)), .val (.int (0 : Int32)), .val (.int ax)] [(.int (6 : Int32)), (.int (ax &&& (255 : Int32))), (.int (192 : Int32)), (.int (0 : Int32)), (.ref b87)])) t
          refine XS.ishr X87.here hx rfl (hb hby d13_85) rfl ?_
          show Steps p.tables e below (T87.setTop (mkF m 86 #[.val (.int (0 : Int32)), .val (.ref b), .val (.int (1 : Int32)), .val (.int (1 : Int32)), .val (.ref b87), .val (.ref b), .val (.int (2 : Int32)), .val (.int (0 : Int32)), .val (.int ax)] [(.int ((ax &&& (255 : Int32)) >>> ((6 : Int32) &&& 31))), (.int (192 : Int32)), (.int (0 : Int32)), (.ref b87)])) t
          refine XS.ior X87.here hx rfl (hb hby d13_86) rfl ?_
          show Steps p.tables e below (T87.setTop (mkF m 87 #[.val (.int (0 : Int32)), .val (.ref b), .val (.int (1 : Int32)), .val (.int (1 : Int32)), .val (.ref b87), .val (.ref b), .val (.int (2 : Int32)), .val (.int (0 : Int32)), .val (.int ax)] [(.int ((192 : Int32) ||| ((ax &&& (255 : Int32)) >>> ((6 : Int32) &&& 31)))), (.int (0 : Int32)), (.ref b87)])) t
          refine XS.i2b X87.here hx rfl (hb hby d13_87) rfl ?_
          exact kt
        obtain ⟨cl102, Ar102, q102, S102, M102, H102, G102⟩ := id A87
        have hin102 : ¬ ((0 : Int32) < 0 ∨ cl102.slots.size ≤ ((0 : Int32)).toNatClampNeg) := inb_of S102 ⟨by decide, by decide⟩
        obtain ⟨T102, h102, X102, e102, W102, st102⟩ := stB X87 hx hZ rfl Ar102 (j := (0 : Int32)) hin102 (g := (mkF m 88 #[.val (.int (0 : Int32)), .val (.ref b), .val (.int (1 : Int32)), .val (.int (1 : Int32)), .val (.ref b87), .val (.ref b), .val (.int (2 : Int32)), .val (.int (0 : Int32)), .val (.int ax)] [(.int (((192 : Int32) ||| ((ax &&& (255 : Int32)) >>> ((6 : Int32) &&& 31))).toInt8.toInt32)), (.int (0 : Int32)), (.ref b87)])) rfl rfl (hb hby d13_88)
        have F103 : Arv Z h102 b87 c87k .byte (4 : Int32) [(.int ((((192 : Int32) ||| ((ax &&& (255 : Int32)) >>> ((6 : Int32) &&& 31))).toInt8.toInt32).toInt8.toInt32)), (.int (0 : Int32)), (.int (0 : Int32)), (.int (0 : Int32))] (.int (0 : Int32)) := Arv.set Ar102 q102 S102 M102 H102 G102 (fits_nar_byte _) W102 0 rfl (Nat.le_of_ble_eq_true rfl)
        have F104 := F89.wr W102
        have F105 := F90.other W102 ne88
        have Z102 : n0 ≤ h102.size := Nat.le_trans Z91 (Keep.of_wr W102).1
        have K102 : Keep h0 h102 [] := K91.wr W102 (Or.inr sz_b87)
        have N102 := Fr.snoc X102 N87 g_b87
        have k107 : ∀ t, Steps p.tables e below (T102.setTop (mkF m 89 #[.val (.int (0 : Int32)), .val (.ref b), .val (.int (1 : Int32)), .val (.int (1 : Int32)), .val (.ref b87), .val (.ref b), .val (.int (2 : Int32)), .val (.int (0 : Int32)), .val (.int ax)] [])) t → Steps p.tables e below (s₁.setTop (entryFrame m #[(.int (0 : Int32)), (.ref b), (.int (1 : Int32))] 9)) t := fun t kt => k101 t (st102 t kt)
        have k108 : ∀ t, Steps p.tables e below (T102.setTop (mkF m 105 #[.val (.int (0 : Int32)), .val (.ref b), .val (.int (1 : Int32)), .val (.int (2 : Int32)), .val (.ref b87), .val (.ref b), .val (.int (2 : Int32)), .val (.int (0 : Int32)), .val (.int ax)] [(.int (((128 : Int32) ||| (ax &&& (63 : Int32))).toInt8.toInt32)), (.int (1 : Int32)), (.ref b87)])) t → Steps p.tables e below (s₁.setTop (entryFrame m #[(.int (0 : Int32)), (.ref b), (.int (1 : Int32))] 9)) t := by
          intro t kt
          refine k107 t ?_
          show Steps p.tables e below (T102.setTop (mkF m 89 #[.val (.int (0 : Int32)), .val (.ref b), .val (.int (1 : Int32)), .val (.int (1 : Int32)), .val (.ref b87), .val (.ref b), .val (.int (2 : Int32)), .val (.int (0 : Int32)), .val (.int ax)] [])) t
          refine XS.aload X102.here hx rfl (hb hby d13_89) rfl rfl ?_
          show Steps p.tables e below (T102.setTop (mkF m 91 #[.val (.int (0 : Int32)), .val (.ref b), .val (.int (1 : Int32)), .val (.int (1 : Int32)), .val (.ref b87), .val (.ref b), .val (.int (2 : Int32)), .val (.int (0 : Int32)), .val (.int ax)] [(.ref b87)])) t
          refine XS.iloadN X102.here hx rfl (hb hby d13_91) rfl ?_
          show Steps p.tables e below (T102.setTop (mkF m 92 #[.val (.int (0 : Int32)), .val (.ref b), .val (.int (1 : Int32)), .val (.int (1 : Int32)), .val (.ref b87), .val (.ref b), .val (.int (2 : Int32)), .val (.int (0 : Int32)), .val (.int ax)] [(.int (1 : Int32)), (.ref b87)])) t
          refine XS.iinc X102.here hx rfl (hb hby d13_92) rfl (l' := #[.val (.int (0 : Int32)), .val (.ref b), .val (.int (1 : Int32)), .val (.int (2 : Int32)), .val (.ref b87), .val (.ref b), .val (.int (2 : Int32)), .val (.int (0 : Int32)), .val (.int ax)]) rfl ?_
          show Steps p.tables e below (T102.setTop (mkF m 95 #[.val (.int (0 : Int32)), .val (.ref b), .val (.int (1 : Int32)), .val (.int (2 : Int32)), .val (.ref b87), .val (.ref b), .val (.int (2 : Int32)), .val (.int (0 : Int32)), .val (.int ax)] [(.int (1 : Int32)), (.ref b87)])) t
          refine XS.sipush X102.here hx rfl (hb hby d13_95) ?_
          show Steps p.tables e below (T102.setTop (mkF m 98 #[.val (.int (0 : Int32)), .val (.ref b), .val (.int (1 : Int32)), .val (.int (2 : Int32)), .val (.ref b87), .val (.ref b), .val (.int (2 : Int32)), .val (.int (0 : Int32)), .val (.int ax)] [(.int (128 : Int32)), (.int (1 : Int32)), (.ref b87)])) t
          refine XS.iload X102.here hx rfl (hb hby d13_98) rfl ?_
          show Steps p.tables e below (T102.setTop (mkF m 100 #[.val (.int (0 : Int32)), .val (.ref b), .val (.int (1 : Int32)), .val (.int (2 : Int32)), .val (.ref b87), .val (.ref b), .val (.int (2 : Int32)), .val (.int (0 : Int32)), .val (.int ax)] [(.int ax), (.int (128 : Int32)), (.int (1 : Int32)), (.ref b87)])) t
          refine XS.bipush X102.here hx rfl (hb hby d13_100) ?_
          show Steps p.tables e below (T102.setTop (mkF m 102 #[.val (.int (0 : Int32)), .val (.ref b), .val (.int (1 : Int32)), .val (.int (2 : Int32)), .val (.ref b87), .val (.ref b), .val (.int (2 : Int32)), .val (.int (0 : Int32)), .val (.int ax)] [(.int (63 : Int32)), (.int ax), (.int (128 : Int32)), (.int (1 : Int32)), (.ref b87)])) t
          refine XS.iand X102.here hx rfl (hb hby d13_102) rfl ?_
          show Steps p.tables e below (T102.setTop (mkF m 103 #[.val (.int (0 : Int32)), .val (.ref b), .val (.int (1 : Int32)), .val (.int (2 : Int32)), .val (.ref b87), .val (.ref b), .val (.int (2 : Int32)), .val (.int (0 : Int32)), .val (.int ax)] [(.int (ax &&& (63 : Int32))), (.int (128 : Int32)), (.int (1 : Int32)), (.ref b87)])) t
          refine XS.ior X102.here hx rfl (hb hby d13_103) rfl ?_
          show Steps p.tables e below (T102.setTop (mkF m 104 #[.val (.int (0 : Int32)), .val (.ref b), .val (.int (1 : Int32)), .val (.int (2 : Int32)), .val (.ref b87), .val (.ref b), .val (.int (2 : Int32)), .val (.int (0 : Int32)), .val (.int ax)] [(.int ((128 : Int32) ||| (ax &&& (63 : Int32)))), (.int (1 : Int32)), (.ref b87)])) t
          refine XS.i2b X102.here hx rfl (hb hby d13_104) rfl ?_
          exact kt
        obtain ⟨cl109, Ar109, q109, S109, M109, H109, G109⟩ := id F103
        have hin109 : ¬ ((1 : Int32) < 0 ∨ cl109.slots.size ≤ ((1 : Int32)).toNatClampNeg) := inb_of S109 ⟨by decide, by decide⟩
        obtain ⟨T109, h109, X109, e109, W109, st109⟩ := stB X102 hx hZ e102 Ar109 (j := (1 : Int32)) hin109 (g := (mkF m 105 #[.val (.int (0 : Int32)), .val (.ref b), .val (.int (1 : Int32)), .val (.int (2 : Int32)), .val (.ref b87), .val (.ref b), .val (.int (2 : Int32)), .val (.int (0 : Int32)), .val (.int ax)] [(.int (((128 : Int32) ||| (ax &&& (63 : Int32))).toInt8.toInt32)), (.int (1 : Int32)), (.ref b87)])) rfl rfl (hb hby d13_105)
        have F110 : Arv Z h109 b87 c87k .byte (4 : Int32) [(.int ((((192 : Int32) ||| ((ax &&& (255 : Int32)) >>> ((6 : Int32) &&& 31))).toInt8.toInt32).toInt8.toInt32)), (.int ((((128 : Int32) ||| (ax &&& (63 : Int32))).toInt8.toInt32).toInt8.toInt32)), (.int (0 : Int32)), (.int (0 : Int32))] (.int (0 : Int32)) := Arv.set Ar109 q109 S109 M109 H109 G109 (fits_nar_byte _) W109 1 rfl (Nat.le_of_ble_eq_true rfl)
        have F111 := F104.wr W109
        have F112 := F105.other W109 ne88
        have Z109 : n0 ≤ h109.size := Nat.le_trans Z102 (Keep.of_wr W109).1
        have K109 : Keep h0 h109 [] := K102.wr W109 (Or.inr sz_b87)
        have N109 := Fr.snoc X109 N102 g_b87
        have k114 : ∀ t, Steps p.tables e below (T109.setTop (mkF m 106 #[.val (.int (0 : Int32)), .val (.ref b), .val (.int (1 : Int32)), .val (.int (2 : Int32)), .val (.ref b87), .val (.ref b), .val (.int (2 : Int32)), .val (.int (0 : Int32)), .val (.int ax)] [])) t → Steps p.tables e below (s₁.setTop (entryFrame m #[(.int (0 : Int32)), (.ref b), (.int (1 : Int32))] 9)) t := fun t kt => k108 t (st109 t kt)
        have hc53_115 : (1 : Int32) < (2 : Int32) := by decide
        have k116 : ∀ t, Steps p.tables e below (T109.setTop (mkF m 60 #[.val (.int (0 : Int32)), .val (.ref b), .val (.int (1 : Int32)), .val (.int (2 : Int32)), .val (.ref b87), .val (.ref b), .val (.int (2 : Int32)), .val (.int (1 : Int32)), .val (.int ax)] [(.int (1 : Int32)), (.ref b)])) t → Steps p.tables e below (s₁.setTop (entryFrame m #[(.int (0 : Int32)), (.ref b), (.int (1 : Int32))] 9)) t := by
          intro t kt
          refine k114 t ?_
          show Steps p.tables e below (T109.setTop (mkF m 106 #[.val (.int (0 : Int32)), .val (.ref b), .val (.int (1 : Int32)), .val (.int (2 : Int32)), .val (.ref b87), .val (.ref b), .val (.int (2 : Int32)), .val (.int (0 : Int32)), .val (.int ax)] [])) t
          refine XS.goto X109.here hx rfl (pc0 := 106) (pc' := 118) rfl (hb hby d13_106) (by decide) (by decide) ?_
          show Steps p.tables e below (T109.setTop (mkF m 118 #[.val (.int (0 : Int32)), .val (.ref b), .val (.int (1 : Int32)), .val (.int (2 : Int32)), .val (.ref b87), .val (.ref b), .val (.int (2 : Int32)), .val (.int (0 : Int32)), .val (.int ax)] [])) t
          refine XS.iinc X109.here hx rfl (hb hby d13_118) rfl (l' := #[.val (.int (0 : Int32)), .val (.ref b), .val (.int (1 : Int32)), .val (.int (2 : Int32)), .val (.ref b87), .val (.ref b), .val (.int (2 : Int32)), .val (.int (1 : Int32)), .val (.int ax)]) rfl ?_
          show Steps p.tables e below (T109.setTop (mkF m 121 #[.val (.int (0 : Int32)), .val (.ref b), .val (.int (1 : Int32)), .val (.int (2 : Int32)), .val (.ref b87), .val (.ref b), .val (.int (2 : Int32)), .val (.int (1 : Int32)), .val (.int ax)] [])) t
          refine XS.goto X109.here hx rfl (pc0 := 121) (pc' := 49) rfl (hb hby d13_121) (by decide) (by decide) ?_
          show Steps p.tables e below (T109.setTop (mkF m 49 #[.val (.int (0 : Int32)), .val (.ref b), .val (.int (1 : Int32)), .val (.int (2 : Int32)), .val (.ref b87), .val (.ref b), .val (.int (2 : Int32)), .val (.int (1 : Int32)), .val (.int ax)] [])) t
          refine XS.iload X109.here hx rfl (hb hby d13_49) rfl ?_
          show Steps p.tables e below (T109.setTop (mkF m 51 #[.val (.int (0 : Int32)), .val (.ref b), .val (.int (1 : Int32)), .val (.int (2 : Int32)), .val (.ref b87), .val (.ref b), .val (.int (2 : Int32)), .val (.int (1 : Int32)), .val (.int ax)] [(.int (1 : Int32))])) t
          refine XS.iload X109.here hx rfl (hb hby d13_51) rfl ?_
          show Steps p.tables e below (T109.setTop (mkF m 53 #[.val (.int (0 : Int32)), .val (.ref b), .val (.int (1 : Int32)), .val (.int (2 : Int32)), .val (.ref b87), .val (.ref b), .val (.int (2 : Int32)), .val (.int (1 : Int32)), .val (.int ax)] [(.int (2 : Int32)), (.int (1 : Int32))])) t
          refine XS.icmpNo X109.here hx rfl (hb hby d13_53) rfl (tlt hc53_115).2.1 ?_
          show Steps p.tables e below (T109.setTop (mkF m 56 #[.val (.int (0 : Int32)), .val (.ref b), .val (.int (1 : Int32)), .val (.int (2 : Int32)), .val (.ref b87), .val (.ref b), .val (.int (2 : Int32)), .val (.int (1 : Int32)), .val (.int ax)] [])) t
          refine XS.aload X109.here hx rfl (hb hby d13_56) rfl rfl ?_
          show Steps p.tables e below (T109.setTop (mkF m 58 #[.val (.int (0 : Int32)), .val (.ref b), .val (.int (1 : Int32)), .val (.int (2 : Int32)), .val (.ref b87), .val (.ref b), .val (.int (2 : Int32)), .val (.int (1 : Int32)), .val (.int ax)] [(.ref b)])) t
          refine XS.iload X109.here hx rfl (hb hby d13_58) rfl ?_
          exact kt
        obtain ⟨cl117, Ar117, q117, S117, M117, H117, G117⟩ := id F112
        have hin117 : ¬ ((1 : Int32) < 0 ∨ cl117.slots.size ≤ ((1 : Int32)).toNatClampNeg) := inb_of S117 ⟨by decide, by decide⟩
        have hat117 : cl117.slots[((1 : Int32)).toNatClampNeg]? = some (.int ay) := Has.at H117 hin117 rfl
        have k118 : ∀ t, Steps p.tables e below (T109.setTop (mkF m 61 #[.val (.int (0 : Int32)), .val (.ref b), .val (.int (1 : Int32)), .val (.int (2 : Int32)), .val (.ref b87), .val (.ref b), .val (.int (2 : Int32)), .val (.int (1 : Int32)), .val (.int ax)] [(.int ay)])) t → Steps p.tables e below (s₁.setTop (entryFrame m #[(.int (0 : Int32)), (.ref b), (.int (1 : Int32))] 9)) t := fun t kt => k116 t (X109.baloadBytes hx (j := (1 : Int32)) (v := (.int ay)) (by rw [e109]; exact Ar117.1) (State.isArrayOf_alike hZ.alike Ar117.2.1) Ar117.2.2 hin117 hat117 (g := (mkF m 60 #[.val (.int (0 : Int32)), .val (.ref b), .val (.int (1 : Int32)), .val (.int (2 : Int32)), .val (.ref b87), .val (.ref b), .val (.int (2 : Int32)), .val (.int (1 : Int32)), .val (.int ax)] [(.int (1 : Int32)), (.ref b)])) rfl rfl (hb hby d13_60) t kt)
        have k120 : ∀ t, Steps p.tables e below (T109.setTop (mkF m 65 #[.val (.int (0 : Int32)), .val (.ref b), .val (.int (1 : Int32)), .val (.int (2 : Int32)), .val (.ref b87), .val (.ref b), .val (.int (2 : Int32)), .val (.int (1 : Int32)), .val (.int ay)] [(.int ay)])) t → Steps p.tables e below (s₁.setTop (entryFrame m #[(.int (0 : Int32)), (.ref b), (.int (1 : Int32))] 9)) t := by
          intro t kt
          refine k118 t ?_
          show Steps p.tables e below (T109.setTop (mkF m 61 #[.val (.int (0 : Int32)), .val (.ref b), .val (.int (1 : Int32)), .val (.int (2 : Int32)), .val (.ref b87), .val (.ref b), .val (.int (2 : Int32)), .val (.int (1 : Int32)), .val (.int ax)] [(.int ay)])) t
          refine XS.istore X109.here hx rfl (hb hby d13_61) rfl (l' := #[.val (.int (0 : Int32)), .val (.ref b), .val (.int (1 : Int32)), .val (.int (2 : Int32)), .val (.ref b87), .val (.ref b), .val (.int (2 : Int32)), .val (.int (1 : Int32)), .val (.int ay)]) rfl ?_
          show Steps p.tables e below (T109.setTop (mkF m 63 #[.val (.int (0 : Int32)), .val (.ref b), .val (.int (1 : Int32)), .val (.int (2 : Int32)), .val (.ref b87), .val (.ref b), .val (.int (2 : Int32)), .val (.int (1 : Int32)), .val (.int ay)] [])) t
          refine XS.iload X109.here hx rfl (hb hby d13_63) rfl ?_
          exact kt
        by_cases hc65_119 : ay < (0 : Int32)
        · have k121 : ∀ t, Steps p.tables e below (T109.setTop (mkF m 88 #[.val (.int (0 : Int32)), .val (.ref b), .val (.int (1 : Int32)), .val (.int (3 : Int32)), .val (.ref b87), .val (.ref b), .val (.int (2 : Int32)), .val (.int (1 : Int32)), .val (.int ay)] [(.int (((192 : Int32) ||| ((ay &&& (255 : Int32)) >>> ((6 : Int32) &&& 31))).toInt8.toInt32)), (.int (2 : Int32)), (.ref b87)])) t → Steps p.tables e below (s₁.setTop (entryFrame m #[(.int (0 : Int32)), (.ref b), (.int (1 : Int32))] 9)) t := by
            intro t kt
            refine k120 t ?_
            show Steps p.tables e below (T109.setTop (mkF m 65 #[.val (.int (0 : Int32)), .val (.ref b), .val (.int (1 : Int32)), .val (.int (2 : Int32)), .val (.ref b87), .val (.ref b), .val (.int (2 : Int32)), .val (.int (1 : Int32)), .val (.int ay)] [(.int ay)])) t
            refine XS.ifNo X109.here hx rfl (hb hby d13_65) rfl ((if0 _ _).trans (tlt hc65_119).2.1) ?_
            show Steps p.tables e below (T109.setTop (mkF m 68 #[.val (.int (0 : Int32)), .val (.ref b), .val (.int (1 : Int32)), .val (.int (2 : Int32)), .val (.ref b87), .val (.ref b), .val (.int (2 : Int32)), .val (.int (1 : Int32)), .val (.int ay)] [])) t
            refine XS.aload X109.here hx rfl (hb hby d13_68) rfl rfl ?_
            show Steps p.tables e below (T109.setTop (mkF m 70 #[.val (.int (0 : Int32)), .val (.ref b), .val (.int (1 : Int32)), .val (.int (2 : Int32)), .val (.ref b87), .val (.ref b), .val (.int (2 : Int32)), .val (.int (1 : Int32)), .val (.int ay)] [(.ref b87)])) t
            refine XS.iloadN X109.here hx rfl (hb hby d13_70) rfl ?_
            show Steps p.tables e below (T109.setTop (mkF m 71 #[.val (.int (0 : Int32)), .val (.ref b), .val (.int (1 : Int32)), .val (.int (2 : Int32)), .val (.ref b87), .val (.ref b), .val (.int (2 : Int32)), .val (.int (1 : Int32)), .val (.int ay)] [(.int (2 : Int32)), (.ref b87)])) t
            refine XS.iinc X109.here hx rfl (hb hby d13_71) rfl (l' := #[.val (.int (0 : Int32)), .val (.ref b), .val (.int (1 : Int32)), .val (.int (3 : Int32)), .val (.ref b87), .val (.ref b), .val (.int (2 : Int32)), .val (.int (1 : Int32)), .val (.int ay)]) rfl ?_
            show Steps p.tables e below (T109.setTop (mkF m 74 #[.val (.int (0 : Int32)), .val (.ref b), .val (.int (1 : Int32)), .val (.int (3 : Int32)), .val (.ref b87), .val (.ref b), .val (.int (2 : Int32)), .val (.int (1 : Int32)), .val (.int ay)] [(.int (2 : Int32)), (.ref b87)])) t
            refine XS.sipush X109.here hx rfl (hb hby d13_74) ?_
            show Steps p.tables e below (T109.setTop (mkF m 77 #[.val (.int (0 : Int32)), .val (.ref b), .val (.int (1 : Int32)), .val (.int (3 : Int32)), .val (.ref b87), .val (.ref b), .val (.int (2 : Int32)), .val (.int (1 : Int32)), .val (.int ay)] [(.int (192 : Int32)), (.int (2 : Int32)), (.ref b87)])) t
            refine XS.iload X109.here hx rfl (hb hby d13_77) rfl ?_
            show Steps p.tables e below (T109.setTop (mkF m 79 #[.val (.int (0 : Int32)), .val (.ref b), .val (.int (1 : Int32)), .val (.int (3 : Int32)), .val (.ref b87), .val (.ref b), .val (.int (2 : Int32)), .val (.int (1 : Int32)), .val (.int ay)] [(.int ay), (.int (192 : Int32)), (.int (2 : Int32)), (.ref b87)])) t
            refine XS.sipush X109.here hx rfl (hb hby d13_79) ?_
            show Steps p.tables e below (T109.setTop (mkF m 82 #[.val (.int (0 : Int32)), .val (.ref b), .val (.int (1 : Int32)), .val (.int (3 : Int32)), .val (.ref b87), .val (.ref b), .val (.int (2 : Int32)), .val (.int (1 : Int32)), .val (.int ay)] [(.int (255 : Int32)), (.int ay), (.int (192 : Int32)), (.int (2 : Int32)), (.ref b87)])) t
            refine XS.iand X109.here hx rfl (hb hby d13_82) rfl ?_
            show Steps p.tables e below (T109.setTop (mkF m 83 #[.val (.int (0 : Int32)), .val (.ref b), .val (.int (1 : Int32)), .val (.int (3 : Int32)), .val (.ref b87), .val (.ref b), .val (.int (2 : Int32)), .val (.int (1 : Int32)), .val (.int ay)] [(.int (ay &&& (255 : Int32))), (.int (192 : Int32)), (.int (2 : Int32)), (.ref b87)])) t
            refine XS.bipush X109.here hx rfl (hb hby d13_83) ?_
            show Steps p.tables e below (T109.setTop (mkF m 85 #[.val (.int (0 : Int32)), .val (.ref b), .val (.int (1 : Int32)), .val (.int (3 : Int32)), .val (.ref b87), .val (.ref b), .val (.int (2 : Int32)), .val (.int (1 : Int32)), .val (.int ay)] [(.int (6 : Int32)), (.int (ay &&& (255 : Int32))), (.int (192 : Int32)), (.int (2 : Int32)), (.ref b87)])) t
            refine XS.ishr X109.here hx rfl (hb hby d13_85) rfl ?_
            show Steps p.tables e below (T109.setTop (mkF m 86 #[.val (.int (0 : Int32)), .val (.ref b), .val (.int (1 : Int32)), .val (.int (3 : Int32)), .val (.ref b87), .val (.ref b), .val (.int (2 : Int32)), .val (.int (1 : Int32)), .val (.int ay)] [(.int ((ay &&& (255 : Int32)) >>> ((6 : Int32) &&& 31))), (.int (192 : Int32)), (.int (2 : Int32)), (.ref b87)])) t
            refine XS.ior X109.here hx rfl (hb hby d13_86) rfl ?_
            show Steps p.tables e below (T109.setTop (mkF m 87 #[.val (.int (0 : Int32)), .val (.ref b), .val (.int (1 : Int32)), .val (.int (3 : Int32)), .val (.ref b87), .val (.ref b), .val (.int (2 : Int32)), .val (.int (1 : Int32)), .val (.int ay)] [(.int ((192 : Int32) ||| ((ay &&& (255 : Int32)) >>> ((6 : Int32) &&& 31)))), (.int (2 : Int32)), (.ref b87)])) t
            refine XS.i2b X109.here hx rfl (hb hby d13_87) rfl ?_
            exact kt
          obtain ⟨cl122, Ar122, q122, S122, M122, H122, G122⟩ := id F110
          have hin122 : ¬ ((2 : Int32) < 0 ∨ cl122.slots.size ≤ ((2 : Int32)).toNatClampNeg) := inb_of S122 ⟨by decide, by decide⟩
          obtain ⟨T122, h122, X122, e122, W122, st122⟩ := stB X109 hx hZ e109 Ar122 (j := (2 : Int32)) hin122 (g := (mkF m 88 #[.val (.int (0 : Int32)), .val (.ref b), .val (.int (1 : Int32)), .val (.int (3 : Int32)), .val (.ref b87), .val (.ref b), .val (.int (2 : Int32)), .val (.int (1 : Int32)), .val (.int ay)] [(.int (((192 : Int32) ||| ((ay &&& (255 : Int32)) >>> ((6 : Int32) &&& 31))).toInt8.toInt32)), (.int (2 : Int32)), (.ref b87)])) rfl rfl (hb hby d13_88)
          have F123 : Arv Z h122 b87 c87k .byte (4 : Int32) [(.int ((((192 : Int32) ||| ((ax &&& (255 : Int32)) >>> ((6 : Int32) &&& 31))).toInt8.toInt32).toInt8.toInt32)), (.int ((((128 : Int32) ||| (ax &&& (63 : Int32))).toInt8.toInt32).toInt8.toInt32)), (.int ((((192 : Int32) ||| ((ay &&& (255 : Int32)) >>> ((6 : Int32) &&& 31))).toInt8.toInt32).toInt8.toInt32)), (.int (0 : Int32))] (.int (0 : Int32)) := Arv.set Ar122 q122 S122 M122 H122 G122 (fits_nar_byte _) W122 2 rfl (Nat.le_of_ble_eq_true rfl)
          have F124 := F111.wr W122
          have F125 := F112.other W122 ne88
          have Z122 : n0 ≤ h122.size := Nat.le_trans Z109 (Keep.of_wr W122).1
          have K122 : Keep h0 h122 [] := K109.wr W122 (Or.inr sz_b87)
          have N122 := Fr.snoc X122 N109 g_b87
          have k127 : ∀ t, Steps p.tables e below (T122.setTop (mkF m 89 #[.val (.int (0 : Int32)), .val (.ref b), .val (.int (1 : Int32)), .val (.int (3 : Int32)), .val (.ref b87), .val (.ref b), .val (.int (2 : Int32)), .val (.int (1 : Int32)), .val (.int ay)] [])) t → Steps p.tables e below (s₁.setTop (entryFrame m #[(.int (0 : Int32)), (.ref b), (.int (1 : Int32))] 9)) t := fun t kt => k121 t (st122 t kt)
          have k128 : ∀ t, Steps p.tables e below (T122.setTop (mkF m 105 #[.val (.int (0 : Int32)), .val (.ref b), .val (.int (1 : Int32)), .val (.int (4 : Int32)), .val (.ref b87), .val (.ref b), .val (.int (2 : Int32)), .val (.int (1 : Int32)), .val (.int ay)] [(.int (((128 : Int32) ||| (ay &&& (63 : Int32))).toInt8.toInt32)), (.int (3 : Int32)), (.ref b87)])) t → Steps p.tables e below (s₁.setTop (entryFrame m #[(.int (0 : Int32)), (.ref b), (.int (1 : Int32))] 9)) t := by
            intro t kt
            refine k127 t ?_
            show Steps p.tables e below (T122.setTop (mkF m 89 #[.val (.int (0 : Int32)), .val (.ref b), .val (.int (1 : Int32)), .val (.int (3 : Int32)), .val (.ref b87), .val (.ref b), .val (.int (2 : Int32)), .val (.int (1 : Int32)), .val (.int ay)] [])) t
            refine XS.aload X122.here hx rfl (hb hby d13_89) rfl rfl ?_
            show Steps p.tables e below (T122.setTop (mkF m 91 #[.val (.int (0 : Int32)), .val (.ref b), .val (.int (1 : Int32)), .val (.int (3 : Int32)), .val (.ref b87), .val (.ref b), .val (.int (2 : Int32)), .val (.int (1 : Int32)), .val (.int ay)] [(.ref b87)])) t
            refine XS.iloadN X122.here hx rfl (hb hby d13_91) rfl ?_
            show Steps p.tables e below (T122.setTop (mkF m 92 #[.val (.int (0 : Int32)), .val (.ref b), .val (.int (1 : Int32)), .val (.int (3 : Int32)), .val (.ref b87), .val (.ref b), .val (.int (2 : Int32)), .val (.int (1 : Int32)), .val (.int ay)] [(.int (3 : Int32)), (.ref b87)])) t
            refine XS.iinc X122.here hx rfl (hb hby d13_92) rfl (l' := #[.val (.int (0 : Int32)), .val (.ref b), .val (.int (1 : Int32)), .val (.int (4 : Int32)), .val (.ref b87), .val (.ref b), .val (.int (2 : Int32)), .val (.int (1 : Int32)), .val (.int ay)]) rfl ?_
            show Steps p.tables e below (T122.setTop (mkF m 95 #[.val (.int (0 : Int32)), .val (.ref b), .val (.int (1 : Int32)), .val (.int (4 : Int32)), .val (.ref b87), .val (.ref b), .val (.int (2 : Int32)), .val (.int (1 : Int32)), .val (.int ay)] [(.int (3 : Int32)), (.ref b87)])) t
            refine XS.sipush X122.here hx rfl (hb hby d13_95) ?_
            show Steps p.tables e below (T122.setTop (mkF m 98 #[.val (.int (0 : Int32)), .val (.ref b), .val (.int (1 : Int32)), .val (.int (4 : Int32)), .val (.ref b87), .val (.ref b), .val (.int (2 : Int32)), .val (.int (1 : Int32)), .val (.int ay)] [(.int (128 : Int32)), (.int (3 : Int32)), (.ref b87)])) t
            refine XS.iload X122.here hx rfl (hb hby d13_98) rfl ?_
            show Steps p.tables e below (T122.setTop (mkF m 100 #[.val (.int (0 : Int32)), .val (.ref b), .val (.int (1 : Int32)), .val (.int (4 : Int32)), .val (.ref b87), .val (.ref b), .val (.int (2 : Int32)), .val (.int (1 : Int32)), .val (.int ay)] [(.int ay), (.int (128 : Int32)), (.int (3 : Int32)), (.ref b87)])) t
            refine XS.bipush X122.here hx rfl (hb hby d13_100) ?_
            show Steps p.tables e below (T122.setTop (mkF m 102 #[.val (.int (0 : Int32)), .val (.ref b), .val (.int (1 : Int32)), .val (.int (4 : Int32)), .val (.ref b87), .val (.ref b), .val (.int (2 : Int32)), .val (.int (1 : Int32)), .val (.int ay)] [(.int (63 : Int32)), (.int ay), (.int (128 : Int32)), (.int (3 : Int32)), (.ref b87)])) t
            refine XS.iand X122.here hx rfl (hb hby d13_102) rfl ?_
            show Steps p.tables e below (T122.setTop (mkF m 103 #[.val (.int (0 : Int32)), .val (.ref b), .val (.int (1 : Int32)), .val (.int (4 : Int32)), .val (.ref b87), .val (.ref b), .val (.int (2 : Int32)), .val (.int (1 : Int32)), .val (.int ay)] [(.int (ay &&& (63 : Int32))), (.int (128 : Int32)), (.int (3 : Int32)), (.ref b87)])) t
            refine XS.ior X122.here hx rfl (hb hby d13_103) rfl ?_
            show Steps p.tables e below (T122.setTop (mkF m 104 #[.val (.int (0 : Int32)), .val (.ref b), .val (.int (1 : Int32)), .val (.int (4 : Int32)), .val (.ref b87), .val (.ref b), .val (.int (2 : Int32)), .val (.int (1 : Int32)), .val (.int ay)] [(.int ((128 : Int32) ||| (ay &&& (63 : Int32)))), (.int (3 : Int32)), (.ref b87)])) t
            refine XS.i2b X122.here hx rfl (hb hby d13_104) rfl ?_
            exact kt
          obtain ⟨cl129, Ar129, q129, S129, M129, H129, G129⟩ := id F123
          have hin129 : ¬ ((3 : Int32) < 0 ∨ cl129.slots.size ≤ ((3 : Int32)).toNatClampNeg) := inb_of S129 ⟨by decide, by decide⟩
          obtain ⟨T129, h129, X129, e129, W129, st129⟩ := stB X122 hx hZ e122 Ar129 (j := (3 : Int32)) hin129 (g := (mkF m 105 #[.val (.int (0 : Int32)), .val (.ref b), .val (.int (1 : Int32)), .val (.int (4 : Int32)), .val (.ref b87), .val (.ref b), .val (.int (2 : Int32)), .val (.int (1 : Int32)), .val (.int ay)] [(.int (((128 : Int32) ||| (ay &&& (63 : Int32))).toInt8.toInt32)), (.int (3 : Int32)), (.ref b87)])) rfl rfl (hb hby d13_105)
          have F130 : Arv Z h129 b87 c87k .byte (4 : Int32) [(.int ((((192 : Int32) ||| ((ax &&& (255 : Int32)) >>> ((6 : Int32) &&& 31))).toInt8.toInt32).toInt8.toInt32)), (.int ((((128 : Int32) ||| (ax &&& (63 : Int32))).toInt8.toInt32).toInt8.toInt32)), (.int ((((192 : Int32) ||| ((ay &&& (255 : Int32)) >>> ((6 : Int32) &&& 31))).toInt8.toInt32).toInt8.toInt32)), (.int ((((128 : Int32) ||| (ay &&& (63 : Int32))).toInt8.toInt32).toInt8.toInt32))] (.int (0 : Int32)) := Arv.set Ar129 q129 S129 M129 H129 G129 (fits_nar_byte _) W129 3 rfl (Nat.le_of_ble_eq_true rfl)
          have F131 := F124.wr W129
          have F132 := F125.other W129 ne88
          have Z129 : n0 ≤ h129.size := Nat.le_trans Z122 (Keep.of_wr W129).1
          have K129 : Keep h0 h129 [] := K122.wr W129 (Or.inr sz_b87)
          have N129 := Fr.snoc X129 N122 g_b87
          have k134 : ∀ t, Steps p.tables e below (T129.setTop (mkF m 106 #[.val (.int (0 : Int32)), .val (.ref b), .val (.int (1 : Int32)), .val (.int (4 : Int32)), .val (.ref b87), .val (.ref b), .val (.int (2 : Int32)), .val (.int (1 : Int32)), .val (.int ay)] [])) t → Steps p.tables e below (s₁.setTop (entryFrame m #[(.int (0 : Int32)), (.ref b), (.int (1 : Int32))] 9)) t := fun t kt => k128 t (st129 t kt)
          have hc53_135 : ¬ ((2 : Int32) < (2 : Int32)) := by decide
          have k136 : ∀ t, Steps p.tables e below (T129.setTop (mkF m 127 #[.val (.int (0 : Int32)), .val (.ref b), .val (.int (1 : Int32)), .val (.int (4 : Int32)), .val (.ref b87), .val (.ref b), .val (.int (2 : Int32)), .val (.int (2 : Int32)), .val (.int ay)] [(.ref b87), (.int (4 : Int32))])) t → Steps p.tables e below (s₁.setTop (entryFrame m #[(.int (0 : Int32)), (.ref b), (.int (1 : Int32))] 9)) t := by
            intro t kt
            refine k134 t ?_
            show Steps p.tables e below (T129.setTop (mkF m 106 #[.val (.int (0 : Int32)), .val (.ref b), .val (.int (1 : Int32)), .val (.int (4 : Int32)), .val (.ref b87), .val (.ref b), .val (.int (2 : Int32)), .val (.int (1 : Int32)), .val (.int ay)] [])) t
            refine XS.goto X129.here hx rfl (pc0 := 106) (pc' := 118) rfl (hb hby d13_106) (by decide) (by decide) ?_
            show Steps p.tables e below (T129.setTop (mkF m 118 #[.val (.int (0 : Int32)), .val (.ref b), .val (.int (1 : Int32)), .val (.int (4 : Int32)), .val (.ref b87), .val (.ref b), .val (.int (2 : Int32)), .val (.int (1 : Int32)), .val (.int ay)] [])) t
            refine XS.iinc X129.here hx rfl (hb hby d13_118) rfl (l' := #[.val (.int (0 : Int32)), .val (.ref b), .val (.int (1 : Int32)), .val (.int (4 : Int32)), .val (.ref b87), .val (.ref b), .val (.int (2 : Int32)), .val (.int (2 : Int32)), .val (.int ay)]) rfl ?_
            show Steps p.tables e below (T129.setTop (mkF m 121 #[.val (.int (0 : Int32)), .val (.ref b), .val (.int (1 : Int32)), .val (.int (4 : Int32)), .val (.ref b87), .val (.ref b), .val (.int (2 : Int32)), .val (.int (2 : Int32)), .val (.int ay)] [])) t
            refine XS.goto X129.here hx rfl (pc0 := 121) (pc' := 49) rfl (hb hby d13_121) (by decide) (by decide) ?_
            show Steps p.tables e below (T129.setTop (mkF m 49 #[.val (.int (0 : Int32)), .val (.ref b), .val (.int (1 : Int32)), .val (.int (4 : Int32)), .val (.ref b87), .val (.ref b), .val (.int (2 : Int32)), .val (.int (2 : Int32)), .val (.int ay)] [])) t
            refine XS.iload X129.here hx rfl (hb hby d13_49) rfl ?_
            show Steps p.tables e below (T129.setTop (mkF m 51 #[.val (.int (0 : Int32)), .val (.ref b), .val (.int (1 : Int32)), .val (.int (4 : Int32)), .val (.ref b87), .val (.ref b), .val (.int (2 : Int32)), .val (.int (2 : Int32)), .val (.int ay)] [(.int (2 : Int32))])) t
            refine XS.iload X129.here hx rfl (hb hby d13_51) rfl ?_
            show Steps p.tables e below (T129.setTop (mkF m 53 #[.val (.int (0 : Int32)), .val (.ref b), .val (.int (1 : Int32)), .val (.int (4 : Int32)), .val (.ref b87), .val (.ref b), .val (.int (2 : Int32)), .val (.int (2 : Int32)), .val (.int ay)] [(.int (2 : Int32)), (.int (2 : Int32))])) t
            refine XS.icmpYes X129.here hx rfl (pc0 := 53) (pc' := 124) rfl (hb hby d13_53) rfl (flt hc53_135).2.1 (by decide) (by decide) ?_
            show Steps p.tables e below (T129.setTop (mkF m 124 #[.val (.int (0 : Int32)), .val (.ref b), .val (.int (1 : Int32)), .val (.int (4 : Int32)), .val (.ref b87), .val (.ref b), .val (.int (2 : Int32)), .val (.int (2 : Int32)), .val (.int ay)] [])) t
            refine XS.iloadN X129.here hx rfl (hb hby d13_124) rfl ?_
            show Steps p.tables e below (T129.setTop (mkF m 125 #[.val (.int (0 : Int32)), .val (.ref b), .val (.int (1 : Int32)), .val (.int (4 : Int32)), .val (.ref b87), .val (.ref b), .val (.int (2 : Int32)), .val (.int (2 : Int32)), .val (.int ay)] [(.int (4 : Int32))])) t
            refine XS.aload X129.here hx rfl (hb hby d13_125) rfl rfl ?_
            exact kt
          obtain ⟨cl137, Ar137, -, S137, M137, -, -⟩ := id F130
          have k138 : ∀ t, Steps p.tables e below (T129.setTop (mkF m 128 #[.val (.int (0 : Int32)), .val (.ref b), .val (.int (1 : Int32)), .val (.int (4 : Int32)), .val (.ref b87), .val (.ref b), .val (.int (2 : Int32)), .val (.int (2 : Int32)), .val (.int ay)] [(.int (4 : Int32)), (.int (4 : Int32))])) t → Steps p.tables e below (s₁.setTop (entryFrame m #[(.int (0 : Int32)), (.ref b), (.int (1 : Int32))] 9)) t := fun t kt => k136 t (X129.arraylength hx (by rw [e129]; exact Ar137.1) (State.isArrayOf_alike hZ.alike Ar137.2.1) (g := (mkF m 127 #[.val (.int (0 : Int32)), .val (.ref b), .val (.int (1 : Int32)), .val (.int (4 : Int32)), .val (.ref b87), .val (.ref b), .val (.int (2 : Int32)), .val (.int (2 : Int32)), .val (.int ay)] [(.ref b87), (.int (4 : Int32))])) rfl rfl (hb hby d13_127) t (by rw [len_of S137 M137]; exact kt))
          have hc128_139 : (4 : Int32) = (4 : Int32) := rfl
          have k140 : ∀ t, Steps p.tables e below (T129.setTop (mkF m 133 #[.val (.int (0 : Int32)), .val (.ref b), .val (.int (1 : Int32)), .val (.int (4 : Int32)), .val (.ref b87), .val (.ref b), .val (.int (2 : Int32)), .val (.int (2 : Int32)), .val (.int ay)] [(.ref b87)])) t → Steps p.tables e below (s₁.setTop (entryFrame m #[(.int (0 : Int32)), (.ref b), (.int (1 : Int32))] 9)) t := by
            intro t kt
            refine k138 t ?_
            show Steps p.tables e below (T129.setTop (mkF m 128 #[.val (.int (0 : Int32)), .val (.ref b), .val (.int (1 : Int32)), .val (.int (4 : Int32)), .val (.ref b87), .val (.ref b), .val (.int (2 : Int32)), .val (.int (2 : Int32)), .val (.int ay)] [(.int (4 : Int32)), (.int (4 : Int32))])) t
            refine XS.icmpNo X129.here hx rfl (hb hby d13_128) rfl (teq hc128_139).2 ?_
            show Steps p.tables e below (T129.setTop (mkF m 131 #[.val (.int (0 : Int32)), .val (.ref b), .val (.int (1 : Int32)), .val (.int (4 : Int32)), .val (.ref b87), .val (.ref b), .val (.int (2 : Int32)), .val (.int (2 : Int32)), .val (.int ay)] [])) t
            refine XS.aload X129.here hx rfl (hb hby d13_131) rfl rfl ?_
            exact kt
          obtain ⟨fs, hr, hrun, hended, hW, hsame⟩ := X129.leave (v := some (.ref b87)) (fun h => by rw [Bd.returns] at h; cases h)
          refine ⟨_, _, k140 _ ?_, hrun, hended, _, _, rfl, ?_, ⟨_, rfl⟩, hW, hsame.mono (by decide) (by decide)⟩
          · show Steps p.tables e below (T129.setTop (mkF m 133 #[.val (.int (0 : Int32)), .val (.ref b), .val (.int (1 : Int32)), .val (.int (4 : Int32)), .val (.ref b87), .val (.ref b), .val (.int (2 : Int32)), .val (.int (2 : Int32)), .val (.int ay)] [(.ref b87)])) _
            jvm_step X129.here [X129.here.top, hx, (hb hby d13_133), X129.method', Bd.returns, Value.isRef, FieldType.isReference]
            first | (intro acts; rw [hr _ acts rfl rfl rfl]) | rw [hr _ _ rfl rfl rfl]
            exact Steps.refl _
          · show QEu Z b kb n1 ax ay h0 n0 _ T129.heap _
            rw [e129]
            exact ⟨b87, rfl, N129, K129, sz_b87⟩
        · have k141 : ∀ t, Steps p.tables e below (T109.setTop (mkF m 117 #[.val (.int (0 : Int32)), .val (.ref b), .val (.int (1 : Int32)), .val (.int (3 : Int32)), .val (.ref b87), .val (.ref b), .val (.int (2 : Int32)), .val (.int (1 : Int32)), .val (.int ay)] [(.int ay), (.int (2 : Int32)), (.ref b87)])) t → Steps p.tables e below (s₁.setTop (entryFrame m #[(.int (0 : Int32)), (.ref b), (.int (1 : Int32))] 9)) t := by
            intro t kt
            refine k120 t ?_
            show Steps p.tables e below (T109.setTop (mkF m 65 #[.val (.int (0 : Int32)), .val (.ref b), .val (.int (1 : Int32)), .val (.int (2 : Int32)), .val (.ref b87), .val (.ref b), .val (.int (2 : Int32)), .val (.int (1 : Int32)), .val (.int ay)] [(.int ay)])) t
            refine XS.ifYes X109.here hx rfl (pc0 := 65) (pc' := 109) rfl (hb hby d13_65) rfl ((if0 _ _).trans (flt hc65_119).2.1) (by decide) (by decide) ?_
            show Steps p.tables e below (T109.setTop (mkF m 109 #[.val (.int (0 : Int32)), .val (.ref b), .val (.int (1 : Int32)), .val (.int (2 : Int32)), .val (.ref b87), .val (.ref b), .val (.int (2 : Int32)), .val (.int (1 : Int32)), .val (.int ay)] [])) t
            refine XS.aload X109.here hx rfl (hb hby d13_109) rfl rfl ?_
            show Steps p.tables e below (T109.setTop (mkF m 111 #[.val (.int (0 : Int32)), .val (.ref b), .val (.int (1 : Int32)), .val (.int (2 : Int32)), .val (.ref b87), .val (.ref b), .val (.int (2 : Int32)), .val (.int (1 : Int32)), .val (.int ay)] [(.ref b87)])) t
            refine XS.iloadN X109.here hx rfl (hb hby d13_111) rfl ?_
            show Steps p.tables e below (T109.setTop (mkF m 112 #[.val (.int (0 : Int32)), .val (.ref b), .val (.int (1 : Int32)), .val (.int (2 : Int32)), .val (.ref b87), .val (.ref b), .val (.int (2 : Int32)), .val (.int (1 : Int32)), .val (.int ay)] [(.int (2 : Int32)), (.ref b87)])) t
            refine XS.iinc X109.here hx rfl (hb hby d13_112) rfl (l' := #[.val (.int (0 : Int32)), .val (.ref b), .val (.int (1 : Int32)), .val (.int (3 : Int32)), .val (.ref b87), .val (.ref b), .val (.int (2 : Int32)), .val (.int (1 : Int32)), .val (.int ay)]) rfl ?_
            show Steps p.tables e below (T109.setTop (mkF m 115 #[.val (.int (0 : Int32)), .val (.ref b), .val (.int (1 : Int32)), .val (.int (3 : Int32)), .val (.ref b87), .val (.ref b), .val (.int (2 : Int32)), .val (.int (1 : Int32)), .val (.int ay)] [(.int (2 : Int32)), (.ref b87)])) t
            refine XS.iload X109.here hx rfl (hb hby d13_115) rfl ?_
            exact kt
          obtain ⟨cl142, Ar142, q142, S142, M142, H142, G142⟩ := id F110
          have hin142 : ¬ ((2 : Int32) < 0 ∨ cl142.slots.size ≤ ((2 : Int32)).toNatClampNeg) := inb_of S142 ⟨by decide, by decide⟩
          obtain ⟨T142, h142, X142, e142, W142, st142⟩ := stB X109 hx hZ e109 Ar142 (j := (2 : Int32)) hin142 (g := (mkF m 117 #[.val (.int (0 : Int32)), .val (.ref b), .val (.int (1 : Int32)), .val (.int (3 : Int32)), .val (.ref b87), .val (.ref b), .val (.int (2 : Int32)), .val (.int (1 : Int32)), .val (.int ay)] [(.int ay), (.int (2 : Int32)), (.ref b87)])) rfl rfl (hb hby d13_117)
          have F143 : Arv Z h142 b87 c87k .byte (4 : Int32) [(.int ((((192 : Int32) ||| ((ax &&& (255 : Int32)) >>> ((6 : Int32) &&& 31))).toInt8.toInt32).toInt8.toInt32)), (.int ((((128 : Int32) ||| (ax &&& (63 : Int32))).toInt8.toInt32).toInt8.toInt32)), (.int (ay.toInt8.toInt32)), (.int (0 : Int32))] (.int (0 : Int32)) := Arv.set Ar142 q142 S142 M142 H142 G142 (fits_nar_byte _) W142 2 rfl (Nat.le_of_ble_eq_true rfl)
          have F144 := F111.wr W142
          have F145 := F112.other W142 ne88
          have Z142 : n0 ≤ h142.size := Nat.le_trans Z109 (Keep.of_wr W142).1
          have K142 : Keep h0 h142 [] := K109.wr W142 (Or.inr sz_b87)
          have N142 := Fr.snoc X142 N109 g_b87
          have k147 : ∀ t, Steps p.tables e below (T142.setTop (mkF m 118 #[.val (.int (0 : Int32)), .val (.ref b), .val (.int (1 : Int32)), .val (.int (3 : Int32)), .val (.ref b87), .val (.ref b), .val (.int (2 : Int32)), .val (.int (1 : Int32)), .val (.int ay)] [])) t → Steps p.tables e below (s₁.setTop (entryFrame m #[(.int (0 : Int32)), (.ref b), (.int (1 : Int32))] 9)) t := fun t kt => k141 t (st142 t kt)
          have hc53_148 : ¬ ((2 : Int32) < (2 : Int32)) := by decide
          have k149 : ∀ t, Steps p.tables e below (T142.setTop (mkF m 127 #[.val (.int (0 : Int32)), .val (.ref b), .val (.int (1 : Int32)), .val (.int (3 : Int32)), .val (.ref b87), .val (.ref b), .val (.int (2 : Int32)), .val (.int (2 : Int32)), .val (.int ay)] [(.ref b87), (.int (3 : Int32))])) t → Steps p.tables e below (s₁.setTop (entryFrame m #[(.int (0 : Int32)), (.ref b), (.int (1 : Int32))] 9)) t := by
            intro t kt
            refine k147 t ?_
            show Steps p.tables e below (T142.setTop (mkF m 118 #[.val (.int (0 : Int32)), .val (.ref b), .val (.int (1 : Int32)), .val (.int (3 : Int32)), .val (.ref b87), .val (.ref b), .val (.int (2 : Int32)), .val (.int (1 : Int32)), .val (.int ay)] [])) t
            refine XS.iinc X142.here hx rfl (hb hby d13_118) rfl (l' := #[.val (.int (0 : Int32)), .val (.ref b), .val (.int (1 : Int32)), .val (.int (3 : Int32)), .val (.ref b87), .val (.ref b), .val (.int (2 : Int32)), .val (.int (2 : Int32)), .val (.int ay)]) rfl ?_
            show Steps p.tables e below (T142.setTop (mkF m 121 #[.val (.int (0 : Int32)), .val (.ref b), .val (.int (1 : Int32)), .val (.int (3 : Int32)), .val (.ref b87), .val (.ref b), .val (.int (2 : Int32)), .val (.int (2 : Int32)), .val (.int ay)] [])) t
            refine XS.goto X142.here hx rfl (pc0 := 121) (pc' := 49) rfl (hb hby d13_121) (by decide) (by decide) ?_
            show Steps p.tables e below (T142.setTop (mkF m 49 #[.val (.int (0 : Int32)), .val (.ref b), .val (.int (1 : Int32)), .val (.int (3 : Int32)), .val (.ref b87), .val (.ref b), .val (.int (2 : Int32)), .val (.int (2 : Int32)), .val (.int ay)] [])) t
            refine XS.iload X142.here hx rfl (hb hby d13_49) rfl ?_
            show Steps p.tables e below (T142.setTop (mkF m 51 #[.val (.int (0 : Int32)), .val (.ref b), .val (.int (1 : Int32)), .val (.int (3 : Int32)), .val (.ref b87), .val (.ref b), .val (.int (2 : Int32)), .val (.int (2 : Int32)), .val (.int ay)] [(.int (2 : Int32))])) t
            refine XS.iload X142.here hx rfl (hb hby d13_51) rfl ?_
            show Steps p.tables e below (T142.setTop (mkF m 53 #[.val (.int (0 : Int32)), .val (.ref b), .val (.int (1 : Int32)), .val (.int (3 : Int32)), .val (.ref b87), .val (.ref b), .val (.int (2 : Int32)), .val (.int (2 : Int32)), .val (.int ay)] [(.int (2 : Int32)), (.int (2 : Int32))])) t
            refine XS.icmpYes X142.here hx rfl (pc0 := 53) (pc' := 124) rfl (hb hby d13_53) rfl (flt hc53_148).2.1 (by decide) (by decide) ?_
            show Steps p.tables e below (T142.setTop (mkF m 124 #[.val (.int (0 : Int32)), .val (.ref b), .val (.int (1 : Int32)), .val (.int (3 : Int32)), .val (.ref b87), .val (.ref b), .val (.int (2 : Int32)), .val (.int (2 : Int32)), .val (.int ay)] [])) t
            refine XS.iloadN X142.here hx rfl (hb hby d13_124) rfl ?_
            show Steps p.tables e below (T142.setTop (mkF m 125 #[.val (.int (0 : Int32)), .val (.ref b), .val (.int (1 : Int32)), .val (.int (3 : Int32)), .val (.ref b87), .val (.ref b), .val (.int (2 : Int32)), .val (.int (2 : Int32)), .val (.int ay)] [(.int (3 : Int32))])) t
            refine XS.aload X142.here hx rfl (hb hby d13_125) rfl rfl ?_
            exact kt
          obtain ⟨cl150, Ar150, -, S150, M150, -, -⟩ := id F143
          have k151 : ∀ t, Steps p.tables e below (T142.setTop (mkF m 128 #[.val (.int (0 : Int32)), .val (.ref b), .val (.int (1 : Int32)), .val (.int (3 : Int32)), .val (.ref b87), .val (.ref b), .val (.int (2 : Int32)), .val (.int (2 : Int32)), .val (.int ay)] [(.int (4 : Int32)), (.int (3 : Int32))])) t → Steps p.tables e below (s₁.setTop (entryFrame m #[(.int (0 : Int32)), (.ref b), (.int (1 : Int32))] 9)) t := fun t kt => k149 t (X142.arraylength hx (by rw [e142]; exact Ar150.1) (State.isArrayOf_alike hZ.alike Ar150.2.1) (g := (mkF m 127 #[.val (.int (0 : Int32)), .val (.ref b), .val (.int (1 : Int32)), .val (.int (3 : Int32)), .val (.ref b87), .val (.ref b), .val (.int (2 : Int32)), .val (.int (2 : Int32)), .val (.int ay)] [(.ref b87), (.int (3 : Int32))])) rfl rfl (hb hby d13_127) t (by rw [len_of S150 M150]; exact kt))
          have hc128_152 : ¬ ((3 : Int32) = (4 : Int32)) := by decide
          have k153 : ∀ t, Steps p.tables e below (T142.setTop (mkF m 137 #[.val (.int (0 : Int32)), .val (.ref b), .val (.int (1 : Int32)), .val (.int (3 : Int32)), .val (.ref b87), .val (.ref b), .val (.int (2 : Int32)), .val (.int (2 : Int32)), .val (.int ay)] [(.int (3 : Int32)), (.ref b87)])) t → Steps p.tables e below (s₁.setTop (entryFrame m #[(.int (0 : Int32)), (.ref b), (.int (1 : Int32))] 9)) t := by
            intro t kt
            refine k151 t ?_
            show Steps p.tables e below (T142.setTop (mkF m 128 #[.val (.int (0 : Int32)), .val (.ref b), .val (.int (1 : Int32)), .val (.int (3 : Int32)), .val (.ref b87), .val (.ref b), .val (.int (2 : Int32)), .val (.int (2 : Int32)), .val (.int ay)] [(.int (4 : Int32)), (.int (3 : Int32))])) t
            refine XS.icmpYes X142.here hx rfl (pc0 := 128) (pc' := 134) rfl (hb hby d13_128) rfl (feq hc128_152).2 (by decide) (by decide) ?_
            show Steps p.tables e below (T142.setTop (mkF m 134 #[.val (.int (0 : Int32)), .val (.ref b), .val (.int (1 : Int32)), .val (.int (3 : Int32)), .val (.ref b87), .val (.ref b), .val (.int (2 : Int32)), .val (.int (2 : Int32)), .val (.int ay)] [])) t
            refine XS.aload X142.here hx rfl (hb hby d13_134) rfl rfl ?_
            show Steps p.tables e below (T142.setTop (mkF m 136 #[.val (.int (0 : Int32)), .val (.ref b), .val (.int (1 : Int32)), .val (.int (3 : Int32)), .val (.ref b87), .val (.ref b), .val (.int (2 : Int32)), .val (.int (2 : Int32)), .val (.int ay)] [(.ref b87)])) t
            refine XS.iloadN X142.here hx rfl (hb hby d13_136) rfl ?_
            exact kt
          obtain ⟨_, _, ⟨T154, L154, k154c, n154⟩, -, X154, ⟨Lc154, hQ154, l154, y154, z154⟩, st154⟩ := Jvm.LawKit.callS X142 hx (y := (⟨"java/util/Arrays", "copyOf", "([BI)[B"⟩ : MethodName)) hown (mvT hZ (hw _ (List.mem_of_getElem? (i := 122) rfl))) (mvT hZ (hw _ (List.mem_of_getElem? (i := 123) rfl))) (mvT hZ (hw _ (List.mem_of_getElem? (i := 124) rfl))) (mvT hZ (hw _ (List.mem_of_getElem? (i := 125) rfl))) (by decide) (backOf (W := 0) (rmCf l Z a0 hw [] b87 c87k ((((192 : Int32) ||| ((ax &&& (255 : Int32)) >>> ((6 : Int32) &&& 31))).toInt8.toInt32).toInt8.toInt32) ((((128 : Int32) ||| (ax &&& (63 : Int32))).toInt8.toInt32).toInt8.toInt32) (ay.toInt8.toInt32) (0 : Int32) h142 n0 Z142 F143) hZ (hw _ (List.mem_of_getElem? (i := 125) rfl)) (hw _ (List.mem_of_getElem? (i := 124) rfl)) (by decide) (by decide)) (g := (mkF m 137 #[.val (.int (0 : Int32)), .val (.ref b), .val (.int (1 : Int32)), .val (.int (3 : Int32)), .val (.ref b87), .val (.ref b), .val (.int (2 : Int32)), .val (.int (2 : Int32)), .val (.int ay)] [(.int (3 : Int32)), (.ref b87)])) rfl (by rw [hml]; rfl) (argsL := [(.ref b87), (.int (3 : Int32))]) (rest := []) (lenOf own_pd11 rfl) rfl (by show 2 * 0 + _ ≤ _; exact Nat.le_of_eq rfl) (hb hby d13_137) (fun _ _ => ⟨rfl, e142, (by decide : 1 + 1 ≤ _), (by decide : 4 + 3 ≤ _)⟩)
          dsimp only [Pt.U, Pt.locs, Pt.cells, Pt.slots] at X154 l154 y154 z154 st154 hQ154
          subst l154 y154 z154
          obtain ⟨r154, rfl, N154q, K154k, s154z⟩ := hQ154
          have N154 := Fr.app N142 N154q
          have g_r154 : n0 ≤ r154 := Nat.le_trans Z142 s154z
          have sz_r154 : h0.size ≤ r154 := Nat.le_trans K142.1 s154z
          have ne155 : b ≠ r154 := Nat.ne_of_lt (Nat.lt_of_lt_of_le F144.lt s154z)
          have ne156 : b87 ≠ r154 := Nat.ne_of_lt (Nat.lt_of_lt_of_le F143.lt s154z)
          have F157 := F144.keep K154k
          have F158 := F145.keep K154k nin0
          have F159 := F143.keep K154k nin0
          have Z160 : n0 ≤ T154.heap.size := Nat.le_trans Z142 K154k.1
          have K160 : Keep h0 T154.heap [] := K142.trans K154k all0
          have k161 : ∀ t, Steps p.tables e below (T154.setTop (mkF m 140 #[.val (.int (0 : Int32)), .val (.ref b), .val (.int (1 : Int32)), .val (.int (3 : Int32)), .val (.ref b87), .val (.ref b), .val (.int (2 : Int32)), .val (.int (2 : Int32)), .val (.int ay)] [(.ref r154)])) t → Steps p.tables e below (s₁.setTop (entryFrame m #[(.int (0 : Int32)), (.ref b), (.int (1 : Int32))] 9)) t := fun t kt => k153 t (st154 t kt)
          obtain ⟨fs, hr, hrun, hended, hW, hsame⟩ := X154.leave (v := some (.ref r154)) (fun h => by rw [Bd.returns] at h; cases h)
          refine ⟨_, _, k161 _ ?_, hrun, hended, _, _, rfl, ?_, ⟨_, rfl⟩, hW, hsame.mono (by decide) (by decide)⟩
          · show Steps p.tables e below (T154.setTop (mkF m 140 #[.val (.int (0 : Int32)), .val (.ref b), .val (.int (1 : Int32)), .val (.int (3 : Int32)), .val (.ref b87), .val (.ref b), .val (.int (2 : Int32)), .val (.int (2 : Int32)), .val (.int ay)] [(.ref r154)])) _
            jvm_step X154.here [X154.here.top, hx, (hb hby d13_140), X154.method', Bd.returns, Value.isRef, FieldType.isReference]
            first | (intro acts; rw [hr _ acts rfl rfl rfl]) | rw [hr _ _ rfl rfl rfl]
            exact Steps.refl _
          · show QEu Z b kb n1 ax ay h0 n0 _ T154.heap _
            exact ⟨r154, rfl, N154, K160, sz_r154⟩
      · by_cases hsy_162 : ay < (0 : Int32)
        · have hc2_163 : ¬ ((0 : Int32) = (1 : Int32)) := by decide
          have k164 : ∀ t, Steps p.tables e below (s₁.setTop (mkF m 14 #[.val (.int (0 : Int32)), .val (.ref b), .val (.int (1 : Int32)), .unset, .unset, .unset, .unset, .unset, .unset] [(.ref b), (.int (0 : Int32)), (.ref b)])) t → Steps p.tables e below (s₁.setTop (entryFrame m #[(.int (0 : Int32)), (.ref b), (.int (1 : Int32))] 9)) t := by
            intro t kt
            refine k0 t ?_
            show Steps p.tables e below (s₁.setTop (mkF m 0 #[.val (.int (0 : Int32)), .val (.ref b), .val (.int (1 : Int32)), .unset, .unset, .unset, .unset, .unset, .unset] [])) t
            refine XS.iloadN X0.here hx rfl (hb hby d13_0) rfl ?_
            show Steps p.tables e below (s₁.setTop (mkF m 1 #[.val (.int (0 : Int32)), .val (.ref b), .val (.int (1 : Int32)), .unset, .unset, .unset, .unset, .unset, .unset] [(.int (0 : Int32))])) t
            refine XS.iconst X0.here hx rfl (hb hby d13_1) ?_
            show Steps p.tables e below (s₁.setTop (mkF m 2 #[.val (.int (0 : Int32)), .val (.ref b), .val (.int (1 : Int32)), .unset, .unset, .unset, .unset, .unset, .unset] [(.int (1 : Int32)), (.int (0 : Int32))])) t
            refine XS.icmpYes X0.here hx rfl (pc0 := 2) (pc' := 11) rfl (hb hby d13_2) rfl (feq hc2_163).2 (by decide) (by decide) ?_
            show Steps p.tables e below (s₁.setTop (mkF m 11 #[.val (.int (0 : Int32)), .val (.ref b), .val (.int (1 : Int32)), .unset, .unset, .unset, .unset, .unset, .unset] [])) t
            refine XS.aloadN X0.here hx rfl (hb hby d13_11) rfl rfl ?_
            show Steps p.tables e below (s₁.setTop (mkF m 12 #[.val (.int (0 : Int32)), .val (.ref b), .val (.int (1 : Int32)), .unset, .unset, .unset, .unset, .unset, .unset] [(.ref b)])) t
            refine XS.iconst X0.here hx rfl (hb hby d13_12) ?_
            show Steps p.tables e below (s₁.setTop (mkF m 13 #[.val (.int (0 : Int32)), .val (.ref b), .val (.int (1 : Int32)), .unset, .unset, .unset, .unset, .unset, .unset] [(.int (0 : Int32)), (.ref b)])) t
            refine XS.aloadN X0.here hx rfl (hb hby d13_13) rfl rfl ?_
            exact kt
          obtain ⟨cl165, Ar165, -, S165, M165, -, -⟩ := id Ab2
          have k166 : ∀ t, Steps p.tables e below (s₁.setTop (mkF m 15 #[.val (.int (0 : Int32)), .val (.ref b), .val (.int (1 : Int32)), .unset, .unset, .unset, .unset, .unset, .unset] [(.int (2 : Int32)), (.int (0 : Int32)), (.ref b)])) t → Steps p.tables e below (s₁.setTop (entryFrame m #[(.int (0 : Int32)), (.ref b), (.int (1 : Int32))] 9)) t := fun t kt => k164 t (X0.arraylength hx (by rw [e0]; exact Ar165.1) (State.isArrayOf_alike hZ.alike Ar165.2.1) (g := (mkF m 14 #[.val (.int (0 : Int32)), .val (.ref b), .val (.int (1 : Int32)), .unset, .unset, .unset, .unset, .unset, .unset] [(.ref b), (.int (0 : Int32)), (.ref b)])) rfl rfl (hb hby d13_14) t (by rw [len_of S165 M165]; exact kt))
          obtain ⟨_, _, ⟨T167, L167, k167c, n167⟩, -, X167, ⟨Lc167, hQ167, l167, y167, z167⟩, st167⟩ := Jvm.LawKit.callS X0 hx (y := (⟨"java/lang/StringCoding", "hasNegatives", "([BII)Z"⟩ : MethodName)) hown (mvT hZ (hw _ (List.mem_of_getElem? (i := 69) rfl))) (mvT hZ (hw _ (List.mem_of_getElem? (i := 70) rfl))) (mvT hZ (hw _ (List.mem_of_getElem? (i := 71) rfl))) (mvT hZ (hw _ (List.mem_of_getElem? (i := 72) rfl))) (by decide) (backOf (W := 0) (rmHn2pn l Z a0 hw [] b kb ax ay h0 n0 Z0 Ab2 hsx_76 hsy_162) hZ (hw _ (List.mem_of_getElem? (i := 72) rfl)) (hw _ (List.mem_of_getElem? (i := 71) rfl)) (by decide) (by decide)) (g := (mkF m 15 #[.val (.int (0 : Int32)), .val (.ref b), .val (.int (1 : Int32)), .unset, .unset, .unset, .unset, .unset, .unset] [(.int (2 : Int32)), (.int (0 : Int32)), (.ref b)])) rfl (by rw [hml]; rfl) (argsL := [(.ref b), (.int (0 : Int32)), (.int (2 : Int32))]) (rest := []) (lenOf own_pd9 rfl) rfl (by show 2 * 0 + _ ≤ _; exact Nat.le_of_eq rfl) (hb hby d13_15) (fun _ _ => ⟨rfl, e0, (by decide : 0 + 0 ≤ _), (by decide : 0 + 0 ≤ _)⟩)
          dsimp only [Pt.U, Pt.locs, Pt.cells, Pt.slots] at X167 l167 y167 z167 st167 hQ167
          subst l167 y167 z167
          obtain ⟨rfl, N167q, e167⟩ := hQ167
          have N167 := Fr.app N0 N167q
          have k168 : ∀ t, Steps p.tables e below (T167.setTop (mkF m 18 #[.val (.int (0 : Int32)), .val (.ref b), .val (.int (1 : Int32)), .unset, .unset, .unset, .unset, .unset, .unset] [(.int (1 : Int32))])) t → Steps p.tables e below (s₁.setTop (entryFrame m #[(.int (0 : Int32)), (.ref b), (.int (1 : Int32))] 9)) t := fun t kt => k166 t (st167 t kt)
          have hc18_169 : ¬ ((1 : Int32) = (0 : Int32)) := by decide
          have k170 : ∀ t, Steps p.tables e below (T167.setTop (mkF m 32 #[.val (.int (0 : Int32)), .val (.ref b), .val (.int (1 : Int32)), .val (.int (0 : Int32)), .unset, .unset, .unset, .unset, .unset] [(.ref b)])) t → Steps p.tables e below (s₁.setTop (entryFrame m #[(.int (0 : Int32)), (.ref b), (.int (1 : Int32))] 9)) t := by
            intro t kt
            refine k168 t ?_
            show Steps p.tables e below (T167.setTop (mkF m 18 #[.val (.int (0 : Int32)), .val (.ref b), .val (.int (1 : Int32)), .unset, .unset, .unset, .unset, .unset, .unset] [(.int (1 : Int32))])) t
            refine XS.ifYes X167.here hx rfl (pc0 := 18) (pc' := 29) rfl (hb hby d13_18) rfl ((if0 _ _).trans (feq hc18_169).2) (by decide) (by decide) ?_
            show Steps p.tables e below (T167.setTop (mkF m 29 #[.val (.int (0 : Int32)), .val (.ref b), .val (.int (1 : Int32)), .unset, .unset, .unset, .unset, .unset, .unset] [])) t
            refine XS.iconst X167.here hx rfl (hb hby d13_29) ?_
            show Steps p.tables e below (T167.setTop (mkF m 30 #[.val (.int (0 : Int32)), .val (.ref b), .val (.int (1 : Int32)), .unset, .unset, .unset, .unset, .unset, .unset] [(.int (0 : Int32))])) t
            refine XS.istoreN X167.here hx rfl (hb hby d13_30) rfl (l' := #[.val (.int (0 : Int32)), .val (.ref b), .val (.int (1 : Int32)), .val (.int (0 : Int32)), .unset, .unset, .unset, .unset, .unset]) rfl ?_
            show Steps p.tables e below (T167.setTop (mkF m 31 #[.val (.int (0 : Int32)), .val (.ref b), .val (.int (1 : Int32)), .val (.int (0 : Int32)), .unset, .unset, .unset, .unset, .unset] [])) t
            refine XS.aloadN X167.here hx rfl (hb hby d13_31) rfl rfl ?_
            exact kt
          obtain ⟨cl171, Ar171, -, S171, M171, -, -⟩ := id Ab2
          have k172 : ∀ t, Steps p.tables e below (T167.setTop (mkF m 33 #[.val (.int (0 : Int32)), .val (.ref b), .val (.int (1 : Int32)), .val (.int (0 : Int32)), .unset, .unset, .unset, .unset, .unset] [(.int (2 : Int32))])) t → Steps p.tables e below (s₁.setTop (entryFrame m #[(.int (0 : Int32)), (.ref b), (.int (1 : Int32))] 9)) t := fun t kt => k170 t (X167.arraylength hx (by rw [e167]; exact Ar171.1) (State.isArrayOf_alike hZ.alike Ar171.2.1) (g := (mkF m 32 #[.val (.int (0 : Int32)), .val (.ref b), .val (.int (1 : Int32)), .val (.int (0 : Int32)), .unset, .unset, .unset, .unset, .unset] [(.ref b)])) rfl rfl (hb hby d13_32) t (by rw [len_of S171 M171]; exact kt))
          obtain ⟨_, _, ⟨T173, L173, k173c, n173⟩, -, X173, ⟨Lc173, hQ173, l173, y173, z173⟩, st173⟩ := Jvm.LawKit.callS X167 hx (y := (⟨"java/lang/StringUTF16", "newBytesFor", "(I)[B"⟩ : MethodName)) hown (mvT hZ (hw _ (List.mem_of_getElem? (i := 115) rfl))) (mvT hZ (hw _ (List.mem_of_getElem? (i := 116) rfl))) (mvT hZ (hw _ (List.mem_of_getElem? (i := 22) rfl))) (mvT hZ (hw _ (List.mem_of_getElem? (i := 117) rfl))) (by decide) (backOf (W := 0) (rmNf2 l Z a0 hw [] h0 n0 Z0) hZ (hw _ (List.mem_of_getElem? (i := 117) rfl)) (hw _ (List.mem_of_getElem? (i := 22) rfl)) (by decide) (by decide)) (g := (mkF m 33 #[.val (.int (0 : Int32)), .val (.ref b), .val (.int (1 : Int32)), .val (.int (0 : Int32)), .unset, .unset, .unset, .unset, .unset] [(.int (2 : Int32))])) rfl (by rw [hml]; rfl) (argsL := [(.int (2 : Int32))]) (rest := []) (lenOf own_pd10 rfl) rfl (by show 2 * 0 + _ ≤ _; exact Nat.le_of_eq rfl) (hb hby d13_33) (fun _ _ => ⟨rfl, e167, (by decide : 0 + 1 ≤ _), (by decide : 0 + 4 ≤ _)⟩)
          dsimp only [Pt.U, Pt.locs, Pt.cells, Pt.slots] at X173 l173 y173 z173 st173 hQ173
          subst l173 y173 z173
          obtain ⟨b173, c173k, rfl, N173q, K173k, s173z, A173⟩ := hQ173
          have N173 := Fr.app N167 N173q
          have g_b173 : n0 ≤ b173 := Nat.le_trans Z0 s173z
          have sz_b173 : h0.size ≤ b173 := Nat.le_trans K0.1 s173z
          have ne174 : b ≠ b173 := Nat.ne_of_lt (Nat.lt_of_lt_of_le Eb.lt s173z)
          have F175 := Eb.keep K173k
          have F176 := Ab2.keep K173k nin0
          have Z177 : n0 ≤ T173.heap.size := Nat.le_trans Z0 K173k.1
          have K177 : Keep h0 T173.heap [] := K0.trans K173k all0
          have k178 : ∀ t, Steps p.tables e below (T173.setTop (mkF m 36 #[.val (.int (0 : Int32)), .val (.ref b), .val (.int (1 : Int32)), .val (.int (0 : Int32)), .unset, .unset, .unset, .unset, .unset] [(.ref b173)])) t → Steps p.tables e below (s₁.setTop (entryFrame m #[(.int (0 : Int32)), (.ref b), (.int (1 : Int32))] 9)) t := fun t kt => k172 t (st173 t kt)
          have k179 : ∀ t, Steps p.tables e below (T173.setTop (mkF m 43 #[.val (.int (0 : Int32)), .val (.ref b), .val (.int (1 : Int32)), .val (.int (0 : Int32)), .val (.ref b173), .val (.ref b), .unset, .unset, .unset] [(.ref b)])) t → Steps p.tables e below (s₁.setTop (entryFrame m #[(.int (0 : Int32)), (.ref b), (.int (1 : Int32))] 9)) t := by
            intro t kt
            refine k178 t ?_
            show Steps p.tables e below (T173.setTop (mkF m 36 #[.val (.int (0 : Int32)), .val (.ref b), .val (.int (1 : Int32)), .val (.int (0 : Int32)), .unset, .unset, .unset, .unset, .unset] [(.ref b173)])) t
            refine XS.astore X173.here hx rfl (hb hby d13_36) rfl rfl (l' := #[.val (.int (0 : Int32)), .val (.ref b), .val (.int (1 : Int32)), .val (.int (0 : Int32)), .val (.ref b173), .unset, .unset, .unset, .unset]) rfl ?_
            show Steps p.tables e below (T173.setTop (mkF m 38 #[.val (.int (0 : Int32)), .val (.ref b), .val (.int (1 : Int32)), .val (.int (0 : Int32)), .val (.ref b173), .unset, .unset, .unset, .unset] [])) t
            refine XS.aloadN X173.here hx rfl (hb hby d13_38) rfl rfl ?_
            show Steps p.tables e below (T173.setTop (mkF m 39 #[.val (.int (0 : Int32)), .val (.ref b), .val (.int (1 : Int32)), .val (.int (0 : Int32)), .val (.ref b173), .unset, .unset, .unset, .unset] [(.ref b)])) t
            refine XS.astore X173.here hx rfl (hb hby d13_39) rfl rfl (l' := #[.val (.int (0 : Int32)), .val (.ref b), .val (.int (1 : Int32)), .val (.int (0 : Int32)), .val (.ref b173), .val (.ref b), .unset, .unset, .unset]) rfl ?_
            show Steps p.tables e below (T173.setTop (mkF m 41 #[.val (.int (0 : Int32)), .val (.ref b), .val (.int (1 : Int32)), .val (.int (0 : Int32)), .val (.ref b173), .val (.ref b), .unset, .unset, .unset] [])) t
            refine XS.aload X173.here hx rfl (hb hby d13_41) rfl rfl ?_
            exact kt
          obtain ⟨cl180, Ar180, -, S180, M180, -, -⟩ := id F176
          have k181 : ∀ t, Steps p.tables e below (T173.setTop (mkF m 44 #[.val (.int (0 : Int32)), .val (.ref b), .val (.int (1 : Int32)), .val (.int (0 : Int32)), .val (.ref b173), .val (.ref b), .unset, .unset, .unset] [(.int (2 : Int32))])) t → Steps p.tables e below (s₁.setTop (entryFrame m #[(.int (0 : Int32)), (.ref b), (.int (1 : Int32))] 9)) t := fun t kt => k179 t (X173.arraylength hx Ar180.1 (State.isArrayOf_alike hZ.alike Ar180.2.1) (g := (mkF m 43 #[.val (.int (0 : Int32)), .val (.ref b), .val (.int (1 : Int32)), .val (.int (0 : Int32)), .val (.ref b173), .val (.ref b), .unset, .unset, .unset] [(.ref b)])) rfl rfl (hb hby d13_43) t (by rw [len_of S180 M180]; exact kt))
          have hc53_182 : (0 : Int32) < (2 : Int32) := by decide
          have k183 : ∀ t, Steps p.tables e below (T173.setTop (mkF m 60 #[.val (.int (0 : Int32)), .val (.ref b), .val (.int (1 : Int32)), .val (.int (0 : Int32)), .val (.ref b173), .val (.ref b), .val (.int (2 : Int32)), .val (.int (0 : Int32)), .unset] [(.int (0 : Int32)), (.ref b)])) t → Steps p.tables e below (s₁.setTop (entryFrame m #[(.int (0 : Int32)), (.ref b), (.int (1 : Int32))] 9)) t := by
            intro t kt
            refine k181 t ?_
            show Steps p.tables e below (T173.setTop (mkF m 44 #[.val (.int (0 : Int32)), .val (.ref b), .val (.int (1 : Int32)), .val (.int (0 : Int32)), .val (.ref b173), .val (.ref b), .unset, .unset, .unset] [(.int (2 : Int32))])) t
            refine XS.istore X173.here hx rfl (hb hby d13_44) rfl (l' := #[.val (.int (0 : Int32)), .val (.ref b), .val (.int (1 : Int32)), .val (.int (0 : Int32)), .val (.ref b173), .val (.ref b), .val (.int (2 : Int32)), .unset, .unset]) rfl ?_
            show Steps p.tables e below (T173.setTop (mkF m 46 #[.val (.int (0 : Int32)), .val (.ref b), .val (.int (1 : Int32)), .val (.int (0 : Int32)), .val (.ref b173), .val (.ref b), .val (.int (2 : Int32)), .unset, .unset] [])) t
            refine XS.iconst X173.here hx rfl (hb hby d13_46) ?_
            show Steps p.tables e below (T173.setTop (mkF m 47 #[.val (.int (0 : Int32)), .val (.ref b), .val (.int (1 : Int32)), .val (.int (0 : Int32)), .val (.ref b173), .val (.ref b), .val (.int (2 : Int32)), .unset, .unset] [(.int (0 : Int32))])) t
            refine XS.istore X173.here hx rfl (hb hby d13_47) rfl (l' := #[.val (.int (0 : Int32)), .val (.ref b), .val (.int (1 : Int32)), .val (.int (0 : Int32)), .val (.ref b173), .val (.ref b), .val (.int (2 : Int32)), .val (.int (0 : Int32)), .unset]) rfl ?_
            show Steps p.tables e below (T173.setTop (mkF m 49 #[.val (.int (0 : Int32)), .val (.ref b), .val (.int (1 : Int32)), .val (.int (0 : Int32)), .val (.ref b173), .val (.ref b), .val (.int (2 : Int32)), .val (.int (0 : Int32)), .unset] [])) t
            refine XS.iload X173.here hx rfl (hb hby d13_49) rfl ?_
            show Steps p.tables e below (T173.setTop (mkF m 51 #[.val (.int (0 : Int32)), .val (.ref b), .val (.int (1 : Int32)), .val (.int (0 : Int32)), .val (.ref b173), .val (.ref b), .val (.int (2 : Int32)), .val (.int (0 : Int32)), .unset] [(.int (0 : Int32))])) t
            refine XS.iload X173.here hx rfl (hb hby d13_51) rfl ?_
            show Steps p.tables e below (T173.setTop (mkF m 53 #[.val (.int (0 : Int32)), .val (.ref b), .val (.int (1 : Int32)), .val (.int (0 : Int32)), .val (.ref b173), .val (.ref b), .val (.int (2 : Int32)), .val (.int (0 : Int32)), .unset] [(.int (2 : Int32)), (.int (0 : Int32))])) t
            refine XS.icmpNo X173.here hx rfl (hb hby d13_53) rfl (tlt hc53_182).2.1 ?_
            show Steps p.tables e below (T173.setTop (mkF m 56 #[.val (.int (0 : Int32)), .val (.ref b), .val (.int (1 : Int32)), .val (.int (0 : Int32)), .val (.ref b173), .val (.ref b), .val (.int (2 : Int32)), .val (.int (0 : Int32)), .unset] [])) t
            refine XS.aload X173.here hx rfl (hb hby d13_56) rfl rfl ?_
            show Steps p.tables e below (T173.setTop (mkF m 58 #[.val (.int (0 : Int32)), .val (.ref b), .val (.int (1 : Int32)), .val (.int (0 : Int32)), .val (.ref b173), .val (.ref b), .val (.int (2 : Int32)), .val (.int (0 : Int32)), .unset] [(.ref b)])) t
            refine XS.iload X173.here hx rfl (hb hby d13_58) rfl ?_
            exact kt
          obtain ⟨cl184, Ar184, q184, S184, M184, H184, G184⟩ := id F176
          have hin184 : ¬ ((0 : Int32) < 0 ∨ cl184.slots.size ≤ ((0 : Int32)).toNatClampNeg) := inb_of S184 ⟨by decide, by decide⟩
          have hat184 : cl184.slots[((0 : Int32)).toNatClampNeg]? = some (.int ax) := Has.at H184 hin184 rfl
          have k185 : ∀ t, Steps p.tables e below (T173.setTop (mkF m 61 #[.val (.int (0 : Int32)), .val (.ref b), .val (.int (1 : Int32)), .val (.int (0 : Int32)), .val (.ref b173), .val (.ref b), .val (.int (2 : Int32)), .val (.int (0 : Int32)), .unset] [(.int ax)])) t → Steps p.tables e below (s₁.setTop (entryFrame m #[(.int (0 : Int32)), (.ref b), (.int (1 : Int32))] 9)) t := fun t kt => k183 t (X173.baloadBytes hx (j := (0 : Int32)) (v := (.int ax)) Ar184.1 (State.isArrayOf_alike hZ.alike Ar184.2.1) Ar184.2.2 hin184 hat184 (g := (mkF m 60 #[.val (.int (0 : Int32)), .val (.ref b), .val (.int (1 : Int32)), .val (.int (0 : Int32)), .val (.ref b173), .val (.ref b), .val (.int (2 : Int32)), .val (.int (0 : Int32)), .unset] [(.int (0 : Int32)), (.ref b)])) rfl rfl (hb hby d13_60) t kt)
          have k187 : ∀ t, Steps p.tables e below (T173.setTop (mkF m 117 #[.val (.int (0 : Int32)), .val (.ref b), .val (.int (1 : Int32)), .val (.int (1 : Int32)), .val (.ref b173), .val (.ref b), .val (.int (2 : Int32)), .val (.int (0 : Int32)), .val (.int ax)] [(.int ax), (.int (0 : Int32)), (.ref b173)])) t → Steps p.tables e below (s₁.setTop (entryFrame m #[(.int (0 : Int32)), (.ref b), (.int (1 : Int32))] 9)) t := by
            intro t kt
            refine k185 t ?_
            show Steps p.tables e below (T173.setTop (mkF m 61 #[.val (.int (0 : Int32)), .val (.ref b), .val (.int (1 : Int32)), .val (.int (0 : Int32)), .val (.ref b173), .val (.ref b), .val (.int (2 : Int32)), .val (.int (0 : Int32)), .unset] [(.int ax)])) t
            refine XS.istore X173.here hx rfl (hb hby d13_61) rfl (l' := #[.val (.int (0 : Int32)), .val (.ref b), .val (.int (1 : Int32)), .val (.int (0 : Int32)), .val (.ref b173), .val (.ref b), .val (.int (2 : Int32)), .val (.int (0 : Int32)), .val (.int ax)]) rfl ?_
            show Steps p.tables e below (T173.setTop (mkF m 63 #[.val (.int (0 : Int32)), .val (.ref b), .val (.int (1 : Int32)), .val (.int (0 : Int32)), .val (.ref b173), .val (.ref b), .val (.int (2 : Int32)), .val (.int (0 : Int32)), .val (.int ax)] [])) t
            refine XS.iload X173.here hx rfl (hb hby d13_63) rfl ?_
            show Steps p.tables e below (T173.setTop (mkF m 65 #[.val (.int (0 : Int32)), .val (.ref b), .val (.int (1 : Int32)), .val (.int (0 : Int32)), .val (.ref b173), .val (.ref b), .val (.int (2 : Int32)), .val (.int (0 : Int32)), .val (.int ax)] [(.int ax)])) t
            refine XS.ifYes X173.here hx rfl (pc0 := 65) (pc' := 109) rfl (hb hby d13_65) rfl ((if0 _ _).trans (flt hsx_76).2.1) (by decide) (by decide) ?_
            show Steps p.tables e below (T173.setTop (mkF m 109 #[.val (.int (0 : Int32)), .val (.ref b), .val (.int (1 : Int32)), .val (.int (0 : Int32)), .val (.ref b173), .val (.ref b), .val (.int (2 : Int32)), .val (.int (0 : Int32)), .val (.int ax)] [])) t
            refine XS.aload X173.here hx rfl (hb hby d13_109) rfl rfl ?_
            show Steps p.tables e below (T173.setTop (mkF m 111 #[.val (.int (0 : Int32)), .val (.ref b), .val (.int (1 : Int32)), .val (.int (0 : Int32)), .val (.ref b173), .val (.ref b), .val (.int (2 : Int32)), .val (.int (0 : Int32)), .val (.int ax)] [(.ref b173)])) t
            refine XS.iloadN X173.here hx rfl (hb hby d13_111) rfl ?_
            show Steps p.tables e below (T173.setTop (mkF m 112 #[.val (.int (0 : Int32)), .val (.ref b), .val (.int (1 : Int32)), .val (.int (0 : Int32)), .val (.ref b173), .val (.ref b), .val (.int (2 : Int32)), .val (.int (0 : Int32)), .val (.int ax)] [(.int (0 : Int32)), (.ref b173)])) t
            refine XS.iinc X173.here hx rfl (hb hby d13_112) rfl (l' := #[.val (.int (0 : Int32)), .val (.ref b), .val (.int (1 : Int32)), .val (.int (1 : Int32)), .val (.ref b173), .val (.ref b), .val (.int (2 : Int32)), .val (.int (0 : Int32)), .val (.int ax)]) rfl ?_
            show Steps p.tables e below (T173.setTop (mkF m 115 #[.val (.int (0 : Int32)), .val (.ref b), .val (.int (1 : Int32)), .val (.int (1 : Int32)), .val (.ref b173), .val (.ref b), .val (.int (2 : Int32)), .val (.int (0 : Int32)), .val (.int ax)] [(.int (0 : Int32)), (.ref b173)])) t
            refine XS.iload X173.here hx rfl (hb hby d13_115) rfl ?_
            exact kt
          obtain ⟨cl188, Ar188, q188, S188, M188, H188, G188⟩ := id A173
          have hin188 : ¬ ((0 : Int32) < 0 ∨ cl188.slots.size ≤ ((0 : Int32)).toNatClampNeg) := inb_of S188 ⟨by decide, by decide⟩
          obtain ⟨T188, h188, X188, e188, W188, st188⟩ := stB X173 hx hZ rfl Ar188 (j := (0 : Int32)) hin188 (g := (mkF m 117 #[.val (.int (0 : Int32)), .val (.ref b), .val (.int (1 : Int32)), .val (.int (1 : Int32)), .val (.ref b173), .val (.ref b), .val (.int (2 : Int32)), .val (.int (0 : Int32)), .val (.int ax)] [(.int ax), (.int (0 : Int32)), (.ref b173)])) rfl rfl (hb hby d13_117)
          have F189 : Arv Z h188 b173 c173k .byte (4 : Int32) [(.int (ax.toInt8.toInt32)), (.int (0 : Int32)), (.int (0 : Int32)), (.int (0 : Int32))] (.int (0 : Int32)) := Arv.set Ar188 q188 S188 M188 H188 G188 (fits_nar_byte _) W188 0 rfl (Nat.le_of_ble_eq_true rfl)
          have F190 := F175.wr W188
          have F191 := F176.other W188 ne174
          have Z188 : n0 ≤ h188.size := Nat.le_trans Z177 (Keep.of_wr W188).1
          have K188 : Keep h0 h188 [] := K177.wr W188 (Or.inr sz_b173)
          have N188 := Fr.snoc X188 N173 g_b173
          have k193 : ∀ t, Steps p.tables e below (T188.setTop (mkF m 118 #[.val (.int (0 : Int32)), .val (.ref b), .val (.int (1 : Int32)), .val (.int (1 : Int32)), .val (.ref b173), .val (.ref b), .val (.int (2 : Int32)), .val (.int (0 : Int32)), .val (.int ax)] [])) t → Steps p.tables e below (s₁.setTop (entryFrame m #[(.int (0 : Int32)), (.ref b), (.int (1 : Int32))] 9)) t := fun t kt => k187 t (st188 t kt)
          have hc53_194 : (1 : Int32) < (2 : Int32) := by decide
          have k195 : ∀ t, Steps p.tables e below (T188.setTop (mkF m 60 #[.val (.int (0 : Int32)), .val (.ref b), .val (.int (1 : Int32)), .val (.int (1 : Int32)), .val (.ref b173), .val (.ref b), .val (.int (2 : Int32)), .val (.int (1 : Int32)), .val (.int ax)] [(.int (1 : Int32)), (.ref b)])) t → Steps p.tables e below (s₁.setTop (entryFrame m #[(.int (0 : Int32)), (.ref b), (.int (1 : Int32))] 9)) t := by
            intro t kt
            refine k193 t ?_
            show Steps p.tables e below (T188.setTop (mkF m 118 #[.val (.int (0 : Int32)), .val (.ref b), .val (.int (1 : Int32)), .val (.int (1 : Int32)), .val (.ref b173), .val (.ref b), .val (.int (2 : Int32)), .val (.int (0 : Int32)), .val (.int ax)] [])) t
            refine XS.iinc X188.here hx rfl (hb hby d13_118) rfl (l' := #[.val (.int (0 : Int32)), .val (.ref b), .val (.int (1 : Int32)), .val (.int (1 : Int32)), .val (.ref b173), .val (.ref b), .val (.int (2 : Int32)), .val (.int (1 : Int32)), .val (.int ax)]) rfl ?_
            show Steps p.tables e below (T188.setTop (mkF m 121 #[.val (.int (0 : Int32)), .val (.ref b), .val (.int (1 : Int32)), .val (.int (1 : Int32)), .val (.ref b173), .val (.ref b), .val (.int (2 : Int32)), .val (.int (1 : Int32)), .val (.int ax)] [])) t
            refine XS.goto X188.here hx rfl (pc0 := 121) (pc' := 49) rfl (hb hby d13_121) (by decide) (by decide) ?_
            show Steps p.tables e below (T188.setTop (mkF m 49 #[.val (.int (0 : Int32)), .val (.ref b), .val (.int (1 : Int32)), .val (.int (1 : Int32)), .val (.ref b173), .val (.ref b), .val (.int (2 : Int32)), .val (.int (1 : Int32)), .val (.int ax)] [])) t
            refine XS.iload X188.here hx rfl (hb hby d13_49) rfl ?_
            show Steps p.tables e below (T188.setTop (mkF m 51 #[.val (.int (0 : Int32)), .val (.ref b), .val (.int (1 : Int32)), .val (.int (1 : Int32)), .val (.ref b173), .val (.ref b), .val (.int (2 : Int32)), .val (.int (1 : Int32)), .val (.int ax)] [(.int (1 : Int32))])) t
            refine XS.iload X188.here hx rfl (hb hby d13_51) rfl ?_
            show Steps p.tables e below (T188.setTop (mkF m 53 #[.val (.int (0 : Int32)), .val (.ref b), .val (.int (1 : Int32)), .val (.int (1 : Int32)), .val (.ref b173), .val (.ref b), .val (.int (2 : Int32)), .val (.int (1 : Int32)), .val (.int ax)] [(.int (2 : Int32)), (.int (1 : Int32))])) t
            refine XS.icmpNo X188.here hx rfl (hb hby d13_53) rfl (tlt hc53_194).2.1 ?_
            show Steps p.tables e below (T188.setTop (mkF m 56 #[.val (.int (0 : Int32)), .val (.ref b), .val (.int (1 : Int32)), .val (.int (1 : Int32)), .val (.ref b173), .val (.ref b), .val (.int (2 : Int32)), .val (.int (1 : Int32)), .val (.int ax)] [])) t
            refine XS.aload X188.here hx rfl (hb hby d13_56) rfl rfl ?_
            show Steps p.tables e below (T188.setTop (mkF m 58 #[.val (.int (0 : Int32)), .val (.ref b), .val (.int (1 : Int32)), .val (.int (1 : Int32)), .val (.ref b173), .val (.ref b), .val (.int (2 : Int32)), .val (.int (1 : Int32)), .val (.int ax)] [(.ref b)])) t
            refine XS.iload X188.here hx rfl (hb hby d13_58) rfl ?_
            exact kt
          obtain ⟨cl196, Ar196, q196, S196, M196, H196, G196⟩ := id F191
          have hin196 : ¬ ((1 : Int32) < 0 ∨ cl196.slots.size ≤ ((1 : Int32)).toNatClampNeg) := inb_of S196 ⟨by decide, by decide⟩
          have hat196 : cl196.slots[((1 : Int32)).toNatClampNeg]? = some (.int ay) := Has.at H196 hin196 rfl
          have k197 : ∀ t, Steps p.tables e below (T188.setTop (mkF m 61 #[.val (.int (0 : Int32)), .val (.ref b), .val (.int (1 : Int32)), .val (.int (1 : Int32)), .val (.ref b173), .val (.ref b), .val (.int (2 : Int32)), .val (.int (1 : Int32)), .val (.int ax)] [(.int ay)])) t → Steps p.tables e below (s₁.setTop (entryFrame m #[(.int (0 : Int32)), (.ref b), (.int (1 : Int32))] 9)) t := fun t kt => k195 t (X188.baloadBytes hx (j := (1 : Int32)) (v := (.int ay)) (by rw [e188]; exact Ar196.1) (State.isArrayOf_alike hZ.alike Ar196.2.1) Ar196.2.2 hin196 hat196 (g := (mkF m 60 #[.val (.int (0 : Int32)), .val (.ref b), .val (.int (1 : Int32)), .val (.int (1 : Int32)), .val (.ref b173), .val (.ref b), .val (.int (2 : Int32)), .val (.int (1 : Int32)), .val (.int ax)] [(.int (1 : Int32)), (.ref b)])) rfl rfl (hb hby d13_60) t kt)
          have k199 : ∀ t, Steps p.tables e below (T188.setTop (mkF m 88 #[.val (.int (0 : Int32)), .val (.ref b), .val (.int (1 : Int32)), .val (.int (2 : Int32)), .val (.ref b173), .val (.ref b), .val (.int (2 : Int32)), .val (.int (1 : Int32)), .val (.int ay)] [(.int (((192 : Int32) ||| ((ay &&& (255 : Int32)) >>> ((6 : Int32) &&& 31))).toInt8.toInt32)), (.int (1 : Int32)), (.ref b173)])) t → Steps p.tables e below (s₁.setTop (entryFrame m #[(.int (0 : Int32)), (.ref b), (.int (1 : Int32))] 9)) t := by
            intro t kt
            refine k197 t ?_
            show Steps p.tables e below (T188.setTop (mkF m 61 #[.val (.int (0 : Int32)), .val (.ref b), .val (.int (1 : Int32)), .val (.int (1 : Int32)), .val (.ref b173), .val (.ref b), .val (.int (2 : Int32)), .val (.int (1 : Int32)), .val (.int ax)] [(.int ay)])) t
            refine XS.istore X188.here hx rfl (hb hby d13_61) rfl (l' := #[.val (.int (0 : Int32)), .val (.ref b), .val (.int (1 : Int32)), .val (.int (1 : Int32)), .val (.ref b173), .val (.ref b), .val (.int (2 : Int32)), .val (.int (1 : Int32)), .val (.int ay)]) rfl ?_
            show Steps p.tables e below (T188.setTop (mkF m 63 #[.val (.int (0 : Int32)), .val (.ref b), .val (.int (1 : Int32)), .val (.int (1 : Int32)), .val (.ref b173), .val (.ref b), .val (.int (2 : Int32)), .val (.int (1 : Int32)), .val (.int ay)] [])) t
            refine XS.iload X188.here hx rfl (hb hby d13_63) rfl ?_
            show Steps p.tables e below (T188.setTop (mkF m 65 #[.val (.int (0 : Int32)), .val (.ref b), .val (.int (1 : Int32)), .val (.int (1 : Int32)), .val (.ref b173), .val (.ref b), .val (.int (2 : Int32)), .val (.int (1 : Int32)), .val (.int ay)] [(.int ay)])) t
            refine XS.ifNo X188.here hx rfl (hb hby d13_65) rfl ((if0 _ _).trans (tlt hsy_162).2.1) ?_
            show Steps p.tables e below (T188.setTop (mkF m 68 #[.val (.int (0 : Int32)), .val (.ref b), .val (.int (1 : Int32)), .val (.int (1 : Int32)), .val (.ref b173), .val (.ref b), .val (.int (2 : Int32)), .val (.int (1 : Int32)), .val (.int ay)] [])) t
            refine XS.aload X188.here hx rfl (hb hby d13_68) rfl rfl ?_
            show Steps p.tables e below (T188.setTop (mkF m 70 #[.val (.int (0 : Int32)), .val (.ref b), .val (.int (1 : Int32)), .val (.int (1 : Int32)), .val (.ref b173), .val (.ref b), .val (.int (2 : Int32)), .val (.int (1 : Int32)), .val (.int ay)] [(.ref b173)])) t
            refine XS.iloadN X188.here hx rfl (hb hby d13_70) rfl ?_
            show Steps p.tables e below (T188.setTop (mkF m 71 #[.val (.int (0 : Int32)), .val (.ref b), .val (.int (1 : Int32)), .val (.int (1 : Int32)), .val (.ref b173), .val (.ref b), .val (.int (2 : Int32)), .val (.int (1 : Int32)), .val (.int ay)] [(.int (1 : Int32)), (.ref b173)])) t
            refine XS.iinc X188.here hx rfl (hb hby d13_71) rfl (l' := #[.val (.int (0 : Int32)), .val (.ref b), .val (.int (1 : Int32)), .val (.int (2 : Int32)), .val (.ref b173), .val (.ref b), .val (.int (2 : Int32)), .val (.int (1 : Int32)), .val (.int ay)]) rfl ?_
            show Steps p.tables e below (T188.setTop (mkF m 74 #[.val (.int (0 : Int32)), .val (.ref b), .val (.int (1 : Int32)), .val (.int (2 : Int32)), .val (.ref b173), .val (.ref b), .val (.int (2 : Int32)), .val (.int (1 : Int32)), .val (.int ay)] [(.int (1 : Int32)), (.ref b173)])) t
            refine XS.sipush X188.here hx rfl (hb hby d13_74) ?_
            show Steps p.tables e below (T188.setTop (mkF m 77 #[.val (.int (0 : Int32)), .val (.ref b), .val (.int (1 : Int32)), .val (.int (2 : Int32)), .val (.ref b173), .val (.ref b), .val (.int (2 : Int32)), .val (.int (1 : Int32)), .val (.int ay)] [(.int (192 : Int32)), (.int (1 : Int32)), (.ref b173)])) t
            refine XS.iload X188.here hx rfl (hb hby d13_77) rfl ?_
            show Steps p.tables e below (T188.setTop (mkF m 79 #[.val (.int (0 : Int32)), .val (.ref b), .val (.int (1 : Int32)), .val (.int (2 : Int32)), .val (.ref b173), .val (.ref b), .val (.int (2 : Int32)), .val (.int (1 : Int32)), .val (.int ay)] [(.int ay), (.int (192 : Int32)), (.int (1 : Int32)), (.ref b173)])) t
            refine XS.sipush X188.here hx rfl (hb hby d13_79) ?_
            show Steps p.tables e below (T188.setTop (mkF m 82 #[.val (.int (0 : Int32)), .val (.ref b), .val (.int (1 : Int32)), .val (.int (2 : Int32)), .val (.ref b173), .val (.ref b), .val (.int (2 : Int32)), .val (.int (1 : Int32)), .val (.int ay)] [(.int (255 : Int32)), (.int ay), (.int (192 : Int32)), (.int (1 : Int32)), (.ref b173)])) t
            refine XS.iand X188.here hx rfl (hb hby d13_82) rfl ?_
            show Steps p.tables e below (T188.setTop (mkF m 83 #[.val (.int (0 : Int32)), .val (.ref b), .val (.int (1 : Int32)), .val (.int (2 : Int32)), .val (.ref b173), .val (.ref b), .val (.int (2 : Int32)), .val (.int (1 : Int32)), .val (.int ay)] [(.int (ay &&& (255 : Int32))), (.int (192 : Int32)), (.int (1 : Int32)), (.ref b173)])) t
            refine XS.bipush X188.here hx rfl (hb hby d13_83) ?_
            show Steps p.tables e below (T188.setTop (mkF m 85 #[.val (.int (0 : Int32)), .val (.ref b), .val (.int (1 : Int32)), .val (.int (2 : Int32)), .val (.ref b173), .val (.ref b), .val (.int (2 : Int32)), .val (.int (1 : Int32)), .val (.int ay)] [(.int (6 : Int32)), (.int (ay &&& (255 : Int32))), (.int (192 : Int32)), (.int (1 : Int32)), (.ref b173)])) t
            refine XS.ishr X188.here hx rfl (hb hby d13_85) rfl ?_
            show Steps p.tables e below (T188.setTop (mkF m 86 #[.val (.int (0 : Int32)), .val (.ref b), .val (.int (1 : Int32)), .val (.int (2 : Int32)), .val (.ref b173), .val (.ref b), .val (.int (2 : Int32)), .val (.int (1 : Int32)), .val (.int ay)] [(.int ((ay &&& (255 : Int32)) >>> ((6 : Int32) &&& 31))), (.int (192 : Int32)), (.int (1 : Int32)), (.ref b173)])) t
            refine XS.ior X188.here hx rfl (hb hby d13_86) rfl ?_
            show Steps p.tables e below (T188.setTop (mkF m 87 #[.val (.int (0 : Int32)), .val (.ref b), .val (.int (1 : Int32)), .val (.int (2 : Int32)), .val (.ref b173), .val (.ref b), .val (.int (2 : Int32)), .val (.int (1 : Int32)), .val (.int ay)] [(.int ((192 : Int32) ||| ((ay &&& (255 : Int32)) >>> ((6 : Int32) &&& 31)))), (.int (1 : Int32)), (.ref b173)])) t
            refine XS.i2b X188.here hx rfl (hb hby d13_87) rfl ?_
            exact kt
          obtain ⟨cl200, Ar200, q200, S200, M200, H200, G200⟩ := id F189
          have hin200 : ¬ ((1 : Int32) < 0 ∨ cl200.slots.size ≤ ((1 : Int32)).toNatClampNeg) := inb_of S200 ⟨by decide, by decide⟩
          obtain ⟨T200, h200, X200, e200, W200, st200⟩ := stB X188 hx hZ e188 Ar200 (j := (1 : Int32)) hin200 (g := (mkF m 88 #[.val (.int (0 : Int32)), .val (.ref b), .val (.int (1 : Int32)), .val (.int (2 : Int32)), .val (.ref b173), .val (.ref b), .val (.int (2 : Int32)), .val (.int (1 : Int32)), .val (.int ay)] [(.int (((192 : Int32) ||| ((ay &&& (255 : Int32)) >>> ((6 : Int32) &&& 31))).toInt8.toInt32)), (.int (1 : Int32)), (.ref b173)])) rfl rfl (hb hby d13_88)
          have F201 : Arv Z h200 b173 c173k .byte (4 : Int32) [(.int (ax.toInt8.toInt32)), (.int ((((192 : Int32) ||| ((ay &&& (255 : Int32)) >>> ((6 : Int32) &&& 31))).toInt8.toInt32).toInt8.toInt32)), (.int (0 : Int32)), (.int (0 : Int32))] (.int (0 : Int32)) := Arv.set Ar200 q200 S200 M200 H200 G200 (fits_nar_byte _) W200 1 rfl (Nat.le_of_ble_eq_true rfl)
          have F202 := F190.wr W200
          have F203 := F191.other W200 ne174
          have Z200 : n0 ≤ h200.size := Nat.le_trans Z188 (Keep.of_wr W200).1
          have K200 : Keep h0 h200 [] := K188.wr W200 (Or.inr sz_b173)
          have N200 := Fr.snoc X200 N188 g_b173
          have k205 : ∀ t, Steps p.tables e below (T200.setTop (mkF m 89 #[.val (.int (0 : Int32)), .val (.ref b), .val (.int (1 : Int32)), .val (.int (2 : Int32)), .val (.ref b173), .val (.ref b), .val (.int (2 : Int32)), .val (.int (1 : Int32)), .val (.int ay)] [])) t → Steps p.tables e below (s₁.setTop (entryFrame m #[(.int (0 : Int32)), (.ref b), (.int (1 : Int32))] 9)) t := fun t kt => k199 t (st200 t kt)
          have k206 : ∀ t, Steps p.tables e below (T200.setTop (mkF m 105 #[.val (.int (0 : Int32)), .val (.ref b), .val (.int (1 : Int32)), .val (.int (3 : Int32)), .val (.ref b173), .val (.ref b), .val (.int (2 : Int32)), .val (.int (1 : Int32)), .val (.int ay)] [(.int (((128 : Int32) ||| (ay &&& (63 : Int32))).toInt8.toInt32)), (.int (2 : Int32)), (.ref b173)])) t → Steps p.tables e below (s₁.setTop (entryFrame m #[(.int (0 : Int32)), (.ref b), (.int (1 : Int32))] 9)) t := by
            intro t kt
            refine k205 t ?_
            show Steps p.tables e below (T200.setTop (mkF m 89 #[.val (.int (0 : Int32)), .val (.ref b), .val (.int (1 : Int32)), .val (.int (2 : Int32)), .val (.ref b173), .val (.ref b), .val (.int (2 : Int32)), .val (.int (1 : Int32)), .val (.int ay)] [])) t
            refine XS.aload X200.here hx rfl (hb hby d13_89) rfl rfl ?_
            show Steps p.tables e below (T200.setTop (mkF m 91 #[.val (.int (0 : Int32)), .val (.ref b), .val (.int (1 : Int32)), .val (.int (2 : Int32)), .val (.ref b173), .val (.ref b), .val (.int (2 : Int32)), .val (.int (1 : Int32)), .val (.int ay)] [(.ref b173)])) t
            refine XS.iloadN X200.here hx rfl (hb hby d13_91) rfl ?_
            show Steps p.tables e below (T200.setTop (mkF m 92 #[.val (.int (0 : Int32)), .val (.ref b), .val (.int (1 : Int32)), .val (.int (2 : Int32)), .val (.ref b173), .val (.ref b), .val (.int (2 : Int32)), .val (.int (1 : Int32)), .val (.int ay)] [(.int (2 : Int32)), (.ref b173)])) t
            refine XS.iinc X200.here hx rfl (hb hby d13_92) rfl (l' := #[.val (.int (0 : Int32)), .val (.ref b), .val (.int (1 : Int32)), .val (.int (3 : Int32)), .val (.ref b173), .val (.ref b), .val (.int (2 : Int32)), .val (.int (1 : Int32)), .val (.int ay)]) rfl ?_
            show Steps p.tables e below (T200.setTop (mkF m 95 #[.val (.int (0 : Int32)), .val (.ref b), .val (.int (1 : Int32)), .val (.int (3 : Int32)), .val (.ref b173), .val (.ref b), .val (.int (2 : Int32)), .val (.int (1 : Int32)), .val (.int ay)] [(.int (2 : Int32)), (.ref b173)])) t
            refine XS.sipush X200.here hx rfl (hb hby d13_95) ?_
            show Steps p.tables e below (T200.setTop (mkF m 98 #[.val (.int (0 : Int32)), .val (.ref b), .val (.int (1 : Int32)), .val (.int (3 : Int32)), .val (.ref b173), .val (.ref b), .val (.int (2 : Int32)), .val (.int (1 : Int32)), .val (.int ay)] [(.int (128 : Int32)), (.int (2 : Int32)), (.ref b173)])) t
            refine XS.iload X200.here hx rfl (hb hby d13_98) rfl ?_
            show Steps p.tables e below (T200.setTop (mkF m 100 #[.val (.int (0 : Int32)), .val (.ref b), .val (.int (1 : Int32)), .val (.int (3 : Int32)), .val (.ref b173), .val (.ref b), .val (.int (2 : Int32)), .val (.int (1 : Int32)), .val (.int ay)] [(.int ay), (.int (128 : Int32)), (.int (2 : Int32)), (.ref b173)])) t
            refine XS.bipush X200.here hx rfl (hb hby d13_100) ?_
            show Steps p.tables e below (T200.setTop (mkF m 102 #[.val (.int (0 : Int32)), .val (.ref b), .val (.int (1 : Int32)), .val (.int (3 : Int32)), .val (.ref b173), .val (.ref b), .val (.int (2 : Int32)), .val (.int (1 : Int32)), .val (.int ay)] [(.int (63 : Int32)), (.int ay), (.int (128 : Int32)), (.int (2 : Int32)), (.ref b173)])) t
            refine XS.iand X200.here hx rfl (hb hby d13_102) rfl ?_
            show Steps p.tables e below (T200.setTop (mkF m 103 #[.val (.int (0 : Int32)), .val (.ref b), .val (.int (1 : Int32)), .val (.int (3 : Int32)), .val (.ref b173), .val (.ref b), .val (.int (2 : Int32)), .val (.int (1 : Int32)), .val (.int ay)] [(.int (ay &&& (63 : Int32))), (.int (128 : Int32)), (.int (2 : Int32)), (.ref b173)])) t
            refine XS.ior X200.here hx rfl (hb hby d13_103) rfl ?_
            show Steps p.tables e below (T200.setTop (mkF m 104 #[.val (.int (0 : Int32)), .val (.ref b), .val (.int (1 : Int32)), .val (.int (3 : Int32)), .val (.ref b173), .val (.ref b), .val (.int (2 : Int32)), .val (.int (1 : Int32)), .val (.int ay)] [(.int ((128 : Int32) ||| (ay &&& (63 : Int32)))), (.int (2 : Int32)), (.ref b173)])) t
            refine XS.i2b X200.here hx rfl (hb hby d13_104) rfl ?_
            exact kt
          obtain ⟨cl207, Ar207, q207, S207, M207, H207, G207⟩ := id F201
          have hin207 : ¬ ((2 : Int32) < 0 ∨ cl207.slots.size ≤ ((2 : Int32)).toNatClampNeg) := inb_of S207 ⟨by decide, by decide⟩
          obtain ⟨T207, h207, X207, e207, W207, st207⟩ := stB X200 hx hZ e200 Ar207 (j := (2 : Int32)) hin207 (g := (mkF m 105 #[.val (.int (0 : Int32)), .val (.ref b), .val (.int (1 : Int32)), .val (.int (3 : Int32)), .val (.ref b173), .val (.ref b), .val (.int (2 : Int32)), .val (.int (1 : Int32)), .val (.int ay)] [(.int (((128 : Int32) ||| (ay &&& (63 : Int32))).toInt8.toInt32)), (.int (2 : Int32)), (.ref b173)])) rfl rfl (hb hby d13_105)
          have F208 : Arv Z h207 b173 c173k .byte (4 : Int32) [(.int (ax.toInt8.toInt32)), (.int ((((192 : Int32) ||| ((ay &&& (255 : Int32)) >>> ((6 : Int32) &&& 31))).toInt8.toInt32).toInt8.toInt32)), (.int ((((128 : Int32) ||| (ay &&& (63 : Int32))).toInt8.toInt32).toInt8.toInt32)), (.int (0 : Int32))] (.int (0 : Int32)) := Arv.set Ar207 q207 S207 M207 H207 G207 (fits_nar_byte _) W207 2 rfl (Nat.le_of_ble_eq_true rfl)
          have F209 := F202.wr W207
          have F210 := F203.other W207 ne174
          have Z207 : n0 ≤ h207.size := Nat.le_trans Z200 (Keep.of_wr W207).1
          have K207 : Keep h0 h207 [] := K200.wr W207 (Or.inr sz_b173)
          have N207 := Fr.snoc X207 N200 g_b173
          have k212 : ∀ t, Steps p.tables e below (T207.setTop (mkF m 106 #[.val (.int (0 : Int32)), .val (.ref b), .val (.int (1 : Int32)), .val (.int (3 : Int32)), .val (.ref b173), .val (.ref b), .val (.int (2 : Int32)), .val (.int (1 : Int32)), .val (.int ay)] [])) t → Steps p.tables e below (s₁.setTop (entryFrame m #[(.int (0 : Int32)), (.ref b), (.int (1 : Int32))] 9)) t := fun t kt => k206 t (st207 t kt)
          have hc53_213 : ¬ ((2 : Int32) < (2 : Int32)) := by decide
          have k214 : ∀ t, Steps p.tables e below (T207.setTop (mkF m 127 #[.val (.int (0 : Int32)), .val (.ref b), .val (.int (1 : Int32)), .val (.int (3 : Int32)), .val (.ref b173), .val (.ref b), .val (.int (2 : Int32)), .val (.int (2 : Int32)), .val (.int ay)] [(.ref b173), (.int (3 : Int32))])) t → Steps p.tables e below (s₁.setTop (entryFrame m #[(.int (0 : Int32)), (.ref b), (.int (1 : Int32))] 9)) t := by
            intro t kt
            refine k212 t ?_
            show Steps p.tables e below (T207.setTop (mkF m 106 #[.val (.int (0 : Int32)), .val (.ref b), .val (.int (1 : Int32)), .val (.int (3 : Int32)), .val (.ref b173), .val (.ref b), .val (.int (2 : Int32)), .val (.int (1 : Int32)), .val (.int ay)] [])) t
            refine XS.goto X207.here hx rfl (pc0 := 106) (pc' := 118) rfl (hb hby d13_106) (by decide) (by decide) ?_
            show Steps p.tables e below (T207.setTop (mkF m 118 #[.val (.int (0 : Int32)), .val (.ref b), .val (.int (1 : Int32)), .val (.int (3 : Int32)), .val (.ref b173), .val (.ref b), .val (.int (2 : Int32)), .val (.int (1 : Int32)), .val (.int ay)] [])) t
            refine XS.iinc X207.here hx rfl (hb hby d13_118) rfl (l' := #[.val (.int (0 : Int32)), .val (.ref b), .val (.int (1 : Int32)), .val (.int (3 : Int32)), .val (.ref b173), .val (.ref b), .val (.int (2 : Int32)), .val (.int (2 : Int32)), .val (.int ay)]) rfl ?_
            show Steps p.tables e below (T207.setTop (mkF m 121 #[.val (.int (0 : Int32)), .val (.ref b), .val (.int (1 : Int32)), .val (.int (3 : Int32)), .val (.ref b173), .val (.ref b), .val (.int (2 : Int32)), .val (.int (2 : Int32)), .val (.int ay)] [])) t
            refine XS.goto X207.here hx rfl (pc0 := 121) (pc' := 49) rfl (hb hby d13_121) (by decide) (by decide) ?_
            show Steps p.tables e below (T207.setTop (mkF m 49 #[.val (.int (0 : Int32)), .val (.ref b), .val (.int (1 : Int32)), .val (.int (3 : Int32)), .val (.ref b173), .val (.ref b), .val (.int (2 : Int32)), .val (.int (2 : Int32)), .val (.int ay)] [])) t
            refine XS.iload X207.here hx rfl (hb hby d13_49) rfl ?_
            show Steps p.tables e below (T207.setTop (mkF m 51 #[.val (.int (0 : Int32)), .val (.ref b), .val (.int (1 : Int32)), .val (.int (3 : Int32)), .val (.ref b173), .val (.ref b), .val (.int (2 : Int32)), .val (.int (2 : Int32)), .val (.int ay)] [(.int (2 : Int32))])) t
            refine XS.iload X207.here hx rfl (hb hby d13_51) rfl ?_
            show Steps p.tables e below (T207.setTop (mkF m 53 #[.val (.int (0 : Int32)), .val (.ref b), .val (.int (1 : Int32)), .val (.int (3 : Int32)), .val (.ref b173), .val (.ref b), .val (.int (2 : Int32)), .val (.int (2 : Int32)), .val (.int ay)] [(.int (2 : Int32)), (.int (2 : Int32))])) t
            refine XS.icmpYes X207.here hx rfl (pc0 := 53) (pc' := 124) rfl (hb hby d13_53) rfl (flt hc53_213).2.1 (by decide) (by decide) ?_
            show Steps p.tables e below (T207.setTop (mkF m 124 #[.val (.int (0 : Int32)), .val (.ref b), .val (.int (1 : Int32)), .val (.int (3 : Int32)), .val (.ref b173), .val (.ref b), .val (.int (2 : Int32)), .val (.int (2 : Int32)), .val (.int ay)] [])) t
            refine XS.iloadN X207.here hx rfl (hb hby d13_124) rfl ?_
            show Steps p.tables e below (T207.setTop (mkF m 125 #[.val (.int (0 : Int32)), .val (.ref b), .val (.int (1 : Int32)), .val (.int (3 : Int32)), .val (.ref b173), .val (.ref b), .val (.int (2 : Int32)), .val (.int (2 : Int32)), .val (.int ay)] [(.int (3 : Int32))])) t
            refine XS.aload X207.here hx rfl (hb hby d13_125) rfl rfl ?_
            exact kt
          obtain ⟨cl215, Ar215, -, S215, M215, -, -⟩ := id F208
          have k216 : ∀ t, Steps p.tables e below (T207.setTop (mkF m 128 #[.val (.int (0 : Int32)), .val (.ref b), .val (.int (1 : Int32)), .val (.int (3 : Int32)), .val (.ref b173), .val (.ref b), .val (.int (2 : Int32)), .val (.int (2 : Int32)), .val (.int ay)] [(.int (4 : Int32)), (.int (3 : Int32))])) t → Steps p.tables e below (s₁.setTop (entryFrame m #[(.int (0 : Int32)), (.ref b), (.int (1 : Int32))] 9)) t := fun t kt => k214 t (X207.arraylength hx (by rw [e207]; exact Ar215.1) (State.isArrayOf_alike hZ.alike Ar215.2.1) (g := (mkF m 127 #[.val (.int (0 : Int32)), .val (.ref b), .val (.int (1 : Int32)), .val (.int (3 : Int32)), .val (.ref b173), .val (.ref b), .val (.int (2 : Int32)), .val (.int (2 : Int32)), .val (.int ay)] [(.ref b173), (.int (3 : Int32))])) rfl rfl (hb hby d13_127) t (by rw [len_of S215 M215]; exact kt))
          have hc128_217 : ¬ ((3 : Int32) = (4 : Int32)) := by decide
          have k218 : ∀ t, Steps p.tables e below (T207.setTop (mkF m 137 #[.val (.int (0 : Int32)), .val (.ref b), .val (.int (1 : Int32)), .val (.int (3 : Int32)), .val (.ref b173), .val (.ref b), .val (.int (2 : Int32)), .val (.int (2 : Int32)), .val (.int ay)] [(.int (3 : Int32)), (.ref b173)])) t → Steps p.tables e below (s₁.setTop (entryFrame m #[(.int (0 : Int32)), (.ref b), (.int (1 : Int32))] 9)) t := by
            intro t kt
            refine k216 t ?_
            show Steps p.tables e below (T207.setTop (mkF m 128 #[.val (.int (0 : Int32)), .val (.ref b), .val (.int (1 : Int32)), .val (.int (3 : Int32)), .val (.ref b173), .val (.ref b), .val (.int (2 : Int32)), .val (.int (2 : Int32)), .val (.int ay)] [(.int (4 : Int32)), (.int (3 : Int32))])) t
            refine XS.icmpYes X207.here hx rfl (pc0 := 128) (pc' := 134) rfl (hb hby d13_128) rfl (feq hc128_217).2 (by decide) (by decide) ?_
            show Steps p.tables e below (T207.setTop (mkF m 134 #[.val (.int (0 : Int32)), .val (.ref b), .val (.int (1 : Int32)), .val (.int (3 : Int32)), .val (.ref b173), .val (.ref b), .val (.int (2 : Int32)), .val (.int (2 : Int32)), .val (.int ay)] [])) t
            refine XS.aload X207.here hx rfl (hb hby d13_134) rfl rfl ?_
            show Steps p.tables e below (T207.setTop (mkF m 136 #[.val (.int (0 : Int32)), .val (.ref b), .val (.int (1 : Int32)), .val (.int (3 : Int32)), .val (.ref b173), .val (.ref b), .val (.int (2 : Int32)), .val (.int (2 : Int32)), .val (.int ay)] [(.ref b173)])) t
            refine XS.iloadN X207.here hx rfl (hb hby d13_136) rfl ?_
            exact kt
          obtain ⟨_, _, ⟨T219, L219, k219c, n219⟩, -, X219, ⟨Lc219, hQ219, l219, y219, z219⟩, st219⟩ := Jvm.LawKit.callS X207 hx (y := (⟨"java/util/Arrays", "copyOf", "([BI)[B"⟩ : MethodName)) hown (mvT hZ (hw _ (List.mem_of_getElem? (i := 122) rfl))) (mvT hZ (hw _ (List.mem_of_getElem? (i := 123) rfl))) (mvT hZ (hw _ (List.mem_of_getElem? (i := 124) rfl))) (mvT hZ (hw _ (List.mem_of_getElem? (i := 125) rfl))) (by decide) (backOf (W := 0) (rmCf l Z a0 hw [] b173 c173k (ax.toInt8.toInt32) ((((192 : Int32) ||| ((ay &&& (255 : Int32)) >>> ((6 : Int32) &&& 31))).toInt8.toInt32).toInt8.toInt32) ((((128 : Int32) ||| (ay &&& (63 : Int32))).toInt8.toInt32).toInt8.toInt32) (0 : Int32) h207 n0 Z207 F208) hZ (hw _ (List.mem_of_getElem? (i := 125) rfl)) (hw _ (List.mem_of_getElem? (i := 124) rfl)) (by decide) (by decide)) (g := (mkF m 137 #[.val (.int (0 : Int32)), .val (.ref b), .val (.int (1 : Int32)), .val (.int (3 : Int32)), .val (.ref b173), .val (.ref b), .val (.int (2 : Int32)), .val (.int (2 : Int32)), .val (.int ay)] [(.int (3 : Int32)), (.ref b173)])) rfl (by rw [hml]; rfl) (argsL := [(.ref b173), (.int (3 : Int32))]) (rest := []) (lenOf own_pd11 rfl) rfl (by show 2 * 0 + _ ≤ _; exact Nat.le_of_eq rfl) (hb hby d13_137) (fun _ _ => ⟨rfl, e207, (by decide : 1 + 1 ≤ _), (by decide : 4 + 3 ≤ _)⟩)
          dsimp only [Pt.U, Pt.locs, Pt.cells, Pt.slots] at X219 l219 y219 z219 st219 hQ219
          subst l219 y219 z219
          obtain ⟨r219, rfl, N219q, K219k, s219z⟩ := hQ219
          have N219 := Fr.app N207 N219q
          have g_r219 : n0 ≤ r219 := Nat.le_trans Z207 s219z
          have sz_r219 : h0.size ≤ r219 := Nat.le_trans K207.1 s219z
          have ne220 : b ≠ r219 := Nat.ne_of_lt (Nat.lt_of_lt_of_le F209.lt s219z)
          have ne221 : b173 ≠ r219 := Nat.ne_of_lt (Nat.lt_of_lt_of_le F208.lt s219z)
          have F222 := F209.keep K219k
          have F223 := F210.keep K219k nin0
          have F224 := F208.keep K219k nin0
          have Z225 : n0 ≤ T219.heap.size := Nat.le_trans Z207 K219k.1
          have K225 : Keep h0 T219.heap [] := K207.trans K219k all0
          have k226 : ∀ t, Steps p.tables e below (T219.setTop (mkF m 140 #[.val (.int (0 : Int32)), .val (.ref b), .val (.int (1 : Int32)), .val (.int (3 : Int32)), .val (.ref b173), .val (.ref b), .val (.int (2 : Int32)), .val (.int (2 : Int32)), .val (.int ay)] [(.ref r219)])) t → Steps p.tables e below (s₁.setTop (entryFrame m #[(.int (0 : Int32)), (.ref b), (.int (1 : Int32))] 9)) t := fun t kt => k218 t (st219 t kt)
          obtain ⟨fs, hr, hrun, hended, hW, hsame⟩ := X219.leave (v := some (.ref r219)) (fun h => by rw [Bd.returns] at h; cases h)
          refine ⟨_, _, k226 _ ?_, hrun, hended, _, _, rfl, ?_, ⟨_, rfl⟩, hW, hsame.mono (by decide) (by decide)⟩
          · show Steps p.tables e below (T219.setTop (mkF m 140 #[.val (.int (0 : Int32)), .val (.ref b), .val (.int (1 : Int32)), .val (.int (3 : Int32)), .val (.ref b173), .val (.ref b), .val (.int (2 : Int32)), .val (.int (2 : Int32)), .val (.int ay)] [(.ref r219)])) _
            jvm_step X219.here [X219.here.top, hx, (hb hby d13_140), X219.method', Bd.returns, Value.isRef, FieldType.isReference]
            first | (intro acts; rw [hr _ acts rfl rfl rfl]) | rw [hr _ _ rfl rfl rfl]
            exact Steps.refl _
          · show QEu Z b kb n1 ax ay h0 n0 _ T219.heap _
            exact ⟨r219, rfl, N219, K225, sz_r219⟩
        · have hc2_227 : ¬ ((0 : Int32) = (1 : Int32)) := by decide
          have k228 : ∀ t, Steps p.tables e below (s₁.setTop (mkF m 14 #[.val (.int (0 : Int32)), .val (.ref b), .val (.int (1 : Int32)), .unset, .unset, .unset, .unset, .unset, .unset] [(.ref b), (.int (0 : Int32)), (.ref b)])) t → Steps p.tables e below (s₁.setTop (entryFrame m #[(.int (0 : Int32)), (.ref b), (.int (1 : Int32))] 9)) t := by
            intro t kt
            refine k0 t ?_
            show Steps p.tables e below (s₁.setTop (mkF m 0 #[.val (.int (0 : Int32)), .val (.ref b), .val (.int (1 : Int32)), .unset, .unset, .unset, .unset, .unset, .unset] [])) t
            refine XS.iloadN X0.here hx rfl (hb hby d13_0) rfl ?_
            show Steps p.tables e below (s₁.setTop (mkF m 1 #[.val (.int (0 : Int32)), .val (.ref b), .val (.int (1 : Int32)), .unset, .unset, .unset, .unset, .unset, .unset] [(.int (0 : Int32))])) t
            refine XS.iconst X0.here hx rfl (hb hby d13_1) ?_
            show Steps p.tables e below (s₁.setTop (mkF m 2 #[.val (.int (0 : Int32)), .val (.ref b), .val (.int (1 : Int32)), .unset, .unset, .unset, .unset, .unset, .unset] [(.int (1 : Int32)), (.int (0 : Int32))])) t
            refine XS.icmpYes X0.here hx rfl (pc0 := 2) (pc' := 11) rfl (hb hby d13_2) rfl (feq hc2_227).2 (by decide) (by decide) ?_
            show Steps p.tables e below (s₁.setTop (mkF m 11 #[.val (.int (0 : Int32)), .val (.ref b), .val (.int (1 : Int32)), .unset, .unset, .unset, .unset, .unset, .unset] [])) t
            refine XS.aloadN X0.here hx rfl (hb hby d13_11) rfl rfl ?_
            show Steps p.tables e below (s₁.setTop (mkF m 12 #[.val (.int (0 : Int32)), .val (.ref b), .val (.int (1 : Int32)), .unset, .unset, .unset, .unset, .unset, .unset] [(.ref b)])) t
            refine XS.iconst X0.here hx rfl (hb hby d13_12) ?_
            show Steps p.tables e below (s₁.setTop (mkF m 13 #[.val (.int (0 : Int32)), .val (.ref b), .val (.int (1 : Int32)), .unset, .unset, .unset, .unset, .unset, .unset] [(.int (0 : Int32)), (.ref b)])) t
            refine XS.aloadN X0.here hx rfl (hb hby d13_13) rfl rfl ?_
            exact kt
          obtain ⟨cl229, Ar229, -, S229, M229, -, -⟩ := id Ab2
          have k230 : ∀ t, Steps p.tables e below (s₁.setTop (mkF m 15 #[.val (.int (0 : Int32)), .val (.ref b), .val (.int (1 : Int32)), .unset, .unset, .unset, .unset, .unset, .unset] [(.int (2 : Int32)), (.int (0 : Int32)), (.ref b)])) t → Steps p.tables e below (s₁.setTop (entryFrame m #[(.int (0 : Int32)), (.ref b), (.int (1 : Int32))] 9)) t := fun t kt => k228 t (X0.arraylength hx (by rw [e0]; exact Ar229.1) (State.isArrayOf_alike hZ.alike Ar229.2.1) (g := (mkF m 14 #[.val (.int (0 : Int32)), .val (.ref b), .val (.int (1 : Int32)), .unset, .unset, .unset, .unset, .unset, .unset] [(.ref b), (.int (0 : Int32)), (.ref b)])) rfl rfl (hb hby d13_14) t (by rw [len_of S229 M229]; exact kt))
          obtain ⟨_, _, ⟨T231, L231, k231c, n231⟩, -, X231, ⟨Lc231, hQ231, l231, y231, z231⟩, st231⟩ := Jvm.LawKit.callS X0 hx (y := (⟨"java/lang/StringCoding", "hasNegatives", "([BII)Z"⟩ : MethodName)) hown (mvT hZ (hw _ (List.mem_of_getElem? (i := 69) rfl))) (mvT hZ (hw _ (List.mem_of_getElem? (i := 70) rfl))) (mvT hZ (hw _ (List.mem_of_getElem? (i := 71) rfl))) (mvT hZ (hw _ (List.mem_of_getElem? (i := 72) rfl))) (by decide) (backOf (W := 0) (rmHn2pp l Z a0 hw [] b kb ax ay h0 n0 Z0 Ab2 hsx_76 hsy_162) hZ (hw _ (List.mem_of_getElem? (i := 72) rfl)) (hw _ (List.mem_of_getElem? (i := 71) rfl)) (by decide) (by decide)) (g := (mkF m 15 #[.val (.int (0 : Int32)), .val (.ref b), .val (.int (1 : Int32)), .unset, .unset, .unset, .unset, .unset, .unset] [(.int (2 : Int32)), (.int (0 : Int32)), (.ref b)])) rfl (by rw [hml]; rfl) (argsL := [(.ref b), (.int (0 : Int32)), (.int (2 : Int32))]) (rest := []) (lenOf own_pd9 rfl) rfl (by show 2 * 0 + _ ≤ _; exact Nat.le_of_eq rfl) (hb hby d13_15) (fun _ _ => ⟨rfl, e0, (by decide : 0 + 0 ≤ _), (by decide : 0 + 0 ≤ _)⟩)
          dsimp only [Pt.U, Pt.locs, Pt.cells, Pt.slots] at X231 l231 y231 z231 st231 hQ231
          subst l231 y231 z231
          obtain ⟨rfl, N231q, e231⟩ := hQ231
          have N231 := Fr.app N0 N231q
          have k232 : ∀ t, Steps p.tables e below (T231.setTop (mkF m 18 #[.val (.int (0 : Int32)), .val (.ref b), .val (.int (1 : Int32)), .unset, .unset, .unset, .unset, .unset, .unset] [(.int (0 : Int32))])) t → Steps p.tables e below (s₁.setTop (entryFrame m #[(.int (0 : Int32)), (.ref b), (.int (1 : Int32))] 9)) t := fun t kt => k230 t (st231 t kt)
          have hc18_233 : (0 : Int32) = (0 : Int32) := rfl
          have k234 : ∀ t, Steps p.tables e below (T231.setTop (mkF m 22 #[.val (.int (0 : Int32)), .val (.ref b), .val (.int (1 : Int32)), .unset, .unset, .unset, .unset, .unset, .unset] [(.ref b)])) t → Steps p.tables e below (s₁.setTop (entryFrame m #[(.int (0 : Int32)), (.ref b), (.int (1 : Int32))] 9)) t := by
            intro t kt
            refine k232 t ?_
            show Steps p.tables e below (T231.setTop (mkF m 18 #[.val (.int (0 : Int32)), .val (.ref b), .val (.int (1 : Int32)), .unset, .unset, .unset, .unset, .unset, .unset] [(.int (0 : Int32))])) t
            refine XS.ifNo X231.here hx rfl (hb hby d13_18) rfl ((if0 _ _).trans (teq hc18_233).2) ?_
            show Steps p.tables e below (T231.setTop (mkF m 21 #[.val (.int (0 : Int32)), .val (.ref b), .val (.int (1 : Int32)), .unset, .unset, .unset, .unset, .unset, .unset] [])) t
            refine XS.aloadN X231.here hx rfl (hb hby d13_21) rfl rfl ?_
            exact kt
          obtain ⟨T235, h235, X235, e235, E235, A235, B235, st235⟩ := cloneH X231 hx hZ hown (hw _ (List.mem_of_getElem? (i := 76) rfl)) (hw _ (List.mem_of_getElem? (i := 77) rfl)) (hw _ (List.mem_of_getElem? (i := 81) rfl)) (hw _ (List.mem_of_getElem? (i := 79) rfl)) (hw _ (List.mem_of_getElem? (i := 80) rfl)) (hw _ (List.mem_of_getElem? (i := 82) rfl)) e231 Ab2.arh Eb (g := (mkF m 22 #[.val (.int (0 : Int32)), .val (.ref b), .val (.int (1 : Int32)), .unset, .unset, .unset, .unset, .unset, .unset] [(.ref b)])) rfl (by rw [hml]; rfl) rfl (hb hby d13_22) (by decide) (W := 0) (by show 2 * 0 + _ ≤ _; exact Nat.le_of_eq rfl) (by decide) (cap := 2) (by decide) (by decide) (by decide)
          obtain ⟨b235, g235⟩ : ∃ z, z = h0.size := ⟨_, rfl⟩
          rw [← g235] at A235 B235 st235
          have g_b235 : n0 ≤ b235 := Nat.le_trans Z0 (Nat.le_of_eq g235.symm)
          have sz_b235 : h0.size ≤ b235 := Nat.le_trans K0.1 (Nat.le_of_eq g235.symm)
          have ne236 : b ≠ b235 := Nat.ne_of_lt (Nat.lt_of_lt_of_le Eb.lt (Nat.le_of_eq g235.symm))
          have F237 := Eb.ext E235
          have F238 := Ab2.ext E235
          have Z235 : n0 ≤ h235.size := Nat.le_trans Z0 E235.1
          have K235 : Keep h0 h235 [] := K0.ext E235
          have k239 : ∀ t, Steps p.tables e below (T235.setTop (mkF m 25 #[.val (.int (0 : Int32)), .val (.ref b), .val (.int (1 : Int32)), .unset, .unset, .unset, .unset, .unset, .unset] [(.ref b235)])) t → Steps p.tables e below (s₁.setTop (entryFrame m #[(.int (0 : Int32)), (.ref b), (.int (1 : Int32))] 9)) t := fun t kt => k234 t (st235 t kt)
          obtain ⟨T240, X240, e240, st240⟩ := castY X235 hx hZ hown (hw _ (List.mem_of_getElem? (i := 83) rfl)) e235 (Ins.self B235) (g := (mkF m 25 #[.val (.int (0 : Int32)), .val (.ref b), .val (.int (1 : Int32)), .unset, .unset, .unset, .unset, .unset, .unset] [(.ref b235)])) rfl rfl (hb hby d13_25)
          have k241 : ∀ t, Steps p.tables e below (T240.setTop (mkF m 28 #[.val (.int (0 : Int32)), .val (.ref b), .val (.int (1 : Int32)), .unset, .unset, .unset, .unset, .unset, .unset] [(.ref b235)])) t → Steps p.tables e below (s₁.setTop (entryFrame m #[(.int (0 : Int32)), (.ref b), (.int (1 : Int32))] 9)) t := fun t kt => k239 t (st240 t kt)
          obtain ⟨fs, hr, hrun, hended, hW, hsame⟩ := X240.leave (v := some (.ref b235)) (fun h => by rw [Bd.returns] at h; cases h)
          refine ⟨_, _, k241 _ ?_, hrun, hended, _, _, rfl, ?_, ⟨_, rfl⟩, hW, hsame.mono (by decide) (by decide)⟩
          · show Steps p.tables e below (T240.setTop (mkF m 28 #[.val (.int (0 : Int32)), .val (.ref b), .val (.int (1 : Int32)), .unset, .unset, .unset, .unset, .unset, .unset] [(.ref b235)])) _
            jvm_step X240.here [X240.here.top, hx, (hb hby d13_28), X240.method', Bd.returns, Value.isRef, FieldType.isReference]
            first | (intro acts; rw [hr _ acts rfl rfl rfl]) | rw [hr _ _ rfl rfl rfl]
            exact Steps.refl _
          · show QEu Z b kb n1 ax ay h0 n0 _ T240.heap _
            rw [e240]
            exact ⟨b235, rfl, N231, K235, sz_b235⟩
theorem d12_0 : decode jdk_42_method_18_code 0 = .ok (.aload_n 0, 1) := by decide +kernel
theorem d12_1 : decode jdk_42_method_18_code 1 = .ok (.getstatic 86, 3) := by decide +kernel
theorem d12_4 : decode jdk_42_method_18_code 4 = .ok (.if_acmp .ne 10, 3) := by decide +kernel
theorem d12_7 : decode jdk_42_method_18_code 7 = .ok (.iload_n 1, 1) := by decide +kernel
theorem d12_8 : decode jdk_42_method_18_code 8 = .ok (.aload_n 2, 1) := by decide +kernel
theorem d12_9 : decode jdk_42_method_18_code 9 = .ok (.iconst 1, 1) := by decide +kernel
theorem d12_10 : decode jdk_42_method_18_code 10 = .ok (.invokestatic 252, 3) := by decide +kernel
theorem d12_13 : decode jdk_42_method_18_code 13 = .ok (.areturn, 1) := by decide +kernel
theorem d12_14 : decode jdk_42_method_18_code 14 = .ok (.aload_n 0, 1) := by decide +kernel
theorem d12_15 : decode jdk_42_method_18_code 15 = .ok (.getstatic 116, 3) := by decide +kernel
theorem d12_18 : decode jdk_42_method_18_code 18 = .ok (.if_acmp .ne 9, 3) := by decide +kernel
theorem d12_21 : decode jdk_42_method_18_code 21 = .ok (.iload_n 1, 1) := by decide +kernel
theorem d12_22 : decode jdk_42_method_18_code 22 = .ok (.aload_n 2, 1) := by decide +kernel
theorem d12_23 : decode jdk_42_method_18_code 23 = .ok (.invokestatic 256, 3) := by decide +kernel
theorem d12_26 : decode jdk_42_method_18_code 26 = .ok (.areturn, 1) := by decide +kernel
theorem d12_27 : decode jdk_42_method_18_code 27 = .ok (.aload_n 0, 1) := by decide +kernel
theorem d12_28 : decode jdk_42_method_18_code 28 = .ok (.getstatic 123, 3) := by decide +kernel
theorem d12_31 : decode jdk_42_method_18_code 31 = .ok (.if_acmp .ne 9, 3) := by decide +kernel
theorem d12_34 : decode jdk_42_method_18_code 34 = .ok (.iload_n 1, 1) := by decide +kernel
theorem d12_35 : decode jdk_42_method_18_code 35 = .ok (.aload_n 2, 1) := by decide +kernel
theorem d12_36 : decode jdk_42_method_18_code 36 = .ok (.invokestatic 260, 3) := by decide +kernel
theorem d12_39 : decode jdk_42_method_18_code 39 = .ok (.areturn, 1) := by decide +kernel
theorem d12_40 : decode jdk_42_method_18_code 40 = .ok (.aload_n 0, 1) := by decide +kernel
theorem d12_41 : decode jdk_42_method_18_code 41 = .ok (.iload_n 1, 1) := by decide +kernel
theorem d12_42 : decode jdk_42_method_18_code 42 = .ok (.aload_n 2, 1) := by decide +kernel
theorem d12_43 : decode jdk_42_method_18_code 43 = .ok (.iconst 1, 1) := by decide +kernel
theorem d12_44 : decode jdk_42_method_18_code 44 = .ok (.invokestatic 263, 3) := by decide +kernel
theorem d12_47 : decode jdk_42_method_18_code 47 = .ok (.areturn, 1) := by decide +kernel
theorem rmEc_ef (m : MethodId) (x0 : Addr) (x2 : Addr) : entryFrame m #[(.ref x0), (.int (0 : Int32)), (.ref x2)] 3 = mkF m 0 #[.val (.ref x0), .val (.int (0 : Int32)), .val (.ref x2)] [] := by first | (simp [entryFrame, mkF, argsToLocals, Value.category]; done) | rfl
def QEc (Z : State) (aU : Addr) (b : Addr) (kb : ClassId) (n1 : Int32) (ax : Int32) (ay : Int32) (h0 : Heap) (n0 : Nat) (v : Option Value) (h : Heap) (L : List Loc) : Prop := ∃ r : Addr, v = some (.ref r) ∧ Fr n0 L ∧ Keep h0 h [] ∧ h0.size ≤ r
theorem own_pd12 : parseMethodDescriptor "(B[BZ)[B" = some ⟨[.byte, (.array .byte), .boolean], some (.array .byte)⟩ := by decide +kernel
set_option maxRecDepth 65536 in
set_option maxHeartbeats 40000000 in
theorem rmEc (l : Launch) (Z : State) (a0 : Array Value) (hw : ∀ d ∈ tables_1, d.before a0 Z = true) (ws : List Jvm.Cond) (aU : Addr) (b : Addr) (kb : ClassId) (n1 : Int32) (ax : Int32) (ay : Int32) (h0 : Heap) (n0 : Nat) (Z0 : n0 ≤ h0.size) (SU : Sta Z h0 "sun/nio/cs/UTF_8" "INSTANCE" "Lsun/nio/cs/UTF_8;" (.ref aU)) (Ab : Arv Z h0 b kb .byte n1 [(.int ax), (.int ay)] (.int (0 : Int32))) (Eb : Exa Z h0 b "[B") (hn : n1 = (0 : Int32) ∨ n1 = (1 : Int32) ∨ n1 = (2 : Int32)) :
    MetFree l (⟨"java/lang/String", "encode", "(Ljava/nio/charset/Charset;B[B)[B"⟩ : MethodName) (head1 (Jvm.Cond.code (⟨"java/lang/String", "encode", "(Ljava/nio/charset/Charset;B[B)[B"⟩ : MethodName) jdk_42_method_18_code 3 (some (.array .byte)) :: ws) ({ frames := 3, cells := 2, slots := 7, locals := 74 } : Room)) (fun aA' U => aA' = #[(.ref aU), (.int (0 : Int32)), (.ref b)] ∧ Z.Warmed39 U.vm ∧ U.heap = h0) (fun _ _ _ _ _ => True) (fun _ U oO' U' => ∃ vV' L, oO' = .returned vV' ∧ QEc Z aU b kb n1 ax ay h0 n0 vV' U'.heap L ∧ FrameEnd U oO' U' L ({ frames := 3, cells := 2, slots := 7, locals := 74 } : Room).cells ({ frames := 3, cells := 2, slots := 7, locals := 74 } : Room).slots) := by
  refine MetFree.of_bodySF (plainFor_of_name own_pn1) hisR ?_
  intro p e s m args below meth c s₁ Bd hml0 hP hK
  obtain ⟨rfl, hZ, hh⟩ := hP
  have hx := Bd.exec
  have hby := Bd.bytes
  have hml : c.maxLocals = 3 := hml0
  have hown : s.vm.findClass "java/lang/String" = some m.cls := findClass_of_methodNamed Bd.named
  have hnm := (name_of_methodNamed Bd.named Bd.method).1
  have X0 : Stand p l e ({ frames := 3, cells := 2, slots := 7, locals := 74 } : Room) s m #[(.ref aU), (.int (0 : Int32)), (.ref b)] below meth c s₁ [] 0 0 := Stand.of_body Bd
  have e0 : s₁.heap = h0 := by rw [← hh, Bd.state]; rfl
  have N0 := Fr.nil n0
  have K0 : Keep h0 h0 [] := Keep.refl _ _
  have k0 : ∀ t, Steps p.tables e below (s₁.setTop (mkF m 0 #[.val (.ref aU), .val (.int (0 : Int32)), .val (.ref b)] [])) t → Steps p.tables e below (s₁.setTop (entryFrame m #[(.ref aU), (.int (0 : Int32)), (.ref b)] 3)) t := fun t k => castTop (rmEc_ef m (aU) (b)) k
  have k1 : ∀ t, Steps p.tables e below (s₁.setTop (mkF m 1 #[.val (.ref aU), .val (.int (0 : Int32)), .val (.ref b)] [(.ref aU)])) t → Steps p.tables e below (s₁.setTop (entryFrame m #[(.ref aU), (.int (0 : Int32)), (.ref b)] 3)) t := by
    intro t kt
    refine k0 t ?_
    show Steps p.tables e below (s₁.setTop (mkF m 0 #[.val (.ref aU), .val (.int (0 : Int32)), .val (.ref b)] [])) t
    refine XS.aloadN X0.here hx rfl (hb hby d12_0) rfl rfl ?_
    exact kt
  obtain ⟨T2, X2, e2, st2⟩ := getS2 X0 hx hZ hown (host := "") (Or.inl (hw _ (List.mem_of_getElem? (i := 64) rfl))) Via.refl e0 SU (g := (mkF m 1 #[.val (.ref aU), .val (.int (0 : Int32)), .val (.ref b)] [(.ref aU)])) rfl (hb hby d12_1)
  have k3 : ∀ t, Steps p.tables e below (T2.setTop (mkF m 4 #[.val (.ref aU), .val (.int (0 : Int32)), .val (.ref b)] [(.ref aU), (.ref aU)])) t → Steps p.tables e below (s₁.setTop (entryFrame m #[(.ref aU), (.int (0 : Int32)), (.ref b)] 3)) t := fun t kt => k1 t (st2 t kt)
  have k5 : ∀ t, Steps p.tables e below (T2.setTop (mkF m 10 #[.val (.ref aU), .val (.int (0 : Int32)), .val (.ref b)] [(.int (1 : Int32)), (.ref b), (.int (0 : Int32))])) t → Steps p.tables e below (s₁.setTop (entryFrame m #[(.ref aU), (.int (0 : Int32)), (.ref b)] 3)) t := by
    intro t kt
    refine k3 t ?_
    show Steps p.tables e below (T2.setTop (mkF m 4 #[.val (.ref aU), .val (.int (0 : Int32)), .val (.ref b)] [(.ref aU), (.ref aU)])) t
    refine Jvm.RoadKit.acmp (g := (mkF m 4 #[.val (.ref aU), .val (.int (0 : Int32)), .val (.ref b)] [(.ref aU), (.ref aU)])) X2 hx rfl rfl rfl (pc0 := 4) (pc' := 7) (same := true) rfl (hb hby d12_4) rfl (decide_eq_true rfl) (by decide) (by decide) ?_
    show Steps p.tables e below (T2.setTop (mkF m 7 #[.val (.ref aU), .val (.int (0 : Int32)), .val (.ref b)] [])) t
    refine XS.iloadN X2.here hx rfl (hb hby d12_7) rfl ?_
    show Steps p.tables e below (T2.setTop (mkF m 8 #[.val (.ref aU), .val (.int (0 : Int32)), .val (.ref b)] [(.int (0 : Int32))])) t
    refine XS.aloadN X2.here hx rfl (hb hby d12_8) rfl rfl ?_
    show Steps p.tables e below (T2.setTop (mkF m 9 #[.val (.ref aU), .val (.int (0 : Int32)), .val (.ref b)] [(.ref b), (.int (0 : Int32))])) t
    refine XS.iconst X2.here hx rfl (hb hby d12_9) ?_
    exact kt
  obtain ⟨_, _, ⟨T6, L6, k6c, n6⟩, -, X6, ⟨Lc6, hQ6, l6, y6, z6⟩, st6⟩ := Jvm.LawKit.callS X2 hx (y := (⟨"java/lang/String", "encodeUTF8", "(B[BZ)[B"⟩ : MethodName)) hown (mvT hZ (hw _ (List.mem_of_getElem? (i := 66) rfl))) (mvT hZ (hw _ (List.mem_of_getElem? (i := 67) rfl))) (mvT hZ (hw _ (List.mem_of_getElem? (i := 7) rfl))) (mvT hZ (hw _ (List.mem_of_getElem? (i := 68) rfl))) (by decide) (backOf (W := 0) (rmEu l Z a0 hw [] b kb n1 ax ay h0 n0 Z0 Ab Eb hn) hZ (hw _ (List.mem_of_getElem? (i := 68) rfl)) (hw _ (List.mem_of_getElem? (i := 7) rfl)) (by decide) (by decide)) (g := (mkF m 10 #[.val (.ref aU), .val (.int (0 : Int32)), .val (.ref b)] [(.int (1 : Int32)), (.ref b), (.int (0 : Int32))])) rfl (by rw [hml]; rfl) (argsL := [(.int (0 : Int32)), (.ref b), (.int (1 : Int32))]) (rest := []) (lenOf own_pd12 rfl) rfl (by show 2 * 0 + _ ≤ _; exact Nat.le_of_eq rfl) (hb hby d12_10) (fun _ _ => ⟨rfl, e2, (by decide : 0 + 2 ≤ _), (by decide : 0 + 7 ≤ _)⟩)
  dsimp only [Pt.U, Pt.locs, Pt.cells, Pt.slots] at X6 l6 y6 z6 st6 hQ6
  subst l6 y6 z6
  obtain ⟨r6, rfl, N6q, K6k, s6z⟩ := hQ6
  have N6 := Fr.app N0 N6q
  have g_r6 : n0 ≤ r6 := Nat.le_trans Z0 s6z
  have sz_r6 : h0.size ≤ r6 := Nat.le_trans K0.1 s6z
  have ne7 : b ≠ r6 := Nat.ne_of_lt (Nat.lt_of_lt_of_le Ab.lt s6z)
  have F8 := Ab.keep K6k nin0
  have F9 := Eb.keep K6k
  have Z11 : n0 ≤ T6.heap.size := Nat.le_trans Z0 K6k.1
  have K11 : Keep h0 T6.heap [] := K0.trans K6k all0
  have k12 : ∀ t, Steps p.tables e below (T6.setTop (mkF m 13 #[.val (.ref aU), .val (.int (0 : Int32)), .val (.ref b)] [(.ref r6)])) t → Steps p.tables e below (s₁.setTop (entryFrame m #[(.ref aU), (.int (0 : Int32)), (.ref b)] 3)) t := fun t kt => k5 t (st6 t kt)
  obtain ⟨fs, hr, hrun, hended, hW, hsame⟩ := X6.leave (v := some (.ref r6)) (fun h => by rw [Bd.returns] at h; cases h)
  refine ⟨_, _, k12 _ ?_, hrun, hended, _, _, rfl, ?_, ⟨_, rfl⟩, hW, hsame.mono (by decide) (by decide)⟩
  · show Steps p.tables e below (T6.setTop (mkF m 13 #[.val (.ref aU), .val (.int (0 : Int32)), .val (.ref b)] [(.ref r6)])) _
    jvm_step X6.here [X6.here.top, hx, (hb hby d12_13), X6.method', Bd.returns, Value.isRef, FieldType.isReference]
    first | (intro acts; rw [hr _ acts rfl rfl rfl]) | rw [hr _ _ rfl rfl rfl]
    exact Steps.refl _
  · show QEc Z aU b kb n1 ax ay h0 n0 _ T6.heap _
    exact ⟨r6, rfl, N6, K11, sz_r6⟩
theorem d10_0 : decode jdk_42_method_64_code 0 = .ok (.aload_n 1, 1) := by decide +kernel
theorem d10_1 : decode jdk_42_method_64_code 1 = .ok (.ifnonnull 11, 3) := by decide +kernel
theorem d10_4 : decode jdk_42_method_64_code 4 = .ok (.new 538, 3) := by decide +kernel
theorem d10_7 : decode jdk_42_method_64_code 7 = .ok (.dup, 1) := by decide +kernel
theorem d10_8 : decode jdk_42_method_64_code 8 = .ok (.invokespecial 540, 3) := by decide +kernel
theorem d10_11 : decode jdk_42_method_64_code 11 = .ok (.athrow, 1) := by decide +kernel
theorem d10_12 : decode jdk_42_method_64_code 12 = .ok (.aload_n 1, 1) := by decide +kernel
theorem d10_13 : decode jdk_42_method_64_code 13 = .ok (.aload_n 0, 1) := by decide +kernel
theorem d10_14 : decode jdk_42_method_64_code 14 = .ok (.invokevirtual 335, 3) := by decide +kernel
theorem d10_17 : decode jdk_42_method_64_code 17 = .ok (.aload_n 0, 1) := by decide +kernel
theorem d10_18 : decode jdk_42_method_64_code 18 = .ok (.getfield 9, 3) := by decide +kernel
theorem d10_21 : decode jdk_42_method_64_code 21 = .ok (.invokestatic 535, 3) := by decide +kernel
theorem d10_24 : decode jdk_42_method_64_code 24 = .ok (.areturn, 1) := by decide +kernel
theorem rmGb_ef (m : MethodId) (x0 : Addr) (x1 : Addr) : entryFrame m #[(.ref x0), (.ref x1)] 2 = mkF m 0 #[.val (.ref x0), .val (.ref x1)] [] := by first | (simp [entryFrame, mkF, argsToLocals, Value.category]; done) | rfl
def QGb (Z : State) (ths : Addr) (aU : Addr) (cs : Int32) (b : Addr) (kb : ClassId) (n1 : Int32) (ax : Int32) (ay : Int32) (h0 : Heap) (n0 : Nat) (v : Option Value) (h : Heap) (L : List Loc) : Prop := ∃ r : Addr, v = some (.ref r) ∧ Fr n0 L ∧ Keep h0 h [] ∧ h0.size ≤ r
theorem own_pd13 : parseMethodDescriptor "()B" = some ⟨[], some .byte⟩ := by decide +kernel
theorem own_pd14 : parseMethodDescriptor "(Ljava/nio/charset/Charset;B[B)[B" = some ⟨[(.object "java/nio/charset/Charset"), .byte, (.array .byte)], some (.array .byte)⟩ := by decide +kernel
set_option maxRecDepth 65536 in
set_option maxHeartbeats 40000000 in
theorem rmGb (l : Launch) (Z : State) (a0 : Array Value) (hw : ∀ d ∈ tables_1, d.before a0 Z = true) (ws : List Jvm.Cond) (ths : Addr) (aU : Addr) (cs : Int32) (b : Addr) (kb : ClassId) (n1 : Int32) (ax : Int32) (ay : Int32) (h0 : Heap) (n0 : Nat) (Z0 : n0 ≤ h0.size) (SU : Sta Z h0 "sun/nio/cs/UTF_8" "INSTANCE" "Lsun/nio/cs/UTF_8;" (.ref aU)) (Es : Exa Z h0 ths "java/lang/String") (Fs : Fld Z h0 ths "java/lang/String" "value" "[B" (.ref b)) (Cs : Fld Z h0 ths "java/lang/String" "coder" "B" (.int (0 : Int32))) (Ab : Arv Z h0 b kb .byte n1 [(.int ax), (.int ay)] (.int (0 : Int32))) (Eb : Exa Z h0 b "[B") (hn : n1 = (0 : Int32) ∨ n1 = (1 : Int32) ∨ n1 = (2 : Int32)) (SC : Sta Z h0 "java/lang/String" "COMPACT_STRINGS" "Z" (.int cs)) (hcs : ¬ (cs = (0 : Int32))) :
    MetFree l (⟨"java/lang/String", "getBytes", "(Ljava/nio/charset/Charset;)[B"⟩ : MethodName) (head1 (Jvm.Cond.code (⟨"java/lang/String", "getBytes", "(Ljava/nio/charset/Charset;)[B"⟩ : MethodName) jdk_42_method_64_code 2 (some (.array .byte)) :: ws) ({ frames := 4, cells := 2, slots := 7, locals := 88 } : Room)) (fun aA' U => aA' = #[(.ref ths), (.ref aU)] ∧ Z.Warmed39 U.vm ∧ U.heap = h0) (fun _ _ _ _ _ => True) (fun _ U oO' U' => ∃ vV' L, oO' = .returned vV' ∧ QGb Z ths aU cs b kb n1 ax ay h0 n0 vV' U'.heap L ∧ FrameEnd U oO' U' L ({ frames := 4, cells := 2, slots := 7, locals := 88 } : Room).cells ({ frames := 4, cells := 2, slots := 7, locals := 88 } : Room).slots) := by
  refine MetFree.of_bodySF (plainFor_of_name own_pn1) hisR ?_
  intro p e s m args below meth c s₁ Bd hml0 hP hK
  obtain ⟨rfl, hZ, hh⟩ := hP
  have hx := Bd.exec
  have hby := Bd.bytes
  have hml : c.maxLocals = 2 := hml0
  have hown : s.vm.findClass "java/lang/String" = some m.cls := findClass_of_methodNamed Bd.named
  have hnm := (name_of_methodNamed Bd.named Bd.method).1
  have X0 : Stand p l e ({ frames := 4, cells := 2, slots := 7, locals := 88 } : Room) s m #[(.ref ths), (.ref aU)] below meth c s₁ [] 0 0 := Stand.of_body Bd
  have e0 : s₁.heap = h0 := by rw [← hh, Bd.state]; rfl
  have N0 := Fr.nil n0
  have K0 : Keep h0 h0 [] := Keep.refl _ _
  have k0 : ∀ t, Steps p.tables e below (s₁.setTop (mkF m 0 #[.val (.ref ths), .val (.ref aU)] [])) t → Steps p.tables e below (s₁.setTop (entryFrame m #[(.ref ths), (.ref aU)] 2)) t := fun t k => castTop (rmGb_ef m (ths) (aU)) k
  have k1 : ∀ t, Steps p.tables e below (s₁.setTop (mkF m 14 #[.val (.ref ths), .val (.ref aU)] [(.ref ths), (.ref aU)])) t → Steps p.tables e below (s₁.setTop (entryFrame m #[(.ref ths), (.ref aU)] 2)) t := by
    intro t kt
    refine k0 t ?_
    show Steps p.tables e below (s₁.setTop (mkF m 0 #[.val (.ref ths), .val (.ref aU)] [])) t
    refine XS.aloadN X0.here hx rfl (hb hby d10_0) rfl rfl ?_
    show Steps p.tables e below (s₁.setTop (mkF m 1 #[.val (.ref ths), .val (.ref aU)] [(.ref aU)])) t
    refine XS.ifnonnullYes X0.here hx rfl (pc0 := 1) (pc' := 12) rfl (hb hby d10_1) rfl (by decide) (by decide) ?_
    show Steps p.tables e below (s₁.setTop (mkF m 12 #[.val (.ref ths), .val (.ref aU)] [])) t
    refine XS.aloadN X0.here hx rfl (hb hby d10_12) rfl rfl ?_
    show Steps p.tables e below (s₁.setTop (mkF m 13 #[.val (.ref ths), .val (.ref aU)] [(.ref aU)])) t
    refine XS.aloadN X0.here hx rfl (hb hby d10_13) rfl rfl ?_
    exact kt
  obtain ⟨cq2, kq2, q2a, q2b, q2c⟩ := isOf hZ e0 Es
  obtain ⟨_, _, ⟨T2, L2, k2c, n2⟩, -, X2, ⟨Lc2, hQ2, l2, y2, z2⟩, st2⟩ := X0.virtualBack hx (y := (⟨"java/lang/String", "coder", "()B"⟩ : MethodName)) (z := (⟨"java/lang/String", "coder", "()B"⟩ : MethodName)) hown (mvT hZ (hw _ (List.mem_of_getElem? (i := 56) rfl))) (mvT hZ (hw _ (List.mem_of_getElem? (i := 57) rfl))) (notFace_of_selects (args := #[]) (mvT hZ (hw _ (List.mem_of_getElem? (i := 59) rfl)))) (mvT hZ (hw _ (List.mem_of_getElem? (i := 59) rfl))) (mvT hZ (hw _ (List.mem_of_getElem? (i := 58) rfl))) (by decide) (backOf (W := 1) (rmCo l Z a0 hw [] ths cs h0 n0 Z0 Cs SC hcs) hZ (hw _ (List.mem_of_getElem? (i := 60) rfl)) (hw _ (List.mem_of_getElem? (i := 7) rfl)) (by decide) (by decide)) q2a q2c (g := (mkF m 14 #[.val (.ref ths), .val (.ref aU)] [(.ref ths), (.ref aU)])) rfl (by rw [hml]; rfl) (Steps.refl _) (argsL := []) (rest := [(.ref aU)]) (lenOf own_pd13 rfl) rfl (by show 2 * 0 + _ ≤ _; exact Nat.le_of_eq rfl) (hb hby d10_14) (fun _ _ => ⟨rfl, e0, (by decide : 0 + 0 ≤ _), (by decide : 0 + 0 ≤ _)⟩)
  dsimp only [Pt.U, Pt.locs, Pt.cells, Pt.slots] at X2 l2 y2 z2 st2 hQ2
  subst l2 y2 z2
  obtain ⟨rfl, N2q, e2⟩ := hQ2
  have N2 := Fr.app N0 N2q
  have k3 : ∀ t, Steps p.tables e below (T2.setTop (mkF m 17 #[.val (.ref ths), .val (.ref aU)] [(.int (0 : Int32)), (.ref aU)])) t → Steps p.tables e below (s₁.setTop (entryFrame m #[(.ref ths), (.ref aU)] 2)) t := fun t kt => k1 t (st2.trans kt)
  have k4 : ∀ t, Steps p.tables e below (T2.setTop (mkF m 18 #[.val (.ref ths), .val (.ref aU)] [(.ref ths), (.int (0 : Int32)), (.ref aU)])) t → Steps p.tables e below (s₁.setTop (entryFrame m #[(.ref ths), (.ref aU)] 2)) t := by
    intro t kt
    refine k3 t ?_
    show Steps p.tables e below (T2.setTop (mkF m 17 #[.val (.ref ths), .val (.ref aU)] [(.int (0 : Int32)), (.ref aU)])) t
    refine XS.aloadN X2.here hx rfl (hb hby d10_17) rfl rfl ?_
    exact kt
  obtain ⟨T5, X5, e5, st5⟩ := getF X2 hx hZ hown (host := "") (Or.inl (hw _ (List.mem_of_getElem? (i := 33) rfl))) Via.refl e2 Fs (g := (mkF m 18 #[.val (.ref ths), .val (.ref aU)] [(.ref ths), (.int (0 : Int32)), (.ref aU)])) rfl rfl (hb hby d10_18)
  have k6 : ∀ t, Steps p.tables e below (T5.setTop (mkF m 21 #[.val (.ref ths), .val (.ref aU)] [(.ref b), (.int (0 : Int32)), (.ref aU)])) t → Steps p.tables e below (s₁.setTop (entryFrame m #[(.ref ths), (.ref aU)] 2)) t := fun t kt => k4 t (st5 t kt)
  obtain ⟨_, _, ⟨T7, L7, k7c, n7⟩, -, X7, ⟨Lc7, hQ7, l7, y7, z7⟩, st7⟩ := Jvm.LawKit.callS X5 hx (y := (⟨"java/lang/String", "encode", "(Ljava/nio/charset/Charset;B[B)[B"⟩ : MethodName)) hown (mvT hZ (hw _ (List.mem_of_getElem? (i := 61) rfl))) (mvT hZ (hw _ (List.mem_of_getElem? (i := 62) rfl))) (mvT hZ (hw _ (List.mem_of_getElem? (i := 7) rfl))) (mvT hZ (hw _ (List.mem_of_getElem? (i := 63) rfl))) (by decide) (backOf (W := 0) (rmEc l Z a0 hw [] aU b kb n1 ax ay h0 n0 Z0 SU Ab Eb hn) hZ (hw _ (List.mem_of_getElem? (i := 63) rfl)) (hw _ (List.mem_of_getElem? (i := 7) rfl)) (by decide) (by decide)) (g := (mkF m 21 #[.val (.ref ths), .val (.ref aU)] [(.ref b), (.int (0 : Int32)), (.ref aU)])) rfl (by rw [hml]; rfl) (argsL := [(.ref aU), (.int (0 : Int32)), (.ref b)]) (rest := []) (lenOf own_pd14 rfl) rfl (by show 2 * 0 + _ ≤ _; exact Nat.le_of_eq rfl) (hb hby d10_21) (fun _ _ => ⟨rfl, e5, (by decide : 0 + 2 ≤ _), (by decide : 0 + 7 ≤ _)⟩)
  dsimp only [Pt.U, Pt.locs, Pt.cells, Pt.slots] at X7 l7 y7 z7 st7 hQ7
  subst l7 y7 z7
  obtain ⟨r7, rfl, N7q, K7k, s7z⟩ := hQ7
  have N7 := Fr.app N2 N7q
  have g_r7 : n0 ≤ r7 := Nat.le_trans Z0 s7z
  have sz_r7 : h0.size ≤ r7 := Nat.le_trans K0.1 s7z
  have ne8 : ths ≠ r7 := Nat.ne_of_lt (Nat.lt_of_lt_of_le Es.lt s7z)
  have ne9 : b ≠ r7 := Nat.ne_of_lt (Nat.lt_of_lt_of_le Ab.lt s7z)
  have F10 := Es.keep K7k
  have F11 := Fs.keep K7k nin0
  have F12 := Cs.keep K7k nin0
  have F13 := Ab.keep K7k nin0
  have F14 := Eb.keep K7k
  have Z17 : n0 ≤ T7.heap.size := Nat.le_trans Z0 K7k.1
  have K17 : Keep h0 T7.heap [] := K0.trans K7k all0
  have k18 : ∀ t, Steps p.tables e below (T7.setTop (mkF m 24 #[.val (.ref ths), .val (.ref aU)] [(.ref r7)])) t → Steps p.tables e below (s₁.setTop (entryFrame m #[(.ref ths), (.ref aU)] 2)) t := fun t kt => k6 t (st7 t kt)
  obtain ⟨fs, hr, hrun, hended, hW, hsame⟩ := X7.leave (v := some (.ref r7)) (fun h => by rw [Bd.returns] at h; cases h)
  refine ⟨_, _, k18 _ ?_, hrun, hended, _, _, rfl, ?_, ⟨_, rfl⟩, hW, hsame.mono (by decide) (by decide)⟩
  · show Steps p.tables e below (T7.setTop (mkF m 24 #[.val (.ref ths), .val (.ref aU)] [(.ref r7)])) _
    jvm_step X7.here [X7.here.top, hx, (hb hby d10_24), X7.method', Bd.returns, Value.isRef, FieldType.isReference]
    first | (intro acts; rw [hr _ acts rfl rfl rfl]) | rw [hr _ _ rfl rfl rfl]
    exact Steps.refl _
  · show QGb Z ths aU cs b kb n1 ax ay h0 n0 _ T7.heap _
    exact ⟨r7, rfl, N7, K17, sz_r7⟩
theorem d16_0 : decode prog_88_method_2_code 0 = .ok (.aload_n 0, 1) := by decide +kernel
theorem d16_1 : decode prog_88_method_2_code 1 = .ok (.invokespecial 27, 3) := by decide +kernel
theorem d16_4 : decode prog_88_method_2_code 4 = .ok (.aload_n 0, 1) := by decide +kernel
theorem d16_5 : decode prog_88_method_2_code 5 = .ok (.aload_n 1, 1) := by decide +kernel
theorem d16_6 : decode prog_88_method_2_code 6 = .ok (.putfield 32, 3) := by decide +kernel
theorem d16_9 : decode prog_88_method_2_code 9 = .ok (.aload_n 0, 1) := by decide +kernel
theorem d16_10 : decode prog_88_method_2_code 10 = .ok (.iload_n 2, 1) := by decide +kernel
theorem d16_11 : decode prog_88_method_2_code 11 = .ok (.putfield 35, 3) := by decide +kernel
theorem d16_14 : decode prog_88_method_2_code 14 = .ok (.aload_n 0, 1) := by decide +kernel
theorem d16_15 : decode prog_88_method_2_code 15 = .ok (.aload_n 3, 1) := by decide +kernel
theorem d16_16 : decode prog_88_method_2_code 16 = .ok (.putfield 39, 3) := by decide +kernel
theorem d16_19 : decode prog_88_method_2_code 19 = .ok (.return_, 1) := by decide +kernel
theorem own_pn7 : plainName "com/example/disk_to_queue/disktoqueue/store/TopicQueue" = true := by first | (simp [plainName, overriddenIn]; done) | decide +kernel
theorem rmT3_ef (m : MethodId) (x0 : Addr) (x1 : Addr) (x2 : Int32) (x3 : Addr) : entryFrame m #[(.ref x0), (.ref x1), (.int x2), (.ref x3)] 4 = mkF m 0 #[.val (.ref x0), .val (.ref x1), .val (.int x2), .val (.ref x3)] [] := by first | (simp [entryFrame, mkF, argsToLocals, Value.category]; done) | rfl
def QT3 (Z : State) (q' : Addr) (ths : Addr) (p1 : Int32) (b : Addr) (h0 : Heap) (n0 : Nat) (v : Option Value) (h : Heap) (L : List Loc) : Prop := v = none ∧ Fr n0 L ∧ Keep h0 h [q'] ∧ Exa Z h q' "com/example/disk_to_queue/disktoqueue/store/TopicQueue" ∧ Fld Z h q' "com/example/disk_to_queue/disktoqueue/store/TopicQueue" "topic" "Ljava/lang/String;" (.ref ths) ∧ Fld Z h q' "com/example/disk_to_queue/disktoqueue/store/TopicQueue" "queueId" "I" (.int p1)
set_option maxRecDepth 65536 in
set_option maxHeartbeats 40000000 in
theorem rmT3 (l : Launch) (Z : State) (a0 : Array Value) (hw : ∀ d ∈ tables_1, d.before a0 Z = true) (ws : List Jvm.Cond) (q' : Addr) (ths : Addr) (p1 : Int32) (b : Addr) (h0 : Heap) (n0 : Nat) (Z0 : n0 ≤ h0.size) (F_t : Fld Z h0 q' "com/example/disk_to_queue/disktoqueue/store/TopicQueue" "topic" "Ljava/lang/String;" .null) (F_i : Fld Z h0 q' "com/example/disk_to_queue/disktoqueue/store/TopicQueue" "queueId" "I" (.int (0 : Int32))) (F_b : Fld Z h0 q' "com/example/disk_to_queue/disktoqueue/store/TopicQueue" "topicBytes" "[B" .null) (Eq : Exa Z h0 q' "com/example/disk_to_queue/disktoqueue/store/TopicQueue") (g_q : n0 ≤ q') :
    MetFree l (⟨"com/example/disk_to_queue/disktoqueue/store/TopicQueue", "<init>", "(Ljava/lang/String;I[B)V"⟩ : MethodName) (head1 (Jvm.Cond.code (⟨"com/example/disk_to_queue/disktoqueue/store/TopicQueue", "<init>", "(Ljava/lang/String;I[B)V"⟩ : MethodName) prog_88_method_2_code 4 none :: ws) ({ frames := 1, cells := 0, slots := 0, locals := 12 } : Room)) (fun aA' U => aA' = #[(.ref q'), (.ref ths), (.int p1), (.ref b)] ∧ Z.Warmed39 U.vm ∧ U.heap = h0) (fun _ _ _ _ _ => True) (fun _ U oO' U' => ∃ vV' L, oO' = .returned vV' ∧ QT3 Z q' ths p1 b h0 n0 vV' U'.heap L ∧ FrameEnd U oO' U' L ({ frames := 1, cells := 0, slots := 0, locals := 12 } : Room).cells ({ frames := 1, cells := 0, slots := 0, locals := 12 } : Room).slots) := by
  refine MetFree.of_bodySF (plainFor_of_name own_pn7) hisR ?_
  intro p e s m args below meth c s₁ Bd hml0 hP hK
  obtain ⟨rfl, hZ, hh⟩ := hP
  have hx := Bd.exec
  have hby := Bd.bytes
  have hml : c.maxLocals = 4 := hml0
  have hown : s.vm.findClass "com/example/disk_to_queue/disktoqueue/store/TopicQueue" = some m.cls := findClass_of_methodNamed Bd.named
  have hnm := (name_of_methodNamed Bd.named Bd.method).1
  have X0 : Stand p l e ({ frames := 1, cells := 0, slots := 0, locals := 12 } : Room) s m #[(.ref q'), (.ref ths), (.int p1), (.ref b)] below meth c s₁ [] 0 0 := Stand.of_body Bd
  have e0 : s₁.heap = h0 := by rw [← hh, Bd.state]; rfl
  have N0 := Fr.nil n0
  have K0 : Keep h0 h0 [q'] := Keep.refl _ _
  have k0 : ∀ t, Steps p.tables e below (s₁.setTop (mkF m 0 #[.val (.ref q'), .val (.ref ths), .val (.int p1), .val (.ref b)] [])) t → Steps p.tables e below (s₁.setTop (entryFrame m #[(.ref q'), (.ref ths), (.int p1), (.ref b)] 4)) t := fun t k => castTop (rmT3_ef m (q') (ths) (p1) (b)) k
  have k1 : ∀ t, Steps p.tables e below (s₁.setTop (mkF m 1 #[.val (.ref q'), .val (.ref ths), .val (.int p1), .val (.ref b)] [(.ref q')])) t → Steps p.tables e below (s₁.setTop (entryFrame m #[(.ref q'), (.ref ths), (.int p1), (.ref b)] 4)) t := by
    intro t kt
    refine k0 t ?_
    show Steps p.tables e below (s₁.setTop (mkF m 0 #[.val (.ref q'), .val (.ref ths), .val (.int p1), .val (.ref b)] [])) t
    refine XS.aloadN X0.here hx rfl (hb hby d16_0) rfl rfl ?_
    exact kt
  obtain ⟨T2, X2, e2, st2⟩ := initO X0 hx hZ hown (hw _ (List.mem_of_getElem? (i := 88) rfl)) (hw _ (List.mem_of_getElem? (i := 17) rfl)) (hw _ (List.mem_of_getElem? (i := 18) rfl)) e0 (g := (mkF m 1 #[.val (.ref q'), .val (.ref ths), .val (.int p1), .val (.ref b)] [(.ref q')])) rfl (by rw [hml]; rfl) rfl (hb hby d16_1) (by decide) (W := 0) (by show 2 * 0 + _ ≤ _; exact Nat.le_of_eq rfl) (by decide)
  have k3 : ∀ t, Steps p.tables e below (T2.setTop (mkF m 4 #[.val (.ref q'), .val (.ref ths), .val (.int p1), .val (.ref b)] [])) t → Steps p.tables e below (s₁.setTop (entryFrame m #[(.ref q'), (.ref ths), (.int p1), (.ref b)] 4)) t := fun t kt => k1 t (st2 t kt)
  have k4 : ∀ t, Steps p.tables e below (T2.setTop (mkF m 6 #[.val (.ref q'), .val (.ref ths), .val (.int p1), .val (.ref b)] [(.ref ths), (.ref q')])) t → Steps p.tables e below (s₁.setTop (entryFrame m #[(.ref q'), (.ref ths), (.int p1), (.ref b)] 4)) t := by
    intro t kt
    refine k3 t ?_
    show Steps p.tables e below (T2.setTop (mkF m 4 #[.val (.ref q'), .val (.ref ths), .val (.int p1), .val (.ref b)] [])) t
    refine XS.aloadN X2.here hx rfl (hb hby d16_4) rfl rfl ?_
    show Steps p.tables e below (T2.setTop (mkF m 5 #[.val (.ref q'), .val (.ref ths), .val (.int p1), .val (.ref b)] [(.ref q')])) t
    refine XS.aloadN X2.here hx rfl (hb hby d16_5) rfl rfl ?_
    exact kt
  obtain ⟨T5, h5, X5, e5, W5, st5⟩ := putF X2 hx hZ hown (host := "") (Or.inl (hw _ (List.mem_of_getElem? (i := 89) rfl))) Via.refl e2 F_t Eq (Or.inr ⟨(hw _ (List.mem_of_getElem? (i := 90) rfl)), rfl, hnm⟩) (hw _ (List.mem_of_getElem? (i := 36) rfl)) (ty := (.object "java/lang/String")) (by decide) rfl rfl (g := (mkF m 6 #[.val (.ref q'), .val (.ref ths), .val (.int p1), .val (.ref b)] [(.ref ths), (.ref q')])) rfl rfl (hb hby d16_6)
  have F6 := F_t.same W5
  have F7 := F_i.other W5 (Or.inr (slot_ne (Or.inr (hw _ (List.mem_of_getElem? (i := 92) rfl))) (Or.inr (hw _ (List.mem_of_getElem? (i := 90) rfl))) (by decide) (t := .int) (t' := (.object "java/lang/String")) (by decide) (by decide)))
  have F8 := F_b.other W5 (Or.inr (slot_ne (Or.inr (hw _ (List.mem_of_getElem? (i := 94) rfl))) (Or.inr (hw _ (List.mem_of_getElem? (i := 90) rfl))) (by decide) (t := (.array .byte)) (t' := (.object "java/lang/String")) (by decide) (by decide)))
  have F9 := Eq.wr W5
  have Z5 : n0 ≤ h5.size := Nat.le_trans Z0 (Keep.of_wr W5).1
  have K5 : Keep h0 h5 [q'] := K0.wr W5 (Or.inl (List.mem_of_getElem? (i := 0) rfl))
  have N5 := Fr.snoc X5 N0 g_q
  have k10 : ∀ t, Steps p.tables e below (T5.setTop (mkF m 9 #[.val (.ref q'), .val (.ref ths), .val (.int p1), .val (.ref b)] [])) t → Steps p.tables e below (s₁.setTop (entryFrame m #[(.ref q'), (.ref ths), (.int p1), (.ref b)] 4)) t := fun t kt => k4 t (st5 t kt)
  have k11 : ∀ t, Steps p.tables e below (T5.setTop (mkF m 11 #[.val (.ref q'), .val (.ref ths), .val (.int p1), .val (.ref b)] [(.int p1), (.ref q')])) t → Steps p.tables e below (s₁.setTop (entryFrame m #[(.ref q'), (.ref ths), (.int p1), (.ref b)] 4)) t := by
    intro t kt
    refine k10 t ?_
    show Steps p.tables e below (T5.setTop (mkF m 9 #[.val (.ref q'), .val (.ref ths), .val (.int p1), .val (.ref b)] [])) t
    refine XS.aloadN X5.here hx rfl (hb hby d16_9) rfl rfl ?_
    show Steps p.tables e below (T5.setTop (mkF m 10 #[.val (.ref q'), .val (.ref ths), .val (.int p1), .val (.ref b)] [(.ref q')])) t
    refine XS.iloadN X5.here hx rfl (hb hby d16_10) rfl ?_
    exact kt
  obtain ⟨T12, h12, X12, e12, W12, st12⟩ := putF X5 hx hZ hown (host := "") (Or.inl (hw _ (List.mem_of_getElem? (i := 91) rfl))) Via.refl e5 F7 F9 (Or.inr ⟨(hw _ (List.mem_of_getElem? (i := 92) rfl)), rfl, hnm⟩) (hw _ (List.mem_of_getElem? (i := 36) rfl)) (ty := .int) (by decide) rfl rfl (g := (mkF m 11 #[.val (.ref q'), .val (.ref ths), .val (.int p1), .val (.ref b)] [(.int p1), (.ref q')])) rfl rfl (hb hby d16_11)
  have F13 := F6.other W12 (Or.inr (slot_ne (Or.inr (hw _ (List.mem_of_getElem? (i := 90) rfl))) (Or.inr (hw _ (List.mem_of_getElem? (i := 92) rfl))) (by decide) (t := (.object "java/lang/String")) (t' := .int) (by decide) (by decide)))
  have F14 := F7.same W12
  have F15 := F8.other W12 (Or.inr (slot_ne (Or.inr (hw _ (List.mem_of_getElem? (i := 94) rfl))) (Or.inr (hw _ (List.mem_of_getElem? (i := 92) rfl))) (by decide) (t := (.array .byte)) (t' := .int) (by decide) (by decide)))
  have F16 := F9.wr W12
  have Z12 : n0 ≤ h12.size := Nat.le_trans Z5 (Keep.of_wr W12).1
  have K12 : Keep h0 h12 [q'] := K5.wr W12 (Or.inl (List.mem_of_getElem? (i := 0) rfl))
  have N12 := Fr.snoc X12 N5 g_q
  have k17 : ∀ t, Steps p.tables e below (T12.setTop (mkF m 14 #[.val (.ref q'), .val (.ref ths), .val (.int p1), .val (.ref b)] [])) t → Steps p.tables e below (s₁.setTop (entryFrame m #[(.ref q'), (.ref ths), (.int p1), (.ref b)] 4)) t := fun t kt => k11 t (st12 t kt)
  have k18 : ∀ t, Steps p.tables e below (T12.setTop (mkF m 16 #[.val (.ref q'), .val (.ref ths), .val (.int p1), .val (.ref b)] [(.ref b), (.ref q')])) t → Steps p.tables e below (s₁.setTop (entryFrame m #[(.ref q'), (.ref ths), (.int p1), (.ref b)] 4)) t := by
    intro t kt
    refine k17 t ?_
    show Steps p.tables e below (T12.setTop (mkF m 14 #[.val (.ref q'), .val (.ref ths), .val (.int p1), .val (.ref b)] [])) t
    refine XS.aloadN X12.here hx rfl (hb hby d16_14) rfl rfl ?_
    show Steps p.tables e below (T12.setTop (mkF m 15 #[.val (.ref q'), .val (.ref ths), .val (.int p1), .val (.ref b)] [(.ref q')])) t
    refine XS.aloadN X12.here hx rfl (hb hby d16_15) rfl rfl ?_
    exact kt
  obtain ⟨T19, h19, X19, e19, W19, st19⟩ := putF X12 hx hZ hown (host := "") (Or.inl (hw _ (List.mem_of_getElem? (i := 93) rfl))) Via.refl e12 F15 F16 (Or.inr ⟨(hw _ (List.mem_of_getElem? (i := 94) rfl)), rfl, hnm⟩) (hw _ (List.mem_of_getElem? (i := 36) rfl)) (ty := (.array .byte)) (by decide) rfl rfl (g := (mkF m 16 #[.val (.ref q'), .val (.ref ths), .val (.int p1), .val (.ref b)] [(.ref b), (.ref q')])) rfl rfl (hb hby d16_16)
  have F20 := F13.other W19 (Or.inr (slot_ne (Or.inr (hw _ (List.mem_of_getElem? (i := 90) rfl))) (Or.inr (hw _ (List.mem_of_getElem? (i := 94) rfl))) (by decide) (t := (.object "java/lang/String")) (t' := (.array .byte)) (by decide) (by decide)))
  have F21 := F14.other W19 (Or.inr (slot_ne (Or.inr (hw _ (List.mem_of_getElem? (i := 92) rfl))) (Or.inr (hw _ (List.mem_of_getElem? (i := 94) rfl))) (by decide) (t := .int) (t' := (.array .byte)) (by decide) (by decide)))
  have F22 := F15.same W19
  have F23 := F16.wr W19
  have Z19 : n0 ≤ h19.size := Nat.le_trans Z12 (Keep.of_wr W19).1
  have K19 : Keep h0 h19 [q'] := K12.wr W19 (Or.inl (List.mem_of_getElem? (i := 0) rfl))
  have N19 := Fr.snoc X19 N12 g_q
  have k24 : ∀ t, Steps p.tables e below (T19.setTop (mkF m 19 #[.val (.ref q'), .val (.ref ths), .val (.int p1), .val (.ref b)] [])) t → Steps p.tables e below (s₁.setTop (entryFrame m #[(.ref q'), (.ref ths), (.int p1), (.ref b)] 4)) t := fun t kt => k18 t (st19 t kt)
  obtain ⟨fs, hr, hrun, hended, hW, hsame⟩ := X19.leave (v := none) (fun _ => rfl)
  refine ⟨_, _, k24 _ ?_, hrun, hended, _, _, rfl, ?_, ⟨_, rfl⟩, hW, hsame.mono (by decide) (by decide)⟩
  · show Steps p.tables e below (T19.setTop (mkF m 19 #[.val (.ref q'), .val (.ref ths), .val (.int p1), .val (.ref b)] [])) _
    exact X19.returnOut hx Bd.returns (hb hby d16_19) hr
  · show QT3 Z q' ths p1 b h0 n0 _ T19.heap _
    rw [e19]
    exact ⟨rfl, N19, K19, F23, F20, F21⟩
theorem d8_0 : decode prog_88_method_1_code 0 = .ok (.aload_n 0, 1) := by decide +kernel
theorem d8_1 : decode prog_88_method_1_code 1 = .ok (.aload_n 1, 1) := by decide +kernel
theorem d8_2 : decode prog_88_method_1_code 2 = .ok (.ldc 1, 2) := by decide +kernel
theorem d8_4 : decode prog_88_method_1_code 4 = .ok (.invokestatic 3, 3) := by decide +kernel
theorem d8_7 : decode prog_88_method_1_code 7 = .ok (.checkcast 9, 3) := by decide +kernel
theorem d8_10 : decode prog_88_method_1_code 10 = .ok (.iload_n 2, 1) := by decide +kernel
theorem d8_11 : decode prog_88_method_1_code 11 = .ok (.aload_n 1, 1) := by decide +kernel
theorem d8_12 : decode prog_88_method_1_code 12 = .ok (.getstatic 11, 3) := by decide +kernel
theorem d8_15 : decode prog_88_method_1_code 15 = .ok (.invokevirtual 17, 3) := by decide +kernel
theorem d8_18 : decode prog_88_method_1_code 18 = .ok (.invokespecial 21, 3) := by decide +kernel
theorem d8_21 : decode prog_88_method_1_code 21 = .ok (.return_, 1) := by decide +kernel
theorem rmT2_ef (m : MethodId) (x0 : Addr) (x1 : Addr) (x2 : Int32) : entryFrame m #[(.ref x0), (.ref x1), (.int x2)] 3 = mkF m 0 #[.val (.ref x0), .val (.ref x1), .val (.int x2)] [] := by first | (simp [entryFrame, mkF, argsToLocals, Value.category]; done) | rfl
def QT2 (Z : State) (q' : Addr) (ths : Addr) (p1 : Int32) (aU : Addr) (cs : Int32) (b : Addr) (kb : ClassId) (n1 : Int32) (ax : Int32) (ay : Int32) (h0 : Heap) (n0 : Nat) (v : Option Value) (h : Heap) (L : List Loc) : Prop := v = none ∧ Fr n0 L ∧ Keep h0 h [q'] ∧ Exa Z h q' "com/example/disk_to_queue/disktoqueue/store/TopicQueue" ∧ Fld Z h q' "com/example/disk_to_queue/disktoqueue/store/TopicQueue" "topic" "Ljava/lang/String;" (.ref ths) ∧ Fld Z h q' "com/example/disk_to_queue/disktoqueue/store/TopicQueue" "queueId" "I" (.int p1)
theorem own_pd15 : parseMethodDescriptor "(Ljava/lang/Object;Ljava/lang/String;)Ljava/lang/Object;" = some ⟨[(.object "java/lang/Object"), (.object "java/lang/String")], some (.object "java/lang/Object")⟩ := by decide +kernel
theorem own_pd16 : parseMethodDescriptor "(Ljava/nio/charset/Charset;)[B" = some ⟨[(.object "java/nio/charset/Charset")], some (.array .byte)⟩ := by decide +kernel
theorem own_pd17 : parseMethodDescriptor "(Ljava/lang/String;I[B)V" = some ⟨[(.object "java/lang/String"), .int, (.array .byte)], none⟩ := by decide +kernel
set_option maxRecDepth 65536 in
set_option maxHeartbeats 40000000 in
theorem rmT2 (l : Launch) (Z : State) (a0 : Array Value) (hw : ∀ d ∈ tables_1, d.before a0 Z = true) (ws : List Jvm.Cond) (q' : Addr) (ths : Addr) (p1 : Int32) (aU : Addr) (cs : Int32) (b : Addr) (kb : ClassId) (n1 : Int32) (ax : Int32) (ay : Int32) (h0 : Heap) (n0 : Nat) (Z0 : n0 ≤ h0.size) (O0 : Old Z n0 h0) (RC : Sta Z Z.heap "java/lang/String" "COMPACT_STRINGS" "Z" (.int cs)) (hcs : ¬ (cs = (0 : Int32))) (RU : Sta Z Z.heap "sun/nio/cs/UTF_8" "INSTANCE" "Lsun/nio/cs/UTF_8;" (.ref aU)) (RS : Sta Z Z.heap "java/nio/charset/StandardCharsets" "UTF_8" "Ljava/nio/charset/Charset;" (.ref aU)) (F_t : Fld Z h0 q' "com/example/disk_to_queue/disktoqueue/store/TopicQueue" "topic" "Ljava/lang/String;" .null) (F_i : Fld Z h0 q' "com/example/disk_to_queue/disktoqueue/store/TopicQueue" "queueId" "I" (.int (0 : Int32))) (F_b : Fld Z h0 q' "com/example/disk_to_queue/disktoqueue/store/TopicQueue" "topicBytes" "[B" .null) (Eq : Exa Z h0 q' "com/example/disk_to_queue/disktoqueue/store/TopicQueue") (g_q : n0 ≤ q') (Es : Exa Z h0 ths "java/lang/String") (Fs : Fld Z h0 ths "java/lang/String" "value" "[B" (.ref b)) (Cs : Fld Z h0 ths "java/lang/String" "coder" "B" (.int (0 : Int32))) (Ab : Arv Z h0 b kb .byte n1 [(.int ax), (.int ay)] (.int (0 : Int32))) (Eb : Exa Z h0 b "[B") (hn : n1 = (0 : Int32) ∨ n1 = (1 : Int32) ∨ n1 = (2 : Int32)) (nqt : q' ≠ ths) (nqb : q' ≠ b) :
    MetFree l (⟨"com/example/disk_to_queue/disktoqueue/store/TopicQueue", "<init>", "(Ljava/lang/String;I)V"⟩ : MethodName) (head1 (Jvm.Cond.code (⟨"com/example/disk_to_queue/disktoqueue/store/TopicQueue", "<init>", "(Ljava/lang/String;I)V"⟩ : MethodName) prog_88_method_1_code 3 none :: ws) ({ frames := 5, cells := 4, slots := 31, locals := 104 } : Room)) (fun aA' U => aA' = #[(.ref q'), (.ref ths), (.int p1)] ∧ Z.Warmed39 U.vm ∧ U.heap = h0 ∧ CHv Z own_EL U.vm h0 ∧ ∀ xX' ∈ ([q'] : List Addr), Safe Z own_EL U.vm h0 xX') (fun _ _ _ _ _ => True) (fun _ U oO' U' => ∃ vV' L, oO' = .returned vV' ∧ QT2 Z q' ths p1 aU cs b kb n1 ax ay h0 n0 vV' U'.heap L ∧ CHr Z own_EL U.vm U.heap U'.vm U'.heap ∧ ReturnedEndW U oO' U' L ({ frames := 5, cells := 4, slots := 31, locals := 104 } : Room).cells ({ frames := 5, cells := 4, slots := 31, locals := 104 } : Room).slots) := by
  refine MetFree.of_bodySF (plainFor_of_name own_pn7) hisR ?_
  intro p e s m args below meth c s₁ Bd hml0 hP hK
  obtain ⟨rfl, hZ, hh, hC0, hSf⟩ := hP
  have hx := Bd.exec
  have hby := Bd.bytes
  have hml : c.maxLocals = 3 := hml0
  have hown : s.vm.findClass "com/example/disk_to_queue/disktoqueue/store/TopicQueue" = some m.cls := findClass_of_methodNamed Bd.named
  have hnm := (name_of_methodNamed Bd.named Bd.method).1
  have X0 : Stand p l e ({ frames := 5, cells := 4, slots := 31, locals := 104 } : Room) (s.setVm s.vm) m #[(.ref q'), (.ref ths), (.int p1)] below meth c s₁ [] 0 0 := Stand.of_body Bd
  have e0 : s₁.heap = h0 := by rw [← hh, Bd.state]; rfl
  have N0 := Fr.nil n0
  have K0 : Keep h0 h0 [q'] := Keep.refl _ _
  have k0 : ∀ t, Steps p.tables e below (s₁.setTop (mkF m 0 #[.val (.ref q'), .val (.ref ths), .val (.int p1)] [])) t → Steps p.tables e below (s₁.setTop (entryFrame m #[(.ref q'), (.ref ths), (.int p1)] 3)) t := fun t k => castTop (rmT2_ef m (q') (ths) (p1)) k
  have C0 : CHr Z own_EL s.vm h0 s.vm h0 := CHr.refl hC0
  have hS0 : s.Since s.vm 0 := (State.WarmedH.refl s).since 0
  have hk0 : 0 ≤ h0.size := Nat.zero_le _
  have hEL := own_EW hw
  have S_q' : Safe Z own_EL s.vm h0 q' := hSf _ (List.mem_of_getElem? (i := 0) rfl)
  have k1 : ∀ t, Steps p.tables e below (s₁.setTop (mkF m 2 #[.val (.ref q'), .val (.ref ths), .val (.int p1)] [(.ref ths), (.ref q')])) t → Steps p.tables e below (s₁.setTop (entryFrame m #[(.ref q'), (.ref ths), (.int p1)] 3)) t := by
    intro t kt
    refine k0 t ?_
    show Steps p.tables e below (s₁.setTop (mkF m 0 #[.val (.ref q'), .val (.ref ths), .val (.int p1)] [])) t
    refine XS.aloadN X0.here hx rfl (hb hby d8_0) rfl rfl ?_
    show Steps p.tables e below (s₁.setTop (mkF m 1 #[.val (.ref q'), .val (.ref ths), .val (.int p1)] [(.ref q')])) t
    refine XS.aloadN X0.here hx rfl (hb hby d8_1) rfl rfl ?_
    exact kt
  obtain ⟨a2, T2, h2, j2, b2, c2, X2, e2, E2, hS2, hk2, hZ2, hown2, A2, Fc2, Fv2, V2, la2, lb2, Cn2, Li2, sf2, st2⟩ := ldcCH (s := s) (vm0 := s.vm) X0 hx hZ hown (hw _ (List.mem_of_getElem? (i := 41) rfl)) (own_wS hw) e0 hS0 hk0 hEL (List.mem_of_getElem? (i := 0) rfl) C0.1 (vs := [(.int (116 : Int32)), (.int (111 : Int32)), (.int (112 : Int32)), (.int (105 : Int32)), (.int (99 : Int32))]) (z := (5 : Int32)) ⟨by decide, by decide⟩ (by decide) rfl (g := (mkF m 2 #[.val (.ref q'), .val (.ref ths), .val (.int p1)] [(.ref ths), (.ref q')])) rfl (hb hby d8_2) (n := 20) (by decide) (by decide) (by decide) (by decide)
  have F3 := CHr.safe Cn2 Eq.lt S_q'
  have C4 := CHr.trans C0 Cn2
  have F5 := O0.ext E2
  have F6 := (Sta.ext O0.2 RC).ext E2
  have F7 := (Sta.ext O0.2 RU).ext E2
  have F8 := (Sta.ext O0.2 RS).ext E2
  have F9 := F_t.ext E2
  have F10 := F_i.ext E2
  have F11 := F_b.ext E2
  have F12 := Eq.ext E2
  have F13 := Es.ext E2
  have F14 := Fs.ext E2
  have F15 := Cs.ext E2
  have F16 := Ab.ext E2
  have F17 := Eb.ext E2
  have Z2 : n0 ≤ h2.size := Nat.le_trans Z0 E2.1
  have K2 : Keep h0 h2 [q'] := K0.ext E2
  have Bx2 := own_litB hZ2 Cn2.1 (List.mem_of_getElem? (i := 0) rfl) (hw _ (List.mem_of_getElem? (i := 41) rfl)) Li2 Fv2
  have k18 : ∀ t, Steps p.tables e below (T2.setTop (mkF m 4 #[.val (.ref q'), .val (.ref ths), .val (.int p1)] [(.ref a2), (.ref ths), (.ref q')])) t → Steps p.tables e below (s₁.setTop (entryFrame m #[(.ref q'), (.ref ths), (.int p1)] 3)) t := fun t kt => k1 t (st2 t kt)
  obtain ⟨_, _, ⟨T19, L19, k19c, n19⟩, -, X19, ⟨Lc19, hQ19, l19, y19, z19⟩, st19⟩ := Jvm.LawKit.callS X2 hx (y := (⟨"java/util/Objects", "requireNonNull", "(Ljava/lang/Object;Ljava/lang/String;)Ljava/lang/Object;"⟩ : MethodName)) hown2 (mvT hZ2 (hw _ (List.mem_of_getElem? (i := 44) rfl))) (mvT hZ2 (hw _ (List.mem_of_getElem? (i := 45) rfl))) (mvT hZ2 (hw _ (List.mem_of_getElem? (i := 46) rfl))) (mvT hZ2 (hw _ (List.mem_of_getElem? (i := 47) rfl))) (by decide) (backOf (W := 1) (rmNn l Z a0 hw [] ths a2 h2 n0 Z2) hZ2 (hw _ (List.mem_of_getElem? (i := 47) rfl)) (hw _ (List.mem_of_getElem? (i := 46) rfl)) (by decide) (by decide)) (g := (mkF m 4 #[.val (.ref q'), .val (.ref ths), .val (.int p1)] [(.ref a2), (.ref ths), (.ref q')])) rfl (by rw [hml]; rfl) (argsL := [(.ref ths), (.ref a2)]) (rest := [(.ref q')]) (lenOf own_pd15 rfl) rfl (by show 2 * 0 + _ ≤ _; exact Nat.le_of_eq rfl) (hb hby d8_4) (fun _ _ => ⟨rfl, e2, (by decide : 2 + 0 ≤ _), (by decide : 24 + 0 ≤ _)⟩)
  dsimp only [Pt.U, Pt.locs, Pt.cells, Pt.slots] at X19 l19 y19 z19 st19 hQ19
  subst l19 y19 z19
  obtain ⟨rfl, N19q, e19⟩ := hQ19
  have N19 := Fr.app N0 N19q
  have k20 : ∀ t, Steps p.tables e below (T19.setTop (mkF m 7 #[.val (.ref q'), .val (.ref ths), .val (.int p1)] [(.ref ths), (.ref q')])) t → Steps p.tables e below (s₁.setTop (entryFrame m #[(.ref q'), (.ref ths), (.int p1)] 3)) t := fun t kt => k18 t (st19 t kt)
  obtain ⟨T21, X21, e21, st21⟩ := castY X19 hx hZ2 hown2 (hw _ (List.mem_of_getElem? (i := 48) rfl)) e19 (Ins.self F13) (g := (mkF m 7 #[.val (.ref q'), .val (.ref ths), .val (.int p1)] [(.ref ths), (.ref q')])) rfl rfl (hb hby d8_7)
  have k22 : ∀ t, Steps p.tables e below (T21.setTop (mkF m 10 #[.val (.ref q'), .val (.ref ths), .val (.int p1)] [(.ref ths), (.ref q')])) t → Steps p.tables e below (s₁.setTop (entryFrame m #[(.ref q'), (.ref ths), (.int p1)] 3)) t := fun t kt => k20 t (st21 t kt)
  have k23 : ∀ t, Steps p.tables e below (T21.setTop (mkF m 12 #[.val (.ref q'), .val (.ref ths), .val (.int p1)] [(.ref ths), (.int p1), (.ref ths), (.ref q')])) t → Steps p.tables e below (s₁.setTop (entryFrame m #[(.ref q'), (.ref ths), (.int p1)] 3)) t := by
    intro t kt
    refine k22 t ?_
    show Steps p.tables e below (T21.setTop (mkF m 10 #[.val (.ref q'), .val (.ref ths), .val (.int p1)] [(.ref ths), (.ref q')])) t
    refine XS.iloadN X21.here hx rfl (hb hby d8_10) rfl ?_
    show Steps p.tables e below (T21.setTop (mkF m 11 #[.val (.ref q'), .val (.ref ths), .val (.int p1)] [(.int p1), (.ref ths), (.ref q')])) t
    refine XS.aloadN X21.here hx rfl (hb hby d8_11) rfl rfl ?_
    exact kt
  obtain ⟨T24, X24, e24, st24⟩ := getS2 X21 hx hZ2 hown2 (host := "") (Or.inl (hw _ (List.mem_of_getElem? (i := 49) rfl))) Via.refl e21 F8 (g := (mkF m 12 #[.val (.ref q'), .val (.ref ths), .val (.int p1)] [(.ref ths), (.int p1), (.ref ths), (.ref q')])) rfl (hb hby d8_12)
  have k25 : ∀ t, Steps p.tables e below (T24.setTop (mkF m 15 #[.val (.ref q'), .val (.ref ths), .val (.int p1)] [(.ref aU), (.ref ths), (.int p1), (.ref ths), (.ref q')])) t → Steps p.tables e below (s₁.setTop (entryFrame m #[(.ref q'), (.ref ths), (.int p1)] 3)) t := fun t kt => k23 t (st24 t kt)
  obtain ⟨cq26, kq26, q26a, q26b, q26c⟩ := isOf hZ2 e24 F13
  obtain ⟨_, _, ⟨T26, L26, k26c, n26⟩, -, X26, ⟨Lc26, hQ26, l26, y26, z26⟩, st26⟩ := X24.virtualBack hx (y := (⟨"java/lang/String", "getBytes", "(Ljava/nio/charset/Charset;)[B"⟩ : MethodName)) (z := (⟨"java/lang/String", "getBytes", "(Ljava/nio/charset/Charset;)[B"⟩ : MethodName)) hown2 (mvT hZ2 (hw _ (List.mem_of_getElem? (i := 51) rfl))) (mvT hZ2 (hw _ (List.mem_of_getElem? (i := 52) rfl))) (notFace_of_selects (args := #[]) (mvT hZ2 (hw _ (List.mem_of_getElem? (i := 54) rfl)))) (mvT hZ2 (hw _ (List.mem_of_getElem? (i := 54) rfl))) (mvT hZ2 (hw _ (List.mem_of_getElem? (i := 53) rfl))) (by decide) (backOf (W := 3) (rmGb l Z a0 hw [] ths aU cs b kb n1 ax ay h2 n0 Z2 F7 F13 F14 F15 F16 F17 hn F6 hcs) hZ2 (hw _ (List.mem_of_getElem? (i := 55) rfl)) (hw _ (List.mem_of_getElem? (i := 7) rfl)) (by decide) (by decide)) q26a q26c (g := (mkF m 15 #[.val (.ref q'), .val (.ref ths), .val (.int p1)] [(.ref aU), (.ref ths), (.int p1), (.ref ths), (.ref q')])) rfl (by rw [hml]; rfl) (Steps.refl _) (argsL := [(.ref aU)]) (rest := [(.int p1), (.ref ths), (.ref q')]) (lenOf own_pd16 rfl) rfl (by show 2 * 0 + _ ≤ _; exact Nat.le_of_eq rfl) (hb hby d8_15) (fun _ _ => ⟨rfl, e24, (by decide : 2 + 2 ≤ _), (by decide : 24 + 7 ≤ _)⟩)
  dsimp only [Pt.U, Pt.locs, Pt.cells, Pt.slots] at X26 l26 y26 z26 st26 hQ26
  subst l26 y26 z26
  obtain ⟨r26, rfl, N26q, K26k, s26z⟩ := hQ26
  have N26 := Fr.app N19 N26q
  have g_r26 : n0 ≤ r26 := Nat.le_trans Z2 s26z
  have sz_r26 : h0.size ≤ r26 := Nat.le_trans K2.1 s26z
  have ne27 : q' ≠ r26 := Nat.ne_of_lt (Nat.lt_of_lt_of_le F9.lt s26z)
  have ne28 : ths ≠ r26 := Nat.ne_of_lt (Nat.lt_of_lt_of_le F13.lt s26z)
  have ne29 : b ≠ r26 := Nat.ne_of_lt (Nat.lt_of_lt_of_le F16.lt s26z)
  have ne30 : a2 ≠ r26 := Nat.ne_of_lt (Nat.lt_of_lt_of_le A2.lt s26z)
  have ne31 : b2 ≠ r26 := Nat.ne_of_lt (Nat.lt_of_lt_of_le V2.lt s26z)
  have F32 := Safe.keep K26k sf0 C4.1 F3
  have C33 := CHr.trans C4 (CHr.keep K26k sf0 C4.1)
  have F34 := F5.keep K26k all0
  have F35 := Sta.ext F34.2 RC
  have F36 := Sta.ext F34.2 RU
  have F37 := Sta.ext F34.2 RS
  have F38 := F9.keep K26k nin0
  have F39 := F10.keep K26k nin0
  have F40 := F11.keep K26k nin0
  have F41 := F12.keep K26k
  have F42 := F13.keep K26k
  have F43 := F14.keep K26k nin0
  have F44 := F15.keep K26k nin0
  have F45 := F16.keep K26k nin0
  have F46 := F17.keep K26k
  have F47 := A2.keep K26k
  have F48 := Fc2.keep K26k nin0
  have F49 := Fv2.keep K26k nin0
  have F50 := V2.keep K26k nin0
  have F51 := Bx2.keep K26k
  have hk_52 := Nat.le_trans hk2 K26k.1
  have Z53 : n0 ≤ T26.heap.size := Nat.le_trans Z2 K26k.1
  have K53 : Keep h0 T26.heap [q'] := K2.trans K26k all0
  have k54 : ∀ t, Steps p.tables e below (T26.setTop (mkF m 18 #[.val (.ref q'), .val (.ref ths), .val (.int p1)] [(.ref r26), (.int p1), (.ref ths), (.ref q')])) t → Steps p.tables e below (s₁.setTop (entryFrame m #[(.ref q'), (.ref ths), (.int p1)] 3)) t := fun t kt => k25 t (st26.trans kt)
  obtain ⟨_, _, ⟨T55, L55, k55c, n55⟩, -, X55, ⟨Lc55, hQ55, l55, y55, z55⟩, st55⟩ := X26.specialBack hx (y := (⟨"com/example/disk_to_queue/disktoqueue/store/TopicQueue", "<init>", "(Ljava/lang/String;I[B)V"⟩ : MethodName)) rfl hown2 (mvT hZ2 (hw _ (List.mem_of_getElem? (i := 85) rfl))) (mvT hZ2 (hw _ (List.mem_of_getElem? (i := 86) rfl))) (mvT hZ2 (hw _ (List.mem_of_getElem? (i := 87) rfl))) (by decide) (backOf (W := 0) (rmT3 l Z a0 hw [] q' ths p1 r26 T26.heap n0 Z53 F38 F39 F40 F41 g_q) hZ2 (hw _ (List.mem_of_getElem? (i := 87) rfl)) (hw _ (List.mem_of_getElem? (i := 37) rfl)) (by decide) (by decide)) (g := (mkF m 18 #[.val (.ref q'), .val (.ref ths), .val (.int p1)] [(.ref r26), (.int p1), (.ref ths), (.ref q')])) rfl (by rw [hml]; rfl) (Steps.refl _) (a := q') (argsL := [(.ref ths), (.int p1), (.ref r26)]) (rest := []) (lenOf own_pd17 rfl) rfl (by show 2 * 0 + _ ≤ _; exact Nat.le_of_eq rfl) (hb hby d8_18) (fun _ _ => ⟨rfl, rfl, (by decide : 4 + 0 ≤ _), (by decide : 31 + 0 ≤ _)⟩)
  dsimp only [Pt.U, Pt.locs, Pt.cells, Pt.slots] at X55 l55 y55 z55 st55 hQ55
  subst l55 y55 z55
  obtain ⟨rfl, N55q, K55k, -, Ft55, Fi55⟩ := hQ55
  have N55 := Fr.app N26 N55q
  have F56 := Safe.keep K55k (sfS F32 sf0) C33.1 F32
  have C57 := CHr.trans C33 (CHr.keep K55k (sfS F32 sf0) C33.1)
  have F58 := F34.keep K55k (allS g_q all0)
  have F59 := Sta.ext F58.2 RC
  have F60 := Sta.ext F58.2 RU
  have F61 := Sta.ext F58.2 RS
  have F65 := F41.keep K55k
  have F66 := F42.keep K55k
  have F67 := F43.keep K55k (ninS (Ne.symm nqt) nin0)
  have F68 := F44.keep K55k (ninS (Ne.symm nqt) nin0)
  have F69 := F45.keep K55k (ninS (Ne.symm nqb) nin0)
  have F70 := F46.keep K55k
  have F71 := F47.keep K55k
  have F72 := F48.keep K55k (ninS (Ne.symm (sf2 _ F3).1) nin0)
  have F73 := F49.keep K55k (ninS (Ne.symm (sf2 _ F3).1) nin0)
  have F74 := F50.keep K55k (ninS (Ne.symm (sf2 _ F3).2) nin0)
  have F75 := F51.keep K55k
  have hk_76 := Nat.le_trans hk_52 K55k.1
  have Z77 : n0 ≤ T55.heap.size := Nat.le_trans Z53 K55k.1
  have K77 : Keep h0 T55.heap [q'] := K53.trans K55k (allS (Or.inl (List.mem_of_getElem? (i := 0) rfl)) all0)
  have k78 : ∀ t, Steps p.tables e below (T55.setTop (mkF m 21 #[.val (.ref q'), .val (.ref ths), .val (.int p1)] [])) t → Steps p.tables e below (s₁.setTop (entryFrame m #[(.ref q'), (.ref ths), (.int p1)] 3)) t := fun t kt => k54 t (st55.trans kt)
  obtain ⟨fs, hr, hrun, hended, hRW⟩ := X55.leaveW hS2 hk_76 (v := none) (fun _ => rfl)
  refine ⟨_, _, k78 _ ?_, hrun, hended, _, _, rfl, ?_, ?_, hRW.1, hRW.2.1, hRW.2.2.1, hRW.2.2.2.mono (by decide) (by decide)⟩
  · show Steps p.tables e below (T55.setTop (mkF m 21 #[.val (.ref q'), .val (.ref ths), .val (.int p1)] [])) _
    exact X55.returnOut hx Bd.returns (hb hby d8_21) hr
  · show QT2 Z q' ths p1 aU cs b kb n1 ax ay h0 n0 _ T55.heap _
    exact ⟨rfl, N55, K77, F65, Ft55, Fi55⟩
  · show CHr Z own_EL s.vm s.heap T55.vm T55.heap
    rw [hh]
    exact CHr.trans C57 (CHv.at (s := s) (vm0 := T2.vm) X55 hZ2 hEL C57.1)
theorem d17_0 : decode prog_88_method_16_code 0 = .ok (.aload_n 1, 1) := by decide +kernel
theorem d17_1 : decode prog_88_method_16_code 1 = .ok (.instanceof 22, 3) := by decide +kernel
theorem d17_4 : decode prog_88_method_16_code 4 = .ok (.ifCond .eq 37, 3) := by decide +kernel
theorem d17_7 : decode prog_88_method_16_code 7 = .ok (.aload_n 1, 1) := by decide +kernel
theorem d17_8 : decode prog_88_method_16_code 8 = .ok (.checkcast 22, 3) := by decide +kernel
theorem d17_11 : decode prog_88_method_16_code 11 = .ok (.astore_n 2, 1) := by decide +kernel
theorem d17_12 : decode prog_88_method_16_code 12 = .ok (.aload_n 0, 1) := by decide +kernel
theorem d17_13 : decode prog_88_method_16_code 13 = .ok (.getfield 35, 3) := by decide +kernel
theorem d17_16 : decode prog_88_method_16_code 16 = .ok (.aload_n 2, 1) := by decide +kernel
theorem d17_17 : decode prog_88_method_16_code 17 = .ok (.getfield 35, 3) := by decide +kernel
theorem d17_20 : decode prog_88_method_16_code 20 = .ok (.if_icmp .ne 21, 3) := by decide +kernel
theorem d17_23 : decode prog_88_method_16_code 23 = .ok (.aload_n 0, 1) := by decide +kernel
theorem d17_24 : decode prog_88_method_16_code 24 = .ok (.getfield 32, 3) := by decide +kernel
theorem d17_27 : decode prog_88_method_16_code 27 = .ok (.aload_n 2, 1) := by decide +kernel
theorem d17_28 : decode prog_88_method_16_code 28 = .ok (.getfield 32, 3) := by decide +kernel
theorem d17_31 : decode prog_88_method_16_code 31 = .ok (.invokevirtual 49, 3) := by decide +kernel
theorem d17_34 : decode prog_88_method_16_code 34 = .ok (.ifCond .eq 7, 3) := by decide +kernel
theorem d17_37 : decode prog_88_method_16_code 37 = .ok (.iconst 1, 1) := by decide +kernel
theorem d17_38 : decode prog_88_method_16_code 38 = .ok (.goto 4, 3) := by decide +kernel
theorem d17_41 : decode prog_88_method_16_code 41 = .ok (.iconst 0, 1) := by decide +kernel
theorem d17_42 : decode prog_88_method_16_code 42 = .ok (.ireturn, 1) := by decide +kernel
theorem rmQ_ef (m : MethodId) (x0 : Addr) (x1 : Addr) : entryFrame m #[(.ref x0), (.ref x1)] 3 = mkF m 0 #[.val (.ref x0), .val (.ref x1), .unset] [] := by first | (simp [entryFrame, mkF, argsToLocals, Value.category]; done) | rfl
def QQ (Z : State) (q1' : Addr) (q2' : Addr) (i1' : Int32) (i2' : Int32) (ths : Addr) (o : Addr) (bt : Addr) (bo : Addr) (n1 : Int32) (n2 : Int32) (ax : Int32) (ay : Int32) (bx : Int32) (by' : Int32) (kct : ClassId) (ko : ClassId) (cs : Int32) (h0 : Heap) (n0 : Nat) (v : Option Value) (h : Heap) (L : List Loc) : Prop := v = some (.int (own_tq i1' i2' (own_se n1 n2 ax ay bx by'))) ∧ Fr n0 L ∧ h = h0
theorem own_pd18 : parseMethodDescriptor "(Ljava/lang/Object;)Z" = some ⟨[(.object "java/lang/Object")], some .boolean⟩ := by decide +kernel
set_option maxRecDepth 65536 in
set_option maxHeartbeats 40000000 in
theorem rmQ (l : Launch) (Z : State) (a0 : Array Value) (hw : ∀ d ∈ tables_1, d.before a0 Z = true) (ws : List Jvm.Cond) (q1' : Addr) (q2' : Addr) (i1' : Int32) (i2' : Int32) (ths : Addr) (o : Addr) (bt : Addr) (bo : Addr) (n1 : Int32) (n2 : Int32) (ax : Int32) (ay : Int32) (bx : Int32) (by' : Int32) (kct : ClassId) (ko : ClassId) (cs : Int32) (h0 : Heap) (n0 : Nat) (Z0 : n0 ≤ h0.size) (Ft1 : Fld Z h0 q1' "com/example/disk_to_queue/disktoqueue/store/TopicQueue" "topic" "Ljava/lang/String;" (.ref ths)) (Fi1 : Fld Z h0 q1' "com/example/disk_to_queue/disktoqueue/store/TopicQueue" "queueId" "I" (.int i1')) (Ft2 : Fld Z h0 q2' "com/example/disk_to_queue/disktoqueue/store/TopicQueue" "topic" "Ljava/lang/String;" (.ref o)) (Fi2 : Fld Z h0 q2' "com/example/disk_to_queue/disktoqueue/store/TopicQueue" "queueId" "I" (.int i2')) (E2 : Exa Z h0 q2' "com/example/disk_to_queue/disktoqueue/store/TopicQueue") (Et : Exa Z h0 ths "java/lang/String") (Ft : Fld Z h0 ths "java/lang/String" "value" "[B" (.ref bt)) (Ct : Fld Z h0 ths "java/lang/String" "coder" "B" (.int (0 : Int32))) (Eo : Exa Z h0 o "java/lang/String") (Fo : Fld Z h0 o "java/lang/String" "value" "[B" (.ref bo)) (Co : Fld Z h0 o "java/lang/String" "coder" "B" (.int (0 : Int32))) (At : Arv Z h0 bt kct .byte n1 [(.int ax), (.int ay)] (.int (0 : Int32))) (Ao : Arv Z h0 bo ko .byte n2 [(.int bx), (.int by')] (.int (0 : Int32))) (h2 : ¬ ((2 : Int32) < n1)) (SC : Sta Z h0 "java/lang/String" "COMPACT_STRINGS" "Z" (.int cs)) (hcs : ¬ (cs = (0 : Int32))) :
    MetFree l (⟨"com/example/disk_to_queue/disktoqueue/store/TopicQueue", "equals", "(Ljava/lang/Object;)Z"⟩ : MethodName) (head1 (Jvm.Cond.code (⟨"com/example/disk_to_queue/disktoqueue/store/TopicQueue", "equals", "(Ljava/lang/Object;)Z"⟩ : MethodName) prog_88_method_16_code 3 (some .boolean) :: ws) ({ frames := 2, cells := 0, slots := 0, locals := 28 } : Room)) (fun aA' U => aA' = #[(.ref q1'), (.ref q2')] ∧ Z.Warmed39 U.vm ∧ U.heap = h0) (fun _ _ _ _ _ => True) (fun _ U oO' U' => ∃ vV' L, oO' = .returned vV' ∧ QQ Z q1' q2' i1' i2' ths o bt bo n1 n2 ax ay bx by' kct ko cs h0 n0 vV' U'.heap L ∧ FrameEnd U oO' U' L ({ frames := 2, cells := 0, slots := 0, locals := 28 } : Room).cells ({ frames := 2, cells := 0, slots := 0, locals := 28 } : Room).slots) := by
  refine MetFree.of_bodySF (plainFor_of_name own_pn7) hisR ?_
  intro p e s m args below meth c s₁ Bd hml0 hP hK
  obtain ⟨rfl, hZ, hh⟩ := hP
  have hx := Bd.exec
  have hby := Bd.bytes
  have hml : c.maxLocals = 3 := hml0
  have hown : s.vm.findClass "com/example/disk_to_queue/disktoqueue/store/TopicQueue" = some m.cls := findClass_of_methodNamed Bd.named
  have hnm := (name_of_methodNamed Bd.named Bd.method).1
  have X0 : Stand p l e ({ frames := 2, cells := 0, slots := 0, locals := 28 } : Room) s m #[(.ref q1'), (.ref q2')] below meth c s₁ [] 0 0 := Stand.of_body Bd
  have e0 : s₁.heap = h0 := by rw [← hh, Bd.state]; rfl
  have N0 := Fr.nil n0
  have K0 : Keep h0 h0 [] := Keep.refl _ _
  have k0 : ∀ t, Steps p.tables e below (s₁.setTop (mkF m 0 #[.val (.ref q1'), .val (.ref q2'), .unset] [])) t → Steps p.tables e below (s₁.setTop (entryFrame m #[(.ref q1'), (.ref q2')] 3)) t := fun t k => castTop (rmQ_ef m (q1') (q2')) k
  have k1 : ∀ t, Steps p.tables e below (s₁.setTop (mkF m 1 #[.val (.ref q1'), .val (.ref q2'), .unset] [(.ref q2')])) t → Steps p.tables e below (s₁.setTop (entryFrame m #[(.ref q1'), (.ref q2')] 3)) t := by
    intro t kt
    refine k0 t ?_
    show Steps p.tables e below (s₁.setTop (mkF m 0 #[.val (.ref q1'), .val (.ref q2'), .unset] [])) t
    refine XS.aloadN X0.here hx rfl (hb hby d17_0) rfl rfl ?_
    exact kt
  obtain ⟨T2, X2, e2, st2⟩ := instY X0 hx hZ hown (hw _ (List.mem_of_getElem? (i := 100) rfl)) e0 (Ins.self E2) (g := (mkF m 1 #[.val (.ref q1'), .val (.ref q2'), .unset] [(.ref q2')])) rfl rfl (hb hby d17_1)
  have k3 : ∀ t, Steps p.tables e below (T2.setTop (mkF m 4 #[.val (.ref q1'), .val (.ref q2'), .unset] [(.int (1 : Int32))])) t → Steps p.tables e below (s₁.setTop (entryFrame m #[(.ref q1'), (.ref q2')] 3)) t := fun t kt => k1 t (st2 t kt)
  have hc4_4 : ¬ ((1 : Int32) = (0 : Int32)) := by decide
  have k5 : ∀ t, Steps p.tables e below (T2.setTop (mkF m 8 #[.val (.ref q1'), .val (.ref q2'), .unset] [(.ref q2')])) t → Steps p.tables e below (s₁.setTop (entryFrame m #[(.ref q1'), (.ref q2')] 3)) t := by
    intro t kt
    refine k3 t ?_
    show Steps p.tables e below (T2.setTop (mkF m 4 #[.val (.ref q1'), .val (.ref q2'), .unset] [(.int (1 : Int32))])) t
    refine XS.ifNo X2.here hx rfl (hb hby d17_4) rfl ((if0 _ _).trans (feq hc4_4).1) ?_
    show Steps p.tables e below (T2.setTop (mkF m 7 #[.val (.ref q1'), .val (.ref q2'), .unset] [])) t
    refine XS.aloadN X2.here hx rfl (hb hby d17_7) rfl rfl ?_
    exact kt
  obtain ⟨T6, X6, e6, st6⟩ := castY X2 hx hZ hown (hw _ (List.mem_of_getElem? (i := 100) rfl)) e2 (Ins.self E2) (g := (mkF m 8 #[.val (.ref q1'), .val (.ref q2'), .unset] [(.ref q2')])) rfl rfl (hb hby d17_8)
  have k7 : ∀ t, Steps p.tables e below (T6.setTop (mkF m 11 #[.val (.ref q1'), .val (.ref q2'), .unset] [(.ref q2')])) t → Steps p.tables e below (s₁.setTop (entryFrame m #[(.ref q1'), (.ref q2')] 3)) t := fun t kt => k5 t (st6 t kt)
  have k8 : ∀ t, Steps p.tables e below (T6.setTop (mkF m 13 #[.val (.ref q1'), .val (.ref q2'), .val (.ref q2')] [(.ref q1')])) t → Steps p.tables e below (s₁.setTop (entryFrame m #[(.ref q1'), (.ref q2')] 3)) t := by
    intro t kt
    refine k7 t ?_
    show Steps p.tables e below (T6.setTop (mkF m 11 #[.val (.ref q1'), .val (.ref q2'), .unset] [(.ref q2')])) t
    refine XS.astoreN X6.here hx rfl (hb hby d17_11) rfl rfl (l' := #[.val (.ref q1'), .val (.ref q2'), .val (.ref q2')]) rfl ?_
    show Steps p.tables e below (T6.setTop (mkF m 12 #[.val (.ref q1'), .val (.ref q2'), .val (.ref q2')] [])) t
    refine XS.aloadN X6.here hx rfl (hb hby d17_12) rfl rfl ?_
    exact kt
  obtain ⟨T9, X9, e9, st9⟩ := getF X6 hx hZ hown (host := "") (Or.inl (hw _ (List.mem_of_getElem? (i := 91) rfl))) Via.refl e6 Fi1 (g := (mkF m 13 #[.val (.ref q1'), .val (.ref q2'), .val (.ref q2')] [(.ref q1')])) rfl rfl (hb hby d17_13)
  have k10 : ∀ t, Steps p.tables e below (T9.setTop (mkF m 16 #[.val (.ref q1'), .val (.ref q2'), .val (.ref q2')] [(.int i1')])) t → Steps p.tables e below (s₁.setTop (entryFrame m #[(.ref q1'), (.ref q2')] 3)) t := fun t kt => k8 t (st9 t kt)
  have k11 : ∀ t, Steps p.tables e below (T9.setTop (mkF m 17 #[.val (.ref q1'), .val (.ref q2'), .val (.ref q2')] [(.ref q2'), (.int i1')])) t → Steps p.tables e below (s₁.setTop (entryFrame m #[(.ref q1'), (.ref q2')] 3)) t := by
    intro t kt
    refine k10 t ?_
    show Steps p.tables e below (T9.setTop (mkF m 16 #[.val (.ref q1'), .val (.ref q2'), .val (.ref q2')] [(.int i1')])) t
    refine XS.aloadN X9.here hx rfl (hb hby d17_16) rfl rfl ?_
    exact kt
  obtain ⟨T12, X12, e12, st12⟩ := getF X9 hx hZ hown (host := "") (Or.inl (hw _ (List.mem_of_getElem? (i := 91) rfl))) Via.refl e9 Fi2 (g := (mkF m 17 #[.val (.ref q1'), .val (.ref q2'), .val (.ref q2')] [(.ref q2'), (.int i1')])) rfl rfl (hb hby d17_17)
  have k13 : ∀ t, Steps p.tables e below (T12.setTop (mkF m 20 #[.val (.ref q1'), .val (.ref q2'), .val (.ref q2')] [(.int i2'), (.int i1')])) t → Steps p.tables e below (s₁.setTop (entryFrame m #[(.ref q1'), (.ref q2')] 3)) t := fun t kt => k11 t (st12 t kt)
  by_cases hc20_14 : i1' = i2'
  · have k15 : ∀ t, Steps p.tables e below (T12.setTop (mkF m 24 #[.val (.ref q1'), .val (.ref q2'), .val (.ref q2')] [(.ref q1')])) t → Steps p.tables e below (s₁.setTop (entryFrame m #[(.ref q1'), (.ref q2')] 3)) t := by
      intro t kt
      refine k13 t ?_
      show Steps p.tables e below (T12.setTop (mkF m 20 #[.val (.ref q1'), .val (.ref q2'), .val (.ref q2')] [(.int i2'), (.int i1')])) t
      refine XS.icmpNo X12.here hx rfl (hb hby d17_20) rfl (teq hc20_14).2 ?_
      show Steps p.tables e below (T12.setTop (mkF m 23 #[.val (.ref q1'), .val (.ref q2'), .val (.ref q2')] [])) t
      refine XS.aloadN X12.here hx rfl (hb hby d17_23) rfl rfl ?_
      exact kt
    obtain ⟨T16, X16, e16, st16⟩ := getF X12 hx hZ hown (host := "") (Or.inl (hw _ (List.mem_of_getElem? (i := 89) rfl))) Via.refl e12 Ft1 (g := (mkF m 24 #[.val (.ref q1'), .val (.ref q2'), .val (.ref q2')] [(.ref q1')])) rfl rfl (hb hby d17_24)
    have k17 : ∀ t, Steps p.tables e below (T16.setTop (mkF m 27 #[.val (.ref q1'), .val (.ref q2'), .val (.ref q2')] [(.ref ths)])) t → Steps p.tables e below (s₁.setTop (entryFrame m #[(.ref q1'), (.ref q2')] 3)) t := fun t kt => k15 t (st16 t kt)
    have k18 : ∀ t, Steps p.tables e below (T16.setTop (mkF m 28 #[.val (.ref q1'), .val (.ref q2'), .val (.ref q2')] [(.ref q2'), (.ref ths)])) t → Steps p.tables e below (s₁.setTop (entryFrame m #[(.ref q1'), (.ref q2')] 3)) t := by
      intro t kt
      refine k17 t ?_
      show Steps p.tables e below (T16.setTop (mkF m 27 #[.val (.ref q1'), .val (.ref q2'), .val (.ref q2')] [(.ref ths)])) t
      refine XS.aloadN X16.here hx rfl (hb hby d17_27) rfl rfl ?_
      exact kt
    obtain ⟨T19, X19, e19, st19⟩ := getF X16 hx hZ hown (host := "") (Or.inl (hw _ (List.mem_of_getElem? (i := 89) rfl))) Via.refl e16 Ft2 (g := (mkF m 28 #[.val (.ref q1'), .val (.ref q2'), .val (.ref q2')] [(.ref q2'), (.ref ths)])) rfl rfl (hb hby d17_28)
    have k20 : ∀ t, Steps p.tables e below (T19.setTop (mkF m 31 #[.val (.ref q1'), .val (.ref q2'), .val (.ref q2')] [(.ref o), (.ref ths)])) t → Steps p.tables e below (s₁.setTop (entryFrame m #[(.ref q1'), (.ref q2')] 3)) t := fun t kt => k18 t (st19 t kt)
    obtain ⟨cq21, kq21, q21a, q21b, q21c⟩ := isOf hZ e19 Et
    obtain ⟨_, _, ⟨T21, L21, k21c, n21⟩, -, X21, ⟨Lc21, hQ21, l21, y21, z21⟩, st21⟩ := X19.virtualBack hx (y := (⟨"java/lang/String", "equals", "(Ljava/lang/Object;)Z"⟩ : MethodName)) (z := (⟨"java/lang/String", "equals", "(Ljava/lang/Object;)Z"⟩ : MethodName)) hown (mvT hZ (hw _ (List.mem_of_getElem? (i := 102) rfl))) (mvT hZ (hw _ (List.mem_of_getElem? (i := 103) rfl))) (notFace_of_selects (args := #[]) (mvT hZ (hw _ (List.mem_of_getElem? (i := 105) rfl)))) (mvT hZ (hw _ (List.mem_of_getElem? (i := 105) rfl))) (mvT hZ (hw _ (List.mem_of_getElem? (i := 104) rfl))) (by decide) (backOf (W := 0) (rmE l Z a0 hw [] ths o bt bo n1 n2 ax ay bx by' kct ko cs h0 n0 Z0 Et Ft Ct Eo Fo Co At Ao h2 SC hcs) hZ (hw _ (List.mem_of_getElem? (i := 106) rfl)) (hw _ (List.mem_of_getElem? (i := 7) rfl)) (by decide) (by decide)) q21a q21c (g := (mkF m 31 #[.val (.ref q1'), .val (.ref q2'), .val (.ref q2')] [(.ref o), (.ref ths)])) rfl (by rw [hml]; rfl) (Steps.refl _) (argsL := [(.ref o)]) (rest := []) (lenOf own_pd18 rfl) rfl (by show 2 * 0 + _ ≤ _; exact Nat.le_of_eq rfl) (hb hby d17_31) (fun _ _ => ⟨rfl, e19, (by decide : 0 + 0 ≤ _), (by decide : 0 + 0 ≤ _)⟩)
    dsimp only [Pt.U, Pt.locs, Pt.cells, Pt.slots] at X21 l21 y21 z21 st21 hQ21
    subst l21 y21 z21
    obtain ⟨rfl, N21q, e21⟩ := hQ21
    have N21 := Fr.app N0 N21q
    have k22 : ∀ t, Steps p.tables e below (T21.setTop (mkF m 34 #[.val (.ref q1'), .val (.ref q2'), .val (.ref q2')] [(.int (own_se n1 n2 ax ay bx by'))])) t → Steps p.tables e below (s₁.setTop (entryFrame m #[(.ref q1'), (.ref q2')] 3)) t := fun t kt => k20 t (st21.trans kt)
    by_cases hc34_23 : (own_se n1 n2 ax ay bx by') = (0 : Int32)
    · have k24 : ∀ t, Steps p.tables e below (T21.setTop (mkF m 42 #[.val (.ref q1'), .val (.ref q2'), .val (.ref q2')] [(.int (0 : Int32))])) t → Steps p.tables e below (s₁.setTop (entryFrame m #[(.ref q1'), (.ref q2')] 3)) t := by
        intro t kt
        refine k22 t ?_
        show Steps p.tables e below (T21.setTop (mkF m 34 #[.val (.ref q1'), .val (.ref q2'), .val (.ref q2')] [(.int (own_se n1 n2 ax ay bx by'))])) t
        refine XS.ifYes X21.here hx rfl (pc0 := 34) (pc' := 41) rfl (hb hby d17_34) rfl ((if0 _ _).trans (teq hc34_23).1) (by decide) (by decide) ?_
        show Steps p.tables e below (T21.setTop (mkF m 41 #[.val (.ref q1'), .val (.ref q2'), .val (.ref q2')] [])) t
        refine XS.iconst X21.here hx rfl (hb hby d17_41) ?_
        exact kt
      obtain ⟨fs, hr, hrun, hended, hW, hsame⟩ := X21.leave (v := some (.int (0 : Int32))) (fun h => by rw [Bd.returns] at h; cases h)
      refine ⟨_, _, k24 _ ?_, hrun, hended, _, _, rfl, ?_, ⟨_, rfl⟩, hW, hsame.mono (by decide) (by decide)⟩
      · show Steps p.tables e below (T21.setTop (mkF m 42 #[.val (.ref q1'), .val (.ref q2'), .val (.ref q2')] [(.int (0 : Int32))])) _
        exact retN X21 hx (t := .boolean) Bd.returns (by simp) (hb hby d17_42) hr
      · show QQ Z q1' q2' i1' i2' ths o bt bo n1 n2 ax ay bx by' kct ko cs h0 n0 _ T21.heap _
        rw [e21]
        refine ⟨congrArg (fun z => some (Value.int z)) ?_, N21, rfl⟩
        simp [own_tq, hc20_14, hc34_23]
    · have k25 : ∀ t, Steps p.tables e below (T21.setTop (mkF m 42 #[.val (.ref q1'), .val (.ref q2'), .val (.ref q2')] [(.int (1 : Int32))])) t → Steps p.tables e below (s₁.setTop (entryFrame m #[(.ref q1'), (.ref q2')] 3)) t := by
        intro t kt
        refine k22 t ?_
        show Steps p.tables e below (T21.setTop (mkF m 34 #[.val (.ref q1'), .val (.ref q2'), .val (.ref q2')] [(.int (own_se n1 n2 ax ay bx by'))])) t
        refine XS.ifNo X21.here hx rfl (hb hby d17_34) rfl ((if0 _ _).trans (feq hc34_23).1) ?_
        show Steps p.tables e below (T21.setTop (mkF m 37 #[.val (.ref q1'), .val (.ref q2'), .val (.ref q2')] [])) t
        refine XS.iconst X21.here hx rfl (hb hby d17_37) ?_
        show Steps p.tables e below (T21.setTop (mkF m 38 #[.val (.ref q1'), .val (.ref q2'), .val (.ref q2')] [(.int (1 : Int32))])) t
        refine XS.goto X21.here hx rfl (pc0 := 38) (pc' := 42) rfl (hb hby d17_38) (by decide) (by decide) ?_
        exact kt
      obtain ⟨fs, hr, hrun, hended, hW, hsame⟩ := X21.leave (v := some (.int (1 : Int32))) (fun h => by rw [Bd.returns] at h; cases h)
      refine ⟨_, _, k25 _ ?_, hrun, hended, _, _, rfl, ?_, ⟨_, rfl⟩, hW, hsame.mono (by decide) (by decide)⟩
      · show Steps p.tables e below (T21.setTop (mkF m 42 #[.val (.ref q1'), .val (.ref q2'), .val (.ref q2')] [(.int (1 : Int32))])) _
        exact retN X21 hx (t := .boolean) Bd.returns (by simp) (hb hby d17_42) hr
      · show QQ Z q1' q2' i1' i2' ths o bt bo n1 n2 ax ay bx by' kct ko cs h0 n0 _ T21.heap _
        rw [e21]
        refine ⟨congrArg (fun z => some (Value.int z)) ?_, N21, rfl⟩
        simp [own_tq, hc20_14, hc34_23]
  · have k26 : ∀ t, Steps p.tables e below (T12.setTop (mkF m 42 #[.val (.ref q1'), .val (.ref q2'), .val (.ref q2')] [(.int (0 : Int32))])) t → Steps p.tables e below (s₁.setTop (entryFrame m #[(.ref q1'), (.ref q2')] 3)) t := by
      intro t kt
      refine k13 t ?_
      show Steps p.tables e below (T12.setTop (mkF m 20 #[.val (.ref q1'), .val (.ref q2'), .val (.ref q2')] [(.int i2'), (.int i1')])) t
      refine XS.icmpYes X12.here hx rfl (pc0 := 20) (pc' := 41) rfl (hb hby d17_20) rfl (feq hc20_14).2 (by decide) (by decide) ?_
      show Steps p.tables e below (T12.setTop (mkF m 41 #[.val (.ref q1'), .val (.ref q2'), .val (.ref q2')] [])) t
      refine XS.iconst X12.here hx rfl (hb hby d17_41) ?_
      exact kt
    obtain ⟨fs, hr, hrun, hended, hW, hsame⟩ := X12.leave (v := some (.int (0 : Int32))) (fun h => by rw [Bd.returns] at h; cases h)
    refine ⟨_, _, k26 _ ?_, hrun, hended, _, _, rfl, ?_, ⟨_, rfl⟩, hW, hsame.mono (by decide) (by decide)⟩
    · show Steps p.tables e below (T12.setTop (mkF m 42 #[.val (.ref q1'), .val (.ref q2'), .val (.ref q2')] [(.int (0 : Int32))])) _
      exact retN X12 hx (t := .boolean) Bd.returns (by simp) (hb hby d17_42) hr
    · show QQ Z q1' q2' i1' i2' ths o bt bo n1 n2 ax ay bx by' kct ko cs h0 n0 _ T12.heap _
      rw [e12]
      refine ⟨congrArg (fun z => some (Value.int z)) ?_, N0, rfl⟩
      simp [own_tq, hc20_14]
theorem rmQN_ef (m : MethodId) (x0 : Addr) : entryFrame m #[(.ref x0), .null] 3 = mkF m 0 #[.val (.ref x0), .val .null, .unset] [] := by first | (simp [entryFrame, mkF, argsToLocals, Value.category]; done) | rfl
def QQN (Z : State) (q1' : Addr) (h0 : Heap) (n0 : Nat) (v : Option Value) (h : Heap) (L : List Loc) : Prop := v = some (.int (0 : Int32)) ∧ Fr n0 L ∧ h = h0
set_option maxRecDepth 65536 in
set_option maxHeartbeats 40000000 in
theorem rmQN (l : Launch) (Z : State) (a0 : Array Value) (hw : ∀ d ∈ tables_1, d.before a0 Z = true) (ws : List Jvm.Cond) (q1' : Addr) (h0 : Heap) (n0 : Nat) (Z0 : n0 ≤ h0.size) :
    MetFree l (⟨"com/example/disk_to_queue/disktoqueue/store/TopicQueue", "equals", "(Ljava/lang/Object;)Z"⟩ : MethodName) (head1 (Jvm.Cond.code (⟨"com/example/disk_to_queue/disktoqueue/store/TopicQueue", "equals", "(Ljava/lang/Object;)Z"⟩ : MethodName) prog_88_method_16_code 3 (some .boolean) :: ws) ({ frames := 0, cells := 0, slots := 0, locals := 0 } : Room)) (fun aA' U => aA' = #[(.ref q1'), .null] ∧ Z.Warmed39 U.vm ∧ U.heap = h0) (fun _ _ _ _ _ => True) (fun _ U oO' U' => ∃ vV' L, oO' = .returned vV' ∧ QQN Z q1' h0 n0 vV' U'.heap L ∧ FrameEnd U oO' U' L ({ frames := 0, cells := 0, slots := 0, locals := 0 } : Room).cells ({ frames := 0, cells := 0, slots := 0, locals := 0 } : Room).slots) := by
  refine MetFree.of_bodySF (plainFor_of_name own_pn7) hisR ?_
  intro p e s m args below meth c s₁ Bd hml0 hP hK
  obtain ⟨rfl, hZ, hh⟩ := hP
  have hx := Bd.exec
  have hby := Bd.bytes
  have hml : c.maxLocals = 3 := hml0
  have hown : s.vm.findClass "com/example/disk_to_queue/disktoqueue/store/TopicQueue" = some m.cls := findClass_of_methodNamed Bd.named
  have hnm := (name_of_methodNamed Bd.named Bd.method).1
  have X0 : Stand p l e ({ frames := 0, cells := 0, slots := 0, locals := 0 } : Room) s m #[(.ref q1'), .null] below meth c s₁ [] 0 0 := Stand.of_body Bd
  have e0 : s₁.heap = h0 := by rw [← hh, Bd.state]; rfl
  have N0 := Fr.nil n0
  have K0 : Keep h0 h0 [] := Keep.refl _ _
  have k0 : ∀ t, Steps p.tables e below (s₁.setTop (mkF m 0 #[.val (.ref q1'), .val .null, .unset] [])) t → Steps p.tables e below (s₁.setTop (entryFrame m #[(.ref q1'), .null] 3)) t := fun t k => castTop (rmQN_ef m (q1')) k
  have k1 : ∀ t, Steps p.tables e below (s₁.setTop (mkF m 1 #[.val (.ref q1'), .val .null, .unset] [.null])) t → Steps p.tables e below (s₁.setTop (entryFrame m #[(.ref q1'), .null] 3)) t := by
    intro t kt
    refine k0 t ?_
    show Steps p.tables e below (s₁.setTop (mkF m 0 #[.val (.ref q1'), .val .null, .unset] [])) t
    refine XS.aloadN X0.here hx rfl (hb hby d17_0) rfl rfl ?_
    exact kt
  have k2 : ∀ t, Steps p.tables e below (s₁.setTop (mkF m 4 #[.val (.ref q1'), .val .null, .unset] [(.int (0 : Int32))])) t → Steps p.tables e below (s₁.setTop (entryFrame m #[(.ref q1'), .null] 3)) t := fun t kt => k1 t (X0.instanceofNull hx (g := (mkF m 1 #[.val (.ref q1'), .val .null, .unset] [.null])) rfl rfl (hb hby d17_1) t kt)
  have hc4_3 : (0 : Int32) = (0 : Int32) := rfl
  have k4 : ∀ t, Steps p.tables e below (s₁.setTop (mkF m 42 #[.val (.ref q1'), .val .null, .unset] [(.int (0 : Int32))])) t → Steps p.tables e below (s₁.setTop (entryFrame m #[(.ref q1'), .null] 3)) t := by
    intro t kt
    refine k2 t ?_
    show Steps p.tables e below (s₁.setTop (mkF m 4 #[.val (.ref q1'), .val .null, .unset] [(.int (0 : Int32))])) t
    refine XS.ifYes X0.here hx rfl (pc0 := 4) (pc' := 41) rfl (hb hby d17_4) rfl ((if0 _ _).trans (teq hc4_3).1) (by decide) (by decide) ?_
    show Steps p.tables e below (s₁.setTop (mkF m 41 #[.val (.ref q1'), .val .null, .unset] [])) t
    refine XS.iconst X0.here hx rfl (hb hby d17_41) ?_
    exact kt
  obtain ⟨fs, hr, hrun, hended, hW, hsame⟩ := X0.leave (v := some (.int (0 : Int32))) (fun h => by rw [Bd.returns] at h; cases h)
  refine ⟨_, _, k4 _ ?_, hrun, hended, _, _, rfl, ?_, ⟨_, rfl⟩, hW, hsame.mono (by decide) (by decide)⟩
  · show Steps p.tables e below (s₁.setTop (mkF m 42 #[.val (.ref q1'), .val .null, .unset] [(.int (0 : Int32))])) _
    exact retN X0 hx (t := .boolean) Bd.returns (by simp) (hb hby d17_42) hr
  · show QQN Z q1' h0 n0 _ s₁.heap _
    rw [e0]
    exact ⟨rfl, N0, rfl⟩
theorem own_no {Z : State} {a0 : Array Value} {n : Nat} {C P K : String} (w1 : (Jvm.Cond.superclass C P).before a0 Z = true) (w3 : (Jvm.Cond.noSuperclass P).before a0 Z = true) (wk : (Jvm.Cond.instantiable K n).before a0 Z = true) (h1 : C ≠ K) (h3 : P ≠ K) :
    ∃ c t, Z.vm.findClass C = some c ∧ Z.vm.findClass K = some t ∧ Z.vm.assignable c t = false := by
  obtain ⟨t, k, g1, g2, g3, g4, -⟩ := Cond.instantiable_spec wk
  obtain ⟨c3, k3, f1, f2, f3, -⟩ := Cond.noSuperclass_spec w3
  have n3 : NS Z P K := ⟨c3, t, f1, g1, fun fuel => by cases fuel <;> simp [Vm.isSubclassAux, ids_ne f1 g1 h3, f2, f3]⟩
  obtain ⟨c, t', e1, e2, e3⟩ := NS.step w1 n3 h1
  cases g1.symm.trans e2
  obtain ⟨p, k', kp, -, q2, -, -, q5, -⟩ := Cond.superclass_spec e1 w1
  refine ⟨c, t, e1, g1, ?_⟩
  have gi : k.isInterface = false := by cases hi : k.isInterface <;> simp_all
  show Z.vm.assignableAux (255 + 1) c t = false
  simp [Vm.assignableAux, ids_ne e1 g1 h1, q2, g2, q5, g3, gi, Vm.isSubclass, e3]
theorem rmQS_ef (m : MethodId) (x0 : Addr) (x1 : Addr) : entryFrame m #[(.ref x0), (.ref x1)] 3 = mkF m 0 #[.val (.ref x0), .val (.ref x1), .unset] [] := by first | (simp [entryFrame, mkF, argsToLocals, Value.category]; done) | rfl
def QQS (Z : State) (q1' : Addr) (o : Addr) (h0 : Heap) (n0 : Nat) (v : Option Value) (h : Heap) (L : List Loc) : Prop := v = some (.int (0 : Int32)) ∧ Fr n0 L ∧ h = h0
set_option maxRecDepth 65536 in
set_option maxHeartbeats 40000000 in
theorem rmQS (l : Launch) (Z : State) (a0 : Array Value) (hw : ∀ d ∈ tables_1, d.before a0 Z = true) (ws : List Jvm.Cond) (q1' : Addr) (o : Addr) (h0 : Heap) (n0 : Nat) (Z0 : n0 ≤ h0.size) (Eo : Exa Z h0 o "java/lang/String") :
    MetFree l (⟨"com/example/disk_to_queue/disktoqueue/store/TopicQueue", "equals", "(Ljava/lang/Object;)Z"⟩ : MethodName) (head1 (Jvm.Cond.code (⟨"com/example/disk_to_queue/disktoqueue/store/TopicQueue", "equals", "(Ljava/lang/Object;)Z"⟩ : MethodName) prog_88_method_16_code 3 (some .boolean) :: ws) ({ frames := 0, cells := 0, slots := 0, locals := 0 } : Room)) (fun aA' U => aA' = #[(.ref q1'), (.ref o)] ∧ Z.Warmed39 U.vm ∧ U.heap = h0) (fun _ _ _ _ _ => True) (fun _ U oO' U' => ∃ vV' L, oO' = .returned vV' ∧ QQS Z q1' o h0 n0 vV' U'.heap L ∧ FrameEnd U oO' U' L ({ frames := 0, cells := 0, slots := 0, locals := 0 } : Room).cells ({ frames := 0, cells := 0, slots := 0, locals := 0 } : Room).slots) := by
  refine MetFree.of_bodySF (plainFor_of_name own_pn7) hisR ?_
  intro p e s m args below meth c s₁ Bd hml0 hP hK
  obtain ⟨rfl, hZ, hh⟩ := hP
  have hx := Bd.exec
  have hby := Bd.bytes
  have hml : c.maxLocals = 3 := hml0
  have hown : s.vm.findClass "com/example/disk_to_queue/disktoqueue/store/TopicQueue" = some m.cls := findClass_of_methodNamed Bd.named
  have hnm := (name_of_methodNamed Bd.named Bd.method).1
  have X0 : Stand p l e ({ frames := 0, cells := 0, slots := 0, locals := 0 } : Room) s m #[(.ref q1'), (.ref o)] below meth c s₁ [] 0 0 := Stand.of_body Bd
  have e0 : s₁.heap = h0 := by rw [← hh, Bd.state]; rfl
  have N0 := Fr.nil n0
  have K0 : Keep h0 h0 [] := Keep.refl _ _
  have k0 : ∀ t, Steps p.tables e below (s₁.setTop (mkF m 0 #[.val (.ref q1'), .val (.ref o), .unset] [])) t → Steps p.tables e below (s₁.setTop (entryFrame m #[(.ref q1'), (.ref o)] 3)) t := fun t k => castTop (rmQS_ef m (q1') (o)) k
  have k1 : ∀ t, Steps p.tables e below (s₁.setTop (mkF m 1 #[.val (.ref q1'), .val (.ref o), .unset] [(.ref o)])) t → Steps p.tables e below (s₁.setTop (entryFrame m #[(.ref q1'), (.ref o)] 3)) t := by
    intro t kt
    refine k0 t ?_
    show Steps p.tables e below (s₁.setTop (mkF m 0 #[.val (.ref q1'), .val (.ref o), .unset] [])) t
    refine XS.aloadN X0.here hx rfl (hb hby d17_0) rfl rfl ?_
    exact kt
  obtain ⟨T2, X2, e2, st2⟩ := instNo X0 hx hZ hown (hw _ (List.mem_of_getElem? (i := 100) rfl)) e0 Eo (own_no (hw _ (List.mem_of_getElem? (i := 107) rfl)) (hw _ (List.mem_of_getElem? (i := 108) rfl)) (hw _ (List.mem_of_getElem? (i := 36) rfl)) (by decide) (by decide)) (g := (mkF m 1 #[.val (.ref q1'), .val (.ref o), .unset] [(.ref o)])) rfl rfl (hb hby d17_1)
  have k3 : ∀ t, Steps p.tables e below (T2.setTop (mkF m 4 #[.val (.ref q1'), .val (.ref o), .unset] [(.int (0 : Int32))])) t → Steps p.tables e below (s₁.setTop (entryFrame m #[(.ref q1'), (.ref o)] 3)) t := fun t kt => k1 t (st2 t kt)
  have hc4_4 : (0 : Int32) = (0 : Int32) := rfl
  have k5 : ∀ t, Steps p.tables e below (T2.setTop (mkF m 42 #[.val (.ref q1'), .val (.ref o), .unset] [(.int (0 : Int32))])) t → Steps p.tables e below (s₁.setTop (entryFrame m #[(.ref q1'), (.ref o)] 3)) t := by
    intro t kt
    refine k3 t ?_
    show Steps p.tables e below (T2.setTop (mkF m 4 #[.val (.ref q1'), .val (.ref o), .unset] [(.int (0 : Int32))])) t
    refine XS.ifYes X2.here hx rfl (pc0 := 4) (pc' := 41) rfl (hb hby d17_4) rfl ((if0 _ _).trans (teq hc4_4).1) (by decide) (by decide) ?_
    show Steps p.tables e below (T2.setTop (mkF m 41 #[.val (.ref q1'), .val (.ref o), .unset] [])) t
    refine XS.iconst X2.here hx rfl (hb hby d17_41) ?_
    exact kt
  obtain ⟨fs, hr, hrun, hended, hW, hsame⟩ := X2.leave (v := some (.int (0 : Int32))) (fun h => by rw [Bd.returns] at h; cases h)
  refine ⟨_, _, k5 _ ?_, hrun, hended, _, _, rfl, ?_, ⟨_, rfl⟩, hW, hsame.mono (by decide) (by decide)⟩
  · show Steps p.tables e below (T2.setTop (mkF m 42 #[.val (.ref q1'), .val (.ref o), .unset] [(.int (0 : Int32))])) _
    exact retN X2 hx (t := .boolean) Bd.returns (by simp) (hb hby d17_42) hr
  · show QQS Z q1' o h0 n0 _ T2.heap _
    rw [e2]
    exact ⟨rfl, N0, rfl⟩
theorem own_m3 (x : Int32) : ((x &&& (2147483647 : Int32)) % (3 : Int32)) = (0 : Int32) ∨ ((x &&& (2147483647 : Int32)) % (3 : Int32)) = (1 : Int32) ∨ ((x &&& (2147483647 : Int32)) % (3 : Int32)) = (2 : Int32) := by
  have h := (c_and x 2147483647 (by decide)).1
  have e := (c_irem (x &&& 2147483647) 3 3 rfl).1 h
  simp only [← Int32.toInt_inj]
  have e0 : (0 : Int32).toInt = 0 := rfl
  have e1 : (1 : Int32).toInt = 1 := rfl
  have e2 : (2 : Int32).toInt = 2 := rfl
  omega
theorem own_c255 (x : Int32) : 0 ≤ ((x &&& (255 : Int32)).toUInt32.toUInt16.toUInt32.toInt32).toInt ∧ ((x &&& (255 : Int32)).toUInt32.toUInt16.toUInt32.toInt32).toInt ≤ 255 := by
  have h := own_and255 x
  rw [own_ch _ h.1 (by omega)]; exact h
theorem own_ite {P : Prop} [Decidable P] {Q : Int32 → Prop} {a b : Int32} (ha : Q a) (hb : Q b) : Q (if P then a else b) := by split <;> assumption
theorem own_n2 {n : Int32} (h : n = (0 : Int32) ∨ n = (1 : Int32) ∨ n = (2 : Int32)) : ¬ ((2 : Int32) < n) := by rcases h with rfl | rfl | rfl <;> decide
def own_sm (n1 n2 x1 x2 y1 y2 : Int32) : Int32 := if n1 = n2 then (if n1 < (1 : Int32) then (if n1 < (2 : Int32) then 1 else (if y1 = y2 then 1 else 0)) else (if x1 = x2 then (if n1 < (2 : Int32) then 1 else (if y1 = y2 then 1 else 0)) else 0)) else 0
def own_ex (i1 i2 sm : Int32) : Int32 := if i1 = i2 then (if sm = (0 : Int32) then 0 else 1) else 0
theorem own_b8 (c d : Int32) (h : 0 ≤ c.toInt ∧ c.toInt ≤ 255) (k : 0 ≤ d.toInt ∧ d.toInt ≤ 255) : (c.toInt8.toInt32 = d.toInt8.toInt32) = (c = d) := by
  have h1 := c_i2b c; have h2 := c_i2b d
  rw [← Int32.toInt_inj, ← Int32.toInt_inj]
  apply propext; constructor <;> intro q <;> omega
theorem own_ss (n1 n2 x1 y1 x2 y2 : Int32) (hn : n1 = (0 : Int32) ∨ n1 = (1 : Int32) ∨ n1 = (2 : Int32)) (a : 0 ≤ x1.toInt ∧ x1.toInt ≤ 255) (b : 0 ≤ y1.toInt ∧ y1.toInt ≤ 255) (c : 0 ≤ x2.toInt ∧ x2.toInt ≤ 255) (d : 0 ≤ y2.toInt ∧ y2.toInt ≤ 255) : own_se n1 n2 (x1.toInt8.toInt32) (y1.toInt8.toInt32) (x2.toInt8.toInt32) (y2.toInt8.toInt32) = own_sm n1 n2 x1 x2 y1 y2 := by
  unfold own_se own_sm
  simp only [own_b8 x1 x2 a c, own_b8 y1 y2 b d]
  by_cases hq : n1 = n2
  · subst hq
    rcases hn with rfl | rfl | rfl <;> simp
  · simp [hq]
theorem own_sym (n1 n2 x1 x2 y1 y2 : Int32) : own_sm n1 n2 x1 x2 y1 y2 = own_sm n2 n1 x2 x1 y2 y1 := by
  unfold own_sm
  by_cases hq : n1 = n2
  · subst hq
    by_cases hx : x1 = x2
    · subst hx
      by_cases hy : y1 = y2
      · subst hy; rfl
      · simp [hy, Ne.symm hy]
    · by_cases hy : y1 = y2
      · subst hy; simp [hx, Ne.symm hx]
      · simp [hx, Ne.symm hx, hy, Ne.symm hy]
  · simp [hq, Ne.symm hq]
theorem own_f1 (i1 i2 n1 n2 x1 y1 x2 y2 : Int32) (hn : n1 = (0 : Int32) ∨ n1 = (1 : Int32) ∨ n1 = (2 : Int32)) (a : 0 ≤ x1.toInt ∧ x1.toInt ≤ 255) (b : 0 ≤ y1.toInt ∧ y1.toInt ≤ 255) (c : 0 ≤ x2.toInt ∧ x2.toInt ≤ 255) (d : 0 ≤ y2.toInt ∧ y2.toInt ≤ 255) : own_tq i1 i2 (own_se n1 n2 (x1.toInt8.toInt32) (y1.toInt8.toInt32) (x2.toInt8.toInt32) (y2.toInt8.toInt32)) = own_ex i1 i2 (own_sm n1 n2 x1 x2 y1 y2) := by
  rw [own_ss n1 n2 x1 y1 x2 y2 hn a b c d]; rfl
theorem own_f2 (i1 i2 n1 n2 x1 y1 x2 y2 : Int32) (hn : n2 = (0 : Int32) ∨ n2 = (1 : Int32) ∨ n2 = (2 : Int32)) (a : 0 ≤ x1.toInt ∧ x1.toInt ≤ 255) (b : 0 ≤ y1.toInt ∧ y1.toInt ≤ 255) (c : 0 ≤ x2.toInt ∧ x2.toInt ≤ 255) (d : 0 ≤ y2.toInt ∧ y2.toInt ≤ 255) : own_tq i2 i1 (own_se n2 n1 (x2.toInt8.toInt32) (y2.toInt8.toInt32) (x1.toInt8.toInt32) (y1.toInt8.toInt32)) = own_ex i1 i2 (own_sm n1 n2 x1 x2 y1 y2) := by
  rw [own_ss n2 n1 x2 y2 x1 y1 hn c d a b, own_sym n1 n2]
  unfold own_tq own_ex
  by_cases hi : i1 = i2
  · subst hi; rfl
  · rw [if_neg hi, if_neg (Ne.symm hi)]
theorem own_f3 (i n x y : Int32) : ¬ own_tq i i (own_se n n x y x y) = (0 : Int32) := by
  have e : own_se n n x y x y = 1 := by
    unfold own_se; rw [if_pos rfl]
    split
    · rw [if_pos rfl]
      split
      · rw [if_pos rfl]
      · rfl
    · rfl
  unfold own_tq; rw [if_pos rfl, e]; decide
theorem rm0_ef (m : MethodId) (x0 : Int32) (x1 : Int32) (x2 : Int32) (x3 : Int32) (x4 : Int32) : entryFrame m #[(.int x0), (.int x1), (.int x2), (.int x3), (.int x4)] maxLocals = mkF m 0 #[.val (.int x0), .val (.int x1), .val (.int x2), .val (.int x3), .val (.int x4), .unset, .unset, .unset, .unset, .unset, .unset, .unset, .unset, .unset, .unset, .unset, .unset, .unset, .unset, .unset, .unset, .unset, .unset] [] := by first | (simp [entryFrame, mkF, argsToLocals, Value.category, maxLocals]; done) | rfl
def Q0 (Z : State) (p1 : Int32) (p2 : Int32) (p3 : Int32) (p4 : Int32) (p5 : Int32) (aU : Addr) (cs : Int32) (h0 : Heap) (n0 : Nat) (v : Option Value) (h : Heap) (L : List Loc) : Prop := v = some (.int 1) ∧ Fr n0 L
theorem own_pd19 : parseMethodDescriptor "(ICC)Ljava/lang/String;" = some ⟨[.int, .char, .char], some (.object "java/lang/String")⟩ := by decide +kernel
theorem own_pd20 : parseMethodDescriptor "(Ljava/lang/String;I)V" = some ⟨[(.object "java/lang/String"), .int], none⟩ := by decide +kernel
set_option maxRecDepth 65536 in
set_option maxHeartbeats 40000000 in
theorem rm0 (l : Launch) (Z : State) (a0 : Array Value) (hw : ∀ d ∈ tables_1, d.before a0 Z = true) (ws : List Jvm.Cond) (p1 : Int32) (p2 : Int32) (p3 : Int32) (p4 : Int32) (p5 : Int32) (aU : Addr) (cs : Int32) (h0 : Heap) (n0 : Nat) (Z0 : n0 ≤ h0.size) (O0 : Old Z n0 h0) (RC : Sta Z Z.heap "java/lang/String" "COMPACT_STRINGS" "Z" (.int cs)) (hcs : ¬ (cs = (0 : Int32))) (RU : Sta Z Z.heap "sun/nio/cs/UTF_8" "INSTANCE" "Lsun/nio/cs/UTF_8;" (.ref aU)) (RS : Sta Z Z.heap "java/nio/charset/StandardCharsets" "UTF_8" "Ljava/nio/charset/Charset;" (.ref aU)) :
    MetFree l x (head1 (Jvm.Cond.code x code maxLocals ret :: ws) room_1) (fun aA' U => aA' = #[(.int p1), (.int p2), (.int p3), (.int p4), (.int p5)] ∧ Z.Warmed39 U.vm ∧ U.heap = h0 ∧ CHv Z own_EL U.vm h0 ∧ ∀ xX' ∈ ([] : List Addr), Safe Z own_EL U.vm h0 xX') (fun _ _ _ _ _ => True) (fun _ U oO' U' => ∃ vV' L, oO' = .returned vV' ∧ Q0 Z p1 p2 p3 p4 p5 aU cs h0 n0 vV' U'.heap L ∧ CHr Z own_EL U.vm U.heap U'.vm U'.heap ∧ ReturnedEndW U oO' U' L 40 2240) := by
  refine MetFree.of_bodySF (plainFor_of_name own_pn2) hisR ?_
  intro p e s m args below meth c s₁ Bd hml0 hP hK
  obtain ⟨rfl, hZ, hh, hC0, hSf⟩ := hP
  have hx := Bd.exec
  have hby := Bd.bytes
  have hml : c.maxLocals = 23 := hml0
  have hown : s.vm.findClass "com/example/disk_to_queue/disktoqueue/store/TopicQueueEqualsPinLaw" = some m.cls := findClass_of_methodNamed Bd.named
  have hnm := (name_of_methodNamed Bd.named Bd.method).1
  have X0 : Stand p l e room_1 (s.setVm s.vm) m #[(.int p1), (.int p2), (.int p3), (.int p4), (.int p5)] below meth c s₁ [] 0 0 := Stand.of_body Bd
  have e0 : s₁.heap = h0 := by rw [← hh, Bd.state]; rfl
  have N0 := Fr.nil n0
  have K0 : Keep h0 h0 [] := Keep.refl _ _
  have k0 : ∀ t, Steps p.tables e below (s₁.setTop (mkF m 0 #[.val (.int p1), .val (.int p2), .val (.int p3), .val (.int p4), .val (.int p5), .unset, .unset, .unset, .unset, .unset, .unset, .unset, .unset, .unset, .unset, .unset, .unset, .unset, .unset, .unset, .unset, .unset, .unset] [])) t → Steps p.tables e below (s₁.setTop (entryFrame m #[(.int p1), (.int p2), (.int p3), (.int p4), (.int p5)] maxLocals)) t := fun t k => castTop (rm0_ef m (p1) (p2) (p3) (p4) (p5)) k
  have C0 : CHr Z own_EL s.vm h0 s.vm h0 := CHr.refl hC0
  have hS0 : s.Since s.vm 0 := (State.WarmedH.refl s).since 0
  have hk0 : 0 ≤ h0.size := Nat.zero_le _
  have hEL := own_EW hw
  have k1 : ∀ t, Steps p.tables e below (s₁.setTop (mkF m 30 #[.val (.int p1), .val (.int p2), .val (.int p3), .val (.int p4), .val (.int p5), .val (.int ((p3 &&& (2147483647 : Int32)) % (3 : Int32))), .val (.int ((((p3.toUInt32 >>> ((8 : Int32) &&& 31).toUInt32).toInt32) &&& (255 : Int32)).toUInt32.toUInt16.toUInt32.toInt32)), .val (.int ((((p3.toUInt32 >>> ((16 : Int32) &&& 31).toUInt32).toInt32) &&& (255 : Int32)).toUInt32.toUInt16.toUInt32.toInt32)), .unset, .unset, .unset, .unset, .unset, .unset, .unset, .unset, .unset, .unset, .unset, .unset, .unset, .unset, .unset] [])) t → Steps p.tables e below (s₁.setTop (entryFrame m #[(.int p1), (.int p2), (.int p3), (.int p4), (.int p5)] maxLocals)) t := by
    intro t kt
    refine k0 t ?_
    show Steps p.tables e below (s₁.setTop (mkF m 0 #[.val (.int p1), .val (.int p2), .val (.int p3), .val (.int p4), .val (.int p5), .unset, .unset, .unset, .unset, .unset, .unset, .unset, .unset, .unset, .unset, .unset, .unset, .unset, .unset, .unset, .unset, .unset, .unset] [])) t
    refine XS.iloadN X0.here hx rfl (hb hby at_0) rfl ?_
    show Steps p.tables e below (s₁.setTop (mkF m 1 #[.val (.int p1), .val (.int p2), .val (.int p3), .val (.int p4), .val (.int p5), .unset, .unset, .unset, .unset, .unset, .unset, .unset, .unset, .unset, .unset, .unset, .unset, .unset, .unset, .unset, .unset, .unset, .unset] [(.int p3)])) t
    refine X0.ldcInt hx hown (mvT hZ (hw _ (List.mem_of_getElem? (i := 0) rfl))) (g := (mkF m 1 #[.val (.int p1), .val (.int p2), .val (.int p3), .val (.int p4), .val (.int p5), .unset, .unset, .unset, .unset, .unset, .unset, .unset, .unset, .unset, .unset, .unset, .unset, .unset, .unset, .unset, .unset, .unset, .unset] [(.int p3)])) rfl (hb hby at_1) _ ?_
    show Steps p.tables e below (s₁.setTop (mkF m 3 #[.val (.int p1), .val (.int p2), .val (.int p3), .val (.int p4), .val (.int p5), .unset, .unset, .unset, .unset, .unset, .unset, .unset, .unset, .unset, .unset, .unset, .unset, .unset, .unset, .unset, .unset, .unset, .unset] [(.int (2147483647 : Int32)), (.int p3)])) t
    refine XS.iand X0.here hx rfl (hb hby at_3) rfl ?_
    show Steps p.tables e below (s₁.setTop (mkF m 4 #[.val (.int p1), .val (.int p2), .val (.int p3), .val (.int p4), .val (.int p5), .unset, .unset, .unset, .unset, .unset, .unset, .unset, .unset, .unset, .unset, .unset, .unset, .unset, .unset, .unset, .unset, .unset, .unset] [(.int (p3 &&& (2147483647 : Int32)))])) t
    refine XS.iconst X0.here hx rfl (hb hby at_4) ?_
    show Steps p.tables e below (s₁.setTop (mkF m 5 #[.val (.int p1), .val (.int p2), .val (.int p3), .val (.int p4), .val (.int p5), .unset, .unset, .unset, .unset, .unset, .unset, .unset, .unset, .unset, .unset, .unset, .unset, .unset, .unset, .unset, .unset, .unset, .unset] [(.int (3 : Int32)), (.int (p3 &&& (2147483647 : Int32)))])) t
    refine iremM X0 hx rfl (hb hby at_5) rfl (by decide) ?_
    show Steps p.tables e below (s₁.setTop (mkF m 6 #[.val (.int p1), .val (.int p2), .val (.int p3), .val (.int p4), .val (.int p5), .unset, .unset, .unset, .unset, .unset, .unset, .unset, .unset, .unset, .unset, .unset, .unset, .unset, .unset, .unset, .unset, .unset, .unset] [(.int ((p3 &&& (2147483647 : Int32)) % (3 : Int32)))])) t
    refine XS.istore X0.here hx rfl (hb hby at_6) rfl (l' := #[.val (.int p1), .val (.int p2), .val (.int p3), .val (.int p4), .val (.int p5), .val (.int ((p3 &&& (2147483647 : Int32)) % (3 : Int32))), .unset, .unset, .unset, .unset, .unset, .unset, .unset, .unset, .unset, .unset, .unset, .unset, .unset, .unset, .unset, .unset, .unset]) rfl ?_
    show Steps p.tables e below (s₁.setTop (mkF m 8 #[.val (.int p1), .val (.int p2), .val (.int p3), .val (.int p4), .val (.int p5), .val (.int ((p3 &&& (2147483647 : Int32)) % (3 : Int32))), .unset, .unset, .unset, .unset, .unset, .unset, .unset, .unset, .unset, .unset, .unset, .unset, .unset, .unset, .unset, .unset, .unset] [])) t
    refine XS.iloadN X0.here hx rfl (hb hby at_8) rfl ?_
    show Steps p.tables e below (s₁.setTop (mkF m 9 #[.val (.int p1), .val (.int p2), .val (.int p3), .val (.int p4), .val (.int p5), .val (.int ((p3 &&& (2147483647 : Int32)) % (3 : Int32))), .unset, .unset, .unset, .unset, .unset, .unset, .unset, .unset, .unset, .unset, .unset, .unset, .unset, .unset, .unset, .unset, .unset] [(.int p3)])) t
    refine XS.bipush X0.here hx rfl (hb hby at_9) ?_
    show Steps p.tables e below (s₁.setTop (mkF m 11 #[.val (.int p1), .val (.int p2), .val (.int p3), .val (.int p4), .val (.int p5), .val (.int ((p3 &&& (2147483647 : Int32)) % (3 : Int32))), .unset, .unset, .unset, .unset, .unset, .unset, .unset, .unset, .unset, .unset, .unset, .unset, .unset, .unset, .unset, .unset, .unset] [(.int (8 : Int32)), (.int p3)])) t
    refine XS.iushr X0.here hx rfl (hb hby at_11) rfl ?_
    show Steps p.tables e below (s₁.setTop (mkF m 12 #[.val (.int p1), .val (.int p2), .val (.int p3), .val (.int p4), .val (.int p5), .val (.int ((p3 &&& (2147483647 : Int32)) % (3 : Int32))), .unset, .unset, .unset, .unset, .unset, .unset, .unset, .unset, .unset, .unset, .unset, .unset, .unset, .unset, .unset, .unset, .unset] [(.int ((p3.toUInt32 >>> ((8 : Int32) &&& 31).toUInt32).toInt32))])) t
    refine XS.sipush X0.here hx rfl (hb hby at_12) ?_
    show Steps p.tables e below (s₁.setTop (mkF m 15 #[.val (.int p1), .val (.int p2), .val (.int p3), .val (.int p4), .val (.int p5), .val (.int ((p3 &&& (2147483647 : Int32)) % (3 : Int32))), .unset, .unset, .unset, .unset, .unset, .unset, .unset, .unset, .unset, .unset, .unset, .unset, .unset, .unset, .unset, .unset, .unset] [(.int (255 : Int32)), (.int ((p3.toUInt32 >>> ((8 : Int32) &&& 31).toUInt32).toInt32))])) t
    refine XS.iand X0.here hx rfl (hb hby at_15) rfl ?_
    show Steps p.tables e below (s₁.setTop (mkF m 16 #[.val (.int p1), .val (.int p2), .val (.int p3), .val (.int p4), .val (.int p5), .val (.int ((p3 &&& (2147483647 : Int32)) % (3 : Int32))), .unset, .unset, .unset, .unset, .unset, .unset, .unset, .unset, .unset, .unset, .unset, .unset, .unset, .unset, .unset, .unset, .unset] [(.int (((p3.toUInt32 >>> ((8 : Int32) &&& 31).toUInt32).toInt32) &&& (255 : Int32)))])) t
    refine XS.i2c X0.here hx rfl (hb hby at_16) rfl ?_
    show Steps p.tables e below (s₁.setTop (mkF m 17 #[.val (.int p1), .val (.int p2), .val (.int p3), .val (.int p4), .val (.int p5), .val (.int ((p3 &&& (2147483647 : Int32)) % (3 : Int32))), .unset, .unset, .unset, .unset, .unset, .unset, .unset, .unset, .unset, .unset, .unset, .unset, .unset, .unset, .unset, .unset, .unset] [(.int ((((p3.toUInt32 >>> ((8 : Int32) &&& 31).toUInt32).toInt32) &&& (255 : Int32)).toUInt32.toUInt16.toUInt32.toInt32))])) t
    refine XS.istore X0.here hx rfl (hb hby at_17) rfl (l' := #[.val (.int p1), .val (.int p2), .val (.int p3), .val (.int p4), .val (.int p5), .val (.int ((p3 &&& (2147483647 : Int32)) % (3 : Int32))), .val (.int ((((p3.toUInt32 >>> ((8 : Int32) &&& 31).toUInt32).toInt32) &&& (255 : Int32)).toUInt32.toUInt16.toUInt32.toInt32)), .unset, .unset, .unset, .unset, .unset, .unset, .unset, .unset, .unset, .unset, .unset, .unset, .unset, .unset, .unset, .unset]) rfl ?_
    show Steps p.tables e below (s₁.setTop (mkF m 19 #[.val (.int p1), .val (.int p2), .val (.int p3), .val (.int p4), .val (.int p5), .val (.int ((p3 &&& (2147483647 : Int32)) % (3 : Int32))), .val (.int ((((p3.toUInt32 >>> ((8 : Int32) &&& 31).toUInt32).toInt32) &&& (255 : Int32)).toUInt32.toUInt16.toUInt32.toInt32)), .unset, .unset, .unset, .unset, .unset, .unset, .unset, .unset, .unset, .unset, .unset, .unset, .unset, .unset, .unset, .unset] [])) t
    refine XS.iloadN X0.here hx rfl (hb hby at_19) rfl ?_
    show Steps p.tables e below (s₁.setTop (mkF m 20 #[.val (.int p1), .val (.int p2), .val (.int p3), .val (.int p4), .val (.int p5), .val (.int ((p3 &&& (2147483647 : Int32)) % (3 : Int32))), .val (.int ((((p3.toUInt32 >>> ((8 : Int32) &&& 31).toUInt32).toInt32) &&& (255 : Int32)).toUInt32.toUInt16.toUInt32.toInt32)), .unset, .unset, .unset, .unset, .unset, .unset, .unset, .unset, .unset, .unset, .unset, .unset, .unset, .unset, .unset, .unset] [(.int p3)])) t
    refine XS.bipush X0.here hx rfl (hb hby at_20) ?_
    show Steps p.tables e below (s₁.setTop (mkF m 22 #[.val (.int p1), .val (.int p2), .val (.int p3), .val (.int p4), .val (.int p5), .val (.int ((p3 &&& (2147483647 : Int32)) % (3 : Int32))), .val (.int ((((p3.toUInt32 >>> ((8 : Int32) &&& 31).toUInt32).toInt32) &&& (255 : Int32)).toUInt32.toUInt16.toUInt32.toInt32)), .unset, .unset, .unset, .unset, .unset, .unset, .unset, .unset, .unset, .unset, .unset, .unset, .unset, .unset, .unset, .unset] [(.int (16 : Int32)), (.int p3)])) t
    refine XS.iushr X0.here hx rfl (hb hby at_22) rfl ?_
    show Steps p.tables e below (s₁.setTop (mkF m 23 #[.val (.int p1), .val (.int p2), .val (.int p3), .val (.int p4), .val (.int p5), .val (.int ((p3 &&& (2147483647 : Int32)) % (3 : Int32))), .val (.int ((((p3.toUInt32 >>> ((8 : Int32) &&& 31).toUInt32).toInt32) &&& (255 : Int32)).toUInt32.toUInt16.toUInt32.toInt32)), .unset, .unset, .unset, .unset, .unset, .unset, .unset, .unset, .unset, .unset, .unset, .unset, .unset, .unset, .unset, .unset] [(.int ((p3.toUInt32 >>> ((16 : Int32) &&& 31).toUInt32).toInt32))])) t
    refine XS.sipush X0.here hx rfl (hb hby at_23) ?_
    show Steps p.tables e below (s₁.setTop (mkF m 26 #[.val (.int p1), .val (.int p2), .val (.int p3), .val (.int p4), .val (.int p5), .val (.int ((p3 &&& (2147483647 : Int32)) % (3 : Int32))), .val (.int ((((p3.toUInt32 >>> ((8 : Int32) &&& 31).toUInt32).toInt32) &&& (255 : Int32)).toUInt32.toUInt16.toUInt32.toInt32)), .unset, .unset, .unset, .unset, .unset, .unset, .unset, .unset, .unset, .unset, .unset, .unset, .unset, .unset, .unset, .unset] [(.int (255 : Int32)), (.int ((p3.toUInt32 >>> ((16 : Int32) &&& 31).toUInt32).toInt32))])) t
    refine XS.iand X0.here hx rfl (hb hby at_26) rfl ?_
    show Steps p.tables e below (s₁.setTop (mkF m 27 #[.val (.int p1), .val (.int p2), .val (.int p3), .val (.int p4), .val (.int p5), .val (.int ((p3 &&& (2147483647 : Int32)) % (3 : Int32))), .val (.int ((((p3.toUInt32 >>> ((8 : Int32) &&& 31).toUInt32).toInt32) &&& (255 : Int32)).toUInt32.toUInt16.toUInt32.toInt32)), .unset, .unset, .unset, .unset, .unset, .unset, .unset, .unset, .unset, .unset, .unset, .unset, .unset, .unset, .unset, .unset] [(.int (((p3.toUInt32 >>> ((16 : Int32) &&& 31).toUInt32).toInt32) &&& (255 : Int32)))])) t
    refine XS.i2c X0.here hx rfl (hb hby at_27) rfl ?_
    show Steps p.tables e below (s₁.setTop (mkF m 28 #[.val (.int p1), .val (.int p2), .val (.int p3), .val (.int p4), .val (.int p5), .val (.int ((p3 &&& (2147483647 : Int32)) % (3 : Int32))), .val (.int ((((p3.toUInt32 >>> ((8 : Int32) &&& 31).toUInt32).toInt32) &&& (255 : Int32)).toUInt32.toUInt16.toUInt32.toInt32)), .unset, .unset, .unset, .unset, .unset, .unset, .unset, .unset, .unset, .unset, .unset, .unset, .unset, .unset, .unset, .unset] [(.int ((((p3.toUInt32 >>> ((16 : Int32) &&& 31).toUInt32).toInt32) &&& (255 : Int32)).toUInt32.toUInt16.toUInt32.toInt32))])) t
    refine XS.istore X0.here hx rfl (hb hby at_28) rfl (l' := #[.val (.int p1), .val (.int p2), .val (.int p3), .val (.int p4), .val (.int p5), .val (.int ((p3 &&& (2147483647 : Int32)) % (3 : Int32))), .val (.int ((((p3.toUInt32 >>> ((8 : Int32) &&& 31).toUInt32).toInt32) &&& (255 : Int32)).toUInt32.toUInt16.toUInt32.toInt32)), .val (.int ((((p3.toUInt32 >>> ((16 : Int32) &&& 31).toUInt32).toInt32) &&& (255 : Int32)).toUInt32.toUInt16.toUInt32.toInt32)), .unset, .unset, .unset, .unset, .unset, .unset, .unset, .unset, .unset, .unset, .unset, .unset, .unset, .unset, .unset]) rfl ?_
    exact kt
  obtain ⟨L1, dL1⟩ : ∃ z, z = ((p3 &&& (2147483647 : Int32)) % (3 : Int32)) := ⟨_, rfl⟩
  have hL1 : L1 = (0 : Int32) ∨ L1 = (1 : Int32) ∨ L1 = (2 : Int32) := by rw [dL1]; exact own_m3 _
  have k2 : ∀ t, Steps p.tables e below (s₁.setTop (mkF m 30 #[.val (.int p1), .val (.int p2), .val (.int p3), .val (.int p4), .val (.int p5), .val (.int L1), .val (.int ((((p3.toUInt32 >>> ((8 : Int32) &&& 31).toUInt32).toInt32) &&& (255 : Int32)).toUInt32.toUInt16.toUInt32.toInt32)), .val (.int ((((p3.toUInt32 >>> ((16 : Int32) &&& 31).toUInt32).toInt32) &&& (255 : Int32)).toUInt32.toUInt16.toUInt32.toInt32)), .unset, .unset, .unset, .unset, .unset, .unset, .unset, .unset, .unset, .unset, .unset, .unset, .unset, .unset, .unset] [])) t → Steps p.tables e below (s₁.setTop (entryFrame m #[(.int p1), (.int p2), (.int p3), (.int p4), (.int p5)] maxLocals)) t := by rw [dL1]; exact k1
  obtain ⟨X1, dX1⟩ : ∃ z, z = ((((p3.toUInt32 >>> ((8 : Int32) &&& 31).toUInt32).toInt32) &&& (255 : Int32)).toUInt32.toUInt16.toUInt32.toInt32) := ⟨_, rfl⟩
  have hX1 : 0 ≤ X1.toInt ∧ X1.toInt ≤ 255 := by rw [dX1]; exact own_c255 _
  have k3 : ∀ t, Steps p.tables e below (s₁.setTop (mkF m 30 #[.val (.int p1), .val (.int p2), .val (.int p3), .val (.int p4), .val (.int p5), .val (.int L1), .val (.int X1), .val (.int ((((p3.toUInt32 >>> ((16 : Int32) &&& 31).toUInt32).toInt32) &&& (255 : Int32)).toUInt32.toUInt16.toUInt32.toInt32)), .unset, .unset, .unset, .unset, .unset, .unset, .unset, .unset, .unset, .unset, .unset, .unset, .unset, .unset, .unset] [])) t → Steps p.tables e below (s₁.setTop (entryFrame m #[(.int p1), (.int p2), (.int p3), (.int p4), (.int p5)] maxLocals)) t := by rw [dX1]; exact k2
  obtain ⟨Y1, dY1⟩ : ∃ z, z = ((((p3.toUInt32 >>> ((16 : Int32) &&& 31).toUInt32).toInt32) &&& (255 : Int32)).toUInt32.toUInt16.toUInt32.toInt32) := ⟨_, rfl⟩
  have hY1 : 0 ≤ Y1.toInt ∧ Y1.toInt ≤ 255 := by rw [dY1]; exact own_c255 _
  have k4 : ∀ t, Steps p.tables e below (s₁.setTop (mkF m 30 #[.val (.int p1), .val (.int p2), .val (.int p3), .val (.int p4), .val (.int p5), .val (.int L1), .val (.int X1), .val (.int Y1), .unset, .unset, .unset, .unset, .unset, .unset, .unset, .unset, .unset, .unset, .unset, .unset, .unset, .unset, .unset] [])) t → Steps p.tables e below (s₁.setTop (entryFrame m #[(.int p1), (.int p2), (.int p3), (.int p4), (.int p5)] maxLocals)) t := by rw [dY1]; exact k3
  have k5 : ∀ t, Steps p.tables e below (s₁.setTop (mkF m 34 #[.val (.int p1), .val (.int p2), .val (.int p3), .val (.int p4), .val (.int p5), .val (.int L1), .val (.int X1), .val (.int Y1), .unset, .unset, .unset, .unset, .unset, .unset, .unset, .unset, .unset, .unset, .unset, .unset, .unset, .unset, .unset] [(.int (p5 &&& (1 : Int32)))])) t → Steps p.tables e below (s₁.setTop (entryFrame m #[(.int p1), (.int p2), (.int p3), (.int p4), (.int p5)] maxLocals)) t := by
    intro t kt
    refine k4 t ?_
    show Steps p.tables e below (s₁.setTop (mkF m 30 #[.val (.int p1), .val (.int p2), .val (.int p3), .val (.int p4), .val (.int p5), .val (.int L1), .val (.int X1), .val (.int Y1), .unset, .unset, .unset, .unset, .unset, .unset, .unset, .unset, .unset, .unset, .unset, .unset, .unset, .unset, .unset] [])) t
    refine XS.iload X0.here hx rfl (hb hby at_30) rfl ?_
    show Steps p.tables e below (s₁.setTop (mkF m 32 #[.val (.int p1), .val (.int p2), .val (.int p3), .val (.int p4), .val (.int p5), .val (.int L1), .val (.int X1), .val (.int Y1), .unset, .unset, .unset, .unset, .unset, .unset, .unset, .unset, .unset, .unset, .unset, .unset, .unset, .unset, .unset] [(.int p5)])) t
    refine XS.iconst X0.here hx rfl (hb hby at_32) ?_
    show Steps p.tables e below (s₁.setTop (mkF m 33 #[.val (.int p1), .val (.int p2), .val (.int p3), .val (.int p4), .val (.int p5), .val (.int L1), .val (.int X1), .val (.int Y1), .unset, .unset, .unset, .unset, .unset, .unset, .unset, .unset, .unset, .unset, .unset, .unset, .unset, .unset, .unset] [(.int (1 : Int32)), (.int p5)])) t
    refine XS.iand X0.here hx rfl (hb hby at_33) rfl ?_
    exact kt
  have k6 : ∀ t, Steps p.tables e below (s₁.setTop (mkF m 48 #[.val (.int p1), .val (.int p2), .val (.int p3), .val (.int p4), .val (.int p5), .val (.int L1), .val (.int X1), .val (.int Y1), .unset, .unset, .unset, .unset, .unset, .unset, .unset, .unset, .unset, .unset, .unset, .unset, .unset, .unset, .unset] [(.int (if (p5 &&& (1 : Int32)) = (0 : Int32) then ((p4 &&& (2147483647 : Int32)) % (3 : Int32)) else L1))])) t → Steps p.tables e below (s₁.setTop (entryFrame m #[(.int p1), (.int p2), (.int p3), (.int p4), (.int p5)] maxLocals)) t := by
    intro t kt
    by_cases hc34_7 : (p5 &&& (1 : Int32)) = (0 : Int32)
    · have k8 : ∀ t, Steps p.tables e below (s₁.setTop (mkF m 48 #[.val (.int p1), .val (.int p2), .val (.int p3), .val (.int p4), .val (.int p5), .val (.int L1), .val (.int X1), .val (.int Y1), .unset, .unset, .unset, .unset, .unset, .unset, .unset, .unset, .unset, .unset, .unset, .unset, .unset, .unset, .unset] [(.int ((p4 &&& (2147483647 : Int32)) % (3 : Int32)))])) t → Steps p.tables e below (s₁.setTop (entryFrame m #[(.int p1), (.int p2), (.int p3), (.int p4), (.int p5)] maxLocals)) t := by
        intro t kt
        refine k5 t ?_
        show Steps p.tables e below (s₁.setTop (mkF m 34 #[.val (.int p1), .val (.int p2), .val (.int p3), .val (.int p4), .val (.int p5), .val (.int L1), .val (.int X1), .val (.int Y1), .unset, .unset, .unset, .unset, .unset, .unset, .unset, .unset, .unset, .unset, .unset, .unset, .unset, .unset, .unset] [(.int (p5 &&& (1 : Int32)))])) t
        refine XS.ifYes X0.here hx rfl (pc0 := 34) (pc' := 42) rfl (hb hby at_34) rfl ((if0 _ _).trans (teq hc34_7).1) (by decide) (by decide) ?_
        show Steps p.tables e below (s₁.setTop (mkF m 42 #[.val (.int p1), .val (.int p2), .val (.int p3), .val (.int p4), .val (.int p5), .val (.int L1), .val (.int X1), .val (.int Y1), .unset, .unset, .unset, .unset, .unset, .unset, .unset, .unset, .unset, .unset, .unset, .unset, .unset, .unset, .unset] [])) t
        refine XS.iloadN X0.here hx rfl (hb hby at_42) rfl ?_
        show Steps p.tables e below (s₁.setTop (mkF m 43 #[.val (.int p1), .val (.int p2), .val (.int p3), .val (.int p4), .val (.int p5), .val (.int L1), .val (.int X1), .val (.int Y1), .unset, .unset, .unset, .unset, .unset, .unset, .unset, .unset, .unset, .unset, .unset, .unset, .unset, .unset, .unset] [(.int p4)])) t
        refine X0.ldcInt hx hown (mvT hZ (hw _ (List.mem_of_getElem? (i := 0) rfl))) (g := (mkF m 43 #[.val (.int p1), .val (.int p2), .val (.int p3), .val (.int p4), .val (.int p5), .val (.int L1), .val (.int X1), .val (.int Y1), .unset, .unset, .unset, .unset, .unset, .unset, .unset, .unset, .unset, .unset, .unset, .unset, .unset, .unset, .unset] [(.int p4)])) rfl (hb hby at_43) _ ?_
        show Steps p.tables e below (s₁.setTop (mkF m 45 #[.val (.int p1), .val (.int p2), .val (.int p3), .val (.int p4), .val (.int p5), .val (.int L1), .val (.int X1), .val (.int Y1), .unset, .unset, .unset, .unset, .unset, .unset, .unset, .unset, .unset, .unset, .unset, .unset, .unset, .unset, .unset] [(.int (2147483647 : Int32)), (.int p4)])) t
        refine XS.iand X0.here hx rfl (hb hby at_45) rfl ?_
        show Steps p.tables e below (s₁.setTop (mkF m 46 #[.val (.int p1), .val (.int p2), .val (.int p3), .val (.int p4), .val (.int p5), .val (.int L1), .val (.int X1), .val (.int Y1), .unset, .unset, .unset, .unset, .unset, .unset, .unset, .unset, .unset, .unset, .unset, .unset, .unset, .unset, .unset] [(.int (p4 &&& (2147483647 : Int32)))])) t
        refine XS.iconst X0.here hx rfl (hb hby at_46) ?_
        show Steps p.tables e below (s₁.setTop (mkF m 47 #[.val (.int p1), .val (.int p2), .val (.int p3), .val (.int p4), .val (.int p5), .val (.int L1), .val (.int X1), .val (.int Y1), .unset, .unset, .unset, .unset, .unset, .unset, .unset, .unset, .unset, .unset, .unset, .unset, .unset, .unset, .unset] [(.int (3 : Int32)), (.int (p4 &&& (2147483647 : Int32)))])) t
        refine iremM X0 hx rfl (hb hby at_47) rfl (by decide) ?_
        exact kt
      rw [show ((if (p5 &&& (1 : Int32)) = (0 : Int32) then ((p4 &&& (2147483647 : Int32)) % (3 : Int32)) else L1)) = ((p4 &&& (2147483647 : Int32)) % (3 : Int32)) from by first | exact if_pos hc34_7 | exact if_neg hc34_7 | (simp only [hc34_7, if_true, if_false]; done) | simp [hc34_7]] at kt
      exact k8 t kt
    · have k9 : ∀ t, Steps p.tables e below (s₁.setTop (mkF m 48 #[.val (.int p1), .val (.int p2), .val (.int p3), .val (.int p4), .val (.int p5), .val (.int L1), .val (.int X1), .val (.int Y1), .unset, .unset, .unset, .unset, .unset, .unset, .unset, .unset, .unset, .unset, .unset, .unset, .unset, .unset, .unset] [(.int L1)])) t → Steps p.tables e below (s₁.setTop (entryFrame m #[(.int p1), (.int p2), (.int p3), (.int p4), (.int p5)] maxLocals)) t := by
        intro t kt
        refine k5 t ?_
        show Steps p.tables e below (s₁.setTop (mkF m 34 #[.val (.int p1), .val (.int p2), .val (.int p3), .val (.int p4), .val (.int p5), .val (.int L1), .val (.int X1), .val (.int Y1), .unset, .unset, .unset, .unset, .unset, .unset, .unset, .unset, .unset, .unset, .unset, .unset, .unset, .unset, .unset] [(.int (p5 &&& (1 : Int32)))])) t
        refine XS.ifNo X0.here hx rfl (hb hby at_34) rfl ((if0 _ _).trans (feq hc34_7).1) ?_
        show Steps p.tables e below (s₁.setTop (mkF m 37 #[.val (.int p1), .val (.int p2), .val (.int p3), .val (.int p4), .val (.int p5), .val (.int L1), .val (.int X1), .val (.int Y1), .unset, .unset, .unset, .unset, .unset, .unset, .unset, .unset, .unset, .unset, .unset, .unset, .unset, .unset, .unset] [])) t
        refine XS.iload X0.here hx rfl (hb hby at_37) rfl ?_
        show Steps p.tables e below (s₁.setTop (mkF m 39 #[.val (.int p1), .val (.int p2), .val (.int p3), .val (.int p4), .val (.int p5), .val (.int L1), .val (.int X1), .val (.int Y1), .unset, .unset, .unset, .unset, .unset, .unset, .unset, .unset, .unset, .unset, .unset, .unset, .unset, .unset, .unset] [(.int L1)])) t
        refine XS.goto X0.here hx rfl (pc0 := 39) (pc' := 48) rfl (hb hby at_39) (by decide) (by decide) ?_
        exact kt
      rw [show ((if (p5 &&& (1 : Int32)) = (0 : Int32) then ((p4 &&& (2147483647 : Int32)) % (3 : Int32)) else L1)) = L1 from by first | exact if_pos hc34_7 | exact if_neg hc34_7 | (simp only [hc34_7, if_true, if_false]; done) | simp [hc34_7]] at kt
      exact k9 t kt
  have k10 : ∀ t, Steps p.tables e below (s₁.setTop (mkF m 54 #[.val (.int p1), .val (.int p2), .val (.int p3), .val (.int p4), .val (.int p5), .val (.int L1), .val (.int X1), .val (.int Y1), .val (.int (if (p5 &&& (1 : Int32)) = (0 : Int32) then ((p4 &&& (2147483647 : Int32)) % (3 : Int32)) else L1)), .unset, .unset, .unset, .unset, .unset, .unset, .unset, .unset, .unset, .unset, .unset, .unset, .unset, .unset] [(.int (p5 &&& (2 : Int32)))])) t → Steps p.tables e below (s₁.setTop (entryFrame m #[(.int p1), (.int p2), (.int p3), (.int p4), (.int p5)] maxLocals)) t := by
    intro t kt
    refine k6 t ?_
    show Steps p.tables e below (s₁.setTop (mkF m 48 #[.val (.int p1), .val (.int p2), .val (.int p3), .val (.int p4), .val (.int p5), .val (.int L1), .val (.int X1), .val (.int Y1), .unset, .unset, .unset, .unset, .unset, .unset, .unset, .unset, .unset, .unset, .unset, .unset, .unset, .unset, .unset] [(.int (if (p5 &&& (1 : Int32)) = (0 : Int32) then ((p4 &&& (2147483647 : Int32)) % (3 : Int32)) else L1))])) t
    refine XS.istore X0.here hx rfl (hb hby at_48) rfl (l' := #[.val (.int p1), .val (.int p2), .val (.int p3), .val (.int p4), .val (.int p5), .val (.int L1), .val (.int X1), .val (.int Y1), .val (.int (if (p5 &&& (1 : Int32)) = (0 : Int32) then ((p4 &&& (2147483647 : Int32)) % (3 : Int32)) else L1)), .unset, .unset, .unset, .unset, .unset, .unset, .unset, .unset, .unset, .unset, .unset, .unset, .unset, .unset]) rfl ?_
    show Steps p.tables e below (s₁.setTop (mkF m 50 #[.val (.int p1), .val (.int p2), .val (.int p3), .val (.int p4), .val (.int p5), .val (.int L1), .val (.int X1), .val (.int Y1), .val (.int (if (p5 &&& (1 : Int32)) = (0 : Int32) then ((p4 &&& (2147483647 : Int32)) % (3 : Int32)) else L1)), .unset, .unset, .unset, .unset, .unset, .unset, .unset, .unset, .unset, .unset, .unset, .unset, .unset, .unset] [])) t
    refine XS.iload X0.here hx rfl (hb hby at_50) rfl ?_
    show Steps p.tables e below (s₁.setTop (mkF m 52 #[.val (.int p1), .val (.int p2), .val (.int p3), .val (.int p4), .val (.int p5), .val (.int L1), .val (.int X1), .val (.int Y1), .val (.int (if (p5 &&& (1 : Int32)) = (0 : Int32) then ((p4 &&& (2147483647 : Int32)) % (3 : Int32)) else L1)), .unset, .unset, .unset, .unset, .unset, .unset, .unset, .unset, .unset, .unset, .unset, .unset, .unset, .unset] [(.int p5)])) t
    refine XS.iconst X0.here hx rfl (hb hby at_52) ?_
    show Steps p.tables e below (s₁.setTop (mkF m 53 #[.val (.int p1), .val (.int p2), .val (.int p3), .val (.int p4), .val (.int p5), .val (.int L1), .val (.int X1), .val (.int Y1), .val (.int (if (p5 &&& (1 : Int32)) = (0 : Int32) then ((p4 &&& (2147483647 : Int32)) % (3 : Int32)) else L1)), .unset, .unset, .unset, .unset, .unset, .unset, .unset, .unset, .unset, .unset, .unset, .unset, .unset, .unset] [(.int (2 : Int32)), (.int p5)])) t
    refine XS.iand X0.here hx rfl (hb hby at_53) rfl ?_
    exact kt
  have k11 : ∀ t, Steps p.tables e below (s₁.setTop (mkF m 71 #[.val (.int p1), .val (.int p2), .val (.int p3), .val (.int p4), .val (.int p5), .val (.int L1), .val (.int X1), .val (.int Y1), .val (.int (if (p5 &&& (1 : Int32)) = (0 : Int32) then ((p4 &&& (2147483647 : Int32)) % (3 : Int32)) else L1)), .unset, .unset, .unset, .unset, .unset, .unset, .unset, .unset, .unset, .unset, .unset, .unset, .unset, .unset] [(.int (if (p5 &&& (2 : Int32)) = (0 : Int32) then ((((p4.toUInt32 >>> ((8 : Int32) &&& 31).toUInt32).toInt32) &&& (255 : Int32)).toUInt32.toUInt16.toUInt32.toInt32) else X1))])) t → Steps p.tables e below (s₁.setTop (entryFrame m #[(.int p1), (.int p2), (.int p3), (.int p4), (.int p5)] maxLocals)) t := by
    intro t kt
    by_cases hc54_12 : (p5 &&& (2 : Int32)) = (0 : Int32)
    · have k13 : ∀ t, Steps p.tables e below (s₁.setTop (mkF m 71 #[.val (.int p1), .val (.int p2), .val (.int p3), .val (.int p4), .val (.int p5), .val (.int L1), .val (.int X1), .val (.int Y1), .val (.int (if (p5 &&& (1 : Int32)) = (0 : Int32) then ((p4 &&& (2147483647 : Int32)) % (3 : Int32)) else L1)), .unset, .unset, .unset, .unset, .unset, .unset, .unset, .unset, .unset, .unset, .unset, .unset, .unset, .unset] [(.int ((((p4.toUInt32 >>> ((8 : Int32) &&& 31).toUInt32).toInt32) &&& (255 : Int32)).toUInt32.toUInt16.toUInt32.toInt32))])) t → Steps p.tables e below (s₁.setTop (entryFrame m #[(.int p1), (.int p2), (.int p3), (.int p4), (.int p5)] maxLocals)) t := by
        intro t kt
        refine k10 t ?_
        show Steps p.tables e below (s₁.setTop (mkF m 54 #[.val (.int p1), .val (.int p2), .val (.int p3), .val (.int p4), .val (.int p5), .val (.int L1), .val (.int X1), .val (.int Y1), .val (.int (if (p5 &&& (1 : Int32)) = (0 : Int32) then ((p4 &&& (2147483647 : Int32)) % (3 : Int32)) else L1)), .unset, .unset, .unset, .unset, .unset, .unset, .unset, .unset, .unset, .unset, .unset, .unset, .unset, .unset] [(.int (p5 &&& (2 : Int32)))])) t
        refine XS.ifYes X0.here hx rfl (pc0 := 54) (pc' := 62) rfl (hb hby at_54) rfl ((if0 _ _).trans (teq hc54_12).1) (by decide) (by decide) ?_
        show Steps p.tables e below (s₁.setTop (mkF m 62 #[.val (.int p1), .val (.int p2), .val (.int p3), .val (.int p4), .val (.int p5), .val (.int L1), .val (.int X1), .val (.int Y1), .val (.int (if (p5 &&& (1 : Int32)) = (0 : Int32) then ((p4 &&& (2147483647 : Int32)) % (3 : Int32)) else L1)), .unset, .unset, .unset, .unset, .unset, .unset, .unset, .unset, .unset, .unset, .unset, .unset, .unset, .unset] [])) t
        refine XS.iloadN X0.here hx rfl (hb hby at_62) rfl ?_
        show Steps p.tables e below (s₁.setTop (mkF m 63 #[.val (.int p1), .val (.int p2), .val (.int p3), .val (.int p4), .val (.int p5), .val (.int L1), .val (.int X1), .val (.int Y1), .val (.int (if (p5 &&& (1 : Int32)) = (0 : Int32) then ((p4 &&& (2147483647 : Int32)) % (3 : Int32)) else L1)), .unset, .unset, .unset, .unset, .unset, .unset, .unset, .unset, .unset, .unset, .unset, .unset, .unset, .unset] [(.int p4)])) t
        refine XS.bipush X0.here hx rfl (hb hby at_63) ?_
        show Steps p.tables e below (s₁.setTop (mkF m 65 #[.val (.int p1), .val (.int p2), .val (.int p3), .val (.int p4), .val (.int p5), .val (.int L1), .val (.int X1), .val (.int Y1), .val (.int (if (p5 &&& (1 : Int32)) = (0 : Int32) then ((p4 &&& (2147483647 : Int32)) % (3 : Int32)) else L1)), .unset, .unset, .unset, .unset, .unset, .unset, .unset, .unset, .unset, .unset, .unset, .unset, .unset, .unset] [(.int (8 : Int32)), (.int p4)])) t
        refine XS.iushr X0.here hx rfl (hb hby at_65) rfl ?_
        show Steps p.tables e below (s₁.setTop (mkF m 66 #[.val (.int p1), .val (.int p2), .val (.int p3), .val (.int p4), .val (.int p5), .val (.int L1), .val (.int X1), .val (.int Y1), .val (.int (if (p5 &&& (1 : Int32)) = (0 : Int32) then ((p4 &&& (2147483647 : Int32)) % (3 : Int32)) else L1)), .unset, .unset, .unset, .unset, .unset, .unset, .unset, .unset, .unset, .unset, .unset, .unset, .unset, .unset] [(.int ((p4.toUInt32 >>> ((8 : Int32) &&& 31).toUInt32).toInt32))])) t
        refine XS.sipush X0.here hx rfl (hb hby at_66) ?_
        show Steps p.tables e below (s₁.setTop (mkF m 69 #[.val (.int p1), .val (.int p2), .val (.int p3), .val (.int p4), .val (.int p5), .val (.int L1), .val (.int X1), .val (.int Y1), .val (.int (if (p5 &&& (1 : Int32)) = (0 : Int32) then ((p4 &&& (2147483647 : Int32)) % (3 : Int32)) else L1)), .unset, .unset, .unset, .unset, .unset, .unset, .unset, .unset, .unset, .unset, .unset, .unset, .unset, .unset] [(.int (255 : Int32)), (.int ((p4.toUInt32 >>> ((8 : Int32) &&& 31).toUInt32).toInt32))])) t
        refine XS.iand X0.here hx rfl (hb hby at_69) rfl ?_
        show Steps p.tables e below (s₁.setTop (mkF m 70 #[.val (.int p1), .val (.int p2), .val (.int p3), .val (.int p4), .val (.int p5), .val (.int L1), .val (.int X1), .val (.int Y1), .val (.int (if (p5 &&& (1 : Int32)) = (0 : Int32) then ((p4 &&& (2147483647 : Int32)) % (3 : Int32)) else L1)), .unset, .unset, .unset, .unset, .unset, .unset, .unset, .unset, .unset, .unset, .unset, .unset, .unset, .unset] [(.int (((p4.toUInt32 >>> ((8 : Int32) &&& 31).toUInt32).toInt32) &&& (255 : Int32)))])) t
        refine XS.i2c X0.here hx rfl (hb hby at_70) rfl ?_
        exact kt
      rw [show ((if (p5 &&& (2 : Int32)) = (0 : Int32) then ((((p4.toUInt32 >>> ((8 : Int32) &&& 31).toUInt32).toInt32) &&& (255 : Int32)).toUInt32.toUInt16.toUInt32.toInt32) else X1)) = ((((p4.toUInt32 >>> ((8 : Int32) &&& 31).toUInt32).toInt32) &&& (255 : Int32)).toUInt32.toUInt16.toUInt32.toInt32) from by first | exact if_pos hc54_12 | exact if_neg hc54_12 | (simp only [hc54_12, if_true, if_false]; done) | simp [hc54_12]] at kt
      exact k13 t kt
    · have k14 : ∀ t, Steps p.tables e below (s₁.setTop (mkF m 71 #[.val (.int p1), .val (.int p2), .val (.int p3), .val (.int p4), .val (.int p5), .val (.int L1), .val (.int X1), .val (.int Y1), .val (.int (if (p5 &&& (1 : Int32)) = (0 : Int32) then ((p4 &&& (2147483647 : Int32)) % (3 : Int32)) else L1)), .unset, .unset, .unset, .unset, .unset, .unset, .unset, .unset, .unset, .unset, .unset, .unset, .unset, .unset] [(.int X1)])) t → Steps p.tables e below (s₁.setTop (entryFrame m #[(.int p1), (.int p2), (.int p3), (.int p4), (.int p5)] maxLocals)) t := by
        intro t kt
        refine k10 t ?_
        show Steps p.tables e below (s₁.setTop (mkF m 54 #[.val (.int p1), .val (.int p2), .val (.int p3), .val (.int p4), .val (.int p5), .val (.int L1), .val (.int X1), .val (.int Y1), .val (.int (if (p5 &&& (1 : Int32)) = (0 : Int32) then ((p4 &&& (2147483647 : Int32)) % (3 : Int32)) else L1)), .unset, .unset, .unset, .unset, .unset, .unset, .unset, .unset, .unset, .unset, .unset, .unset, .unset, .unset] [(.int (p5 &&& (2 : Int32)))])) t
        refine XS.ifNo X0.here hx rfl (hb hby at_54) rfl ((if0 _ _).trans (feq hc54_12).1) ?_
        show Steps p.tables e below (s₁.setTop (mkF m 57 #[.val (.int p1), .val (.int p2), .val (.int p3), .val (.int p4), .val (.int p5), .val (.int L1), .val (.int X1), .val (.int Y1), .val (.int (if (p5 &&& (1 : Int32)) = (0 : Int32) then ((p4 &&& (2147483647 : Int32)) % (3 : Int32)) else L1)), .unset, .unset, .unset, .unset, .unset, .unset, .unset, .unset, .unset, .unset, .unset, .unset, .unset, .unset] [])) t
        refine XS.iload X0.here hx rfl (hb hby at_57) rfl ?_
        show Steps p.tables e below (s₁.setTop (mkF m 59 #[.val (.int p1), .val (.int p2), .val (.int p3), .val (.int p4), .val (.int p5), .val (.int L1), .val (.int X1), .val (.int Y1), .val (.int (if (p5 &&& (1 : Int32)) = (0 : Int32) then ((p4 &&& (2147483647 : Int32)) % (3 : Int32)) else L1)), .unset, .unset, .unset, .unset, .unset, .unset, .unset, .unset, .unset, .unset, .unset, .unset, .unset, .unset] [(.int X1)])) t
        refine XS.goto X0.here hx rfl (pc0 := 59) (pc' := 71) rfl (hb hby at_59) (by decide) (by decide) ?_
        exact kt
      rw [show ((if (p5 &&& (2 : Int32)) = (0 : Int32) then ((((p4.toUInt32 >>> ((8 : Int32) &&& 31).toUInt32).toInt32) &&& (255 : Int32)).toUInt32.toUInt16.toUInt32.toInt32) else X1)) = X1 from by first | exact if_pos hc54_12 | exact if_neg hc54_12 | (simp only [hc54_12, if_true, if_false]; done) | simp [hc54_12]] at kt
      exact k14 t kt
  have k15 : ∀ t, Steps p.tables e below (s₁.setTop (mkF m 77 #[.val (.int p1), .val (.int p2), .val (.int p3), .val (.int p4), .val (.int p5), .val (.int L1), .val (.int X1), .val (.int Y1), .val (.int (if (p5 &&& (1 : Int32)) = (0 : Int32) then ((p4 &&& (2147483647 : Int32)) % (3 : Int32)) else L1)), .val (.int (if (p5 &&& (2 : Int32)) = (0 : Int32) then ((((p4.toUInt32 >>> ((8 : Int32) &&& 31).toUInt32).toInt32) &&& (255 : Int32)).toUInt32.toUInt16.toUInt32.toInt32) else X1)), .unset, .unset, .unset, .unset, .unset, .unset, .unset, .unset, .unset, .unset, .unset, .unset, .unset] [(.int (p5 &&& (4 : Int32)))])) t → Steps p.tables e below (s₁.setTop (entryFrame m #[(.int p1), (.int p2), (.int p3), (.int p4), (.int p5)] maxLocals)) t := by
    intro t kt
    refine k11 t ?_
    show Steps p.tables e below (s₁.setTop (mkF m 71 #[.val (.int p1), .val (.int p2), .val (.int p3), .val (.int p4), .val (.int p5), .val (.int L1), .val (.int X1), .val (.int Y1), .val (.int (if (p5 &&& (1 : Int32)) = (0 : Int32) then ((p4 &&& (2147483647 : Int32)) % (3 : Int32)) else L1)), .unset, .unset, .unset, .unset, .unset, .unset, .unset, .unset, .unset, .unset, .unset, .unset, .unset, .unset] [(.int (if (p5 &&& (2 : Int32)) = (0 : Int32) then ((((p4.toUInt32 >>> ((8 : Int32) &&& 31).toUInt32).toInt32) &&& (255 : Int32)).toUInt32.toUInt16.toUInt32.toInt32) else X1))])) t
    refine XS.istore X0.here hx rfl (hb hby at_71) rfl (l' := #[.val (.int p1), .val (.int p2), .val (.int p3), .val (.int p4), .val (.int p5), .val (.int L1), .val (.int X1), .val (.int Y1), .val (.int (if (p5 &&& (1 : Int32)) = (0 : Int32) then ((p4 &&& (2147483647 : Int32)) % (3 : Int32)) else L1)), .val (.int (if (p5 &&& (2 : Int32)) = (0 : Int32) then ((((p4.toUInt32 >>> ((8 : Int32) &&& 31).toUInt32).toInt32) &&& (255 : Int32)).toUInt32.toUInt16.toUInt32.toInt32) else X1)), .unset, .unset, .unset, .unset, .unset, .unset, .unset, .unset, .unset, .unset, .unset, .unset, .unset]) rfl ?_
    show Steps p.tables e below (s₁.setTop (mkF m 73 #[.val (.int p1), .val (.int p2), .val (.int p3), .val (.int p4), .val (.int p5), .val (.int L1), .val (.int X1), .val (.int Y1), .val (.int (if (p5 &&& (1 : Int32)) = (0 : Int32) then ((p4 &&& (2147483647 : Int32)) % (3 : Int32)) else L1)), .val (.int (if (p5 &&& (2 : Int32)) = (0 : Int32) then ((((p4.toUInt32 >>> ((8 : Int32) &&& 31).toUInt32).toInt32) &&& (255 : Int32)).toUInt32.toUInt16.toUInt32.toInt32) else X1)), .unset, .unset, .unset, .unset, .unset, .unset, .unset, .unset, .unset, .unset, .unset, .unset, .unset] [])) t
    refine XS.iload X0.here hx rfl (hb hby at_73) rfl ?_
    show Steps p.tables e below (s₁.setTop (mkF m 75 #[.val (.int p1), .val (.int p2), .val (.int p3), .val (.int p4), .val (.int p5), .val (.int L1), .val (.int X1), .val (.int Y1), .val (.int (if (p5 &&& (1 : Int32)) = (0 : Int32) then ((p4 &&& (2147483647 : Int32)) % (3 : Int32)) else L1)), .val (.int (if (p5 &&& (2 : Int32)) = (0 : Int32) then ((((p4.toUInt32 >>> ((8 : Int32) &&& 31).toUInt32).toInt32) &&& (255 : Int32)).toUInt32.toUInt16.toUInt32.toInt32) else X1)), .unset, .unset, .unset, .unset, .unset, .unset, .unset, .unset, .unset, .unset, .unset, .unset, .unset] [(.int p5)])) t
    refine XS.iconst X0.here hx rfl (hb hby at_75) ?_
    show Steps p.tables e below (s₁.setTop (mkF m 76 #[.val (.int p1), .val (.int p2), .val (.int p3), .val (.int p4), .val (.int p5), .val (.int L1), .val (.int X1), .val (.int Y1), .val (.int (if (p5 &&& (1 : Int32)) = (0 : Int32) then ((p4 &&& (2147483647 : Int32)) % (3 : Int32)) else L1)), .val (.int (if (p5 &&& (2 : Int32)) = (0 : Int32) then ((((p4.toUInt32 >>> ((8 : Int32) &&& 31).toUInt32).toInt32) &&& (255 : Int32)).toUInt32.toUInt16.toUInt32.toInt32) else X1)), .unset, .unset, .unset, .unset, .unset, .unset, .unset, .unset, .unset, .unset, .unset, .unset, .unset] [(.int (4 : Int32)), (.int p5)])) t
    refine XS.iand X0.here hx rfl (hb hby at_76) rfl ?_
    exact kt
  have k16 : ∀ t, Steps p.tables e below (s₁.setTop (mkF m 94 #[.val (.int p1), .val (.int p2), .val (.int p3), .val (.int p4), .val (.int p5), .val (.int L1), .val (.int X1), .val (.int Y1), .val (.int (if (p5 &&& (1 : Int32)) = (0 : Int32) then ((p4 &&& (2147483647 : Int32)) % (3 : Int32)) else L1)), .val (.int (if (p5 &&& (2 : Int32)) = (0 : Int32) then ((((p4.toUInt32 >>> ((8 : Int32) &&& 31).toUInt32).toInt32) &&& (255 : Int32)).toUInt32.toUInt16.toUInt32.toInt32) else X1)), .unset, .unset, .unset, .unset, .unset, .unset, .unset, .unset, .unset, .unset, .unset, .unset, .unset] [(.int (if (p5 &&& (4 : Int32)) = (0 : Int32) then ((((p4.toUInt32 >>> ((16 : Int32) &&& 31).toUInt32).toInt32) &&& (255 : Int32)).toUInt32.toUInt16.toUInt32.toInt32) else Y1))])) t → Steps p.tables e below (s₁.setTop (entryFrame m #[(.int p1), (.int p2), (.int p3), (.int p4), (.int p5)] maxLocals)) t := by
    intro t kt
    by_cases hc77_17 : (p5 &&& (4 : Int32)) = (0 : Int32)
    · have k18 : ∀ t, Steps p.tables e below (s₁.setTop (mkF m 94 #[.val (.int p1), .val (.int p2), .val (.int p3), .val (.int p4), .val (.int p5), .val (.int L1), .val (.int X1), .val (.int Y1), .val (.int (if (p5 &&& (1 : Int32)) = (0 : Int32) then ((p4 &&& (2147483647 : Int32)) % (3 : Int32)) else L1)), .val (.int (if (p5 &&& (2 : Int32)) = (0 : Int32) then ((((p4.toUInt32 >>> ((8 : Int32) &&& 31).toUInt32).toInt32) &&& (255 : Int32)).toUInt32.toUInt16.toUInt32.toInt32) else X1)), .unset, .unset, .unset, .unset, .unset, .unset, .unset, .unset, .unset, .unset, .unset, .unset, .unset] [(.int ((((p4.toUInt32 >>> ((16 : Int32) &&& 31).toUInt32).toInt32) &&& (255 : Int32)).toUInt32.toUInt16.toUInt32.toInt32))])) t → Steps p.tables e below (s₁.setTop (entryFrame m #[(.int p1), (.int p2), (.int p3), (.int p4), (.int p5)] maxLocals)) t := by
        intro t kt
        refine k15 t ?_
        show Steps p.tables e below (s₁.setTop (mkF m 77 #[.val (.int p1), .val (.int p2), .val (.int p3), .val (.int p4), .val (.int p5), .val (.int L1), .val (.int X1), .val (.int Y1), .val (.int (if (p5 &&& (1 : Int32)) = (0 : Int32) then ((p4 &&& (2147483647 : Int32)) % (3 : Int32)) else L1)), .val (.int (if (p5 &&& (2 : Int32)) = (0 : Int32) then ((((p4.toUInt32 >>> ((8 : Int32) &&& 31).toUInt32).toInt32) &&& (255 : Int32)).toUInt32.toUInt16.toUInt32.toInt32) else X1)), .unset, .unset, .unset, .unset, .unset, .unset, .unset, .unset, .unset, .unset, .unset, .unset, .unset] [(.int (p5 &&& (4 : Int32)))])) t
        refine XS.ifYes X0.here hx rfl (pc0 := 77) (pc' := 85) rfl (hb hby at_77) rfl ((if0 _ _).trans (teq hc77_17).1) (by decide) (by decide) ?_
        show Steps p.tables e below (s₁.setTop (mkF m 85 #[.val (.int p1), .val (.int p2), .val (.int p3), .val (.int p4), .val (.int p5), .val (.int L1), .val (.int X1), .val (.int Y1), .val (.int (if (p5 &&& (1 : Int32)) = (0 : Int32) then ((p4 &&& (2147483647 : Int32)) % (3 : Int32)) else L1)), .val (.int (if (p5 &&& (2 : Int32)) = (0 : Int32) then ((((p4.toUInt32 >>> ((8 : Int32) &&& 31).toUInt32).toInt32) &&& (255 : Int32)).toUInt32.toUInt16.toUInt32.toInt32) else X1)), .unset, .unset, .unset, .unset, .unset, .unset, .unset, .unset, .unset, .unset, .unset, .unset, .unset] [])) t
        refine XS.iloadN X0.here hx rfl (hb hby at_85) rfl ?_
        show Steps p.tables e below (s₁.setTop (mkF m 86 #[.val (.int p1), .val (.int p2), .val (.int p3), .val (.int p4), .val (.int p5), .val (.int L1), .val (.int X1), .val (.int Y1), .val (.int (if (p5 &&& (1 : Int32)) = (0 : Int32) then ((p4 &&& (2147483647 : Int32)) % (3 : Int32)) else L1)), .val (.int (if (p5 &&& (2 : Int32)) = (0 : Int32) then ((((p4.toUInt32 >>> ((8 : Int32) &&& 31).toUInt32).toInt32) &&& (255 : Int32)).toUInt32.toUInt16.toUInt32.toInt32) else X1)), .unset, .unset, .unset, .unset, .unset, .unset, .unset, .unset, .unset, .unset, .unset, .unset, .unset] [(.int p4)])) t
        refine XS.bipush X0.here hx rfl (hb hby at_86) ?_
        show Steps p.tables e below (s₁.setTop (mkF m 88 #[.val (.int p1), .val (.int p2), .val (.int p3), .val (.int p4), .val (.int p5), .val (.int L1), .val (.int X1), .val (.int Y1), .val (.int (if (p5 &&& (1 : Int32)) = (0 : Int32) then ((p4 &&& (2147483647 : Int32)) % (3 : Int32)) else L1)), .val (.int (if (p5 &&& (2 : Int32)) = (0 : Int32) then ((((p4.toUInt32 >>> ((8 : Int32) &&& 31).toUInt32).toInt32) &&& (255 : Int32)).toUInt32.toUInt16.toUInt32.toInt32) else X1)), .unset, .unset, .unset, .unset, .unset, .unset, .unset, .unset, .unset, .unset, .unset, .unset, .unset] [(.int (16 : Int32)), (.int p4)])) t
        refine XS.iushr X0.here hx rfl (hb hby at_88) rfl ?_
        show Steps p.tables e below (s₁.setTop (mkF m 89 #[.val (.int p1), .val (.int p2), .val (.int p3), .val (.int p4), .val (.int p5), .val (.int L1), .val (.int X1), .val (.int Y1), .val (.int (if (p5 &&& (1 : Int32)) = (0 : Int32) then ((p4 &&& (2147483647 : Int32)) % (3 : Int32)) else L1)), .val (.int (if (p5 &&& (2 : Int32)) = (0 : Int32) then ((((p4.toUInt32 >>> ((8 : Int32) &&& 31).toUInt32).toInt32) &&& (255 : Int32)).toUInt32.toUInt16.toUInt32.toInt32) else X1)), .unset, .unset, .unset, .unset, .unset, .unset, .unset, .unset, .unset, .unset, .unset, .unset, .unset] [(.int ((p4.toUInt32 >>> ((16 : Int32) &&& 31).toUInt32).toInt32))])) t
        refine XS.sipush X0.here hx rfl (hb hby at_89) ?_
        show Steps p.tables e below (s₁.setTop (mkF m 92 #[.val (.int p1), .val (.int p2), .val (.int p3), .val (.int p4), .val (.int p5), .val (.int L1), .val (.int X1), .val (.int Y1), .val (.int (if (p5 &&& (1 : Int32)) = (0 : Int32) then ((p4 &&& (2147483647 : Int32)) % (3 : Int32)) else L1)), .val (.int (if (p5 &&& (2 : Int32)) = (0 : Int32) then ((((p4.toUInt32 >>> ((8 : Int32) &&& 31).toUInt32).toInt32) &&& (255 : Int32)).toUInt32.toUInt16.toUInt32.toInt32) else X1)), .unset, .unset, .unset, .unset, .unset, .unset, .unset, .unset, .unset, .unset, .unset, .unset, .unset] [(.int (255 : Int32)), (.int ((p4.toUInt32 >>> ((16 : Int32) &&& 31).toUInt32).toInt32))])) t
        refine XS.iand X0.here hx rfl (hb hby at_92) rfl ?_
        show Steps p.tables e below (s₁.setTop (mkF m 93 #[.val (.int p1), .val (.int p2), .val (.int p3), .val (.int p4), .val (.int p5), .val (.int L1), .val (.int X1), .val (.int Y1), .val (.int (if (p5 &&& (1 : Int32)) = (0 : Int32) then ((p4 &&& (2147483647 : Int32)) % (3 : Int32)) else L1)), .val (.int (if (p5 &&& (2 : Int32)) = (0 : Int32) then ((((p4.toUInt32 >>> ((8 : Int32) &&& 31).toUInt32).toInt32) &&& (255 : Int32)).toUInt32.toUInt16.toUInt32.toInt32) else X1)), .unset, .unset, .unset, .unset, .unset, .unset, .unset, .unset, .unset, .unset, .unset, .unset, .unset] [(.int (((p4.toUInt32 >>> ((16 : Int32) &&& 31).toUInt32).toInt32) &&& (255 : Int32)))])) t
        refine XS.i2c X0.here hx rfl (hb hby at_93) rfl ?_
        exact kt
      rw [show ((if (p5 &&& (4 : Int32)) = (0 : Int32) then ((((p4.toUInt32 >>> ((16 : Int32) &&& 31).toUInt32).toInt32) &&& (255 : Int32)).toUInt32.toUInt16.toUInt32.toInt32) else Y1)) = ((((p4.toUInt32 >>> ((16 : Int32) &&& 31).toUInt32).toInt32) &&& (255 : Int32)).toUInt32.toUInt16.toUInt32.toInt32) from by first | exact if_pos hc77_17 | exact if_neg hc77_17 | (simp only [hc77_17, if_true, if_false]; done) | simp [hc77_17]] at kt
      exact k18 t kt
    · have k19 : ∀ t, Steps p.tables e below (s₁.setTop (mkF m 94 #[.val (.int p1), .val (.int p2), .val (.int p3), .val (.int p4), .val (.int p5), .val (.int L1), .val (.int X1), .val (.int Y1), .val (.int (if (p5 &&& (1 : Int32)) = (0 : Int32) then ((p4 &&& (2147483647 : Int32)) % (3 : Int32)) else L1)), .val (.int (if (p5 &&& (2 : Int32)) = (0 : Int32) then ((((p4.toUInt32 >>> ((8 : Int32) &&& 31).toUInt32).toInt32) &&& (255 : Int32)).toUInt32.toUInt16.toUInt32.toInt32) else X1)), .unset, .unset, .unset, .unset, .unset, .unset, .unset, .unset, .unset, .unset, .unset, .unset, .unset] [(.int Y1)])) t → Steps p.tables e below (s₁.setTop (entryFrame m #[(.int p1), (.int p2), (.int p3), (.int p4), (.int p5)] maxLocals)) t := by
        intro t kt
        refine k15 t ?_
        show Steps p.tables e below (s₁.setTop (mkF m 77 #[.val (.int p1), .val (.int p2), .val (.int p3), .val (.int p4), .val (.int p5), .val (.int L1), .val (.int X1), .val (.int Y1), .val (.int (if (p5 &&& (1 : Int32)) = (0 : Int32) then ((p4 &&& (2147483647 : Int32)) % (3 : Int32)) else L1)), .val (.int (if (p5 &&& (2 : Int32)) = (0 : Int32) then ((((p4.toUInt32 >>> ((8 : Int32) &&& 31).toUInt32).toInt32) &&& (255 : Int32)).toUInt32.toUInt16.toUInt32.toInt32) else X1)), .unset, .unset, .unset, .unset, .unset, .unset, .unset, .unset, .unset, .unset, .unset, .unset, .unset] [(.int (p5 &&& (4 : Int32)))])) t
        refine XS.ifNo X0.here hx rfl (hb hby at_77) rfl ((if0 _ _).trans (feq hc77_17).1) ?_
        show Steps p.tables e below (s₁.setTop (mkF m 80 #[.val (.int p1), .val (.int p2), .val (.int p3), .val (.int p4), .val (.int p5), .val (.int L1), .val (.int X1), .val (.int Y1), .val (.int (if (p5 &&& (1 : Int32)) = (0 : Int32) then ((p4 &&& (2147483647 : Int32)) % (3 : Int32)) else L1)), .val (.int (if (p5 &&& (2 : Int32)) = (0 : Int32) then ((((p4.toUInt32 >>> ((8 : Int32) &&& 31).toUInt32).toInt32) &&& (255 : Int32)).toUInt32.toUInt16.toUInt32.toInt32) else X1)), .unset, .unset, .unset, .unset, .unset, .unset, .unset, .unset, .unset, .unset, .unset, .unset, .unset] [])) t
        refine XS.iload X0.here hx rfl (hb hby at_80) rfl ?_
        show Steps p.tables e below (s₁.setTop (mkF m 82 #[.val (.int p1), .val (.int p2), .val (.int p3), .val (.int p4), .val (.int p5), .val (.int L1), .val (.int X1), .val (.int Y1), .val (.int (if (p5 &&& (1 : Int32)) = (0 : Int32) then ((p4 &&& (2147483647 : Int32)) % (3 : Int32)) else L1)), .val (.int (if (p5 &&& (2 : Int32)) = (0 : Int32) then ((((p4.toUInt32 >>> ((8 : Int32) &&& 31).toUInt32).toInt32) &&& (255 : Int32)).toUInt32.toUInt16.toUInt32.toInt32) else X1)), .unset, .unset, .unset, .unset, .unset, .unset, .unset, .unset, .unset, .unset, .unset, .unset, .unset] [(.int Y1)])) t
        refine XS.goto X0.here hx rfl (pc0 := 82) (pc' := 94) rfl (hb hby at_82) (by decide) (by decide) ?_
        exact kt
      rw [show ((if (p5 &&& (4 : Int32)) = (0 : Int32) then ((((p4.toUInt32 >>> ((16 : Int32) &&& 31).toUInt32).toInt32) &&& (255 : Int32)).toUInt32.toUInt16.toUInt32.toInt32) else Y1)) = Y1 from by first | exact if_pos hc77_17 | exact if_neg hc77_17 | (simp only [hc77_17, if_true, if_false]; done) | simp [hc77_17]] at kt
      exact k19 t kt
  have k20 : ∀ t, Steps p.tables e below (s₁.setTop (mkF m 101 #[.val (.int p1), .val (.int p2), .val (.int p3), .val (.int p4), .val (.int p5), .val (.int L1), .val (.int X1), .val (.int Y1), .val (.int (if (p5 &&& (1 : Int32)) = (0 : Int32) then ((p4 &&& (2147483647 : Int32)) % (3 : Int32)) else L1)), .val (.int (if (p5 &&& (2 : Int32)) = (0 : Int32) then ((((p4.toUInt32 >>> ((8 : Int32) &&& 31).toUInt32).toInt32) &&& (255 : Int32)).toUInt32.toUInt16.toUInt32.toInt32) else X1)), .val (.int (if (p5 &&& (4 : Int32)) = (0 : Int32) then ((((p4.toUInt32 >>> ((16 : Int32) &&& 31).toUInt32).toInt32) &&& (255 : Int32)).toUInt32.toUInt16.toUInt32.toInt32) else Y1)), .unset, .unset, .unset, .unset, .unset, .unset, .unset, .unset, .unset, .unset, .unset, .unset] [(.int (p5 &&& (8 : Int32)))])) t → Steps p.tables e below (s₁.setTop (entryFrame m #[(.int p1), (.int p2), (.int p3), (.int p4), (.int p5)] maxLocals)) t := by
    intro t kt
    refine k16 t ?_
    show Steps p.tables e below (s₁.setTop (mkF m 94 #[.val (.int p1), .val (.int p2), .val (.int p3), .val (.int p4), .val (.int p5), .val (.int L1), .val (.int X1), .val (.int Y1), .val (.int (if (p5 &&& (1 : Int32)) = (0 : Int32) then ((p4 &&& (2147483647 : Int32)) % (3 : Int32)) else L1)), .val (.int (if (p5 &&& (2 : Int32)) = (0 : Int32) then ((((p4.toUInt32 >>> ((8 : Int32) &&& 31).toUInt32).toInt32) &&& (255 : Int32)).toUInt32.toUInt16.toUInt32.toInt32) else X1)), .unset, .unset, .unset, .unset, .unset, .unset, .unset, .unset, .unset, .unset, .unset, .unset, .unset] [(.int (if (p5 &&& (4 : Int32)) = (0 : Int32) then ((((p4.toUInt32 >>> ((16 : Int32) &&& 31).toUInt32).toInt32) &&& (255 : Int32)).toUInt32.toUInt16.toUInt32.toInt32) else Y1))])) t
    refine XS.istore X0.here hx rfl (hb hby at_94) rfl (l' := #[.val (.int p1), .val (.int p2), .val (.int p3), .val (.int p4), .val (.int p5), .val (.int L1), .val (.int X1), .val (.int Y1), .val (.int (if (p5 &&& (1 : Int32)) = (0 : Int32) then ((p4 &&& (2147483647 : Int32)) % (3 : Int32)) else L1)), .val (.int (if (p5 &&& (2 : Int32)) = (0 : Int32) then ((((p4.toUInt32 >>> ((8 : Int32) &&& 31).toUInt32).toInt32) &&& (255 : Int32)).toUInt32.toUInt16.toUInt32.toInt32) else X1)), .val (.int (if (p5 &&& (4 : Int32)) = (0 : Int32) then ((((p4.toUInt32 >>> ((16 : Int32) &&& 31).toUInt32).toInt32) &&& (255 : Int32)).toUInt32.toUInt16.toUInt32.toInt32) else Y1)), .unset, .unset, .unset, .unset, .unset, .unset, .unset, .unset, .unset, .unset, .unset, .unset]) rfl ?_
    show Steps p.tables e below (s₁.setTop (mkF m 96 #[.val (.int p1), .val (.int p2), .val (.int p3), .val (.int p4), .val (.int p5), .val (.int L1), .val (.int X1), .val (.int Y1), .val (.int (if (p5 &&& (1 : Int32)) = (0 : Int32) then ((p4 &&& (2147483647 : Int32)) % (3 : Int32)) else L1)), .val (.int (if (p5 &&& (2 : Int32)) = (0 : Int32) then ((((p4.toUInt32 >>> ((8 : Int32) &&& 31).toUInt32).toInt32) &&& (255 : Int32)).toUInt32.toUInt16.toUInt32.toInt32) else X1)), .val (.int (if (p5 &&& (4 : Int32)) = (0 : Int32) then ((((p4.toUInt32 >>> ((16 : Int32) &&& 31).toUInt32).toInt32) &&& (255 : Int32)).toUInt32.toUInt16.toUInt32.toInt32) else Y1)), .unset, .unset, .unset, .unset, .unset, .unset, .unset, .unset, .unset, .unset, .unset, .unset] [])) t
    refine XS.iload X0.here hx rfl (hb hby at_96) rfl ?_
    show Steps p.tables e below (s₁.setTop (mkF m 98 #[.val (.int p1), .val (.int p2), .val (.int p3), .val (.int p4), .val (.int p5), .val (.int L1), .val (.int X1), .val (.int Y1), .val (.int (if (p5 &&& (1 : Int32)) = (0 : Int32) then ((p4 &&& (2147483647 : Int32)) % (3 : Int32)) else L1)), .val (.int (if (p5 &&& (2 : Int32)) = (0 : Int32) then ((((p4.toUInt32 >>> ((8 : Int32) &&& 31).toUInt32).toInt32) &&& (255 : Int32)).toUInt32.toUInt16.toUInt32.toInt32) else X1)), .val (.int (if (p5 &&& (4 : Int32)) = (0 : Int32) then ((((p4.toUInt32 >>> ((16 : Int32) &&& 31).toUInt32).toInt32) &&& (255 : Int32)).toUInt32.toUInt16.toUInt32.toInt32) else Y1)), .unset, .unset, .unset, .unset, .unset, .unset, .unset, .unset, .unset, .unset, .unset, .unset] [(.int p5)])) t
    refine XS.bipush X0.here hx rfl (hb hby at_98) ?_
    show Steps p.tables e below (s₁.setTop (mkF m 100 #[.val (.int p1), .val (.int p2), .val (.int p3), .val (.int p4), .val (.int p5), .val (.int L1), .val (.int X1), .val (.int Y1), .val (.int (if (p5 &&& (1 : Int32)) = (0 : Int32) then ((p4 &&& (2147483647 : Int32)) % (3 : Int32)) else L1)), .val (.int (if (p5 &&& (2 : Int32)) = (0 : Int32) then ((((p4.toUInt32 >>> ((8 : Int32) &&& 31).toUInt32).toInt32) &&& (255 : Int32)).toUInt32.toUInt16.toUInt32.toInt32) else X1)), .val (.int (if (p5 &&& (4 : Int32)) = (0 : Int32) then ((((p4.toUInt32 >>> ((16 : Int32) &&& 31).toUInt32).toInt32) &&& (255 : Int32)).toUInt32.toUInt16.toUInt32.toInt32) else Y1)), .unset, .unset, .unset, .unset, .unset, .unset, .unset, .unset, .unset, .unset, .unset, .unset] [(.int (8 : Int32)), (.int p5)])) t
    refine XS.iand X0.here hx rfl (hb hby at_100) rfl ?_
    exact kt
  have k21 : ∀ t, Steps p.tables e below (s₁.setTop (mkF m 109 #[.val (.int p1), .val (.int p2), .val (.int p3), .val (.int p4), .val (.int p5), .val (.int L1), .val (.int X1), .val (.int Y1), .val (.int (if (p5 &&& (1 : Int32)) = (0 : Int32) then ((p4 &&& (2147483647 : Int32)) % (3 : Int32)) else L1)), .val (.int (if (p5 &&& (2 : Int32)) = (0 : Int32) then ((((p4.toUInt32 >>> ((8 : Int32) &&& 31).toUInt32).toInt32) &&& (255 : Int32)).toUInt32.toUInt16.toUInt32.toInt32) else X1)), .val (.int (if (p5 &&& (4 : Int32)) = (0 : Int32) then ((((p4.toUInt32 >>> ((16 : Int32) &&& 31).toUInt32).toInt32) &&& (255 : Int32)).toUInt32.toUInt16.toUInt32.toInt32) else Y1)), .unset, .unset, .unset, .unset, .unset, .unset, .unset, .unset, .unset, .unset, .unset, .unset] [(.int (if (p5 &&& (8 : Int32)) = (0 : Int32) then p2 else p1))])) t → Steps p.tables e below (s₁.setTop (entryFrame m #[(.int p1), (.int p2), (.int p3), (.int p4), (.int p5)] maxLocals)) t := by
    intro t kt
    by_cases hc101_22 : (p5 &&& (8 : Int32)) = (0 : Int32)
    · have k23 : ∀ t, Steps p.tables e below (s₁.setTop (mkF m 109 #[.val (.int p1), .val (.int p2), .val (.int p3), .val (.int p4), .val (.int p5), .val (.int L1), .val (.int X1), .val (.int Y1), .val (.int (if (p5 &&& (1 : Int32)) = (0 : Int32) then ((p4 &&& (2147483647 : Int32)) % (3 : Int32)) else L1)), .val (.int (if (p5 &&& (2 : Int32)) = (0 : Int32) then ((((p4.toUInt32 >>> ((8 : Int32) &&& 31).toUInt32).toInt32) &&& (255 : Int32)).toUInt32.toUInt16.toUInt32.toInt32) else X1)), .val (.int (if (p5 &&& (4 : Int32)) = (0 : Int32) then ((((p4.toUInt32 >>> ((16 : Int32) &&& 31).toUInt32).toInt32) &&& (255 : Int32)).toUInt32.toUInt16.toUInt32.toInt32) else Y1)), .unset, .unset, .unset, .unset, .unset, .unset, .unset, .unset, .unset, .unset, .unset, .unset] [(.int p2)])) t → Steps p.tables e below (s₁.setTop (entryFrame m #[(.int p1), (.int p2), (.int p3), (.int p4), (.int p5)] maxLocals)) t := by
        intro t kt
        refine k20 t ?_
        show Steps p.tables e below (s₁.setTop (mkF m 101 #[.val (.int p1), .val (.int p2), .val (.int p3), .val (.int p4), .val (.int p5), .val (.int L1), .val (.int X1), .val (.int Y1), .val (.int (if (p5 &&& (1 : Int32)) = (0 : Int32) then ((p4 &&& (2147483647 : Int32)) % (3 : Int32)) else L1)), .val (.int (if (p5 &&& (2 : Int32)) = (0 : Int32) then ((((p4.toUInt32 >>> ((8 : Int32) &&& 31).toUInt32).toInt32) &&& (255 : Int32)).toUInt32.toUInt16.toUInt32.toInt32) else X1)), .val (.int (if (p5 &&& (4 : Int32)) = (0 : Int32) then ((((p4.toUInt32 >>> ((16 : Int32) &&& 31).toUInt32).toInt32) &&& (255 : Int32)).toUInt32.toUInt16.toUInt32.toInt32) else Y1)), .unset, .unset, .unset, .unset, .unset, .unset, .unset, .unset, .unset, .unset, .unset, .unset] [(.int (p5 &&& (8 : Int32)))])) t
        refine XS.ifYes X0.here hx rfl (pc0 := 101) (pc' := 108) rfl (hb hby at_101) rfl ((if0 _ _).trans (teq hc101_22).1) (by decide) (by decide) ?_
        show Steps p.tables e below (s₁.setTop (mkF m 108 #[.val (.int p1), .val (.int p2), .val (.int p3), .val (.int p4), .val (.int p5), .val (.int L1), .val (.int X1), .val (.int Y1), .val (.int (if (p5 &&& (1 : Int32)) = (0 : Int32) then ((p4 &&& (2147483647 : Int32)) % (3 : Int32)) else L1)), .val (.int (if (p5 &&& (2 : Int32)) = (0 : Int32) then ((((p4.toUInt32 >>> ((8 : Int32) &&& 31).toUInt32).toInt32) &&& (255 : Int32)).toUInt32.toUInt16.toUInt32.toInt32) else X1)), .val (.int (if (p5 &&& (4 : Int32)) = (0 : Int32) then ((((p4.toUInt32 >>> ((16 : Int32) &&& 31).toUInt32).toInt32) &&& (255 : Int32)).toUInt32.toUInt16.toUInt32.toInt32) else Y1)), .unset, .unset, .unset, .unset, .unset, .unset, .unset, .unset, .unset, .unset, .unset, .unset] [])) t
        refine XS.iloadN X0.here hx rfl (hb hby at_108) rfl ?_
        exact kt
      rw [show ((if (p5 &&& (8 : Int32)) = (0 : Int32) then p2 else p1)) = p2 from by first | exact if_pos hc101_22 | exact if_neg hc101_22 | (simp only [hc101_22, if_true, if_false]; done) | simp [hc101_22]] at kt
      exact k23 t kt
    · have k24 : ∀ t, Steps p.tables e below (s₁.setTop (mkF m 109 #[.val (.int p1), .val (.int p2), .val (.int p3), .val (.int p4), .val (.int p5), .val (.int L1), .val (.int X1), .val (.int Y1), .val (.int (if (p5 &&& (1 : Int32)) = (0 : Int32) then ((p4 &&& (2147483647 : Int32)) % (3 : Int32)) else L1)), .val (.int (if (p5 &&& (2 : Int32)) = (0 : Int32) then ((((p4.toUInt32 >>> ((8 : Int32) &&& 31).toUInt32).toInt32) &&& (255 : Int32)).toUInt32.toUInt16.toUInt32.toInt32) else X1)), .val (.int (if (p5 &&& (4 : Int32)) = (0 : Int32) then ((((p4.toUInt32 >>> ((16 : Int32) &&& 31).toUInt32).toInt32) &&& (255 : Int32)).toUInt32.toUInt16.toUInt32.toInt32) else Y1)), .unset, .unset, .unset, .unset, .unset, .unset, .unset, .unset, .unset, .unset, .unset, .unset] [(.int p1)])) t → Steps p.tables e below (s₁.setTop (entryFrame m #[(.int p1), (.int p2), (.int p3), (.int p4), (.int p5)] maxLocals)) t := by
        intro t kt
        refine k20 t ?_
        show Steps p.tables e below (s₁.setTop (mkF m 101 #[.val (.int p1), .val (.int p2), .val (.int p3), .val (.int p4), .val (.int p5), .val (.int L1), .val (.int X1), .val (.int Y1), .val (.int (if (p5 &&& (1 : Int32)) = (0 : Int32) then ((p4 &&& (2147483647 : Int32)) % (3 : Int32)) else L1)), .val (.int (if (p5 &&& (2 : Int32)) = (0 : Int32) then ((((p4.toUInt32 >>> ((8 : Int32) &&& 31).toUInt32).toInt32) &&& (255 : Int32)).toUInt32.toUInt16.toUInt32.toInt32) else X1)), .val (.int (if (p5 &&& (4 : Int32)) = (0 : Int32) then ((((p4.toUInt32 >>> ((16 : Int32) &&& 31).toUInt32).toInt32) &&& (255 : Int32)).toUInt32.toUInt16.toUInt32.toInt32) else Y1)), .unset, .unset, .unset, .unset, .unset, .unset, .unset, .unset, .unset, .unset, .unset, .unset] [(.int (p5 &&& (8 : Int32)))])) t
        refine XS.ifNo X0.here hx rfl (hb hby at_101) rfl ((if0 _ _).trans (feq hc101_22).1) ?_
        show Steps p.tables e below (s₁.setTop (mkF m 104 #[.val (.int p1), .val (.int p2), .val (.int p3), .val (.int p4), .val (.int p5), .val (.int L1), .val (.int X1), .val (.int Y1), .val (.int (if (p5 &&& (1 : Int32)) = (0 : Int32) then ((p4 &&& (2147483647 : Int32)) % (3 : Int32)) else L1)), .val (.int (if (p5 &&& (2 : Int32)) = (0 : Int32) then ((((p4.toUInt32 >>> ((8 : Int32) &&& 31).toUInt32).toInt32) &&& (255 : Int32)).toUInt32.toUInt16.toUInt32.toInt32) else X1)), .val (.int (if (p5 &&& (4 : Int32)) = (0 : Int32) then ((((p4.toUInt32 >>> ((16 : Int32) &&& 31).toUInt32).toInt32) &&& (255 : Int32)).toUInt32.toUInt16.toUInt32.toInt32) else Y1)), .unset, .unset, .unset, .unset, .unset, .unset, .unset, .unset, .unset, .unset, .unset, .unset] [])) t
        refine XS.iloadN X0.here hx rfl (hb hby at_104) rfl ?_
        show Steps p.tables e below (s₁.setTop (mkF m 105 #[.val (.int p1), .val (.int p2), .val (.int p3), .val (.int p4), .val (.int p5), .val (.int L1), .val (.int X1), .val (.int Y1), .val (.int (if (p5 &&& (1 : Int32)) = (0 : Int32) then ((p4 &&& (2147483647 : Int32)) % (3 : Int32)) else L1)), .val (.int (if (p5 &&& (2 : Int32)) = (0 : Int32) then ((((p4.toUInt32 >>> ((8 : Int32) &&& 31).toUInt32).toInt32) &&& (255 : Int32)).toUInt32.toUInt16.toUInt32.toInt32) else X1)), .val (.int (if (p5 &&& (4 : Int32)) = (0 : Int32) then ((((p4.toUInt32 >>> ((16 : Int32) &&& 31).toUInt32).toInt32) &&& (255 : Int32)).toUInt32.toUInt16.toUInt32.toInt32) else Y1)), .unset, .unset, .unset, .unset, .unset, .unset, .unset, .unset, .unset, .unset, .unset, .unset] [(.int p1)])) t
        refine XS.goto X0.here hx rfl (pc0 := 105) (pc' := 109) rfl (hb hby at_105) (by decide) (by decide) ?_
        exact kt
      rw [show ((if (p5 &&& (8 : Int32)) = (0 : Int32) then p2 else p1)) = p1 from by first | exact if_pos hc101_22 | exact if_neg hc101_22 | (simp only [hc101_22, if_true, if_false]; done) | simp [hc101_22]] at kt
      exact k24 t kt
  have k25 : ∀ t, Steps p.tables e below (s₁.setTop (mkF m 111 #[.val (.int p1), .val (.int p2), .val (.int p3), .val (.int p4), .val (.int p5), .val (.int L1), .val (.int X1), .val (.int Y1), .val (.int (if (p5 &&& (1 : Int32)) = (0 : Int32) then ((p4 &&& (2147483647 : Int32)) % (3 : Int32)) else L1)), .val (.int (if (p5 &&& (2 : Int32)) = (0 : Int32) then ((((p4.toUInt32 >>> ((8 : Int32) &&& 31).toUInt32).toInt32) &&& (255 : Int32)).toUInt32.toUInt16.toUInt32.toInt32) else X1)), .val (.int (if (p5 &&& (4 : Int32)) = (0 : Int32) then ((((p4.toUInt32 >>> ((16 : Int32) &&& 31).toUInt32).toInt32) &&& (255 : Int32)).toUInt32.toUInt16.toUInt32.toInt32) else Y1)), .val (.int (if (p5 &&& (8 : Int32)) = (0 : Int32) then p2 else p1)), .unset, .unset, .unset, .unset, .unset, .unset, .unset, .unset, .unset, .unset, .unset] [])) t → Steps p.tables e below (s₁.setTop (entryFrame m #[(.int p1), (.int p2), (.int p3), (.int p4), (.int p5)] maxLocals)) t := by
    intro t kt
    refine k21 t ?_
    show Steps p.tables e below (s₁.setTop (mkF m 109 #[.val (.int p1), .val (.int p2), .val (.int p3), .val (.int p4), .val (.int p5), .val (.int L1), .val (.int X1), .val (.int Y1), .val (.int (if (p5 &&& (1 : Int32)) = (0 : Int32) then ((p4 &&& (2147483647 : Int32)) % (3 : Int32)) else L1)), .val (.int (if (p5 &&& (2 : Int32)) = (0 : Int32) then ((((p4.toUInt32 >>> ((8 : Int32) &&& 31).toUInt32).toInt32) &&& (255 : Int32)).toUInt32.toUInt16.toUInt32.toInt32) else X1)), .val (.int (if (p5 &&& (4 : Int32)) = (0 : Int32) then ((((p4.toUInt32 >>> ((16 : Int32) &&& 31).toUInt32).toInt32) &&& (255 : Int32)).toUInt32.toUInt16.toUInt32.toInt32) else Y1)), .unset, .unset, .unset, .unset, .unset, .unset, .unset, .unset, .unset, .unset, .unset, .unset] [(.int (if (p5 &&& (8 : Int32)) = (0 : Int32) then p2 else p1))])) t
    refine XS.istore X0.here hx rfl (hb hby at_109) rfl (l' := #[.val (.int p1), .val (.int p2), .val (.int p3), .val (.int p4), .val (.int p5), .val (.int L1), .val (.int X1), .val (.int Y1), .val (.int (if (p5 &&& (1 : Int32)) = (0 : Int32) then ((p4 &&& (2147483647 : Int32)) % (3 : Int32)) else L1)), .val (.int (if (p5 &&& (2 : Int32)) = (0 : Int32) then ((((p4.toUInt32 >>> ((8 : Int32) &&& 31).toUInt32).toInt32) &&& (255 : Int32)).toUInt32.toUInt16.toUInt32.toInt32) else X1)), .val (.int (if (p5 &&& (4 : Int32)) = (0 : Int32) then ((((p4.toUInt32 >>> ((16 : Int32) &&& 31).toUInt32).toInt32) &&& (255 : Int32)).toUInt32.toUInt16.toUInt32.toInt32) else Y1)), .val (.int (if (p5 &&& (8 : Int32)) = (0 : Int32) then p2 else p1)), .unset, .unset, .unset, .unset, .unset, .unset, .unset, .unset, .unset, .unset, .unset]) rfl ?_
    exact kt
  obtain ⟨L2, dL2⟩ : ∃ z, z = (if (p5 &&& (1 : Int32)) = (0 : Int32) then ((p4 &&& (2147483647 : Int32)) % (3 : Int32)) else L1) := ⟨_, rfl⟩
  have hL2 : L2 = (0 : Int32) ∨ L2 = (1 : Int32) ∨ L2 = (2 : Int32) := by rw [dL2]; exact own_ite (Q := fun z => z = (0 : Int32) ∨ z = (1 : Int32) ∨ z = (2 : Int32)) (own_m3 _) (hL1)
  have k26 : ∀ t, Steps p.tables e below (s₁.setTop (mkF m 111 #[.val (.int p1), .val (.int p2), .val (.int p3), .val (.int p4), .val (.int p5), .val (.int L1), .val (.int X1), .val (.int Y1), .val (.int L2), .val (.int (if (p5 &&& (2 : Int32)) = (0 : Int32) then ((((p4.toUInt32 >>> ((8 : Int32) &&& 31).toUInt32).toInt32) &&& (255 : Int32)).toUInt32.toUInt16.toUInt32.toInt32) else X1)), .val (.int (if (p5 &&& (4 : Int32)) = (0 : Int32) then ((((p4.toUInt32 >>> ((16 : Int32) &&& 31).toUInt32).toInt32) &&& (255 : Int32)).toUInt32.toUInt16.toUInt32.toInt32) else Y1)), .val (.int (if (p5 &&& (8 : Int32)) = (0 : Int32) then p2 else p1)), .unset, .unset, .unset, .unset, .unset, .unset, .unset, .unset, .unset, .unset, .unset] [])) t → Steps p.tables e below (s₁.setTop (entryFrame m #[(.int p1), (.int p2), (.int p3), (.int p4), (.int p5)] maxLocals)) t := by rw [dL2]; exact k25
  obtain ⟨X2, dX2⟩ : ∃ z, z = (if (p5 &&& (2 : Int32)) = (0 : Int32) then ((((p4.toUInt32 >>> ((8 : Int32) &&& 31).toUInt32).toInt32) &&& (255 : Int32)).toUInt32.toUInt16.toUInt32.toInt32) else X1) := ⟨_, rfl⟩
  have hX2 : 0 ≤ X2.toInt ∧ X2.toInt ≤ 255 := by rw [dX2]; exact own_ite (Q := fun z => 0 ≤ z.toInt ∧ z.toInt ≤ 255) (own_c255 _) (hX1)
  have k27 : ∀ t, Steps p.tables e below (s₁.setTop (mkF m 111 #[.val (.int p1), .val (.int p2), .val (.int p3), .val (.int p4), .val (.int p5), .val (.int L1), .val (.int X1), .val (.int Y1), .val (.int L2), .val (.int X2), .val (.int (if (p5 &&& (4 : Int32)) = (0 : Int32) then ((((p4.toUInt32 >>> ((16 : Int32) &&& 31).toUInt32).toInt32) &&& (255 : Int32)).toUInt32.toUInt16.toUInt32.toInt32) else Y1)), .val (.int (if (p5 &&& (8 : Int32)) = (0 : Int32) then p2 else p1)), .unset, .unset, .unset, .unset, .unset, .unset, .unset, .unset, .unset, .unset, .unset] [])) t → Steps p.tables e below (s₁.setTop (entryFrame m #[(.int p1), (.int p2), (.int p3), (.int p4), (.int p5)] maxLocals)) t := by rw [dX2]; exact k26
  obtain ⟨Y2, dY2⟩ : ∃ z, z = (if (p5 &&& (4 : Int32)) = (0 : Int32) then ((((p4.toUInt32 >>> ((16 : Int32) &&& 31).toUInt32).toInt32) &&& (255 : Int32)).toUInt32.toUInt16.toUInt32.toInt32) else Y1) := ⟨_, rfl⟩
  have hY2 : 0 ≤ Y2.toInt ∧ Y2.toInt ≤ 255 := by rw [dY2]; exact own_ite (Q := fun z => 0 ≤ z.toInt ∧ z.toInt ≤ 255) (own_c255 _) (hY1)
  have k28 : ∀ t, Steps p.tables e below (s₁.setTop (mkF m 111 #[.val (.int p1), .val (.int p2), .val (.int p3), .val (.int p4), .val (.int p5), .val (.int L1), .val (.int X1), .val (.int Y1), .val (.int L2), .val (.int X2), .val (.int Y2), .val (.int (if (p5 &&& (8 : Int32)) = (0 : Int32) then p2 else p1)), .unset, .unset, .unset, .unset, .unset, .unset, .unset, .unset, .unset, .unset, .unset] [])) t → Steps p.tables e below (s₁.setTop (entryFrame m #[(.int p1), (.int p2), (.int p3), (.int p4), (.int p5)] maxLocals)) t := by rw [dY2]; exact k27
  obtain ⟨I2, dI2⟩ : ∃ z, z = (if (p5 &&& (8 : Int32)) = (0 : Int32) then p2 else p1) := ⟨_, rfl⟩
  have k29 : ∀ t, Steps p.tables e below (s₁.setTop (mkF m 111 #[.val (.int p1), .val (.int p2), .val (.int p3), .val (.int p4), .val (.int p5), .val (.int L1), .val (.int X1), .val (.int Y1), .val (.int L2), .val (.int X2), .val (.int Y2), .val (.int I2), .unset, .unset, .unset, .unset, .unset, .unset, .unset, .unset, .unset, .unset, .unset] [])) t → Steps p.tables e below (s₁.setTop (entryFrame m #[(.int p1), (.int p2), (.int p3), (.int p4), (.int p5)] maxLocals)) t := by rw [dI2]; exact k28
  have k30 : ∀ t, Steps p.tables e below (s₁.setTop (mkF m 117 #[.val (.int p1), .val (.int p2), .val (.int p3), .val (.int p4), .val (.int p5), .val (.int L1), .val (.int X1), .val (.int Y1), .val (.int L2), .val (.int X2), .val (.int Y2), .val (.int I2), .unset, .unset, .unset, .unset, .unset, .unset, .unset, .unset, .unset, .unset, .unset] [(.int Y1), (.int X1), (.int L1)])) t → Steps p.tables e below (s₁.setTop (entryFrame m #[(.int p1), (.int p2), (.int p3), (.int p4), (.int p5)] maxLocals)) t := by
    intro t kt
    refine k29 t ?_
    show Steps p.tables e below (s₁.setTop (mkF m 111 #[.val (.int p1), .val (.int p2), .val (.int p3), .val (.int p4), .val (.int p5), .val (.int L1), .val (.int X1), .val (.int Y1), .val (.int L2), .val (.int X2), .val (.int Y2), .val (.int I2), .unset, .unset, .unset, .unset, .unset, .unset, .unset, .unset, .unset, .unset, .unset] [])) t
    refine XS.iload X0.here hx rfl (hb hby at_111) rfl ?_
    show Steps p.tables e below (s₁.setTop (mkF m 113 #[.val (.int p1), .val (.int p2), .val (.int p3), .val (.int p4), .val (.int p5), .val (.int L1), .val (.int X1), .val (.int Y1), .val (.int L2), .val (.int X2), .val (.int Y2), .val (.int I2), .unset, .unset, .unset, .unset, .unset, .unset, .unset, .unset, .unset, .unset, .unset] [(.int L1)])) t
    refine XS.iload X0.here hx rfl (hb hby at_113) rfl ?_
    show Steps p.tables e below (s₁.setTop (mkF m 115 #[.val (.int p1), .val (.int p2), .val (.int p3), .val (.int p4), .val (.int p5), .val (.int L1), .val (.int X1), .val (.int Y1), .val (.int L2), .val (.int X2), .val (.int Y2), .val (.int I2), .unset, .unset, .unset, .unset, .unset, .unset, .unset, .unset, .unset, .unset, .unset] [(.int X1), (.int L1)])) t
    refine XS.iload X0.here hx rfl (hb hby at_115) rfl ?_
    exact kt
  obtain ⟨_, _, ⟨T31, L31, k31c, n31⟩, -, Y31, hS31p, hg31, ⟨Lc31, hQ31, l31, y31, z31, Cn31⟩, st31⟩ := callSS X0 hx (y := (⟨"com/example/disk_to_queue/disktoqueue/store/TopicQueueEqualsPinLaw", "mk", "(ICC)Ljava/lang/String;"⟩ : MethodName)) hown (mvT hZ (hw _ (List.mem_of_getElem? (i := 1) rfl))) (mvT hZ (hw _ (List.mem_of_getElem? (i := 2) rfl))) (mvT hZ (hw _ (List.mem_of_getElem? (i := 3) rfl))) (mvT hZ (hw _ (List.mem_of_getElem? (i := 4) rfl))) (by decide) (own_backSH (s := s) (vm0 := s.vm) (W := 0) (rmMk l Z a0 hw [] L1 X1 Y1 cs h0 n0 Z0 (Sta.ext O0.2 RC) hcs hL1 hX1 hY1) hZ (hw _ (List.mem_of_getElem? (i := 4) rfl)) (hw _ (List.mem_of_getElem? (i := 3) rfl)) (by decide) (by decide) hEL C0.1 (fun _ q => nomatch q)) (g := (mkF m 117 #[.val (.int p1), .val (.int p2), .val (.int p3), .val (.int p4), .val (.int p5), .val (.int L1), .val (.int X1), .val (.int Y1), .val (.int L2), .val (.int X2), .val (.int Y2), .val (.int I2), .unset, .unset, .unset, .unset, .unset, .unset, .unset, .unset, .unset, .unset, .unset] [(.int Y1), (.int X1), (.int L1)])) rfl (by rw [hml]; rfl) (argsL := [(.int L1), (.int X1), (.int Y1)]) (rest := []) (lenOf own_pd19 rfl) rfl (by show 2 * 0 + _ ≤ _; exact Nat.le_of_eq rfl) (hb hby at_117) (fun _ _ => ⟨rfl, e0, (by decide : 0 + 4 ≤ _), (by decide : 0 + 8 ≤ _)⟩)
  dsimp only [Pt.U, Pt.locs, Pt.cells, Pt.slots] at Y31 hS31p hg31 l31 y31 z31 st31 hQ31 Cn31
  subst l31 y31 z31
  obtain ⟨X31, hS31, hZ31, hown31⟩ := rebS hS0 (by rw [e0]; exact hk0) Y31 hS31p hg31 hZ hown
  have hk31 := Nat.le_refl T31.heap.size
  obtain ⟨r31, b31, c31k, rfl, N31q, K31k, s31z, E31r, Fv31, Fc31, A31, Bx31⟩ := hQ31
  have N31 := Fr.app N0 N31q
  have g_r31 : n0 ≤ r31 := Nat.le_trans Z0 s31z
  have sz_r31 : h0.size ≤ r31 := Nat.le_trans K0.1 s31z
  have C32 := CHr.trans C0 Cn31
  have F33 := O0.keep K31k all0
  have F34 := Sta.ext F33.2 RC
  have F35 := Sta.ext F33.2 RU
  have F36 := Sta.ext F33.2 RS
  have Z37 : n0 ≤ T31.heap.size := Nat.le_trans Z0 K31k.1
  have K37 : Keep h0 T31.heap [] := K0.trans K31k all0
  have k38 : ∀ t, Steps p.tables e below (T31.setTop (mkF m 120 #[.val (.int p1), .val (.int p2), .val (.int p3), .val (.int p4), .val (.int p5), .val (.int L1), .val (.int X1), .val (.int Y1), .val (.int L2), .val (.int X2), .val (.int Y2), .val (.int I2), .unset, .unset, .unset, .unset, .unset, .unset, .unset, .unset, .unset, .unset, .unset] [(.ref r31)])) t → Steps p.tables e below (s₁.setTop (entryFrame m #[(.int p1), (.int p2), (.int p3), (.int p4), (.int p5)] maxLocals)) t := fun t kt => k30 t (st31.trans kt)
  have k39 : ∀ t, Steps p.tables e below (T31.setTop (mkF m 128 #[.val (.int p1), .val (.int p2), .val (.int p3), .val (.int p4), .val (.int p5), .val (.int L1), .val (.int X1), .val (.int Y1), .val (.int L2), .val (.int X2), .val (.int Y2), .val (.int I2), .val (.ref r31), .unset, .unset, .unset, .unset, .unset, .unset, .unset, .unset, .unset, .unset] [(.int Y2), (.int X2), (.int L2)])) t → Steps p.tables e below (s₁.setTop (entryFrame m #[(.int p1), (.int p2), (.int p3), (.int p4), (.int p5)] maxLocals)) t := by
    intro t kt
    refine k38 t ?_
    show Steps p.tables e below (T31.setTop (mkF m 120 #[.val (.int p1), .val (.int p2), .val (.int p3), .val (.int p4), .val (.int p5), .val (.int L1), .val (.int X1), .val (.int Y1), .val (.int L2), .val (.int X2), .val (.int Y2), .val (.int I2), .unset, .unset, .unset, .unset, .unset, .unset, .unset, .unset, .unset, .unset, .unset] [(.ref r31)])) t
    refine XS.astore X31.here hx rfl (hb hby at_120) rfl rfl (l' := #[.val (.int p1), .val (.int p2), .val (.int p3), .val (.int p4), .val (.int p5), .val (.int L1), .val (.int X1), .val (.int Y1), .val (.int L2), .val (.int X2), .val (.int Y2), .val (.int I2), .val (.ref r31), .unset, .unset, .unset, .unset, .unset, .unset, .unset, .unset, .unset, .unset]) rfl ?_
    show Steps p.tables e below (T31.setTop (mkF m 122 #[.val (.int p1), .val (.int p2), .val (.int p3), .val (.int p4), .val (.int p5), .val (.int L1), .val (.int X1), .val (.int Y1), .val (.int L2), .val (.int X2), .val (.int Y2), .val (.int I2), .val (.ref r31), .unset, .unset, .unset, .unset, .unset, .unset, .unset, .unset, .unset, .unset] [])) t
    refine XS.iload X31.here hx rfl (hb hby at_122) rfl ?_
    show Steps p.tables e below (T31.setTop (mkF m 124 #[.val (.int p1), .val (.int p2), .val (.int p3), .val (.int p4), .val (.int p5), .val (.int L1), .val (.int X1), .val (.int Y1), .val (.int L2), .val (.int X2), .val (.int Y2), .val (.int I2), .val (.ref r31), .unset, .unset, .unset, .unset, .unset, .unset, .unset, .unset, .unset, .unset] [(.int L2)])) t
    refine XS.iload X31.here hx rfl (hb hby at_124) rfl ?_
    show Steps p.tables e below (T31.setTop (mkF m 126 #[.val (.int p1), .val (.int p2), .val (.int p3), .val (.int p4), .val (.int p5), .val (.int L1), .val (.int X1), .val (.int Y1), .val (.int L2), .val (.int X2), .val (.int Y2), .val (.int I2), .val (.ref r31), .unset, .unset, .unset, .unset, .unset, .unset, .unset, .unset, .unset, .unset] [(.int X2), (.int L2)])) t
    refine XS.iload X31.here hx rfl (hb hby at_126) rfl ?_
    exact kt
  obtain ⟨_, _, ⟨T40, L40, k40c, n40⟩, -, Y40, hS40p, hg40, ⟨Lc40, hQ40, l40, y40, z40, Cn40⟩, st40⟩ := callSS X31 hx (y := (⟨"com/example/disk_to_queue/disktoqueue/store/TopicQueueEqualsPinLaw", "mk", "(ICC)Ljava/lang/String;"⟩ : MethodName)) hown31 (mvT hZ31 (hw _ (List.mem_of_getElem? (i := 1) rfl))) (mvT hZ31 (hw _ (List.mem_of_getElem? (i := 2) rfl))) (mvT hZ31 (hw _ (List.mem_of_getElem? (i := 3) rfl))) (mvT hZ31 (hw _ (List.mem_of_getElem? (i := 4) rfl))) (by decide) (own_backSH (s := s) (vm0 := T31.vm) (W := 0) (rmMk l Z a0 hw [] L2 X2 Y2 cs T31.heap n0 Z37 F34 hcs hL2 hX2 hY2) hZ31 (hw _ (List.mem_of_getElem? (i := 4) rfl)) (hw _ (List.mem_of_getElem? (i := 3) rfl)) (by decide) (by decide) hEL C32.1 (fun _ q => nomatch q)) (g := (mkF m 128 #[.val (.int p1), .val (.int p2), .val (.int p3), .val (.int p4), .val (.int p5), .val (.int L1), .val (.int X1), .val (.int Y1), .val (.int L2), .val (.int X2), .val (.int Y2), .val (.int I2), .val (.ref r31), .unset, .unset, .unset, .unset, .unset, .unset, .unset, .unset, .unset, .unset] [(.int Y2), (.int X2), (.int L2)])) rfl (by rw [hml]; rfl) (argsL := [(.int L2), (.int X2), (.int Y2)]) (rest := []) (lenOf own_pd19 rfl) rfl (by show 2 * 0 + _ ≤ _; exact Nat.le_of_eq rfl) (hb hby at_128) (fun _ _ => ⟨rfl, rfl, (by decide : 4 + 4 ≤ _), (by decide : 8 + 8 ≤ _)⟩)
  dsimp only [Pt.U, Pt.locs, Pt.cells, Pt.slots] at Y40 hS40p hg40 l40 y40 z40 st40 hQ40 Cn40
  subst l40 y40 z40
  obtain ⟨X40, hS40, hZ40, hown40⟩ := rebS hS31 hk31 Y40 hS40p hg40 hZ31 hown31
  have hk40 := Nat.le_refl T40.heap.size
  obtain ⟨r40, b40, c40k, rfl, N40q, K40k, s40z, E40r, Fv40, Fc40, A40, Bx40⟩ := hQ40
  have N40 := Fr.app N31 N40q
  have g_r40 : n0 ≤ r40 := Nat.le_trans Z37 s40z
  have sz_r40 : h0.size ≤ r40 := Nat.le_trans K37.1 s40z
  have ne41 : r31 ≠ r40 := Nat.ne_of_lt (Nat.lt_of_lt_of_le E31r.lt s40z)
  have ne42 : b31 ≠ r40 := Nat.ne_of_lt (Nat.lt_of_lt_of_le A31.lt s40z)
  have C43 := CHr.trans C32 Cn40
  have F44 := F33.keep K40k all0
  have F45 := Sta.ext F44.2 RC
  have F46 := Sta.ext F44.2 RU
  have F47 := Sta.ext F44.2 RS
  have F48 := E31r.keep K40k
  have F49 := Fv31.keep K40k nin0
  have F50 := Fc31.keep K40k nin0
  have F51 := A31.keep K40k nin0
  have F52 := Bx31.keep K40k
  have Z53 : n0 ≤ T40.heap.size := Nat.le_trans Z37 K40k.1
  have K53 : Keep h0 T40.heap [] := K37.trans K40k all0
  have k54 : ∀ t, Steps p.tables e below (T40.setTop (mkF m 131 #[.val (.int p1), .val (.int p2), .val (.int p3), .val (.int p4), .val (.int p5), .val (.int L1), .val (.int X1), .val (.int Y1), .val (.int L2), .val (.int X2), .val (.int Y2), .val (.int I2), .val (.ref r31), .unset, .unset, .unset, .unset, .unset, .unset, .unset, .unset, .unset, .unset] [(.ref r40)])) t → Steps p.tables e below (s₁.setTop (entryFrame m #[(.int p1), (.int p2), (.int p3), (.int p4), (.int p5)] maxLocals)) t := fun t kt => k39 t (st40.trans kt)
  have k55 : ∀ t, Steps p.tables e below (T40.setTop (mkF m 133 #[.val (.int p1), .val (.int p2), .val (.int p3), .val (.int p4), .val (.int p5), .val (.int L1), .val (.int X1), .val (.int Y1), .val (.int L2), .val (.int X2), .val (.int Y2), .val (.int I2), .val (.ref r31), .val (.ref r40), .unset, .unset, .unset, .unset, .unset, .unset, .unset, .unset, .unset] [])) t → Steps p.tables e below (s₁.setTop (entryFrame m #[(.int p1), (.int p2), (.int p3), (.int p4), (.int p5)] maxLocals)) t := by
    intro t kt
    refine k54 t ?_
    show Steps p.tables e below (T40.setTop (mkF m 131 #[.val (.int p1), .val (.int p2), .val (.int p3), .val (.int p4), .val (.int p5), .val (.int L1), .val (.int X1), .val (.int Y1), .val (.int L2), .val (.int X2), .val (.int Y2), .val (.int I2), .val (.ref r31), .unset, .unset, .unset, .unset, .unset, .unset, .unset, .unset, .unset, .unset] [(.ref r40)])) t
    refine XS.astore X40.here hx rfl (hb hby at_131) rfl rfl (l' := #[.val (.int p1), .val (.int p2), .val (.int p3), .val (.int p4), .val (.int p5), .val (.int L1), .val (.int X1), .val (.int Y1), .val (.int L2), .val (.int X2), .val (.int Y2), .val (.int I2), .val (.ref r31), .val (.ref r40), .unset, .unset, .unset, .unset, .unset, .unset, .unset, .unset, .unset]) rfl ?_
    exact kt
  obtain ⟨T56, h56, X56, e56, E56, A56, D56, -, st56⟩ := newO X40 hx hZ40 hown40 (hw _ (List.mem_of_getElem? (i := 35) rfl)) (hw _ (List.mem_of_getElem? (i := 36) rfl)) (hw _ (List.mem_of_getElem? (i := 37) rfl)) rfl (g := (mkF m 133 #[.val (.int p1), .val (.int p2), .val (.int p3), .val (.int p4), .val (.int p5), .val (.int L1), .val (.int X1), .val (.int Y1), .val (.int L2), .val (.int X2), .val (.int Y2), .val (.int I2), .val (.ref r31), .val (.ref r40), .unset, .unset, .unset, .unset, .unset, .unset, .unset, .unset, .unset] [])) rfl (hb hby at_133) (by decide) (by decide)
  obtain ⟨b56, g56⟩ : ∃ z, z = T40.heap.size := ⟨_, rfl⟩
  rw [← g56] at A56 D56 st56
  have F57 : Safe Z own_EL T40.vm T40.heap b56 := Safe.new (Nat.le_of_eq g56.symm)
  have g_b56 : n0 ≤ b56 := Nat.le_trans Z53 (Nat.le_of_eq g56.symm)
  have sz_b56 : h0.size ≤ b56 := Nat.le_trans K53.1 (Nat.le_of_eq g56.symm)
  have ne58 : r31 ≠ b56 := Nat.ne_of_lt (Nat.lt_of_lt_of_le F48.lt (Nat.le_of_eq g56.symm))
  have ne59 : b31 ≠ b56 := Nat.ne_of_lt (Nat.lt_of_lt_of_le F51.lt (Nat.le_of_eq g56.symm))
  have ne60 : r40 ≠ b56 := Nat.ne_of_lt (Nat.lt_of_lt_of_le E40r.lt (Nat.le_of_eq g56.symm))
  have ne61 : b40 ≠ b56 := Nat.ne_of_lt (Nat.lt_of_lt_of_le A40.lt (Nat.le_of_eq g56.symm))
  have F62 := Safe.ext E56 C43.1 F57
  have C63 := CHr.trans C43 (CHr.ext E56 C43.1)
  have F64 := F44.ext E56
  have F65 := F45.ext E56
  have F66 := F46.ext E56
  have F67 := F47.ext E56
  have F68 := F48.ext E56
  have F69 := F49.ext E56
  have F70 := F50.ext E56
  have F71 := F51.ext E56
  have F72 := F52.ext E56
  have F73 := E40r.ext E56
  have F74 := Fv40.ext E56
  have F75 := Fc40.ext E56
  have F76 := A40.ext E56
  have F77 := Bx40.ext E56
  have hk_78 := Nat.le_trans hk40 E56.1
  have Z56 : n0 ≤ h56.size := Nat.le_trans Z53 E56.1
  have K56 : Keep h0 h56 [] := K53.ext E56
  have F79 : Fld Z h56 b56 "com/example/disk_to_queue/disktoqueue/store/TopicQueue" "topic" "Ljava/lang/String;" .null := D56 (Or.inr (hw _ (List.mem_of_getElem? (i := 90) rfl))) (ty := (.object "java/lang/String")) (by decide)
  have F80 : Fld Z h56 b56 "com/example/disk_to_queue/disktoqueue/store/TopicQueue" "queueId" "I" (.int (0 : Int32)) := D56 (Or.inr (hw _ (List.mem_of_getElem? (i := 92) rfl))) (ty := .int) (by decide)
  have F81 : Fld Z h56 b56 "com/example/disk_to_queue/disktoqueue/store/TopicQueue" "topicBytes" "[B" .null := D56 (Or.inr (hw _ (List.mem_of_getElem? (i := 94) rfl))) (ty := (.array .byte)) (by decide)
  have k82 : ∀ t, Steps p.tables e below (T56.setTop (mkF m 136 #[.val (.int p1), .val (.int p2), .val (.int p3), .val (.int p4), .val (.int p5), .val (.int L1), .val (.int X1), .val (.int Y1), .val (.int L2), .val (.int X2), .val (.int Y2), .val (.int I2), .val (.ref r31), .val (.ref r40), .unset, .unset, .unset, .unset, .unset, .unset, .unset, .unset, .unset] [(.ref b56)])) t → Steps p.tables e below (s₁.setTop (entryFrame m #[(.int p1), (.int p2), (.int p3), (.int p4), (.int p5)] maxLocals)) t := fun t kt => k55 t (st56 t kt)
  have k83 : ∀ t, Steps p.tables e below (T56.setTop (mkF m 140 #[.val (.int p1), .val (.int p2), .val (.int p3), .val (.int p4), .val (.int p5), .val (.int L1), .val (.int X1), .val (.int Y1), .val (.int L2), .val (.int X2), .val (.int Y2), .val (.int I2), .val (.ref r31), .val (.ref r40), .unset, .unset, .unset, .unset, .unset, .unset, .unset, .unset, .unset] [(.int p1), (.ref r31), (.ref b56), (.ref b56)])) t → Steps p.tables e below (s₁.setTop (entryFrame m #[(.int p1), (.int p2), (.int p3), (.int p4), (.int p5)] maxLocals)) t := by
    intro t kt
    refine k82 t ?_
    show Steps p.tables e below (T56.setTop (mkF m 136 #[.val (.int p1), .val (.int p2), .val (.int p3), .val (.int p4), .val (.int p5), .val (.int L1), .val (.int X1), .val (.int Y1), .val (.int L2), .val (.int X2), .val (.int Y2), .val (.int I2), .val (.ref r31), .val (.ref r40), .unset, .unset, .unset, .unset, .unset, .unset, .unset, .unset, .unset] [(.ref b56)])) t
    refine XS.dup X56.here hx rfl (hb hby at_136) rfl rfl ?_
    show Steps p.tables e below (T56.setTop (mkF m 137 #[.val (.int p1), .val (.int p2), .val (.int p3), .val (.int p4), .val (.int p5), .val (.int L1), .val (.int X1), .val (.int Y1), .val (.int L2), .val (.int X2), .val (.int Y2), .val (.int I2), .val (.ref r31), .val (.ref r40), .unset, .unset, .unset, .unset, .unset, .unset, .unset, .unset, .unset] [(.ref b56), (.ref b56)])) t
    refine XS.aload X56.here hx rfl (hb hby at_137) rfl rfl ?_
    show Steps p.tables e below (T56.setTop (mkF m 139 #[.val (.int p1), .val (.int p2), .val (.int p3), .val (.int p4), .val (.int p5), .val (.int L1), .val (.int X1), .val (.int Y1), .val (.int L2), .val (.int X2), .val (.int Y2), .val (.int I2), .val (.ref r31), .val (.ref r40), .unset, .unset, .unset, .unset, .unset, .unset, .unset, .unset, .unset] [(.ref r31), (.ref b56), (.ref b56)])) t
    refine XS.iloadN X56.here hx rfl (hb hby at_139) rfl ?_
    exact kt
  obtain ⟨_, _, ⟨T84, L84, k84c, n84⟩, -, Y84, hS84p, hg84, ⟨Lc84, hQ84, l84, y84, z84, Cn84⟩, st84⟩ := X56.specialBackS hx (y := (⟨"com/example/disk_to_queue/disktoqueue/store/TopicQueue", "<init>", "(Ljava/lang/String;I)V"⟩ : MethodName)) rfl hown40 (mvT hZ40 (hw _ (List.mem_of_getElem? (i := 38) rfl))) (mvT hZ40 (hw _ (List.mem_of_getElem? (i := 39) rfl))) (mvT hZ40 (hw _ (List.mem_of_getElem? (i := 40) rfl))) (by decide) (own_backSH (s := s) (vm0 := T40.vm) (W := 1) (rmT2 l Z a0 hw [] b56 r31 p1 aU cs b31 c31k L1 (X1.toInt8.toInt32) (Y1.toInt8.toInt32) h56 n0 Z56 F64 RC hcs RU RS F79 F80 F81 A56 g_b56 F68 F69 F70 F71 F72 hL1 (Ne.symm ne58) (Ne.symm ne59)) hZ40 (hw _ (List.mem_of_getElem? (i := 40) rfl)) (hw _ (List.mem_of_getElem? (i := 37) rfl)) (by decide) (by decide) hEL C63.1 (own_slS A56.lt F62 (fun _ q => nomatch q))) (g := (mkF m 140 #[.val (.int p1), .val (.int p2), .val (.int p3), .val (.int p4), .val (.int p5), .val (.int L1), .val (.int X1), .val (.int Y1), .val (.int L2), .val (.int X2), .val (.int Y2), .val (.int I2), .val (.ref r31), .val (.ref r40), .unset, .unset, .unset, .unset, .unset, .unset, .unset, .unset, .unset] [(.int p1), (.ref r31), (.ref b56), (.ref b56)])) rfl (by rw [hml]; rfl) (Steps.refl _) (a := b56) (argsL := [(.ref r31), (.int p1)]) (rest := [(.ref b56)]) (lenOf own_pd20 rfl) rfl (by show 2 * 0 + _ ≤ _; exact Nat.le_of_eq rfl) (hb hby at_140) (fun _ _ => ⟨rfl, e56, (by decide : 9 + 4 ≤ _), (by decide : 19 + 31 ≤ _)⟩)
  dsimp only [Pt.U, Pt.locs, Pt.cells, Pt.slots] at Y84 hS84p hg84 l84 y84 z84 st84 hQ84 Cn84
  subst l84 y84 z84
  obtain ⟨X84, hS84, hZ84, hown84⟩ := rebS hS40 (by rw [e56]; exact hk_78) Y84 hS84p hg84 hZ40 hown40
  have hk84 := Nat.le_refl T84.heap.size
  obtain ⟨rfl, N84q, K84k, -, Ft84, Fi84⟩ := hQ84
  have N84 := Fr.app N40 N84q
  have F85 := CHr.safe Cn84 A56.lt F62
  have C86 := CHr.trans C63 Cn84
  have F87 := F64.keep K84k (allS g_b56 all0)
  have F88 := Sta.ext F87.2 RC
  have F89 := Sta.ext F87.2 RU
  have F90 := Sta.ext F87.2 RS
  have F91 := F68.keep K84k
  have F92 := F69.keep K84k (ninS ne58 nin0)
  have F93 := F70.keep K84k (ninS ne58 nin0)
  have F94 := F71.keep K84k (ninS ne59 nin0)
  have F95 := F72.keep K84k
  have F96 := F73.keep K84k
  have F97 := F74.keep K84k (ninS ne60 nin0)
  have F98 := F75.keep K84k (ninS ne60 nin0)
  have F99 := F76.keep K84k (ninS ne61 nin0)
  have F100 := F77.keep K84k
  have F101 := A56.keep K84k
  have Z105 : n0 ≤ T84.heap.size := Nat.le_trans Z56 K84k.1
  have K105 : Keep h0 T84.heap [] := K56.trans K84k (allS (Or.inr sz_b56) all0)
  have k106 : ∀ t, Steps p.tables e below (T84.setTop (mkF m 143 #[.val (.int p1), .val (.int p2), .val (.int p3), .val (.int p4), .val (.int p5), .val (.int L1), .val (.int X1), .val (.int Y1), .val (.int L2), .val (.int X2), .val (.int Y2), .val (.int I2), .val (.ref r31), .val (.ref r40), .unset, .unset, .unset, .unset, .unset, .unset, .unset, .unset, .unset] [(.ref b56)])) t → Steps p.tables e below (s₁.setTop (entryFrame m #[(.int p1), (.int p2), (.int p3), (.int p4), (.int p5)] maxLocals)) t := fun t kt => k83 t (st84.trans kt)
  have k107 : ∀ t, Steps p.tables e below (T84.setTop (mkF m 145 #[.val (.int p1), .val (.int p2), .val (.int p3), .val (.int p4), .val (.int p5), .val (.int L1), .val (.int X1), .val (.int Y1), .val (.int L2), .val (.int X2), .val (.int Y2), .val (.int I2), .val (.ref r31), .val (.ref r40), .val (.ref b56), .unset, .unset, .unset, .unset, .unset, .unset, .unset, .unset] [])) t → Steps p.tables e below (s₁.setTop (entryFrame m #[(.int p1), (.int p2), (.int p3), (.int p4), (.int p5)] maxLocals)) t := by
    intro t kt
    refine k106 t ?_
    show Steps p.tables e below (T84.setTop (mkF m 143 #[.val (.int p1), .val (.int p2), .val (.int p3), .val (.int p4), .val (.int p5), .val (.int L1), .val (.int X1), .val (.int Y1), .val (.int L2), .val (.int X2), .val (.int Y2), .val (.int I2), .val (.ref r31), .val (.ref r40), .unset, .unset, .unset, .unset, .unset, .unset, .unset, .unset, .unset] [(.ref b56)])) t
    refine XS.astore X84.here hx rfl (hb hby at_143) rfl rfl (l' := #[.val (.int p1), .val (.int p2), .val (.int p3), .val (.int p4), .val (.int p5), .val (.int L1), .val (.int X1), .val (.int Y1), .val (.int L2), .val (.int X2), .val (.int Y2), .val (.int I2), .val (.ref r31), .val (.ref r40), .val (.ref b56), .unset, .unset, .unset, .unset, .unset, .unset, .unset, .unset]) rfl ?_
    exact kt
  obtain ⟨T108, h108, X108, e108, E108, A108, D108, -, st108⟩ := newO X84 hx hZ84 hown84 (hw _ (List.mem_of_getElem? (i := 35) rfl)) (hw _ (List.mem_of_getElem? (i := 36) rfl)) (hw _ (List.mem_of_getElem? (i := 37) rfl)) rfl (g := (mkF m 145 #[.val (.int p1), .val (.int p2), .val (.int p3), .val (.int p4), .val (.int p5), .val (.int L1), .val (.int X1), .val (.int Y1), .val (.int L2), .val (.int X2), .val (.int Y2), .val (.int I2), .val (.ref r31), .val (.ref r40), .val (.ref b56), .unset, .unset, .unset, .unset, .unset, .unset, .unset, .unset] [])) rfl (hb hby at_145) (by decide) (by decide)
  obtain ⟨b108, g108⟩ : ∃ z, z = T84.heap.size := ⟨_, rfl⟩
  rw [← g108] at A108 D108 st108
  have F109 : Safe Z own_EL T84.vm T84.heap b108 := Safe.new (Nat.le_of_eq g108.symm)
  have g_b108 : n0 ≤ b108 := Nat.le_trans Z105 (Nat.le_of_eq g108.symm)
  have sz_b108 : h0.size ≤ b108 := Nat.le_trans K105.1 (Nat.le_of_eq g108.symm)
  have ne110 : r31 ≠ b108 := Nat.ne_of_lt (Nat.lt_of_lt_of_le F91.lt (Nat.le_of_eq g108.symm))
  have ne111 : b31 ≠ b108 := Nat.ne_of_lt (Nat.lt_of_lt_of_le F94.lt (Nat.le_of_eq g108.symm))
  have ne112 : r40 ≠ b108 := Nat.ne_of_lt (Nat.lt_of_lt_of_le F96.lt (Nat.le_of_eq g108.symm))
  have ne113 : b40 ≠ b108 := Nat.ne_of_lt (Nat.lt_of_lt_of_le F99.lt (Nat.le_of_eq g108.symm))
  have ne114 : b56 ≠ b108 := Nat.ne_of_lt (Nat.lt_of_lt_of_le F101.lt (Nat.le_of_eq g108.symm))
  have F115 := Safe.ext E108 C86.1 F85
  have F116 := Safe.ext E108 C86.1 F109
  have C117 := CHr.trans C86 (CHr.ext E108 C86.1)
  have F118 := F87.ext E108
  have F119 := F88.ext E108
  have F120 := F89.ext E108
  have F121 := F90.ext E108
  have F122 := F91.ext E108
  have F123 := F92.ext E108
  have F124 := F93.ext E108
  have F125 := F94.ext E108
  have F126 := F95.ext E108
  have F127 := F96.ext E108
  have F128 := F97.ext E108
  have F129 := F98.ext E108
  have F130 := F99.ext E108
  have F131 := F100.ext E108
  have F132 := F101.ext E108
  have F133 := Ft84.ext E108
  have F134 := Fi84.ext E108
  have hk_135 := Nat.le_trans hk84 E108.1
  have Z108 : n0 ≤ h108.size := Nat.le_trans Z105 E108.1
  have K108 : Keep h0 h108 [] := K105.ext E108
  have F136 : Fld Z h108 b108 "com/example/disk_to_queue/disktoqueue/store/TopicQueue" "topic" "Ljava/lang/String;" .null := D108 (Or.inr (hw _ (List.mem_of_getElem? (i := 90) rfl))) (ty := (.object "java/lang/String")) (by decide)
  have F137 : Fld Z h108 b108 "com/example/disk_to_queue/disktoqueue/store/TopicQueue" "queueId" "I" (.int (0 : Int32)) := D108 (Or.inr (hw _ (List.mem_of_getElem? (i := 92) rfl))) (ty := .int) (by decide)
  have F138 : Fld Z h108 b108 "com/example/disk_to_queue/disktoqueue/store/TopicQueue" "topicBytes" "[B" .null := D108 (Or.inr (hw _ (List.mem_of_getElem? (i := 94) rfl))) (ty := (.array .byte)) (by decide)
  have k139 : ∀ t, Steps p.tables e below (T108.setTop (mkF m 148 #[.val (.int p1), .val (.int p2), .val (.int p3), .val (.int p4), .val (.int p5), .val (.int L1), .val (.int X1), .val (.int Y1), .val (.int L2), .val (.int X2), .val (.int Y2), .val (.int I2), .val (.ref r31), .val (.ref r40), .val (.ref b56), .unset, .unset, .unset, .unset, .unset, .unset, .unset, .unset] [(.ref b108)])) t → Steps p.tables e below (s₁.setTop (entryFrame m #[(.int p1), (.int p2), (.int p3), (.int p4), (.int p5)] maxLocals)) t := fun t kt => k107 t (st108 t kt)
  have k140 : ∀ t, Steps p.tables e below (T108.setTop (mkF m 153 #[.val (.int p1), .val (.int p2), .val (.int p3), .val (.int p4), .val (.int p5), .val (.int L1), .val (.int X1), .val (.int Y1), .val (.int L2), .val (.int X2), .val (.int Y2), .val (.int I2), .val (.ref r31), .val (.ref r40), .val (.ref b56), .unset, .unset, .unset, .unset, .unset, .unset, .unset, .unset] [(.int I2), (.ref r40), (.ref b108), (.ref b108)])) t → Steps p.tables e below (s₁.setTop (entryFrame m #[(.int p1), (.int p2), (.int p3), (.int p4), (.int p5)] maxLocals)) t := by
    intro t kt
    refine k139 t ?_
    show Steps p.tables e below (T108.setTop (mkF m 148 #[.val (.int p1), .val (.int p2), .val (.int p3), .val (.int p4), .val (.int p5), .val (.int L1), .val (.int X1), .val (.int Y1), .val (.int L2), .val (.int X2), .val (.int Y2), .val (.int I2), .val (.ref r31), .val (.ref r40), .val (.ref b56), .unset, .unset, .unset, .unset, .unset, .unset, .unset, .unset] [(.ref b108)])) t
    refine XS.dup X108.here hx rfl (hb hby at_148) rfl rfl ?_
    show Steps p.tables e below (T108.setTop (mkF m 149 #[.val (.int p1), .val (.int p2), .val (.int p3), .val (.int p4), .val (.int p5), .val (.int L1), .val (.int X1), .val (.int Y1), .val (.int L2), .val (.int X2), .val (.int Y2), .val (.int I2), .val (.ref r31), .val (.ref r40), .val (.ref b56), .unset, .unset, .unset, .unset, .unset, .unset, .unset, .unset] [(.ref b108), (.ref b108)])) t
    refine XS.aload X108.here hx rfl (hb hby at_149) rfl rfl ?_
    show Steps p.tables e below (T108.setTop (mkF m 151 #[.val (.int p1), .val (.int p2), .val (.int p3), .val (.int p4), .val (.int p5), .val (.int L1), .val (.int X1), .val (.int Y1), .val (.int L2), .val (.int X2), .val (.int Y2), .val (.int I2), .val (.ref r31), .val (.ref r40), .val (.ref b56), .unset, .unset, .unset, .unset, .unset, .unset, .unset, .unset] [(.ref r40), (.ref b108), (.ref b108)])) t
    refine XS.iload X108.here hx rfl (hb hby at_151) rfl ?_
    exact kt
  obtain ⟨_, _, ⟨T141, L141, k141c, n141⟩, -, Y141, hS141p, hg141, ⟨Lc141, hQ141, l141, y141, z141, Cn141⟩, st141⟩ := X108.specialBackS hx (y := (⟨"com/example/disk_to_queue/disktoqueue/store/TopicQueue", "<init>", "(Ljava/lang/String;I)V"⟩ : MethodName)) rfl hown84 (mvT hZ84 (hw _ (List.mem_of_getElem? (i := 38) rfl))) (mvT hZ84 (hw _ (List.mem_of_getElem? (i := 39) rfl))) (mvT hZ84 (hw _ (List.mem_of_getElem? (i := 40) rfl))) (by decide) (own_backSH (s := s) (vm0 := T84.vm) (W := 1) (rmT2 l Z a0 hw [] b108 r40 I2 aU cs b40 c40k L2 (X2.toInt8.toInt32) (Y2.toInt8.toInt32) h108 n0 Z108 F118 RC hcs RU RS F136 F137 F138 A108 g_b108 F127 F128 F129 F130 F131 hL2 (Ne.symm ne112) (Ne.symm ne113)) hZ84 (hw _ (List.mem_of_getElem? (i := 40) rfl)) (hw _ (List.mem_of_getElem? (i := 37) rfl)) (by decide) (by decide) hEL C117.1 (own_slS A108.lt F116 (fun _ q => nomatch q))) (g := (mkF m 153 #[.val (.int p1), .val (.int p2), .val (.int p3), .val (.int p4), .val (.int p5), .val (.int L1), .val (.int X1), .val (.int Y1), .val (.int L2), .val (.int X2), .val (.int Y2), .val (.int I2), .val (.ref r31), .val (.ref r40), .val (.ref b56), .unset, .unset, .unset, .unset, .unset, .unset, .unset, .unset] [(.int I2), (.ref r40), (.ref b108), (.ref b108)])) rfl (by rw [hml]; rfl) (Steps.refl _) (a := b108) (argsL := [(.ref r40), (.int I2)]) (rest := [(.ref b108)]) (lenOf own_pd20 rfl) rfl (by show 2 * 0 + _ ≤ _; exact Nat.le_of_eq rfl) (hb hby at_153) (fun _ _ => ⟨rfl, e108, (by decide : 14 + 4 ≤ _), (by decide : 53 + 31 ≤ _)⟩)
  dsimp only [Pt.U, Pt.locs, Pt.cells, Pt.slots] at Y141 hS141p hg141 l141 y141 z141 st141 hQ141 Cn141
  subst l141 y141 z141
  obtain ⟨X141, hS141, hZ141, hown141⟩ := rebS hS84 (by rw [e108]; exact hk_135) Y141 hS141p hg141 hZ84 hown84
  have hk141 := Nat.le_refl T141.heap.size
  obtain ⟨rfl, N141q, K141k, -, Ft141, Fi141⟩ := hQ141
  have N141 := Fr.app N84 N141q
  have F142 := CHr.safe Cn141 F132.lt F115
  have F143 := CHr.safe Cn141 A108.lt F116
  have C144 := CHr.trans C117 Cn141
  have F145 := F118.keep K141k (allS g_b108 all0)
  have F146 := Sta.ext F145.2 RC
  have F147 := Sta.ext F145.2 RU
  have F148 := Sta.ext F145.2 RS
  have F149 := F122.keep K141k
  have F150 := F123.keep K141k (ninS ne110 nin0)
  have F151 := F124.keep K141k (ninS ne110 nin0)
  have F152 := F125.keep K141k (ninS ne111 nin0)
  have F153 := F126.keep K141k
  have F154 := F127.keep K141k
  have F155 := F128.keep K141k (ninS ne112 nin0)
  have F156 := F129.keep K141k (ninS ne112 nin0)
  have F157 := F130.keep K141k (ninS ne113 nin0)
  have F158 := F131.keep K141k
  have F159 := F132.keep K141k
  have F160 := F133.keep K141k (ninS ne114 nin0)
  have F161 := F134.keep K141k (ninS ne114 nin0)
  have F162 := A108.keep K141k
  have Z166 : n0 ≤ T141.heap.size := Nat.le_trans Z108 K141k.1
  have K166 : Keep h0 T141.heap [] := K108.trans K141k (allS (Or.inr sz_b108) all0)
  have k167 : ∀ t, Steps p.tables e below (T141.setTop (mkF m 156 #[.val (.int p1), .val (.int p2), .val (.int p3), .val (.int p4), .val (.int p5), .val (.int L1), .val (.int X1), .val (.int Y1), .val (.int L2), .val (.int X2), .val (.int Y2), .val (.int I2), .val (.ref r31), .val (.ref r40), .val (.ref b56), .unset, .unset, .unset, .unset, .unset, .unset, .unset, .unset] [(.ref b108)])) t → Steps p.tables e below (s₁.setTop (entryFrame m #[(.int p1), (.int p2), (.int p3), (.int p4), (.int p5)] maxLocals)) t := fun t kt => k140 t (st141.trans kt)
  have k168 : ∀ t, Steps p.tables e below (T141.setTop (mkF m 162 #[.val (.int p1), .val (.int p2), .val (.int p3), .val (.int p4), .val (.int p5), .val (.int L1), .val (.int X1), .val (.int Y1), .val (.int L2), .val (.int X2), .val (.int Y2), .val (.int I2), .val (.ref r31), .val (.ref r40), .val (.ref b56), .val (.ref b108), .unset, .unset, .unset, .unset, .unset, .unset, .unset] [(.int L2), (.int L1)])) t → Steps p.tables e below (s₁.setTop (entryFrame m #[(.int p1), (.int p2), (.int p3), (.int p4), (.int p5)] maxLocals)) t := by
    intro t kt
    refine k167 t ?_
    show Steps p.tables e below (T141.setTop (mkF m 156 #[.val (.int p1), .val (.int p2), .val (.int p3), .val (.int p4), .val (.int p5), .val (.int L1), .val (.int X1), .val (.int Y1), .val (.int L2), .val (.int X2), .val (.int Y2), .val (.int I2), .val (.ref r31), .val (.ref r40), .val (.ref b56), .unset, .unset, .unset, .unset, .unset, .unset, .unset, .unset] [(.ref b108)])) t
    refine XS.astore X141.here hx rfl (hb hby at_156) rfl rfl (l' := #[.val (.int p1), .val (.int p2), .val (.int p3), .val (.int p4), .val (.int p5), .val (.int L1), .val (.int X1), .val (.int Y1), .val (.int L2), .val (.int X2), .val (.int Y2), .val (.int I2), .val (.ref r31), .val (.ref r40), .val (.ref b56), .val (.ref b108), .unset, .unset, .unset, .unset, .unset, .unset, .unset]) rfl ?_
    show Steps p.tables e below (T141.setTop (mkF m 158 #[.val (.int p1), .val (.int p2), .val (.int p3), .val (.int p4), .val (.int p5), .val (.int L1), .val (.int X1), .val (.int Y1), .val (.int L2), .val (.int X2), .val (.int Y2), .val (.int I2), .val (.ref r31), .val (.ref r40), .val (.ref b56), .val (.ref b108), .unset, .unset, .unset, .unset, .unset, .unset, .unset] [])) t
    refine XS.iload X141.here hx rfl (hb hby at_158) rfl ?_
    show Steps p.tables e below (T141.setTop (mkF m 160 #[.val (.int p1), .val (.int p2), .val (.int p3), .val (.int p4), .val (.int p5), .val (.int L1), .val (.int X1), .val (.int Y1), .val (.int L2), .val (.int X2), .val (.int Y2), .val (.int I2), .val (.ref r31), .val (.ref r40), .val (.ref b56), .val (.ref b108), .unset, .unset, .unset, .unset, .unset, .unset, .unset] [(.int L1)])) t
    refine XS.iload X141.here hx rfl (hb hby at_160) rfl ?_
    exact kt
  have k169 : ∀ t, Steps p.tables e below (T141.setTop (mkF m 196 #[.val (.int p1), .val (.int p2), .val (.int p3), .val (.int p4), .val (.int p5), .val (.int L1), .val (.int X1), .val (.int Y1), .val (.int L2), .val (.int X2), .val (.int Y2), .val (.int I2), .val (.ref r31), .val (.ref r40), .val (.ref b56), .val (.ref b108), .unset, .unset, .unset, .unset, .unset, .unset, .unset] [(.int (own_sm L1 L2 X1 X2 Y1 Y2))])) t → Steps p.tables e below (s₁.setTop (entryFrame m #[(.int p1), (.int p2), (.int p3), (.int p4), (.int p5)] maxLocals)) t := by
    intro t kt
    by_cases hc162_170 : L1 = L2
    · have k172 : ∀ t, Steps p.tables e below (T141.setTop (mkF m 168 #[.val (.int p1), .val (.int p2), .val (.int p3), .val (.int p4), .val (.int p5), .val (.int L1), .val (.int X1), .val (.int Y1), .val (.int L2), .val (.int X2), .val (.int Y2), .val (.int I2), .val (.ref r31), .val (.ref r40), .val (.ref b56), .val (.ref b108), .unset, .unset, .unset, .unset, .unset, .unset, .unset] [(.int (1 : Int32)), (.int L1)])) t → Steps p.tables e below (s₁.setTop (entryFrame m #[(.int p1), (.int p2), (.int p3), (.int p4), (.int p5)] maxLocals)) t := by
        intro t kt
        refine k168 t ?_
        show Steps p.tables e below (T141.setTop (mkF m 162 #[.val (.int p1), .val (.int p2), .val (.int p3), .val (.int p4), .val (.int p5), .val (.int L1), .val (.int X1), .val (.int Y1), .val (.int L2), .val (.int X2), .val (.int Y2), .val (.int I2), .val (.ref r31), .val (.ref r40), .val (.ref b56), .val (.ref b108), .unset, .unset, .unset, .unset, .unset, .unset, .unset] [(.int L2), (.int L1)])) t
        refine XS.icmpNo X141.here hx rfl (hb hby at_162) rfl (teq hc162_170).2 ?_
        show Steps p.tables e below (T141.setTop (mkF m 165 #[.val (.int p1), .val (.int p2), .val (.int p3), .val (.int p4), .val (.int p5), .val (.int L1), .val (.int X1), .val (.int Y1), .val (.int L2), .val (.int X2), .val (.int Y2), .val (.int I2), .val (.ref r31), .val (.ref r40), .val (.ref b56), .val (.ref b108), .unset, .unset, .unset, .unset, .unset, .unset, .unset] [])) t
        refine XS.iload X141.here hx rfl (hb hby at_165) rfl ?_
        show Steps p.tables e below (T141.setTop (mkF m 167 #[.val (.int p1), .val (.int p2), .val (.int p3), .val (.int p4), .val (.int p5), .val (.int L1), .val (.int X1), .val (.int Y1), .val (.int L2), .val (.int X2), .val (.int Y2), .val (.int I2), .val (.ref r31), .val (.ref r40), .val (.ref b56), .val (.ref b108), .unset, .unset, .unset, .unset, .unset, .unset, .unset] [(.int L1)])) t
        refine XS.iconst X141.here hx rfl (hb hby at_167) ?_
        exact kt
      by_cases hc168_171 : L1 < (1 : Int32)
      · have k174 : ∀ t, Steps p.tables e below (T141.setTop (mkF m 181 #[.val (.int p1), .val (.int p2), .val (.int p3), .val (.int p4), .val (.int p5), .val (.int L1), .val (.int X1), .val (.int Y1), .val (.int L2), .val (.int X2), .val (.int Y2), .val (.int I2), .val (.ref r31), .val (.ref r40), .val (.ref b56), .val (.ref b108), .unset, .unset, .unset, .unset, .unset, .unset, .unset] [(.int (2 : Int32)), (.int L1)])) t → Steps p.tables e below (s₁.setTop (entryFrame m #[(.int p1), (.int p2), (.int p3), (.int p4), (.int p5)] maxLocals)) t := by
          intro t kt
          refine k172 t ?_
          show Steps p.tables e below (T141.setTop (mkF m 168 #[.val (.int p1), .val (.int p2), .val (.int p3), .val (.int p4), .val (.int p5), .val (.int L1), .val (.int X1), .val (.int Y1), .val (.int L2), .val (.int X2), .val (.int Y2), .val (.int I2), .val (.ref r31), .val (.ref r40), .val (.ref b56), .val (.ref b108), .unset, .unset, .unset, .unset, .unset, .unset, .unset] [(.int (1 : Int32)), (.int L1)])) t
          refine XS.icmpYes X141.here hx rfl (pc0 := 168) (pc' := 178) rfl (hb hby at_168) rfl (tlt hc168_171).1 (by decide) (by decide) ?_
          show Steps p.tables e below (T141.setTop (mkF m 178 #[.val (.int p1), .val (.int p2), .val (.int p3), .val (.int p4), .val (.int p5), .val (.int L1), .val (.int X1), .val (.int Y1), .val (.int L2), .val (.int X2), .val (.int Y2), .val (.int I2), .val (.ref r31), .val (.ref r40), .val (.ref b56), .val (.ref b108), .unset, .unset, .unset, .unset, .unset, .unset, .unset] [])) t
          refine XS.iload X141.here hx rfl (hb hby at_178) rfl ?_
          show Steps p.tables e below (T141.setTop (mkF m 180 #[.val (.int p1), .val (.int p2), .val (.int p3), .val (.int p4), .val (.int p5), .val (.int L1), .val (.int X1), .val (.int Y1), .val (.int L2), .val (.int X2), .val (.int Y2), .val (.int I2), .val (.ref r31), .val (.ref r40), .val (.ref b56), .val (.ref b108), .unset, .unset, .unset, .unset, .unset, .unset, .unset] [(.int L1)])) t
          refine XS.iconst X141.here hx rfl (hb hby at_180) ?_
          exact kt
        by_cases hc181_173 : L1 < (2 : Int32)
        · have k175 : ∀ t, Steps p.tables e below (T141.setTop (mkF m 196 #[.val (.int p1), .val (.int p2), .val (.int p3), .val (.int p4), .val (.int p5), .val (.int L1), .val (.int X1), .val (.int Y1), .val (.int L2), .val (.int X2), .val (.int Y2), .val (.int I2), .val (.ref r31), .val (.ref r40), .val (.ref b56), .val (.ref b108), .unset, .unset, .unset, .unset, .unset, .unset, .unset] [(.int (1 : Int32))])) t → Steps p.tables e below (s₁.setTop (entryFrame m #[(.int p1), (.int p2), (.int p3), (.int p4), (.int p5)] maxLocals)) t := by
            intro t kt
            refine k174 t ?_
            show Steps p.tables e below (T141.setTop (mkF m 181 #[.val (.int p1), .val (.int p2), .val (.int p3), .val (.int p4), .val (.int p5), .val (.int L1), .val (.int X1), .val (.int Y1), .val (.int L2), .val (.int X2), .val (.int Y2), .val (.int I2), .val (.ref r31), .val (.ref r40), .val (.ref b56), .val (.ref b108), .unset, .unset, .unset, .unset, .unset, .unset, .unset] [(.int (2 : Int32)), (.int L1)])) t
            refine XS.icmpYes X141.here hx rfl (pc0 := 181) (pc' := 191) rfl (hb hby at_181) rfl (tlt hc181_173).1 (by decide) (by decide) ?_
            show Steps p.tables e below (T141.setTop (mkF m 191 #[.val (.int p1), .val (.int p2), .val (.int p3), .val (.int p4), .val (.int p5), .val (.int L1), .val (.int X1), .val (.int Y1), .val (.int L2), .val (.int X2), .val (.int Y2), .val (.int I2), .val (.ref r31), .val (.ref r40), .val (.ref b56), .val (.ref b108), .unset, .unset, .unset, .unset, .unset, .unset, .unset] [])) t
            refine XS.iconst X141.here hx rfl (hb hby at_191) ?_
            show Steps p.tables e below (T141.setTop (mkF m 192 #[.val (.int p1), .val (.int p2), .val (.int p3), .val (.int p4), .val (.int p5), .val (.int L1), .val (.int X1), .val (.int Y1), .val (.int L2), .val (.int X2), .val (.int Y2), .val (.int I2), .val (.ref r31), .val (.ref r40), .val (.ref b56), .val (.ref b108), .unset, .unset, .unset, .unset, .unset, .unset, .unset] [(.int (1 : Int32))])) t
            refine XS.goto X141.here hx rfl (pc0 := 192) (pc' := 196) rfl (hb hby at_192) (by decide) (by decide) ?_
            exact kt
          rw [show ((own_sm L1 L2 X1 X2 Y1 Y2)) = (1 : Int32) from by first | (unfold own_sm; rw [if_pos hc162_170, if_pos hc168_171, if_pos hc181_173]) | exact if_pos hc162_170 | exact if_neg hc162_170 | exact if_pos hc168_171 | exact if_neg hc168_171 | exact if_pos hc181_173 | exact if_neg hc181_173 | (simp only [hc162_170, hc168_171, hc181_173, own_sm, if_true, if_false]; done) | simp [hc162_170, hc168_171, hc181_173, own_sm]] at kt
          exact k175 t kt
        · have k177 : ∀ t, Steps p.tables e below (T141.setTop (mkF m 188 #[.val (.int p1), .val (.int p2), .val (.int p3), .val (.int p4), .val (.int p5), .val (.int L1), .val (.int X1), .val (.int Y1), .val (.int L2), .val (.int X2), .val (.int Y2), .val (.int I2), .val (.ref r31), .val (.ref r40), .val (.ref b56), .val (.ref b108), .unset, .unset, .unset, .unset, .unset, .unset, .unset] [(.int Y2), (.int Y1)])) t → Steps p.tables e below (s₁.setTop (entryFrame m #[(.int p1), (.int p2), (.int p3), (.int p4), (.int p5)] maxLocals)) t := by
            intro t kt
            refine k174 t ?_
            show Steps p.tables e below (T141.setTop (mkF m 181 #[.val (.int p1), .val (.int p2), .val (.int p3), .val (.int p4), .val (.int p5), .val (.int L1), .val (.int X1), .val (.int Y1), .val (.int L2), .val (.int X2), .val (.int Y2), .val (.int I2), .val (.ref r31), .val (.ref r40), .val (.ref b56), .val (.ref b108), .unset, .unset, .unset, .unset, .unset, .unset, .unset] [(.int (2 : Int32)), (.int L1)])) t
            refine XS.icmpNo X141.here hx rfl (hb hby at_181) rfl (flt hc181_173).1 ?_
            show Steps p.tables e below (T141.setTop (mkF m 184 #[.val (.int p1), .val (.int p2), .val (.int p3), .val (.int p4), .val (.int p5), .val (.int L1), .val (.int X1), .val (.int Y1), .val (.int L2), .val (.int X2), .val (.int Y2), .val (.int I2), .val (.ref r31), .val (.ref r40), .val (.ref b56), .val (.ref b108), .unset, .unset, .unset, .unset, .unset, .unset, .unset] [])) t
            refine XS.iload X141.here hx rfl (hb hby at_184) rfl ?_
            show Steps p.tables e below (T141.setTop (mkF m 186 #[.val (.int p1), .val (.int p2), .val (.int p3), .val (.int p4), .val (.int p5), .val (.int L1), .val (.int X1), .val (.int Y1), .val (.int L2), .val (.int X2), .val (.int Y2), .val (.int I2), .val (.ref r31), .val (.ref r40), .val (.ref b56), .val (.ref b108), .unset, .unset, .unset, .unset, .unset, .unset, .unset] [(.int Y1)])) t
            refine XS.iload X141.here hx rfl (hb hby at_186) rfl ?_
            exact kt
          by_cases hc188_176 : Y1 = Y2
          · have k178 : ∀ t, Steps p.tables e below (T141.setTop (mkF m 196 #[.val (.int p1), .val (.int p2), .val (.int p3), .val (.int p4), .val (.int p5), .val (.int L1), .val (.int X1), .val (.int Y1), .val (.int L2), .val (.int X2), .val (.int Y2), .val (.int I2), .val (.ref r31), .val (.ref r40), .val (.ref b56), .val (.ref b108), .unset, .unset, .unset, .unset, .unset, .unset, .unset] [(.int (1 : Int32))])) t → Steps p.tables e below (s₁.setTop (entryFrame m #[(.int p1), (.int p2), (.int p3), (.int p4), (.int p5)] maxLocals)) t := by
              intro t kt
              refine k177 t ?_
              show Steps p.tables e below (T141.setTop (mkF m 188 #[.val (.int p1), .val (.int p2), .val (.int p3), .val (.int p4), .val (.int p5), .val (.int L1), .val (.int X1), .val (.int Y1), .val (.int L2), .val (.int X2), .val (.int Y2), .val (.int I2), .val (.ref r31), .val (.ref r40), .val (.ref b56), .val (.ref b108), .unset, .unset, .unset, .unset, .unset, .unset, .unset] [(.int Y2), (.int Y1)])) t
              refine XS.icmpNo X141.here hx rfl (hb hby at_188) rfl (teq hc188_176).2 ?_
              show Steps p.tables e below (T141.setTop (mkF m 191 #[.val (.int p1), .val (.int p2), .val (.int p3), .val (.int p4), .val (.int p5), .val (.int L1), .val (.int X1), .val (.int Y1), .val (.int L2), .val (.int X2), .val (.int Y2), .val (.int I2), .val (.ref r31), .val (.ref r40), .val (.ref b56), .val (.ref b108), .unset, .unset, .unset, .unset, .unset, .unset, .unset] [])) t
              refine XS.iconst X141.here hx rfl (hb hby at_191) ?_
              show Steps p.tables e below (T141.setTop (mkF m 192 #[.val (.int p1), .val (.int p2), .val (.int p3), .val (.int p4), .val (.int p5), .val (.int L1), .val (.int X1), .val (.int Y1), .val (.int L2), .val (.int X2), .val (.int Y2), .val (.int I2), .val (.ref r31), .val (.ref r40), .val (.ref b56), .val (.ref b108), .unset, .unset, .unset, .unset, .unset, .unset, .unset] [(.int (1 : Int32))])) t
              refine XS.goto X141.here hx rfl (pc0 := 192) (pc' := 196) rfl (hb hby at_192) (by decide) (by decide) ?_
              exact kt
            rw [show ((own_sm L1 L2 X1 X2 Y1 Y2)) = (1 : Int32) from by first | (unfold own_sm; rw [if_pos hc162_170, if_pos hc168_171, if_neg hc181_173, if_pos hc188_176]) | exact if_pos hc162_170 | exact if_neg hc162_170 | exact if_pos hc168_171 | exact if_neg hc168_171 | exact if_pos hc181_173 | exact if_neg hc181_173 | exact if_pos hc188_176 | exact if_neg hc188_176 | (simp only [hc162_170, hc168_171, hc181_173, hc188_176, own_sm, if_true, if_false]; done) | simp [hc162_170, hc168_171, hc181_173, hc188_176, own_sm]] at kt
            exact k178 t kt
          · have k179 : ∀ t, Steps p.tables e below (T141.setTop (mkF m 196 #[.val (.int p1), .val (.int p2), .val (.int p3), .val (.int p4), .val (.int p5), .val (.int L1), .val (.int X1), .val (.int Y1), .val (.int L2), .val (.int X2), .val (.int Y2), .val (.int I2), .val (.ref r31), .val (.ref r40), .val (.ref b56), .val (.ref b108), .unset, .unset, .unset, .unset, .unset, .unset, .unset] [(.int (0 : Int32))])) t → Steps p.tables e below (s₁.setTop (entryFrame m #[(.int p1), (.int p2), (.int p3), (.int p4), (.int p5)] maxLocals)) t := by
              intro t kt
              refine k177 t ?_
              show Steps p.tables e below (T141.setTop (mkF m 188 #[.val (.int p1), .val (.int p2), .val (.int p3), .val (.int p4), .val (.int p5), .val (.int L1), .val (.int X1), .val (.int Y1), .val (.int L2), .val (.int X2), .val (.int Y2), .val (.int I2), .val (.ref r31), .val (.ref r40), .val (.ref b56), .val (.ref b108), .unset, .unset, .unset, .unset, .unset, .unset, .unset] [(.int Y2), (.int Y1)])) t
              refine XS.icmpYes X141.here hx rfl (pc0 := 188) (pc' := 195) rfl (hb hby at_188) rfl (feq hc188_176).2 (by decide) (by decide) ?_
              show Steps p.tables e below (T141.setTop (mkF m 195 #[.val (.int p1), .val (.int p2), .val (.int p3), .val (.int p4), .val (.int p5), .val (.int L1), .val (.int X1), .val (.int Y1), .val (.int L2), .val (.int X2), .val (.int Y2), .val (.int I2), .val (.ref r31), .val (.ref r40), .val (.ref b56), .val (.ref b108), .unset, .unset, .unset, .unset, .unset, .unset, .unset] [])) t
              refine XS.iconst X141.here hx rfl (hb hby at_195) ?_
              exact kt
            rw [show ((own_sm L1 L2 X1 X2 Y1 Y2)) = (0 : Int32) from by first | (unfold own_sm; rw [if_pos hc162_170, if_pos hc168_171, if_neg hc181_173, if_neg hc188_176]) | exact if_pos hc162_170 | exact if_neg hc162_170 | exact if_pos hc168_171 | exact if_neg hc168_171 | exact if_pos hc181_173 | exact if_neg hc181_173 | exact if_pos hc188_176 | exact if_neg hc188_176 | (simp only [hc162_170, hc168_171, hc181_173, hc188_176, own_sm, if_true, if_false]; done) | simp [hc162_170, hc168_171, hc181_173, hc188_176, own_sm]] at kt
            exact k179 t kt
      · have k181 : ∀ t, Steps p.tables e below (T141.setTop (mkF m 175 #[.val (.int p1), .val (.int p2), .val (.int p3), .val (.int p4), .val (.int p5), .val (.int L1), .val (.int X1), .val (.int Y1), .val (.int L2), .val (.int X2), .val (.int Y2), .val (.int I2), .val (.ref r31), .val (.ref r40), .val (.ref b56), .val (.ref b108), .unset, .unset, .unset, .unset, .unset, .unset, .unset] [(.int X2), (.int X1)])) t → Steps p.tables e below (s₁.setTop (entryFrame m #[(.int p1), (.int p2), (.int p3), (.int p4), (.int p5)] maxLocals)) t := by
          intro t kt
          refine k172 t ?_
          show Steps p.tables e below (T141.setTop (mkF m 168 #[.val (.int p1), .val (.int p2), .val (.int p3), .val (.int p4), .val (.int p5), .val (.int L1), .val (.int X1), .val (.int Y1), .val (.int L2), .val (.int X2), .val (.int Y2), .val (.int I2), .val (.ref r31), .val (.ref r40), .val (.ref b56), .val (.ref b108), .unset, .unset, .unset, .unset, .unset, .unset, .unset] [(.int (1 : Int32)), (.int L1)])) t
          refine XS.icmpNo X141.here hx rfl (hb hby at_168) rfl (flt hc168_171).1 ?_
          show Steps p.tables e below (T141.setTop (mkF m 171 #[.val (.int p1), .val (.int p2), .val (.int p3), .val (.int p4), .val (.int p5), .val (.int L1), .val (.int X1), .val (.int Y1), .val (.int L2), .val (.int X2), .val (.int Y2), .val (.int I2), .val (.ref r31), .val (.ref r40), .val (.ref b56), .val (.ref b108), .unset, .unset, .unset, .unset, .unset, .unset, .unset] [])) t
          refine XS.iload X141.here hx rfl (hb hby at_171) rfl ?_
          show Steps p.tables e below (T141.setTop (mkF m 173 #[.val (.int p1), .val (.int p2), .val (.int p3), .val (.int p4), .val (.int p5), .val (.int L1), .val (.int X1), .val (.int Y1), .val (.int L2), .val (.int X2), .val (.int Y2), .val (.int I2), .val (.ref r31), .val (.ref r40), .val (.ref b56), .val (.ref b108), .unset, .unset, .unset, .unset, .unset, .unset, .unset] [(.int X1)])) t
          refine XS.iload X141.here hx rfl (hb hby at_173) rfl ?_
          exact kt
        by_cases hc175_180 : X1 = X2
        · have k183 : ∀ t, Steps p.tables e below (T141.setTop (mkF m 181 #[.val (.int p1), .val (.int p2), .val (.int p3), .val (.int p4), .val (.int p5), .val (.int L1), .val (.int X1), .val (.int Y1), .val (.int L2), .val (.int X2), .val (.int Y2), .val (.int I2), .val (.ref r31), .val (.ref r40), .val (.ref b56), .val (.ref b108), .unset, .unset, .unset, .unset, .unset, .unset, .unset] [(.int (2 : Int32)), (.int L1)])) t → Steps p.tables e below (s₁.setTop (entryFrame m #[(.int p1), (.int p2), (.int p3), (.int p4), (.int p5)] maxLocals)) t := by
            intro t kt
            refine k181 t ?_
            show Steps p.tables e below (T141.setTop (mkF m 175 #[.val (.int p1), .val (.int p2), .val (.int p3), .val (.int p4), .val (.int p5), .val (.int L1), .val (.int X1), .val (.int Y1), .val (.int L2), .val (.int X2), .val (.int Y2), .val (.int I2), .val (.ref r31), .val (.ref r40), .val (.ref b56), .val (.ref b108), .unset, .unset, .unset, .unset, .unset, .unset, .unset] [(.int X2), (.int X1)])) t
            refine XS.icmpNo X141.here hx rfl (hb hby at_175) rfl (teq hc175_180).2 ?_
            show Steps p.tables e below (T141.setTop (mkF m 178 #[.val (.int p1), .val (.int p2), .val (.int p3), .val (.int p4), .val (.int p5), .val (.int L1), .val (.int X1), .val (.int Y1), .val (.int L2), .val (.int X2), .val (.int Y2), .val (.int I2), .val (.ref r31), .val (.ref r40), .val (.ref b56), .val (.ref b108), .unset, .unset, .unset, .unset, .unset, .unset, .unset] [])) t
            refine XS.iload X141.here hx rfl (hb hby at_178) rfl ?_
            show Steps p.tables e below (T141.setTop (mkF m 180 #[.val (.int p1), .val (.int p2), .val (.int p3), .val (.int p4), .val (.int p5), .val (.int L1), .val (.int X1), .val (.int Y1), .val (.int L2), .val (.int X2), .val (.int Y2), .val (.int I2), .val (.ref r31), .val (.ref r40), .val (.ref b56), .val (.ref b108), .unset, .unset, .unset, .unset, .unset, .unset, .unset] [(.int L1)])) t
            refine XS.iconst X141.here hx rfl (hb hby at_180) ?_
            exact kt
          by_cases hc181_182 : L1 < (2 : Int32)
          · have k184 : ∀ t, Steps p.tables e below (T141.setTop (mkF m 196 #[.val (.int p1), .val (.int p2), .val (.int p3), .val (.int p4), .val (.int p5), .val (.int L1), .val (.int X1), .val (.int Y1), .val (.int L2), .val (.int X2), .val (.int Y2), .val (.int I2), .val (.ref r31), .val (.ref r40), .val (.ref b56), .val (.ref b108), .unset, .unset, .unset, .unset, .unset, .unset, .unset] [(.int (1 : Int32))])) t → Steps p.tables e below (s₁.setTop (entryFrame m #[(.int p1), (.int p2), (.int p3), (.int p4), (.int p5)] maxLocals)) t := by
              intro t kt
              refine k183 t ?_
              show Steps p.tables e below (T141.setTop (mkF m 181 #[.val (.int p1), .val (.int p2), .val (.int p3), .val (.int p4), .val (.int p5), .val (.int L1), .val (.int X1), .val (.int Y1), .val (.int L2), .val (.int X2), .val (.int Y2), .val (.int I2), .val (.ref r31), .val (.ref r40), .val (.ref b56), .val (.ref b108), .unset, .unset, .unset, .unset, .unset, .unset, .unset] [(.int (2 : Int32)), (.int L1)])) t
              refine XS.icmpYes X141.here hx rfl (pc0 := 181) (pc' := 191) rfl (hb hby at_181) rfl (tlt hc181_182).1 (by decide) (by decide) ?_
              show Steps p.tables e below (T141.setTop (mkF m 191 #[.val (.int p1), .val (.int p2), .val (.int p3), .val (.int p4), .val (.int p5), .val (.int L1), .val (.int X1), .val (.int Y1), .val (.int L2), .val (.int X2), .val (.int Y2), .val (.int I2), .val (.ref r31), .val (.ref r40), .val (.ref b56), .val (.ref b108), .unset, .unset, .unset, .unset, .unset, .unset, .unset] [])) t
              refine XS.iconst X141.here hx rfl (hb hby at_191) ?_
              show Steps p.tables e below (T141.setTop (mkF m 192 #[.val (.int p1), .val (.int p2), .val (.int p3), .val (.int p4), .val (.int p5), .val (.int L1), .val (.int X1), .val (.int Y1), .val (.int L2), .val (.int X2), .val (.int Y2), .val (.int I2), .val (.ref r31), .val (.ref r40), .val (.ref b56), .val (.ref b108), .unset, .unset, .unset, .unset, .unset, .unset, .unset] [(.int (1 : Int32))])) t
              refine XS.goto X141.here hx rfl (pc0 := 192) (pc' := 196) rfl (hb hby at_192) (by decide) (by decide) ?_
              exact kt
            rw [show ((own_sm L1 L2 X1 X2 Y1 Y2)) = (1 : Int32) from by first | (unfold own_sm; rw [if_pos hc162_170, if_neg hc168_171, if_pos hc175_180, if_pos hc181_182]) | exact if_pos hc162_170 | exact if_neg hc162_170 | exact if_pos hc168_171 | exact if_neg hc168_171 | exact if_pos hc175_180 | exact if_neg hc175_180 | exact if_pos hc181_182 | exact if_neg hc181_182 | (simp only [hc162_170, hc168_171, hc175_180, hc181_182, own_sm, if_true, if_false]; done) | simp [hc162_170, hc168_171, hc175_180, hc181_182, own_sm]] at kt
            exact k184 t kt
          · have k186 : ∀ t, Steps p.tables e below (T141.setTop (mkF m 188 #[.val (.int p1), .val (.int p2), .val (.int p3), .val (.int p4), .val (.int p5), .val (.int L1), .val (.int X1), .val (.int Y1), .val (.int L2), .val (.int X2), .val (.int Y2), .val (.int I2), .val (.ref r31), .val (.ref r40), .val (.ref b56), .val (.ref b108), .unset, .unset, .unset, .unset, .unset, .unset, .unset] [(.int Y2), (.int Y1)])) t → Steps p.tables e below (s₁.setTop (entryFrame m #[(.int p1), (.int p2), (.int p3), (.int p4), (.int p5)] maxLocals)) t := by
              intro t kt
              refine k183 t ?_
              show Steps p.tables e below (T141.setTop (mkF m 181 #[.val (.int p1), .val (.int p2), .val (.int p3), .val (.int p4), .val (.int p5), .val (.int L1), .val (.int X1), .val (.int Y1), .val (.int L2), .val (.int X2), .val (.int Y2), .val (.int I2), .val (.ref r31), .val (.ref r40), .val (.ref b56), .val (.ref b108), .unset, .unset, .unset, .unset, .unset, .unset, .unset] [(.int (2 : Int32)), (.int L1)])) t
              refine XS.icmpNo X141.here hx rfl (hb hby at_181) rfl (flt hc181_182).1 ?_
              show Steps p.tables e below (T141.setTop (mkF m 184 #[.val (.int p1), .val (.int p2), .val (.int p3), .val (.int p4), .val (.int p5), .val (.int L1), .val (.int X1), .val (.int Y1), .val (.int L2), .val (.int X2), .val (.int Y2), .val (.int I2), .val (.ref r31), .val (.ref r40), .val (.ref b56), .val (.ref b108), .unset, .unset, .unset, .unset, .unset, .unset, .unset] [])) t
              refine XS.iload X141.here hx rfl (hb hby at_184) rfl ?_
              show Steps p.tables e below (T141.setTop (mkF m 186 #[.val (.int p1), .val (.int p2), .val (.int p3), .val (.int p4), .val (.int p5), .val (.int L1), .val (.int X1), .val (.int Y1), .val (.int L2), .val (.int X2), .val (.int Y2), .val (.int I2), .val (.ref r31), .val (.ref r40), .val (.ref b56), .val (.ref b108), .unset, .unset, .unset, .unset, .unset, .unset, .unset] [(.int Y1)])) t
              refine XS.iload X141.here hx rfl (hb hby at_186) rfl ?_
              exact kt
            by_cases hc188_185 : Y1 = Y2
            · have k187 : ∀ t, Steps p.tables e below (T141.setTop (mkF m 196 #[.val (.int p1), .val (.int p2), .val (.int p3), .val (.int p4), .val (.int p5), .val (.int L1), .val (.int X1), .val (.int Y1), .val (.int L2), .val (.int X2), .val (.int Y2), .val (.int I2), .val (.ref r31), .val (.ref r40), .val (.ref b56), .val (.ref b108), .unset, .unset, .unset, .unset, .unset, .unset, .unset] [(.int (1 : Int32))])) t → Steps p.tables e below (s₁.setTop (entryFrame m #[(.int p1), (.int p2), (.int p3), (.int p4), (.int p5)] maxLocals)) t := by
                intro t kt
                refine k186 t ?_
                show Steps p.tables e below (T141.setTop (mkF m 188 #[.val (.int p1), .val (.int p2), .val (.int p3), .val (.int p4), .val (.int p5), .val (.int L1), .val (.int X1), .val (.int Y1), .val (.int L2), .val (.int X2), .val (.int Y2), .val (.int I2), .val (.ref r31), .val (.ref r40), .val (.ref b56), .val (.ref b108), .unset, .unset, .unset, .unset, .unset, .unset, .unset] [(.int Y2), (.int Y1)])) t
                refine XS.icmpNo X141.here hx rfl (hb hby at_188) rfl (teq hc188_185).2 ?_
                show Steps p.tables e below (T141.setTop (mkF m 191 #[.val (.int p1), .val (.int p2), .val (.int p3), .val (.int p4), .val (.int p5), .val (.int L1), .val (.int X1), .val (.int Y1), .val (.int L2), .val (.int X2), .val (.int Y2), .val (.int I2), .val (.ref r31), .val (.ref r40), .val (.ref b56), .val (.ref b108), .unset, .unset, .unset, .unset, .unset, .unset, .unset] [])) t
                refine XS.iconst X141.here hx rfl (hb hby at_191) ?_
                show Steps p.tables e below (T141.setTop (mkF m 192 #[.val (.int p1), .val (.int p2), .val (.int p3), .val (.int p4), .val (.int p5), .val (.int L1), .val (.int X1), .val (.int Y1), .val (.int L2), .val (.int X2), .val (.int Y2), .val (.int I2), .val (.ref r31), .val (.ref r40), .val (.ref b56), .val (.ref b108), .unset, .unset, .unset, .unset, .unset, .unset, .unset] [(.int (1 : Int32))])) t
                refine XS.goto X141.here hx rfl (pc0 := 192) (pc' := 196) rfl (hb hby at_192) (by decide) (by decide) ?_
                exact kt
              rw [show ((own_sm L1 L2 X1 X2 Y1 Y2)) = (1 : Int32) from by first | (unfold own_sm; rw [if_pos hc162_170, if_neg hc168_171, if_pos hc175_180, if_neg hc181_182, if_pos hc188_185]) | exact if_pos hc162_170 | exact if_neg hc162_170 | exact if_pos hc168_171 | exact if_neg hc168_171 | exact if_pos hc175_180 | exact if_neg hc175_180 | exact if_pos hc181_182 | exact if_neg hc181_182 | exact if_pos hc188_185 | exact if_neg hc188_185 | (simp only [hc162_170, hc168_171, hc175_180, hc181_182, hc188_185, own_sm, if_true, if_false]; done) | simp [hc162_170, hc168_171, hc175_180, hc181_182, hc188_185, own_sm]] at kt
              exact k187 t kt
            · have k188 : ∀ t, Steps p.tables e below (T141.setTop (mkF m 196 #[.val (.int p1), .val (.int p2), .val (.int p3), .val (.int p4), .val (.int p5), .val (.int L1), .val (.int X1), .val (.int Y1), .val (.int L2), .val (.int X2), .val (.int Y2), .val (.int I2), .val (.ref r31), .val (.ref r40), .val (.ref b56), .val (.ref b108), .unset, .unset, .unset, .unset, .unset, .unset, .unset] [(.int (0 : Int32))])) t → Steps p.tables e below (s₁.setTop (entryFrame m #[(.int p1), (.int p2), (.int p3), (.int p4), (.int p5)] maxLocals)) t := by
                intro t kt
                refine k186 t ?_
                show Steps p.tables e below (T141.setTop (mkF m 188 #[.val (.int p1), .val (.int p2), .val (.int p3), .val (.int p4), .val (.int p5), .val (.int L1), .val (.int X1), .val (.int Y1), .val (.int L2), .val (.int X2), .val (.int Y2), .val (.int I2), .val (.ref r31), .val (.ref r40), .val (.ref b56), .val (.ref b108), .unset, .unset, .unset, .unset, .unset, .unset, .unset] [(.int Y2), (.int Y1)])) t
                refine XS.icmpYes X141.here hx rfl (pc0 := 188) (pc' := 195) rfl (hb hby at_188) rfl (feq hc188_185).2 (by decide) (by decide) ?_
                show Steps p.tables e below (T141.setTop (mkF m 195 #[.val (.int p1), .val (.int p2), .val (.int p3), .val (.int p4), .val (.int p5), .val (.int L1), .val (.int X1), .val (.int Y1), .val (.int L2), .val (.int X2), .val (.int Y2), .val (.int I2), .val (.ref r31), .val (.ref r40), .val (.ref b56), .val (.ref b108), .unset, .unset, .unset, .unset, .unset, .unset, .unset] [])) t
                refine XS.iconst X141.here hx rfl (hb hby at_195) ?_
                exact kt
              rw [show ((own_sm L1 L2 X1 X2 Y1 Y2)) = (0 : Int32) from by first | (unfold own_sm; rw [if_pos hc162_170, if_neg hc168_171, if_pos hc175_180, if_neg hc181_182, if_neg hc188_185]) | exact if_pos hc162_170 | exact if_neg hc162_170 | exact if_pos hc168_171 | exact if_neg hc168_171 | exact if_pos hc175_180 | exact if_neg hc175_180 | exact if_pos hc181_182 | exact if_neg hc181_182 | exact if_pos hc188_185 | exact if_neg hc188_185 | (simp only [hc162_170, hc168_171, hc175_180, hc181_182, hc188_185, own_sm, if_true, if_false]; done) | simp [hc162_170, hc168_171, hc175_180, hc181_182, hc188_185, own_sm]] at kt
              exact k188 t kt
        · have k189 : ∀ t, Steps p.tables e below (T141.setTop (mkF m 196 #[.val (.int p1), .val (.int p2), .val (.int p3), .val (.int p4), .val (.int p5), .val (.int L1), .val (.int X1), .val (.int Y1), .val (.int L2), .val (.int X2), .val (.int Y2), .val (.int I2), .val (.ref r31), .val (.ref r40), .val (.ref b56), .val (.ref b108), .unset, .unset, .unset, .unset, .unset, .unset, .unset] [(.int (0 : Int32))])) t → Steps p.tables e below (s₁.setTop (entryFrame m #[(.int p1), (.int p2), (.int p3), (.int p4), (.int p5)] maxLocals)) t := by
            intro t kt
            refine k181 t ?_
            show Steps p.tables e below (T141.setTop (mkF m 175 #[.val (.int p1), .val (.int p2), .val (.int p3), .val (.int p4), .val (.int p5), .val (.int L1), .val (.int X1), .val (.int Y1), .val (.int L2), .val (.int X2), .val (.int Y2), .val (.int I2), .val (.ref r31), .val (.ref r40), .val (.ref b56), .val (.ref b108), .unset, .unset, .unset, .unset, .unset, .unset, .unset] [(.int X2), (.int X1)])) t
            refine XS.icmpYes X141.here hx rfl (pc0 := 175) (pc' := 195) rfl (hb hby at_175) rfl (feq hc175_180).2 (by decide) (by decide) ?_
            show Steps p.tables e below (T141.setTop (mkF m 195 #[.val (.int p1), .val (.int p2), .val (.int p3), .val (.int p4), .val (.int p5), .val (.int L1), .val (.int X1), .val (.int Y1), .val (.int L2), .val (.int X2), .val (.int Y2), .val (.int I2), .val (.ref r31), .val (.ref r40), .val (.ref b56), .val (.ref b108), .unset, .unset, .unset, .unset, .unset, .unset, .unset] [])) t
            refine XS.iconst X141.here hx rfl (hb hby at_195) ?_
            exact kt
          rw [show ((own_sm L1 L2 X1 X2 Y1 Y2)) = (0 : Int32) from by first | (unfold own_sm; rw [if_pos hc162_170, if_neg hc168_171, if_neg hc175_180]) | exact if_pos hc162_170 | exact if_neg hc162_170 | exact if_pos hc168_171 | exact if_neg hc168_171 | exact if_pos hc175_180 | exact if_neg hc175_180 | (simp only [hc162_170, hc168_171, hc175_180, own_sm, if_true, if_false]; done) | simp [hc162_170, hc168_171, hc175_180, own_sm]] at kt
          exact k189 t kt
    · have k190 : ∀ t, Steps p.tables e below (T141.setTop (mkF m 196 #[.val (.int p1), .val (.int p2), .val (.int p3), .val (.int p4), .val (.int p5), .val (.int L1), .val (.int X1), .val (.int Y1), .val (.int L2), .val (.int X2), .val (.int Y2), .val (.int I2), .val (.ref r31), .val (.ref r40), .val (.ref b56), .val (.ref b108), .unset, .unset, .unset, .unset, .unset, .unset, .unset] [(.int (0 : Int32))])) t → Steps p.tables e below (s₁.setTop (entryFrame m #[(.int p1), (.int p2), (.int p3), (.int p4), (.int p5)] maxLocals)) t := by
        intro t kt
        refine k168 t ?_
        show Steps p.tables e below (T141.setTop (mkF m 162 #[.val (.int p1), .val (.int p2), .val (.int p3), .val (.int p4), .val (.int p5), .val (.int L1), .val (.int X1), .val (.int Y1), .val (.int L2), .val (.int X2), .val (.int Y2), .val (.int I2), .val (.ref r31), .val (.ref r40), .val (.ref b56), .val (.ref b108), .unset, .unset, .unset, .unset, .unset, .unset, .unset] [(.int L2), (.int L1)])) t
        refine XS.icmpYes X141.here hx rfl (pc0 := 162) (pc' := 195) rfl (hb hby at_162) rfl (feq hc162_170).2 (by decide) (by decide) ?_
        show Steps p.tables e below (T141.setTop (mkF m 195 #[.val (.int p1), .val (.int p2), .val (.int p3), .val (.int p4), .val (.int p5), .val (.int L1), .val (.int X1), .val (.int Y1), .val (.int L2), .val (.int X2), .val (.int Y2), .val (.int I2), .val (.ref r31), .val (.ref r40), .val (.ref b56), .val (.ref b108), .unset, .unset, .unset, .unset, .unset, .unset, .unset] [])) t
        refine XS.iconst X141.here hx rfl (hb hby at_195) ?_
        exact kt
      rw [show ((own_sm L1 L2 X1 X2 Y1 Y2)) = (0 : Int32) from by first | (unfold own_sm; rw [if_neg hc162_170]) | exact if_pos hc162_170 | exact if_neg hc162_170 | (simp only [hc162_170, own_sm, if_true, if_false]; done) | simp [hc162_170, own_sm]] at kt
      exact k190 t kt
  have k191 : ∀ t, Steps p.tables e below (T141.setTop (mkF m 201 #[.val (.int p1), .val (.int p2), .val (.int p3), .val (.int p4), .val (.int p5), .val (.int L1), .val (.int X1), .val (.int Y1), .val (.int L2), .val (.int X2), .val (.int Y2), .val (.int I2), .val (.ref r31), .val (.ref r40), .val (.ref b56), .val (.ref b108), .val (.int (own_sm L1 L2 X1 X2 Y1 Y2)), .unset, .unset, .unset, .unset, .unset, .unset] [(.int I2), (.int p1)])) t → Steps p.tables e below (s₁.setTop (entryFrame m #[(.int p1), (.int p2), (.int p3), (.int p4), (.int p5)] maxLocals)) t := by
    intro t kt
    refine k169 t ?_
    show Steps p.tables e below (T141.setTop (mkF m 196 #[.val (.int p1), .val (.int p2), .val (.int p3), .val (.int p4), .val (.int p5), .val (.int L1), .val (.int X1), .val (.int Y1), .val (.int L2), .val (.int X2), .val (.int Y2), .val (.int I2), .val (.ref r31), .val (.ref r40), .val (.ref b56), .val (.ref b108), .unset, .unset, .unset, .unset, .unset, .unset, .unset] [(.int (own_sm L1 L2 X1 X2 Y1 Y2))])) t
    refine XS.istore X141.here hx rfl (hb hby at_196) rfl (l' := #[.val (.int p1), .val (.int p2), .val (.int p3), .val (.int p4), .val (.int p5), .val (.int L1), .val (.int X1), .val (.int Y1), .val (.int L2), .val (.int X2), .val (.int Y2), .val (.int I2), .val (.ref r31), .val (.ref r40), .val (.ref b56), .val (.ref b108), .val (.int (own_sm L1 L2 X1 X2 Y1 Y2)), .unset, .unset, .unset, .unset, .unset, .unset]) rfl ?_
    show Steps p.tables e below (T141.setTop (mkF m 198 #[.val (.int p1), .val (.int p2), .val (.int p3), .val (.int p4), .val (.int p5), .val (.int L1), .val (.int X1), .val (.int Y1), .val (.int L2), .val (.int X2), .val (.int Y2), .val (.int I2), .val (.ref r31), .val (.ref r40), .val (.ref b56), .val (.ref b108), .val (.int (own_sm L1 L2 X1 X2 Y1 Y2)), .unset, .unset, .unset, .unset, .unset, .unset] [])) t
    refine XS.iloadN X141.here hx rfl (hb hby at_198) rfl ?_
    show Steps p.tables e below (T141.setTop (mkF m 199 #[.val (.int p1), .val (.int p2), .val (.int p3), .val (.int p4), .val (.int p5), .val (.int L1), .val (.int X1), .val (.int Y1), .val (.int L2), .val (.int X2), .val (.int Y2), .val (.int I2), .val (.ref r31), .val (.ref r40), .val (.ref b56), .val (.ref b108), .val (.int (own_sm L1 L2 X1 X2 Y1 Y2)), .unset, .unset, .unset, .unset, .unset, .unset] [(.int p1)])) t
    refine XS.iload X141.here hx rfl (hb hby at_199) rfl ?_
    exact kt
  have k192 : ∀ t, Steps p.tables e below (T141.setTop (mkF m 214 #[.val (.int p1), .val (.int p2), .val (.int p3), .val (.int p4), .val (.int p5), .val (.int L1), .val (.int X1), .val (.int Y1), .val (.int L2), .val (.int X2), .val (.int Y2), .val (.int I2), .val (.ref r31), .val (.ref r40), .val (.ref b56), .val (.ref b108), .val (.int (own_sm L1 L2 X1 X2 Y1 Y2)), .unset, .unset, .unset, .unset, .unset, .unset] [(.int (own_ex p1 I2 (own_sm L1 L2 X1 X2 Y1 Y2)))])) t → Steps p.tables e below (s₁.setTop (entryFrame m #[(.int p1), (.int p2), (.int p3), (.int p4), (.int p5)] maxLocals)) t := by
    intro t kt
    by_cases hc201_193 : p1 = I2
    · have k195 : ∀ t, Steps p.tables e below (T141.setTop (mkF m 206 #[.val (.int p1), .val (.int p2), .val (.int p3), .val (.int p4), .val (.int p5), .val (.int L1), .val (.int X1), .val (.int Y1), .val (.int L2), .val (.int X2), .val (.int Y2), .val (.int I2), .val (.ref r31), .val (.ref r40), .val (.ref b56), .val (.ref b108), .val (.int (own_sm L1 L2 X1 X2 Y1 Y2)), .unset, .unset, .unset, .unset, .unset, .unset] [(.int (own_sm L1 L2 X1 X2 Y1 Y2))])) t → Steps p.tables e below (s₁.setTop (entryFrame m #[(.int p1), (.int p2), (.int p3), (.int p4), (.int p5)] maxLocals)) t := by
        intro t kt
        refine k191 t ?_
        show Steps p.tables e below (T141.setTop (mkF m 201 #[.val (.int p1), .val (.int p2), .val (.int p3), .val (.int p4), .val (.int p5), .val (.int L1), .val (.int X1), .val (.int Y1), .val (.int L2), .val (.int X2), .val (.int Y2), .val (.int I2), .val (.ref r31), .val (.ref r40), .val (.ref b56), .val (.ref b108), .val (.int (own_sm L1 L2 X1 X2 Y1 Y2)), .unset, .unset, .unset, .unset, .unset, .unset] [(.int I2), (.int p1)])) t
        refine XS.icmpNo X141.here hx rfl (hb hby at_201) rfl (teq hc201_193).2 ?_
        show Steps p.tables e below (T141.setTop (mkF m 204 #[.val (.int p1), .val (.int p2), .val (.int p3), .val (.int p4), .val (.int p5), .val (.int L1), .val (.int X1), .val (.int Y1), .val (.int L2), .val (.int X2), .val (.int Y2), .val (.int I2), .val (.ref r31), .val (.ref r40), .val (.ref b56), .val (.ref b108), .val (.int (own_sm L1 L2 X1 X2 Y1 Y2)), .unset, .unset, .unset, .unset, .unset, .unset] [])) t
        refine XS.iload X141.here hx rfl (hb hby at_204) rfl ?_
        exact kt
      by_cases hc206_194 : (own_sm L1 L2 X1 X2 Y1 Y2) = (0 : Int32)
      · have k196 : ∀ t, Steps p.tables e below (T141.setTop (mkF m 214 #[.val (.int p1), .val (.int p2), .val (.int p3), .val (.int p4), .val (.int p5), .val (.int L1), .val (.int X1), .val (.int Y1), .val (.int L2), .val (.int X2), .val (.int Y2), .val (.int I2), .val (.ref r31), .val (.ref r40), .val (.ref b56), .val (.ref b108), .val (.int (own_sm L1 L2 X1 X2 Y1 Y2)), .unset, .unset, .unset, .unset, .unset, .unset] [(.int (0 : Int32))])) t → Steps p.tables e below (s₁.setTop (entryFrame m #[(.int p1), (.int p2), (.int p3), (.int p4), (.int p5)] maxLocals)) t := by
          intro t kt
          refine k195 t ?_
          show Steps p.tables e below (T141.setTop (mkF m 206 #[.val (.int p1), .val (.int p2), .val (.int p3), .val (.int p4), .val (.int p5), .val (.int L1), .val (.int X1), .val (.int Y1), .val (.int L2), .val (.int X2), .val (.int Y2), .val (.int I2), .val (.ref r31), .val (.ref r40), .val (.ref b56), .val (.ref b108), .val (.int (own_sm L1 L2 X1 X2 Y1 Y2)), .unset, .unset, .unset, .unset, .unset, .unset] [(.int (own_sm L1 L2 X1 X2 Y1 Y2))])) t
          refine XS.ifYes X141.here hx rfl (pc0 := 206) (pc' := 213) rfl (hb hby at_206) rfl ((if0 _ _).trans (teq hc206_194).1) (by decide) (by decide) ?_
          show Steps p.tables e below (T141.setTop (mkF m 213 #[.val (.int p1), .val (.int p2), .val (.int p3), .val (.int p4), .val (.int p5), .val (.int L1), .val (.int X1), .val (.int Y1), .val (.int L2), .val (.int X2), .val (.int Y2), .val (.int I2), .val (.ref r31), .val (.ref r40), .val (.ref b56), .val (.ref b108), .val (.int (own_sm L1 L2 X1 X2 Y1 Y2)), .unset, .unset, .unset, .unset, .unset, .unset] [])) t
          refine XS.iconst X141.here hx rfl (hb hby at_213) ?_
          exact kt
        rw [show ((own_ex p1 I2 (own_sm L1 L2 X1 X2 Y1 Y2))) = (0 : Int32) from by first | exact if_pos hc201_193 | exact if_neg hc201_193 | exact if_pos hc206_194 | exact if_neg hc206_194 | (simp only [hc201_193, hc206_194, own_ex, if_true, if_false]; done) | simp [hc201_193, hc206_194, own_ex]] at kt
        exact k196 t kt
      · have k197 : ∀ t, Steps p.tables e below (T141.setTop (mkF m 214 #[.val (.int p1), .val (.int p2), .val (.int p3), .val (.int p4), .val (.int p5), .val (.int L1), .val (.int X1), .val (.int Y1), .val (.int L2), .val (.int X2), .val (.int Y2), .val (.int I2), .val (.ref r31), .val (.ref r40), .val (.ref b56), .val (.ref b108), .val (.int (own_sm L1 L2 X1 X2 Y1 Y2)), .unset, .unset, .unset, .unset, .unset, .unset] [(.int (1 : Int32))])) t → Steps p.tables e below (s₁.setTop (entryFrame m #[(.int p1), (.int p2), (.int p3), (.int p4), (.int p5)] maxLocals)) t := by
          intro t kt
          refine k195 t ?_
          show Steps p.tables e below (T141.setTop (mkF m 206 #[.val (.int p1), .val (.int p2), .val (.int p3), .val (.int p4), .val (.int p5), .val (.int L1), .val (.int X1), .val (.int Y1), .val (.int L2), .val (.int X2), .val (.int Y2), .val (.int I2), .val (.ref r31), .val (.ref r40), .val (.ref b56), .val (.ref b108), .val (.int (own_sm L1 L2 X1 X2 Y1 Y2)), .unset, .unset, .unset, .unset, .unset, .unset] [(.int (own_sm L1 L2 X1 X2 Y1 Y2))])) t
          refine XS.ifNo X141.here hx rfl (hb hby at_206) rfl ((if0 _ _).trans (feq hc206_194).1) ?_
          show Steps p.tables e below (T141.setTop (mkF m 209 #[.val (.int p1), .val (.int p2), .val (.int p3), .val (.int p4), .val (.int p5), .val (.int L1), .val (.int X1), .val (.int Y1), .val (.int L2), .val (.int X2), .val (.int Y2), .val (.int I2), .val (.ref r31), .val (.ref r40), .val (.ref b56), .val (.ref b108), .val (.int (own_sm L1 L2 X1 X2 Y1 Y2)), .unset, .unset, .unset, .unset, .unset, .unset] [])) t
          refine XS.iconst X141.here hx rfl (hb hby at_209) ?_
          show Steps p.tables e below (T141.setTop (mkF m 210 #[.val (.int p1), .val (.int p2), .val (.int p3), .val (.int p4), .val (.int p5), .val (.int L1), .val (.int X1), .val (.int Y1), .val (.int L2), .val (.int X2), .val (.int Y2), .val (.int I2), .val (.ref r31), .val (.ref r40), .val (.ref b56), .val (.ref b108), .val (.int (own_sm L1 L2 X1 X2 Y1 Y2)), .unset, .unset, .unset, .unset, .unset, .unset] [(.int (1 : Int32))])) t
          refine XS.goto X141.here hx rfl (pc0 := 210) (pc' := 214) rfl (hb hby at_210) (by decide) (by decide) ?_
          exact kt
        rw [show ((own_ex p1 I2 (own_sm L1 L2 X1 X2 Y1 Y2))) = (1 : Int32) from by first | exact if_pos hc201_193 | exact if_neg hc201_193 | exact if_pos hc206_194 | exact if_neg hc206_194 | (simp only [hc201_193, hc206_194, own_ex, if_true, if_false]; done) | simp [hc201_193, hc206_194, own_ex]] at kt
        exact k197 t kt
    · have k198 : ∀ t, Steps p.tables e below (T141.setTop (mkF m 214 #[.val (.int p1), .val (.int p2), .val (.int p3), .val (.int p4), .val (.int p5), .val (.int L1), .val (.int X1), .val (.int Y1), .val (.int L2), .val (.int X2), .val (.int Y2), .val (.int I2), .val (.ref r31), .val (.ref r40), .val (.ref b56), .val (.ref b108), .val (.int (own_sm L1 L2 X1 X2 Y1 Y2)), .unset, .unset, .unset, .unset, .unset, .unset] [(.int (0 : Int32))])) t → Steps p.tables e below (s₁.setTop (entryFrame m #[(.int p1), (.int p2), (.int p3), (.int p4), (.int p5)] maxLocals)) t := by
        intro t kt
        refine k191 t ?_
        show Steps p.tables e below (T141.setTop (mkF m 201 #[.val (.int p1), .val (.int p2), .val (.int p3), .val (.int p4), .val (.int p5), .val (.int L1), .val (.int X1), .val (.int Y1), .val (.int L2), .val (.int X2), .val (.int Y2), .val (.int I2), .val (.ref r31), .val (.ref r40), .val (.ref b56), .val (.ref b108), .val (.int (own_sm L1 L2 X1 X2 Y1 Y2)), .unset, .unset, .unset, .unset, .unset, .unset] [(.int I2), (.int p1)])) t
        refine XS.icmpYes X141.here hx rfl (pc0 := 201) (pc' := 213) rfl (hb hby at_201) rfl (feq hc201_193).2 (by decide) (by decide) ?_
        show Steps p.tables e below (T141.setTop (mkF m 213 #[.val (.int p1), .val (.int p2), .val (.int p3), .val (.int p4), .val (.int p5), .val (.int L1), .val (.int X1), .val (.int Y1), .val (.int L2), .val (.int X2), .val (.int Y2), .val (.int I2), .val (.ref r31), .val (.ref r40), .val (.ref b56), .val (.ref b108), .val (.int (own_sm L1 L2 X1 X2 Y1 Y2)), .unset, .unset, .unset, .unset, .unset, .unset] [])) t
        refine XS.iconst X141.here hx rfl (hb hby at_213) ?_
        exact kt
      rw [show ((own_ex p1 I2 (own_sm L1 L2 X1 X2 Y1 Y2))) = (0 : Int32) from by first | exact if_pos hc201_193 | exact if_neg hc201_193 | (simp only [hc201_193, own_ex, if_true, if_false]; done) | simp [hc201_193, own_ex]] at kt
      exact k198 t kt
  have k199 : ∀ t, Steps p.tables e below (T141.setTop (mkF m 220 #[.val (.int p1), .val (.int p2), .val (.int p3), .val (.int p4), .val (.int p5), .val (.int L1), .val (.int X1), .val (.int Y1), .val (.int L2), .val (.int X2), .val (.int Y2), .val (.int I2), .val (.ref r31), .val (.ref r40), .val (.ref b56), .val (.ref b108), .val (.int (own_sm L1 L2 X1 X2 Y1 Y2)), .val (.int (own_ex p1 I2 (own_sm L1 L2 X1 X2 Y1 Y2))), .unset, .unset, .unset, .unset, .unset] [(.ref b108), (.ref b56)])) t → Steps p.tables e below (s₁.setTop (entryFrame m #[(.int p1), (.int p2), (.int p3), (.int p4), (.int p5)] maxLocals)) t := by
    intro t kt
    refine k192 t ?_
    show Steps p.tables e below (T141.setTop (mkF m 214 #[.val (.int p1), .val (.int p2), .val (.int p3), .val (.int p4), .val (.int p5), .val (.int L1), .val (.int X1), .val (.int Y1), .val (.int L2), .val (.int X2), .val (.int Y2), .val (.int I2), .val (.ref r31), .val (.ref r40), .val (.ref b56), .val (.ref b108), .val (.int (own_sm L1 L2 X1 X2 Y1 Y2)), .unset, .unset, .unset, .unset, .unset, .unset] [(.int (own_ex p1 I2 (own_sm L1 L2 X1 X2 Y1 Y2)))])) t
    refine XS.istore X141.here hx rfl (hb hby at_214) rfl (l' := #[.val (.int p1), .val (.int p2), .val (.int p3), .val (.int p4), .val (.int p5), .val (.int L1), .val (.int X1), .val (.int Y1), .val (.int L2), .val (.int X2), .val (.int Y2), .val (.int I2), .val (.ref r31), .val (.ref r40), .val (.ref b56), .val (.ref b108), .val (.int (own_sm L1 L2 X1 X2 Y1 Y2)), .val (.int (own_ex p1 I2 (own_sm L1 L2 X1 X2 Y1 Y2))), .unset, .unset, .unset, .unset, .unset]) rfl ?_
    show Steps p.tables e below (T141.setTop (mkF m 216 #[.val (.int p1), .val (.int p2), .val (.int p3), .val (.int p4), .val (.int p5), .val (.int L1), .val (.int X1), .val (.int Y1), .val (.int L2), .val (.int X2), .val (.int Y2), .val (.int I2), .val (.ref r31), .val (.ref r40), .val (.ref b56), .val (.ref b108), .val (.int (own_sm L1 L2 X1 X2 Y1 Y2)), .val (.int (own_ex p1 I2 (own_sm L1 L2 X1 X2 Y1 Y2))), .unset, .unset, .unset, .unset, .unset] [])) t
    refine XS.aload X141.here hx rfl (hb hby at_216) rfl rfl ?_
    show Steps p.tables e below (T141.setTop (mkF m 218 #[.val (.int p1), .val (.int p2), .val (.int p3), .val (.int p4), .val (.int p5), .val (.int L1), .val (.int X1), .val (.int Y1), .val (.int L2), .val (.int X2), .val (.int Y2), .val (.int I2), .val (.ref r31), .val (.ref r40), .val (.ref b56), .val (.ref b108), .val (.int (own_sm L1 L2 X1 X2 Y1 Y2)), .val (.int (own_ex p1 I2 (own_sm L1 L2 X1 X2 Y1 Y2))), .unset, .unset, .unset, .unset, .unset] [(.ref b56)])) t
    refine XS.aload X141.here hx rfl (hb hby at_218) rfl rfl ?_
    exact kt
  obtain ⟨cq200, kq200, q200a, q200b, q200c⟩ := isOf hZ141 rfl F159
  obtain ⟨_, _, ⟨T200, L200, k200c, n200⟩, -, X200, ⟨Lc200, hQ200, l200, y200, z200⟩, st200⟩ := X141.virtualBack hx (y := (⟨"com/example/disk_to_queue/disktoqueue/store/TopicQueue", "equals", "(Ljava/lang/Object;)Z"⟩ : MethodName)) (z := (⟨"com/example/disk_to_queue/disktoqueue/store/TopicQueue", "equals", "(Ljava/lang/Object;)Z"⟩ : MethodName)) hown141 (mvT hZ141 (hw _ (List.mem_of_getElem? (i := 95) rfl))) (mvT hZ141 (hw _ (List.mem_of_getElem? (i := 96) rfl))) (notFace_of_selects (args := #[]) (mvT hZ141 (hw _ (List.mem_of_getElem? (i := 98) rfl)))) (mvT hZ141 (hw _ (List.mem_of_getElem? (i := 98) rfl))) (mvT hZ141 (hw _ (List.mem_of_getElem? (i := 97) rfl))) (by decide) (backOf (W := 0) (rmQ l Z a0 hw [] b56 b108 p1 I2 r31 r40 b31 b40 L1 L2 (X1.toInt8.toInt32) (Y1.toInt8.toInt32) (X2.toInt8.toInt32) (Y2.toInt8.toInt32) c31k c40k cs T141.heap n0 Z166 F160 F161 Ft141 Fi141 F162 F149 F150 F151 F154 F155 F156 F152 F157 (own_n2 hL1) F146 hcs) hZ141 (hw _ (List.mem_of_getElem? (i := 99) rfl)) (hw _ (List.mem_of_getElem? (i := 37) rfl)) (by decide) (by decide)) q200a q200c (g := (mkF m 220 #[.val (.int p1), .val (.int p2), .val (.int p3), .val (.int p4), .val (.int p5), .val (.int L1), .val (.int X1), .val (.int Y1), .val (.int L2), .val (.int X2), .val (.int Y2), .val (.int I2), .val (.ref r31), .val (.ref r40), .val (.ref b56), .val (.ref b108), .val (.int (own_sm L1 L2 X1 X2 Y1 Y2)), .val (.int (own_ex p1 I2 (own_sm L1 L2 X1 X2 Y1 Y2))), .unset, .unset, .unset, .unset, .unset] [(.ref b108), (.ref b56)])) rfl (by rw [hml]; rfl) (Steps.refl _) (argsL := [(.ref b108)]) (rest := []) (lenOf own_pd18 rfl) rfl (by show 2 * 0 + _ ≤ _; exact Nat.le_of_eq rfl) (hb hby at_220) (fun _ _ => ⟨rfl, rfl, (by decide : 18 + 0 ≤ _), (by decide : 84 + 0 ≤ _)⟩)
  dsimp only [Pt.U, Pt.locs, Pt.cells, Pt.slots] at X200 l200 y200 z200 st200 hQ200
  subst l200 y200 z200
  obtain ⟨rfl, N200q, e200⟩ := hQ200
  have N200 := Fr.app N141 N200q
  have k201 : ∀ t, Steps p.tables e below (T200.setTop (mkF m 223 #[.val (.int p1), .val (.int p2), .val (.int p3), .val (.int p4), .val (.int p5), .val (.int L1), .val (.int X1), .val (.int Y1), .val (.int L2), .val (.int X2), .val (.int Y2), .val (.int I2), .val (.ref r31), .val (.ref r40), .val (.ref b56), .val (.ref b108), .val (.int (own_sm L1 L2 X1 X2 Y1 Y2)), .val (.int (own_ex p1 I2 (own_sm L1 L2 X1 X2 Y1 Y2))), .unset, .unset, .unset, .unset, .unset] [(.int (own_tq p1 I2 (own_se L1 L2 (X1.toInt8.toInt32) (Y1.toInt8.toInt32) (X2.toInt8.toInt32) (Y2.toInt8.toInt32))))])) t → Steps p.tables e below (s₁.setTop (entryFrame m #[(.int p1), (.int p2), (.int p3), (.int p4), (.int p5)] maxLocals)) t := fun t kt => k199 t (st200.trans kt)
  have k202 : ∀ t, Steps p.tables e below (T200.setTop (mkF m 229 #[.val (.int p1), .val (.int p2), .val (.int p3), .val (.int p4), .val (.int p5), .val (.int L1), .val (.int X1), .val (.int Y1), .val (.int L2), .val (.int X2), .val (.int Y2), .val (.int I2), .val (.ref r31), .val (.ref r40), .val (.ref b56), .val (.ref b108), .val (.int (own_sm L1 L2 X1 X2 Y1 Y2)), .val (.int (own_ex p1 I2 (own_sm L1 L2 X1 X2 Y1 Y2))), .val (.int (own_tq p1 I2 (own_se L1 L2 (X1.toInt8.toInt32) (Y1.toInt8.toInt32) (X2.toInt8.toInt32) (Y2.toInt8.toInt32)))), .unset, .unset, .unset, .unset] [(.ref b56), (.ref b108)])) t → Steps p.tables e below (s₁.setTop (entryFrame m #[(.int p1), (.int p2), (.int p3), (.int p4), (.int p5)] maxLocals)) t := by
    intro t kt
    refine k201 t ?_
    show Steps p.tables e below (T200.setTop (mkF m 223 #[.val (.int p1), .val (.int p2), .val (.int p3), .val (.int p4), .val (.int p5), .val (.int L1), .val (.int X1), .val (.int Y1), .val (.int L2), .val (.int X2), .val (.int Y2), .val (.int I2), .val (.ref r31), .val (.ref r40), .val (.ref b56), .val (.ref b108), .val (.int (own_sm L1 L2 X1 X2 Y1 Y2)), .val (.int (own_ex p1 I2 (own_sm L1 L2 X1 X2 Y1 Y2))), .unset, .unset, .unset, .unset, .unset] [(.int (own_tq p1 I2 (own_se L1 L2 (X1.toInt8.toInt32) (Y1.toInt8.toInt32) (X2.toInt8.toInt32) (Y2.toInt8.toInt32))))])) t
    refine XS.istore X200.here hx rfl (hb hby at_223) rfl (l' := #[.val (.int p1), .val (.int p2), .val (.int p3), .val (.int p4), .val (.int p5), .val (.int L1), .val (.int X1), .val (.int Y1), .val (.int L2), .val (.int X2), .val (.int Y2), .val (.int I2), .val (.ref r31), .val (.ref r40), .val (.ref b56), .val (.ref b108), .val (.int (own_sm L1 L2 X1 X2 Y1 Y2)), .val (.int (own_ex p1 I2 (own_sm L1 L2 X1 X2 Y1 Y2))), .val (.int (own_tq p1 I2 (own_se L1 L2 (X1.toInt8.toInt32) (Y1.toInt8.toInt32) (X2.toInt8.toInt32) (Y2.toInt8.toInt32)))), .unset, .unset, .unset, .unset]) rfl ?_
    show Steps p.tables e below (T200.setTop (mkF m 225 #[.val (.int p1), .val (.int p2), .val (.int p3), .val (.int p4), .val (.int p5), .val (.int L1), .val (.int X1), .val (.int Y1), .val (.int L2), .val (.int X2), .val (.int Y2), .val (.int I2), .val (.ref r31), .val (.ref r40), .val (.ref b56), .val (.ref b108), .val (.int (own_sm L1 L2 X1 X2 Y1 Y2)), .val (.int (own_ex p1 I2 (own_sm L1 L2 X1 X2 Y1 Y2))), .val (.int (own_tq p1 I2 (own_se L1 L2 (X1.toInt8.toInt32) (Y1.toInt8.toInt32) (X2.toInt8.toInt32) (Y2.toInt8.toInt32)))), .unset, .unset, .unset, .unset] [])) t
    refine XS.aload X200.here hx rfl (hb hby at_225) rfl rfl ?_
    show Steps p.tables e below (T200.setTop (mkF m 227 #[.val (.int p1), .val (.int p2), .val (.int p3), .val (.int p4), .val (.int p5), .val (.int L1), .val (.int X1), .val (.int Y1), .val (.int L2), .val (.int X2), .val (.int Y2), .val (.int I2), .val (.ref r31), .val (.ref r40), .val (.ref b56), .val (.ref b108), .val (.int (own_sm L1 L2 X1 X2 Y1 Y2)), .val (.int (own_ex p1 I2 (own_sm L1 L2 X1 X2 Y1 Y2))), .val (.int (own_tq p1 I2 (own_se L1 L2 (X1.toInt8.toInt32) (Y1.toInt8.toInt32) (X2.toInt8.toInt32) (Y2.toInt8.toInt32)))), .unset, .unset, .unset, .unset] [(.ref b108)])) t
    refine XS.aload X200.here hx rfl (hb hby at_227) rfl rfl ?_
    exact kt
  obtain ⟨cq203, kq203, q203a, q203b, q203c⟩ := isOf hZ141 e200 F162
  obtain ⟨_, _, ⟨T203, L203, k203c, n203⟩, -, X203, ⟨Lc203, hQ203, l203, y203, z203⟩, st203⟩ := X200.virtualBack hx (y := (⟨"com/example/disk_to_queue/disktoqueue/store/TopicQueue", "equals", "(Ljava/lang/Object;)Z"⟩ : MethodName)) (z := (⟨"com/example/disk_to_queue/disktoqueue/store/TopicQueue", "equals", "(Ljava/lang/Object;)Z"⟩ : MethodName)) hown141 (mvT hZ141 (hw _ (List.mem_of_getElem? (i := 95) rfl))) (mvT hZ141 (hw _ (List.mem_of_getElem? (i := 96) rfl))) (notFace_of_selects (args := #[]) (mvT hZ141 (hw _ (List.mem_of_getElem? (i := 98) rfl)))) (mvT hZ141 (hw _ (List.mem_of_getElem? (i := 98) rfl))) (mvT hZ141 (hw _ (List.mem_of_getElem? (i := 97) rfl))) (by decide) (backOf (W := 0) (rmQ l Z a0 hw [] b108 b56 I2 p1 r40 r31 b40 b31 L2 L1 (X2.toInt8.toInt32) (Y2.toInt8.toInt32) (X1.toInt8.toInt32) (Y1.toInt8.toInt32) c40k c31k cs T141.heap n0 Z166 Ft141 Fi141 F160 F161 F159 F154 F155 F156 F149 F150 F151 F157 F152 (own_n2 hL2) F146 hcs) hZ141 (hw _ (List.mem_of_getElem? (i := 99) rfl)) (hw _ (List.mem_of_getElem? (i := 37) rfl)) (by decide) (by decide)) q203a q203c (g := (mkF m 229 #[.val (.int p1), .val (.int p2), .val (.int p3), .val (.int p4), .val (.int p5), .val (.int L1), .val (.int X1), .val (.int Y1), .val (.int L2), .val (.int X2), .val (.int Y2), .val (.int I2), .val (.ref r31), .val (.ref r40), .val (.ref b56), .val (.ref b108), .val (.int (own_sm L1 L2 X1 X2 Y1 Y2)), .val (.int (own_ex p1 I2 (own_sm L1 L2 X1 X2 Y1 Y2))), .val (.int (own_tq p1 I2 (own_se L1 L2 (X1.toInt8.toInt32) (Y1.toInt8.toInt32) (X2.toInt8.toInt32) (Y2.toInt8.toInt32)))), .unset, .unset, .unset, .unset] [(.ref b56), (.ref b108)])) rfl (by rw [hml]; rfl) (Steps.refl _) (argsL := [(.ref b56)]) (rest := []) (lenOf own_pd18 rfl) rfl (by show 2 * 0 + _ ≤ _; exact Nat.le_of_eq rfl) (hb hby at_229) (fun _ _ => ⟨rfl, e200, (by decide : 18 + 0 ≤ _), (by decide : 84 + 0 ≤ _)⟩)
  dsimp only [Pt.U, Pt.locs, Pt.cells, Pt.slots] at X203 l203 y203 z203 st203 hQ203
  subst l203 y203 z203
  obtain ⟨rfl, N203q, e203⟩ := hQ203
  have N203 := Fr.app N200 N203q
  have k204 : ∀ t, Steps p.tables e below (T203.setTop (mkF m 232 #[.val (.int p1), .val (.int p2), .val (.int p3), .val (.int p4), .val (.int p5), .val (.int L1), .val (.int X1), .val (.int Y1), .val (.int L2), .val (.int X2), .val (.int Y2), .val (.int I2), .val (.ref r31), .val (.ref r40), .val (.ref b56), .val (.ref b108), .val (.int (own_sm L1 L2 X1 X2 Y1 Y2)), .val (.int (own_ex p1 I2 (own_sm L1 L2 X1 X2 Y1 Y2))), .val (.int (own_tq p1 I2 (own_se L1 L2 (X1.toInt8.toInt32) (Y1.toInt8.toInt32) (X2.toInt8.toInt32) (Y2.toInt8.toInt32)))), .unset, .unset, .unset, .unset] [(.int (own_tq I2 p1 (own_se L2 L1 (X2.toInt8.toInt32) (Y2.toInt8.toInt32) (X1.toInt8.toInt32) (Y1.toInt8.toInt32))))])) t → Steps p.tables e below (s₁.setTop (entryFrame m #[(.int p1), (.int p2), (.int p3), (.int p4), (.int p5)] maxLocals)) t := fun t kt => k202 t (st203.trans kt)
  have k205 : ∀ t, Steps p.tables e below (T203.setTop (mkF m 238 #[.val (.int p1), .val (.int p2), .val (.int p3), .val (.int p4), .val (.int p5), .val (.int L1), .val (.int X1), .val (.int Y1), .val (.int L2), .val (.int X2), .val (.int Y2), .val (.int I2), .val (.ref r31), .val (.ref r40), .val (.ref b56), .val (.ref b108), .val (.int (own_sm L1 L2 X1 X2 Y1 Y2)), .val (.int (own_ex p1 I2 (own_sm L1 L2 X1 X2 Y1 Y2))), .val (.int (own_tq p1 I2 (own_se L1 L2 (X1.toInt8.toInt32) (Y1.toInt8.toInt32) (X2.toInt8.toInt32) (Y2.toInt8.toInt32)))), .val (.int (own_tq I2 p1 (own_se L2 L1 (X2.toInt8.toInt32) (Y2.toInt8.toInt32) (X1.toInt8.toInt32) (Y1.toInt8.toInt32)))), .unset, .unset, .unset] [(.ref b56), (.ref b56)])) t → Steps p.tables e below (s₁.setTop (entryFrame m #[(.int p1), (.int p2), (.int p3), (.int p4), (.int p5)] maxLocals)) t := by
    intro t kt
    refine k204 t ?_
    show Steps p.tables e below (T203.setTop (mkF m 232 #[.val (.int p1), .val (.int p2), .val (.int p3), .val (.int p4), .val (.int p5), .val (.int L1), .val (.int X1), .val (.int Y1), .val (.int L2), .val (.int X2), .val (.int Y2), .val (.int I2), .val (.ref r31), .val (.ref r40), .val (.ref b56), .val (.ref b108), .val (.int (own_sm L1 L2 X1 X2 Y1 Y2)), .val (.int (own_ex p1 I2 (own_sm L1 L2 X1 X2 Y1 Y2))), .val (.int (own_tq p1 I2 (own_se L1 L2 (X1.toInt8.toInt32) (Y1.toInt8.toInt32) (X2.toInt8.toInt32) (Y2.toInt8.toInt32)))), .unset, .unset, .unset, .unset] [(.int (own_tq I2 p1 (own_se L2 L1 (X2.toInt8.toInt32) (Y2.toInt8.toInt32) (X1.toInt8.toInt32) (Y1.toInt8.toInt32))))])) t
    refine XS.istore X203.here hx rfl (hb hby at_232) rfl (l' := #[.val (.int p1), .val (.int p2), .val (.int p3), .val (.int p4), .val (.int p5), .val (.int L1), .val (.int X1), .val (.int Y1), .val (.int L2), .val (.int X2), .val (.int Y2), .val (.int I2), .val (.ref r31), .val (.ref r40), .val (.ref b56), .val (.ref b108), .val (.int (own_sm L1 L2 X1 X2 Y1 Y2)), .val (.int (own_ex p1 I2 (own_sm L1 L2 X1 X2 Y1 Y2))), .val (.int (own_tq p1 I2 (own_se L1 L2 (X1.toInt8.toInt32) (Y1.toInt8.toInt32) (X2.toInt8.toInt32) (Y2.toInt8.toInt32)))), .val (.int (own_tq I2 p1 (own_se L2 L1 (X2.toInt8.toInt32) (Y2.toInt8.toInt32) (X1.toInt8.toInt32) (Y1.toInt8.toInt32)))), .unset, .unset, .unset]) rfl ?_
    show Steps p.tables e below (T203.setTop (mkF m 234 #[.val (.int p1), .val (.int p2), .val (.int p3), .val (.int p4), .val (.int p5), .val (.int L1), .val (.int X1), .val (.int Y1), .val (.int L2), .val (.int X2), .val (.int Y2), .val (.int I2), .val (.ref r31), .val (.ref r40), .val (.ref b56), .val (.ref b108), .val (.int (own_sm L1 L2 X1 X2 Y1 Y2)), .val (.int (own_ex p1 I2 (own_sm L1 L2 X1 X2 Y1 Y2))), .val (.int (own_tq p1 I2 (own_se L1 L2 (X1.toInt8.toInt32) (Y1.toInt8.toInt32) (X2.toInt8.toInt32) (Y2.toInt8.toInt32)))), .val (.int (own_tq I2 p1 (own_se L2 L1 (X2.toInt8.toInt32) (Y2.toInt8.toInt32) (X1.toInt8.toInt32) (Y1.toInt8.toInt32)))), .unset, .unset, .unset] [])) t
    refine XS.aload X203.here hx rfl (hb hby at_234) rfl rfl ?_
    show Steps p.tables e below (T203.setTop (mkF m 236 #[.val (.int p1), .val (.int p2), .val (.int p3), .val (.int p4), .val (.int p5), .val (.int L1), .val (.int X1), .val (.int Y1), .val (.int L2), .val (.int X2), .val (.int Y2), .val (.int I2), .val (.ref r31), .val (.ref r40), .val (.ref b56), .val (.ref b108), .val (.int (own_sm L1 L2 X1 X2 Y1 Y2)), .val (.int (own_ex p1 I2 (own_sm L1 L2 X1 X2 Y1 Y2))), .val (.int (own_tq p1 I2 (own_se L1 L2 (X1.toInt8.toInt32) (Y1.toInt8.toInt32) (X2.toInt8.toInt32) (Y2.toInt8.toInt32)))), .val (.int (own_tq I2 p1 (own_se L2 L1 (X2.toInt8.toInt32) (Y2.toInt8.toInt32) (X1.toInt8.toInt32) (Y1.toInt8.toInt32)))), .unset, .unset, .unset] [(.ref b56)])) t
    refine XS.aload X203.here hx rfl (hb hby at_236) rfl rfl ?_
    exact kt
  obtain ⟨cq206, kq206, q206a, q206b, q206c⟩ := isOf hZ141 e203 F159
  obtain ⟨_, _, ⟨T206, L206, k206c, n206⟩, -, X206, ⟨Lc206, hQ206, l206, y206, z206⟩, st206⟩ := X203.virtualBack hx (y := (⟨"com/example/disk_to_queue/disktoqueue/store/TopicQueue", "equals", "(Ljava/lang/Object;)Z"⟩ : MethodName)) (z := (⟨"com/example/disk_to_queue/disktoqueue/store/TopicQueue", "equals", "(Ljava/lang/Object;)Z"⟩ : MethodName)) hown141 (mvT hZ141 (hw _ (List.mem_of_getElem? (i := 95) rfl))) (mvT hZ141 (hw _ (List.mem_of_getElem? (i := 96) rfl))) (notFace_of_selects (args := #[]) (mvT hZ141 (hw _ (List.mem_of_getElem? (i := 98) rfl)))) (mvT hZ141 (hw _ (List.mem_of_getElem? (i := 98) rfl))) (mvT hZ141 (hw _ (List.mem_of_getElem? (i := 97) rfl))) (by decide) (backOf (W := 0) (rmQ l Z a0 hw [] b56 b56 p1 p1 r31 r31 b31 b31 L1 L1 (X1.toInt8.toInt32) (Y1.toInt8.toInt32) (X1.toInt8.toInt32) (Y1.toInt8.toInt32) c31k c31k cs T141.heap n0 Z166 F160 F161 F160 F161 F159 F149 F150 F151 F149 F150 F151 F152 F152 (own_n2 hL1) F146 hcs) hZ141 (hw _ (List.mem_of_getElem? (i := 99) rfl)) (hw _ (List.mem_of_getElem? (i := 37) rfl)) (by decide) (by decide)) q206a q206c (g := (mkF m 238 #[.val (.int p1), .val (.int p2), .val (.int p3), .val (.int p4), .val (.int p5), .val (.int L1), .val (.int X1), .val (.int Y1), .val (.int L2), .val (.int X2), .val (.int Y2), .val (.int I2), .val (.ref r31), .val (.ref r40), .val (.ref b56), .val (.ref b108), .val (.int (own_sm L1 L2 X1 X2 Y1 Y2)), .val (.int (own_ex p1 I2 (own_sm L1 L2 X1 X2 Y1 Y2))), .val (.int (own_tq p1 I2 (own_se L1 L2 (X1.toInt8.toInt32) (Y1.toInt8.toInt32) (X2.toInt8.toInt32) (Y2.toInt8.toInt32)))), .val (.int (own_tq I2 p1 (own_se L2 L1 (X2.toInt8.toInt32) (Y2.toInt8.toInt32) (X1.toInt8.toInt32) (Y1.toInt8.toInt32)))), .unset, .unset, .unset] [(.ref b56), (.ref b56)])) rfl (by rw [hml]; rfl) (Steps.refl _) (argsL := [(.ref b56)]) (rest := []) (lenOf own_pd18 rfl) rfl (by show 2 * 0 + _ ≤ _; exact Nat.le_of_eq rfl) (hb hby at_238) (fun _ _ => ⟨rfl, e203, (by decide : 18 + 0 ≤ _), (by decide : 84 + 0 ≤ _)⟩)
  dsimp only [Pt.U, Pt.locs, Pt.cells, Pt.slots] at X206 l206 y206 z206 st206 hQ206
  subst l206 y206 z206
  obtain ⟨rfl, N206q, e206⟩ := hQ206
  have N206 := Fr.app N203 N206q
  have k207 : ∀ t, Steps p.tables e below (T206.setTop (mkF m 241 #[.val (.int p1), .val (.int p2), .val (.int p3), .val (.int p4), .val (.int p5), .val (.int L1), .val (.int X1), .val (.int Y1), .val (.int L2), .val (.int X2), .val (.int Y2), .val (.int I2), .val (.ref r31), .val (.ref r40), .val (.ref b56), .val (.ref b108), .val (.int (own_sm L1 L2 X1 X2 Y1 Y2)), .val (.int (own_ex p1 I2 (own_sm L1 L2 X1 X2 Y1 Y2))), .val (.int (own_tq p1 I2 (own_se L1 L2 (X1.toInt8.toInt32) (Y1.toInt8.toInt32) (X2.toInt8.toInt32) (Y2.toInt8.toInt32)))), .val (.int (own_tq I2 p1 (own_se L2 L1 (X2.toInt8.toInt32) (Y2.toInt8.toInt32) (X1.toInt8.toInt32) (Y1.toInt8.toInt32)))), .unset, .unset, .unset] [(.int (own_tq p1 p1 (own_se L1 L1 (X1.toInt8.toInt32) (Y1.toInt8.toInt32) (X1.toInt8.toInt32) (Y1.toInt8.toInt32))))])) t → Steps p.tables e below (s₁.setTop (entryFrame m #[(.int p1), (.int p2), (.int p3), (.int p4), (.int p5)] maxLocals)) t := fun t kt => k205 t (st206.trans kt)
  have k208 : ∀ t, Steps p.tables e below (T206.setTop (mkF m 246 #[.val (.int p1), .val (.int p2), .val (.int p3), .val (.int p4), .val (.int p5), .val (.int L1), .val (.int X1), .val (.int Y1), .val (.int L2), .val (.int X2), .val (.int Y2), .val (.int I2), .val (.ref r31), .val (.ref r40), .val (.ref b56), .val (.ref b108), .val (.int (own_sm L1 L2 X1 X2 Y1 Y2)), .val (.int (own_ex p1 I2 (own_sm L1 L2 X1 X2 Y1 Y2))), .val (.int (own_tq p1 I2 (own_se L1 L2 (X1.toInt8.toInt32) (Y1.toInt8.toInt32) (X2.toInt8.toInt32) (Y2.toInt8.toInt32)))), .val (.int (own_tq I2 p1 (own_se L2 L1 (X2.toInt8.toInt32) (Y2.toInt8.toInt32) (X1.toInt8.toInt32) (Y1.toInt8.toInt32)))), .val (.int (own_tq p1 p1 (own_se L1 L1 (X1.toInt8.toInt32) (Y1.toInt8.toInt32) (X1.toInt8.toInt32) (Y1.toInt8.toInt32)))), .unset, .unset] [.null, (.ref b56)])) t → Steps p.tables e below (s₁.setTop (entryFrame m #[(.int p1), (.int p2), (.int p3), (.int p4), (.int p5)] maxLocals)) t := by
    intro t kt
    refine k207 t ?_
    show Steps p.tables e below (T206.setTop (mkF m 241 #[.val (.int p1), .val (.int p2), .val (.int p3), .val (.int p4), .val (.int p5), .val (.int L1), .val (.int X1), .val (.int Y1), .val (.int L2), .val (.int X2), .val (.int Y2), .val (.int I2), .val (.ref r31), .val (.ref r40), .val (.ref b56), .val (.ref b108), .val (.int (own_sm L1 L2 X1 X2 Y1 Y2)), .val (.int (own_ex p1 I2 (own_sm L1 L2 X1 X2 Y1 Y2))), .val (.int (own_tq p1 I2 (own_se L1 L2 (X1.toInt8.toInt32) (Y1.toInt8.toInt32) (X2.toInt8.toInt32) (Y2.toInt8.toInt32)))), .val (.int (own_tq I2 p1 (own_se L2 L1 (X2.toInt8.toInt32) (Y2.toInt8.toInt32) (X1.toInt8.toInt32) (Y1.toInt8.toInt32)))), .unset, .unset, .unset] [(.int (own_tq p1 p1 (own_se L1 L1 (X1.toInt8.toInt32) (Y1.toInt8.toInt32) (X1.toInt8.toInt32) (Y1.toInt8.toInt32))))])) t
    refine XS.istore X206.here hx rfl (hb hby at_241) rfl (l' := #[.val (.int p1), .val (.int p2), .val (.int p3), .val (.int p4), .val (.int p5), .val (.int L1), .val (.int X1), .val (.int Y1), .val (.int L2), .val (.int X2), .val (.int Y2), .val (.int I2), .val (.ref r31), .val (.ref r40), .val (.ref b56), .val (.ref b108), .val (.int (own_sm L1 L2 X1 X2 Y1 Y2)), .val (.int (own_ex p1 I2 (own_sm L1 L2 X1 X2 Y1 Y2))), .val (.int (own_tq p1 I2 (own_se L1 L2 (X1.toInt8.toInt32) (Y1.toInt8.toInt32) (X2.toInt8.toInt32) (Y2.toInt8.toInt32)))), .val (.int (own_tq I2 p1 (own_se L2 L1 (X2.toInt8.toInt32) (Y2.toInt8.toInt32) (X1.toInt8.toInt32) (Y1.toInt8.toInt32)))), .val (.int (own_tq p1 p1 (own_se L1 L1 (X1.toInt8.toInt32) (Y1.toInt8.toInt32) (X1.toInt8.toInt32) (Y1.toInt8.toInt32)))), .unset, .unset]) rfl ?_
    show Steps p.tables e below (T206.setTop (mkF m 243 #[.val (.int p1), .val (.int p2), .val (.int p3), .val (.int p4), .val (.int p5), .val (.int L1), .val (.int X1), .val (.int Y1), .val (.int L2), .val (.int X2), .val (.int Y2), .val (.int I2), .val (.ref r31), .val (.ref r40), .val (.ref b56), .val (.ref b108), .val (.int (own_sm L1 L2 X1 X2 Y1 Y2)), .val (.int (own_ex p1 I2 (own_sm L1 L2 X1 X2 Y1 Y2))), .val (.int (own_tq p1 I2 (own_se L1 L2 (X1.toInt8.toInt32) (Y1.toInt8.toInt32) (X2.toInt8.toInt32) (Y2.toInt8.toInt32)))), .val (.int (own_tq I2 p1 (own_se L2 L1 (X2.toInt8.toInt32) (Y2.toInt8.toInt32) (X1.toInt8.toInt32) (Y1.toInt8.toInt32)))), .val (.int (own_tq p1 p1 (own_se L1 L1 (X1.toInt8.toInt32) (Y1.toInt8.toInt32) (X1.toInt8.toInt32) (Y1.toInt8.toInt32)))), .unset, .unset] [])) t
    refine XS.aload X206.here hx rfl (hb hby at_243) rfl rfl ?_
    show Steps p.tables e below (T206.setTop (mkF m 245 #[.val (.int p1), .val (.int p2), .val (.int p3), .val (.int p4), .val (.int p5), .val (.int L1), .val (.int X1), .val (.int Y1), .val (.int L2), .val (.int X2), .val (.int Y2), .val (.int I2), .val (.ref r31), .val (.ref r40), .val (.ref b56), .val (.ref b108), .val (.int (own_sm L1 L2 X1 X2 Y1 Y2)), .val (.int (own_ex p1 I2 (own_sm L1 L2 X1 X2 Y1 Y2))), .val (.int (own_tq p1 I2 (own_se L1 L2 (X1.toInt8.toInt32) (Y1.toInt8.toInt32) (X2.toInt8.toInt32) (Y2.toInt8.toInt32)))), .val (.int (own_tq I2 p1 (own_se L2 L1 (X2.toInt8.toInt32) (Y2.toInt8.toInt32) (X1.toInt8.toInt32) (Y1.toInt8.toInt32)))), .val (.int (own_tq p1 p1 (own_se L1 L1 (X1.toInt8.toInt32) (Y1.toInt8.toInt32) (X1.toInt8.toInt32) (Y1.toInt8.toInt32)))), .unset, .unset] [(.ref b56)])) t
    refine XS.aconstNull X206.here hx rfl (hb hby at_245) ?_
    exact kt
  obtain ⟨cq209, kq209, q209a, q209b, q209c⟩ := isOf hZ141 e206 F159
  obtain ⟨_, _, ⟨T209, L209, k209c, n209⟩, -, X209, ⟨Lc209, hQ209, l209, y209, z209⟩, st209⟩ := X206.virtualBack hx (y := (⟨"com/example/disk_to_queue/disktoqueue/store/TopicQueue", "equals", "(Ljava/lang/Object;)Z"⟩ : MethodName)) (z := (⟨"com/example/disk_to_queue/disktoqueue/store/TopicQueue", "equals", "(Ljava/lang/Object;)Z"⟩ : MethodName)) hown141 (mvT hZ141 (hw _ (List.mem_of_getElem? (i := 95) rfl))) (mvT hZ141 (hw _ (List.mem_of_getElem? (i := 96) rfl))) (notFace_of_selects (args := #[]) (mvT hZ141 (hw _ (List.mem_of_getElem? (i := 98) rfl)))) (mvT hZ141 (hw _ (List.mem_of_getElem? (i := 98) rfl))) (mvT hZ141 (hw _ (List.mem_of_getElem? (i := 97) rfl))) (by decide) (backOf (W := 0) (rmQN l Z a0 hw [] b56 T141.heap n0 Z166) hZ141 (hw _ (List.mem_of_getElem? (i := 99) rfl)) (hw _ (List.mem_of_getElem? (i := 37) rfl)) (by decide) (by decide)) q209a q209c (g := (mkF m 246 #[.val (.int p1), .val (.int p2), .val (.int p3), .val (.int p4), .val (.int p5), .val (.int L1), .val (.int X1), .val (.int Y1), .val (.int L2), .val (.int X2), .val (.int Y2), .val (.int I2), .val (.ref r31), .val (.ref r40), .val (.ref b56), .val (.ref b108), .val (.int (own_sm L1 L2 X1 X2 Y1 Y2)), .val (.int (own_ex p1 I2 (own_sm L1 L2 X1 X2 Y1 Y2))), .val (.int (own_tq p1 I2 (own_se L1 L2 (X1.toInt8.toInt32) (Y1.toInt8.toInt32) (X2.toInt8.toInt32) (Y2.toInt8.toInt32)))), .val (.int (own_tq I2 p1 (own_se L2 L1 (X2.toInt8.toInt32) (Y2.toInt8.toInt32) (X1.toInt8.toInt32) (Y1.toInt8.toInt32)))), .val (.int (own_tq p1 p1 (own_se L1 L1 (X1.toInt8.toInt32) (Y1.toInt8.toInt32) (X1.toInt8.toInt32) (Y1.toInt8.toInt32)))), .unset, .unset] [.null, (.ref b56)])) rfl (by rw [hml]; rfl) (Steps.refl _) (argsL := [.null]) (rest := []) (lenOf own_pd18 rfl) rfl (by show 2 * 0 + _ ≤ _; exact Nat.le_of_eq rfl) (hb hby at_246) (fun _ _ => ⟨rfl, e206, (by decide : 18 + 0 ≤ _), (by decide : 84 + 0 ≤ _)⟩)
  dsimp only [Pt.U, Pt.locs, Pt.cells, Pt.slots] at X209 l209 y209 z209 st209 hQ209
  subst l209 y209 z209
  obtain ⟨rfl, N209q, e209⟩ := hQ209
  have N209 := Fr.app N206 N209q
  have k210 : ∀ t, Steps p.tables e below (T209.setTop (mkF m 249 #[.val (.int p1), .val (.int p2), .val (.int p3), .val (.int p4), .val (.int p5), .val (.int L1), .val (.int X1), .val (.int Y1), .val (.int L2), .val (.int X2), .val (.int Y2), .val (.int I2), .val (.ref r31), .val (.ref r40), .val (.ref b56), .val (.ref b108), .val (.int (own_sm L1 L2 X1 X2 Y1 Y2)), .val (.int (own_ex p1 I2 (own_sm L1 L2 X1 X2 Y1 Y2))), .val (.int (own_tq p1 I2 (own_se L1 L2 (X1.toInt8.toInt32) (Y1.toInt8.toInt32) (X2.toInt8.toInt32) (Y2.toInt8.toInt32)))), .val (.int (own_tq I2 p1 (own_se L2 L1 (X2.toInt8.toInt32) (Y2.toInt8.toInt32) (X1.toInt8.toInt32) (Y1.toInt8.toInt32)))), .val (.int (own_tq p1 p1 (own_se L1 L1 (X1.toInt8.toInt32) (Y1.toInt8.toInt32) (X1.toInt8.toInt32) (Y1.toInt8.toInt32)))), .unset, .unset] [(.int (0 : Int32))])) t → Steps p.tables e below (s₁.setTop (entryFrame m #[(.int p1), (.int p2), (.int p3), (.int p4), (.int p5)] maxLocals)) t := fun t kt => k208 t (st209.trans kt)
  have k211 : ∀ t, Steps p.tables e below (T209.setTop (mkF m 255 #[.val (.int p1), .val (.int p2), .val (.int p3), .val (.int p4), .val (.int p5), .val (.int L1), .val (.int X1), .val (.int Y1), .val (.int L2), .val (.int X2), .val (.int Y2), .val (.int I2), .val (.ref r31), .val (.ref r40), .val (.ref b56), .val (.ref b108), .val (.int (own_sm L1 L2 X1 X2 Y1 Y2)), .val (.int (own_ex p1 I2 (own_sm L1 L2 X1 X2 Y1 Y2))), .val (.int (own_tq p1 I2 (own_se L1 L2 (X1.toInt8.toInt32) (Y1.toInt8.toInt32) (X2.toInt8.toInt32) (Y2.toInt8.toInt32)))), .val (.int (own_tq I2 p1 (own_se L2 L1 (X2.toInt8.toInt32) (Y2.toInt8.toInt32) (X1.toInt8.toInt32) (Y1.toInt8.toInt32)))), .val (.int (own_tq p1 p1 (own_se L1 L1 (X1.toInt8.toInt32) (Y1.toInt8.toInt32) (X1.toInt8.toInt32) (Y1.toInt8.toInt32)))), .val (.int (0 : Int32)), .unset] [(.ref r31), (.ref b56)])) t → Steps p.tables e below (s₁.setTop (entryFrame m #[(.int p1), (.int p2), (.int p3), (.int p4), (.int p5)] maxLocals)) t := by
    intro t kt
    refine k210 t ?_
    show Steps p.tables e below (T209.setTop (mkF m 249 #[.val (.int p1), .val (.int p2), .val (.int p3), .val (.int p4), .val (.int p5), .val (.int L1), .val (.int X1), .val (.int Y1), .val (.int L2), .val (.int X2), .val (.int Y2), .val (.int I2), .val (.ref r31), .val (.ref r40), .val (.ref b56), .val (.ref b108), .val (.int (own_sm L1 L2 X1 X2 Y1 Y2)), .val (.int (own_ex p1 I2 (own_sm L1 L2 X1 X2 Y1 Y2))), .val (.int (own_tq p1 I2 (own_se L1 L2 (X1.toInt8.toInt32) (Y1.toInt8.toInt32) (X2.toInt8.toInt32) (Y2.toInt8.toInt32)))), .val (.int (own_tq I2 p1 (own_se L2 L1 (X2.toInt8.toInt32) (Y2.toInt8.toInt32) (X1.toInt8.toInt32) (Y1.toInt8.toInt32)))), .val (.int (own_tq p1 p1 (own_se L1 L1 (X1.toInt8.toInt32) (Y1.toInt8.toInt32) (X1.toInt8.toInt32) (Y1.toInt8.toInt32)))), .unset, .unset] [(.int (0 : Int32))])) t
    refine XS.istore X209.here hx rfl (hb hby at_249) rfl (l' := #[.val (.int p1), .val (.int p2), .val (.int p3), .val (.int p4), .val (.int p5), .val (.int L1), .val (.int X1), .val (.int Y1), .val (.int L2), .val (.int X2), .val (.int Y2), .val (.int I2), .val (.ref r31), .val (.ref r40), .val (.ref b56), .val (.ref b108), .val (.int (own_sm L1 L2 X1 X2 Y1 Y2)), .val (.int (own_ex p1 I2 (own_sm L1 L2 X1 X2 Y1 Y2))), .val (.int (own_tq p1 I2 (own_se L1 L2 (X1.toInt8.toInt32) (Y1.toInt8.toInt32) (X2.toInt8.toInt32) (Y2.toInt8.toInt32)))), .val (.int (own_tq I2 p1 (own_se L2 L1 (X2.toInt8.toInt32) (Y2.toInt8.toInt32) (X1.toInt8.toInt32) (Y1.toInt8.toInt32)))), .val (.int (own_tq p1 p1 (own_se L1 L1 (X1.toInt8.toInt32) (Y1.toInt8.toInt32) (X1.toInt8.toInt32) (Y1.toInt8.toInt32)))), .val (.int (0 : Int32)), .unset]) rfl ?_
    show Steps p.tables e below (T209.setTop (mkF m 251 #[.val (.int p1), .val (.int p2), .val (.int p3), .val (.int p4), .val (.int p5), .val (.int L1), .val (.int X1), .val (.int Y1), .val (.int L2), .val (.int X2), .val (.int Y2), .val (.int I2), .val (.ref r31), .val (.ref r40), .val (.ref b56), .val (.ref b108), .val (.int (own_sm L1 L2 X1 X2 Y1 Y2)), .val (.int (own_ex p1 I2 (own_sm L1 L2 X1 X2 Y1 Y2))), .val (.int (own_tq p1 I2 (own_se L1 L2 (X1.toInt8.toInt32) (Y1.toInt8.toInt32) (X2.toInt8.toInt32) (Y2.toInt8.toInt32)))), .val (.int (own_tq I2 p1 (own_se L2 L1 (X2.toInt8.toInt32) (Y2.toInt8.toInt32) (X1.toInt8.toInt32) (Y1.toInt8.toInt32)))), .val (.int (own_tq p1 p1 (own_se L1 L1 (X1.toInt8.toInt32) (Y1.toInt8.toInt32) (X1.toInt8.toInt32) (Y1.toInt8.toInt32)))), .val (.int (0 : Int32)), .unset] [])) t
    refine XS.aload X209.here hx rfl (hb hby at_251) rfl rfl ?_
    show Steps p.tables e below (T209.setTop (mkF m 253 #[.val (.int p1), .val (.int p2), .val (.int p3), .val (.int p4), .val (.int p5), .val (.int L1), .val (.int X1), .val (.int Y1), .val (.int L2), .val (.int X2), .val (.int Y2), .val (.int I2), .val (.ref r31), .val (.ref r40), .val (.ref b56), .val (.ref b108), .val (.int (own_sm L1 L2 X1 X2 Y1 Y2)), .val (.int (own_ex p1 I2 (own_sm L1 L2 X1 X2 Y1 Y2))), .val (.int (own_tq p1 I2 (own_se L1 L2 (X1.toInt8.toInt32) (Y1.toInt8.toInt32) (X2.toInt8.toInt32) (Y2.toInt8.toInt32)))), .val (.int (own_tq I2 p1 (own_se L2 L1 (X2.toInt8.toInt32) (Y2.toInt8.toInt32) (X1.toInt8.toInt32) (Y1.toInt8.toInt32)))), .val (.int (own_tq p1 p1 (own_se L1 L1 (X1.toInt8.toInt32) (Y1.toInt8.toInt32) (X1.toInt8.toInt32) (Y1.toInt8.toInt32)))), .val (.int (0 : Int32)), .unset] [(.ref b56)])) t
    refine XS.aload X209.here hx rfl (hb hby at_253) rfl rfl ?_
    exact kt
  obtain ⟨cq212, kq212, q212a, q212b, q212c⟩ := isOf hZ141 e209 F159
  obtain ⟨_, _, ⟨T212, L212, k212c, n212⟩, -, X212, ⟨Lc212, hQ212, l212, y212, z212⟩, st212⟩ := X209.virtualBack hx (y := (⟨"com/example/disk_to_queue/disktoqueue/store/TopicQueue", "equals", "(Ljava/lang/Object;)Z"⟩ : MethodName)) (z := (⟨"com/example/disk_to_queue/disktoqueue/store/TopicQueue", "equals", "(Ljava/lang/Object;)Z"⟩ : MethodName)) hown141 (mvT hZ141 (hw _ (List.mem_of_getElem? (i := 95) rfl))) (mvT hZ141 (hw _ (List.mem_of_getElem? (i := 96) rfl))) (notFace_of_selects (args := #[]) (mvT hZ141 (hw _ (List.mem_of_getElem? (i := 98) rfl)))) (mvT hZ141 (hw _ (List.mem_of_getElem? (i := 98) rfl))) (mvT hZ141 (hw _ (List.mem_of_getElem? (i := 97) rfl))) (by decide) (backOf (W := 0) (rmQS l Z a0 hw [] b56 r31 T141.heap n0 Z166 F149) hZ141 (hw _ (List.mem_of_getElem? (i := 99) rfl)) (hw _ (List.mem_of_getElem? (i := 37) rfl)) (by decide) (by decide)) q212a q212c (g := (mkF m 255 #[.val (.int p1), .val (.int p2), .val (.int p3), .val (.int p4), .val (.int p5), .val (.int L1), .val (.int X1), .val (.int Y1), .val (.int L2), .val (.int X2), .val (.int Y2), .val (.int I2), .val (.ref r31), .val (.ref r40), .val (.ref b56), .val (.ref b108), .val (.int (own_sm L1 L2 X1 X2 Y1 Y2)), .val (.int (own_ex p1 I2 (own_sm L1 L2 X1 X2 Y1 Y2))), .val (.int (own_tq p1 I2 (own_se L1 L2 (X1.toInt8.toInt32) (Y1.toInt8.toInt32) (X2.toInt8.toInt32) (Y2.toInt8.toInt32)))), .val (.int (own_tq I2 p1 (own_se L2 L1 (X2.toInt8.toInt32) (Y2.toInt8.toInt32) (X1.toInt8.toInt32) (Y1.toInt8.toInt32)))), .val (.int (own_tq p1 p1 (own_se L1 L1 (X1.toInt8.toInt32) (Y1.toInt8.toInt32) (X1.toInt8.toInt32) (Y1.toInt8.toInt32)))), .val (.int (0 : Int32)), .unset] [(.ref r31), (.ref b56)])) rfl (by rw [hml]; rfl) (Steps.refl _) (argsL := [(.ref r31)]) (rest := []) (lenOf own_pd18 rfl) rfl (by show 2 * 0 + _ ≤ _; exact Nat.le_of_eq rfl) (hb hby at_255) (fun _ _ => ⟨rfl, e209, (by decide : 18 + 0 ≤ _), (by decide : 84 + 0 ≤ _)⟩)
  dsimp only [Pt.U, Pt.locs, Pt.cells, Pt.slots] at X212 l212 y212 z212 st212 hQ212
  subst l212 y212 z212
  obtain ⟨rfl, N212q, e212⟩ := hQ212
  have N212 := Fr.app N209 N212q
  have k213 : ∀ t, Steps p.tables e below (T212.setTop (mkF m 258 #[.val (.int p1), .val (.int p2), .val (.int p3), .val (.int p4), .val (.int p5), .val (.int L1), .val (.int X1), .val (.int Y1), .val (.int L2), .val (.int X2), .val (.int Y2), .val (.int I2), .val (.ref r31), .val (.ref r40), .val (.ref b56), .val (.ref b108), .val (.int (own_sm L1 L2 X1 X2 Y1 Y2)), .val (.int (own_ex p1 I2 (own_sm L1 L2 X1 X2 Y1 Y2))), .val (.int (own_tq p1 I2 (own_se L1 L2 (X1.toInt8.toInt32) (Y1.toInt8.toInt32) (X2.toInt8.toInt32) (Y2.toInt8.toInt32)))), .val (.int (own_tq I2 p1 (own_se L2 L1 (X2.toInt8.toInt32) (Y2.toInt8.toInt32) (X1.toInt8.toInt32) (Y1.toInt8.toInt32)))), .val (.int (own_tq p1 p1 (own_se L1 L1 (X1.toInt8.toInt32) (Y1.toInt8.toInt32) (X1.toInt8.toInt32) (Y1.toInt8.toInt32)))), .val (.int (0 : Int32)), .unset] [(.int (0 : Int32))])) t → Steps p.tables e below (s₁.setTop (entryFrame m #[(.int p1), (.int p2), (.int p3), (.int p4), (.int p5)] maxLocals)) t := fun t kt => k211 t (st212.trans kt)
  have k215 : ∀ t, Steps p.tables e below (T212.setTop (mkF m 264 #[.val (.int p1), .val (.int p2), .val (.int p3), .val (.int p4), .val (.int p5), .val (.int L1), .val (.int X1), .val (.int Y1), .val (.int L2), .val (.int X2), .val (.int Y2), .val (.int I2), .val (.ref r31), .val (.ref r40), .val (.ref b56), .val (.ref b108), .val (.int (own_sm L1 L2 X1 X2 Y1 Y2)), .val (.int (own_ex p1 I2 (own_sm L1 L2 X1 X2 Y1 Y2))), .val (.int (own_tq p1 I2 (own_se L1 L2 (X1.toInt8.toInt32) (Y1.toInt8.toInt32) (X2.toInt8.toInt32) (Y2.toInt8.toInt32)))), .val (.int (own_tq I2 p1 (own_se L2 L1 (X2.toInt8.toInt32) (Y2.toInt8.toInt32) (X1.toInt8.toInt32) (Y1.toInt8.toInt32)))), .val (.int (own_tq p1 p1 (own_se L1 L1 (X1.toInt8.toInt32) (Y1.toInt8.toInt32) (X1.toInt8.toInt32) (Y1.toInt8.toInt32)))), .val (.int (0 : Int32)), .val (.int (0 : Int32))] [(.int (own_ex p1 I2 (own_sm L1 L2 X1 X2 Y1 Y2))), (.int (own_tq p1 I2 (own_se L1 L2 (X1.toInt8.toInt32) (Y1.toInt8.toInt32) (X2.toInt8.toInt32) (Y2.toInt8.toInt32))))])) t → Steps p.tables e below (s₁.setTop (entryFrame m #[(.int p1), (.int p2), (.int p3), (.int p4), (.int p5)] maxLocals)) t := by
    intro t kt
    refine k213 t ?_
    show Steps p.tables e below (T212.setTop (mkF m 258 #[.val (.int p1), .val (.int p2), .val (.int p3), .val (.int p4), .val (.int p5), .val (.int L1), .val (.int X1), .val (.int Y1), .val (.int L2), .val (.int X2), .val (.int Y2), .val (.int I2), .val (.ref r31), .val (.ref r40), .val (.ref b56), .val (.ref b108), .val (.int (own_sm L1 L2 X1 X2 Y1 Y2)), .val (.int (own_ex p1 I2 (own_sm L1 L2 X1 X2 Y1 Y2))), .val (.int (own_tq p1 I2 (own_se L1 L2 (X1.toInt8.toInt32) (Y1.toInt8.toInt32) (X2.toInt8.toInt32) (Y2.toInt8.toInt32)))), .val (.int (own_tq I2 p1 (own_se L2 L1 (X2.toInt8.toInt32) (Y2.toInt8.toInt32) (X1.toInt8.toInt32) (Y1.toInt8.toInt32)))), .val (.int (own_tq p1 p1 (own_se L1 L1 (X1.toInt8.toInt32) (Y1.toInt8.toInt32) (X1.toInt8.toInt32) (Y1.toInt8.toInt32)))), .val (.int (0 : Int32)), .unset] [(.int (0 : Int32))])) t
    refine XS.istore X212.here hx rfl (hb hby at_258) rfl (l' := #[.val (.int p1), .val (.int p2), .val (.int p3), .val (.int p4), .val (.int p5), .val (.int L1), .val (.int X1), .val (.int Y1), .val (.int L2), .val (.int X2), .val (.int Y2), .val (.int I2), .val (.ref r31), .val (.ref r40), .val (.ref b56), .val (.ref b108), .val (.int (own_sm L1 L2 X1 X2 Y1 Y2)), .val (.int (own_ex p1 I2 (own_sm L1 L2 X1 X2 Y1 Y2))), .val (.int (own_tq p1 I2 (own_se L1 L2 (X1.toInt8.toInt32) (Y1.toInt8.toInt32) (X2.toInt8.toInt32) (Y2.toInt8.toInt32)))), .val (.int (own_tq I2 p1 (own_se L2 L1 (X2.toInt8.toInt32) (Y2.toInt8.toInt32) (X1.toInt8.toInt32) (Y1.toInt8.toInt32)))), .val (.int (own_tq p1 p1 (own_se L1 L1 (X1.toInt8.toInt32) (Y1.toInt8.toInt32) (X1.toInt8.toInt32) (Y1.toInt8.toInt32)))), .val (.int (0 : Int32)), .val (.int (0 : Int32))]) rfl ?_
    show Steps p.tables e below (T212.setTop (mkF m 260 #[.val (.int p1), .val (.int p2), .val (.int p3), .val (.int p4), .val (.int p5), .val (.int L1), .val (.int X1), .val (.int Y1), .val (.int L2), .val (.int X2), .val (.int Y2), .val (.int I2), .val (.ref r31), .val (.ref r40), .val (.ref b56), .val (.ref b108), .val (.int (own_sm L1 L2 X1 X2 Y1 Y2)), .val (.int (own_ex p1 I2 (own_sm L1 L2 X1 X2 Y1 Y2))), .val (.int (own_tq p1 I2 (own_se L1 L2 (X1.toInt8.toInt32) (Y1.toInt8.toInt32) (X2.toInt8.toInt32) (Y2.toInt8.toInt32)))), .val (.int (own_tq I2 p1 (own_se L2 L1 (X2.toInt8.toInt32) (Y2.toInt8.toInt32) (X1.toInt8.toInt32) (Y1.toInt8.toInt32)))), .val (.int (own_tq p1 p1 (own_se L1 L1 (X1.toInt8.toInt32) (Y1.toInt8.toInt32) (X1.toInt8.toInt32) (Y1.toInt8.toInt32)))), .val (.int (0 : Int32)), .val (.int (0 : Int32))] [])) t
    refine XS.iload X212.here hx rfl (hb hby at_260) rfl ?_
    show Steps p.tables e below (T212.setTop (mkF m 262 #[.val (.int p1), .val (.int p2), .val (.int p3), .val (.int p4), .val (.int p5), .val (.int L1), .val (.int X1), .val (.int Y1), .val (.int L2), .val (.int X2), .val (.int Y2), .val (.int I2), .val (.ref r31), .val (.ref r40), .val (.ref b56), .val (.ref b108), .val (.int (own_sm L1 L2 X1 X2 Y1 Y2)), .val (.int (own_ex p1 I2 (own_sm L1 L2 X1 X2 Y1 Y2))), .val (.int (own_tq p1 I2 (own_se L1 L2 (X1.toInt8.toInt32) (Y1.toInt8.toInt32) (X2.toInt8.toInt32) (Y2.toInt8.toInt32)))), .val (.int (own_tq I2 p1 (own_se L2 L1 (X2.toInt8.toInt32) (Y2.toInt8.toInt32) (X1.toInt8.toInt32) (Y1.toInt8.toInt32)))), .val (.int (own_tq p1 p1 (own_se L1 L1 (X1.toInt8.toInt32) (Y1.toInt8.toInt32) (X1.toInt8.toInt32) (Y1.toInt8.toInt32)))), .val (.int (0 : Int32)), .val (.int (0 : Int32))] [(.int (own_tq p1 I2 (own_se L1 L2 (X1.toInt8.toInt32) (Y1.toInt8.toInt32) (X2.toInt8.toInt32) (Y2.toInt8.toInt32))))])) t
    refine XS.iload X212.here hx rfl (hb hby at_262) rfl ?_
    exact kt
  have hc264_214 : (own_tq p1 I2 (own_se L1 L2 (X1.toInt8.toInt32) (Y1.toInt8.toInt32) (X2.toInt8.toInt32) (Y2.toInt8.toInt32))) = (own_ex p1 I2 (own_sm L1 L2 X1 X2 Y1 Y2)) := own_f1 _ _ _ _ _ _ _ _ hL1 hX1 hY1 hX2 hY2
  have k217 : ∀ t, Steps p.tables e below (T212.setTop (mkF m 271 #[.val (.int p1), .val (.int p2), .val (.int p3), .val (.int p4), .val (.int p5), .val (.int L1), .val (.int X1), .val (.int Y1), .val (.int L2), .val (.int X2), .val (.int Y2), .val (.int I2), .val (.ref r31), .val (.ref r40), .val (.ref b56), .val (.ref b108), .val (.int (own_sm L1 L2 X1 X2 Y1 Y2)), .val (.int (own_ex p1 I2 (own_sm L1 L2 X1 X2 Y1 Y2))), .val (.int (own_tq p1 I2 (own_se L1 L2 (X1.toInt8.toInt32) (Y1.toInt8.toInt32) (X2.toInt8.toInt32) (Y2.toInt8.toInt32)))), .val (.int (own_tq I2 p1 (own_se L2 L1 (X2.toInt8.toInt32) (Y2.toInt8.toInt32) (X1.toInt8.toInt32) (Y1.toInt8.toInt32)))), .val (.int (own_tq p1 p1 (own_se L1 L1 (X1.toInt8.toInt32) (Y1.toInt8.toInt32) (X1.toInt8.toInt32) (Y1.toInt8.toInt32)))), .val (.int (0 : Int32)), .val (.int (0 : Int32))] [(.int (own_ex p1 I2 (own_sm L1 L2 X1 X2 Y1 Y2))), (.int (own_tq I2 p1 (own_se L2 L1 (X2.toInt8.toInt32) (Y2.toInt8.toInt32) (X1.toInt8.toInt32) (Y1.toInt8.toInt32))))])) t → Steps p.tables e below (s₁.setTop (entryFrame m #[(.int p1), (.int p2), (.int p3), (.int p4), (.int p5)] maxLocals)) t := by
    intro t kt
    refine k215 t ?_
    show Steps p.tables e below (T212.setTop (mkF m 264 #[.val (.int p1), .val (.int p2), .val (.int p3), .val (.int p4), .val (.int p5), .val (.int L1), .val (.int X1), .val (.int Y1), .val (.int L2), .val (.int X2), .val (.int Y2), .val (.int I2), .val (.ref r31), .val (.ref r40), .val (.ref b56), .val (.ref b108), .val (.int (own_sm L1 L2 X1 X2 Y1 Y2)), .val (.int (own_ex p1 I2 (own_sm L1 L2 X1 X2 Y1 Y2))), .val (.int (own_tq p1 I2 (own_se L1 L2 (X1.toInt8.toInt32) (Y1.toInt8.toInt32) (X2.toInt8.toInt32) (Y2.toInt8.toInt32)))), .val (.int (own_tq I2 p1 (own_se L2 L1 (X2.toInt8.toInt32) (Y2.toInt8.toInt32) (X1.toInt8.toInt32) (Y1.toInt8.toInt32)))), .val (.int (own_tq p1 p1 (own_se L1 L1 (X1.toInt8.toInt32) (Y1.toInt8.toInt32) (X1.toInt8.toInt32) (Y1.toInt8.toInt32)))), .val (.int (0 : Int32)), .val (.int (0 : Int32))] [(.int (own_ex p1 I2 (own_sm L1 L2 X1 X2 Y1 Y2))), (.int (own_tq p1 I2 (own_se L1 L2 (X1.toInt8.toInt32) (Y1.toInt8.toInt32) (X2.toInt8.toInt32) (Y2.toInt8.toInt32))))])) t
    refine XS.icmpNo X212.here hx rfl (hb hby at_264) rfl (teq hc264_214).2 ?_
    show Steps p.tables e below (T212.setTop (mkF m 267 #[.val (.int p1), .val (.int p2), .val (.int p3), .val (.int p4), .val (.int p5), .val (.int L1), .val (.int X1), .val (.int Y1), .val (.int L2), .val (.int X2), .val (.int Y2), .val (.int I2), .val (.ref r31), .val (.ref r40), .val (.ref b56), .val (.ref b108), .val (.int (own_sm L1 L2 X1 X2 Y1 Y2)), .val (.int (own_ex p1 I2 (own_sm L1 L2 X1 X2 Y1 Y2))), .val (.int (own_tq p1 I2 (own_se L1 L2 (X1.toInt8.toInt32) (Y1.toInt8.toInt32) (X2.toInt8.toInt32) (Y2.toInt8.toInt32)))), .val (.int (own_tq I2 p1 (own_se L2 L1 (X2.toInt8.toInt32) (Y2.toInt8.toInt32) (X1.toInt8.toInt32) (Y1.toInt8.toInt32)))), .val (.int (own_tq p1 p1 (own_se L1 L1 (X1.toInt8.toInt32) (Y1.toInt8.toInt32) (X1.toInt8.toInt32) (Y1.toInt8.toInt32)))), .val (.int (0 : Int32)), .val (.int (0 : Int32))] [])) t
    refine XS.iload X212.here hx rfl (hb hby at_267) rfl ?_
    show Steps p.tables e below (T212.setTop (mkF m 269 #[.val (.int p1), .val (.int p2), .val (.int p3), .val (.int p4), .val (.int p5), .val (.int L1), .val (.int X1), .val (.int Y1), .val (.int L2), .val (.int X2), .val (.int Y2), .val (.int I2), .val (.ref r31), .val (.ref r40), .val (.ref b56), .val (.ref b108), .val (.int (own_sm L1 L2 X1 X2 Y1 Y2)), .val (.int (own_ex p1 I2 (own_sm L1 L2 X1 X2 Y1 Y2))), .val (.int (own_tq p1 I2 (own_se L1 L2 (X1.toInt8.toInt32) (Y1.toInt8.toInt32) (X2.toInt8.toInt32) (Y2.toInt8.toInt32)))), .val (.int (own_tq I2 p1 (own_se L2 L1 (X2.toInt8.toInt32) (Y2.toInt8.toInt32) (X1.toInt8.toInt32) (Y1.toInt8.toInt32)))), .val (.int (own_tq p1 p1 (own_se L1 L1 (X1.toInt8.toInt32) (Y1.toInt8.toInt32) (X1.toInt8.toInt32) (Y1.toInt8.toInt32)))), .val (.int (0 : Int32)), .val (.int (0 : Int32))] [(.int (own_tq I2 p1 (own_se L2 L1 (X2.toInt8.toInt32) (Y2.toInt8.toInt32) (X1.toInt8.toInt32) (Y1.toInt8.toInt32))))])) t
    refine XS.iload X212.here hx rfl (hb hby at_269) rfl ?_
    exact kt
  have hc271_216 : (own_tq I2 p1 (own_se L2 L1 (X2.toInt8.toInt32) (Y2.toInt8.toInt32) (X1.toInt8.toInt32) (Y1.toInt8.toInt32))) = (own_ex p1 I2 (own_sm L1 L2 X1 X2 Y1 Y2)) := own_f2 _ _ _ _ _ _ _ _ hL2 hX1 hY1 hX2 hY2
  have k219 : ∀ t, Steps p.tables e below (T212.setTop (mkF m 276 #[.val (.int p1), .val (.int p2), .val (.int p3), .val (.int p4), .val (.int p5), .val (.int L1), .val (.int X1), .val (.int Y1), .val (.int L2), .val (.int X2), .val (.int Y2), .val (.int I2), .val (.ref r31), .val (.ref r40), .val (.ref b56), .val (.ref b108), .val (.int (own_sm L1 L2 X1 X2 Y1 Y2)), .val (.int (own_ex p1 I2 (own_sm L1 L2 X1 X2 Y1 Y2))), .val (.int (own_tq p1 I2 (own_se L1 L2 (X1.toInt8.toInt32) (Y1.toInt8.toInt32) (X2.toInt8.toInt32) (Y2.toInt8.toInt32)))), .val (.int (own_tq I2 p1 (own_se L2 L1 (X2.toInt8.toInt32) (Y2.toInt8.toInt32) (X1.toInt8.toInt32) (Y1.toInt8.toInt32)))), .val (.int (own_tq p1 p1 (own_se L1 L1 (X1.toInt8.toInt32) (Y1.toInt8.toInt32) (X1.toInt8.toInt32) (Y1.toInt8.toInt32)))), .val (.int (0 : Int32)), .val (.int (0 : Int32))] [(.int (own_tq p1 p1 (own_se L1 L1 (X1.toInt8.toInt32) (Y1.toInt8.toInt32) (X1.toInt8.toInt32) (Y1.toInt8.toInt32))))])) t → Steps p.tables e below (s₁.setTop (entryFrame m #[(.int p1), (.int p2), (.int p3), (.int p4), (.int p5)] maxLocals)) t := by
    intro t kt
    refine k217 t ?_
    show Steps p.tables e below (T212.setTop (mkF m 271 #[.val (.int p1), .val (.int p2), .val (.int p3), .val (.int p4), .val (.int p5), .val (.int L1), .val (.int X1), .val (.int Y1), .val (.int L2), .val (.int X2), .val (.int Y2), .val (.int I2), .val (.ref r31), .val (.ref r40), .val (.ref b56), .val (.ref b108), .val (.int (own_sm L1 L2 X1 X2 Y1 Y2)), .val (.int (own_ex p1 I2 (own_sm L1 L2 X1 X2 Y1 Y2))), .val (.int (own_tq p1 I2 (own_se L1 L2 (X1.toInt8.toInt32) (Y1.toInt8.toInt32) (X2.toInt8.toInt32) (Y2.toInt8.toInt32)))), .val (.int (own_tq I2 p1 (own_se L2 L1 (X2.toInt8.toInt32) (Y2.toInt8.toInt32) (X1.toInt8.toInt32) (Y1.toInt8.toInt32)))), .val (.int (own_tq p1 p1 (own_se L1 L1 (X1.toInt8.toInt32) (Y1.toInt8.toInt32) (X1.toInt8.toInt32) (Y1.toInt8.toInt32)))), .val (.int (0 : Int32)), .val (.int (0 : Int32))] [(.int (own_ex p1 I2 (own_sm L1 L2 X1 X2 Y1 Y2))), (.int (own_tq I2 p1 (own_se L2 L1 (X2.toInt8.toInt32) (Y2.toInt8.toInt32) (X1.toInt8.toInt32) (Y1.toInt8.toInt32))))])) t
    refine XS.icmpNo X212.here hx rfl (hb hby at_271) rfl (teq hc271_216).2 ?_
    show Steps p.tables e below (T212.setTop (mkF m 274 #[.val (.int p1), .val (.int p2), .val (.int p3), .val (.int p4), .val (.int p5), .val (.int L1), .val (.int X1), .val (.int Y1), .val (.int L2), .val (.int X2), .val (.int Y2), .val (.int I2), .val (.ref r31), .val (.ref r40), .val (.ref b56), .val (.ref b108), .val (.int (own_sm L1 L2 X1 X2 Y1 Y2)), .val (.int (own_ex p1 I2 (own_sm L1 L2 X1 X2 Y1 Y2))), .val (.int (own_tq p1 I2 (own_se L1 L2 (X1.toInt8.toInt32) (Y1.toInt8.toInt32) (X2.toInt8.toInt32) (Y2.toInt8.toInt32)))), .val (.int (own_tq I2 p1 (own_se L2 L1 (X2.toInt8.toInt32) (Y2.toInt8.toInt32) (X1.toInt8.toInt32) (Y1.toInt8.toInt32)))), .val (.int (own_tq p1 p1 (own_se L1 L1 (X1.toInt8.toInt32) (Y1.toInt8.toInt32) (X1.toInt8.toInt32) (Y1.toInt8.toInt32)))), .val (.int (0 : Int32)), .val (.int (0 : Int32))] [])) t
    refine XS.iload X212.here hx rfl (hb hby at_274) rfl ?_
    exact kt
  have hc276_218 : ¬ ((own_tq p1 p1 (own_se L1 L1 (X1.toInt8.toInt32) (Y1.toInt8.toInt32) (X1.toInt8.toInt32) (Y1.toInt8.toInt32))) = (0 : Int32)) := own_f3 _ _ _ _
  have k221 : ∀ t, Steps p.tables e below (T212.setTop (mkF m 281 #[.val (.int p1), .val (.int p2), .val (.int p3), .val (.int p4), .val (.int p5), .val (.int L1), .val (.int X1), .val (.int Y1), .val (.int L2), .val (.int X2), .val (.int Y2), .val (.int I2), .val (.ref r31), .val (.ref r40), .val (.ref b56), .val (.ref b108), .val (.int (own_sm L1 L2 X1 X2 Y1 Y2)), .val (.int (own_ex p1 I2 (own_sm L1 L2 X1 X2 Y1 Y2))), .val (.int (own_tq p1 I2 (own_se L1 L2 (X1.toInt8.toInt32) (Y1.toInt8.toInt32) (X2.toInt8.toInt32) (Y2.toInt8.toInt32)))), .val (.int (own_tq I2 p1 (own_se L2 L1 (X2.toInt8.toInt32) (Y2.toInt8.toInt32) (X1.toInt8.toInt32) (Y1.toInt8.toInt32)))), .val (.int (own_tq p1 p1 (own_se L1 L1 (X1.toInt8.toInt32) (Y1.toInt8.toInt32) (X1.toInt8.toInt32) (Y1.toInt8.toInt32)))), .val (.int (0 : Int32)), .val (.int (0 : Int32))] [(.int (0 : Int32))])) t → Steps p.tables e below (s₁.setTop (entryFrame m #[(.int p1), (.int p2), (.int p3), (.int p4), (.int p5)] maxLocals)) t := by
    intro t kt
    refine k219 t ?_
    show Steps p.tables e below (T212.setTop (mkF m 276 #[.val (.int p1), .val (.int p2), .val (.int p3), .val (.int p4), .val (.int p5), .val (.int L1), .val (.int X1), .val (.int Y1), .val (.int L2), .val (.int X2), .val (.int Y2), .val (.int I2), .val (.ref r31), .val (.ref r40), .val (.ref b56), .val (.ref b108), .val (.int (own_sm L1 L2 X1 X2 Y1 Y2)), .val (.int (own_ex p1 I2 (own_sm L1 L2 X1 X2 Y1 Y2))), .val (.int (own_tq p1 I2 (own_se L1 L2 (X1.toInt8.toInt32) (Y1.toInt8.toInt32) (X2.toInt8.toInt32) (Y2.toInt8.toInt32)))), .val (.int (own_tq I2 p1 (own_se L2 L1 (X2.toInt8.toInt32) (Y2.toInt8.toInt32) (X1.toInt8.toInt32) (Y1.toInt8.toInt32)))), .val (.int (own_tq p1 p1 (own_se L1 L1 (X1.toInt8.toInt32) (Y1.toInt8.toInt32) (X1.toInt8.toInt32) (Y1.toInt8.toInt32)))), .val (.int (0 : Int32)), .val (.int (0 : Int32))] [(.int (own_tq p1 p1 (own_se L1 L1 (X1.toInt8.toInt32) (Y1.toInt8.toInt32) (X1.toInt8.toInt32) (Y1.toInt8.toInt32))))])) t
    refine XS.ifNo X212.here hx rfl (hb hby at_276) rfl ((if0 _ _).trans (feq hc276_218).1) ?_
    show Steps p.tables e below (T212.setTop (mkF m 279 #[.val (.int p1), .val (.int p2), .val (.int p3), .val (.int p4), .val (.int p5), .val (.int L1), .val (.int X1), .val (.int Y1), .val (.int L2), .val (.int X2), .val (.int Y2), .val (.int I2), .val (.ref r31), .val (.ref r40), .val (.ref b56), .val (.ref b108), .val (.int (own_sm L1 L2 X1 X2 Y1 Y2)), .val (.int (own_ex p1 I2 (own_sm L1 L2 X1 X2 Y1 Y2))), .val (.int (own_tq p1 I2 (own_se L1 L2 (X1.toInt8.toInt32) (Y1.toInt8.toInt32) (X2.toInt8.toInt32) (Y2.toInt8.toInt32)))), .val (.int (own_tq I2 p1 (own_se L2 L1 (X2.toInt8.toInt32) (Y2.toInt8.toInt32) (X1.toInt8.toInt32) (Y1.toInt8.toInt32)))), .val (.int (own_tq p1 p1 (own_se L1 L1 (X1.toInt8.toInt32) (Y1.toInt8.toInt32) (X1.toInt8.toInt32) (Y1.toInt8.toInt32)))), .val (.int (0 : Int32)), .val (.int (0 : Int32))] [])) t
    refine XS.iload X212.here hx rfl (hb hby at_279) rfl ?_
    exact kt
  have hc281_220 : (0 : Int32) = (0 : Int32) := rfl
  have k223 : ∀ t, Steps p.tables e below (T212.setTop (mkF m 294 #[.val (.int p1), .val (.int p2), .val (.int p3), .val (.int p4), .val (.int p5), .val (.int L1), .val (.int X1), .val (.int Y1), .val (.int L2), .val (.int X2), .val (.int Y2), .val (.int I2), .val (.ref r31), .val (.ref r40), .val (.ref b56), .val (.ref b108), .val (.int (own_sm L1 L2 X1 X2 Y1 Y2)), .val (.int (own_ex p1 I2 (own_sm L1 L2 X1 X2 Y1 Y2))), .val (.int (own_tq p1 I2 (own_se L1 L2 (X1.toInt8.toInt32) (Y1.toInt8.toInt32) (X2.toInt8.toInt32) (Y2.toInt8.toInt32)))), .val (.int (own_tq I2 p1 (own_se L2 L1 (X2.toInt8.toInt32) (Y2.toInt8.toInt32) (X1.toInt8.toInt32) (Y1.toInt8.toInt32)))), .val (.int (own_tq p1 p1 (own_se L1 L1 (X1.toInt8.toInt32) (Y1.toInt8.toInt32) (X1.toInt8.toInt32) (Y1.toInt8.toInt32)))), .val (.int (0 : Int32)), .val (.int (0 : Int32))] [(.int (1 : Int32))])) t → Steps p.tables e below (s₁.setTop (entryFrame m #[(.int p1), (.int p2), (.int p3), (.int p4), (.int p5)] maxLocals)) t := by
    intro t kt
    refine k221 t ?_
    show Steps p.tables e below (T212.setTop (mkF m 281 #[.val (.int p1), .val (.int p2), .val (.int p3), .val (.int p4), .val (.int p5), .val (.int L1), .val (.int X1), .val (.int Y1), .val (.int L2), .val (.int X2), .val (.int Y2), .val (.int I2), .val (.ref r31), .val (.ref r40), .val (.ref b56), .val (.ref b108), .val (.int (own_sm L1 L2 X1 X2 Y1 Y2)), .val (.int (own_ex p1 I2 (own_sm L1 L2 X1 X2 Y1 Y2))), .val (.int (own_tq p1 I2 (own_se L1 L2 (X1.toInt8.toInt32) (Y1.toInt8.toInt32) (X2.toInt8.toInt32) (Y2.toInt8.toInt32)))), .val (.int (own_tq I2 p1 (own_se L2 L1 (X2.toInt8.toInt32) (Y2.toInt8.toInt32) (X1.toInt8.toInt32) (Y1.toInt8.toInt32)))), .val (.int (own_tq p1 p1 (own_se L1 L1 (X1.toInt8.toInt32) (Y1.toInt8.toInt32) (X1.toInt8.toInt32) (Y1.toInt8.toInt32)))), .val (.int (0 : Int32)), .val (.int (0 : Int32))] [(.int (0 : Int32))])) t
    refine XS.ifNo X212.here hx rfl (hb hby at_281) rfl ((if0 _ _).trans (teq hc281_220).2) ?_
    show Steps p.tables e below (T212.setTop (mkF m 284 #[.val (.int p1), .val (.int p2), .val (.int p3), .val (.int p4), .val (.int p5), .val (.int L1), .val (.int X1), .val (.int Y1), .val (.int L2), .val (.int X2), .val (.int Y2), .val (.int I2), .val (.ref r31), .val (.ref r40), .val (.ref b56), .val (.ref b108), .val (.int (own_sm L1 L2 X1 X2 Y1 Y2)), .val (.int (own_ex p1 I2 (own_sm L1 L2 X1 X2 Y1 Y2))), .val (.int (own_tq p1 I2 (own_se L1 L2 (X1.toInt8.toInt32) (Y1.toInt8.toInt32) (X2.toInt8.toInt32) (Y2.toInt8.toInt32)))), .val (.int (own_tq I2 p1 (own_se L2 L1 (X2.toInt8.toInt32) (Y2.toInt8.toInt32) (X1.toInt8.toInt32) (Y1.toInt8.toInt32)))), .val (.int (own_tq p1 p1 (own_se L1 L1 (X1.toInt8.toInt32) (Y1.toInt8.toInt32) (X1.toInt8.toInt32) (Y1.toInt8.toInt32)))), .val (.int (0 : Int32)), .val (.int (0 : Int32))] [])) t
    refine XS.iload X212.here hx rfl (hb hby at_284) rfl ?_
    show Steps p.tables e below (T212.setTop (mkF m 286 #[.val (.int p1), .val (.int p2), .val (.int p3), .val (.int p4), .val (.int p5), .val (.int L1), .val (.int X1), .val (.int Y1), .val (.int L2), .val (.int X2), .val (.int Y2), .val (.int I2), .val (.ref r31), .val (.ref r40), .val (.ref b56), .val (.ref b108), .val (.int (own_sm L1 L2 X1 X2 Y1 Y2)), .val (.int (own_ex p1 I2 (own_sm L1 L2 X1 X2 Y1 Y2))), .val (.int (own_tq p1 I2 (own_se L1 L2 (X1.toInt8.toInt32) (Y1.toInt8.toInt32) (X2.toInt8.toInt32) (Y2.toInt8.toInt32)))), .val (.int (own_tq I2 p1 (own_se L2 L1 (X2.toInt8.toInt32) (Y2.toInt8.toInt32) (X1.toInt8.toInt32) (Y1.toInt8.toInt32)))), .val (.int (own_tq p1 p1 (own_se L1 L1 (X1.toInt8.toInt32) (Y1.toInt8.toInt32) (X1.toInt8.toInt32) (Y1.toInt8.toInt32)))), .val (.int (0 : Int32)), .val (.int (0 : Int32))] [(.int (0 : Int32))])) t
    refine XS.ifNo X212.here hx rfl (hb hby at_286) rfl ((if0 _ _).trans (teq hc281_220).2) ?_
    show Steps p.tables e below (T212.setTop (mkF m 289 #[.val (.int p1), .val (.int p2), .val (.int p3), .val (.int p4), .val (.int p5), .val (.int L1), .val (.int X1), .val (.int Y1), .val (.int L2), .val (.int X2), .val (.int Y2), .val (.int I2), .val (.ref r31), .val (.ref r40), .val (.ref b56), .val (.ref b108), .val (.int (own_sm L1 L2 X1 X2 Y1 Y2)), .val (.int (own_ex p1 I2 (own_sm L1 L2 X1 X2 Y1 Y2))), .val (.int (own_tq p1 I2 (own_se L1 L2 (X1.toInt8.toInt32) (Y1.toInt8.toInt32) (X2.toInt8.toInt32) (Y2.toInt8.toInt32)))), .val (.int (own_tq I2 p1 (own_se L2 L1 (X2.toInt8.toInt32) (Y2.toInt8.toInt32) (X1.toInt8.toInt32) (Y1.toInt8.toInt32)))), .val (.int (own_tq p1 p1 (own_se L1 L1 (X1.toInt8.toInt32) (Y1.toInt8.toInt32) (X1.toInt8.toInt32) (Y1.toInt8.toInt32)))), .val (.int (0 : Int32)), .val (.int (0 : Int32))] [])) t
    refine XS.iconst X212.here hx rfl (hb hby at_289) ?_
    show Steps p.tables e below (T212.setTop (mkF m 290 #[.val (.int p1), .val (.int p2), .val (.int p3), .val (.int p4), .val (.int p5), .val (.int L1), .val (.int X1), .val (.int Y1), .val (.int L2), .val (.int X2), .val (.int Y2), .val (.int I2), .val (.ref r31), .val (.ref r40), .val (.ref b56), .val (.ref b108), .val (.int (own_sm L1 L2 X1 X2 Y1 Y2)), .val (.int (own_ex p1 I2 (own_sm L1 L2 X1 X2 Y1 Y2))), .val (.int (own_tq p1 I2 (own_se L1 L2 (X1.toInt8.toInt32) (Y1.toInt8.toInt32) (X2.toInt8.toInt32) (Y2.toInt8.toInt32)))), .val (.int (own_tq I2 p1 (own_se L2 L1 (X2.toInt8.toInt32) (Y2.toInt8.toInt32) (X1.toInt8.toInt32) (Y1.toInt8.toInt32)))), .val (.int (own_tq p1 p1 (own_se L1 L1 (X1.toInt8.toInt32) (Y1.toInt8.toInt32) (X1.toInt8.toInt32) (Y1.toInt8.toInt32)))), .val (.int (0 : Int32)), .val (.int (0 : Int32))] [(.int (1 : Int32))])) t
    refine XS.goto X212.here hx rfl (pc0 := 290) (pc' := 294) rfl (hb hby at_290) (by decide) (by decide) ?_
    exact kt
  obtain ⟨fs, hr, hrun, hended, hRW⟩ := X212.leaveW hS141 (by rw [e212]; exact hk141) (v := some (.int (1 : Int32))) (fun h => by rw [Bd.returns] at h; cases h)
  refine ⟨_, _, k223 _ ?_, hrun, hended, _, _, rfl, ?_, ?_, hRW.1, hRW.2.1, hRW.2.2.1, hRW.2.2.2.mono (by decide) (by decide)⟩
  · show Steps p.tables e below (T212.setTop (mkF m 294 #[.val (.int p1), .val (.int p2), .val (.int p3), .val (.int p4), .val (.int p5), .val (.int L1), .val (.int X1), .val (.int Y1), .val (.int L2), .val (.int X2), .val (.int Y2), .val (.int I2), .val (.ref r31), .val (.ref r40), .val (.ref b56), .val (.ref b108), .val (.int (own_sm L1 L2 X1 X2 Y1 Y2)), .val (.int (own_ex p1 I2 (own_sm L1 L2 X1 X2 Y1 Y2))), .val (.int (own_tq p1 I2 (own_se L1 L2 (X1.toInt8.toInt32) (Y1.toInt8.toInt32) (X2.toInt8.toInt32) (Y2.toInt8.toInt32)))), .val (.int (own_tq I2 p1 (own_se L2 L1 (X2.toInt8.toInt32) (Y2.toInt8.toInt32) (X1.toInt8.toInt32) (Y1.toInt8.toInt32)))), .val (.int (own_tq p1 p1 (own_se L1 L1 (X1.toInt8.toInt32) (Y1.toInt8.toInt32) (X1.toInt8.toInt32) (Y1.toInt8.toInt32)))), .val (.int (0 : Int32)), .val (.int (0 : Int32))] [(.int (1 : Int32))])) _
    exact retN X212 hx (t := .boolean) Bd.returns (by simp) (hb hby at_294) hr
  · show Q0 Z p1 p2 p3 p4 p5 aU cs h0 n0 _ T212.heap _
    rw [e212]
    exact ⟨rfl, N212⟩
  · show CHr Z own_EL s.vm s.heap T212.vm T212.heap
    rw [hh, e212]
    exact CHr.trans C144 (CHv.at (s := s) (vm0 := T141.vm) X212 hZ141 hEL C144.1)
set_option maxRecDepth 65536 in
set_option maxHeartbeats 40000000 in
theorem comes_1 {Post : Tables → Env → Array Value → State → Outcome → State → Prop} (hpost : ∀ tb e args s v u, (limb_1_1.after args s (.returned v) u = true ∧ limb_1_2.after args s (.returned v) u = true ∧ True) → ReturnedEndW s (.returned v) u (Jvm.fieldLocs frame_1_writes args s ++ Jvm.arrayLocs frame_1_arrays args s ++ Jvm.staticLocs frame_1_statics s) 40 2240 → Post tb e args s (.returned v) u) :
    ArmFor flags0 classFile x code maxLocals ret World_1 tables_1 room_1 Calls_1 rest_1 Pre_1 Post := by
  intro l hfl _ _ p e ha hc hk s m args below hf hA hF happ hP
  obtain ⟨hcalls, hrest, hpre⟩ := hP
  obtain ⟨-, -, -, hnamed, -, -, -, hat⟩ := (Spec.applies_iff hf).mp happ
  obtain ⟨hg, hn⟩ := and_e (Cond.before_iff.mp (show (Jvm.Cond.and given_1 narrow_1).before args s = true from hpre))
  obtain ⟨gc, gr0⟩ := and_e hg
  obtain ⟨ga0, gr1⟩ := and_e gr0
  obtain ⟨ga1, gr2⟩ := and_e gr1
  obtain ⟨ga2, gr3⟩ := and_e gr2
  obtain ⟨ga3, gr4⟩ := and_e gr3
  have ga4 := gr4
  obtain ⟨w0, w1, w2, w3, w4, rfl⟩ : ∃ w0 w1 w2 w3 w4 : Value, args = #[w0, w1, w2, w3, w4] := by
    have hs : args.size = 5 := by simpa [Cond.value, given_1] using gc
    obtain ⟨L⟩ := args
    match L, hs with
    | [w0, w1, w2, w3, w4], _ => exact ⟨w0, w1, w2, w3, w4, rfl⟩
  have hw := fun d (hd : d ∈ tables_1) => atoms_spec (ws := Jvm.Cond.code x code maxLocals ret :: tables_1) hat d (List.mem_cons_of_mem _ hd)
  have hfit : Fit s := fun {y c} hc i hi => by
    obtain ⟨ha, rfl⟩ := Array.getElem?_eq_some_iff.mp hc
    have q := List.all_eq_true.mp ((Array.all_eq_true_iff_forall_mem.mp hF) _ (Array.getElem_mem ha)) i (List.mem_range.mpr hi)
    simpa [Array.getElem?_eq_getElem hi] using q
  obtain ⟨i0, ei0⟩ := is_v ga0
  obtain rfl : w0 = (.int i0) := Option.some.inj ei0
  obtain ⟨i1, ei1⟩ := is_v ga1
  obtain rfl : w1 = (.int i1) := Option.some.inj ei1
  obtain ⟨i2, ei2⟩ := is_v ga2
  obtain rfl : w2 = (.int i2) := Option.some.inj ei2
  obtain ⟨i3, ei3⟩ := is_v ga3
  obtain rfl : w3 = (.int i3) := Option.some.inj ei3
  obtain ⟨i4, ei4⟩ := is_v ga4
  obtain rfl : w4 = (.int i4) := Option.some.inj ei4
  obtain ⟨hsets, hown0⟩ := atoms_of _ (rest_1_c_eq ▸ (show rest_1_c.before _ s = true from hrest))
  obtain ⟨cs, ecs⟩ := is_v (Cond.before_iff.mp (hsets _ (List.mem_of_getElem? (i := 1) rfl)))
  have RC : Sta s s.heap "java/lang/String" "COMPACT_STRINGS" "Z" (.int cs) := Sta.start ecs (Or.inl (hsets _ (List.mem_of_getElem? (i := 0) rfl)))
  have hcs : ¬ (cs = (0 : Int32)) := gotF (Cond.eq_ints ecs (Term.int_eval 0)) (by simpa using not_v (Cond.before_iff.mp (hsets _ (List.mem_of_getElem? (i := 2) rfl))))
  obtain ⟨aU, vU⟩ := exa_v (Cond.before_iff.mp (hsets _ (List.mem_of_getElem? (i := 14) rfl)))
  obtain ⟨aI, vI⟩ := exa_v (Cond.before_iff.mp (hsets _ (List.mem_of_getElem? (i := 17) rfl)))
  have eUI : aU = aI := Value.ref.inj (gotT (eq_R vU vI rfl rfl) (Cond.before_iff.mp (hsets _ (List.mem_of_getElem? (i := 13) rfl))))
  subst eUI
  have RS : Sta s s.heap "java/nio/charset/StandardCharsets" "UTF_8" "Ljava/nio/charset/Charset;" (.ref aU) := Sta.start vU (Or.inl (hsets _ (List.mem_of_getElem? (i := 10) rfl)))
  have RU : Sta s s.heap "sun/nio/cs/UTF_8" "INSTANCE" "Lsun/nio/cs/UTF_8;" (.ref aU) := Sta.start vI (Or.inl (hsets _ (List.mem_of_getElem? (i := 12) rfl)))
  have H0 : CHv s own_EL s.vm s.heap := CHv.start (own_EW hw) (fun q hq => hcalls.1 q hq) (hsets _ (List.mem_of_getElem? (i := 2) rfl)) (hw _ (List.mem_of_getElem? (i := 24) rfl)) (hw _ (List.mem_of_getElem? (i := 6) rfl))
  obtain ⟨n, o, h1, h2, h3, _, L, rfl, ⟨rfl, N⟩, -, hq⟩ := rm0 l s _ hw tables_1 i0 i1 i2 i3 i4 aU cs s.heap s.heap.size (Nat.le_refl _) (Old.start s) RC hcs RU RS p e ha hc hk s m _ below hf ((Spec.applies_iff_loose hf).mp happ).1 ⟨rfl, State.Warmed39.refl s, rfl, H0, fun _ q => nomatch q⟩ trivial
  refine ⟨n, _, h1, h2, h3, hpost _ _ _ _ _ _ ⟨Cond.after_iff.mpr rfl, Cond.after_iff.mpr (eq_i res_at (Term.int_eval (1)) rfl), trivial⟩ ⟨hq.1, hq.2.1, hq.2.2.1, (hq.2.2.2.sift fun y hy => Or.inr (N y hy)).mono (by decide) (by decide)⟩⟩
theorem main_1_1 : Claimed_1_1 := comes_1 fun _ _ _ _ _ _ h hF => ⟨h.1, hF⟩
theorem main_1_2 : Claimed_1_2 := comes_1 fun _ _ _ _ _ _ h hF => ⟨h.2.1, hF⟩
end Jvm.Pilot.@@N@@
namespace Jvm.Pilot.@@N@@
open Jvm Jvm.ClassFile Sem Op Lib Jvm.Free Jvm.Stand Jvm.Pilot.@@N@@.Jvm.D
/-! MADE BY PROGRAM (witnessworld.py) out of the Statement's table words and the real class files: 30 classes; the members and pool entries that the words name. The judged class is class 1, her method 2. -/
namespace start1
open Jvm.ClassFile
def u (s : String) : CpInfo := .utf8 (stringToUtf16 s)
/-- a pool by its gaps: so many unusable entries, then the entry; so many at the end -/
def gap : Nat → List CpInfo → List CpInfo
  | 0, r => r
  | n + 1, r => .unusable :: gap n r
def poolList (es : List (Nat × CpInfo)) (last : Nat) : List CpInfo := es.foldr (fun e r => gap e.1 (e.2 :: r)) (gap last [])
def pool (es : List (Nat × CpInfo)) (last : Nat) : Array CpInfo := ⟨poolList es last⟩
def fileOf (pool : Array CpInfo) (this : Nat) (attrs : Array Attribute := #[]) (ms : Array MethodInfo := #[]) (fl : Nat := 33) (sup : Nat := 0) (ifs : Array Nat := #[]) (fds : Array FieldInfo := #[]) : ClassFile where
  minorVersion := 0
  majorVersion := 65
  constantPool := pool
  accessFlags := fl
  thisClass := this
  superClass := sup
  interfaces := ifs
  fields := fds
  methods := ms
  attributes := attrs
def plain (name : String) (sup : Option ClassId) : Class where
  name := name
  kind := .ordinary
  loader := none
  accessFlags := 33
  super := sup
  interfaces := #[]
  cf := none
  fields := #[]
  methods := #[]
  instanceTypes := #[]
  staticTypes := #[]
  resolved := #[]
  callSites := []
  init := .initialized
  statics := none
  mirror := none

def pool0 : Array CpInfo := pool [(5, u "<init>"), (0, u "()V"), (1, .class_ 10), (1, u "java/lang/Object"), (85, u "clone"), (0, u "()Ljava/lang/Object;")] 26

def k0c0 : Code := { maxStack := 0, maxLocals := 1, code := object_method_1_code, exceptionTable := #[], attributes := #[] }
def k0m0 : Method := { name := "<init>", desc := "()V", sig := { parameters := [], returnType := none }, accessFlags := 1, code := some k0c0 }
def k0m1 : Method := { name := "clone", desc := "()Ljava/lang/Object;", sig := { parameters := [], returnType := some (.object "java/lang/Object") }, accessFlags := 260, code := none }
/-- java/lang/Object -/
def k0 : Class := { plain "java/lang/Object" none with
  accessFlags := 33
  interfaces := #[]
  cf := some (fileOf pool0 8 #[] #[{ accessFlags := 1, nameIndex := 5, descriptorIndex := 6, attributes := #[] }, { accessFlags := 260, nameIndex := 96, descriptorIndex := 97, attributes := #[] }] 33 0 #[] #[])
  fields := #[]
  methods := #[k0m0, k0m1]
  instanceTypes := #[]
  staticTypes := #[]
  resolved := Array.replicate 124 none
  statics := none }

def pool1 : Array CpInfo := pool [(2, .class_ 4), (1, u "java/lang/Object"), (0, u "<init>"), (0, u "()V"), (0, .class_ 8), (0, u "java/lang/String"), (0, .methodref 7 10), (0, .nameAndType 5 11), (0, u "([C)V"), (0, .integer 2147483647), (0, .methodref 14 15), (0, .class_ 16), (0, .nameAndType 17 18), (0, u "com/example/disk_to_queue/disktoqueue/store/TopicQueueEqualsPinLaw"), (0, u "mk"), (0, u "(ICC)Ljava/lang/String;"), (0, .class_ 20), (0, u "com/example/disk_to_queue/disktoqueue/store/TopicQueue"), (0, .methodref 19 22), (0, .nameAndType 5 23), (0, u "(Ljava/lang/String;I)V"), (0, .methodref 19 25), (0, .nameAndType 26 27), (0, u "equals"), (0, u "(Ljava/lang/Object;)Z"), (3, u "law"), (0, u "(IIIII)Z")] 2

def k1m0 : Method := { name := "<init>", desc := "()V", sig := { parameters := [], returnType := none }, accessFlags := 2, code := none }
def k1c1 : Code := { maxStack := 6, maxLocals := 3, code := method_2_code, exceptionTable := #[], attributes := #[] }
def k1m1 : Method := { name := "mk", desc := "(ICC)Ljava/lang/String;", sig := { parameters := [.int, .char, .char], returnType := some (.object "java/lang/String") }, accessFlags := 10, code := some k1c1 }
def k1c2 : Code := { maxStack := 4, maxLocals := 23, code := code, exceptionTable := #[], attributes := #[] }
def k1m2 : Method := { name := "law", desc := "(IIIII)Z", sig := { parameters := [.int, .int, .int, .int, .int], returnType := some .boolean }, accessFlags := 9, code := some k1c2 }
/-- com/example/disk_to_queue/disktoqueue/store/TopicQueueEqualsPinLaw -/
def k1 : Class := { plain "com/example/disk_to_queue/disktoqueue/store/TopicQueueEqualsPinLaw" (some 0) with
  accessFlags := 49
  interfaces := #[]
  cf := some (fileOf pool1 14 #[] #[{ accessFlags := 2, nameIndex := 5, descriptorIndex := 6, attributes := #[] }, { accessFlags := 10, nameIndex := 17, descriptorIndex := 18, attributes := #[] }, { accessFlags := 9, nameIndex := 31, descriptorIndex := 32, attributes := #[] }] 49 2 #[] #[])
  fields := #[]
  methods := #[k1m0, k1m1, k1m2]
  instanceTypes := #[]
  staticTypes := #[]
  resolved := Array.replicate 35 none
  statics := none }

def pool2 : Array CpInfo := pool [(1, .class_ 2), (0, u "java/io/Serializable"), (0, .class_ 4), (0, u "java/lang/Object")] 2

/-- java/io/Serializable -/
def k2 : Class := { plain "java/io/Serializable" (some 0) with
  accessFlags := 1537
  interfaces := #[]
  cf := some (fileOf pool2 1 #[] #[] 1537 3 #[] #[])
  fields := #[]
  methods := #[]
  instanceTypes := #[]
  staticTypes := #[]
  resolved := Array.replicate 7 none
  statics := none }

def pool3 : Array CpInfo := pool [(1, .class_ 2), (0, u "java/lang/Comparable"), (0, .class_ 4), (0, u "java/lang/Object")] 7

/-- java/lang/Comparable -/
def k3 : Class := { plain "java/lang/Comparable" (some 0) with
  accessFlags := 1537
  interfaces := #[]
  cf := some (fileOf pool3 1 #[] #[] 1537 3 #[] #[])
  fields := #[]
  methods := #[]
  instanceTypes := #[]
  staticTypes := #[]
  resolved := Array.replicate 12 none
  statics := none }

def pool4 : Array CpInfo := pool [(2, .class_ 4), (1, u "java/lang/CharSequence"), (42, .class_ 48), (0, u "java/lang/CharSequence$1CodePointIterator"), (10, .class_ 60), (0, u "java/lang/CharSequence$1CharIterator"), (5, .class_ 67), (0, u "java/lang/Object")] 63

/-- java/lang/CharSequence -/
def k4 : Class := { plain "java/lang/CharSequence" (some 0) with
  accessFlags := 1537
  interfaces := #[]
  cf := some (fileOf pool4 2 #[.nestMembers #[47, 59]] #[] 1537 66 #[] #[])
  fields := #[]
  methods := #[]
  instanceTypes := #[]
  staticTypes := #[]
  resolved := Array.replicate 131 none
  statics := none }

def pool5 : Array CpInfo := pool [(1, .class_ 2), (0, u "java/lang/constant/Constable"), (0, .class_ 4), (0, u "java/lang/Object")] 6

/-- java/lang/constant/Constable -/
def k5 : Class := { plain "java/lang/constant/Constable" (some 0) with
  accessFlags := 1537
  interfaces := #[]
  cf := some (fileOf pool5 1 #[] #[] 1537 3 #[] #[])
  fields := #[]
  methods := #[]
  instanceTypes := #[]
  staticTypes := #[]
  resolved := Array.replicate 11 none
  statics := none }

def pool6 : Array CpInfo := pool [(1, .class_ 2), (0, u "java/lang/constant/ConstantDesc"), (0, .class_ 4), (0, u "java/lang/Object")] 32

/-- java/lang/constant/ConstantDesc -/
def k6 : Class := { plain "java/lang/constant/ConstantDesc" (some 0) with
  accessFlags := 1537
  interfaces := #[]
  cf := some (fileOf pool6 1 #[] #[] 1537 3 #[] #[])
  fields := #[]
  methods := #[]
  instanceTypes := #[]
  staticTypes := #[]
  resolved := Array.replicate 37 none
  statics := none }

def pool7 : Array CpInfo := pool [(1, .methodref 2 3), (0, .class_ 4), (0, .nameAndType 5 6), (0, u "java/lang/Object"), (0, u "<init>"), (0, u "()V"), (0, .string 8), (0, u ""), (0, .fieldref 10 11), (0, .class_ 12), (0, .nameAndType 13 14), (0, u "java/lang/String"), (0, u "value"), (0, u "[B"), (0, .fieldref 10 16), (0, .nameAndType 17 18), (0, u "coder"), (0, u "B"), (2, u "hash"), (0, u "I"), (2, u "hashIsZero"), (0, u "Z"), (0, .methodref 10 28), (0, .nameAndType 5 29), (0, u "([CIILjava/lang/Void;)V"), (8, .fieldref 10 39), (0, .nameAndType 40 26), (0, u "COMPACT_STRINGS"), (1, .class_ 44), (1, u "java/lang/StringUTF16"), (0, u "compress"), (1, .methodref 42 48), (0, .nameAndType 49 50), (0, u "coderFromArrayLen"), (0, u "([BI)B"), (4, .class_ 57), (1, u "java/util/Arrays"), (2, .methodref 42 61), (0, .nameAndType 62 63), (0, u "newBytesFor"), (0, u "(I)[B"), (22, .fieldref 87 88), (0, .class_ 89), (0, .nameAndType 90 91), (0, u "sun/nio/cs/UTF_8"), (0, u "INSTANCE"), (0, u "Lsun/nio/cs/UTF_8;"), (1, .class_ 95), (1, u "java/lang/StringCoding"), (6, .methodref 55 103), (0, .nameAndType 104 105), (0, u "copyOf"), (0, u "([BI)[B"), (1, .class_ 109), (1, u "java/lang/StringLatin1"), (18, .methodref 93 129), (0, .nameAndType 130 131), (0, u "hasNegatives"), (0, u "([BII)Z"), (45, .methodref 42 178), (0, .nameAndType 45 179), (0, u "([CII)[B"), (72, .methodref 10 253), (0, .nameAndType 254 255), (0, u "encodeUTF8"), (0, u "(B[BZ)[B"), (23, .methodref 280 281), (0, .class_ 14), (0, .nameAndType 282 283), (0, u "clone"), (0, u "()Ljava/lang/Object;"), (33, u "encode"), (17, .methodref 10 336), (0, .nameAndType 17 337), (0, u "()B"), (194, u "getBytes"), (2, .methodref 10 536), (0, .nameAndType 317 537), (0, u "(Ljava/nio/charset/Charset;B[B)[B"), (3, .methodref 107 542), (0, .nameAndType 543 544), (0, u "equals"), (0, u "([B[B)Z"), (28, u "(Ljava/lang/Object;)Z"), (1, .class_ 576), (0, u "java/lang/CharSequence"), (22, u "CASE_INSENSITIVE_ORDER"), (0, u "Ljava/util/Comparator;"), (409, u "([C)V"), (90, u "serialPersistentFields"), (0, u "[Ljava/io/ObjectStreamField;"), (0, .class_ 1104), (0, u "java/lang/String$CaseInsensitiveComparator"), (1, .class_ 1107), (0, u "java/io/Serializable"), (0, .class_ 1109), (0, u "java/lang/Comparable"), (0, .class_ 1111), (0, u "java/lang/constant/Constable"), (0, .class_ 1113), (0, u "java/lang/constant/ConstantDesc"), (2, u "serialVersionUID"), (0, u "J"), (3, u "REPL"), (0, u "C"), (2, u "LATIN1"), (1, u "UTF16"), (117, u "(Ljava/nio/charset/Charset;)[B")] 205

def k7m0 : Method := { name := "<init>", desc := "()V", sig := { parameters := [], returnType := none }, accessFlags := 1, code := none }
def k7c1 : Code := { maxStack := 5, maxLocals := 2, code := jdk_42_method_3_code, exceptionTable := #[], attributes := #[] }
def k7m1 : Method := { name := "<init>", desc := "([C)V", sig := { parameters := [(.array .char)], returnType := none }, accessFlags := 1, code := some k7c1 }
def k7c2 : Code := { maxStack := 4, maxLocals := 3, code := jdk_42_method_18_code, exceptionTable := #[], attributes := #[] }
def k7m2 : Method := { name := "encode", desc := "(Ljava/nio/charset/Charset;B[B)[B", sig := { parameters := [(.object "java/nio/charset/Charset"), .byte, (.array .byte)], returnType := some (.array .byte) }, accessFlags := 10, code := some k7c2 }
def k7c3 : Code := { maxStack := 5, maxLocals := 9, code := jdk_42_method_46_code, exceptionTable := #[], attributes := #[] }
def k7m3 : Method := { name := "encodeUTF8", desc := "(B[BZ)[B", sig := { parameters := [.byte, (.array .byte), .boolean], returnType := some (.array .byte) }, accessFlags := 10, code := some k7c3 }
def k7c4 : Code := { maxStack := 3, maxLocals := 2, code := jdk_42_method_64_code, exceptionTable := #[], attributes := #[] }
def k7m4 : Method := { name := "getBytes", desc := "(Ljava/nio/charset/Charset;)[B", sig := { parameters := [(.object "java/nio/charset/Charset")], returnType := some (.array .byte) }, accessFlags := 1, code := some k7c4 }
def k7c5 : Code := { maxStack := 2, maxLocals := 3, code := jdk_42_method_66_code, exceptionTable := #[], attributes := #[] }
def k7m5 : Method := { name := "equals", desc := "(Ljava/lang/Object;)Z", sig := { parameters := [(.object "java/lang/Object")], returnType := some .boolean }, accessFlags := 1, code := some k7c5 }
def k7c6 : Code := { maxStack := 4, maxLocals := 6, code := jdk_42_method_149_code, exceptionTable := #[], attributes := #[] }
def k7m6 : Method := { name := "<init>", desc := "([CIILjava/lang/Void;)V", sig := { parameters := [(.array .char), .int, .int, (.object "java/lang/Void")], returnType := none }, accessFlags := 2, code := some k7c6 }
def k7c7 : Code := { maxStack := 1, maxLocals := 1, code := jdk_42_method_152_code, exceptionTable := #[], attributes := #[] }
def k7m7 : Method := { name := "coder", desc := "()B", sig := { parameters := [], returnType := some .byte }, accessFlags := 0, code := some k7c7 }
/-- java/lang/String -/
def k7 : Class := { plain "java/lang/String" (some 0) with
  accessFlags := 49
  interfaces := #[2, 3, 4, 5, 6]
  cf := some (fileOf pool7 10 #[.nestMembers #[1103]] #[{ accessFlags := 1, nameIndex := 5, descriptorIndex := 6, attributes := #[] }, { accessFlags := 1, nameIndex := 5, descriptorIndex := 1010, attributes := #[] }, { accessFlags := 10, nameIndex := 317, descriptorIndex := 537, attributes := #[] }, { accessFlags := 10, nameIndex := 254, descriptorIndex := 255, attributes := #[] }, { accessFlags := 1, nameIndex := 532, descriptorIndex := 1245, attributes := #[] }, { accessFlags := 1, nameIndex := 543, descriptorIndex := 573, attributes := #[] }, { accessFlags := 2, nameIndex := 5, descriptorIndex := 29, attributes := #[] }, { accessFlags := 0, nameIndex := 17, descriptorIndex := 337, attributes := #[] }] 49 2 #[1106, 1108, 575, 1110, 1112] #[{ accessFlags := 18, nameIndex := 13, descriptorIndex := 14, attributes := #[] }, { accessFlags := 18, nameIndex := 17, descriptorIndex := 18, attributes := #[] }, { accessFlags := 2, nameIndex := 21, descriptorIndex := 22, attributes := #[] }, { accessFlags := 2, nameIndex := 25, descriptorIndex := 26, attributes := #[] }, { accessFlags := 26, nameIndex := 1116, descriptorIndex := 1117, attributes := #[] }, { accessFlags := 24, nameIndex := 40, descriptorIndex := 26, attributes := #[] }, { accessFlags := 26, nameIndex := 1101, descriptorIndex := 1102, attributes := #[] }, { accessFlags := 26, nameIndex := 1121, descriptorIndex := 1122, attributes := #[] }, { accessFlags := 25, nameIndex := 599, descriptorIndex := 600, attributes := #[] }, { accessFlags := 24, nameIndex := 1125, descriptorIndex := 18, attributes := #[] }, { accessFlags := 24, nameIndex := 1127, descriptorIndex := 18, attributes := #[] }])
  fields := #[{ name := "value", type := (.array .byte), accessFlags := 18, slot := 0, constantValue := 0 }, { name := "coder", type := .byte, accessFlags := 18, slot := 1, constantValue := 0 }, { name := "hash", type := .int, accessFlags := 2, slot := 2, constantValue := 0 }, { name := "hashIsZero", type := .boolean, accessFlags := 2, slot := 3, constantValue := 0 }, { name := "serialVersionUID", type := .long, accessFlags := 26, slot := 0, constantValue := 0 }, { name := "COMPACT_STRINGS", type := .boolean, accessFlags := 24, slot := 1, constantValue := 0 }, { name := "serialPersistentFields", type := (.array (.object "java/io/ObjectStreamField")), accessFlags := 26, slot := 2, constantValue := 0 }, { name := "REPL", type := .char, accessFlags := 26, slot := 3, constantValue := 0 }, { name := "CASE_INSENSITIVE_ORDER", type := (.object "java/util/Comparator"), accessFlags := 25, slot := 4, constantValue := 0 }, { name := "LATIN1", type := .byte, accessFlags := 24, slot := 5, constantValue := 0 }, { name := "UTF16", type := .byte, accessFlags := 24, slot := 6, constantValue := 0 }]
  methods := #[k7m0, k7m1, k7m2, k7m3, k7m4, k7m5, k7m6, k7m7]
  instanceTypes := #[(.array .byte), .byte, .int, .boolean]
  staticTypes := #[.long, .boolean, (.array (.object "java/io/ObjectStreamField")), .char, (.object "java/util/Comparator"), .byte, .byte]
  resolved := Array.replicate 1451 none
  statics := some 0 }

def pool8 : Array CpInfo := pool [(6, .class_ 8), (1, u "java/lang/Object"), (0, u "<init>"), (0, u "()V"), (0, .methodref 12 13), (0, .class_ 14), (0, .nameAndType 15 16), (0, u "java/lang/StringUTF16"), (0, u "newBytesLength"), (0, u "(I)I"), (3, .integer 1073741823), (25, u "$assertionsDisabled"), (0, u "Z"), (13, u "HI_BYTE_SHIFT"), (0, u "I"), (2, u "LO_BYTE_SHIFT"), (43, u "newBytesFor"), (0, u "(I)[B"), (4, .methodref 12 116), (0, .nameAndType 117 118), (0, u "compress"), (0, u "([CI[BII)I"), (3, u "([CII)[B"), (138, u "coderFromArrayLen"), (0, u "([BI)B"), (106, .class_ 371), (1, u "java/lang/StringUTF16$LinesSpliterator"), (58, u "MAX_LENGTH"), (196, .class_ 628), (0, u "java/lang/StringUTF16$CodePointsSpliterator"), (0, .class_ 630), (0, u "java/lang/StringUTF16$CharsSpliterator")] 4

def k8m0 : Method := { name := "<init>", desc := "()V", sig := { parameters := [], returnType := none }, accessFlags := 0, code := none }
def k8c1 : Code := { maxStack := 1, maxLocals := 1, code := jdk_52_method_2_code, exceptionTable := #[], attributes := #[] }
def k8m1 : Method := { name := "newBytesFor", desc := "(I)[B", sig := { parameters := [.int], returnType := some (.array .byte) }, accessFlags := 9, code := some k8c1 }
def k8c2 : Code := { maxStack := 4, maxLocals := 1, code := jdk_52_method_3_code, exceptionTable := #[], attributes := #[] }
def k8m2 : Method := { name := "newBytesLength", desc := "(I)I", sig := { parameters := [.int], returnType := some .int }, accessFlags := 9, code := some k8c2 }
def k8c3 : Code := { maxStack := 2, maxLocals := 2, code := jdk_52_method_15_code, exceptionTable := #[], attributes := #[] }
def k8m3 : Method := { name := "coderFromArrayLen", desc := "([BI)B", sig := { parameters := [(.array .byte), .int], returnType := some .byte }, accessFlags := 8, code := some k8c3 }
def k8c4 : Code := { maxStack := 5, maxLocals := 6, code := jdk_52_method_16_code, exceptionTable := #[], attributes := #[] }
def k8m4 : Method := { name := "compress", desc := "([CII)[B", sig := { parameters := [(.array .char), .int, .int], returnType := some (.array .byte) }, accessFlags := 9, code := some k8c4 }
def k8c5 : Code := { maxStack := 3, maxLocals := 7, code := jdk_52_method_21_code, exceptionTable := #[], attributes := #[] }
def k8m5 : Method := { name := "compress", desc := "([CI[BII)I", sig := { parameters := [(.array .char), .int, (.array .byte), .int, .int], returnType := some .int }, accessFlags := 9, code := some k8c5 }
/-- java/lang/StringUTF16 -/
def k8 : Class := { plain "java/lang/StringUTF16" (some 0) with
  accessFlags := 48
  interfaces := #[]
  cf := some (fileOf pool8 12 #[.nestMembers #[627, 629, 369]] #[{ accessFlags := 0, nameIndex := 9, descriptorIndex := 10, attributes := #[] }, { accessFlags := 9, nameIndex := 109, descriptorIndex := 110, attributes := #[] }, { accessFlags := 9, nameIndex := 15, descriptorIndex := 16, attributes := #[] }, { accessFlags := 8, nameIndex := 261, descriptorIndex := 262, attributes := #[] }, { accessFlags := 9, nameIndex := 117, descriptorIndex := 122, attributes := #[] }, { accessFlags := 9, nameIndex := 117, descriptorIndex := 118, attributes := #[] }] 48 6 #[] #[{ accessFlags := 26, nameIndex := 61, descriptorIndex := 62, attributes := #[] }, { accessFlags := 26, nameIndex := 65, descriptorIndex := 62, attributes := #[] }, { accessFlags := 24, nameIndex := 430, descriptorIndex := 62, attributes := #[] }, { accessFlags := 4120, nameIndex := 46, descriptorIndex := 47, attributes := #[] }])
  fields := #[{ name := "HI_BYTE_SHIFT", type := .int, accessFlags := 26, slot := 0, constantValue := 0 }, { name := "LO_BYTE_SHIFT", type := .int, accessFlags := 26, slot := 1, constantValue := 0 }, { name := "MAX_LENGTH", type := .int, accessFlags := 24, slot := 2, constantValue := 0 }, { name := "$assertionsDisabled", type := .boolean, accessFlags := 4120, slot := 3, constantValue := 0 }]
  methods := #[k8m0, k8m1, k8m2, k8m3, k8m4, k8m5]
  instanceTypes := #[]
  staticTypes := #[.int, .int, .int, .boolean]
  resolved := Array.replicate 635 none
  statics := none }

def pool9 : Array CpInfo := pool [(1, .string 2), (0, u "topic"), (0, .methodref 4 5), (0, .class_ 6), (0, .nameAndType 7 8), (0, u "java/util/Objects"), (0, u "requireNonNull"), (0, u "(Ljava/lang/Object;Ljava/lang/String;)Ljava/lang/Object;"), (0, .class_ 10), (0, u "java/lang/String"), (0, .fieldref 12 13), (0, .class_ 14), (0, .nameAndType 15 16), (0, u "java/nio/charset/StandardCharsets"), (0, u "UTF_8"), (0, u "Ljava/nio/charset/Charset;"), (0, .methodref 9 18), (0, .nameAndType 19 20), (0, u "getBytes"), (0, u "(Ljava/nio/charset/Charset;)[B"), (0, .methodref 22 23), (0, .class_ 24), (0, .nameAndType 25 26), (0, u "com/example/disk_to_queue/disktoqueue/store/TopicQueue"), (0, u "<init>"), (0, u "(Ljava/lang/String;I[B)V"), (0, .methodref 28 29), (0, .class_ 30), (0, .nameAndType 25 31), (0, u "java/lang/Object"), (0, u "()V"), (0, .fieldref 22 33), (0, .nameAndType 2 34), (0, u "Ljava/lang/String;"), (0, .fieldref 22 36), (0, .nameAndType 37 38), (0, u "queueId"), (0, u "I"), (0, .fieldref 22 40), (0, .nameAndType 41 42), (0, u "topicBytes"), (0, u "[B"), (6, .methodref 9 50), (0, .nameAndType 51 52), (0, u "equals"), (0, u "(Ljava/lang/Object;)Z"), (38, u "(Ljava/lang/String;I)V"), (129, u "CONSUME_QUEUES")] 70

def k9c0 : Code := { maxStack := 5, maxLocals := 3, code := prog_88_method_1_code, exceptionTable := #[], attributes := #[] }
def k9m0 : Method := { name := "<init>", desc := "(Ljava/lang/String;I)V", sig := { parameters := [(.object "java/lang/String"), .int], returnType := none }, accessFlags := 0, code := some k9c0 }
def k9c1 : Code := { maxStack := 2, maxLocals := 4, code := prog_88_method_2_code, exceptionTable := #[], attributes := #[] }
def k9m1 : Method := { name := "<init>", desc := "(Ljava/lang/String;I[B)V", sig := { parameters := [(.object "java/lang/String"), .int, (.array .byte)], returnType := none }, accessFlags := 2, code := some k9c1 }
def k9c2 : Code := { maxStack := 2, maxLocals := 3, code := prog_88_method_16_code, exceptionTable := #[], attributes := #[] }
def k9m2 : Method := { name := "equals", desc := "(Ljava/lang/Object;)Z", sig := { parameters := [(.object "java/lang/Object")], returnType := some .boolean }, accessFlags := 1, code := some k9c2 }
/-- com/example/disk_to_queue/disktoqueue/store/TopicQueue -/
def k9 : Class := { plain "com/example/disk_to_queue/disktoqueue/store/TopicQueue" (some 0) with
  accessFlags := 32
  interfaces := #[]
  cf := some (fileOf pool9 22 #[] #[{ accessFlags := 0, nameIndex := 25, descriptorIndex := 91, attributes := #[] }, { accessFlags := 2, nameIndex := 25, descriptorIndex := 26, attributes := #[] }, { accessFlags := 1, nameIndex := 51, descriptorIndex := 52, attributes := #[] }] 32 28 #[] #[{ accessFlags := 26, nameIndex := 221, descriptorIndex := 34, attributes := #[] }, { accessFlags := 18, nameIndex := 2, descriptorIndex := 34, attributes := #[] }, { accessFlags := 18, nameIndex := 37, descriptorIndex := 38, attributes := #[] }, { accessFlags := 18, nameIndex := 41, descriptorIndex := 42, attributes := #[] }])
  fields := #[{ name := "CONSUME_QUEUES", type := (.object "java/lang/String"), accessFlags := 26, slot := 0, constantValue := 0 }, { name := "topic", type := (.object "java/lang/String"), accessFlags := 18, slot := 0, constantValue := 0 }, { name := "queueId", type := .int, accessFlags := 18, slot := 1, constantValue := 0 }, { name := "topicBytes", type := (.array .byte), accessFlags := 18, slot := 2, constantValue := 0 }]
  methods := #[k9m0, k9m1, k9m2]
  instanceTypes := #[(.object "java/lang/String"), .int, (.array .byte)]
  staticTypes := #[(.object "java/lang/String")]
  resolved := Array.replicate 292 none
  statics := none }

def pool10 : Array CpInfo := pool [(2, .class_ 4), (1, u "java/lang/Object"), (0, u "<init>"), (0, u "()V"), (35, .class_ 44), (1, u "java/util/Objects"), (0, u "requireNonNull"), (48, u "(Ljava/lang/Object;Ljava/lang/String;)Ljava/lang/Object;")] 89

def k10m0 : Method := { name := "<init>", desc := "()V", sig := { parameters := [], returnType := none }, accessFlags := 2, code := none }
def k10c1 : Code := { maxStack := 3, maxLocals := 2, code := jdk_31_method_11_code, exceptionTable := #[], attributes := #[] }
def k10m1 : Method := { name := "requireNonNull", desc := "(Ljava/lang/Object;Ljava/lang/String;)Ljava/lang/Object;", sig := { parameters := [(.object "java/lang/Object"), (.object "java/lang/String")], returnType := some (.object "java/lang/Object") }, accessFlags := 9, code := some k10c1 }
/-- java/util/Objects -/
def k10 : Class := { plain "java/util/Objects" (some 0) with
  accessFlags := 49
  interfaces := #[]
  cf := some (fileOf pool10 42 #[] #[{ accessFlags := 2, nameIndex := 5, descriptorIndex := 6, attributes := #[] }, { accessFlags := 9, nameIndex := 45, descriptorIndex := 94, attributes := #[] }] 49 2 #[] #[])
  fields := #[]
  methods := #[k10m0, k10m1]
  instanceTypes := #[]
  staticTypes := #[]
  resolved := Array.replicate 184 none
  statics := none }

def pool11 : Array CpInfo := pool [(2, .class_ 4), (1, u "java/lang/Object"), (0, u "<init>"), (0, u "()V"), (14, .class_ 23), (1, u "java/nio/charset/StandardCharsets"), (0, u "US_ASCII"), (0, u "Ljava/nio/charset/Charset;"), (7, u "ISO_8859_1"), (7, u "UTF_8"), (5, u "UTF_16BE"), (5, u "UTF_16LE"), (5, u "UTF_16")] 8

def k11m0 : Method := { name := "<init>", desc := "()V", sig := { parameters := [], returnType := none }, accessFlags := 2, code := none }
/-- java/nio/charset/StandardCharsets -/
def k11 : Class := { plain "java/nio/charset/StandardCharsets" (some 0) with
  accessFlags := 49
  interfaces := #[]
  cf := some (fileOf pool11 21 #[] #[{ accessFlags := 2, nameIndex := 5, descriptorIndex := 6, attributes := #[] }] 49 2 #[] #[{ accessFlags := 25, nameIndex := 24, descriptorIndex := 25, attributes := #[] }, { accessFlags := 25, nameIndex := 33, descriptorIndex := 25, attributes := #[] }, { accessFlags := 25, nameIndex := 41, descriptorIndex := 25, attributes := #[] }, { accessFlags := 25, nameIndex := 47, descriptorIndex := 25, attributes := #[] }, { accessFlags := 25, nameIndex := 53, descriptorIndex := 25, attributes := #[] }, { accessFlags := 25, nameIndex := 59, descriptorIndex := 25, attributes := #[] }])
  fields := #[{ name := "US_ASCII", type := (.object "java/nio/charset/Charset"), accessFlags := 25, slot := 0, constantValue := 0 }, { name := "ISO_8859_1", type := (.object "java/nio/charset/Charset"), accessFlags := 25, slot := 1, constantValue := 0 }, { name := "UTF_8", type := (.object "java/nio/charset/Charset"), accessFlags := 25, slot := 2, constantValue := 0 }, { name := "UTF_16BE", type := (.object "java/nio/charset/Charset"), accessFlags := 25, slot := 3, constantValue := 0 }, { name := "UTF_16LE", type := (.object "java/nio/charset/Charset"), accessFlags := 25, slot := 4, constantValue := 0 }, { name := "UTF_16", type := (.object "java/nio/charset/Charset"), accessFlags := 25, slot := 5, constantValue := 0 }]
  methods := #[k11m0]
  instanceTypes := #[]
  staticTypes := #[(.object "java/nio/charset/Charset"), (.object "java/nio/charset/Charset"), (.object "java/nio/charset/Charset"), (.object "java/nio/charset/Charset"), (.object "java/nio/charset/Charset"), (.object "java/nio/charset/Charset")]
  resolved := Array.replicate 68 none
  statics := some 1 }

def pool12 : Array CpInfo := pool [(18, .class_ 20), (1, u "java/nio/charset/Charset"), (0, u "cache1"), (0, u "[Ljava/lang/Object;"), (2, u "cache2"), (0, .class_ 27), (0, u "java/lang/Object"), (0, .class_ 29), (0, u "java/nio/charset/Charset$1"), (4, .class_ 36), (1, u "java/nio/charset/Charset$ThreadTrackHolder"), (21, .class_ 59), (0, u "java/nio/charset/Charset$2"), (11, .class_ 73), (1, u "java/nio/charset/Charset$ExtendedProviderHolder"), (22, u "standardProvider"), (0, u "Ljava/nio/charset/spi/CharsetProvider;"), (29, u "name"), (7, .class_ 136), (0, u "java/nio/charset/Charset$3"), (5, u "defaultCharset"), (0, u "Ljava/nio/charset/Charset;"), (14, u "zeroAliases"), (0, u "[Ljava/lang/String;"), (29, u "Ljava/lang/String;"), (2, u "aliases"), (2, u "aliasSet"), (0, u "Ljava/util/Set;"), (82, .class_ 280), (0, u "java/lang/Comparable"), (84, .class_ 366), (0, u "java/nio/charset/Charset$ExtendedProviderHolder$1")] 3

/-- java/nio/charset/Charset -/
def k12 : Class := { plain "java/nio/charset/Charset" (some 0) with
  accessFlags := 1057
  interfaces := #[3]
  cf := some (fileOf pool12 18 #[.nestMembers #[71, 365, 34, 135, 58, 28]] #[] 1057 26 #[279] #[{ accessFlags := 26, nameIndex := 96, descriptorIndex := 97, attributes := #[] }, { accessFlags := 26, nameIndex := 158, descriptorIndex := 159, attributes := #[] }, { accessFlags := 74, nameIndex := 21, descriptorIndex := 22, attributes := #[] }, { accessFlags := 74, nameIndex := 25, descriptorIndex := 22, attributes := #[] }, { accessFlags := 10, nameIndex := 142, descriptorIndex := 143, attributes := #[] }, { accessFlags := 18, nameIndex := 127, descriptorIndex := 189, attributes := #[] }, { accessFlags := 18, nameIndex := 192, descriptorIndex := 159, attributes := #[] }, { accessFlags := 2, nameIndex := 195, descriptorIndex := 196, attributes := #[] }])
  fields := #[{ name := "standardProvider", type := (.object "java/nio/charset/spi/CharsetProvider"), accessFlags := 26, slot := 0, constantValue := 0 }, { name := "zeroAliases", type := (.array (.object "java/lang/String")), accessFlags := 26, slot := 1, constantValue := 0 }, { name := "cache1", type := (.array (.object "java/lang/Object")), accessFlags := 74, slot := 2, constantValue := 0 }, { name := "cache2", type := (.array (.object "java/lang/Object")), accessFlags := 74, slot := 3, constantValue := 0 }, { name := "defaultCharset", type := (.object "java/nio/charset/Charset"), accessFlags := 10, slot := 4, constantValue := 0 }, { name := "name", type := (.object "java/lang/String"), accessFlags := 18, slot := 0, constantValue := 0 }, { name := "aliases", type := (.array (.object "java/lang/String")), accessFlags := 18, slot := 1, constantValue := 0 }, { name := "aliasSet", type := (.object "java/util/Set"), accessFlags := 2, slot := 2, constantValue := 0 }]
  methods := #[]
  instanceTypes := #[(.object "java/lang/String"), (.array (.object "java/lang/String")), (.object "java/util/Set")]
  staticTypes := #[(.object "java/nio/charset/spi/CharsetProvider"), (.array (.object "java/lang/String")), (.array (.object "java/lang/Object")), (.array (.object "java/lang/Object")), (.object "java/nio/charset/Charset")]
  resolved := Array.replicate 370 none
  statics := none }

def pool13 : Array CpInfo := pool [(1, .class_ 2), (0, u "sun/nio/cs/HistoricallyNamedCharset"), (0, .class_ 4), (0, u "java/lang/Object")] 4

/-- sun/nio/cs/HistoricallyNamedCharset -/
def k13 : Class := { plain "sun/nio/cs/HistoricallyNamedCharset" (some 0) with
  accessFlags := 1537
  interfaces := #[]
  cf := some (fileOf pool13 1 #[] #[] 1537 3 #[] #[])
  fields := #[]
  methods := #[]
  instanceTypes := #[]
  staticTypes := #[]
  resolved := Array.replicate 9 none
  statics := none }

def pool14 : Array CpInfo := pool [(2, .class_ 4), (1, u "java/nio/charset/Charset"), (130, .class_ 136), (0, u "sun/nio/cs/Unicode"), (0, .class_ 138), (0, u "sun/nio/cs/HistoricallyNamedCharset")] 15

/-- sun/nio/cs/Unicode -/
def k14 : Class := { plain "sun/nio/cs/Unicode" (some 12) with
  accessFlags := 1056
  interfaces := #[13]
  cf := some (fileOf pool14 135 #[] #[] 1056 2 #[137] #[])
  fields := #[]
  methods := #[]
  instanceTypes := #[(.object "java/lang/String"), (.array (.object "java/lang/String")), (.object "java/util/Set")]
  staticTypes := #[]
  resolved := Array.replicate 154 none
  statics := none }

def pool15 : Array CpInfo := pool [(10, .class_ 12), (1, u "sun/nio/cs/Unicode"), (0, u "<init>"), (3, .class_ 18), (0, u "sun/nio/cs/UTF_8$Decoder"), (3, .class_ 23), (0, u "sun/nio/cs/UTF_8$Encoder"), (15, .class_ 40), (0, u "sun/nio/cs/UTF_8"), (2, u "()V"), (2, u "INSTANCE"), (0, u "Lsun/nio/cs/UTF_8;"), (8, u "JLA"), (0, u "Ljdk/internal/access/JavaLangAccess;")] 26

def k15m0 : Method := { name := "<init>", desc := "()V", sig := { parameters := [], returnType := none }, accessFlags := 1, code := none }
/-- sun/nio/cs/UTF_8 -/
def k15 : Class := { plain "sun/nio/cs/UTF_8" (some 14) with
  accessFlags := 49
  interfaces := #[]
  cf := some (fileOf pool15 39 #[.nestMembers #[22, 17]] #[{ accessFlags := 1, nameIndex := 13, descriptorIndex := 43, attributes := #[] }] 49 10 #[] #[{ accessFlags := 25, nameIndex := 46, descriptorIndex := 47, attributes := #[] }, { accessFlags := 26, nameIndex := 56, descriptorIndex := 57, attributes := #[] }])
  fields := #[{ name := "INSTANCE", type := (.object "sun/nio/cs/UTF_8"), accessFlags := 25, slot := 0, constantValue := 0 }, { name := "JLA", type := (.object "jdk/internal/access/JavaLangAccess"), accessFlags := 26, slot := 1, constantValue := 0 }]
  methods := #[k15m0]
  instanceTypes := #[(.object "java/lang/String"), (.array (.object "java/lang/String")), (.object "java/util/Set")]
  staticTypes := #[(.object "sun/nio/cs/UTF_8"), (.object "jdk/internal/access/JavaLangAccess")]
  resolved := Array.replicate 84 none
  statics := some 2 }

def pool16 : Array CpInfo := pool [(2, .class_ 4), (1, u "java/lang/Object"), (0, u "<init>"), (0, u "()V"), (0, .methodref 8 9), (0, .class_ 10), (0, .nameAndType 11 12), (0, u "java/lang/StringCoding"), (0, u "countPositives"), (0, u "([BII)I"), (11, u "hasNegatives"), (0, u "([BII)Z")] 23

def k16m0 : Method := { name := "<init>", desc := "()V", sig := { parameters := [], returnType := none }, accessFlags := 2, code := none }
def k16c1 : Code := { maxStack := 3, maxLocals := 3, code := jdk_123_method_2_code, exceptionTable := #[], attributes := #[] }
def k16m1 : Method := { name := "hasNegatives", desc := "([BII)Z", sig := { parameters := [(.array .byte), .int, .int], returnType := some .boolean }, accessFlags := 9, code := some k16c1 }
def k16c2 : Code := { maxStack := 2, maxLocals := 5, code := jdk_123_method_3_code, exceptionTable := #[], attributes := #[] }
def k16m2 : Method := { name := "countPositives", desc := "([BII)I", sig := { parameters := [(.array .byte), .int, .int], returnType := some .int }, accessFlags := 9, code := some k16c2 }
/-- java/lang/StringCoding -/
def k16 : Class := { plain "java/lang/StringCoding" (some 0) with
  accessFlags := 32
  interfaces := #[]
  cf := some (fileOf pool16 8 #[] #[{ accessFlags := 2, nameIndex := 5, descriptorIndex := 6, attributes := #[] }, { accessFlags := 9, nameIndex := 24, descriptorIndex := 25, attributes := #[] }, { accessFlags := 9, nameIndex := 11, descriptorIndex := 12, attributes := #[] }] 32 2 #[] #[])
  fields := #[]
  methods := #[k16m0, k16m1, k16m2]
  instanceTypes := #[]
  staticTypes := #[]
  resolved := Array.replicate 49 none
  statics := none }

def pool17 : Array CpInfo := pool [(1, .class_ 2), (0, u "java/lang/Cloneable"), (0, .class_ 4), (0, u "java/lang/Object")] 2

/-- java/lang/Cloneable -/
def k17 : Class := { plain "java/lang/Cloneable" (some 0) with
  accessFlags := 1537
  interfaces := #[]
  cf := some (fileOf pool17 1 #[] #[] 1537 3 #[] #[])
  fields := #[]
  methods := #[]
  instanceTypes := #[]
  staticTypes := #[]
  resolved := Array.replicate 7 none
  statics := none }

def pool18 : Array CpInfo := pool [(4, .class_ 6), (1, u "java/lang/Object"), (0, u "<init>"), (0, u "()V"), (5, .class_ 16), (1, u "java/lang/StringLatin1"), (104, u "$assertionsDisabled"), (0, u "Z"), (98, .class_ 223), (1, u "java/lang/StringLatin1$LinesSpliterator"), (57, u "equals"), (0, u "([B[B)Z"), (107, .class_ 391), (0, u "java/lang/StringLatin1$CharsSpliterator")] 3

def k18m0 : Method := { name := "<init>", desc := "()V", sig := { parameters := [], returnType := none }, accessFlags := 0, code := none }
def k18c1 : Code := { maxStack := 3, maxLocals := 3, code := jdk_43_method_13_code, exceptionTable := #[], attributes := #[] }
def k18m1 : Method := { name := "equals", desc := "([B[B)Z", sig := { parameters := [(.array .byte), (.array .byte)], returnType := some .boolean }, accessFlags := 9, code := some k18c1 }
/-- java/lang/StringLatin1 -/
def k18 : Class := { plain "java/lang/StringLatin1" (some 0) with
  accessFlags := 48
  interfaces := #[]
  cf := some (fileOf pool18 14 #[.nestMembers #[390, 221]] #[{ accessFlags := 0, nameIndex := 7, descriptorIndex := 8, attributes := #[] }, { accessFlags := 9, nameIndex := 281, descriptorIndex := 282, attributes := #[] }] 48 4 #[] #[{ accessFlags := 4120, nameIndex := 121, descriptorIndex := 122, attributes := #[] }])
  fields := #[{ name := "$assertionsDisabled", type := .boolean, accessFlags := 4120, slot := 0, constantValue := 0 }]
  methods := #[k18m0, k18m1]
  instanceTypes := #[]
  staticTypes := #[.boolean]
  resolved := Array.replicate 395 none
  statics := none }

def pool19 : Array CpInfo := pool [(2, .class_ 4), (1, u "java/lang/Object"), (0, u "<init>"), (0, u "()V"), (7, .class_ 16), (1, u "java/util/Arrays"), (57, .class_ 76), (1, u "java/util/Arrays$NaturalOrder"), (36, .class_ 115), (1, u "java/util/Arrays$LegacyMergeSort"), (1, u "Z"), (32, .methodref 151 152), (0, .class_ 153), (0, .nameAndType 154 155), (0, u "java/lang/System"), (0, u "arraycopy"), (0, u "(Ljava/lang/Object;ILjava/lang/Object;II)V"), (146, u "copyOf"), (1, .methodref 305 306), (0, .class_ 307), (0, .nameAndType 308 309), (0, u "java/lang/Math"), (0, u "min"), (0, u "(II)I"), (65, .class_ 376), (0, u "java/util/Arrays$ArrayList"), (68, u "$assertionsDisabled"), (269, u "MIN_ARRAY_SORT_GRAN"), (0, u "I"), (2, u "INSERTIONSORT_THRESHOLD"), (149, u "([BI)[B"), (105, .class_ 976), (0, u "java/util/Arrays$ArrayItr")] 52

def k19m0 : Method := { name := "<init>", desc := "()V", sig := { parameters := [], returnType := none }, accessFlags := 2, code := none }
def k19c1 : Code := { maxStack := 6, maxLocals := 3, code := jdk_65_method_121_code, exceptionTable := #[], attributes := #[] }
def k19m1 : Method := { name := "copyOf", desc := "([BI)[B", sig := { parameters := [(.array .byte), .int], returnType := some (.array .byte) }, accessFlags := 9, code := some k19c1 }
/-- java/util/Arrays -/
def k19 : Class := { plain "java/util/Arrays" (some 0) with
  accessFlags := 49
  interfaces := #[]
  cf := some (fileOf pool19 14 #[.nestMembers #[975, 375, 113, 74]] #[{ accessFlags := 2, nameIndex := 5, descriptorIndex := 6, attributes := #[] }, { accessFlags := 9, nameIndex := 302, descriptorIndex := 869, attributes := #[] }] 49 2 #[] #[{ accessFlags := 26, nameIndex := 715, descriptorIndex := 716, attributes := #[] }, { accessFlags := 26, nameIndex := 719, descriptorIndex := 716, attributes := #[] }, { accessFlags := 4120, nameIndex := 445, descriptorIndex := 117, attributes := #[] }])
  fields := #[{ name := "MIN_ARRAY_SORT_GRAN", type := .int, accessFlags := 26, slot := 0, constantValue := 0 }, { name := "INSERTIONSORT_THRESHOLD", type := .int, accessFlags := 26, slot := 1, constantValue := 0 }, { name := "$assertionsDisabled", type := .boolean, accessFlags := 4120, slot := 2, constantValue := 0 }]
  methods := #[k19m0, k19m1]
  instanceTypes := #[]
  staticTypes := #[.int, .int, .boolean]
  resolved := Array.replicate 1029 none
  statics := none }

def pool20 : Array CpInfo := pool [(1, .class_ 2), (0, u "java/lang/Math"), (1, .class_ 6), (1, u "java/lang/Object"), (0, u "<init>"), (0, u "()V"), (89, .class_ 100), (1, u "java/lang/Math$RandomNumberGeneratorHolder"), (71, u "negativeZeroFloatBits"), (0, u "J"), (2, u "negativeZeroDoubleBits"), (24, u "min"), (43, u "$assertionsDisabled"), (0, u "Z"), (88, u "(II)I"), (2, u "twoToTheDoubleScaleDown"), (0, u "D"), (4, u "twoToTheDoubleScaleUp"), (9, u "E"), (3, u "PI"), (2, u "TAU"), (2, u "DEGREES_TO_RADIANS"), (0, u "RADIANS_TO_DEGREES")] 94

def k20m0 : Method := { name := "<init>", desc := "()V", sig := { parameters := [], returnType := none }, accessFlags := 2, code := none }
def k20c1 : Code := { maxStack := 2, maxLocals := 2, code := jdk_29_method_69_code, exceptionTable := #[], attributes := #[] }
def k20m1 : Method := { name := "min", desc := "(II)I", sig := { parameters := [.int, .int], returnType := some .int }, accessFlags := 9, code := some k20c1 }
/-- java/lang/Math -/
def k20 : Class := { plain "java/lang/Math" (some 0) with
  accessFlags := 49
  interfaces := #[]
  cf := some (fileOf pool20 1 #[.nestMembers #[98]] #[{ accessFlags := 2, nameIndex := 7, descriptorIndex := 8, attributes := #[] }, { accessFlags := 9, nameIndex := 201, descriptorIndex := 335, attributes := #[] }] 49 4 #[] #[{ accessFlags := 25, nameIndex := 354, descriptorIndex := 339, attributes := #[] }, { accessFlags := 25, nameIndex := 358, descriptorIndex := 339, attributes := #[] }, { accessFlags := 25, nameIndex := 361, descriptorIndex := 339, attributes := #[] }, { accessFlags := 26, nameIndex := 364, descriptorIndex := 339, attributes := #[] }, { accessFlags := 26, nameIndex := 365, descriptorIndex := 339, attributes := #[] }, { accessFlags := 26, nameIndex := 172, descriptorIndex := 173, attributes := #[] }, { accessFlags := 26, nameIndex := 176, descriptorIndex := 173, attributes := #[] }, { accessFlags := 8, nameIndex := 344, descriptorIndex := 339, attributes := #[] }, { accessFlags := 8, nameIndex := 338, descriptorIndex := 339, attributes := #[] }, { accessFlags := 4120, nameIndex := 245, descriptorIndex := 246, attributes := #[] }])
  fields := #[{ name := "E", type := .double, accessFlags := 25, slot := 0, constantValue := 0 }, { name := "PI", type := .double, accessFlags := 25, slot := 1, constantValue := 0 }, { name := "TAU", type := .double, accessFlags := 25, slot := 2, constantValue := 0 }, { name := "DEGREES_TO_RADIANS", type := .double, accessFlags := 26, slot := 3, constantValue := 0 }, { name := "RADIANS_TO_DEGREES", type := .double, accessFlags := 26, slot := 4, constantValue := 0 }, { name := "negativeZeroFloatBits", type := .long, accessFlags := 26, slot := 5, constantValue := 0 }, { name := "negativeZeroDoubleBits", type := .long, accessFlags := 26, slot := 6, constantValue := 0 }, { name := "twoToTheDoubleScaleUp", type := .double, accessFlags := 8, slot := 7, constantValue := 0 }, { name := "twoToTheDoubleScaleDown", type := .double, accessFlags := 8, slot := 8, constantValue := 0 }, { name := "$assertionsDisabled", type := .boolean, accessFlags := 4120, slot := 9, constantValue := 0 }]
  methods := #[k20m0, k20m1]
  instanceTypes := #[]
  staticTypes := #[.double, .double, .double, .double, .double, .long, .long, .double, .double, .boolean]
  resolved := Array.replicate 460 none
  statics := none }

def pool21 : Array CpInfo := pool [(2, .class_ 4), (1, u "java/lang/Object"), (0, u "<init>"), (0, u "()V"), (1, .class_ 10), (1, u "java/lang/System"), (0, u "allowSecurityManager"), (0, u "I"), (16, u "cons"), (0, u "Ljava/io/Console;"), (77, .class_ 110), (1, u "java/lang/System$CallersHolder"), (43, u "initialErrStream"), (0, u "Ljava/io/PrintStream;"), (19, u "security"), (0, u "Ljava/lang/SecurityManager;"), (31, .class_ 209), (0, u "java/lang/System$1"), (7, u "props"), (0, u "Ljava/util/Properties;"), (2, u "lineSeparator"), (0, u "Ljava/lang/String;"), (96, .class_ 321), (1, u "java/lang/System$LoggerFinder"), (5, .class_ 328), (0, u "java/lang/System$Logger"), (67, u "err"), (2, u "out"), (91, u "notSupportedJnuEncoding"), (15, u "in"), (17, u "initialIn"), (0, u "Ljava/io/InputStream;"), (35, u "bootLayer"), (0, u "Ljava/lang/ModuleLayer;"), (99, .class_ 664), (0, u "java/lang/System$2"), (9, u "NEVER"), (2, u "MAYBE"), (49, u "arraycopy"), (0, u "(Ljava/lang/Object;ILjava/lang/Object;II)V"), (72, .class_ 802), (0, u "java/lang/System$Logger$Level")] 31

def k21m0 : Method := { name := "<init>", desc := "()V", sig := { parameters := [], returnType := none }, accessFlags := 2, code := none }
def k21m1 : Method := { name := "arraycopy", desc := "(Ljava/lang/Object;ILjava/lang/Object;II)V", sig := { parameters := [(.object "java/lang/Object"), .int, (.object "java/lang/Object"), .int, .int], returnType := none }, accessFlags := 265, code := none }
/-- java/lang/System -/
def k21 : Class := { plain "java/lang/System" (some 0) with
  accessFlags := 49
  interfaces := #[]
  cf := some (fileOf pool21 8 #[.nestMembers #[319, 327, 801, 108, 663, 208]] #[{ accessFlags := 2, nameIndex := 5, descriptorIndex := 6, attributes := #[] }, { accessFlags := 265, nameIndex := 727, descriptorIndex := 728, attributes := #[] }] 49 2 #[] #[{ accessFlags := 25, nameIndex := 507, descriptorIndex := 526, attributes := #[] }, { accessFlags := 25, nameIndex := 399, descriptorIndex := 155, attributes := #[] }, { accessFlags := 25, nameIndex := 396, descriptorIndex := 155, attributes := #[] }, { accessFlags := 10, nameIndex := 525, descriptorIndex := 526, attributes := #[] }, { accessFlags := 26, nameIndex := 674, descriptorIndex := 12, attributes := #[] }, { accessFlags := 26, nameIndex := 677, descriptorIndex := 12, attributes := #[] }, { accessFlags := 10, nameIndex := 11, descriptorIndex := 12, attributes := #[] }, { accessFlags := 74, nameIndex := 175, descriptorIndex := 176, attributes := #[] }, { accessFlags := 10, nameIndex := 491, descriptorIndex := 222, attributes := #[] }, { accessFlags := 74, nameIndex := 29, descriptorIndex := 30, attributes := #[] }, { accessFlags := 74, nameIndex := 154, descriptorIndex := 155, attributes := #[] }, { accessFlags := 10, nameIndex := 217, descriptorIndex := 218, attributes := #[] }, { accessFlags := 10, nameIndex := 221, descriptorIndex := 222, attributes := #[] }, { accessFlags := 8, nameIndex := 562, descriptorIndex := 563, attributes := #[] }])
  fields := #[{ name := "in", type := (.object "java/io/InputStream"), accessFlags := 25, slot := 0, constantValue := 0 }, { name := "out", type := (.object "java/io/PrintStream"), accessFlags := 25, slot := 1, constantValue := 0 }, { name := "err", type := (.object "java/io/PrintStream"), accessFlags := 25, slot := 2, constantValue := 0 }, { name := "initialIn", type := (.object "java/io/InputStream"), accessFlags := 10, slot := 3, constantValue := 0 }, { name := "NEVER", type := .int, accessFlags := 26, slot := 4, constantValue := 0 }, { name := "MAYBE", type := .int, accessFlags := 26, slot := 5, constantValue := 0 }, { name := "allowSecurityManager", type := .int, accessFlags := 10, slot := 6, constantValue := 0 }, { name := "security", type := (.object "java/lang/SecurityManager"), accessFlags := 74, slot := 7, constantValue := 0 }, { name := "notSupportedJnuEncoding", type := (.object "java/lang/String"), accessFlags := 10, slot := 8, constantValue := 0 }, { name := "cons", type := (.object "java/io/Console"), accessFlags := 74, slot := 9, constantValue := 0 }, { name := "initialErrStream", type := (.object "java/io/PrintStream"), accessFlags := 74, slot := 10, constantValue := 0 }, { name := "props", type := (.object "java/util/Properties"), accessFlags := 10, slot := 11, constantValue := 0 }, { name := "lineSeparator", type := (.object "java/lang/String"), accessFlags := 10, slot := 12, constantValue := 0 }, { name := "bootLayer", type := (.object "java/lang/ModuleLayer"), accessFlags := 8, slot := 13, constantValue := 0 }]
  methods := #[k21m0, k21m1]
  instanceTypes := #[]
  staticTypes := #[(.object "java/io/InputStream"), (.object "java/io/PrintStream"), (.object "java/io/PrintStream"), (.object "java/io/InputStream"), .int, .int, .int, (.object "java/lang/SecurityManager"), (.object "java/lang/String"), (.object "java/io/Console"), (.object "java/io/PrintStream"), (.object "java/util/Properties"), (.object "java/lang/String"), (.object "java/lang/ModuleLayer")]
  resolved := Array.replicate 834 none
  statics := none }

def pool22 : Array CpInfo := pool [(2, .class_ 4), (1, u "java/lang/Object"), (0, u "<init>"), (0, u "()V"), (17, .class_ 26), (1, u "jdk/internal/util/Preconditions"), (28, .class_ 56), (0, u "jdk/internal/util/Preconditions$4"), (57, .class_ 115), (0, u "jdk/internal/util/Preconditions$1"), (7, u "SIOOBE_FORMATTER"), (0, u "Ljava/util/function/BiFunction;"), (0, .class_ 126), (0, u "jdk/internal/util/Preconditions$2"), (3, u "AIOOBE_FORMATTER"), (0, .class_ 132), (0, u "jdk/internal/util/Preconditions$3"), (3, u "IOOBE_FORMATTER")] 57

def k22m0 : Method := { name := "<init>", desc := "()V", sig := { parameters := [], returnType := none }, accessFlags := 1, code := none }
/-- jdk/internal/util/Preconditions -/
def k22 : Class := { plain "jdk/internal/util/Preconditions" (some 0) with
  accessFlags := 33
  interfaces := #[]
  cf := some (fileOf pool22 24 #[.nestMembers #[55, 131, 125, 114]] #[{ accessFlags := 1, nameIndex := 5, descriptorIndex := 6, attributes := #[] }] 33 2 #[] #[{ accessFlags := 25, nameIndex := 123, descriptorIndex := 124, attributes := #[] }, { accessFlags := 25, nameIndex := 130, descriptorIndex := 124, attributes := #[] }, { accessFlags := 25, nameIndex := 136, descriptorIndex := 124, attributes := #[] }])
  fields := #[{ name := "SIOOBE_FORMATTER", type := (.object "java/util/function/BiFunction"), accessFlags := 25, slot := 0, constantValue := 0 }, { name := "AIOOBE_FORMATTER", type := (.object "java/util/function/BiFunction"), accessFlags := 25, slot := 1, constantValue := 0 }, { name := "IOOBE_FORMATTER", type := (.object "java/util/function/BiFunction"), accessFlags := 25, slot := 2, constantValue := 0 }]
  methods := #[k22m0]
  instanceTypes := #[]
  staticTypes := #[(.object "java/util/function/BiFunction"), (.object "java/util/function/BiFunction"), (.object "java/util/function/BiFunction")]
  resolved := Array.replicate 194 none
  statics := some 3 }

def pool23 : Array CpInfo := pool [(9, u "<init>"), (6, .class_ 18), (1, u "java/lang/Object"), (0, u "()V"), (1, .class_ 23), (1, u "jdk/internal/util/ArraysSupport"), (0, u "LOG2_ARRAY_LONG_INDEX_SCALE"), (0, u "I"), (2, u "U"), (0, u "Ljdk/internal/misc/Unsafe;"), (8, u "BIG_ENDIAN"), (0, u "Z"), (8, u "LOG2_BYTE_BIT_SIZE"), (4, u "LOG2_ARRAY_INT_INDEX_SCALE"), (54, u "JLA"), (0, u "Ljdk/internal/access/JavaLangAccess;"), (11, u "LOG2_ARRAY_BOOLEAN_INDEX_SCALE"), (9, u "LOG2_ARRAY_BYTE_INDEX_SCALE"), (5, u "LOG2_ARRAY_CHAR_INDEX_SCALE"), (5, u "LOG2_ARRAY_SHORT_INDEX_SCALE"), (18, u "LOG2_ARRAY_FLOAT_INDEX_SCALE"), (24, u "LOG2_ARRAY_DOUBLE_INDEX_SCALE"), (89, u "T_BOOLEAN"), (2, u "T_CHAR"), (1, u "T_FLOAT"), (1, u "T_DOUBLE"), (1, u "T_BYTE"), (1, u "T_SHORT"), (1, u "T_INT"), (1, u "T_LONG"), (1, u "SOFT_MAX_ARRAY_LENGTH")] 83

def k23m0 : Method := { name := "<init>", desc := "()V", sig := { parameters := [], returnType := none }, accessFlags := 2, code := none }
/-- jdk/internal/util/ArraysSupport -/
def k23 : Class := { plain "jdk/internal/util/ArraysSupport" (some 0) with
  accessFlags := 33
  interfaces := #[]
  cf := some (fileOf pool23 21 #[] #[{ accessFlags := 2, nameIndex := 9, descriptorIndex := 19, attributes := #[] }] 33 16 #[] #[{ accessFlags := 24, nameIndex := 28, descriptorIndex := 29, attributes := #[] }, { accessFlags := 26, nameIndex := 38, descriptorIndex := 39, attributes := #[] }, { accessFlags := 25, nameIndex := 121, descriptorIndex := 25, attributes := #[] }, { accessFlags := 25, nameIndex := 131, descriptorIndex := 25, attributes := #[] }, { accessFlags := 25, nameIndex := 137, descriptorIndex := 25, attributes := #[] }, { accessFlags := 25, nameIndex := 143, descriptorIndex := 25, attributes := #[] }, { accessFlags := 25, nameIndex := 53, descriptorIndex := 25, attributes := #[] }, { accessFlags := 25, nameIndex := 24, descriptorIndex := 25, attributes := #[] }, { accessFlags := 25, nameIndex := 162, descriptorIndex := 25, attributes := #[] }, { accessFlags := 25, nameIndex := 187, descriptorIndex := 25, attributes := #[] }, { accessFlags := 26, nameIndex := 48, descriptorIndex := 25, attributes := #[] }, { accessFlags := 25, nameIndex := 277, descriptorIndex := 25, attributes := #[] }, { accessFlags := 25, nameIndex := 280, descriptorIndex := 25, attributes := #[] }, { accessFlags := 25, nameIndex := 282, descriptorIndex := 25, attributes := #[] }, { accessFlags := 25, nameIndex := 284, descriptorIndex := 25, attributes := #[] }, { accessFlags := 25, nameIndex := 286, descriptorIndex := 25, attributes := #[] }, { accessFlags := 25, nameIndex := 288, descriptorIndex := 25, attributes := #[] }, { accessFlags := 25, nameIndex := 290, descriptorIndex := 25, attributes := #[] }, { accessFlags := 25, nameIndex := 292, descriptorIndex := 25, attributes := #[] }, { accessFlags := 26, nameIndex := 108, descriptorIndex := 109, attributes := #[] }, { accessFlags := 25, nameIndex := 294, descriptorIndex := 25, attributes := #[] }])
  fields := #[{ name := "U", type := (.object "jdk/internal/misc/Unsafe"), accessFlags := 24, slot := 0, constantValue := 0 }, { name := "BIG_ENDIAN", type := .boolean, accessFlags := 26, slot := 1, constantValue := 0 }, { name := "LOG2_ARRAY_BOOLEAN_INDEX_SCALE", type := .int, accessFlags := 25, slot := 2, constantValue := 0 }, { name := "LOG2_ARRAY_BYTE_INDEX_SCALE", type := .int, accessFlags := 25, slot := 3, constantValue := 0 }, { name := "LOG2_ARRAY_CHAR_INDEX_SCALE", type := .int, accessFlags := 25, slot := 4, constantValue := 0 }, { name := "LOG2_ARRAY_SHORT_INDEX_SCALE", type := .int, accessFlags := 25, slot := 5, constantValue := 0 }, { name := "LOG2_ARRAY_INT_INDEX_SCALE", type := .int, accessFlags := 25, slot := 6, constantValue := 0 }, { name := "LOG2_ARRAY_LONG_INDEX_SCALE", type := .int, accessFlags := 25, slot := 7, constantValue := 0 }, { name := "LOG2_ARRAY_FLOAT_INDEX_SCALE", type := .int, accessFlags := 25, slot := 8, constantValue := 0 }, { name := "LOG2_ARRAY_DOUBLE_INDEX_SCALE", type := .int, accessFlags := 25, slot := 9, constantValue := 0 }, { name := "LOG2_BYTE_BIT_SIZE", type := .int, accessFlags := 26, slot := 10, constantValue := 0 }, { name := "T_BOOLEAN", type := .int, accessFlags := 25, slot := 11, constantValue := 0 }, { name := "T_CHAR", type := .int, accessFlags := 25, slot := 12, constantValue := 0 }, { name := "T_FLOAT", type := .int, accessFlags := 25, slot := 13, constantValue := 0 }, { name := "T_DOUBLE", type := .int, accessFlags := 25, slot := 14, constantValue := 0 }, { name := "T_BYTE", type := .int, accessFlags := 25, slot := 15, constantValue := 0 }, { name := "T_SHORT", type := .int, accessFlags := 25, slot := 16, constantValue := 0 }, { name := "T_INT", type := .int, accessFlags := 25, slot := 17, constantValue := 0 }, { name := "T_LONG", type := .int, accessFlags := 25, slot := 18, constantValue := 0 }, { name := "JLA", type := (.object "jdk/internal/access/JavaLangAccess"), accessFlags := 26, slot := 19, constantValue := 0 }, { name := "SOFT_MAX_ARRAY_LENGTH", type := .int, accessFlags := 25, slot := 20, constantValue := 0 }]
  methods := #[k23m0]
  instanceTypes := #[]
  staticTypes := #[(.object "jdk/internal/misc/Unsafe"), .boolean, .int, .int, .int, .int, .int, .int, .int, .int, .int, .int, .int, .int, .int, .int, .int, .int, .int, (.object "jdk/internal/access/JavaLangAccess"), .int]
  resolved := Array.replicate 378 none
  statics := none }

/-- the primitive byte -/
def k24 : Class := { plain "byte" none with kind := .primitive 'B', accessFlags := 0x411 }
/-- [B -/
def k25 : Class := { plain "[B" (some 0) with kind := .array 24 .byte, interfaces := #[17, 2], accessFlags := 1041 }

/-- the primitive char -/
def k26 : Class := { plain "char" none with kind := .primitive 'C', accessFlags := 0x411 }
/-- [C -/
def k27 : Class := { plain "[C" (some 0) with kind := .array 26 .char, interfaces := #[17, 2], accessFlags := 1041 }

/-- the primitive int -/
def k28 : Class := { plain "int" none with kind := .primitive 'I', accessFlags := 0x411 }
/-- [I -/
def k29 : Class := { plain "[I" (some 0) with kind := .array 28 .int, interfaces := #[17, 2], accessFlags := 1041 }

def heap : Heap := #[{ cls := 7, slots := #[.long 0, .int 1, .null, .int 0, .null, .int 0, .int 0], vm := .statics 7 },
  { cls := 11, slots := #[.null, .null, .ref 4, .null, .null, .null], vm := .statics 11 },
  { cls := 15, slots := #[.ref 4, .null], vm := .statics 15 },
  { cls := 22, slots := #[.null, .null, .null], vm := .statics 22 },
  { cls := 15, slots := #[.null, .null, .null], vm := .none }]
def classes : Array Class := #[k0, k1, k2, k3, k4, k5, k6, k7, k8, k9, k10, k11, k12, k13, k14, k15, k16, k17, k18, k19, k20, k21, k22, k23, k24, k25, k26, k27, k28, k29]
def interned : List (Array UInt16 × Addr) := []
def slotsUsed : Nat := 21
def theMethod : MethodId := ⟨1, 2⟩
def args0 : Array Value := #[.int 5, .int 1, .int 1, .int 1, .int 1]
def aboutOver (below : List Frame) : State where
  vm := { classes := classes, interned := interned.toArray }
  heap := heap
  slotsUsed := slotsUsed
  threads := #[{ frames := .invoking theMethod args0 :: below }]
def below0 : List Frame := [.native { method := ⟨0, 0⟩, args := #[] }]
def about1 : State := aboutOver below0
def p0 : Program := .bare "" "" ""
def e0 : Env := launch0.env 0 0 0
theorem w_frames : about1.frames = Frame.invoking theMethod args0 :: below0 := rfl
set_option maxRecDepth 65536 in
theorem w_args : argsFit about1.vm theMethod args0 = true := by decide +kernel
set_option maxRecDepth 65536 in
theorem w_heap : heapFits about1 = true := by decide +kernel
set_option maxRecDepth 65536 in
theorem w_runnable : about1.curStatus? = some .runnable := by decide +kernel
set_option maxRecDepth 65536 in
theorem w_alone : about1.alone = true := by decide +kernel
set_option maxRecDepth 65536 in
theorem w_named : about1.methodNamed? x = some theMethod := by decide +kernel
set_option maxRecDepth 65536 in
theorem w_hears : about1.hears theMethod below0 = true := by decide +kernel
set_option maxRecDepth 65536 in
theorem w_ripe : about1.ripe theMethod args0 below0 = true := by decide +kernel
theorem w_running : about1.status = .running := rfl
set_option maxRecDepth 65536 in
theorem w_room : about1.hasRoom e0.platform room_1 = true :=
  launch0.hasRoom_least _ room_1 (by decide +kernel) (by decide +kernel) (by decide +kernel) (by decide +kernel) (by decide +kernel) (by decide +kernel)
theorem allAtoms_all (ts : List Jvm.Cond) (a : Array Jvm.Value) (st : Jvm.State) : (allAtoms ts).before a st = ts.all (fun c => c.before a st) := by
  induction ts with
  | nil => rfl
  | cons c t ih =>
    show (Jvm.Cond.and c (allAtoms t)).before a st = _
    rw [Jvm.Cond.before_and, ih, List.all_cons]
def words1 : List Jvm.Cond := Jvm.Cond.code x code maxLocals ret :: tables_1
/-- a 'code' word, met by the world's own term for the bytes: nothing is compared byte by byte -/
theorem code_word {y : MethodName} {bytes : ByteArray} {mx : Nat} {rt : Option FieldType} {a : Array Value} {s : State} {m : MethodId} {meth : Method} {c : Code} (h1 : s.methodNamed? y = some m) (h2 : s.vm.method? m = some meth) (h3 : meth.code = some c) (h4 : c.code = bytes)
    (h5 : (c.maxLocals == mx && c.exceptionTable.isEmpty && decide (c.maxStack ≤ mostOperands) && decide (meth.sig.returnType = rt) && !meth.locks && decide (parseMethodDescriptor y.desc = some meth.sig)) = true) : (Jvm.Cond.code y bytes mx rt).before a s = true := by
  simp only [Bool.and_eq_true, beq_iff_eq, Bool.not_eq_true', decide_eq_true_eq] at h5
  obtain ⟨⟨⟨⟨⟨g1, g2⟩, g3⟩, g4⟩, g5⟩, g6⟩ := h5
  simp [Cond.before, Cond.holds, Cond.value, h1, h2, h3, h4, g1, g2, g3, g4, g5, g6]
def isCode : Jvm.Cond → Bool
  | .code _ _ _ _ => true
  | _ => false
theorem all_split {L : List Jvm.Cond} {P : Jvm.Cond → Bool} (h1 : L.all (fun c => isCode c || P c) = true) (h2 : ∀ c ∈ L.filter isCode, P c = true) : L.all P = true := by
  refine List.all_eq_true.mpr fun c hc => ?_
  have h := List.all_eq_true.mp h1 c hc
  rcases Bool.eq_false_or_eq_true (isCode c) with hi | hi
  · exact h2 c (List.mem_filter.mpr ⟨hc, hi⟩)
  · simpa [hi] using h
set_option maxRecDepth 65536 in
theorem w_c0 : (Jvm.Cond.code x code maxLocals ret).before args0 about1 = true := code_word (m := ⟨1, 2⟩) (meth := k1m2) (c := k1c2) (by decide +kernel) rfl rfl rfl (by decide +kernel)
set_option maxRecDepth 65536 in
theorem w_c1 : (Jvm.Cond.code ({ cls := "com/example/disk_to_queue/disktoqueue/store/TopicQueueEqualsPinLaw", name := "mk", desc := "(ICC)Ljava/lang/String;" } : Jvm.MethodName) method_2_code (3 : Nat) (Option.some (Jvm.ClassFile.FieldType.object "java/lang/String"))).before args0 about1 = true := code_word (m := ⟨1, 1⟩) (meth := k1m1) (c := k1c1) (by decide +kernel) rfl rfl rfl (by decide +kernel)
set_option maxRecDepth 65536 in
theorem w_c2 : (Jvm.Cond.code ({ cls := "java/lang/String", name := "<init>", desc := "([C)V" } : Jvm.MethodName) jdk_42_method_3_code (2 : Nat) (Option.none : Option Jvm.ClassFile.FieldType)).before args0 about1 = true := code_word (m := ⟨7, 1⟩) (meth := k7m1) (c := k7c1) (by decide +kernel) rfl rfl rfl (by decide +kernel)
set_option maxRecDepth 65536 in
theorem w_c3 : (Jvm.Cond.code ({ cls := "java/lang/String", name := "<init>", desc := "([CIILjava/lang/Void;)V" } : Jvm.MethodName) jdk_42_method_149_code (6 : Nat) (Option.none : Option Jvm.ClassFile.FieldType)).before args0 about1 = true := code_word (m := ⟨7, 6⟩) (meth := k7m6) (c := k7c6) (by decide +kernel) rfl rfl rfl (by decide +kernel)
set_option maxRecDepth 65536 in
theorem w_c4 : (Jvm.Cond.code ({ cls := "java/lang/Object", name := "<init>", desc := "()V" } : Jvm.MethodName) object_method_1_code (1 : Nat) (Option.none : Option Jvm.ClassFile.FieldType)).before args0 about1 = true := code_word (m := ⟨0, 0⟩) (meth := k0m0) (c := k0c0) (by decide +kernel) rfl rfl rfl (by decide +kernel)
set_option maxRecDepth 65536 in
theorem w_c5 : (Jvm.Cond.code ({ cls := "java/lang/StringUTF16", name := "compress", desc := "([CII)[B" } : Jvm.MethodName) jdk_52_method_16_code (6 : Nat) (Option.some (Jvm.ClassFile.FieldType.array Jvm.ClassFile.FieldType.byte))).before args0 about1 = true := code_word (m := ⟨8, 4⟩) (meth := k8m4) (c := k8c4) (by decide +kernel) rfl rfl rfl (by decide +kernel)
set_option maxRecDepth 65536 in
theorem w_c6 : (Jvm.Cond.code ({ cls := "java/lang/StringUTF16", name := "compress", desc := "([CI[BII)I" } : Jvm.MethodName) jdk_52_method_21_code (7 : Nat) (Option.some Jvm.ClassFile.FieldType.int)).before args0 about1 = true := code_word (m := ⟨8, 5⟩) (meth := k8m5) (c := k8c5) (by decide +kernel) rfl rfl rfl (by decide +kernel)
set_option maxRecDepth 65536 in
theorem w_c7 : (Jvm.Cond.code ({ cls := "java/lang/StringUTF16", name := "coderFromArrayLen", desc := "([BI)B" } : Jvm.MethodName) jdk_52_method_15_code (2 : Nat) (Option.some Jvm.ClassFile.FieldType.byte)).before args0 about1 = true := code_word (m := ⟨8, 3⟩) (meth := k8m3) (c := k8c3) (by decide +kernel) rfl rfl rfl (by decide +kernel)
set_option maxRecDepth 65536 in
theorem w_c8 : (Jvm.Cond.code ({ cls := "com/example/disk_to_queue/disktoqueue/store/TopicQueue", name := "<init>", desc := "(Ljava/lang/String;I)V" } : Jvm.MethodName) prog_88_method_1_code (3 : Nat) (Option.none : Option Jvm.ClassFile.FieldType)).before args0 about1 = true := code_word (m := ⟨9, 0⟩) (meth := k9m0) (c := k9c0) (by decide +kernel) rfl rfl rfl (by decide +kernel)
set_option maxRecDepth 65536 in
theorem w_c9 : (Jvm.Cond.code ({ cls := "java/util/Objects", name := "requireNonNull", desc := "(Ljava/lang/Object;Ljava/lang/String;)Ljava/lang/Object;" } : Jvm.MethodName) jdk_31_method_11_code (2 : Nat) (Option.some (Jvm.ClassFile.FieldType.object "java/lang/Object"))).before args0 about1 = true := code_word (m := ⟨10, 1⟩) (meth := k10m1) (c := k10c1) (by decide +kernel) rfl rfl rfl (by decide +kernel)
set_option maxRecDepth 65536 in
theorem w_c10 : (Jvm.Cond.code ({ cls := "java/lang/String", name := "getBytes", desc := "(Ljava/nio/charset/Charset;)[B" } : Jvm.MethodName) jdk_42_method_64_code (2 : Nat) (Option.some (Jvm.ClassFile.FieldType.array Jvm.ClassFile.FieldType.byte))).before args0 about1 = true := code_word (m := ⟨7, 4⟩) (meth := k7m4) (c := k7c4) (by decide +kernel) rfl rfl rfl (by decide +kernel)
set_option maxRecDepth 65536 in
theorem w_c11 : (Jvm.Cond.code ({ cls := "java/lang/String", name := "coder", desc := "()B" } : Jvm.MethodName) jdk_42_method_152_code (1 : Nat) (Option.some Jvm.ClassFile.FieldType.byte)).before args0 about1 = true := code_word (m := ⟨7, 7⟩) (meth := k7m7) (c := k7c7) (by decide +kernel) rfl rfl rfl (by decide +kernel)
set_option maxRecDepth 65536 in
theorem w_c12 : (Jvm.Cond.code ({ cls := "java/lang/String", name := "encode", desc := "(Ljava/nio/charset/Charset;B[B)[B" } : Jvm.MethodName) jdk_42_method_18_code (3 : Nat) (Option.some (Jvm.ClassFile.FieldType.array Jvm.ClassFile.FieldType.byte))).before args0 about1 = true := code_word (m := ⟨7, 2⟩) (meth := k7m2) (c := k7c2) (by decide +kernel) rfl rfl rfl (by decide +kernel)
set_option maxRecDepth 65536 in
theorem w_c13 : (Jvm.Cond.code ({ cls := "java/lang/String", name := "encodeUTF8", desc := "(B[BZ)[B" } : Jvm.MethodName) jdk_42_method_46_code (9 : Nat) (Option.some (Jvm.ClassFile.FieldType.array Jvm.ClassFile.FieldType.byte))).before args0 about1 = true := code_word (m := ⟨7, 3⟩) (meth := k7m3) (c := k7c3) (by decide +kernel) rfl rfl rfl (by decide +kernel)
set_option maxRecDepth 65536 in
theorem w_c14 : (Jvm.Cond.code ({ cls := "java/lang/StringCoding", name := "hasNegatives", desc := "([BII)Z" } : Jvm.MethodName) jdk_123_method_2_code (3 : Nat) (Option.some Jvm.ClassFile.FieldType.boolean)).before args0 about1 = true := code_word (m := ⟨16, 1⟩) (meth := k16m1) (c := k16c1) (by decide +kernel) rfl rfl rfl (by decide +kernel)
set_option maxRecDepth 65536 in
theorem w_c15 : (Jvm.Cond.code ({ cls := "java/lang/StringCoding", name := "countPositives", desc := "([BII)I" } : Jvm.MethodName) jdk_123_method_3_code (5 : Nat) (Option.some Jvm.ClassFile.FieldType.int)).before args0 about1 = true := code_word (m := ⟨16, 2⟩) (meth := k16m2) (c := k16c2) (by decide +kernel) rfl rfl rfl (by decide +kernel)
set_option maxRecDepth 65536 in
theorem w_c16 : (Jvm.Cond.code ({ cls := "com/example/disk_to_queue/disktoqueue/store/TopicQueue", name := "<init>", desc := "(Ljava/lang/String;I[B)V" } : Jvm.MethodName) prog_88_method_2_code (4 : Nat) (Option.none : Option Jvm.ClassFile.FieldType)).before args0 about1 = true := code_word (m := ⟨9, 1⟩) (meth := k9m1) (c := k9c1) (by decide +kernel) rfl rfl rfl (by decide +kernel)
set_option maxRecDepth 65536 in
theorem w_c17 : (Jvm.Cond.code ({ cls := "com/example/disk_to_queue/disktoqueue/store/TopicQueue", name := "equals", desc := "(Ljava/lang/Object;)Z" } : Jvm.MethodName) prog_88_method_16_code (3 : Nat) (Option.some Jvm.ClassFile.FieldType.boolean)).before args0 about1 = true := code_word (m := ⟨9, 2⟩) (meth := k9m2) (c := k9c2) (by decide +kernel) rfl rfl rfl (by decide +kernel)
set_option maxRecDepth 65536 in
theorem w_c18 : (Jvm.Cond.code ({ cls := "java/lang/String", name := "equals", desc := "(Ljava/lang/Object;)Z" } : Jvm.MethodName) jdk_42_method_66_code (3 : Nat) (Option.some Jvm.ClassFile.FieldType.boolean)).before args0 about1 = true := code_word (m := ⟨7, 5⟩) (meth := k7m5) (c := k7c5) (by decide +kernel) rfl rfl rfl (by decide +kernel)
set_option maxRecDepth 65536 in
theorem w_c19 : (Jvm.Cond.code ({ cls := "java/lang/StringLatin1", name := "equals", desc := "([B[B)Z" } : Jvm.MethodName) jdk_43_method_13_code (3 : Nat) (Option.some Jvm.ClassFile.FieldType.boolean)).before args0 about1 = true := code_word (m := ⟨18, 1⟩) (meth := k18m1) (c := k18c1) (by decide +kernel) rfl rfl rfl (by decide +kernel)
set_option maxRecDepth 65536 in
theorem w_c20 : (Jvm.Cond.code ({ cls := "java/lang/StringUTF16", name := "newBytesFor", desc := "(I)[B" } : Jvm.MethodName) jdk_52_method_2_code (1 : Nat) (Option.some (Jvm.ClassFile.FieldType.array Jvm.ClassFile.FieldType.byte))).before args0 about1 = true := code_word (m := ⟨8, 1⟩) (meth := k8m1) (c := k8c1) (by decide +kernel) rfl rfl rfl (by decide +kernel)
set_option maxRecDepth 65536 in
theorem w_c21 : (Jvm.Cond.code ({ cls := "java/lang/StringUTF16", name := "newBytesLength", desc := "(I)I" } : Jvm.MethodName) jdk_52_method_3_code (1 : Nat) (Option.some Jvm.ClassFile.FieldType.int)).before args0 about1 = true := code_word (m := ⟨8, 2⟩) (meth := k8m2) (c := k8c2) (by decide +kernel) rfl rfl rfl (by decide +kernel)
set_option maxRecDepth 65536 in
theorem w_c22 : (Jvm.Cond.code ({ cls := "java/util/Arrays", name := "copyOf", desc := "([BI)[B" } : Jvm.MethodName) jdk_65_method_121_code (3 : Nat) (Option.some (Jvm.ClassFile.FieldType.array Jvm.ClassFile.FieldType.byte))).before args0 about1 = true := code_word (m := ⟨19, 1⟩) (meth := k19m1) (c := k19c1) (by decide +kernel) rfl rfl rfl (by decide +kernel)
set_option maxRecDepth 65536 in
theorem w_c23 : (Jvm.Cond.code ({ cls := "java/lang/Math", name := "min", desc := "(II)I" } : Jvm.MethodName) jdk_29_method_69_code (2 : Nat) (Option.some Jvm.ClassFile.FieldType.int)).before args0 about1 = true := code_word (m := ⟨20, 1⟩) (meth := k20m1) (c := k20c1) (by decide +kernel) rfl rfl rfl (by decide +kernel)
def codes1 : List Jvm.Cond := [Jvm.Cond.code x code maxLocals ret, Jvm.Cond.code ({ cls := "com/example/disk_to_queue/disktoqueue/store/TopicQueueEqualsPinLaw", name := "mk", desc := "(ICC)Ljava/lang/String;" } : Jvm.MethodName) method_2_code (3 : Nat) (Option.some (Jvm.ClassFile.FieldType.object "java/lang/String")), Jvm.Cond.code ({ cls := "java/lang/String", name := "<init>", desc := "([C)V" } : Jvm.MethodName) jdk_42_method_3_code (2 : Nat) (Option.none : Option Jvm.ClassFile.FieldType), Jvm.Cond.code ({ cls := "java/lang/String", name := "<init>", desc := "([CIILjava/lang/Void;)V" } : Jvm.MethodName) jdk_42_method_149_code (6 : Nat) (Option.none : Option Jvm.ClassFile.FieldType), Jvm.Cond.code ({ cls := "java/lang/Object", name := "<init>", desc := "()V" } : Jvm.MethodName) object_method_1_code (1 : Nat) (Option.none : Option Jvm.ClassFile.FieldType), Jvm.Cond.code ({ cls := "java/lang/StringUTF16", name := "compress", desc := "([CII)[B" } : Jvm.MethodName) jdk_52_method_16_code (6 : Nat) (Option.some (Jvm.ClassFile.FieldType.array Jvm.ClassFile.FieldType.byte)), Jvm.Cond.code ({ cls := "java/lang/StringUTF16", name := "compress", desc := "([CI[BII)I" } : Jvm.MethodName) jdk_52_method_21_code (7 : Nat) (Option.some Jvm.ClassFile.FieldType.int), Jvm.Cond.code ({ cls := "java/lang/StringUTF16", name := "coderFromArrayLen", desc := "([BI)B" } : Jvm.MethodName) jdk_52_method_15_code (2 : Nat) (Option.some Jvm.ClassFile.FieldType.byte), Jvm.Cond.code ({ cls := "com/example/disk_to_queue/disktoqueue/store/TopicQueue", name := "<init>", desc := "(Ljava/lang/String;I)V" } : Jvm.MethodName) prog_88_method_1_code (3 : Nat) (Option.none : Option Jvm.ClassFile.FieldType), Jvm.Cond.code ({ cls := "java/util/Objects", name := "requireNonNull", desc := "(Ljava/lang/Object;Ljava/lang/String;)Ljava/lang/Object;" } : Jvm.MethodName) jdk_31_method_11_code (2 : Nat) (Option.some (Jvm.ClassFile.FieldType.object "java/lang/Object")), Jvm.Cond.code ({ cls := "java/lang/String", name := "getBytes", desc := "(Ljava/nio/charset/Charset;)[B" } : Jvm.MethodName) jdk_42_method_64_code (2 : Nat) (Option.some (Jvm.ClassFile.FieldType.array Jvm.ClassFile.FieldType.byte)), Jvm.Cond.code ({ cls := "java/lang/String", name := "coder", desc := "()B" } : Jvm.MethodName) jdk_42_method_152_code (1 : Nat) (Option.some Jvm.ClassFile.FieldType.byte), Jvm.Cond.code ({ cls := "java/lang/String", name := "encode", desc := "(Ljava/nio/charset/Charset;B[B)[B" } : Jvm.MethodName) jdk_42_method_18_code (3 : Nat) (Option.some (Jvm.ClassFile.FieldType.array Jvm.ClassFile.FieldType.byte)), Jvm.Cond.code ({ cls := "java/lang/String", name := "encodeUTF8", desc := "(B[BZ)[B" } : Jvm.MethodName) jdk_42_method_46_code (9 : Nat) (Option.some (Jvm.ClassFile.FieldType.array Jvm.ClassFile.FieldType.byte)), Jvm.Cond.code ({ cls := "java/lang/StringCoding", name := "hasNegatives", desc := "([BII)Z" } : Jvm.MethodName) jdk_123_method_2_code (3 : Nat) (Option.some Jvm.ClassFile.FieldType.boolean), Jvm.Cond.code ({ cls := "java/lang/StringCoding", name := "countPositives", desc := "([BII)I" } : Jvm.MethodName) jdk_123_method_3_code (5 : Nat) (Option.some Jvm.ClassFile.FieldType.int), Jvm.Cond.code ({ cls := "com/example/disk_to_queue/disktoqueue/store/TopicQueue", name := "<init>", desc := "(Ljava/lang/String;I[B)V" } : Jvm.MethodName) prog_88_method_2_code (4 : Nat) (Option.none : Option Jvm.ClassFile.FieldType), Jvm.Cond.code ({ cls := "com/example/disk_to_queue/disktoqueue/store/TopicQueue", name := "equals", desc := "(Ljava/lang/Object;)Z" } : Jvm.MethodName) prog_88_method_16_code (3 : Nat) (Option.some Jvm.ClassFile.FieldType.boolean), Jvm.Cond.code ({ cls := "java/lang/String", name := "equals", desc := "(Ljava/lang/Object;)Z" } : Jvm.MethodName) jdk_42_method_66_code (3 : Nat) (Option.some Jvm.ClassFile.FieldType.boolean), Jvm.Cond.code ({ cls := "java/lang/StringLatin1", name := "equals", desc := "([B[B)Z" } : Jvm.MethodName) jdk_43_method_13_code (3 : Nat) (Option.some Jvm.ClassFile.FieldType.boolean), Jvm.Cond.code ({ cls := "java/lang/StringUTF16", name := "newBytesFor", desc := "(I)[B" } : Jvm.MethodName) jdk_52_method_2_code (1 : Nat) (Option.some (Jvm.ClassFile.FieldType.array Jvm.ClassFile.FieldType.byte)), Jvm.Cond.code ({ cls := "java/lang/StringUTF16", name := "newBytesLength", desc := "(I)I" } : Jvm.MethodName) jdk_52_method_3_code (1 : Nat) (Option.some Jvm.ClassFile.FieldType.int), Jvm.Cond.code ({ cls := "java/util/Arrays", name := "copyOf", desc := "([BI)[B" } : Jvm.MethodName) jdk_65_method_121_code (3 : Nat) (Option.some (Jvm.ClassFile.FieldType.array Jvm.ClassFile.FieldType.byte)), Jvm.Cond.code ({ cls := "java/lang/Math", name := "min", desc := "(II)I" } : Jvm.MethodName) jdk_29_method_69_code (2 : Nat) (Option.some Jvm.ClassFile.FieldType.int)]
set_option maxRecDepth 65536 in
theorem codes_eq : words1.filter isCode = codes1 := rfl
theorem w_codes : ∀ c ∈ words1.filter isCode, c.before args0 about1 = true := by
  rw [codes_eq]
  intro c hc
  simp only [codes1, List.mem_cons, List.not_mem_nil, or_false] at hc
  rcases hc with rfl | rfl | rfl | rfl | rfl | rfl | rfl | rfl | rfl | rfl | rfl | rfl | rfl | rfl | rfl | rfl | rfl | rfl | rfl | rfl | rfl | rfl | rfl | rfl
  · exact w_c0
  · exact w_c1
  · exact w_c2
  · exact w_c3
  · exact w_c4
  · exact w_c5
  · exact w_c6
  · exact w_c7
  · exact w_c8
  · exact w_c9
  · exact w_c10
  · exact w_c11
  · exact w_c12
  · exact w_c13
  · exact w_c14
  · exact w_c15
  · exact w_c16
  · exact w_c17
  · exact w_c18
  · exact w_c19
  · exact w_c20
  · exact w_c21
  · exact w_c22
  · exact w_c23
set_option maxRecDepth 65536 in
theorem w_t1 : (words1.take 24).all (fun c => isCode c || c.before args0 about1) = true := by decide +kernel
set_option maxRecDepth 65536 in
theorem w_t2 : ((words1.drop 24).take 24).all (fun c => isCode c || c.before args0 about1) = true := by decide +kernel
set_option maxRecDepth 65536 in
theorem w_t3 : (((words1.drop 24).drop 24).take 24).all (fun c => isCode c || c.before args0 about1) = true := by decide +kernel
set_option maxRecDepth 65536 in
theorem w_t4 : ((((words1.drop 24).drop 24).drop 24).take 24).all (fun c => isCode c || c.before args0 about1) = true := by decide +kernel
set_option maxRecDepth 65536 in
theorem w_t5 : (((((words1.drop 24).drop 24).drop 24).drop 24).take 24).all (fun c => isCode c || c.before args0 about1) = true := by decide +kernel
set_option maxRecDepth 65536 in
theorem w_t6 : (((((words1.drop 24).drop 24).drop 24).drop 24).drop 24).all (fun c => isCode c || c.before args0 about1) = true := by decide +kernel
theorem w_tables : (allAtoms (Jvm.Cond.code x code maxLocals ret :: tables_1)).before args0 about1 = true := by
  rw [allAtoms_all]
  show words1.all (fun c => c.before args0 about1) = true
  refine all_split ?_ w_codes
  rw [← List.take_append_drop 24 words1, List.all_append, w_t1, ← List.take_append_drop 24 (words1.drop 24), List.all_append, w_t2, ← List.take_append_drop 24 ((words1.drop 24).drop 24), List.all_append, w_t3, ← List.take_append_drop 24 (((words1.drop 24).drop 24).drop 24), List.all_append, w_t4, ← List.take_append_drop 24 ((((words1.drop 24).drop 24).drop 24).drop 24), List.all_append, w_t5, w_t6]
  rfl
set_option maxRecDepth 65536 in
theorem w_rest : rest_1_c.before args0 about1 = true := by decide +kernel
set_option maxRecDepth 65536 in
theorem w_case : (Jvm.Cond.and given_1 narrow_1).before args0 about1 = true := by decide +kernel
set_option maxRecDepth 65536 in
theorem w_consts : constsHeld consts_1 about1 := Jvm.Lit.constsHeldB_iff.mp (by decide +kernel)
theorem w_applies : (headSpec (Jvm.Cond.code x code maxLocals ret :: tables_1) room_1).applies x e0.platform about1 = true :=
  (Spec.applies_iff w_frames).mpr ⟨w_running, w_runnable, w_alone, w_named, w_hears, w_ripe, w_room, w_tables⟩
theorem atStart : AtStart classFile x code maxLocals ret World_1 tables_1 room_1 Calls_1 rest_1 Pre_1 launch0 p0 e0 about1 theMethod args0 below0 :=
  ⟨lists_1, trivial, launch0.admits_env _ _ _, launch0.least_env, fairChoices_fair.cas, fairChoices_fair.clock, w_frames, w_args, w_heap, w_applies, ⟨w_consts, trivial⟩, w_rest, w_case⟩
end start1
theorem witness_1 : WitnessClaimed_1 := ⟨start1.p0, start1.e0, start1.about1, start1.theMethod, start1.args0, start1.below0, start1.atStart⟩
end Jvm.Pilot.@@N@@
