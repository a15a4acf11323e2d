import JvmDerived
import JvmDerived.Pilot.@@N@@Statement
import JvmDerived.Pilot.@@N@@Code
set_option linter.unusedVariables false
set_option linter.unusedSimpArgs false
namespace Jvm.RoadKit
open Sem ClassFile Op Lib Jvm.Stand Jvm.Free Jvm.LawKit
section New
variable {p : Program} {l : Launch} {e : Env} {R : Room} {s : State} {m : MethodId} {args : Array Value} {below : List Frame} {meth : Method} {c : Code} {T : State} {locs : List Loc} {cells slots : Nat}
theorem retI (X : Stand p l e R s m args below meth c T locs cells slots) (hx : p.tables.exec = Jvm.exec) {pc : Nat} {Ls : Array Slot} {z : Int32} {rest : List Value} (hret : meth.sig.returnType = some .int) (hd : decode c.code pc = .ok (.ireturn, 1)) {fs : List Frame}
    (hl : ∀ (f : JFrame) (acts : List Action), f.method = m → f.locked = none → f.entered = [] → (doReturn e (T.setTop f) acts (some (.int z))).1 = T.setFrames fs) : Steps p.tables e below (T.setTop (mkF m pc Ls (.int z :: rest))) (T.setFrames fs) := by
  have hm' : T.vm.method? m = some meth := X.method'
  have hn : narrow .int (.int z) = .int z := rfl
  show Steps p.tables e below (T.setTop { method := m, pc := pc, locals := Ls, stack := _ :: rest, locked := none }) _
  jvm_step X.here [X.here.top, hx, hd, hm', hret, hn]
  first | (intro acts; rw [hl _ acts rfl rfl rfl]) | rw [hl _ _ rfl rfl rfl]
  exact Steps.refl _
end New
end Jvm.RoadKit
namespace Jvm.Pilot.@@N@@
open Jvm Jvm.ClassFile Sem Op Lib Jvm.Free Jvm.Stand Jvm.LawKit Jvm.RoadKit Bundle Jvm.Pilot.@@N@@.Jvm.D
theorem own_i2b (x : Int32) : x.toInt8.toInt32.toInt8.toInt32 = x.toInt8.toInt32 := by
  have h1 := c_i2b x; have h2 := c_i2b (x.toInt8.toInt32)
  rw [← Int32.toInt_inj]; omega
theorem own_ch (x : Int32) (h0 : 0 ≤ x.toInt) (h1 : x.toInt < 65536) : x.toUInt32.toUInt16.toUInt32.toInt32 = x := by
  have h := c_i2c x
  rw [← Int32.toInt_inj]; omega
theorem own_and255 (x : Int32) : 0 ≤ (x &&& (255 : Int32)).toInt ∧ (x &&& (255 : Int32)).toInt ≤ 255 := c_and x 255 (by decide)
theorem own_n255 (x : Int32) (h : x.toInt ≤ 255) : ¬ (255 : Int32) < x := by
  rw [Int32.lt_iff_toInt_lt]; have : (255 : Int32).toInt = 255 := rfl; omega
theorem own_lt1 (x : Int32) : ¬ (255 : Int32) < ((x &&& (255 : Int32)).toUInt32.toUInt16.toUInt32.toInt32) := by
  have h := own_and255 x
  rw [own_ch _ h.1 (by omega)]; exact own_n255 _ h.2
theorem own_lt2 (x : Int32) : ¬ (255 : Int32) < (((x &&& (255 : Int32)).toUInt32.toUInt16.toUInt32.toInt32).toUInt32.toUInt16.toUInt32.toInt32) := by
  have h := own_and255 x
  rw [own_ch _ h.1 (by omega), own_ch _ h.1 (by omega)]; exact own_n255 _ h.2
def own_st (c : Int32) : Int32 := if c = (97 : Int32) then 1 else if c = (98 : Int32) then 1 else 0
def own_ex (d : Int32) : Int32 := if d < (0 : Int32) then 0 else if d < (2 : Int32) then 1 else 0
theorem own_same (c : Int32) (h0 : 0 ≤ c.toInt) (h1 : c.toInt < 65536) : own_st c = own_ex (c - (97 : Int32)) := by
  have e := c_isub c 97; have r := rng32 (c - 97)
  have e97 : (97 : Int32).toInt = 97 := rfl
  have e98 : (98 : Int32).toInt = 98 := rfl
  have e0 : (0 : Int32).toInt = 0 := rfl
  have e2 : (2 : Int32).toInt = 2 := rfl
  unfold own_st own_ex
  simp only [← Int32.toInt_inj, Int32.lt_iff_toInt_lt, e97, e98, e0, e2]
  generalize (c - 97).toInt = d at *
  repeat' split
  all_goals first | rfl | (exfalso; omega)
def own_EL : List (String × Nat) := []
theorem own_EW {Z : State} {a0 : Array Value} (hw : ∀ d ∈ tables_1, d.before a0 Z = true) : EW Z a0 own_EL := EW.nil
theorem own_wS {Z : State} {a0 : Array Value} (hw : ∀ d ∈ tables_1, d.before a0 Z = true) : ∀ d ∈ Bundle.stringAtoms, d.before a0 Z = true := fun d hd => by
  simp only [Bundle.stringAtoms, List.mem_cons, List.not_mem_nil, or_false] at hd
  rcases hd with rfl | rfl | rfl | rfl | rfl | rfl | rfl
  · exact (hw _ (List.mem_of_getElem? (i := 3) rfl))
  · exact (hw _ (List.mem_of_getElem? (i := 2) rfl))
  · exact (hw _ (List.mem_of_getElem? (i := 19) rfl))
  · exact (hw _ (List.mem_of_getElem? (i := 29) rfl))
  · exact (hw _ (List.mem_of_getElem? (i := 27) rfl))
  · exact (hw _ (List.mem_of_getElem? (i := 43) rfl))
  · exact (hw _ (List.mem_of_getElem? (i := 44) rfl))
theorem own_slS {Z : State} {EL : List (String × Nat)} {vm : Vm} {h : Heap} {x : Addr} {ws : List Addr} (q : x < h.size) (n : Safe Z EL vm h x) (r : ∀ y ∈ ws, y < h.size ∧ Safe Z EL vm h y) : ∀ y ∈ x :: ws, y < h.size ∧ Safe Z EL vm h y := fun y z => (List.mem_cons.mp z).elim (fun u => u ▸ ⟨q, n⟩) (r y)
theorem own_backSH {p : Program} {l : Launch} {e : Env} {R : Room} {s : State} {below : List Frame} {args : Array Value} {Z : State} {a0 : Array Value} {EL : List (String × Nat)} {h : Heap} {vm0 : Vm} {y : MethodName} {bytes : ByteArray} {maxL : Nat} {ret : Option FieldType} {rm : Room} {len W : Nat} {as' : Array Value} {ws : List Addr} {Q : Option Value → Heap → List Loc → Prop}
    (hM : MetFree l y (head1 [Jvm.Cond.code y bytes maxL ret] rm) (fun a U => a = as' ∧ Z.Warmed39 U.vm ∧ U.heap = h ∧ CHv Z EL U.vm h ∧ ∀ x ∈ ws, Safe Z EL U.vm h x) (fun _ _ _ _ _ => True) (fun _ U o U' => ∃ v L, o = .returned v ∧ Q v U'.heap L ∧ CHr Z EL U.vm U.heap U'.vm U'.heap ∧ ReturnedEndW U o U' L rm.cells rm.slots))
    (hZ : Z.Warmed39 vm0) (wc : (Jvm.Cond.code y bytes maxL ret).before a0 Z = true) (wz : (Jvm.Cond.initialized y.cls).before a0 Z = true) (hf : rm.frames + 1 ≤ R.frames) (hl : W + (maxL + 11) + rm.locals ≤ R.locals) (hEL : EW Z a0 EL) (H : CHv Z EL vm0 h) (hs : ∀ x ∈ ws, x < h.size ∧ Safe Z EL vm0 h x) :
    BackS l R p e below (s.setVm vm0) args y len W (fun A a => a = as' ∧ A.U.heap = h ∧ A.cells + rm.cells ≤ R.cells ∧ A.slots + rm.slots ≤ R.slots)
      (fun A _ v B => ∃ L, Q v B.U.heap L ∧ B.locs = A.locs ++ L ∧ B.cells = A.cells + rm.cells ∧ B.slots = A.slots + rm.slots ∧ CHr Z EL vm0 h B.U.vm B.U.heap) := by
  refine BackS.of_freeW (bytes := bytes) (maxL := maxL) (ret := ret) (E := fun _ first o t L k n => k = rm.cells ∧ n = rm.slots ∧ (∃ v, o = .returned v ∧ Q v t.heap L) ∧ CHr Z EL first.vm first.heap t.vm t.heap) hM hf hl ?_ ?_ (fun _ _ _ _ _ _ _ _ _ => trivial) ?_ ?_
  · intro m meth c A a Y hp
    have hU : Z.Warmed39 A.U.vm := wtrans (s := s.setVm vm0) hZ Y.warmed
    refine ⟨?_, mv hU wc, mv hU wz, hp.2.2.1, hp.2.2.2⟩
    show (Jvm.Cond.and _ .tt).before a A.U = true
    rw [Cond.before_and, mv hU wc]; rfl
  · intro m meth c A a g mk Y hp
    have q := CHv.at Y hZ hEL H
    exact ⟨hp.1, wtrans (s := s.setVm vm0) hZ Y.warmed, hp.2.1, q.1, fun x hx => q.safe (hs x hx).1 (hs x hx).2⟩
  · rintro a first o t ⟨v, L, h1, h2, h3, h4⟩
    exact ⟨L, _, _, h4, rfl, rfl, ⟨v, h1, h2⟩, h3⟩
  · rintro m meth c A a g mk v t L k n Y hp - - ⟨e1, e2, ⟨v', e3, e4⟩, e5⟩
    cases e3; subst e1 e2
    refine ⟨L, e4, rfl, rfl, rfl, (CHv.at Y hZ hEL H).trans ?_⟩
    rw [← hp.2.1]; exact e5
theorem d11_0 : decode jdk_43_method_3_code 0 = .ok (.iload_n 0, 1) := by decide +kernel
theorem d11_1 : decode jdk_43_method_3_code 1 = .ok (.sipush 255, 3) := by decide +kernel
theorem d11_4 : decode jdk_43_method_3_code 4 = .ok (.if_icmp .gt 7, 3) := by decide +kernel
theorem d11_7 : decode jdk_43_method_3_code 7 = .ok (.iconst 1, 1) := by decide +kernel
theorem d11_8 : decode jdk_43_method_3_code 8 = .ok (.goto 4, 3) := by decide +kernel
theorem d11_11 : decode jdk_43_method_3_code 11 = .ok (.iconst 0, 1) := by decide +kernel
theorem d11_12 : decode jdk_43_method_3_code 12 = .ok (.ireturn, 1) := by decide +kernel
theorem own_pn0 : plainName "java/lang/StringLatin1" = true := by first | (simp [plainName, overriddenIn]; done) | decide +kernel
theorem rmCan_ef (m : MethodId) (x0 : Int32) : entryFrame m #[(.int x0)] 1 = mkF m 0 #[.val (.int x0)] [] := by first | (simp [entryFrame, mkF, argsToLocals, Value.category]; done) | rfl
def QCan (Z : State) (p1 : Int32) (h0 : Heap) (n0 : Nat) (v : Option Value) (h : Heap) (L : List Loc) : Prop := v = some (.int (1 : Int32)) ∧ Fr n0 L ∧ h = h0
set_option maxRecDepth 65536 in
set_option maxHeartbeats 40000000 in
theorem rmCan (l : Launch) (Z : State) (a0 : Array Value) (hw : ∀ d ∈ tables_1, d.before a0 Z = true) (ws : List Jvm.Cond) (p1 : Int32) (h0 : Heap) (n0 : Nat) (Z0 : n0 ≤ h0.size) (hp : ¬ ((255 : Int32) < p1)) :
    MetFree l (⟨"java/lang/StringLatin1", "canEncode", "(C)Z"⟩ : MethodName) (head1 (Jvm.Cond.code (⟨"java/lang/StringLatin1", "canEncode", "(C)Z"⟩ : MethodName) jdk_43_method_3_code 1 (some .boolean) :: ws) ({ frames := 0, cells := 0, slots := 0, locals := 0 } : Room)) (fun aA' U => aA' = #[(.int p1)] ∧ Z.Warmed39 U.vm ∧ U.heap = h0) (fun _ _ _ _ _ => True) (fun _ U oO' U' => ∃ vV' L, oO' = .returned vV' ∧ QCan Z p1 h0 n0 vV' U'.heap L ∧ FrameEnd U oO' U' L ({ frames := 0, cells := 0, slots := 0, locals := 0 } : Room).cells ({ frames := 0, cells := 0, slots := 0, locals := 0 } : Room).slots) := by
  refine MetFree.of_bodySF (plainFor_of_name own_pn0) hisR ?_
  intro p e s m args below meth c s₁ Bd hml0 hP hK
  obtain ⟨rfl, hZ, hh⟩ := hP
  have hx := Bd.exec
  have hby := Bd.bytes
  have hml : c.maxLocals = 1 := hml0
  have hown : s.vm.findClass "java/lang/StringLatin1" = some m.cls := findClass_of_methodNamed Bd.named
  have hnm := (name_of_methodNamed Bd.named Bd.method).1
  have X0 : Stand p l e ({ frames := 0, cells := 0, slots := 0, locals := 0 } : Room) s m #[(.int p1)] below meth c s₁ [] 0 0 := Stand.of_body Bd
  have e0 : s₁.heap = h0 := by rw [← hh, Bd.state]; rfl
  have N0 := Fr.nil n0
  have K0 : Keep h0 h0 [] := Keep.refl _ _
  have k0 : ∀ t, Steps p.tables e below (s₁.setTop (mkF m 0 #[.val (.int p1)] [])) t → Steps p.tables e below (s₁.setTop (entryFrame m #[(.int p1)] 1)) t := fun t k => castTop (rmCan_ef m (p1)) k
  have k2 : ∀ t, Steps p.tables e below (s₁.setTop (mkF m 12 #[.val (.int p1)] [(.int (1 : Int32))])) t → Steps p.tables e below (s₁.setTop (entryFrame m #[(.int p1)] 1)) t := by
    intro t kt
    refine k0 t ?_
    show Steps p.tables e below (s₁.setTop (mkF m 0 #[.val (.int p1)] [])) t
    refine XS.iloadN X0.here hx rfl (hb hby d11_0) rfl ?_
    show Steps p.tables e below (s₁.setTop (mkF m 1 #[.val (.int p1)] [(.int p1)])) t
    refine XS.sipush X0.here hx rfl (hb hby d11_1) ?_
    show Steps p.tables e below (s₁.setTop (mkF m 4 #[.val (.int p1)] [(.int (255 : Int32)), (.int p1)])) t
    refine XS.icmpNo X0.here hx rfl (hb hby d11_4) rfl (flt hp).2.2.1 ?_
    show Steps p.tables e below (s₁.setTop (mkF m 7 #[.val (.int p1)] [])) t
    refine XS.iconst X0.here hx rfl (hb hby d11_7) ?_
    show Steps p.tables e below (s₁.setTop (mkF m 8 #[.val (.int p1)] [(.int (1 : Int32))])) t
    refine XS.goto X0.here hx rfl (pc0 := 8) (pc' := 12) rfl (hb hby d11_8) (by decide) (by decide) ?_
    exact kt
  obtain ⟨fs, hr, hrun, hended, hW, hsame⟩ := X0.leave (v := some (.int (1 : Int32))) (fun h => by rw [Bd.returns] at h; cases h)
  refine ⟨_, _, k2 _ ?_, hrun, hended, _, _, rfl, ?_, ⟨_, rfl⟩, hW, hsame.mono (by decide) (by decide)⟩
  · show Steps p.tables e below (s₁.setTop (mkF m 12 #[.val (.int p1)] [(.int (1 : Int32))])) _
    exact retN X0 hx (t := .boolean) Bd.returns (by simp) (hb hby d11_12) hr
  · show QCan Z p1 h0 n0 _ s₁.heap _
    rw [e0]
    exact ⟨rfl, N0, rfl⟩
theorem d12_0 : decode jdk_43_method_46_code 0 = .ok (.iconst 1, 1) := by decide +kernel
theorem d12_1 : decode jdk_43_method_46_code 1 = .ok (.newarray .byte, 2) := by decide +kernel
theorem d12_3 : decode jdk_43_method_46_code 3 = .ok (.dup, 1) := by decide +kernel
theorem d12_4 : decode jdk_43_method_46_code 4 = .ok (.iconst 0, 1) := by decide +kernel
theorem d12_5 : decode jdk_43_method_46_code 5 = .ok (.iload_n 0, 1) := by decide +kernel
theorem d12_6 : decode jdk_43_method_46_code 6 = .ok (.i2b, 1) := by decide +kernel
theorem d12_7 : decode jdk_43_method_46_code 7 = .ok (.bastore, 1) := by decide +kernel
theorem d12_8 : decode jdk_43_method_46_code 8 = .ok (.areturn, 1) := by decide +kernel
theorem rmTob_ef (m : MethodId) (x0 : Int32) : entryFrame m #[(.int x0)] 1 = mkF m 0 #[.val (.int x0)] [] := by first | (simp [entryFrame, mkF, argsToLocals, Value.category]; done) | rfl
def QTob (Z : State) (p1 : Int32) (h0 : Heap) (n0 : Nat) (v : Option Value) (h : Heap) (L : List Loc) : Prop := ∃ (b : Addr) (k : ClassId), v = some (.ref b) ∧ Fr n0 L ∧ Keep h0 h [] ∧ h0.size ≤ b ∧ Arv Z h b k .byte (1 : Int32) [(.int (p1.toInt8.toInt32))] (.int (0 : Int32))
set_option maxRecDepth 65536 in
set_option maxHeartbeats 40000000 in
theorem rmTob (l : Launch) (Z : State) (a0 : Array Value) (hw : ∀ d ∈ tables_1, d.before a0 Z = true) (ws : List Jvm.Cond) (p1 : Int32) (h0 : Heap) (n0 : Nat) (Z0 : n0 ≤ h0.size) :
    MetFree l (⟨"java/lang/StringLatin1", "toBytes", "(C)[B"⟩ : MethodName) (head1 (Jvm.Cond.code (⟨"java/lang/StringLatin1", "toBytes", "(C)[B"⟩ : MethodName) jdk_43_method_46_code 1 (some (.array .byte)) :: ws) ({ frames := 0, cells := 1, slots := 1, locals := 0 } : Room)) (fun aA' U => aA' = #[(.int p1)] ∧ Z.Warmed39 U.vm ∧ U.heap = h0) (fun _ _ _ _ _ => True) (fun _ U oO' U' => ∃ vV' L, oO' = .returned vV' ∧ QTob Z p1 h0 n0 vV' U'.heap L ∧ FrameEnd U oO' U' L ({ frames := 0, cells := 1, slots := 1, locals := 0 } : Room).cells ({ frames := 0, cells := 1, slots := 1, locals := 0 } : Room).slots) := by
  refine MetFree.of_bodySF (plainFor_of_name own_pn0) hisR ?_
  intro p e s m args below meth c s₁ Bd hml0 hP hK
  obtain ⟨rfl, hZ, hh⟩ := hP
  have hx := Bd.exec
  have hby := Bd.bytes
  have hml : c.maxLocals = 1 := hml0
  have hown : s.vm.findClass "java/lang/StringLatin1" = some m.cls := findClass_of_methodNamed Bd.named
  have hnm := (name_of_methodNamed Bd.named Bd.method).1
  have X0 : Stand p l e ({ frames := 0, cells := 1, slots := 1, locals := 0 } : Room) s m #[(.int p1)] below meth c s₁ [] 0 0 := Stand.of_body Bd
  have e0 : s₁.heap = h0 := by rw [← hh, Bd.state]; rfl
  have N0 := Fr.nil n0
  have K0 : Keep h0 h0 [] := Keep.refl _ _
  have k0 : ∀ t, Steps p.tables e below (s₁.setTop (mkF m 0 #[.val (.int p1)] [])) t → Steps p.tables e below (s₁.setTop (entryFrame m #[(.int p1)] 1)) t := fun t k => castTop (rmTob_ef m (p1)) k
  have k1 : ∀ t, Steps p.tables e below (s₁.setTop (mkF m 1 #[.val (.int p1)] [(.int (1 : Int32))])) t → Steps p.tables e below (s₁.setTop (entryFrame m #[(.int p1)] 1)) t := by
    intro t kt
    refine k0 t ?_
    show Steps p.tables e below (s₁.setTop (mkF m 0 #[.val (.int p1)] [])) t
    refine XS.iconst X0.here hx rfl (hb hby d12_0) ?_
    exact kt
  obtain ⟨T2, h2, c2, X2, e2, E2, A2, st2⟩ := newP X0 hx hZ (hw _ (List.mem_of_getElem? (i := 19) rfl)) e0 (g := (mkF m 1 #[.val (.int p1)] [(.int (1 : Int32))])) rfl (hb hby d12_1) rfl (by decide) (cap := 1) (by decide) (by decide) (by decide) (by decide)
  obtain ⟨b2, g2⟩ : ∃ z, z = h0.size := ⟨_, rfl⟩
  rw [← g2] at A2 st2
  have g_b2 : n0 ≤ b2 := Nat.le_trans Z0 (Nat.le_of_eq g2.symm)
  have sz_b2 : h0.size ≤ b2 := Nat.le_trans K0.1 (Nat.le_of_eq g2.symm)
  have Z2 : n0 ≤ h2.size := Nat.le_trans Z0 E2.1
  have K2 : Keep h0 h2 [] := K0.ext E2
  have F3 : Arv Z h2 b2 c2 .byte (1 : Int32) [(.int (0 : Int32))] (.int (0 : Int32)) := (Arv.new A2 (by decide)).pad (pad_rep [] (.int (0 : Int32)) 1)
  have k4 : ∀ t, Steps p.tables e below (T2.setTop (mkF m 3 #[.val (.int p1)] [(.ref b2)])) t → Steps p.tables e below (s₁.setTop (entryFrame m #[(.int p1)] 1)) t := fun t kt => k1 t (st2 t kt)
  have k5 : ∀ t, Steps p.tables e below (T2.setTop (mkF m 7 #[.val (.int p1)] [(.int (p1.toInt8.toInt32)), (.int (0 : Int32)), (.ref b2), (.ref b2)])) t → Steps p.tables e below (s₁.setTop (entryFrame m #[(.int p1)] 1)) t := by
    intro t kt
    refine k4 t ?_
    show Steps p.tables e below (T2.setTop (mkF m 3 #[.val (.int p1)] [(.ref b2)])) t
    refine XS.dup X2.here hx rfl (hb hby d12_3) rfl rfl ?_
    show Steps p.tables e below (T2.setTop (mkF m 4 #[.val (.int p1)] [(.ref b2), (.ref b2)])) t
    refine XS.iconst X2.here hx rfl (hb hby d12_4) ?_
    show Steps p.tables e below (T2.setTop (mkF m 5 #[.val (.int p1)] [(.int (0 : Int32)), (.ref b2), (.ref b2)])) t
    refine XS.iloadN X2.here hx rfl (hb hby d12_5) rfl ?_
    show Steps p.tables e below (T2.setTop (mkF m 6 #[.val (.int p1)] [(.int p1), (.int (0 : Int32)), (.ref b2), (.ref b2)])) t
    refine XS.i2b X2.here hx rfl (hb hby d12_6) rfl ?_
    exact kt
  obtain ⟨cl6, Ar6, q6, S6, M6, H6, G6⟩ := id F3
  have hin6 : ¬ ((0 : Int32) < 0 ∨ cl6.slots.size ≤ ((0 : Int32)).toNatClampNeg) := inb_of S6 ⟨by decide, by decide⟩
  obtain ⟨T6, h6, X6, e6, W6, st6⟩ := stB X2 hx hZ e2 Ar6 (j := (0 : Int32)) hin6 (g := (mkF m 7 #[.val (.int p1)] [(.int (p1.toInt8.toInt32)), (.int (0 : Int32)), (.ref b2), (.ref b2)])) rfl rfl (hb hby d12_7)
  have F7 : Arv Z h6 b2 c2 .byte (1 : Int32) [(.int ((p1.toInt8.toInt32).toInt8.toInt32))] (.int (0 : Int32)) := Arv.set Ar6 q6 S6 M6 H6 G6 (fits_nar_byte _) W6 0 rfl (Nat.le_of_ble_eq_true rfl)
  have Z6 : n0 ≤ h6.size := Nat.le_trans Z2 (Keep.of_wr W6).1
  have K6 : Keep h0 h6 [] := K2.wr W6 (Or.inr sz_b2)
  have N6 := Fr.snoc X6 N0 g_b2
  have k9 : ∀ t, Steps p.tables e below (T6.setTop (mkF m 8 #[.val (.int p1)] [(.ref b2)])) t → Steps p.tables e below (s₁.setTop (entryFrame m #[(.int p1)] 1)) t := fun t kt => k5 t (st6 t kt)
  obtain ⟨fs, hr, hrun, hended, hW, hsame⟩ := X6.leave (v := some (.ref b2)) (fun h => by rw [Bd.returns] at h; cases h)
  refine ⟨_, _, k9 _ ?_, hrun, hended, _, _, rfl, ?_, ⟨_, rfl⟩, hW, hsame.mono (by decide) (by decide)⟩
  · show Steps p.tables e below (T6.setTop (mkF m 8 #[.val (.int p1)] [(.ref b2)])) _
    jvm_step X6.here [X6.here.top, hx, (hb hby d12_8), X6.method', Bd.returns, Value.isRef, FieldType.isReference]
    first | (intro acts; rw [hr _ acts rfl rfl rfl]) | rw [hr _ _ rfl rfl rfl]
    exact Steps.refl _
  · show QTob Z p1 h0 n0 _ T6.heap _
    rw [e6]
    exact ⟨b2, c2, rfl, N6, K6, sz_b2, by rw [own_i2b] at F7; exact F7⟩
theorem d13_0 : decode jdk_42_method_151_code 0 = .ok (.aload_n 0, 1) := by decide +kernel
theorem d13_1 : decode jdk_42_method_151_code 1 = .ok (.invokespecial 1, 3) := by decide +kernel
theorem d13_4 : decode jdk_42_method_151_code 4 = .ok (.aload_n 0, 1) := by decide +kernel
theorem d13_5 : decode jdk_42_method_151_code 5 = .ok (.aload_n 1, 1) := by decide +kernel
theorem d13_6 : decode jdk_42_method_151_code 6 = .ok (.putfield 9, 3) := by decide +kernel
theorem d13_9 : decode jdk_42_method_151_code 9 = .ok (.aload_n 0, 1) := by decide +kernel
theorem d13_10 : decode jdk_42_method_151_code 10 = .ok (.iload_n 2, 1) := by decide +kernel
theorem d13_11 : decode jdk_42_method_151_code 11 = .ok (.putfield 15, 3) := by decide +kernel
theorem d13_14 : decode jdk_42_method_151_code 14 = .ok (.return_, 1) := by decide +kernel
theorem own_pn1 : plainName "java/lang/String" = true := by first | (simp [plainName, overriddenIn]; done) | decide +kernel
theorem rmSbb_ef (m : MethodId) (x0 : Addr) (x1 : Addr) : entryFrame m #[(.ref x0), (.ref x1), (.int (0 : Int32))] 3 = mkF m 0 #[.val (.ref x0), .val (.ref x1), .val (.int (0 : Int32))] [] := by first | (simp [entryFrame, mkF, argsToLocals, Value.category]; done) | rfl
def QSbb (Z : State) (a : Addr) (b : Addr) (u : Value) (u' : Value) (h0 : Heap) (n0 : Nat) (v : Option Value) (h : Heap) (L : List Loc) : Prop := v = none ∧ Fr n0 L ∧ Keep h0 h [a] ∧ Exa Z h a "java/lang/String" ∧ Fld Z h a "java/lang/String" "value" "[B" (.ref b) ∧ Fld Z h a "java/lang/String" "coder" "B" (.int (0 : Int32))
set_option maxRecDepth 65536 in
set_option maxHeartbeats 40000000 in
theorem rmSbb (l : Launch) (Z : State) (a0 : Array Value) (hw : ∀ d ∈ tables_1, d.before a0 Z = true) (ws : List Jvm.Cond) (a : Addr) (b : Addr) (u : Value) (u' : Value) (h0 : Heap) (n0 : Nat) (Z0 : n0 ≤ h0.size) (Fv : Fld Z h0 a "java/lang/String" "value" "[B" u) (Fc : Fld Z h0 a "java/lang/String" "coder" "B" u') (Ea : Exa Z h0 a "java/lang/String") (g_a : n0 ≤ a) :
    MetFree l (⟨"java/lang/String", "<init>", "([BB)V"⟩ : MethodName) (head1 (Jvm.Cond.code (⟨"java/lang/String", "<init>", "([BB)V"⟩ : MethodName) jdk_42_method_151_code 3 none :: ws) ({ frames := 1, cells := 0, slots := 0, locals := 12 } : Room)) (fun aA' U => aA' = #[(.ref a), (.ref b), (.int (0 : Int32))] ∧ Z.Warmed39 U.vm ∧ U.heap = h0) (fun _ _ _ _ _ => True) (fun _ U oO' U' => ∃ vV' L, oO' = .returned vV' ∧ QSbb Z a b u u' h0 n0 vV' U'.heap L ∧ FrameEnd U oO' U' L ({ frames := 1, cells := 0, slots := 0, locals := 12 } : Room).cells ({ frames := 1, cells := 0, slots := 0, locals := 12 } : Room).slots) := by
  refine MetFree.of_bodySF (plainFor_of_name own_pn1) hisR ?_
  intro p e s m args below meth c s₁ Bd hml0 hP hK
  obtain ⟨rfl, hZ, hh⟩ := hP
  have hx := Bd.exec
  have hby := Bd.bytes
  have hml : c.maxLocals = 3 := hml0
  have hown : s.vm.findClass "java/lang/String" = some m.cls := findClass_of_methodNamed Bd.named
  have hnm := (name_of_methodNamed Bd.named Bd.method).1
  have X0 : Stand p l e ({ frames := 1, cells := 0, slots := 0, locals := 12 } : Room) s m #[(.ref a), (.ref b), (.int (0 : Int32))] below meth c s₁ [] 0 0 := Stand.of_body Bd
  have e0 : s₁.heap = h0 := by rw [← hh, Bd.state]; rfl
  have N0 := Fr.nil n0
  have K0 : Keep h0 h0 [a] := Keep.refl _ _
  have k0 : ∀ t, Steps p.tables e below (s₁.setTop (mkF m 0 #[.val (.ref a), .val (.ref b), .val (.int (0 : Int32))] [])) t → Steps p.tables e below (s₁.setTop (entryFrame m #[(.ref a), (.ref b), (.int (0 : Int32))] 3)) t := fun t k => castTop (rmSbb_ef m (a) (b)) k
  have k1 : ∀ t, Steps p.tables e below (s₁.setTop (mkF m 1 #[.val (.ref a), .val (.ref b), .val (.int (0 : Int32))] [(.ref a)])) t → Steps p.tables e below (s₁.setTop (entryFrame m #[(.ref a), (.ref b), (.int (0 : Int32))] 3)) t := by
    intro t kt
    refine k0 t ?_
    show Steps p.tables e below (s₁.setTop (mkF m 0 #[.val (.ref a), .val (.ref b), .val (.int (0 : Int32))] [])) t
    refine XS.aloadN X0.here hx rfl (hb hby d13_0) rfl rfl ?_
    exact kt
  obtain ⟨T2, X2, e2, st2⟩ := initO X0 hx hZ hown (hw _ (List.mem_of_getElem? (i := 11) rfl)) (hw _ (List.mem_of_getElem? (i := 12) rfl)) (hw _ (List.mem_of_getElem? (i := 13) rfl)) e0 (g := (mkF m 1 #[.val (.ref a), .val (.ref b), .val (.int (0 : Int32))] [(.ref a)])) rfl (by rw [hml]; rfl) rfl (hb hby d13_1) (by decide) (W := 0) (by show 2 * 0 + _ ≤ _; exact Nat.le_of_eq rfl) (by decide)
  have k3 : ∀ t, Steps p.tables e below (T2.setTop (mkF m 4 #[.val (.ref a), .val (.ref b), .val (.int (0 : Int32))] [])) t → Steps p.tables e below (s₁.setTop (entryFrame m #[(.ref a), (.ref b), (.int (0 : Int32))] 3)) t := fun t kt => k1 t (st2 t kt)
  have k4 : ∀ t, Steps p.tables e below (T2.setTop (mkF m 6 #[.val (.ref a), .val (.ref b), .val (.int (0 : Int32))] [(.ref b), (.ref a)])) t → Steps p.tables e below (s₁.setTop (entryFrame m #[(.ref a), (.ref b), (.int (0 : Int32))] 3)) t := by
    intro t kt
    refine k3 t ?_
    show Steps p.tables e below (T2.setTop (mkF m 4 #[.val (.ref a), .val (.ref b), .val (.int (0 : Int32))] [])) t
    refine XS.aloadN X2.here hx rfl (hb hby d13_4) rfl rfl ?_
    show Steps p.tables e below (T2.setTop (mkF m 5 #[.val (.ref a), .val (.ref b), .val (.int (0 : Int32))] [(.ref a)])) t
    refine XS.aloadN X2.here hx rfl (hb hby d13_5) rfl rfl ?_
    exact kt
  obtain ⟨T5, h5, X5, e5, W5, st5⟩ := putF X2 hx hZ hown (host := "") (Or.inl (hw _ (List.mem_of_getElem? (i := 28) rfl))) Via.refl e2 Fv Ea (Or.inr ⟨(hw _ (List.mem_of_getElem? (i := 29) rfl)), rfl, hnm⟩) (hw _ (List.mem_of_getElem? (i := 2) rfl)) (ty := (.array .byte)) (by decide) rfl rfl (g := (mkF m 6 #[.val (.ref a), .val (.ref b), .val (.int (0 : Int32))] [(.ref b), (.ref a)])) rfl rfl (hb hby d13_6)
  have F6 := Fv.same W5
  have F7 := Fc.other W5 (Or.inr (slot_ne (Or.inr (hw _ (List.mem_of_getElem? (i := 27) rfl))) (Or.inr (hw _ (List.mem_of_getElem? (i := 29) rfl))) (by decide) (t := .byte) (t' := (.array .byte)) (by decide) (by decide)))
  have F8 := Ea.wr W5
  have Z5 : n0 ≤ h5.size := Nat.le_trans Z0 (Keep.of_wr W5).1
  have K5 : Keep h0 h5 [a] := K0.wr W5 (Or.inl (List.mem_of_getElem? (i := 0) rfl))
  have N5 := Fr.snoc X5 N0 g_a
  have k9 : ∀ t, Steps p.tables e below (T5.setTop (mkF m 9 #[.val (.ref a), .val (.ref b), .val (.int (0 : Int32))] [])) t → Steps p.tables e below (s₁.setTop (entryFrame m #[(.ref a), (.ref b), (.int (0 : Int32))] 3)) t := fun t kt => k4 t (st5 t kt)
  have k10 : ∀ t, Steps p.tables e below (T5.setTop (mkF m 11 #[.val (.ref a), .val (.ref b), .val (.int (0 : Int32))] [(.int (0 : Int32)), (.ref a)])) t → Steps p.tables e below (s₁.setTop (entryFrame m #[(.ref a), (.ref b), (.int (0 : Int32))] 3)) t := by
    intro t kt
    refine k9 t ?_
    show Steps p.tables e below (T5.setTop (mkF m 9 #[.val (.ref a), .val (.ref b), .val (.int (0 : Int32))] [])) t
    refine XS.aloadN X5.here hx rfl (hb hby d13_9) rfl rfl ?_
    show Steps p.tables e below (T5.setTop (mkF m 10 #[.val (.ref a), .val (.ref b), .val (.int (0 : Int32))] [(.ref a)])) t
    refine XS.iloadN X5.here hx rfl (hb hby d13_10) rfl ?_
    exact kt
  obtain ⟨T11, h11, X11, e11, W11, st11⟩ := putFN X5 hx hZ hown (hw _ (List.mem_of_getElem? (i := 26) rfl)) Via.refl e5 F7 F8 (Or.inr ⟨(hw _ (List.mem_of_getElem? (i := 27) rfl)), rfl, hnm⟩) (hw _ (List.mem_of_getElem? (i := 2) rfl)) (ty := .byte) (v' := (.int (0 : Int32))) (by decide) rfl (by decide) (g := (mkF m 11 #[.val (.ref a), .val (.ref b), .val (.int (0 : Int32))] [(.int (0 : Int32)), (.ref a)])) rfl rfl (hb hby d13_11)
  have F12 := F6.other W11 (Or.inr (slot_ne (Or.inr (hw _ (List.mem_of_getElem? (i := 29) rfl))) (Or.inr (hw _ (List.mem_of_getElem? (i := 27) rfl))) (by decide) (t := (.array .byte)) (t' := .byte) (by decide) (by decide)))
  have F13 := F7.same W11
  have F14 := F8.wr W11
  have Z11 : n0 ≤ h11.size := Nat.le_trans Z5 (Keep.of_wr W11).1
  have K11 : Keep h0 h11 [a] := K5.wr W11 (Or.inl (List.mem_of_getElem? (i := 0) rfl))
  have N11 := Fr.snoc X11 N5 g_a
  have k15 : ∀ t, Steps p.tables e below (T11.setTop (mkF m 14 #[.val (.ref a), .val (.ref b), .val (.int (0 : Int32))] [])) t → Steps p.tables e below (s₁.setTop (entryFrame m #[(.ref a), (.ref b), (.int (0 : Int32))] 3)) t := fun t kt => k10 t (st11 t kt)
  obtain ⟨fs, hr, hrun, hended, hW, hsame⟩ := X11.leave (v := none) (fun _ => rfl)
  refine ⟨_, _, k15 _ ?_, hrun, hended, _, _, rfl, ?_, ⟨_, rfl⟩, hW, hsame.mono (by decide) (by decide)⟩
  · show Steps p.tables e below (T11.setTop (mkF m 14 #[.val (.ref a), .val (.ref b), .val (.int (0 : Int32))] [])) _
    exact X11.returnOut hx Bd.returns (hb hby d13_14) hr
  · show QSbb Z a b u u' h0 n0 _ T11.heap _
    rw [e11]
    exact ⟨rfl, N11, K11, F14, F12, F13⟩
theorem d10_0 : decode jdk_42_method_139_code 0 = .ok (.getstatic 38, 3) := by decide +kernel
theorem d10_3 : decode jdk_42_method_139_code 3 = .ok (.ifCond .eq 23, 3) := by decide +kernel
theorem d10_6 : decode jdk_42_method_139_code 6 = .ok (.iload_n 0, 1) := by decide +kernel
theorem d10_7 : decode jdk_42_method_139_code 7 = .ok (.invokestatic 1015, 3) := by decide +kernel
theorem d10_10 : decode jdk_42_method_139_code 10 = .ok (.ifCond .eq 16, 3) := by decide +kernel
theorem d10_13 : decode jdk_42_method_139_code 13 = .ok (.new 10, 3) := by decide +kernel
theorem d10_16 : decode jdk_42_method_139_code 16 = .ok (.dup, 1) := by decide +kernel
theorem d10_17 : decode jdk_42_method_139_code 17 = .ok (.iload_n 0, 1) := by decide +kernel
theorem d10_18 : decode jdk_42_method_139_code 18 = .ok (.invokestatic 1018, 3) := by decide +kernel
theorem d10_21 : decode jdk_42_method_139_code 21 = .ok (.iconst 0, 1) := by decide +kernel
theorem d10_22 : decode jdk_42_method_139_code 22 = .ok (.invokespecial 209, 3) := by decide +kernel
theorem d10_25 : decode jdk_42_method_139_code 25 = .ok (.areturn, 1) := by decide +kernel
theorem d10_26 : decode jdk_42_method_139_code 26 = .ok (.new 10, 3) := by decide +kernel
theorem d10_29 : decode jdk_42_method_139_code 29 = .ok (.dup, 1) := by decide +kernel
theorem d10_30 : decode jdk_42_method_139_code 30 = .ok (.iload_n 0, 1) := by decide +kernel
theorem d10_31 : decode jdk_42_method_139_code 31 = .ok (.invokestatic 1021, 3) := by decide +kernel
theorem d10_34 : decode jdk_42_method_139_code 34 = .ok (.iconst 1, 1) := by decide +kernel
theorem d10_35 : decode jdk_42_method_139_code 35 = .ok (.invokespecial 209, 3) := by decide +kernel
theorem d10_38 : decode jdk_42_method_139_code 38 = .ok (.areturn, 1) := by decide +kernel
theorem rmVal_ef (m : MethodId) (x0 : Int32) : entryFrame m #[(.int x0)] 1 = mkF m 0 #[.val (.int x0)] [] := by first | (simp [entryFrame, mkF, argsToLocals, Value.category]; done) | rfl
def QVal (Z : State) (p1 : Int32) (cs : Int32) (h0 : Heap) (n0 : Nat) (v : Option Value) (h : Heap) (L : List Loc) : Prop := ∃ (r b : Addr) (k : ClassId), v = some (.ref r) ∧ Fr n0 L ∧ Keep h0 h [] ∧ h0.size ≤ r ∧ Exa Z h r "java/lang/String" ∧ Fld Z h r "java/lang/String" "value" "[B" (.ref b) ∧ Fld Z h r "java/lang/String" "coder" "B" (.int (0 : Int32)) ∧ Arv Z h b k .byte (1 : Int32) [(.int (p1.toInt8.toInt32))] (.int (0 : Int32))
theorem own_pd0 : parseMethodDescriptor "(C)Z" = some ⟨[.char], some .boolean⟩ := by decide +kernel
theorem own_pd1 : parseMethodDescriptor "(C)[B" = some ⟨[.char], some (.array .byte)⟩ := by decide +kernel
theorem own_pd2 : parseMethodDescriptor "([BB)V" = some ⟨[(.array .byte), .byte], none⟩ := by decide +kernel
set_option maxRecDepth 65536 in
set_option maxHeartbeats 40000000 in
theorem rmVal (l : Launch) (Z : State) (a0 : Array Value) (hw : ∀ d ∈ tables_1, d.before a0 Z = true) (ws : List Jvm.Cond) (p1 : Int32) (cs : Int32) (h0 : Heap) (n0 : Nat) (Z0 : n0 ≤ h0.size) (SC : Sta Z h0 "java/lang/String" "COMPACT_STRINGS" "Z" (.int cs)) (hcs : ¬ (cs = (0 : Int32))) (hp : ¬ ((255 : Int32) < p1)) :
    MetFree l (⟨"java/lang/String", "valueOf", "(C)Ljava/lang/String;"⟩ : MethodName) (head1 (Jvm.Cond.code (⟨"java/lang/String", "valueOf", "(C)Ljava/lang/String;"⟩ : MethodName) jdk_42_method_139_code 1 (some (.object "java/lang/String")) :: ws) ({ frames := 2, cells := 2, slots := 5, locals := 27 } : Room)) (fun aA' U => aA' = #[(.int p1)] ∧ Z.Warmed39 U.vm ∧ U.heap = h0) (fun _ _ _ _ _ => True) (fun _ U oO' U' => ∃ vV' L, oO' = .returned vV' ∧ QVal Z p1 cs h0 n0 vV' U'.heap L ∧ FrameEnd U oO' U' L ({ frames := 2, cells := 2, slots := 5, locals := 27 } : Room).cells ({ frames := 2, cells := 2, slots := 5, locals := 27 } : Room).slots) := by
  refine MetFree.of_bodySF (plainFor_of_name own_pn1) hisR ?_
  intro p e s m args below meth c s₁ Bd hml0 hP hK
  obtain ⟨rfl, hZ, hh⟩ := hP
  have hx := Bd.exec
  have hby := Bd.bytes
  have hml : c.maxLocals = 1 := hml0
  have hown : s.vm.findClass "java/lang/String" = some m.cls := findClass_of_methodNamed Bd.named
  have hnm := (name_of_methodNamed Bd.named Bd.method).1
  have X0 : Stand p l e ({ frames := 2, cells := 2, slots := 5, locals := 27 } : Room) s m #[(.int p1)] below meth c s₁ [] 0 0 := Stand.of_body Bd
  have e0 : s₁.heap = h0 := by rw [← hh, Bd.state]; rfl
  have N0 := Fr.nil n0
  have K0 : Keep h0 h0 [] := Keep.refl _ _
  have k0 : ∀ t, Steps p.tables e below (s₁.setTop (mkF m 0 #[.val (.int p1)] [])) t → Steps p.tables e below (s₁.setTop (entryFrame m #[(.int p1)] 1)) t := fun t k => castTop (rmVal_ef m (p1)) k
  obtain ⟨T1, X1, e1, st1⟩ := getS2 X0 hx hZ hown (host := "") (Or.inl (hw _ (List.mem_of_getElem? (i := 14) rfl))) Via.refl e0 SC (g := (mkF m 0 #[.val (.int p1)] [])) rfl (hb hby d10_0)
  have k2 : ∀ t, Steps p.tables e below (T1.setTop (mkF m 3 #[.val (.int p1)] [(.int cs)])) t → Steps p.tables e below (s₁.setTop (entryFrame m #[(.int p1)] 1)) t := fun t kt => k0 t (st1 t kt)
  have k4 : ∀ t, Steps p.tables e below (T1.setTop (mkF m 7 #[.val (.int p1)] [(.int p1)])) t → Steps p.tables e below (s₁.setTop (entryFrame m #[(.int p1)] 1)) t := by
    intro t kt
    refine k2 t ?_
    show Steps p.tables e below (T1.setTop (mkF m 3 #[.val (.int p1)] [(.int cs)])) t
    refine XS.ifNo X1.here hx rfl (hb hby d10_3) rfl ((if0 _ _).trans (feq hcs).1) ?_
    show Steps p.tables e below (T1.setTop (mkF m 6 #[.val (.int p1)] [])) t
    refine XS.iloadN X1.here hx rfl (hb hby d10_6) rfl ?_
    exact kt
  obtain ⟨_, _, ⟨T5, L5, k5c, n5⟩, -, X5, ⟨Lc5, hQ5, l5, y5, z5⟩, st5⟩ := Jvm.LawKit.callS X1 hx (y := (⟨"java/lang/StringLatin1", "canEncode", "(C)Z"⟩ : MethodName)) hown (mvT hZ (hw _ (List.mem_of_getElem? (i := 56) rfl))) (mvT hZ (hw _ (List.mem_of_getElem? (i := 57) rfl))) (mvT hZ (hw _ (List.mem_of_getElem? (i := 58) rfl))) (mvT hZ (hw _ (List.mem_of_getElem? (i := 59) rfl))) (by decide) (backOf (W := 0) (rmCan l Z a0 hw [] p1 h0 n0 Z0 hp) hZ (hw _ (List.mem_of_getElem? (i := 59) rfl)) (hw _ (List.mem_of_getElem? (i := 58) rfl)) (by decide) (by decide)) (g := (mkF m 7 #[.val (.int p1)] [(.int p1)])) rfl (by rw [hml]; rfl) (argsL := [(.int p1)]) (rest := []) (lenOf own_pd0 rfl) rfl (by show 2 * 0 + _ ≤ _; exact Nat.le_of_eq rfl) (hb hby d10_7) (fun _ _ => ⟨rfl, e1, (by decide : 0 + 0 ≤ _), (by decide : 0 + 0 ≤ _)⟩)
  dsimp only [Pt.U, Pt.locs, Pt.cells, Pt.slots] at X5 l5 y5 z5 st5 hQ5
  subst l5 y5 z5
  obtain ⟨rfl, N5q, e5⟩ := hQ5
  have N5 := Fr.app N0 N5q
  have k6 : ∀ t, Steps p.tables e below (T5.setTop (mkF m 10 #[.val (.int p1)] [(.int (1 : Int32))])) t → Steps p.tables e below (s₁.setTop (entryFrame m #[(.int p1)] 1)) t := fun t kt => k4 t (st5 t kt)
  have hc10_7 : ¬ ((1 : Int32) = (0 : Int32)) := by decide
  have k8 : ∀ t, Steps p.tables e below (T5.setTop (mkF m 13 #[.val (.int p1)] [])) t → Steps p.tables e below (s₁.setTop (entryFrame m #[(.int p1)] 1)) t := by
    intro t kt
    refine k6 t ?_
    show Steps p.tables e below (T5.setTop (mkF m 10 #[.val (.int p1)] [(.int (1 : Int32))])) t
    refine XS.ifNo X5.here hx rfl (hb hby d10_10) rfl ((if0 _ _).trans (feq hc10_7).1) ?_
    exact kt
  obtain ⟨T9, h9, X9, e9, E9, A9, D9, -, st9⟩ := newO X5 hx hZ hown (hw _ (List.mem_of_getElem? (i := 60) rfl)) (hw _ (List.mem_of_getElem? (i := 2) rfl)) (hw _ (List.mem_of_getElem? (i := 3) rfl)) e5 (g := (mkF m 13 #[.val (.int p1)] [])) rfl (hb hby d10_13) (by decide) (by decide)
  obtain ⟨b9, g9⟩ : ∃ z, z = h0.size := ⟨_, rfl⟩
  rw [← g9] at A9 D9 st9
  have g_b9 : n0 ≤ b9 := Nat.le_trans Z0 (Nat.le_of_eq g9.symm)
  have sz_b9 : h0.size ≤ b9 := Nat.le_trans K0.1 (Nat.le_of_eq g9.symm)
  have F10 := SC.ext E9
  have Z9 : n0 ≤ h9.size := Nat.le_trans Z0 E9.1
  have K9 : Keep h0 h9 [] := K0.ext E9
  have F11 : Fld Z h9 b9 "java/lang/String" "coder" "B" (.int (0 : Int32)) := D9 (Or.inr (hw _ (List.mem_of_getElem? (i := 27) rfl))) (ty := .byte) (by decide)
  have F12 : Fld Z h9 b9 "java/lang/String" "value" "[B" .null := D9 (Or.inr (hw _ (List.mem_of_getElem? (i := 29) rfl))) (ty := (.array .byte)) (by decide)
  have k13 : ∀ t, Steps p.tables e below (T9.setTop (mkF m 16 #[.val (.int p1)] [(.ref b9)])) t → Steps p.tables e below (s₁.setTop (entryFrame m #[(.int p1)] 1)) t := fun t kt => k8 t (st9 t kt)
  have k14 : ∀ t, Steps p.tables e below (T9.setTop (mkF m 18 #[.val (.int p1)] [(.int p1), (.ref b9), (.ref b9)])) t → Steps p.tables e below (s₁.setTop (entryFrame m #[(.int p1)] 1)) t := by
    intro t kt
    refine k13 t ?_
    show Steps p.tables e below (T9.setTop (mkF m 16 #[.val (.int p1)] [(.ref b9)])) t
    refine XS.dup X9.here hx rfl (hb hby d10_16) rfl rfl ?_
    show Steps p.tables e below (T9.setTop (mkF m 17 #[.val (.int p1)] [(.ref b9), (.ref b9)])) t
    refine XS.iloadN X9.here hx rfl (hb hby d10_17) rfl ?_
    exact kt
  obtain ⟨_, _, ⟨T15, L15, k15c, n15⟩, -, X15, ⟨Lc15, hQ15, l15, y15, z15⟩, st15⟩ := Jvm.LawKit.callS X9 hx (y := (⟨"java/lang/StringLatin1", "toBytes", "(C)[B"⟩ : MethodName)) hown (mvT hZ (hw _ (List.mem_of_getElem? (i := 61) rfl))) (mvT hZ (hw _ (List.mem_of_getElem? (i := 62) rfl))) (mvT hZ (hw _ (List.mem_of_getElem? (i := 58) rfl))) (mvT hZ (hw _ (List.mem_of_getElem? (i := 63) rfl))) (by decide) (backOf (W := 2) (rmTob l Z a0 hw [] p1 h9 n0 Z9) hZ (hw _ (List.mem_of_getElem? (i := 63) rfl)) (hw _ (List.mem_of_getElem? (i := 58) rfl)) (by decide) (by decide)) (g := (mkF m 18 #[.val (.int p1)] [(.int p1), (.ref b9), (.ref b9)])) rfl (by rw [hml]; rfl) (argsL := [(.int p1)]) (rest := [(.ref b9), (.ref b9)]) (lenOf own_pd1 rfl) rfl (by show 2 * 0 + _ ≤ _; exact Nat.le_of_eq rfl) (hb hby d10_18) (fun _ _ => ⟨rfl, e9, (by decide : 1 + 1 ≤ _), (by decide : 4 + 1 ≤ _)⟩)
  dsimp only [Pt.U, Pt.locs, Pt.cells, Pt.slots] at X15 l15 y15 z15 st15 hQ15
  subst l15 y15 z15
  obtain ⟨b15, c15, rfl, N15q, K15k, s15z, A15⟩ := hQ15
  have N15 := Fr.app N5 N15q
  have g_b15 : n0 ≤ b15 := Nat.le_trans Z9 s15z
  have sz_b15 : h0.size ≤ b15 := Nat.le_trans K9.1 s15z
  have ne16 : b9 ≠ b15 := Nat.ne_of_lt (Nat.lt_of_lt_of_le A9.lt s15z)
  have F18 := A9.keep K15k
  have F19 := F11.keep K15k nin0
  have F20 := F12.keep K15k nin0
  have Z21 : n0 ≤ T15.heap.size := Nat.le_trans Z9 K15k.1
  have K21 : Keep h0 T15.heap [] := K9.trans K15k all0
  have k22 : ∀ t, Steps p.tables e below (T15.setTop (mkF m 21 #[.val (.int p1)] [(.ref b15), (.ref b9), (.ref b9)])) t → Steps p.tables e below (s₁.setTop (entryFrame m #[(.int p1)] 1)) t := fun t kt => k14 t (st15 t kt)
  have k23 : ∀ t, Steps p.tables e below (T15.setTop (mkF m 22 #[.val (.int p1)] [(.int (0 : Int32)), (.ref b15), (.ref b9), (.ref b9)])) t → Steps p.tables e below (s₁.setTop (entryFrame m #[(.int p1)] 1)) t := by
    intro t kt
    refine k22 t ?_
    show Steps p.tables e below (T15.setTop (mkF m 21 #[.val (.int p1)] [(.ref b15), (.ref b9), (.ref b9)])) t
    refine XS.iconst X15.here hx rfl (hb hby d10_21) ?_
    exact kt
  obtain ⟨_, _, ⟨T24, L24, k24c, n24⟩, -, X24, ⟨Lc24, hQ24, l24, y24, z24⟩, st24⟩ := X15.specialBack hx (y := (⟨"java/lang/String", "<init>", "([BB)V"⟩ : MethodName)) rfl hown (mvT hZ (hw _ (List.mem_of_getElem? (i := 64) rfl))) (mvT hZ (hw _ (List.mem_of_getElem? (i := 65) rfl))) (mvT hZ (hw _ (List.mem_of_getElem? (i := 66) rfl))) (by decide) (backOf (W := 1) (rmSbb l Z a0 hw [] b9 b15 .null (.int (0 : Int32)) T15.heap n0 Z21 F20 F19 F18 g_b9) hZ (hw _ (List.mem_of_getElem? (i := 66) rfl)) (hw _ (List.mem_of_getElem? (i := 3) rfl)) (by decide) (by decide)) (g := (mkF m 22 #[.val (.int p1)] [(.int (0 : Int32)), (.ref b15), (.ref b9), (.ref b9)])) rfl (by rw [hml]; rfl) (Steps.refl _) (a := b9) (argsL := [(.ref b15), (.int (0 : Int32))]) (rest := [(.ref b9)]) (lenOf own_pd2 rfl) rfl (by show 2 * 0 + _ ≤ _; exact Nat.le_of_eq rfl) (hb hby d10_22) (fun _ _ => ⟨rfl, rfl, (by decide : 2 + 0 ≤ _), (by decide : 5 + 0 ≤ _)⟩)
  dsimp only [Pt.U, Pt.locs, Pt.cells, Pt.slots] at X24 l24 y24 z24 st24 hQ24
  subst l24 y24 z24
  obtain ⟨rfl, N24q, K24k, -, Fv24, Fc24⟩ := hQ24
  have N24 := Fr.app N15 N24q
  have F25 := F18.keep K24k
  have F28 := A15.keep K24k (ninS (Ne.symm ne16) nin0)
  have Z29 : n0 ≤ T24.heap.size := Nat.le_trans Z21 K24k.1
  have K29 : Keep h0 T24.heap [] := K21.trans K24k (allS (Or.inr sz_b9) all0)
  have k30 : ∀ t, Steps p.tables e below (T24.setTop (mkF m 25 #[.val (.int p1)] [(.ref b9)])) t → Steps p.tables e below (s₁.setTop (entryFrame m #[(.int p1)] 1)) t := fun t kt => k23 t (st24.trans kt)
  obtain ⟨fs, hr, hrun, hended, hW, hsame⟩ := X24.leave (v := some (.ref b9)) (fun h => by rw [Bd.returns] at h; cases h)
  refine ⟨_, _, k30 _ ?_, hrun, hended, _, _, rfl, ?_, ⟨_, rfl⟩, hW, hsame.mono (by decide) (by decide)⟩
  · show Steps p.tables e below (T24.setTop (mkF m 25 #[.val (.int p1)] [(.ref b9)])) _
    jvm_step X24.here [X24.here.top, hx, (hb hby d10_25), X24.method', Bd.returns, Value.isRef, FieldType.isReference]
    first | (intro acts; rw [hr _ acts rfl rfl rfl]) | rw [hr _ _ rfl rfl rfl]
    exact Steps.refl _
  · show QVal Z p1 cs h0 n0 _ T24.heap _
    exact ⟨b9, b15, c15, rfl, N24, K29, sz_b9, F25, Fv24, Fc24, F28⟩
theorem d5_0 : decode jdk_52_method_21_code 0 = .ok (.iconst 0, 1) := by decide +kernel
theorem d5_1 : decode jdk_52_method_21_code 1 = .ok (.istore 5, 2) := by decide +kernel
theorem d5_3 : decode jdk_52_method_21_code 3 = .ok (.iload 5, 2) := by decide +kernel
theorem d5_5 : decode jdk_52_method_21_code 5 = .ok (.iload 4, 2) := by decide +kernel
theorem d5_7 : decode jdk_52_method_21_code 7 = .ok (.if_icmp .ge 37, 3) := by decide +kernel
theorem d5_10 : decode jdk_52_method_21_code 10 = .ok (.aload_n 0, 1) := by decide +kernel
theorem d5_11 : decode jdk_52_method_21_code 11 = .ok (.iload_n 1, 1) := by decide +kernel
theorem d5_12 : decode jdk_52_method_21_code 12 = .ok (.caload, 1) := by decide +kernel
theorem d5_13 : decode jdk_52_method_21_code 13 = .ok (.istore 6, 2) := by decide +kernel
theorem d5_15 : decode jdk_52_method_21_code 15 = .ok (.iload 6, 2) := by decide +kernel
theorem d5_17 : decode jdk_52_method_21_code 17 = .ok (.sipush 255, 3) := by decide +kernel
theorem d5_20 : decode jdk_52_method_21_code 20 = .ok (.if_icmp .le 6, 3) := by decide +kernel
theorem d5_23 : decode jdk_52_method_21_code 23 = .ok (.iload 5, 2) := by decide +kernel
theorem d5_25 : decode jdk_52_method_21_code 25 = .ok (.ireturn, 1) := by decide +kernel
theorem d5_26 : decode jdk_52_method_21_code 26 = .ok (.aload_n 2, 1) := by decide +kernel
theorem d5_27 : decode jdk_52_method_21_code 27 = .ok (.iload_n 3, 1) := by decide +kernel
theorem d5_28 : decode jdk_52_method_21_code 28 = .ok (.iload 6, 2) := by decide +kernel
theorem d5_30 : decode jdk_52_method_21_code 30 = .ok (.i2b, 1) := by decide +kernel
theorem d5_31 : decode jdk_52_method_21_code 31 = .ok (.bastore, 1) := by decide +kernel
theorem d5_32 : decode jdk_52_method_21_code 32 = .ok (.iinc 1 1, 3) := by decide +kernel
theorem d5_35 : decode jdk_52_method_21_code 35 = .ok (.iinc 3 1, 3) := by decide +kernel
theorem d5_38 : decode jdk_52_method_21_code 38 = .ok (.iinc 5 1, 3) := by decide +kernel
theorem d5_41 : decode jdk_52_method_21_code 41 = .ok (.goto (-38), 3) := by decide +kernel
theorem d5_44 : decode jdk_52_method_21_code 44 = .ok (.iload 4, 2) := by decide +kernel
theorem d5_46 : decode jdk_52_method_21_code 46 = .ok (.ireturn, 1) := by decide +kernel
theorem own_pn2 : plainName "java/lang/StringUTF16" = true := by first | (simp [plainName, overriddenIn]; done) | decide +kernel
theorem rmCmp2_ef (m : MethodId) (x0 : Addr) (x2 : Addr) : entryFrame m #[(.ref x0), (.int (0 : Int32)), (.ref x2), (.int (0 : Int32)), (.int (2 : Int32))] 7 = mkF m 0 #[.val (.ref x0), .val (.int (0 : Int32)), .val (.ref x2), .val (.int (0 : Int32)), .val (.int (2 : Int32)), .unset, .unset] [] := by first | (simp [entryFrame, mkF, argsToLocals, Value.category]; done) | rfl
def QCmp2 (Z : State) (a : Addr) (b : Addr) (ka : ClassId) (kb : ClassId) (ch0 : Int32) (ch1 : Int32) (h0 : Heap) (n0 : Nat) (v : Option Value) (h : Heap) (L : List Loc) : Prop := v = some (.int (2 : Int32)) ∧ Fr n0 L ∧ Keep h0 h [b] ∧ Arv Z h b kb .byte (2 : Int32) [(.int (ch0.toInt8.toInt32)), (.int (ch1.toInt8.toInt32))] (.int (0 : Int32))
set_option maxRecDepth 65536 in
set_option maxHeartbeats 40000000 in
theorem rmCmp2 (l : Launch) (Z : State) (a0 : Array Value) (hw : ∀ d ∈ tables_1, d.before a0 Z = true) (ws : List Jvm.Cond) (a : Addr) (b : Addr) (ka : ClassId) (kb : ClassId) (ch0 : Int32) (ch1 : Int32) (h0 : Heap) (n0 : Nat) (Z0 : n0 ≤ h0.size) (Aa : Arv Z h0 a ka .char (2 : Int32) [(.int ch0), (.int ch1)] (.int (0 : Int32))) (Ab : Arv Z h0 b kb .byte (2 : Int32) [(.int (0 : Int32)), (.int (0 : Int32))] (.int (0 : Int32))) (g_b : n0 ≤ b) (ne : a ≠ b) (hch0 : ¬ ((255 : Int32) < ch0)) (hch1 : ¬ ((255 : Int32) < ch1)) :
    MetFree l (⟨"java/lang/StringUTF16", "compress", "([CI[BII)I"⟩ : MethodName) (head1 (Jvm.Cond.code (⟨"java/lang/StringUTF16", "compress", "([CI[BII)I"⟩ : MethodName) jdk_52_method_21_code 7 (some .int) :: ws) ({ frames := 0, cells := 0, slots := 0, locals := 0 } : Room)) (fun aA' U => aA' = #[(.ref a), (.int (0 : Int32)), (.ref b), (.int (0 : Int32)), (.int (2 : Int32))] ∧ Z.Warmed39 U.vm ∧ U.heap = h0) (fun _ _ _ _ _ => True) (fun _ U oO' U' => ∃ vV' L, oO' = .returned vV' ∧ QCmp2 Z a b ka kb ch0 ch1 h0 n0 vV' U'.heap L ∧ FrameEnd U oO' U' L ({ frames := 0, cells := 0, slots := 0, locals := 0 } : Room).cells ({ frames := 0, cells := 0, slots := 0, locals := 0 } : Room).slots) := by
  refine MetFree.of_bodySF (plainFor_of_name own_pn2) hisR ?_
  intro p e s m args below meth c s₁ Bd hml0 hP hK
  obtain ⟨rfl, hZ, hh⟩ := hP
  have hx := Bd.exec
  have hby := Bd.bytes
  have hml : c.maxLocals = 7 := hml0
  have hown : s.vm.findClass "java/lang/StringUTF16" = some m.cls := findClass_of_methodNamed Bd.named
  have hnm := (name_of_methodNamed Bd.named Bd.method).1
  have X0 : Stand p l e ({ frames := 0, cells := 0, slots := 0, locals := 0 } : Room) s m #[(.ref a), (.int (0 : Int32)), (.ref b), (.int (0 : Int32)), (.int (2 : Int32))] below meth c s₁ [] 0 0 := Stand.of_body Bd
  have e0 : s₁.heap = h0 := by rw [← hh, Bd.state]; rfl
  have N0 := Fr.nil n0
  have K0 : Keep h0 h0 [b] := Keep.refl _ _
  have k0 : ∀ t, Steps p.tables e below (s₁.setTop (mkF m 0 #[.val (.ref a), .val (.int (0 : Int32)), .val (.ref b), .val (.int (0 : Int32)), .val (.int (2 : Int32)), .unset, .unset] [])) t → Steps p.tables e below (s₁.setTop (entryFrame m #[(.ref a), (.int (0 : Int32)), (.ref b), (.int (0 : Int32)), (.int (2 : Int32))] 7)) t := fun t k => castTop (rmCmp2_ef m (a) (b)) k
  have hc7_1 : (0 : Int32) < (2 : Int32) := by decide
  have k2 : ∀ t, Steps p.tables e below (s₁.setTop (mkF m 12 #[.val (.ref a), .val (.int (0 : Int32)), .val (.ref b), .val (.int (0 : Int32)), .val (.int (2 : Int32)), .val (.int (0 : Int32)), .unset] [(.int (0 : Int32)), (.ref a)])) t → Steps p.tables e below (s₁.setTop (entryFrame m #[(.ref a), (.int (0 : Int32)), (.ref b), (.int (0 : Int32)), (.int (2 : Int32))] 7)) t := by
    intro t kt
    refine k0 t ?_
    show Steps p.tables e below (s₁.setTop (mkF m 0 #[.val (.ref a), .val (.int (0 : Int32)), .val (.ref b), .val (.int (0 : Int32)), .val (.int (2 : Int32)), .unset, .unset] [])) t
    refine XS.iconst X0.here hx rfl (hb hby d5_0) ?_
    show Steps p.tables e below (s₁.setTop (mkF m 1 #[.val (.ref a), .val (.int (0 : Int32)), .val (.ref b), .val (.int (0 : Int32)), .val (.int (2 : Int32)), .unset, .unset] [(.int (0 : Int32))])) t
    refine XS.istore X0.here hx rfl (hb hby d5_1) rfl (l' := #[.val (.ref a), .val (.int (0 : Int32)), .val (.ref b), .val (.int (0 : Int32)), .val (.int (2 : Int32)), .val (.int (0 : Int32)), .unset]) rfl ?_
    show Steps p.tables e below (s₁.setTop (mkF m 3 #[.val (.ref a), .val (.int (0 : Int32)), .val (.ref b), .val (.int (0 : Int32)), .val (.int (2 : Int32)), .val (.int (0 : Int32)), .unset] [])) t
    refine XS.iload X0.here hx rfl (hb hby d5_3) rfl ?_
    show Steps p.tables e below (s₁.setTop (mkF m 5 #[.val (.ref a), .val (.int (0 : Int32)), .val (.ref b), .val (.int (0 : Int32)), .val (.int (2 : Int32)), .val (.int (0 : Int32)), .unset] [(.int (0 : Int32))])) t
    refine XS.iload X0.here hx rfl (hb hby d5_5) rfl ?_
    show Steps p.tables e below (s₁.setTop (mkF m 7 #[.val (.ref a), .val (.int (0 : Int32)), .val (.ref b), .val (.int (0 : Int32)), .val (.int (2 : Int32)), .val (.int (0 : Int32)), .unset] [(.int (2 : Int32)), (.int (0 : Int32))])) t
    refine XS.icmpNo X0.here hx rfl (hb hby d5_7) rfl (tlt hc7_1).2.1 ?_
    show Steps p.tables e below (s₁.setTop (mkF m 10 #[.val (.ref a), .val (.int (0 : Int32)), .val (.ref b), .val (.int (0 : Int32)), .val (.int (2 : Int32)), .val (.int (0 : Int32)), .unset] [])) t
    refine XS.aloadN X0.here hx rfl (hb hby d5_10) rfl rfl ?_
    show Steps p.tables e below (s₁.setTop (mkF m 11 #[.val (.ref a), .val (.int (0 : Int32)), .val (.ref b), .val (.int (0 : Int32)), .val (.int (2 : Int32)), .val (.int (0 : Int32)), .unset] [(.ref a)])) t
    refine XS.iloadN X0.here hx rfl (hb hby d5_11) rfl ?_
    exact kt
  obtain ⟨cl3, Ar3, q3, S3, M3, H3, G3⟩ := id Aa
  have hin3 : ¬ ((0 : Int32) < 0 ∨ cl3.slots.size ≤ ((0 : Int32)).toNatClampNeg) := inb_of S3 ⟨by decide, by decide⟩
  have hat3 : cl3.slots[((0 : Int32)).toNatClampNeg]? = some (.int ch0) := Has.at H3 hin3 rfl
  have k4 : ∀ t, Steps p.tables e below (s₁.setTop (mkF m 13 #[.val (.ref a), .val (.int (0 : Int32)), .val (.ref b), .val (.int (0 : Int32)), .val (.int (2 : Int32)), .val (.int (0 : Int32)), .unset] [(.int ch0)])) t → Steps p.tables e below (s₁.setTop (entryFrame m #[(.ref a), (.int (0 : Int32)), (.ref b), (.int (0 : Int32)), (.int (2 : Int32))] 7)) t := fun t kt => k2 t (X0.caload hx (j := (0 : Int32)) (v := (.int ch0)) (by rw [e0]; exact Ar3.1) (State.isArrayOf_alike hZ.alike Ar3.2.1) Ar3.2.2 hin3 hat3 (g := (mkF m 12 #[.val (.ref a), .val (.int (0 : Int32)), .val (.ref b), .val (.int (0 : Int32)), .val (.int (2 : Int32)), .val (.int (0 : Int32)), .unset] [(.int (0 : Int32)), (.ref a)])) rfl rfl (hb hby d5_12) t kt)
  have k6 : ∀ t, Steps p.tables e below (s₁.setTop (mkF m 31 #[.val (.ref a), .val (.int (0 : Int32)), .val (.ref b), .val (.int (0 : Int32)), .val (.int (2 : Int32)), .val (.int (0 : Int32)), .val (.int ch0)] [(.int (ch0.toInt8.toInt32)), (.int (0 : Int32)), (.ref b)])) t → Steps p.tables e below (s₁.setTop (entryFrame m #[(.ref a), (.int (0 : Int32)), (.ref b), (.int (0 : Int32)), (.int (2 : Int32))] 7)) t := by
    intro t kt
    refine k4 t ?_
    show Steps p.tables e below (s₁.setTop (mkF m 13 #[.val (.ref a), .val (.int (0 : Int32)), .val (.ref b), .val (.int (0 : Int32)), .val (.int (2 : Int32)), .val (.int (0 : Int32)), .unset] [(.int ch0)])) t
    refine XS.istore X0.here hx rfl (hb hby d5_13) rfl (l' := #[.val (.ref a), .val (.int (0 : Int32)), .val (.ref b), .val (.int (0 : Int32)), .val (.int (2 : Int32)), .val (.int (0 : Int32)), .val (.int ch0)]) rfl ?_
    show Steps p.tables e below (s₁.setTop (mkF m 15 #[.val (.ref a), .val (.int (0 : Int32)), .val (.ref b), .val (.int (0 : Int32)), .val (.int (2 : Int32)), .val (.int (0 : Int32)), .val (.int ch0)] [])) t
    refine XS.iload X0.here hx rfl (hb hby d5_15) rfl ?_
    show Steps p.tables e below (s₁.setTop (mkF m 17 #[.val (.ref a), .val (.int (0 : Int32)), .val (.ref b), .val (.int (0 : Int32)), .val (.int (2 : Int32)), .val (.int (0 : Int32)), .val (.int ch0)] [(.int ch0)])) t
    refine XS.sipush X0.here hx rfl (hb hby d5_17) ?_
    show Steps p.tables e below (s₁.setTop (mkF m 20 #[.val (.ref a), .val (.int (0 : Int32)), .val (.ref b), .val (.int (0 : Int32)), .val (.int (2 : Int32)), .val (.int (0 : Int32)), .val (.int ch0)] [(.int (255 : Int32)), (.int ch0)])) t
    refine XS.icmpYes X0.here hx rfl (pc0 := 20) (pc' := 26) rfl (hb hby d5_20) rfl (flt hch0).2.2.2 (by decide) (by decide) ?_
    show Steps p.tables e below (s₁.setTop (mkF m 26 #[.val (.ref a), .val (.int (0 : Int32)), .val (.ref b), .val (.int (0 : Int32)), .val (.int (2 : Int32)), .val (.int (0 : Int32)), .val (.int ch0)] [])) t
    refine XS.aloadN X0.here hx rfl (hb hby d5_26) rfl rfl ?_
    show Steps p.tables e below (s₁.setTop (mkF m 27 #[.val (.ref a), .val (.int (0 : Int32)), .val (.ref b), .val (.int (0 : Int32)), .val (.int (2 : Int32)), .val (.int (0 : Int32)), .val (.int ch0)] [(.ref b)])) t
    refine XS.iloadN X0.here hx rfl (hb hby d5_27) rfl ?_
    show Steps p.tables e below (s₁.setTop (mkF m 28 #[.val (.ref a), .val (.int (0 : Int32)), .val (.ref b), .val (.int (0 : Int32)), .val (.int (2 : Int32)), .val (.int (0 : Int32)), .val (.int ch0)] [(.int (0 : Int32)), (.ref b)])) t
    refine XS.iload X0.here hx rfl (hb hby d5_28) rfl ?_
    show Steps p.tables e below (s₁.setTop (mkF m 30 #[.val (.ref a), .val (.int (0 : Int32)), .val (.ref b), .val (.int (0 : Int32)), .val (.int (2 : Int32)), .val (.int (0 : Int32)), .val (.int ch0)] [(.int ch0), (.int (0 : Int32)), (.ref b)])) t
    refine XS.i2b X0.here hx rfl (hb hby d5_30) rfl ?_
    exact kt
  obtain ⟨cl7, Ar7, q7, S7, M7, H7, G7⟩ := id Ab
  have hin7 : ¬ ((0 : Int32) < 0 ∨ cl7.slots.size ≤ ((0 : Int32)).toNatClampNeg) := inb_of S7 ⟨by decide, by decide⟩
  obtain ⟨T7, h7, X7, e7, W7, st7⟩ := stB X0 hx hZ e0 Ar7 (j := (0 : Int32)) hin7 (g := (mkF m 31 #[.val (.ref a), .val (.int (0 : Int32)), .val (.ref b), .val (.int (0 : Int32)), .val (.int (2 : Int32)), .val (.int (0 : Int32)), .val (.int ch0)] [(.int (ch0.toInt8.toInt32)), (.int (0 : Int32)), (.ref b)])) rfl rfl (hb hby d5_31)
  have F8 : Arv Z h7 b kb .byte (2 : Int32) [(.int ((ch0.toInt8.toInt32).toInt8.toInt32)), (.int (0 : Int32))] (.int (0 : Int32)) := Arv.set Ar7 q7 S7 M7 H7 G7 (fits_nar_byte _) W7 0 rfl (Nat.le_of_ble_eq_true rfl)
  have F9 := Aa.other W7 ne
  have Z7 : n0 ≤ h7.size := Nat.le_trans Z0 (Keep.of_wr W7).1
  have K7 : Keep h0 h7 [b] := K0.wr W7 (Or.inl (List.mem_of_getElem? (i := 0) rfl))
  have N7 := Fr.snoc X7 N0 g_b
  have k11 : ∀ t, Steps p.tables e below (T7.setTop (mkF m 32 #[.val (.ref a), .val (.int (0 : Int32)), .val (.ref b), .val (.int (0 : Int32)), .val (.int (2 : Int32)), .val (.int (0 : Int32)), .val (.int ch0)] [])) t → Steps p.tables e below (s₁.setTop (entryFrame m #[(.ref a), (.int (0 : Int32)), (.ref b), (.int (0 : Int32)), (.int (2 : Int32))] 7)) t := fun t kt => k6 t (st7 t kt)
  have hc7_12 : (1 : Int32) < (2 : Int32) := by decide
  have k13 : ∀ t, Steps p.tables e below (T7.setTop (mkF m 12 #[.val (.ref a), .val (.int (1 : Int32)), .val (.ref b), .val (.int (1 : Int32)), .val (.int (2 : Int32)), .val (.int (1 : Int32)), .val (.int ch0)] [(.int (1 : Int32)), (.ref a)])) t → Steps p.tables e below (s₁.setTop (entryFrame m #[(.ref a), (.int (0 : Int32)), (.ref b), (.int (0 : Int32)), (.int (2 : Int32))] 7)) t := by
    intro t kt
    refine k11 t ?_
    show Steps p.tables e below (T7.setTop (mkF m 32 #[.val (.ref a), .val (.int (0 : Int32)), .val (.ref b), .val (.int (0 : Int32)), .val (.int (2 : Int32)), .val (.int (0 : Int32)), .val (.int ch0)] [])) t
    refine XS.iinc X7.here hx rfl (hb hby d5_32) rfl (l' := #[.val (.ref a), .val (.int (1 : Int32)), .val (.ref b), .val (.int (0 : Int32)), .val (.int (2 : Int32)), .val (.int (0 : Int32)), .val (.int ch0)]) rfl ?_
    show Steps p.tables e below (T7.setTop (mkF m 35 #[.val (.ref a), .val (.int (1 : Int32)), .val (.ref b), .val (.int (0 : Int32)), .val (.int (2 : Int32)), .val (.int (0 : Int32)), .val (.int ch0)] [])) t
    refine XS.iinc X7.here hx rfl (hb hby d5_35) rfl (l' := #[.val (.ref a), .val (.int (1 : Int32)), .val (.ref b), .val (.int (1 : Int32)), .val (.int (2 : Int32)), .val (.int (0 : Int32)), .val (.int ch0)]) rfl ?_
    show Steps p.tables e below (T7.setTop (mkF m 38 #[.val (.ref a), .val (.int (1 : Int32)), .val (.ref b), .val (.int (1 : Int32)), .val (.int (2 : Int32)), .val (.int (0 : Int32)), .val (.int ch0)] [])) t
    refine XS.iinc X7.here hx rfl (hb hby d5_38) rfl (l' := #[.val (.ref a), .val (.int (1 : Int32)), .val (.ref b), .val (.int (1 : Int32)), .val (.int (2 : Int32)), .val (.int (1 : Int32)), .val (.int ch0)]) rfl ?_
    show Steps p.tables e below (T7.setTop (mkF m 41 #[.val (.ref a), .val (.int (1 : Int32)), .val (.ref b), .val (.int (1 : Int32)), .val (.int (2 : Int32)), .val (.int (1 : Int32)), .val (.int ch0)] [])) t
    refine XS.goto X7.here hx rfl (pc0 := 41) (pc' := 3) rfl (hb hby d5_41) (by decide) (by decide) ?_
    show Steps p.tables e below (T7.setTop (mkF m 3 #[.val (.ref a), .val (.int (1 : Int32)), .val (.ref b), .val (.int (1 : Int32)), .val (.int (2 : Int32)), .val (.int (1 : Int32)), .val (.int ch0)] [])) t
    refine XS.iload X7.here hx rfl (hb hby d5_3) rfl ?_
    show Steps p.tables e below (T7.setTop (mkF m 5 #[.val (.ref a), .val (.int (1 : Int32)), .val (.ref b), .val (.int (1 : Int32)), .val (.int (2 : Int32)), .val (.int (1 : Int32)), .val (.int ch0)] [(.int (1 : Int32))])) t
    refine XS.iload X7.here hx rfl (hb hby d5_5) rfl ?_
    show Steps p.tables e below (T7.setTop (mkF m 7 #[.val (.ref a), .val (.int (1 : Int32)), .val (.ref b), .val (.int (1 : Int32)), .val (.int (2 : Int32)), .val (.int (1 : Int32)), .val (.int ch0)] [(.int (2 : Int32)), (.int (1 : Int32))])) t
    refine XS.icmpNo X7.here hx rfl (hb hby d5_7) rfl (tlt hc7_12).2.1 ?_
    show Steps p.tables e below (T7.setTop (mkF m 10 #[.val (.ref a), .val (.int (1 : Int32)), .val (.ref b), .val (.int (1 : Int32)), .val (.int (2 : Int32)), .val (.int (1 : Int32)), .val (.int ch0)] [])) t
    refine XS.aloadN X7.here hx rfl (hb hby d5_10) rfl rfl ?_
    show Steps p.tables e below (T7.setTop (mkF m 11 #[.val (.ref a), .val (.int (1 : Int32)), .val (.ref b), .val (.int (1 : Int32)), .val (.int (2 : Int32)), .val (.int (1 : Int32)), .val (.int ch0)] [(.ref a)])) t
    refine XS.iloadN X7.here hx rfl (hb hby d5_11) rfl ?_
    exact kt
  obtain ⟨cl14, Ar14, q14, S14, M14, H14, G14⟩ := id F9
  have hin14 : ¬ ((1 : Int32) < 0 ∨ cl14.slots.size ≤ ((1 : Int32)).toNatClampNeg) := inb_of S14 ⟨by decide, by decide⟩
  have hat14 : cl14.slots[((1 : Int32)).toNatClampNeg]? = some (.int ch1) := Has.at H14 hin14 rfl
  have k15 : ∀ t, Steps p.tables e below (T7.setTop (mkF m 13 #[.val (.ref a), .val (.int (1 : Int32)), .val (.ref b), .val (.int (1 : Int32)), .val (.int (2 : Int32)), .val (.int (1 : Int32)), .val (.int ch0)] [(.int ch1)])) t → Steps p.tables e below (s₁.setTop (entryFrame m #[(.ref a), (.int (0 : Int32)), (.ref b), (.int (0 : Int32)), (.int (2 : Int32))] 7)) t := fun t kt => k13 t (X7.caload hx (j := (1 : Int32)) (v := (.int ch1)) (by rw [e7]; exact Ar14.1) (State.isArrayOf_alike hZ.alike Ar14.2.1) Ar14.2.2 hin14 hat14 (g := (mkF m 12 #[.val (.ref a), .val (.int (1 : Int32)), .val (.ref b), .val (.int (1 : Int32)), .val (.int (2 : Int32)), .val (.int (1 : Int32)), .val (.int ch0)] [(.int (1 : Int32)), (.ref a)])) rfl rfl (hb hby d5_12) t kt)
  have k17 : ∀ t, Steps p.tables e below (T7.setTop (mkF m 31 #[.val (.ref a), .val (.int (1 : Int32)), .val (.ref b), .val (.int (1 : Int32)), .val (.int (2 : Int32)), .val (.int (1 : Int32)), .val (.int ch1)] [(.int (ch1.toInt8.toInt32)), (.int (1 : Int32)), (.ref b)])) t → Steps p.tables e below (s₁.setTop (entryFrame m #[(.ref a), (.int (0 : Int32)), (.ref b), (.int (0 : Int32)), (.int (2 : Int32))] 7)) t := by
    intro t kt
    refine k15 t ?_
    show Steps p.tables e below (T7.setTop (mkF m 13 #[.val (.ref a), .val (.int (1 : Int32)), .val (.ref b), .val (.int (1 : Int32)), .val (.int (2 : Int32)), .val (.int (1 : Int32)), .val (.int ch0)] [(.int ch1)])) t
    refine XS.istore X7.here hx rfl (hb hby d5_13) rfl (l' := #[.val (.ref a), .val (.int (1 : Int32)), .val (.ref b), .val (.int (1 : Int32)), .val (.int (2 : Int32)), .val (.int (1 : Int32)), .val (.int ch1)]) rfl ?_
    show Steps p.tables e below (T7.setTop (mkF m 15 #[.val (.ref a), .val (.int (1 : Int32)), .val (.ref b), .val (.int (1 : Int32)), .val (.int (2 : Int32)), .val (.int (1 : Int32)), .val (.int ch1)] [])) t
    refine XS.iload X7.here hx rfl (hb hby d5_15) rfl ?_
    show Steps p.tables e below (T7.setTop (mkF m 17 #[.val (.ref a), .val (.int (1 : Int32)), .val (.ref b), .val (.int (1 : Int32)), .val (.int (2 : Int32)), .val (.int (1 : Int32)), .val (.int ch1)] [(.int ch1)])) t
    refine XS.sipush X7.here hx rfl (hb hby d5_17) ?_
    show Steps p.tables e below (T7.setTop (mkF m 20 #[.val (.ref a), .val (.int (1 : Int32)), .val (.ref b), .val (.int (1 : Int32)), .val (.int (2 : Int32)), .val (.int (1 : Int32)), .val (.int ch1)] [(.int (255 : Int32)), (.int ch1)])) t
    refine XS.icmpYes X7.here hx rfl (pc0 := 20) (pc' := 26) rfl (hb hby d5_20) rfl (flt hch1).2.2.2 (by decide) (by decide) ?_
    show Steps p.tables e below (T7.setTop (mkF m 26 #[.val (.ref a), .val (.int (1 : Int32)), .val (.ref b), .val (.int (1 : Int32)), .val (.int (2 : Int32)), .val (.int (1 : Int32)), .val (.int ch1)] [])) t
    refine XS.aloadN X7.here hx rfl (hb hby d5_26) rfl rfl ?_
    show Steps p.tables e below (T7.setTop (mkF m 27 #[.val (.ref a), .val (.int (1 : Int32)), .val (.ref b), .val (.int (1 : Int32)), .val (.int (2 : Int32)), .val (.int (1 : Int32)), .val (.int ch1)] [(.ref b)])) t
    refine XS.iloadN X7.here hx rfl (hb hby d5_27) rfl ?_
    show Steps p.tables e below (T7.setTop (mkF m 28 #[.val (.ref a), .val (.int (1 : Int32)), .val (.ref b), .val (.int (1 : Int32)), .val (.int (2 : Int32)), .val (.int (1 : Int32)), .val (.int ch1)] [(.int (1 : Int32)), (.ref b)])) t
    refine XS.iload X7.here hx rfl (hb hby d5_28) rfl ?_
    show Steps p.tables e below (T7.setTop (mkF m 30 #[.val (.ref a), .val (.int (1 : Int32)), .val (.ref b), .val (.int (1 : Int32)), .val (.int (2 : Int32)), .val (.int (1 : Int32)), .val (.int ch1)] [(.int ch1), (.int (1 : Int32)), (.ref b)])) t
    refine XS.i2b X7.here hx rfl (hb hby d5_30) rfl ?_
    exact kt
  obtain ⟨cl18, Ar18, q18, S18, M18, H18, G18⟩ := id F8
  have hin18 : ¬ ((1 : Int32) < 0 ∨ cl18.slots.size ≤ ((1 : Int32)).toNatClampNeg) := inb_of S18 ⟨by decide, by decide⟩
  obtain ⟨T18, h18, X18, e18, W18, st18⟩ := stB X7 hx hZ e7 Ar18 (j := (1 : Int32)) hin18 (g := (mkF m 31 #[.val (.ref a), .val (.int (1 : Int32)), .val (.ref b), .val (.int (1 : Int32)), .val (.int (2 : Int32)), .val (.int (1 : Int32)), .val (.int ch1)] [(.int (ch1.toInt8.toInt32)), (.int (1 : Int32)), (.ref b)])) rfl rfl (hb hby d5_31)
  have F19 : Arv Z h18 b kb .byte (2 : Int32) [(.int ((ch0.toInt8.toInt32).toInt8.toInt32)), (.int ((ch1.toInt8.toInt32).toInt8.toInt32))] (.int (0 : Int32)) := Arv.set Ar18 q18 S18 M18 H18 G18 (fits_nar_byte _) W18 1 rfl (Nat.le_of_ble_eq_true rfl)
  have F20 := F9.other W18 ne
  have Z18 : n0 ≤ h18.size := Nat.le_trans Z7 (Keep.of_wr W18).1
  have K18 : Keep h0 h18 [b] := K7.wr W18 (Or.inl (List.mem_of_getElem? (i := 0) rfl))
  have N18 := Fr.snoc X18 N7 g_b
  have k22 : ∀ t, Steps p.tables e below (T18.setTop (mkF m 32 #[.val (.ref a), .val (.int (1 : Int32)), .val (.ref b), .val (.int (1 : Int32)), .val (.int (2 : Int32)), .val (.int (1 : Int32)), .val (.int ch1)] [])) t → Steps p.tables e below (s₁.setTop (entryFrame m #[(.ref a), (.int (0 : Int32)), (.ref b), (.int (0 : Int32)), (.int (2 : Int32))] 7)) t := fun t kt => k17 t (st18 t kt)
  have hc7_23 : ¬ ((2 : Int32) < (2 : Int32)) := by decide
  have k24 : ∀ t, Steps p.tables e below (T18.setTop (mkF m 46 #[.val (.ref a), .val (.int (2 : Int32)), .val (.ref b), .val (.int (2 : Int32)), .val (.int (2 : Int32)), .val (.int (2 : Int32)), .val (.int ch1)] [(.int (2 : Int32))])) t → Steps p.tables e below (s₁.setTop (entryFrame m #[(.ref a), (.int (0 : Int32)), (.ref b), (.int (0 : Int32)), (.int (2 : Int32))] 7)) t := by
    intro t kt
    refine k22 t ?_
    show Steps p.tables e below (T18.setTop (mkF m 32 #[.val (.ref a), .val (.int (1 : Int32)), .val (.ref b), .val (.int (1 : Int32)), .val (.int (2 : Int32)), .val (.int (1 : Int32)), .val (.int ch1)] [])) t
    refine XS.iinc X18.here hx rfl (hb hby d5_32) rfl (l' := #[.val (.ref a), .val (.int (2 : Int32)), .val (.ref b), .val (.int (1 : Int32)), .val (.int (2 : Int32)), .val (.int (1 : Int32)), .val (.int ch1)]) rfl ?_
    show Steps p.tables e below (T18.setTop (mkF m 35 #[.val (.ref a), .val (.int (2 : Int32)), .val (.ref b), .val (.int (1 : Int32)), .val (.int (2 : Int32)), .val (.int (1 : Int32)), .val (.int ch1)] [])) t
    refine XS.iinc X18.here hx rfl (hb hby d5_35) rfl (l' := #[.val (.ref a), .val (.int (2 : Int32)), .val (.ref b), .val (.int (2 : Int32)), .val (.int (2 : Int32)), .val (.int (1 : Int32)), .val (.int ch1)]) rfl ?_
    show Steps p.tables e below (T18.setTop (mkF m 38 #[.val (.ref a), .val (.int (2 : Int32)), .val (.ref b), .val (.int (2 : Int32)), .val (.int (2 : Int32)), .val (.int (1 : Int32)), .val (.int ch1)] [])) t
    refine XS.iinc X18.here hx rfl (hb hby d5_38) rfl (l' := #[.val (.ref a), .val (.int (2 : Int32)), .val (.ref b), .val (.int (2 : Int32)), .val (.int (2 : Int32)), .val (.int (2 : Int32)), .val (.int ch1)]) rfl ?_
    show Steps p.tables e below (T18.setTop (mkF m 41 #[.val (.ref a), .val (.int (2 : Int32)), .val (.ref b), .val (.int (2 : Int32)), .val (.int (2 : Int32)), .val (.int (2 : Int32)), .val (.int ch1)] [])) t
    refine XS.goto X18.here hx rfl (pc0 := 41) (pc' := 3) rfl (hb hby d5_41) (by decide) (by decide) ?_
    show Steps p.tables e below (T18.setTop (mkF m 3 #[.val (.ref a), .val (.int (2 : Int32)), .val (.ref b), .val (.int (2 : Int32)), .val (.int (2 : Int32)), .val (.int (2 : Int32)), .val (.int ch1)] [])) t
    refine XS.iload X18.here hx rfl (hb hby d5_3) rfl ?_
    show Steps p.tables e below (T18.setTop (mkF m 5 #[.val (.ref a), .val (.int (2 : Int32)), .val (.ref b), .val (.int (2 : Int32)), .val (.int (2 : Int32)), .val (.int (2 : Int32)), .val (.int ch1)] [(.int (2 : Int32))])) t
    refine XS.iload X18.here hx rfl (hb hby d5_5) rfl ?_
    show Steps p.tables e below (T18.setTop (mkF m 7 #[.val (.ref a), .val (.int (2 : Int32)), .val (.ref b), .val (.int (2 : Int32)), .val (.int (2 : Int32)), .val (.int (2 : Int32)), .val (.int ch1)] [(.int (2 : Int32)), (.int (2 : Int32))])) t
    refine XS.icmpYes X18.here hx rfl (pc0 := 7) (pc' := 44) rfl (hb hby d5_7) rfl (flt hc7_23).2.1 (by decide) (by decide) ?_
    show Steps p.tables e below (T18.setTop (mkF m 44 #[.val (.ref a), .val (.int (2 : Int32)), .val (.ref b), .val (.int (2 : Int32)), .val (.int (2 : Int32)), .val (.int (2 : Int32)), .val (.int ch1)] [])) t
    refine XS.iload X18.here hx rfl (hb hby d5_44) rfl ?_
    exact kt
  obtain ⟨fs, hr, hrun, hended, hW, hsame⟩ := X18.leave (v := some (.int (2 : Int32))) (fun h => by rw [Bd.returns] at h; cases h)
  refine ⟨_, _, k24 _ ?_, hrun, hended, _, _, rfl, ?_, ⟨_, rfl⟩, hW, hsame.mono (by decide) (by decide)⟩
  · show Steps p.tables e below (T18.setTop (mkF m 46 #[.val (.ref a), .val (.int (2 : Int32)), .val (.ref b), .val (.int (2 : Int32)), .val (.int (2 : Int32)), .val (.int (2 : Int32)), .val (.int ch1)] [(.int (2 : Int32))])) _
    exact retI X18 hx Bd.returns (hb hby d5_46) hr
  · show QCmp2 Z a b ka kb ch0 ch1 h0 n0 _ T18.heap _
    rw [e18]
    exact ⟨rfl, N18, K18, by simp only [own_i2b] at F19; exact F19⟩
theorem d4_0 : decode jdk_52_method_16_code 0 = .ok (.iload_n 2, 1) := by decide +kernel
theorem d4_1 : decode jdk_52_method_16_code 1 = .ok (.newarray .byte, 2) := by decide +kernel
theorem d4_3 : decode jdk_52_method_16_code 3 = .ok (.astore_n 3, 1) := by decide +kernel
theorem d4_4 : decode jdk_52_method_16_code 4 = .ok (.aload_n 0, 1) := by decide +kernel
theorem d4_5 : decode jdk_52_method_16_code 5 = .ok (.iload_n 1, 1) := by decide +kernel
theorem d4_6 : decode jdk_52_method_16_code 6 = .ok (.aload_n 3, 1) := by decide +kernel
theorem d4_7 : decode jdk_52_method_16_code 7 = .ok (.iconst 0, 1) := by decide +kernel
theorem d4_8 : decode jdk_52_method_16_code 8 = .ok (.iload_n 2, 1) := by decide +kernel
theorem d4_9 : decode jdk_52_method_16_code 9 = .ok (.invokestatic 115, 3) := by decide +kernel
theorem d4_12 : decode jdk_52_method_16_code 12 = .ok (.istore 4, 2) := by decide +kernel
theorem d4_14 : decode jdk_52_method_16_code 14 = .ok (.iload 4, 2) := by decide +kernel
theorem d4_16 : decode jdk_52_method_16_code 16 = .ok (.iload_n 2, 1) := by decide +kernel
theorem d4_17 : decode jdk_52_method_16_code 17 = .ok (.if_icmp .eq 40, 3) := by decide +kernel
theorem d4_20 : decode jdk_52_method_16_code 20 = .ok (.aload_n 0, 1) := by decide +kernel
theorem d4_21 : decode jdk_52_method_16_code 21 = .ok (.iload_n 1, 1) := by decide +kernel
theorem d4_22 : decode jdk_52_method_16_code 22 = .ok (.iload_n 2, 1) := by decide +kernel
theorem d4_23 : decode jdk_52_method_16_code 23 = .ok (.invokestatic 119, 3) := by decide +kernel
theorem d4_26 : decode jdk_52_method_16_code 26 = .ok (.astore 5, 2) := by decide +kernel
theorem d4_28 : decode jdk_52_method_16_code 28 = .ok (.aload 5, 2) := by decide +kernel
theorem d4_30 : decode jdk_52_method_16_code 30 = .ok (.iload 4, 2) := by decide +kernel
theorem d4_32 : decode jdk_52_method_16_code 32 = .ok (.invokestatic 71, 3) := by decide +kernel
theorem d4_35 : decode jdk_52_method_16_code 35 = .ok (.sipush 255, 3) := by decide +kernel
theorem d4_38 : decode jdk_52_method_16_code 38 = .ok (.if_icmp .gt 16, 3) := by decide +kernel
theorem d4_41 : decode jdk_52_method_16_code 41 = .ok (.aload 5, 2) := by decide +kernel
theorem d4_43 : decode jdk_52_method_16_code 43 = .ok (.iconst 0, 1) := by decide +kernel
theorem d4_44 : decode jdk_52_method_16_code 44 = .ok (.aload_n 3, 1) := by decide +kernel
theorem d4_45 : decode jdk_52_method_16_code 45 = .ok (.iconst 0, 1) := by decide +kernel
theorem d4_46 : decode jdk_52_method_16_code 46 = .ok (.iload_n 2, 1) := by decide +kernel
theorem d4_47 : decode jdk_52_method_16_code 47 = .ok (.invokestatic 123, 3) := by decide +kernel
theorem d4_50 : decode jdk_52_method_16_code 50 = .ok (.iload_n 2, 1) := by decide +kernel
theorem d4_51 : decode jdk_52_method_16_code 51 = .ok (.if_icmp .eq 6, 3) := by decide +kernel
theorem d4_54 : decode jdk_52_method_16_code 54 = .ok (.aload 5, 2) := by decide +kernel
theorem d4_56 : decode jdk_52_method_16_code 56 = .ok (.areturn, 1) := by decide +kernel
theorem d4_57 : decode jdk_52_method_16_code 57 = .ok (.aload_n 3, 1) := by decide +kernel
theorem d4_58 : decode jdk_52_method_16_code 58 = .ok (.areturn, 1) := by decide +kernel
theorem rmCps2_ef (m : MethodId) (x0 : Addr) : entryFrame m #[(.ref x0), (.int (0 : Int32)), (.int (2 : Int32))] 6 = mkF m 0 #[.val (.ref x0), .val (.int (0 : Int32)), .val (.int (2 : Int32)), .unset, .unset, .unset] [] := by first | (simp [entryFrame, mkF, argsToLocals, Value.category]; done) | rfl
def QCps2 (Z : State) (a : Addr) (ka : ClassId) (ch0 : Int32) (ch1 : Int32) (h0 : Heap) (n0 : Nat) (v : Option Value) (h : Heap) (L : List Loc) : Prop := ∃ (b : Addr) (kb : ClassId), v = some (.ref b) ∧ Fr n0 L ∧ Keep h0 h [] ∧ h0.size ≤ b ∧ Arv Z h b kb .byte (2 : Int32) [(.int (ch0.toInt8.toInt32)), (.int (ch1.toInt8.toInt32))] (.int (0 : Int32))
theorem own_pd3 : parseMethodDescriptor "([CI[BII)I" = some ⟨[(.array .char), .int, (.array .byte), .int, .int], some .int⟩ := by decide +kernel
set_option maxRecDepth 65536 in
set_option maxHeartbeats 40000000 in
theorem rmCps2 (l : Launch) (Z : State) (a0 : Array Value) (hw : ∀ d ∈ tables_1, d.before a0 Z = true) (ws : List Jvm.Cond) (a : Addr) (ka : ClassId) (ch0 : Int32) (ch1 : Int32) (h0 : Heap) (n0 : Nat) (Z0 : n0 ≤ h0.size) (Aa : Arv Z h0 a ka .char (2 : Int32) [(.int ch0), (.int ch1)] (.int (0 : Int32))) (hch0 : ¬ ((255 : Int32) < ch0)) (hch1 : ¬ ((255 : Int32) < ch1)) :
    MetFree l (⟨"java/lang/StringUTF16", "compress", "([CII)[B"⟩ : MethodName) (head1 (Jvm.Cond.code (⟨"java/lang/StringUTF16", "compress", "([CII)[B"⟩ : MethodName) jdk_52_method_16_code 6 (some (.array .byte)) :: ws) ({ frames := 1, cells := 1, slots := 2, locals := 18 } : Room)) (fun aA' U => aA' = #[(.ref a), (.int (0 : Int32)), (.int (2 : Int32))] ∧ Z.Warmed39 U.vm ∧ U.heap = h0) (fun _ _ _ _ _ => True) (fun _ U oO' U' => ∃ vV' L, oO' = .returned vV' ∧ QCps2 Z a ka ch0 ch1 h0 n0 vV' U'.heap L ∧ FrameEnd U oO' U' L ({ frames := 1, cells := 1, slots := 2, locals := 18 } : Room).cells ({ frames := 1, cells := 1, slots := 2, locals := 18 } : Room).slots) := by
  refine MetFree.of_bodySF (plainFor_of_name own_pn2) hisR ?_
  intro p e s m args below meth c s₁ Bd hml0 hP hK
  obtain ⟨rfl, hZ, hh⟩ := hP
  have hx := Bd.exec
  have hby := Bd.bytes
  have hml : c.maxLocals = 6 := hml0
  have hown : s.vm.findClass "java/lang/StringUTF16" = some m.cls := findClass_of_methodNamed Bd.named
  have hnm := (name_of_methodNamed Bd.named Bd.method).1
  have X0 : Stand p l e ({ frames := 1, cells := 1, slots := 2, locals := 18 } : Room) s m #[(.ref a), (.int (0 : Int32)), (.int (2 : Int32))] below meth c s₁ [] 0 0 := Stand.of_body Bd
  have e0 : s₁.heap = h0 := by rw [← hh, Bd.state]; rfl
  have N0 := Fr.nil n0
  have K0 : Keep h0 h0 [] := Keep.refl _ _
  have k0 : ∀ t, Steps p.tables e below (s₁.setTop (mkF m 0 #[.val (.ref a), .val (.int (0 : Int32)), .val (.int (2 : Int32)), .unset, .unset, .unset] [])) t → Steps p.tables e below (s₁.setTop (entryFrame m #[(.ref a), (.int (0 : Int32)), (.int (2 : Int32))] 6)) t := fun t k => castTop (rmCps2_ef m (a)) k
  have k1 : ∀ t, Steps p.tables e below (s₁.setTop (mkF m 1 #[.val (.ref a), .val (.int (0 : Int32)), .val (.int (2 : Int32)), .unset, .unset, .unset] [(.int (2 : Int32))])) t → Steps p.tables e below (s₁.setTop (entryFrame m #[(.ref a), (.int (0 : Int32)), (.int (2 : Int32))] 6)) t := by
    intro t kt
    refine k0 t ?_
    show Steps p.tables e below (s₁.setTop (mkF m 0 #[.val (.ref a), .val (.int (0 : Int32)), .val (.int (2 : Int32)), .unset, .unset, .unset] [])) t
    refine XS.iloadN X0.here hx rfl (hb hby d4_0) rfl ?_
    exact kt
  obtain ⟨T2, h2, c2, X2, e2, E2, A2, st2⟩ := newP X0 hx hZ (hw _ (List.mem_of_getElem? (i := 19) rfl)) e0 (g := (mkF m 1 #[.val (.ref a), .val (.int (0 : Int32)), .val (.int (2 : Int32)), .unset, .unset, .unset] [(.int (2 : Int32))])) rfl (hb hby d4_1) rfl (by decide) (cap := 2) (by decide) (by decide) (by decide) (by decide)
  obtain ⟨b2, g2⟩ : ∃ z, z = h0.size := ⟨_, rfl⟩
  rw [← g2] at A2 st2
  have g_b2 : n0 ≤ b2 := Nat.le_trans Z0 (Nat.le_of_eq g2.symm)
  have sz_b2 : h0.size ≤ b2 := Nat.le_trans K0.1 (Nat.le_of_eq g2.symm)
  have ne3 : a ≠ b2 := Nat.ne_of_lt (Nat.lt_of_lt_of_le Aa.lt (Nat.le_of_eq g2.symm))
  have F4 := Aa.ext E2
  have Z2 : n0 ≤ h2.size := Nat.le_trans Z0 E2.1
  have K2 : Keep h0 h2 [] := K0.ext E2
  have F5 : Arv Z h2 b2 c2 .byte (2 : Int32) [(.int (0 : Int32)), (.int (0 : Int32))] (.int (0 : Int32)) := (Arv.new A2 (by decide)).pad (pad_rep [] (.int (0 : Int32)) 2)
  have k6 : ∀ t, Steps p.tables e below (T2.setTop (mkF m 3 #[.val (.ref a), .val (.int (0 : Int32)), .val (.int (2 : Int32)), .unset, .unset, .unset] [(.ref b2)])) t → Steps p.tables e below (s₁.setTop (entryFrame m #[(.ref a), (.int (0 : Int32)), (.int (2 : Int32))] 6)) t := fun t kt => k1 t (st2 t kt)
  have k7 : ∀ t, Steps p.tables e below (T2.setTop (mkF m 9 #[.val (.ref a), .val (.int (0 : Int32)), .val (.int (2 : Int32)), .val (.ref b2), .unset, .unset] [(.int (2 : Int32)), (.int (0 : Int32)), (.ref b2), (.int (0 : Int32)), (.ref a)])) t → Steps p.tables e below (s₁.setTop (entryFrame m #[(.ref a), (.int (0 : Int32)), (.int (2 : Int32))] 6)) t := by
    intro t kt
    refine k6 t ?_
    show Steps p.tables e below (T2.setTop (mkF m 3 #[.val (.ref a), .val (.int (0 : Int32)), .val (.int (2 : Int32)), .unset, .unset, .unset] [(.ref b2)])) t
    refine XS.astoreN X2.here hx rfl (hb hby d4_3) rfl rfl (l' := #[.val (.ref a), .val (.int (0 : Int32)), .val (.int (2 : Int32)), .val (.ref b2), .unset, .unset]) rfl ?_
    show Steps p.tables e below (T2.setTop (mkF m 4 #[.val (.ref a), .val (.int (0 : Int32)), .val (.int (2 : Int32)), .val (.ref b2), .unset, .unset] [])) t
    refine XS.aloadN X2.here hx rfl (hb hby d4_4) rfl rfl ?_
    show Steps p.tables e below (T2.setTop (mkF m 5 #[.val (.ref a), .val (.int (0 : Int32)), .val (.int (2 : Int32)), .val (.ref b2), .unset, .unset] [(.ref a)])) t
    refine XS.iloadN X2.here hx rfl (hb hby d4_5) rfl ?_
    show Steps p.tables e below (T2.setTop (mkF m 6 #[.val (.ref a), .val (.int (0 : Int32)), .val (.int (2 : Int32)), .val (.ref b2), .unset, .unset] [(.int (0 : Int32)), (.ref a)])) t
    refine XS.aloadN X2.here hx rfl (hb hby d4_6) rfl rfl ?_
    show Steps p.tables e below (T2.setTop (mkF m 7 #[.val (.ref a), .val (.int (0 : Int32)), .val (.int (2 : Int32)), .val (.ref b2), .unset, .unset] [(.ref b2), (.int (0 : Int32)), (.ref a)])) t
    refine XS.iconst X2.here hx rfl (hb hby d4_7) ?_
    show Steps p.tables e below (T2.setTop (mkF m 8 #[.val (.ref a), .val (.int (0 : Int32)), .val (.int (2 : Int32)), .val (.ref b2), .unset, .unset] [(.int (0 : Int32)), (.ref b2), (.int (0 : Int32)), (.ref a)])) t
    refine XS.iloadN X2.here hx rfl (hb hby d4_8) rfl ?_
    exact kt
  obtain ⟨_, _, ⟨T8, L8, k8c, n8⟩, -, X8, ⟨Lc8, hQ8, l8, y8, z8⟩, st8⟩ := Jvm.LawKit.callS X2 hx (y := (⟨"java/lang/StringUTF16", "compress", "([CI[BII)I"⟩ : MethodName)) hown (mvT hZ (hw _ (List.mem_of_getElem? (i := 20) rfl))) (mvT hZ (hw _ (List.mem_of_getElem? (i := 21) rfl))) (mvT hZ (hw _ (List.mem_of_getElem? (i := 17) rfl))) (mvT hZ (hw _ (List.mem_of_getElem? (i := 22) rfl))) (by decide) (backOf (W := 0) (rmCmp2 l Z a0 hw [] a b2 ka c2 ch0 ch1 h2 n0 Z2 F4 F5 g_b2 ne3 hch0 hch1) hZ (hw _ (List.mem_of_getElem? (i := 22) rfl)) (hw _ (List.mem_of_getElem? (i := 17) rfl)) (by decide) (by decide)) (g := (mkF m 9 #[.val (.ref a), .val (.int (0 : Int32)), .val (.int (2 : Int32)), .val (.ref b2), .unset, .unset] [(.int (2 : Int32)), (.int (0 : Int32)), (.ref b2), (.int (0 : Int32)), (.ref a)])) rfl (by rw [hml]; rfl) (argsL := [(.ref a), (.int (0 : Int32)), (.ref b2), (.int (0 : Int32)), (.int (2 : Int32))]) (rest := []) (lenOf own_pd3 rfl) rfl (by show 2 * 0 + _ ≤ _; exact Nat.le_of_eq rfl) (hb hby d4_9) (fun _ _ => ⟨rfl, e2, (by decide : 1 + 0 ≤ _), (by decide : 2 + 0 ≤ _)⟩)
  dsimp only [Pt.U, Pt.locs, Pt.cells, Pt.slots] at X8 l8 y8 z8 st8 hQ8
  subst l8 y8 z8
  obtain ⟨rfl, N8q, K8k, A8⟩ := hQ8
  have N8 := Fr.app N0 N8q
  have F9 := F4.keep K8k (ninS ne3 nin0)
  have Z11 : n0 ≤ T8.heap.size := Nat.le_trans Z2 K8k.1
  have K11 : Keep h0 T8.heap [] := K2.trans K8k (allS (Or.inr sz_b2) all0)
  have k12 : ∀ t, Steps p.tables e below (T8.setTop (mkF m 12 #[.val (.ref a), .val (.int (0 : Int32)), .val (.int (2 : Int32)), .val (.ref b2), .unset, .unset] [(.int (2 : Int32))])) t → Steps p.tables e below (s₁.setTop (entryFrame m #[(.ref a), (.int (0 : Int32)), (.int (2 : Int32))] 6)) t := fun t kt => k7 t (st8 t kt)
  have k14 : ∀ t, Steps p.tables e below (T8.setTop (mkF m 17 #[.val (.ref a), .val (.int (0 : Int32)), .val (.int (2 : Int32)), .val (.ref b2), .val (.int (2 : Int32)), .unset] [(.int (2 : Int32)), (.int (2 : Int32))])) t → Steps p.tables e below (s₁.setTop (entryFrame m #[(.ref a), (.int (0 : Int32)), (.int (2 : Int32))] 6)) t := by
    intro t kt
    refine k12 t ?_
    show Steps p.tables e below (T8.setTop (mkF m 12 #[.val (.ref a), .val (.int (0 : Int32)), .val (.int (2 : Int32)), .val (.ref b2), .unset, .unset] [(.int (2 : Int32))])) t
    refine XS.istore X8.here hx rfl (hb hby d4_12) rfl (l' := #[.val (.ref a), .val (.int (0 : Int32)), .val (.int (2 : Int32)), .val (.ref b2), .val (.int (2 : Int32)), .unset]) rfl ?_
    show Steps p.tables e below (T8.setTop (mkF m 14 #[.val (.ref a), .val (.int (0 : Int32)), .val (.int (2 : Int32)), .val (.ref b2), .val (.int (2 : Int32)), .unset] [])) t
    refine XS.iload X8.here hx rfl (hb hby d4_14) rfl ?_
    show Steps p.tables e below (T8.setTop (mkF m 16 #[.val (.ref a), .val (.int (0 : Int32)), .val (.int (2 : Int32)), .val (.ref b2), .val (.int (2 : Int32)), .unset] [(.int (2 : Int32))])) t
    refine XS.iloadN X8.here hx rfl (hb hby d4_16) rfl ?_
    exact kt
  have hc17_13 : (2 : Int32) = (2 : Int32) := rfl
  have k15 : ∀ t, Steps p.tables e below (T8.setTop (mkF m 58 #[.val (.ref a), .val (.int (0 : Int32)), .val (.int (2 : Int32)), .val (.ref b2), .val (.int (2 : Int32)), .unset] [(.ref b2)])) t → Steps p.tables e below (s₁.setTop (entryFrame m #[(.ref a), (.int (0 : Int32)), (.int (2 : Int32))] 6)) t := by
    intro t kt
    refine k14 t ?_
    show Steps p.tables e below (T8.setTop (mkF m 17 #[.val (.ref a), .val (.int (0 : Int32)), .val (.int (2 : Int32)), .val (.ref b2), .val (.int (2 : Int32)), .unset] [(.int (2 : Int32)), (.int (2 : Int32))])) t
    refine XS.icmpYes X8.here hx rfl (pc0 := 17) (pc' := 57) rfl (hb hby d4_17) rfl (teq hc17_13).1 (by decide) (by decide) ?_
    show Steps p.tables e below (T8.setTop (mkF m 57 #[.val (.ref a), .val (.int (0 : Int32)), .val (.int (2 : Int32)), .val (.ref b2), .val (.int (2 : Int32)), .unset] [])) t
    refine XS.aloadN X8.here hx rfl (hb hby d4_57) rfl rfl ?_
    exact kt
  obtain ⟨fs, hr, hrun, hended, hW, hsame⟩ := X8.leave (v := some (.ref b2)) (fun h => by rw [Bd.returns] at h; cases h)
  refine ⟨_, _, k15 _ ?_, hrun, hended, _, _, rfl, ?_, ⟨_, rfl⟩, hW, hsame.mono (by decide) (by decide)⟩
  · show Steps p.tables e below (T8.setTop (mkF m 58 #[.val (.ref a), .val (.int (0 : Int32)), .val (.int (2 : Int32)), .val (.ref b2), .val (.int (2 : Int32)), .unset] [(.ref b2)])) _
    jvm_step X8.here [X8.here.top, hx, (hb hby d4_58), X8.method', Bd.returns, Value.isRef, FieldType.isReference]
    first | (intro acts; rw [hr _ acts rfl rfl rfl]) | rw [hr _ _ rfl rfl rfl]
    exact Steps.refl _
  · show QCps2 Z a ka ch0 ch1 h0 n0 _ T8.heap _
    exact ⟨b2, c2, rfl, N8, K11, sz_b2, A8⟩
theorem d6_0 : decode jdk_52_method_15_code 0 = .ok (.iload_n 1, 1) := by decide +kernel
theorem d6_1 : decode jdk_52_method_15_code 1 = .ok (.aload_n 0, 1) := by decide +kernel
theorem d6_2 : decode jdk_52_method_15_code 2 = .ok (.arraylength, 1) := by decide +kernel
theorem d6_3 : decode jdk_52_method_15_code 3 = .ok (.isub, 1) := by decide +kernel
theorem d6_4 : decode jdk_52_method_15_code 4 = .ok (.bipush 31, 2) := by decide +kernel
theorem d6_6 : decode jdk_52_method_15_code 6 = .ok (.iushr, 1) := by decide +kernel
theorem d6_7 : decode jdk_52_method_15_code 7 = .ok (.i2b, 1) := by decide +kernel
theorem d6_8 : decode jdk_52_method_15_code 8 = .ok (.ireturn, 1) := by decide +kernel
theorem rmCod2_ef (m : MethodId) (x0 : Addr) : entryFrame m #[(.ref x0), (.int (2 : Int32))] 2 = mkF m 0 #[.val (.ref x0), .val (.int (2 : Int32))] [] := by first | (simp [entryFrame, mkF, argsToLocals, Value.category]; done) | rfl
def QCod2 (Z : State) (b : Addr) (kb : ClassId) (vs : List Value) (h0 : Heap) (n0 : Nat) (v : Option Value) (h : Heap) (L : List Loc) : Prop := v = some (.int (0 : Int32)) ∧ Fr n0 L ∧ h = h0
set_option maxRecDepth 65536 in
set_option maxHeartbeats 40000000 in
theorem rmCod2 (l : Launch) (Z : State) (a0 : Array Value) (hw : ∀ d ∈ tables_1, d.before a0 Z = true) (ws : List Jvm.Cond) (b : Addr) (kb : ClassId) (vs : List Value) (h0 : Heap) (n0 : Nat) (Z0 : n0 ≤ h0.size) (Ab : Arv Z h0 b kb .byte (2 : Int32) vs (.int (0 : Int32))) :
    MetFree l (⟨"java/lang/StringUTF16", "coderFromArrayLen", "([BI)B"⟩ : MethodName) (head1 (Jvm.Cond.code (⟨"java/lang/StringUTF16", "coderFromArrayLen", "([BI)B"⟩ : MethodName) jdk_52_method_15_code 2 (some .byte) :: ws) ({ frames := 0, cells := 0, slots := 0, locals := 0 } : Room)) (fun aA' U => aA' = #[(.ref b), (.int (2 : Int32))] ∧ Z.Warmed39 U.vm ∧ U.heap = h0) (fun _ _ _ _ _ => True) (fun _ U oO' U' => ∃ vV' L, oO' = .returned vV' ∧ QCod2 Z b kb vs h0 n0 vV' U'.heap L ∧ FrameEnd U oO' U' L ({ frames := 0, cells := 0, slots := 0, locals := 0 } : Room).cells ({ frames := 0, cells := 0, slots := 0, locals := 0 } : Room).slots) := by
  refine MetFree.of_bodySF (plainFor_of_name own_pn2) hisR ?_
  intro p e s m args below meth c s₁ Bd hml0 hP hK
  obtain ⟨rfl, hZ, hh⟩ := hP
  have hx := Bd.exec
  have hby := Bd.bytes
  have hml : c.maxLocals = 2 := hml0
  have hown : s.vm.findClass "java/lang/StringUTF16" = some m.cls := findClass_of_methodNamed Bd.named
  have hnm := (name_of_methodNamed Bd.named Bd.method).1
  have X0 : Stand p l e ({ frames := 0, cells := 0, slots := 0, locals := 0 } : Room) s m #[(.ref b), (.int (2 : Int32))] below meth c s₁ [] 0 0 := Stand.of_body Bd
  have e0 : s₁.heap = h0 := by rw [← hh, Bd.state]; rfl
  have N0 := Fr.nil n0
  have K0 : Keep h0 h0 [] := Keep.refl _ _
  have k0 : ∀ t, Steps p.tables e below (s₁.setTop (mkF m 0 #[.val (.ref b), .val (.int (2 : Int32))] [])) t → Steps p.tables e below (s₁.setTop (entryFrame m #[(.ref b), (.int (2 : Int32))] 2)) t := fun t k => castTop (rmCod2_ef m (b)) k
  have k1 : ∀ t, Steps p.tables e below (s₁.setTop (mkF m 2 #[.val (.ref b), .val (.int (2 : Int32))] [(.ref b), (.int (2 : Int32))])) t → Steps p.tables e below (s₁.setTop (entryFrame m #[(.ref b), (.int (2 : Int32))] 2)) t := by
    intro t kt
    refine k0 t ?_
    show Steps p.tables e below (s₁.setTop (mkF m 0 #[.val (.ref b), .val (.int (2 : Int32))] [])) t
    refine XS.iloadN X0.here hx rfl (hb hby d6_0) rfl ?_
    show Steps p.tables e below (s₁.setTop (mkF m 1 #[.val (.ref b), .val (.int (2 : Int32))] [(.int (2 : Int32))])) t
    refine XS.aloadN X0.here hx rfl (hb hby d6_1) rfl rfl ?_
    exact kt
  obtain ⟨cl2, Ar2, -, S2, M2, -, -⟩ := id Ab
  have k3 : ∀ t, Steps p.tables e below (s₁.setTop (mkF m 3 #[.val (.ref b), .val (.int (2 : Int32))] [(.int (2 : Int32)), (.int (2 : Int32))])) t → Steps p.tables e below (s₁.setTop (entryFrame m #[(.ref b), (.int (2 : Int32))] 2)) t := fun t kt => k1 t (X0.arraylength hx (by rw [e0]; exact Ar2.1) (State.isArrayOf_alike hZ.alike Ar2.2.1) (g := (mkF m 2 #[.val (.ref b), .val (.int (2 : Int32))] [(.ref b), (.int (2 : Int32))])) rfl rfl (hb hby d6_2) t (by rw [len_of S2 M2]; exact kt))
  have k4 : ∀ t, Steps p.tables e below (s₁.setTop (mkF m 8 #[.val (.ref b), .val (.int (2 : Int32))] [(.int (((((2 : Int32) - (2 : Int32)).toUInt32 >>> ((31 : Int32) &&& 31).toUInt32).toInt32).toInt8.toInt32))])) t → Steps p.tables e below (s₁.setTop (entryFrame m #[(.ref b), (.int (2 : Int32))] 2)) t := by
    intro t kt
    refine k3 t ?_
    show Steps p.tables e below (s₁.setTop (mkF m 3 #[.val (.ref b), .val (.int (2 : Int32))] [(.int (2 : Int32)), (.int (2 : Int32))])) t
    refine XS.isub X0.here hx rfl (hb hby d6_3) rfl ?_
    show Steps p.tables e below (s₁.setTop (mkF m 4 #[.val (.ref b), .val (.int (2 : Int32))] [(.int ((2 : Int32) - (2 : Int32)))])) t
    refine XS.bipush X0.here hx rfl (hb hby d6_4) ?_
    show Steps p.tables e below (s₁.setTop (mkF m 6 #[.val (.ref b), .val (.int (2 : Int32))] [(.int (31 : Int32)), (.int ((2 : Int32) - (2 : Int32)))])) t
    refine XS.iushr X0.here hx rfl (hb hby d6_6) rfl ?_
    show Steps p.tables e below (s₁.setTop (mkF m 7 #[.val (.ref b), .val (.int (2 : Int32))] [(.int ((((2 : Int32) - (2 : Int32)).toUInt32 >>> ((31 : Int32) &&& 31).toUInt32).toInt32))])) t
    refine XS.i2b X0.here hx rfl (hb hby d6_7) rfl ?_
    exact kt
  obtain ⟨fs, hr, hrun, hended, hW, hsame⟩ := X0.leave (v := some (.int ((((((2 : Int32) - (2 : Int32)).toUInt32 >>> ((31 : Int32) &&& 31).toUInt32).toInt32).toInt8.toInt32).toInt8.toInt32))) (fun h => by rw [Bd.returns] at h; cases h)
  refine ⟨_, _, k4 _ ?_, hrun, hended, _, _, rfl, ?_, ⟨_, rfl⟩, hW, hsame.mono (by decide) (by decide)⟩
  · show Steps p.tables e below (s₁.setTop (mkF m 8 #[.val (.ref b), .val (.int (2 : Int32))] [(.int (((((2 : Int32) - (2 : Int32)).toUInt32 >>> ((31 : Int32) &&& 31).toUInt32).toInt32).toInt8.toInt32))])) _
    exact retN X0 hx (t := .byte) Bd.returns (by simp) (hb hby d6_8) hr
  · show QCod2 Z b kb vs h0 n0 _ s₁.heap _
    rw [e0]
    exact ⟨congrArg (fun z => some (Value.int z)) (by decide), N0, rfl⟩
theorem d2_0 : decode jdk_42_method_149_code 0 = .ok (.aload_n 0, 1) := by decide +kernel
theorem d2_1 : decode jdk_42_method_149_code 1 = .ok (.invokespecial 1, 3) := by decide +kernel
theorem d2_4 : decode jdk_42_method_149_code 4 = .ok (.iload_n 3, 1) := by decide +kernel
theorem d2_5 : decode jdk_42_method_149_code 5 = .ok (.ifCond .ne 22, 3) := by decide +kernel
theorem d2_8 : decode jdk_42_method_149_code 8 = .ok (.aload_n 0, 1) := by decide +kernel
theorem d2_9 : decode jdk_42_method_149_code 9 = .ok (.ldc 7, 2) := by decide +kernel
theorem d2_11 : decode jdk_42_method_149_code 11 = .ok (.getfield 9, 3) := by decide +kernel
theorem d2_14 : decode jdk_42_method_149_code 14 = .ok (.putfield 9, 3) := by decide +kernel
theorem d2_17 : decode jdk_42_method_149_code 17 = .ok (.aload_n 0, 1) := by decide +kernel
theorem d2_18 : decode jdk_42_method_149_code 18 = .ok (.ldc 7, 2) := by decide +kernel
theorem d2_20 : decode jdk_42_method_149_code 20 = .ok (.getfield 15, 3) := by decide +kernel
theorem d2_23 : decode jdk_42_method_149_code 23 = .ok (.putfield 15, 3) := by decide +kernel
theorem d2_26 : decode jdk_42_method_149_code 26 = .ok (.return_, 1) := by decide +kernel
theorem d2_27 : decode jdk_42_method_149_code 27 = .ok (.getstatic 38, 3) := by decide +kernel
theorem d2_30 : decode jdk_42_method_149_code 30 = .ok (.ifCond .eq 28, 3) := by decide +kernel
theorem d2_33 : decode jdk_42_method_149_code 33 = .ok (.aload_n 1, 1) := by decide +kernel
theorem d2_34 : decode jdk_42_method_149_code 34 = .ok (.iload_n 2, 1) := by decide +kernel
theorem d2_35 : decode jdk_42_method_149_code 35 = .ok (.iload_n 3, 1) := by decide +kernel
theorem d2_36 : decode jdk_42_method_149_code 36 = .ok (.invokestatic 177, 3) := by decide +kernel
theorem d2_39 : decode jdk_42_method_149_code 39 = .ok (.astore 5, 2) := by decide +kernel
theorem d2_41 : decode jdk_42_method_149_code 41 = .ok (.aload_n 0, 1) := by decide +kernel
theorem d2_42 : decode jdk_42_method_149_code 42 = .ok (.aload 5, 2) := by decide +kernel
theorem d2_44 : decode jdk_42_method_149_code 44 = .ok (.iload_n 3, 1) := by decide +kernel
theorem d2_45 : decode jdk_42_method_149_code 45 = .ok (.invokestatic 47, 3) := by decide +kernel
theorem d2_48 : decode jdk_42_method_149_code 48 = .ok (.putfield 15, 3) := by decide +kernel
theorem d2_51 : decode jdk_42_method_149_code 51 = .ok (.aload_n 0, 1) := by decide +kernel
theorem d2_52 : decode jdk_42_method_149_code 52 = .ok (.aload 5, 2) := by decide +kernel
theorem d2_54 : decode jdk_42_method_149_code 54 = .ok (.putfield 9, 3) := by decide +kernel
theorem d2_57 : decode jdk_42_method_149_code 57 = .ok (.return_, 1) := by decide +kernel
theorem d2_58 : decode jdk_42_method_149_code 58 = .ok (.aload_n 0, 1) := by decide +kernel
theorem d2_59 : decode jdk_42_method_149_code 59 = .ok (.iconst 1, 1) := by decide +kernel
theorem d2_60 : decode jdk_42_method_149_code 60 = .ok (.putfield 15, 3) := by decide +kernel
theorem d2_63 : decode jdk_42_method_149_code 63 = .ok (.aload_n 0, 1) := by decide +kernel
theorem d2_64 : decode jdk_42_method_149_code 64 = .ok (.aload_n 1, 1) := by decide +kernel
theorem d2_65 : decode jdk_42_method_149_code 65 = .ok (.iload_n 2, 1) := by decide +kernel
theorem d2_66 : decode jdk_42_method_149_code 66 = .ok (.iload_n 3, 1) := by decide +kernel
theorem d2_67 : decode jdk_42_method_149_code 67 = .ok (.invokestatic 180, 3) := by decide +kernel
theorem d2_70 : decode jdk_42_method_149_code 70 = .ok (.putfield 9, 3) := by decide +kernel
theorem d2_73 : decode jdk_42_method_149_code 73 = .ok (.return_, 1) := by decide +kernel
theorem rmSv2_ef (m : MethodId) (x0 : Addr) (x1 : Addr) : entryFrame m #[(.ref x0), (.ref x1), (.int (0 : Int32)), (.int (2 : Int32)), .null] 6 = mkF m 0 #[.val (.ref x0), .val (.ref x1), .val (.int (0 : Int32)), .val (.int (2 : Int32)), .val .null, .unset] [] := by first | (simp [entryFrame, mkF, argsToLocals, Value.category]; done) | rfl
def QSv2 (Z : State) (ths : Addr) (a : Addr) (u : Value) (u' : Value) (ka : ClassId) (cs : Int32) (ch0 : Int32) (ch1 : Int32) (h0 : Heap) (n0 : Nat) (v : Option Value) (h : Heap) (L : List Loc) : Prop := v = none ∧ Fr n0 L ∧ Keep h0 h [ths] ∧ Exa Z h ths "java/lang/String" ∧ ∃ (b : Addr) (kb : ClassId), h0.size ≤ b ∧ Fld Z h ths "java/lang/String" "value" "[B" (.ref b) ∧ Fld Z h ths "java/lang/String" "coder" "B" (.int (0 : Int32)) ∧ Arv Z h b kb .byte (2 : Int32) [(.int (ch0.toInt8.toInt32)), (.int (ch1.toInt8.toInt32))] (.int (0 : Int32))
theorem own_pd4 : parseMethodDescriptor "([CII)[B" = some ⟨[(.array .char), .int, .int], some (.array .byte)⟩ := by decide +kernel
theorem own_pd5 : parseMethodDescriptor "([BI)B" = some ⟨[(.array .byte), .int], some .byte⟩ := by decide +kernel
set_option maxRecDepth 65536 in
set_option maxHeartbeats 40000000 in
theorem rmSv2 (l : Launch) (Z : State) (a0 : Array Value) (hw : ∀ d ∈ tables_1, d.before a0 Z = true) (ws : List Jvm.Cond) (ths : Addr) (a : Addr) (u : Value) (u' : Value) (ka : ClassId) (cs : Int32) (ch0 : Int32) (ch1 : Int32) (h0 : Heap) (n0 : Nat) (Z0 : n0 ≤ h0.size) (Fv : Fld Z h0 ths "java/lang/String" "value" "[B" u) (Fc : Fld Z h0 ths "java/lang/String" "coder" "B" u') (Et : Exa Z h0 ths "java/lang/String") (g_t : n0 ≤ ths) (net : ths ≠ a) (Aa : Arv Z h0 a ka .char (2 : Int32) [(.int ch0), (.int ch1)] (.int (0 : Int32))) (SC : Sta Z h0 "java/lang/String" "COMPACT_STRINGS" "Z" (.int cs)) (hcs : ¬ (cs = (0 : Int32))) (hch0 : ¬ ((255 : Int32) < ch0)) (hch1 : ¬ ((255 : Int32) < ch1)) :
    MetFree l (⟨"java/lang/String", "<init>", "([CIILjava/lang/Void;)V"⟩ : MethodName) (head1 (Jvm.Cond.code (⟨"java/lang/String", "<init>", "([CIILjava/lang/Void;)V"⟩ : MethodName) jdk_42_method_149_code 6 none :: ws) ({ frames := 2, cells := 1, slots := 2, locals := 35 } : Room)) (fun aA' U => aA' = #[(.ref ths), (.ref a), (.int (0 : Int32)), (.int (2 : Int32)), .null] ∧ Z.Warmed39 U.vm ∧ U.heap = h0) (fun _ _ _ _ _ => True) (fun _ U oO' U' => ∃ vV' L, oO' = .returned vV' ∧ QSv2 Z ths a u u' ka cs ch0 ch1 h0 n0 vV' U'.heap L ∧ FrameEnd U oO' U' L ({ frames := 2, cells := 1, slots := 2, locals := 35 } : Room).cells ({ frames := 2, cells := 1, slots := 2, locals := 35 } : Room).slots) := by
  refine MetFree.of_bodySF (plainFor_of_name own_pn1) hisR ?_
  intro p e s m args below meth c s₁ Bd hml0 hP hK
  obtain ⟨rfl, hZ, hh⟩ := hP
  have hx := Bd.exec
  have hby := Bd.bytes
  have hml : c.maxLocals = 6 := hml0
  have hown : s.vm.findClass "java/lang/String" = some m.cls := findClass_of_methodNamed Bd.named
  have hnm := (name_of_methodNamed Bd.named Bd.method).1
  have X0 : Stand p l e ({ frames := 2, cells := 1, slots := 2, locals := 35 } : Room) s m #[(.ref ths), (.ref a), (.int (0 : Int32)), (.int (2 : Int32)), .null] below meth c s₁ [] 0 0 := Stand.of_body Bd
  have e0 : s₁.heap = h0 := by rw [← hh, Bd.state]; rfl
  have N0 := Fr.nil n0
  have K0 : Keep h0 h0 [ths] := Keep.refl _ _
  have k0 : ∀ t, Steps p.tables e below (s₁.setTop (mkF m 0 #[.val (.ref ths), .val (.ref a), .val (.int (0 : Int32)), .val (.int (2 : Int32)), .val .null, .unset] [])) t → Steps p.tables e below (s₁.setTop (entryFrame m #[(.ref ths), (.ref a), (.int (0 : Int32)), (.int (2 : Int32)), .null] 6)) t := fun t k => castTop (rmSv2_ef m (ths) (a)) k
  have k1 : ∀ t, Steps p.tables e below (s₁.setTop (mkF m 1 #[.val (.ref ths), .val (.ref a), .val (.int (0 : Int32)), .val (.int (2 : Int32)), .val .null, .unset] [(.ref ths)])) t → Steps p.tables e below (s₁.setTop (entryFrame m #[(.ref ths), (.ref a), (.int (0 : Int32)), (.int (2 : Int32)), .null] 6)) t := by
    intro t kt
    refine k0 t ?_
    show Steps p.tables e below (s₁.setTop (mkF m 0 #[.val (.ref ths), .val (.ref a), .val (.int (0 : Int32)), .val (.int (2 : Int32)), .val .null, .unset] [])) t
    refine XS.aloadN X0.here hx rfl (hb hby d2_0) rfl rfl ?_
    exact kt
  obtain ⟨T2, X2, e2, st2⟩ := initO X0 hx hZ hown (hw _ (List.mem_of_getElem? (i := 11) rfl)) (hw _ (List.mem_of_getElem? (i := 12) rfl)) (hw _ (List.mem_of_getElem? (i := 13) rfl)) e0 (g := (mkF m 1 #[.val (.ref ths), .val (.ref a), .val (.int (0 : Int32)), .val (.int (2 : Int32)), .val .null, .unset] [(.ref ths)])) rfl (by rw [hml]; rfl) rfl (hb hby d2_1) (by decide) (W := 0) (by show 2 * 0 + _ ≤ _; exact Nat.le_of_eq rfl) (by decide)
  have k3 : ∀ t, Steps p.tables e below (T2.setTop (mkF m 4 #[.val (.ref ths), .val (.ref a), .val (.int (0 : Int32)), .val (.int (2 : Int32)), .val .null, .unset] [])) t → Steps p.tables e below (s₁.setTop (entryFrame m #[(.ref ths), (.ref a), (.int (0 : Int32)), (.int (2 : Int32)), .null] 6)) t := fun t kt => k1 t (st2 t kt)
  have hc5_4 : ¬ ((2 : Int32) = (0 : Int32)) := by decide
  have k5 : ∀ t, Steps p.tables e below (T2.setTop (mkF m 27 #[.val (.ref ths), .val (.ref a), .val (.int (0 : Int32)), .val (.int (2 : Int32)), .val .null, .unset] [])) t → Steps p.tables e below (s₁.setTop (entryFrame m #[(.ref ths), (.ref a), (.int (0 : Int32)), (.int (2 : Int32)), .null] 6)) t := by
    intro t kt
    refine k3 t ?_
    show Steps p.tables e below (T2.setTop (mkF m 4 #[.val (.ref ths), .val (.ref a), .val (.int (0 : Int32)), .val (.int (2 : Int32)), .val .null, .unset] [])) t
    refine XS.iloadN X2.here hx rfl (hb hby d2_4) rfl ?_
    show Steps p.tables e below (T2.setTop (mkF m 5 #[.val (.ref ths), .val (.ref a), .val (.int (0 : Int32)), .val (.int (2 : Int32)), .val .null, .unset] [(.int (2 : Int32))])) t
    refine XS.ifYes X2.here hx rfl (pc0 := 5) (pc' := 27) rfl (hb hby d2_5) rfl ((if0 _ _).trans (feq hc5_4).2) (by decide) (by decide) ?_
    exact kt
  obtain ⟨T6, X6, e6, st6⟩ := getS2 X2 hx hZ hown (host := "") (Or.inl (hw _ (List.mem_of_getElem? (i := 14) rfl))) Via.refl e2 SC (g := (mkF m 27 #[.val (.ref ths), .val (.ref a), .val (.int (0 : Int32)), .val (.int (2 : Int32)), .val .null, .unset] [])) rfl (hb hby d2_27)
  have k7 : ∀ t, Steps p.tables e below (T6.setTop (mkF m 30 #[.val (.ref ths), .val (.ref a), .val (.int (0 : Int32)), .val (.int (2 : Int32)), .val .null, .unset] [(.int cs)])) t → Steps p.tables e below (s₁.setTop (entryFrame m #[(.ref ths), (.ref a), (.int (0 : Int32)), (.int (2 : Int32)), .null] 6)) t := fun t kt => k5 t (st6 t kt)
  have k9 : ∀ t, Steps p.tables e below (T6.setTop (mkF m 36 #[.val (.ref ths), .val (.ref a), .val (.int (0 : Int32)), .val (.int (2 : Int32)), .val .null, .unset] [(.int (2 : Int32)), (.int (0 : Int32)), (.ref a)])) t → Steps p.tables e below (s₁.setTop (entryFrame m #[(.ref ths), (.ref a), (.int (0 : Int32)), (.int (2 : Int32)), .null] 6)) t := by
    intro t kt
    refine k7 t ?_
    show Steps p.tables e below (T6.setTop (mkF m 30 #[.val (.ref ths), .val (.ref a), .val (.int (0 : Int32)), .val (.int (2 : Int32)), .val .null, .unset] [(.int cs)])) t
    refine XS.ifNo X6.here hx rfl (hb hby d2_30) rfl ((if0 _ _).trans (feq hcs).1) ?_
    show Steps p.tables e below (T6.setTop (mkF m 33 #[.val (.ref ths), .val (.ref a), .val (.int (0 : Int32)), .val (.int (2 : Int32)), .val .null, .unset] [])) t
    refine XS.aloadN X6.here hx rfl (hb hby d2_33) rfl rfl ?_
    show Steps p.tables e below (T6.setTop (mkF m 34 #[.val (.ref ths), .val (.ref a), .val (.int (0 : Int32)), .val (.int (2 : Int32)), .val .null, .unset] [(.ref a)])) t
    refine XS.iloadN X6.here hx rfl (hb hby d2_34) rfl ?_
    show Steps p.tables e below (T6.setTop (mkF m 35 #[.val (.ref ths), .val (.ref a), .val (.int (0 : Int32)), .val (.int (2 : Int32)), .val .null, .unset] [(.int (0 : Int32)), (.ref a)])) t
    refine XS.iloadN X6.here hx rfl (hb hby d2_35) rfl ?_
    exact kt
  obtain ⟨_, _, ⟨T10, L10, k10c, n10⟩, -, X10, ⟨Lc10, hQ10, l10, y10, z10⟩, st10⟩ := Jvm.LawKit.callS X6 hx (y := (⟨"java/lang/StringUTF16", "compress", "([CII)[B"⟩ : MethodName)) hown (mvT hZ (hw _ (List.mem_of_getElem? (i := 15) rfl))) (mvT hZ (hw _ (List.mem_of_getElem? (i := 16) rfl))) (mvT hZ (hw _ (List.mem_of_getElem? (i := 17) rfl))) (mvT hZ (hw _ (List.mem_of_getElem? (i := 18) rfl))) (by decide) (backOf (W := 0) (rmCps2 l Z a0 hw [] a ka ch0 ch1 h0 n0 Z0 Aa hch0 hch1) hZ (hw _ (List.mem_of_getElem? (i := 18) rfl)) (hw _ (List.mem_of_getElem? (i := 17) rfl)) (by decide) (by decide)) (g := (mkF m 36 #[.val (.ref ths), .val (.ref a), .val (.int (0 : Int32)), .val (.int (2 : Int32)), .val .null, .unset] [(.int (2 : Int32)), (.int (0 : Int32)), (.ref a)])) rfl (by rw [hml]; rfl) (argsL := [(.ref a), (.int (0 : Int32)), (.int (2 : Int32))]) (rest := []) (lenOf own_pd4 rfl) rfl (by show 2 * 0 + _ ≤ _; exact Nat.le_of_eq rfl) (hb hby d2_36) (fun _ _ => ⟨rfl, e6, (by decide : 0 + 1 ≤ _), (by decide : 0 + 2 ≤ _)⟩)
  dsimp only [Pt.U, Pt.locs, Pt.cells, Pt.slots] at X10 l10 y10 z10 st10 hQ10
  subst l10 y10 z10
  obtain ⟨b10, c10k, rfl, N10q, K10k, s10z, A10⟩ := hQ10
  have N10 := Fr.app N0 N10q
  have g_b10 : n0 ≤ b10 := Nat.le_trans Z0 s10z
  have sz_b10 : h0.size ≤ b10 := Nat.le_trans K0.1 s10z
  have ne11 : ths ≠ b10 := Nat.ne_of_lt (Nat.lt_of_lt_of_le Fv.lt s10z)
  have ne12 : a ≠ b10 := Nat.ne_of_lt (Nat.lt_of_lt_of_le Aa.lt s10z)
  have F13 := Fv.keep K10k nin0
  have F14 := Fc.keep K10k nin0
  have F15 := Et.keep K10k
  have F16 := Aa.keep K10k nin0
  have Z18 : n0 ≤ T10.heap.size := Nat.le_trans Z0 K10k.1
  have K18 : Keep h0 T10.heap [ths] := K0.trans K10k all0
  have k19 : ∀ t, Steps p.tables e below (T10.setTop (mkF m 39 #[.val (.ref ths), .val (.ref a), .val (.int (0 : Int32)), .val (.int (2 : Int32)), .val .null, .unset] [(.ref b10)])) t → Steps p.tables e below (s₁.setTop (entryFrame m #[(.ref ths), (.ref a), (.int (0 : Int32)), (.int (2 : Int32)), .null] 6)) t := fun t kt => k9 t (st10 t kt)
  have k20 : ∀ t, Steps p.tables e below (T10.setTop (mkF m 45 #[.val (.ref ths), .val (.ref a), .val (.int (0 : Int32)), .val (.int (2 : Int32)), .val .null, .val (.ref b10)] [(.int (2 : Int32)), (.ref b10), (.ref ths)])) t → Steps p.tables e below (s₁.setTop (entryFrame m #[(.ref ths), (.ref a), (.int (0 : Int32)), (.int (2 : Int32)), .null] 6)) t := by
    intro t kt
    refine k19 t ?_
    show Steps p.tables e below (T10.setTop (mkF m 39 #[.val (.ref ths), .val (.ref a), .val (.int (0 : Int32)), .val (.int (2 : Int32)), .val .null, .unset] [(.ref b10)])) t
    refine XS.astore X10.here hx rfl (hb hby d2_39) rfl rfl (l' := #[.val (.ref ths), .val (.ref a), .val (.int (0 : Int32)), .val (.int (2 : Int32)), .val .null, .val (.ref b10)]) rfl ?_
    show Steps p.tables e below (T10.setTop (mkF m 41 #[.val (.ref ths), .val (.ref a), .val (.int (0 : Int32)), .val (.int (2 : Int32)), .val .null, .val (.ref b10)] [])) t
    refine XS.aloadN X10.here hx rfl (hb hby d2_41) rfl rfl ?_
    show Steps p.tables e below (T10.setTop (mkF m 42 #[.val (.ref ths), .val (.ref a), .val (.int (0 : Int32)), .val (.int (2 : Int32)), .val .null, .val (.ref b10)] [(.ref ths)])) t
    refine XS.aload X10.here hx rfl (hb hby d2_42) rfl rfl ?_
    show Steps p.tables e below (T10.setTop (mkF m 44 #[.val (.ref ths), .val (.ref a), .val (.int (0 : Int32)), .val (.int (2 : Int32)), .val .null, .val (.ref b10)] [(.ref b10), (.ref ths)])) t
    refine XS.iloadN X10.here hx rfl (hb hby d2_44) rfl ?_
    exact kt
  obtain ⟨_, _, ⟨T21, L21, k21c, n21⟩, -, X21, ⟨Lc21, hQ21, l21, y21, z21⟩, st21⟩ := Jvm.LawKit.callS X10 hx (y := (⟨"java/lang/StringUTF16", "coderFromArrayLen", "([BI)B"⟩ : MethodName)) hown (mvT hZ (hw _ (List.mem_of_getElem? (i := 23) rfl))) (mvT hZ (hw _ (List.mem_of_getElem? (i := 24) rfl))) (mvT hZ (hw _ (List.mem_of_getElem? (i := 17) rfl))) (mvT hZ (hw _ (List.mem_of_getElem? (i := 25) rfl))) (by decide) (backOf (W := 1) (rmCod2 l Z a0 hw [] b10 c10k [(.int (ch0.toInt8.toInt32)), (.int (ch1.toInt8.toInt32))] T10.heap n0 Z18 A10) hZ (hw _ (List.mem_of_getElem? (i := 25) rfl)) (hw _ (List.mem_of_getElem? (i := 17) rfl)) (by decide) (by decide)) (g := (mkF m 45 #[.val (.ref ths), .val (.ref a), .val (.int (0 : Int32)), .val (.int (2 : Int32)), .val .null, .val (.ref b10)] [(.int (2 : Int32)), (.ref b10), (.ref ths)])) rfl (by rw [hml]; rfl) (argsL := [(.ref b10), (.int (2 : Int32))]) (rest := [(.ref ths)]) (lenOf own_pd5 rfl) rfl (by show 2 * 0 + _ ≤ _; exact Nat.le_of_eq rfl) (hb hby d2_45) (fun _ _ => ⟨rfl, rfl, (by decide : 1 + 0 ≤ _), (by decide : 2 + 0 ≤ _)⟩)
  dsimp only [Pt.U, Pt.locs, Pt.cells, Pt.slots] at X21 l21 y21 z21 st21 hQ21
  subst l21 y21 z21
  obtain ⟨rfl, N21q, e21⟩ := hQ21
  have N21 := Fr.app N10 N21q
  have k22 : ∀ t, Steps p.tables e below (T21.setTop (mkF m 48 #[.val (.ref ths), .val (.ref a), .val (.int (0 : Int32)), .val (.int (2 : Int32)), .val .null, .val (.ref b10)] [(.int (0 : Int32)), (.ref ths)])) t → Steps p.tables e below (s₁.setTop (entryFrame m #[(.ref ths), (.ref a), (.int (0 : Int32)), (.int (2 : Int32)), .null] 6)) t := fun t kt => k20 t (st21 t kt)
  obtain ⟨T23, h23, X23, e23, W23, st23⟩ := putFN X21 hx hZ hown (hw _ (List.mem_of_getElem? (i := 26) rfl)) Via.refl e21 F14 F15 (Or.inr ⟨(hw _ (List.mem_of_getElem? (i := 27) rfl)), rfl, hnm⟩) (hw _ (List.mem_of_getElem? (i := 2) rfl)) (ty := .byte) (v' := (.int (0 : Int32))) (by decide) rfl (by decide) (g := (mkF m 48 #[.val (.ref ths), .val (.ref a), .val (.int (0 : Int32)), .val (.int (2 : Int32)), .val .null, .val (.ref b10)] [(.int (0 : Int32)), (.ref ths)])) rfl rfl (hb hby d2_48)
  have F24 := F13.other W23 (Or.inr (slot_ne (Or.inr (hw _ (List.mem_of_getElem? (i := 29) rfl))) (Or.inr (hw _ (List.mem_of_getElem? (i := 27) rfl))) (by decide) (t := (.array .byte)) (t' := .byte) (by decide) (by decide)))
  have F25 := F14.same W23
  have F26 := F15.wr W23
  have F27 := F16.other W23 (Ne.symm net)
  have F28 := A10.other W23 (Ne.symm ne11)
  have Z23 : n0 ≤ h23.size := Nat.le_trans Z18 (Keep.of_wr W23).1
  have K23 : Keep h0 h23 [ths] := K18.wr W23 (Or.inl (List.mem_of_getElem? (i := 0) rfl))
  have N23 := Fr.snoc X23 N21 g_t
  have k29 : ∀ t, Steps p.tables e below (T23.setTop (mkF m 51 #[.val (.ref ths), .val (.ref a), .val (.int (0 : Int32)), .val (.int (2 : Int32)), .val .null, .val (.ref b10)] [])) t → Steps p.tables e below (s₁.setTop (entryFrame m #[(.ref ths), (.ref a), (.int (0 : Int32)), (.int (2 : Int32)), .null] 6)) t := fun t kt => k22 t (st23 t kt)
  have k30 : ∀ t, Steps p.tables e below (T23.setTop (mkF m 54 #[.val (.ref ths), .val (.ref a), .val (.int (0 : Int32)), .val (.int (2 : Int32)), .val .null, .val (.ref b10)] [(.ref b10), (.ref ths)])) t → Steps p.tables e below (s₁.setTop (entryFrame m #[(.ref ths), (.ref a), (.int (0 : Int32)), (.int (2 : Int32)), .null] 6)) t := by
    intro t kt
    refine k29 t ?_
    show Steps p.tables e below (T23.setTop (mkF m 51 #[.val (.ref ths), .val (.ref a), .val (.int (0 : Int32)), .val (.int (2 : Int32)), .val .null, .val (.ref b10)] [])) t
    refine XS.aloadN X23.here hx rfl (hb hby d2_51) rfl rfl ?_
    show Steps p.tables e below (T23.setTop (mkF m 52 #[.val (.ref ths), .val (.ref a), .val (.int (0 : Int32)), .val (.int (2 : Int32)), .val .null, .val (.ref b10)] [(.ref ths)])) t
    refine XS.aload X23.here hx rfl (hb hby d2_52) rfl rfl ?_
    exact kt
  obtain ⟨T31, h31, X31, e31, W31, st31⟩ := putF X23 hx hZ hown (host := "") (Or.inl (hw _ (List.mem_of_getElem? (i := 28) rfl))) Via.refl e23 F24 F26 (Or.inr ⟨(hw _ (List.mem_of_getElem? (i := 29) rfl)), rfl, hnm⟩) (hw _ (List.mem_of_getElem? (i := 2) rfl)) (ty := (.array .byte)) (by decide) rfl rfl (g := (mkF m 54 #[.val (.ref ths), .val (.ref a), .val (.int (0 : Int32)), .val (.int (2 : Int32)), .val .null, .val (.ref b10)] [(.ref b10), (.ref ths)])) rfl rfl (hb hby d2_54)
  have F32 := F24.same W31
  have F33 := F25.other W31 (Or.inr (slot_ne (Or.inr (hw _ (List.mem_of_getElem? (i := 27) rfl))) (Or.inr (hw _ (List.mem_of_getElem? (i := 29) rfl))) (by decide) (t := .byte) (t' := (.array .byte)) (by decide) (by decide)))
  have F34 := F26.wr W31
  have F35 := F27.other W31 (Ne.symm net)
  have F36 := F28.other W31 (Ne.symm ne11)
  have Z31 : n0 ≤ h31.size := Nat.le_trans Z23 (Keep.of_wr W31).1
  have K31 : Keep h0 h31 [ths] := K23.wr W31 (Or.inl (List.mem_of_getElem? (i := 0) rfl))
  have N31 := Fr.snoc X31 N23 g_t
  have k37 : ∀ t, Steps p.tables e below (T31.setTop (mkF m 57 #[.val (.ref ths), .val (.ref a), .val (.int (0 : Int32)), .val (.int (2 : Int32)), .val .null, .val (.ref b10)] [])) t → Steps p.tables e below (s₁.setTop (entryFrame m #[(.ref ths), (.ref a), (.int (0 : Int32)), (.int (2 : Int32)), .null] 6)) t := fun t kt => k30 t (st31 t kt)
  obtain ⟨fs, hr, hrun, hended, hW, hsame⟩ := X31.leave (v := none) (fun _ => rfl)
  refine ⟨_, _, k37 _ ?_, hrun, hended, _, _, rfl, ?_, ⟨_, rfl⟩, hW, hsame.mono (by decide) (by decide)⟩
  · show Steps p.tables e below (T31.setTop (mkF m 57 #[.val (.ref ths), .val (.ref a), .val (.int (0 : Int32)), .val (.int (2 : Int32)), .val .null, .val (.ref b10)] [])) _
    exact X31.returnOut hx Bd.returns (hb hby d2_57) hr
  · show QSv2 Z ths a u u' ka cs ch0 ch1 h0 n0 _ T31.heap _
    rw [e31]
    exact ⟨rfl, N31, K31, F34, b10, c10k, sz_b10, F32, F33, F36⟩
theorem d1_0 : decode jdk_42_method_3_code 0 = .ok (.aload_n 0, 1) := by decide +kernel
theorem d1_1 : decode jdk_42_method_3_code 1 = .ok (.aload_n 1, 1) := by decide +kernel
theorem d1_2 : decode jdk_42_method_3_code 2 = .ok (.iconst 0, 1) := by decide +kernel
theorem d1_3 : decode jdk_42_method_3_code 3 = .ok (.aload_n 1, 1) := by decide +kernel
theorem d1_4 : decode jdk_42_method_3_code 4 = .ok (.arraylength, 1) := by decide +kernel
theorem d1_5 : decode jdk_42_method_3_code 5 = .ok (.aconst_null, 1) := by decide +kernel
theorem d1_6 : decode jdk_42_method_3_code 6 = .ok (.invokespecial 27, 3) := by decide +kernel
theorem d1_9 : decode jdk_42_method_3_code 9 = .ok (.return_, 1) := by decide +kernel
theorem rmSi2_ef (m : MethodId) (x0 : Addr) (x1 : Addr) : entryFrame m #[(.ref x0), (.ref x1)] 2 = mkF m 0 #[.val (.ref x0), .val (.ref x1)] [] := by first | (simp [entryFrame, mkF, argsToLocals, Value.category]; done) | rfl
def QSi2 (Z : State) (ths : Addr) (a : Addr) (u : Value) (u' : Value) (ka : ClassId) (cs : Int32) (ch0 : Int32) (ch1 : Int32) (h0 : Heap) (n0 : Nat) (v : Option Value) (h : Heap) (L : List Loc) : Prop := v = none ∧ Fr n0 L ∧ Keep h0 h [ths] ∧ Exa Z h ths "java/lang/String" ∧ ∃ (b : Addr) (kb : ClassId), h0.size ≤ b ∧ Fld Z h ths "java/lang/String" "value" "[B" (.ref b) ∧ Fld Z h ths "java/lang/String" "coder" "B" (.int (0 : Int32)) ∧ Arv Z h b kb .byte (2 : Int32) [(.int (ch0.toInt8.toInt32)), (.int (ch1.toInt8.toInt32))] (.int (0 : Int32))
theorem own_pd6 : parseMethodDescriptor "([CIILjava/lang/Void;)V" = some ⟨[(.array .char), .int, .int, (.object "java/lang/Void")], none⟩ := by decide +kernel
set_option maxRecDepth 65536 in
set_option maxHeartbeats 40000000 in
theorem rmSi2 (l : Launch) (Z : State) (a0 : Array Value) (hw : ∀ d ∈ tables_1, d.before a0 Z = true) (ws : List Jvm.Cond) (ths : Addr) (a : Addr) (u : Value) (u' : Value) (ka : ClassId) (cs : Int32) (ch0 : Int32) (ch1 : Int32) (h0 : Heap) (n0 : Nat) (Z0 : n0 ≤ h0.size) (Fv : Fld Z h0 ths "java/lang/String" "value" "[B" u) (Fc : Fld Z h0 ths "java/lang/String" "coder" "B" u') (Et : Exa Z h0 ths "java/lang/String") (g_t : n0 ≤ ths) (net : ths ≠ a) (Aa : Arv Z h0 a ka .char (2 : Int32) [(.int ch0), (.int ch1)] (.int (0 : Int32))) (SC : Sta Z h0 "java/lang/String" "COMPACT_STRINGS" "Z" (.int cs)) (hcs : ¬ (cs = (0 : Int32))) (hch0 : ¬ ((255 : Int32) < ch0)) (hch1 : ¬ ((255 : Int32) < ch1)) :
    MetFree l (⟨"java/lang/String", "<init>", "([C)V"⟩ : MethodName) (head1 (Jvm.Cond.code (⟨"java/lang/String", "<init>", "([C)V"⟩ : MethodName) jdk_42_method_3_code 2 none :: ws) ({ frames := 3, cells := 1, slots := 2, locals := 52 } : Room)) (fun aA' U => aA' = #[(.ref ths), (.ref a)] ∧ Z.Warmed39 U.vm ∧ U.heap = h0) (fun _ _ _ _ _ => True) (fun _ U oO' U' => ∃ vV' L, oO' = .returned vV' ∧ QSi2 Z ths a u u' ka cs ch0 ch1 h0 n0 vV' U'.heap L ∧ FrameEnd U oO' U' L ({ frames := 3, cells := 1, slots := 2, locals := 52 } : Room).cells ({ frames := 3, cells := 1, slots := 2, locals := 52 } : Room).slots) := by
  refine MetFree.of_bodySF (plainFor_of_name own_pn1) hisR ?_
  intro p e s m args below meth c s₁ Bd hml0 hP hK
  obtain ⟨rfl, hZ, hh⟩ := hP
  have hx := Bd.exec
  have hby := Bd.bytes
  have hml : c.maxLocals = 2 := hml0
  have hown : s.vm.findClass "java/lang/String" = some m.cls := findClass_of_methodNamed Bd.named
  have hnm := (name_of_methodNamed Bd.named Bd.method).1
  have X0 : Stand p l e ({ frames := 3, cells := 1, slots := 2, locals := 52 } : Room) s m #[(.ref ths), (.ref a)] below meth c s₁ [] 0 0 := Stand.of_body Bd
  have e0 : s₁.heap = h0 := by rw [← hh, Bd.state]; rfl
  have N0 := Fr.nil n0
  have K0 : Keep h0 h0 [ths] := Keep.refl _ _
  have k0 : ∀ t, Steps p.tables e below (s₁.setTop (mkF m 0 #[.val (.ref ths), .val (.ref a)] [])) t → Steps p.tables e below (s₁.setTop (entryFrame m #[(.ref ths), (.ref a)] 2)) t := fun t k => castTop (rmSi2_ef m (ths) (a)) k
  have k1 : ∀ t, Steps p.tables e below (s₁.setTop (mkF m 4 #[.val (.ref ths), .val (.ref a)] [(.ref a), (.int (0 : Int32)), (.ref a), (.ref ths)])) t → Steps p.tables e below (s₁.setTop (entryFrame m #[(.ref ths), (.ref a)] 2)) t := by
    intro t kt
    refine k0 t ?_
    show Steps p.tables e below (s₁.setTop (mkF m 0 #[.val (.ref ths), .val (.ref a)] [])) t
    refine XS.aloadN X0.here hx rfl (hb hby d1_0) rfl rfl ?_
    show Steps p.tables e below (s₁.setTop (mkF m 1 #[.val (.ref ths), .val (.ref a)] [(.ref ths)])) t
    refine XS.aloadN X0.here hx rfl (hb hby d1_1) rfl rfl ?_
    show Steps p.tables e below (s₁.setTop (mkF m 2 #[.val (.ref ths), .val (.ref a)] [(.ref a), (.ref ths)])) t
    refine XS.iconst X0.here hx rfl (hb hby d1_2) ?_
    show Steps p.tables e below (s₁.setTop (mkF m 3 #[.val (.ref ths), .val (.ref a)] [(.int (0 : Int32)), (.ref a), (.ref ths)])) t
    refine XS.aloadN X0.here hx rfl (hb hby d1_3) rfl rfl ?_
    exact kt
  obtain ⟨cl2, Ar2, -, S2, M2, -, -⟩ := id Aa
  have k3 : ∀ t, Steps p.tables e below (s₁.setTop (mkF m 5 #[.val (.ref ths), .val (.ref a)] [(.int (2 : Int32)), (.int (0 : Int32)), (.ref a), (.ref ths)])) t → Steps p.tables e below (s₁.setTop (entryFrame m #[(.ref ths), (.ref a)] 2)) t := fun t kt => k1 t (X0.arraylength hx (by rw [e0]; exact Ar2.1) (State.isArrayOf_alike hZ.alike Ar2.2.1) (g := (mkF m 4 #[.val (.ref ths), .val (.ref a)] [(.ref a), (.int (0 : Int32)), (.ref a), (.ref ths)])) rfl rfl (hb hby d1_4) t (by rw [len_of S2 M2]; exact kt))
  have k4 : ∀ t, Steps p.tables e below (s₁.setTop (mkF m 6 #[.val (.ref ths), .val (.ref a)] [.null, (.int (2 : Int32)), (.int (0 : Int32)), (.ref a), (.ref ths)])) t → Steps p.tables e below (s₁.setTop (entryFrame m #[(.ref ths), (.ref a)] 2)) t := by
    intro t kt
    refine k3 t ?_
    show Steps p.tables e below (s₁.setTop (mkF m 5 #[.val (.ref ths), .val (.ref a)] [(.int (2 : Int32)), (.int (0 : Int32)), (.ref a), (.ref ths)])) t
    refine XS.aconstNull X0.here hx rfl (hb hby d1_5) ?_
    exact kt
  obtain ⟨_, _, ⟨T5, L5, k5c, n5⟩, -, X5, ⟨Lc5, hQ5, l5, y5, z5⟩, st5⟩ := X0.specialBack hx (y := (⟨"java/lang/String", "<init>", "([CIILjava/lang/Void;)V"⟩ : MethodName)) rfl hown (mvT hZ (hw _ (List.mem_of_getElem? (i := 7) rfl))) (mvT hZ (hw _ (List.mem_of_getElem? (i := 8) rfl))) (mvT hZ (hw _ (List.mem_of_getElem? (i := 10) rfl))) (by decide) (backOf (W := 0) (rmSv2 l Z a0 hw [] ths a u u' ka cs ch0 ch1 h0 n0 Z0 Fv Fc Et g_t net Aa SC hcs hch0 hch1) hZ (hw _ (List.mem_of_getElem? (i := 10) rfl)) (hw _ (List.mem_of_getElem? (i := 3) rfl)) (by decide) (by decide)) (g := (mkF m 6 #[.val (.ref ths), .val (.ref a)] [.null, (.int (2 : Int32)), (.int (0 : Int32)), (.ref a), (.ref ths)])) rfl (by rw [hml]; rfl) (Steps.refl _) (a := ths) (argsL := [(.ref a), (.int (0 : Int32)), (.int (2 : Int32)), .null]) (rest := []) (lenOf own_pd6 rfl) rfl (by show 2 * 0 + _ ≤ _; exact Nat.le_of_eq rfl) (hb hby d1_6) (fun _ _ => ⟨rfl, e0, (by decide : 0 + 1 ≤ _), (by decide : 0 + 2 ≤ _)⟩)
  dsimp only [Pt.U, Pt.locs, Pt.cells, Pt.slots] at X5 l5 y5 z5 st5 hQ5
  subst l5 y5 z5
  obtain ⟨rfl, N5q, K5k, E5t, b5, c5k, s5z, Fv5, Fc5, A5⟩ := hQ5
  have N5 := Fr.app N0 N5q
  have g_b5 : n0 ≤ b5 := Nat.le_trans Z0 s5z
  have sz_b5 : h0.size ≤ b5 := Nat.le_trans K0.1 s5z
  have ne6 : ths ≠ b5 := Nat.ne_of_lt (Nat.lt_of_lt_of_le Fv.lt s5z)
  have ne7 : a ≠ b5 := Nat.ne_of_lt (Nat.lt_of_lt_of_le Aa.lt s5z)
  have F10 := Et.keep K5k
  have F11 := Aa.keep K5k (ninS (Ne.symm net) nin0)
  have Z13 : n0 ≤ T5.heap.size := Nat.le_trans Z0 K5k.1
  have K13 : Keep h0 T5.heap [ths] := K0.trans K5k (allS (Or.inl (List.mem_of_getElem? (i := 0) rfl)) all0)
  have k14 : ∀ t, Steps p.tables e below (T5.setTop (mkF m 9 #[.val (.ref ths), .val (.ref a)] [])) t → Steps p.tables e below (s₁.setTop (entryFrame m #[(.ref ths), (.ref a)] 2)) t := fun t kt => k4 t (st5.trans kt)
  obtain ⟨fs, hr, hrun, hended, hW, hsame⟩ := X5.leave (v := none) (fun _ => rfl)
  refine ⟨_, _, k14 _ ?_, hrun, hended, _, _, rfl, ?_, ⟨_, rfl⟩, hW, hsame.mono (by decide) (by decide)⟩
  · show Steps p.tables e below (T5.setTop (mkF m 9 #[.val (.ref ths), .val (.ref a)] [])) _
    exact X5.returnOut hx Bd.returns (hb hby d1_9) hr
  · show QSi2 Z ths a u u' ka cs ch0 ch1 h0 n0 _ T5.heap _
    exact ⟨rfl, N5, K13, F10, b5, c5k, sz_b5, Fv5, Fc5, A5⟩
theorem d8_0 : decode jdk_30_method_1_code 0 = .ok (.aload_n 0, 1) := by decide +kernel
theorem d8_1 : decode jdk_30_method_1_code 1 = .ok (.invokespecial 1, 3) := by decide +kernel
theorem d8_4 : decode jdk_30_method_1_code 4 = .ok (.return_, 1) := by decide +kernel
theorem own_pn3 : plainName "java/lang/Record" = true := by first | (simp [plainName, overriddenIn]; done) | decide +kernel
theorem rmRec_ef (m : MethodId) (x0 : Addr) : entryFrame m #[(.ref x0)] 1 = mkF m 0 #[.val (.ref x0)] [] := by first | (simp [entryFrame, mkF, argsToLocals, Value.category]; done) | rfl
def QRec (Z : State) (a : Addr) (h0 : Heap) (n0 : Nat) (v : Option Value) (h : Heap) (L : List Loc) : Prop := v = none ∧ Fr n0 L ∧ h = h0
set_option maxRecDepth 65536 in
set_option maxHeartbeats 40000000 in
theorem rmRec (l : Launch) (Z : State) (a0 : Array Value) (hw : ∀ d ∈ tables_1, d.before a0 Z = true) (ws : List Jvm.Cond) (a : Addr) (h0 : Heap) (n0 : Nat) (Z0 : n0 ≤ h0.size) :
    MetFree l (⟨"java/lang/Record", "<init>", "()V"⟩ : MethodName) (head1 (Jvm.Cond.code (⟨"java/lang/Record", "<init>", "()V"⟩ : MethodName) jdk_30_method_1_code 1 none :: ws) ({ frames := 1, cells := 0, slots := 0, locals := 12 } : Room)) (fun aA' U => aA' = #[(.ref a)] ∧ Z.Warmed39 U.vm ∧ U.heap = h0) (fun _ _ _ _ _ => True) (fun _ U oO' U' => ∃ vV' L, oO' = .returned vV' ∧ QRec Z a h0 n0 vV' U'.heap L ∧ FrameEnd U oO' U' L ({ frames := 1, cells := 0, slots := 0, locals := 12 } : Room).cells ({ frames := 1, cells := 0, slots := 0, locals := 12 } : Room).slots) := by
  refine MetFree.of_bodySF (plainFor_of_name own_pn3) hisR ?_
  intro p e s m args below meth c s₁ Bd hml0 hP hK
  obtain ⟨rfl, hZ, hh⟩ := hP
  have hx := Bd.exec
  have hby := Bd.bytes
  have hml : c.maxLocals = 1 := hml0
  have hown : s.vm.findClass "java/lang/Record" = some m.cls := findClass_of_methodNamed Bd.named
  have hnm := (name_of_methodNamed Bd.named Bd.method).1
  have X0 : Stand p l e ({ frames := 1, cells := 0, slots := 0, locals := 12 } : Room) s m #[(.ref a)] below meth c s₁ [] 0 0 := Stand.of_body Bd
  have e0 : s₁.heap = h0 := by rw [← hh, Bd.state]; rfl
  have N0 := Fr.nil n0
  have K0 : Keep h0 h0 [] := Keep.refl _ _
  have k0 : ∀ t, Steps p.tables e below (s₁.setTop (mkF m 0 #[.val (.ref a)] [])) t → Steps p.tables e below (s₁.setTop (entryFrame m #[(.ref a)] 1)) t := fun t k => castTop (rmRec_ef m (a)) k
  have k1 : ∀ t, Steps p.tables e below (s₁.setTop (mkF m 1 #[.val (.ref a)] [(.ref a)])) t → Steps p.tables e below (s₁.setTop (entryFrame m #[(.ref a)] 1)) t := by
    intro t kt
    refine k0 t ?_
    show Steps p.tables e below (s₁.setTop (mkF m 0 #[.val (.ref a)] [])) t
    refine XS.aloadN X0.here hx rfl (hb hby d8_0) rfl rfl ?_
    exact kt
  obtain ⟨T2, X2, e2, st2⟩ := initO X0 hx hZ hown (hw _ (List.mem_of_getElem? (i := 41) rfl)) (hw _ (List.mem_of_getElem? (i := 12) rfl)) (hw _ (List.mem_of_getElem? (i := 13) rfl)) e0 (g := (mkF m 1 #[.val (.ref a)] [(.ref a)])) rfl (by rw [hml]; rfl) rfl (hb hby d8_1) (by decide) (W := 0) (by show 2 * 0 + _ ≤ _; exact Nat.le_of_eq rfl) (by decide)
  have k3 : ∀ t, Steps p.tables e below (T2.setTop (mkF m 4 #[.val (.ref a)] [])) t → Steps p.tables e below (s₁.setTop (entryFrame m #[(.ref a)] 1)) t := fun t kt => k1 t (st2 t kt)
  obtain ⟨fs, hr, hrun, hended, hW, hsame⟩ := X2.leave (v := none) (fun _ => rfl)
  refine ⟨_, _, k3 _ ?_, hrun, hended, _, _, rfl, ?_, ⟨_, rfl⟩, hW, hsame.mono (by decide) (by decide)⟩
  · show Steps p.tables e below (T2.setTop (mkF m 4 #[.val (.ref a)] [])) _
    exact X2.returnOut hx Bd.returns (hb hby d8_4) hr
  · show QRec Z a h0 n0 _ T2.heap _
    rw [e2]
    exact ⟨rfl, N0, rfl⟩
theorem d9_0 : decode jdk_31_method_11_code 0 = .ok (.aload_n 0, 1) := by decide +kernel
theorem d9_1 : decode jdk_31_method_11_code 1 = .ok (.ifnonnull 12, 3) := by decide +kernel
theorem d9_4 : decode jdk_31_method_11_code 4 = .ok (.new 84, 3) := by decide +kernel
theorem d9_7 : decode jdk_31_method_11_code 7 = .ok (.dup, 1) := by decide +kernel
theorem d9_8 : decode jdk_31_method_11_code 8 = .ok (.aload_n 1, 1) := by decide +kernel
theorem d9_9 : decode jdk_31_method_11_code 9 = .ok (.invokespecial 87, 3) := by decide +kernel
theorem d9_12 : decode jdk_31_method_11_code 12 = .ok (.athrow, 1) := by decide +kernel
theorem d9_13 : decode jdk_31_method_11_code 13 = .ok (.aload_n 0, 1) := by decide +kernel
theorem d9_14 : decode jdk_31_method_11_code 14 = .ok (.areturn, 1) := by decide +kernel
theorem own_pn4 : plainName "java/util/Objects" = true := by first | (simp [plainName, overriddenIn]; done) | decide +kernel
theorem rmNn_ef (m : MethodId) (x0 : Addr) (x1 : Addr) : entryFrame m #[(.ref x0), (.ref x1)] 2 = mkF m 0 #[.val (.ref x0), .val (.ref x1)] [] := by first | (simp [entryFrame, mkF, argsToLocals, Value.category]; done) | rfl
def QNn (Z : State) (a : Addr) (b : Addr) (h0 : Heap) (n0 : Nat) (v : Option Value) (h : Heap) (L : List Loc) : Prop := v = some (.ref a) ∧ Fr n0 L ∧ h = h0
set_option maxRecDepth 65536 in
set_option maxHeartbeats 40000000 in
theorem rmNn (l : Launch) (Z : State) (a0 : Array Value) (hw : ∀ d ∈ tables_1, d.before a0 Z = true) (ws : List Jvm.Cond) (a : Addr) (b : Addr) (h0 : Heap) (n0 : Nat) (Z0 : n0 ≤ h0.size) :
    MetFree l (⟨"java/util/Objects", "requireNonNull", "(Ljava/lang/Object;Ljava/lang/String;)Ljava/lang/Object;"⟩ : MethodName) (head1 (Jvm.Cond.code (⟨"java/util/Objects", "requireNonNull", "(Ljava/lang/Object;Ljava/lang/String;)Ljava/lang/Object;"⟩ : MethodName) jdk_31_method_11_code 2 (some (.object "java/lang/Object")) :: ws) ({ frames := 0, cells := 0, slots := 0, locals := 0 } : Room)) (fun aA' U => aA' = #[(.ref a), (.ref b)] ∧ Z.Warmed39 U.vm ∧ U.heap = h0) (fun _ _ _ _ _ => True) (fun _ U oO' U' => ∃ vV' L, oO' = .returned vV' ∧ QNn Z a b h0 n0 vV' U'.heap L ∧ FrameEnd U oO' U' L ({ frames := 0, cells := 0, slots := 0, locals := 0 } : Room).cells ({ frames := 0, cells := 0, slots := 0, locals := 0 } : Room).slots) := by
  refine MetFree.of_bodySF (plainFor_of_name own_pn4) hisR ?_
  intro p e s m args below meth c s₁ Bd hml0 hP hK
  obtain ⟨rfl, hZ, hh⟩ := hP
  have hx := Bd.exec
  have hby := Bd.bytes
  have hml : c.maxLocals = 2 := hml0
  have hown : s.vm.findClass "java/util/Objects" = some m.cls := findClass_of_methodNamed Bd.named
  have hnm := (name_of_methodNamed Bd.named Bd.method).1
  have X0 : Stand p l e ({ frames := 0, cells := 0, slots := 0, locals := 0 } : Room) s m #[(.ref a), (.ref b)] below meth c s₁ [] 0 0 := Stand.of_body Bd
  have e0 : s₁.heap = h0 := by rw [← hh, Bd.state]; rfl
  have N0 := Fr.nil n0
  have K0 : Keep h0 h0 [] := Keep.refl _ _
  have k0 : ∀ t, Steps p.tables e below (s₁.setTop (mkF m 0 #[.val (.ref a), .val (.ref b)] [])) t → Steps p.tables e below (s₁.setTop (entryFrame m #[(.ref a), (.ref b)] 2)) t := fun t k => castTop (rmNn_ef m (a) (b)) k
  have k1 : ∀ t, Steps p.tables e below (s₁.setTop (mkF m 14 #[.val (.ref a), .val (.ref b)] [(.ref a)])) t → Steps p.tables e below (s₁.setTop (entryFrame m #[(.ref a), (.ref b)] 2)) t := by
    intro t kt
    refine k0 t ?_
    show Steps p.tables e below (s₁.setTop (mkF m 0 #[.val (.ref a), .val (.ref b)] [])) t
    refine XS.aloadN X0.here hx rfl (hb hby d9_0) rfl rfl ?_
    show Steps p.tables e below (s₁.setTop (mkF m 1 #[.val (.ref a), .val (.ref b)] [(.ref a)])) t
    refine XS.ifnonnullYes X0.here hx rfl (pc0 := 1) (pc' := 13) rfl (hb hby d9_1) rfl (by decide) (by decide) ?_
    show Steps p.tables e below (s₁.setTop (mkF m 13 #[.val (.ref a), .val (.ref b)] [])) t
    refine XS.aloadN X0.here hx rfl (hb hby d9_13) rfl rfl ?_
    exact kt
  obtain ⟨fs, hr, hrun, hended, hW, hsame⟩ := X0.leave (v := some (.ref a)) (fun h => by rw [Bd.returns] at h; cases h)
  refine ⟨_, _, k1 _ ?_, hrun, hended, _, _, rfl, ?_, ⟨_, rfl⟩, hW, hsame.mono (by decide) (by decide)⟩
  · show Steps p.tables e below (s₁.setTop (mkF m 14 #[.val (.ref a), .val (.ref b)] [(.ref a)])) _
    jvm_step X0.here [X0.here.top, hx, (hb hby d9_14), X0.method', Bd.returns, Value.isRef, FieldType.isReference]
    first | (intro acts; rw [hr _ acts rfl rfl rfl]) | rw [hr _ _ rfl rfl rfl]
    exact Steps.refl _
  · show QNn Z a b h0 n0 _ s₁.heap _
    rw [e0]
    exact ⟨rfl, N0, rfl⟩
theorem d7_0 : decode prog_31_method_1_code 0 = .ok (.aload_n 0, 1) := by decide +kernel
theorem d7_1 : decode prog_31_method_1_code 1 = .ok (.invokespecial 1, 3) := by decide +kernel
theorem d7_4 : decode prog_31_method_1_code 4 = .ok (.aload_n 2, 1) := by decide +kernel
theorem d7_5 : decode prog_31_method_1_code 5 = .ok (.ldc 7, 2) := by decide +kernel
theorem d7_7 : decode prog_31_method_1_code 7 = .ok (.invokestatic 9, 3) := by decide +kernel
theorem d7_10 : decode prog_31_method_1_code 10 = .ok (.pop, 1) := by decide +kernel
theorem d7_11 : decode prog_31_method_1_code 11 = .ok (.aload_n 0, 1) := by decide +kernel
theorem d7_12 : decode prog_31_method_1_code 12 = .ok (.iload_n 1, 1) := by decide +kernel
theorem d7_13 : decode prog_31_method_1_code 13 = .ok (.putfield 15, 3) := by decide +kernel
theorem d7_16 : decode prog_31_method_1_code 16 = .ok (.aload_n 0, 1) := by decide +kernel
theorem d7_17 : decode prog_31_method_1_code 17 = .ok (.aload_n 2, 1) := by decide +kernel
theorem d7_18 : decode prog_31_method_1_code 18 = .ok (.putfield 21, 3) := by decide +kernel
theorem d7_21 : decode prog_31_method_1_code 21 = .ok (.return_, 1) := by decide +kernel
theorem own_pn5 : plainName "recensio/records/Subfield" = true := by first | (simp [plainName, overriddenIn]; done) | decide +kernel
theorem rmSf_ef (m : MethodId) (x0 : Addr) (x1 : Int32) (x2 : Addr) : entryFrame m #[(.ref x0), (.int x1), (.ref x2)] 3 = mkF m 0 #[.val (.ref x0), .val (.int x1), .val (.ref x2)] [] := by first | (simp [entryFrame, mkF, argsToLocals, Value.category]; done) | rfl
def QSf (Z : State) (a : Addr) (p1 : Int32) (b : Addr) (h0 : Heap) (n0 : Nat) (v : Option Value) (h : Heap) (L : List Loc) : Prop := v = none ∧ Fr n0 L ∧ Keep h0 h [a] ∧ Fld Z h a "recensio/records/Subfield" "code" "C" (.int (p1.toUInt32.toUInt16.toUInt32.toInt32))
theorem own_pd7 : parseMethodDescriptor "()V" = some ⟨[], none⟩ := by decide +kernel
theorem own_pd8 : parseMethodDescriptor "(Ljava/lang/Object;Ljava/lang/String;)Ljava/lang/Object;" = some ⟨[(.object "java/lang/Object"), (.object "java/lang/String")], some (.object "java/lang/Object")⟩ := by decide +kernel
set_option maxRecDepth 65536 in
set_option maxHeartbeats 40000000 in
theorem rmSf (l : Launch) (Z : State) (a0 : Array Value) (hw : ∀ d ∈ tables_1, d.before a0 Z = true) (ws : List Jvm.Cond) (a : Addr) (p1 : Int32) (b : Addr) (h0 : Heap) (n0 : Nat) (Z0 : n0 ≤ h0.size) (F_code : Fld Z h0 a "recensio/records/Subfield" "code" "C" (.int (0 : Int32))) (F_value : Fld Z h0 a "recensio/records/Subfield" "value" "Ljava/lang/String;" .null) (Ea : Exa Z h0 a "recensio/records/Subfield") (g_a : n0 ≤ a) :
    MetFree l (⟨"recensio/records/Subfield", "<init>", "(CLjava/lang/String;)V"⟩ : MethodName) (head1 (Jvm.Cond.code (⟨"recensio/records/Subfield", "<init>", "(CLjava/lang/String;)V"⟩ : MethodName) prog_31_method_1_code 3 none :: ws) ({ frames := 2, cells := 2, slots := 24, locals := 24 } : Room)) (fun aA' U => aA' = #[(.ref a), (.int p1), (.ref b)] ∧ Z.Warmed39 U.vm ∧ U.heap = h0 ∧ CHv Z own_EL U.vm h0 ∧ ∀ xX' ∈ ([a] : List Addr), Safe Z own_EL U.vm h0 xX') (fun _ _ _ _ _ => True) (fun _ U oO' U' => ∃ vV' L, oO' = .returned vV' ∧ QSf Z a p1 b h0 n0 vV' U'.heap L ∧ CHr Z own_EL U.vm U.heap U'.vm U'.heap ∧ ReturnedEndW U oO' U' L ({ frames := 2, cells := 2, slots := 24, locals := 24 } : Room).cells ({ frames := 2, cells := 2, slots := 24, locals := 24 } : Room).slots) := by
  refine MetFree.of_bodySF (plainFor_of_name own_pn5) hisR ?_
  intro p e s m args below meth c s₁ Bd hml0 hP hK
  obtain ⟨rfl, hZ, hh, hC0, hSf⟩ := hP
  have hx := Bd.exec
  have hby := Bd.bytes
  have hml : c.maxLocals = 3 := hml0
  have hown : s.vm.findClass "recensio/records/Subfield" = some m.cls := findClass_of_methodNamed Bd.named
  have hnm := (name_of_methodNamed Bd.named Bd.method).1
  have X0 : Stand p l e ({ frames := 2, cells := 2, slots := 24, locals := 24 } : Room) (s.setVm s.vm) m #[(.ref a), (.int p1), (.ref b)] below meth c s₁ [] 0 0 := Stand.of_body Bd
  have e0 : s₁.heap = h0 := by rw [← hh, Bd.state]; rfl
  have N0 := Fr.nil n0
  have K0 : Keep h0 h0 [a] := Keep.refl _ _
  have k0 : ∀ t, Steps p.tables e below (s₁.setTop (mkF m 0 #[.val (.ref a), .val (.int p1), .val (.ref b)] [])) t → Steps p.tables e below (s₁.setTop (entryFrame m #[(.ref a), (.int p1), (.ref b)] 3)) t := fun t k => castTop (rmSf_ef m (a) (p1) (b)) k
  have C0 : CHr Z own_EL s.vm h0 s.vm h0 := CHr.refl hC0
  have hS0 : s.Since s.vm 0 := (State.WarmedH.refl s).since 0
  have hk0 : 0 ≤ h0.size := Nat.zero_le _
  have hEL := own_EW hw
  have S_a : Safe Z own_EL s.vm h0 a := hSf _ (List.mem_of_getElem? (i := 0) rfl)
  have k1 : ∀ t, Steps p.tables e below (s₁.setTop (mkF m 1 #[.val (.ref a), .val (.int p1), .val (.ref b)] [(.ref a)])) t → Steps p.tables e below (s₁.setTop (entryFrame m #[(.ref a), (.int p1), (.ref b)] 3)) t := by
    intro t kt
    refine k0 t ?_
    show Steps p.tables e below (s₁.setTop (mkF m 0 #[.val (.ref a), .val (.int p1), .val (.ref b)] [])) t
    refine XS.aloadN X0.here hx rfl (hb hby d7_0) rfl rfl ?_
    exact kt
  obtain ⟨_, _, ⟨T2, L2, k2c, n2⟩, -, X2, ⟨Lc2, hQ2, l2, y2, z2⟩, st2⟩ := X0.specialBack hx (y := (⟨"java/lang/Record", "<init>", "()V"⟩ : MethodName)) rfl hown (mvT hZ (hw _ (List.mem_of_getElem? (i := 36) rfl))) (mvT hZ (hw _ (List.mem_of_getElem? (i := 37) rfl))) (mvT hZ (hw _ (List.mem_of_getElem? (i := 40) rfl))) (by decide) (backOf (W := 0) (rmRec l Z a0 hw [] a h0 n0 Z0) hZ (hw _ (List.mem_of_getElem? (i := 40) rfl)) (hw _ (List.mem_of_getElem? (i := 39) rfl)) (by decide) (by decide)) (g := (mkF m 1 #[.val (.ref a), .val (.int p1), .val (.ref b)] [(.ref a)])) rfl (by rw [hml]; rfl) (Steps.refl _) (a := a) (argsL := []) (rest := []) (lenOf own_pd7 rfl) rfl (by show 2 * 0 + _ ≤ _; exact Nat.le_of_eq rfl) (hb hby d7_1) (fun _ _ => ⟨rfl, e0, (by decide : 0 + 0 ≤ _), (by decide : 0 + 0 ≤ _)⟩)
  dsimp only [Pt.U, Pt.locs, Pt.cells, Pt.slots] at X2 l2 y2 z2 st2 hQ2
  subst l2 y2 z2
  obtain ⟨rfl, N2q, e2⟩ := hQ2
  have N2 := Fr.app N0 N2q
  have k3 : ∀ t, Steps p.tables e below (T2.setTop (mkF m 4 #[.val (.ref a), .val (.int p1), .val (.ref b)] [])) t → Steps p.tables e below (s₁.setTop (entryFrame m #[(.ref a), (.int p1), (.ref b)] 3)) t := fun t kt => k1 t (st2.trans kt)
  have k4 : ∀ t, Steps p.tables e below (T2.setTop (mkF m 5 #[.val (.ref a), .val (.int p1), .val (.ref b)] [(.ref b)])) t → Steps p.tables e below (s₁.setTop (entryFrame m #[(.ref a), (.int p1), (.ref b)] 3)) t := by
    intro t kt
    refine k3 t ?_
    show Steps p.tables e below (T2.setTop (mkF m 4 #[.val (.ref a), .val (.int p1), .val (.ref b)] [])) t
    refine XS.aloadN X2.here hx rfl (hb hby d7_4) rfl rfl ?_
    exact kt
  obtain ⟨a5, T5, h5, j5, X5, e5, E5, hS5, hk5, hZ5, hown5, Cn5, Li5, st5⟩ := ldcOH (s := s) (vm0 := s.vm) X2 hx hZ hown (hw _ (List.mem_of_getElem? (i := 42) rfl)) (own_wS hw) e2 hS0 hk0 hEL C0.1 (g := (mkF m 5 #[.val (.ref a), .val (.int p1), .val (.ref b)] [(.ref b)])) rfl (hb hby d7_5) (n := 20) (by decide) (by decide) (by decide) (by decide)
  have F6 := CHr.safe Cn5 Ea.lt S_a
  have C7 := CHr.trans C0 Cn5
  have F8 := F_code.ext E5
  have F9 := F_value.ext E5
  have F10 := Ea.ext E5
  have Z5 : n0 ≤ h5.size := Nat.le_trans Z0 E5.1
  have K5 : Keep h0 h5 [a] := K0.ext E5
  have k11 : ∀ t, Steps p.tables e below (T5.setTop (mkF m 7 #[.val (.ref a), .val (.int p1), .val (.ref b)] [(.ref a5), (.ref b)])) t → Steps p.tables e below (s₁.setTop (entryFrame m #[(.ref a), (.int p1), (.ref b)] 3)) t := fun t kt => k4 t (st5 t kt)
  obtain ⟨_, _, ⟨T12, L12, k12c, n12⟩, -, X12, ⟨Lc12, hQ12, l12, y12, z12⟩, st12⟩ := Jvm.LawKit.callS X5 hx (y := (⟨"java/util/Objects", "requireNonNull", "(Ljava/lang/Object;Ljava/lang/String;)Ljava/lang/Object;"⟩ : MethodName)) hown5 (mvT hZ5 (hw _ (List.mem_of_getElem? (i := 45) rfl))) (mvT hZ5 (hw _ (List.mem_of_getElem? (i := 46) rfl))) (mvT hZ5 (hw _ (List.mem_of_getElem? (i := 47) rfl))) (mvT hZ5 (hw _ (List.mem_of_getElem? (i := 48) rfl))) (by decide) (backOf (W := 0) (rmNn l Z a0 hw [] b a5 h5 n0 Z5) hZ5 (hw _ (List.mem_of_getElem? (i := 48) rfl)) (hw _ (List.mem_of_getElem? (i := 47) rfl)) (by decide) (by decide)) (g := (mkF m 7 #[.val (.ref a), .val (.int p1), .val (.ref b)] [(.ref a5), (.ref b)])) rfl (by rw [hml]; rfl) (argsL := [(.ref b), (.ref a5)]) (rest := []) (lenOf own_pd8 rfl) rfl (by show 2 * 0 + _ ≤ _; exact Nat.le_of_eq rfl) (hb hby d7_7) (fun _ _ => ⟨rfl, e5, (by decide : 2 + 0 ≤ _), (by decide : 24 + 0 ≤ _)⟩)
  dsimp only [Pt.U, Pt.locs, Pt.cells, Pt.slots] at X12 l12 y12 z12 st12 hQ12
  subst l12 y12 z12
  obtain ⟨rfl, N12q, e12⟩ := hQ12
  have N12 := Fr.app N2 N12q
  have k13 : ∀ t, Steps p.tables e below (T12.setTop (mkF m 10 #[.val (.ref a), .val (.int p1), .val (.ref b)] [(.ref b)])) t → Steps p.tables e below (s₁.setTop (entryFrame m #[(.ref a), (.int p1), (.ref b)] 3)) t := fun t kt => k11 t (st12 t kt)
  have k14 : ∀ t, Steps p.tables e below (T12.setTop (mkF m 13 #[.val (.ref a), .val (.int p1), .val (.ref b)] [(.int p1), (.ref a)])) t → Steps p.tables e below (s₁.setTop (entryFrame m #[(.ref a), (.int p1), (.ref b)] 3)) t := by
    intro t kt
    refine k13 t ?_
    show Steps p.tables e below (T12.setTop (mkF m 10 #[.val (.ref a), .val (.int p1), .val (.ref b)] [(.ref b)])) t
    refine XS.pop X12.here hx rfl (hb hby d7_10) rfl rfl ?_
    show Steps p.tables e below (T12.setTop (mkF m 11 #[.val (.ref a), .val (.int p1), .val (.ref b)] [])) t
    refine XS.aloadN X12.here hx rfl (hb hby d7_11) rfl rfl ?_
    show Steps p.tables e below (T12.setTop (mkF m 12 #[.val (.ref a), .val (.int p1), .val (.ref b)] [(.ref a)])) t
    refine XS.iloadN X12.here hx rfl (hb hby d7_12) rfl ?_
    exact kt
  obtain ⟨T15, h15, X15, e15, W15, st15⟩ := putFN X12 hx hZ5 hown5 (hw _ (List.mem_of_getElem? (i := 49) rfl)) Via.refl e12 F8 F10 (Or.inr ⟨(hw _ (List.mem_of_getElem? (i := 50) rfl)), rfl, hnm⟩) (hw _ (List.mem_of_getElem? (i := 31) rfl)) (ty := .char) (v' := (.int (p1.toUInt32.toUInt16.toUInt32.toInt32))) (by decide) rfl (fits_nar_char _) (g := (mkF m 13 #[.val (.ref a), .val (.int p1), .val (.ref b)] [(.int p1), (.ref a)])) rfl rfl (hb hby d7_13)
  have F16 := Safe.wr W15 F6 C7.1 F6
  have C17 := CHr.trans C7 (CHr.wr W15 F6 C7.1)
  have F18 := F8.same W15
  have F19 := F9.other W15 (Or.inr (slot_ne (Or.inr (hw _ (List.mem_of_getElem? (i := 52) rfl))) (Or.inr (hw _ (List.mem_of_getElem? (i := 50) rfl))) (by decide) (t := (.object "java/lang/String")) (t' := .char) (by decide) (by decide)))
  have F20 := F10.wr W15
  have hk_21 := Nat.le_trans hk5 (Keep.of_wr W15).1
  have Z15 : n0 ≤ h15.size := Nat.le_trans Z5 (Keep.of_wr W15).1
  have K15 : Keep h0 h15 [a] := K5.wr W15 (Or.inl (List.mem_of_getElem? (i := 0) rfl))
  have N15 := Fr.snoc X15 N12 g_a
  have k22 : ∀ t, Steps p.tables e below (T15.setTop (mkF m 16 #[.val (.ref a), .val (.int p1), .val (.ref b)] [])) t → Steps p.tables e below (s₁.setTop (entryFrame m #[(.ref a), (.int p1), (.ref b)] 3)) t := fun t kt => k14 t (st15 t kt)
  have k23 : ∀ t, Steps p.tables e below (T15.setTop (mkF m 18 #[.val (.ref a), .val (.int p1), .val (.ref b)] [(.ref b), (.ref a)])) t → Steps p.tables e below (s₁.setTop (entryFrame m #[(.ref a), (.int p1), (.ref b)] 3)) t := by
    intro t kt
    refine k22 t ?_
    show Steps p.tables e below (T15.setTop (mkF m 16 #[.val (.ref a), .val (.int p1), .val (.ref b)] [])) t
    refine XS.aloadN X15.here hx rfl (hb hby d7_16) rfl rfl ?_
    show Steps p.tables e below (T15.setTop (mkF m 17 #[.val (.ref a), .val (.int p1), .val (.ref b)] [(.ref a)])) t
    refine XS.aloadN X15.here hx rfl (hb hby d7_17) rfl rfl ?_
    exact kt
  obtain ⟨T24, h24, X24, e24, W24, st24⟩ := putF X15 hx hZ5 hown5 (host := "") (Or.inl (hw _ (List.mem_of_getElem? (i := 51) rfl))) Via.refl e15 F19 F20 (Or.inr ⟨(hw _ (List.mem_of_getElem? (i := 52) rfl)), rfl, hnm⟩) (hw _ (List.mem_of_getElem? (i := 31) rfl)) (ty := (.object "java/lang/String")) (by decide) rfl rfl (g := (mkF m 18 #[.val (.ref a), .val (.int p1), .val (.ref b)] [(.ref b), (.ref a)])) rfl rfl (hb hby d7_18)
  have F25 := Safe.wr W24 F16 C17.1 F16
  have C26 := CHr.trans C17 (CHr.wr W24 F16 C17.1)
  have F27 := F18.other W24 (Or.inr (slot_ne (Or.inr (hw _ (List.mem_of_getElem? (i := 50) rfl))) (Or.inr (hw _ (List.mem_of_getElem? (i := 52) rfl))) (by decide) (t := .char) (t' := (.object "java/lang/String")) (by decide) (by decide)))
  have F28 := F19.same W24
  have F29 := F20.wr W24
  have hk_30 := Nat.le_trans hk_21 (Keep.of_wr W24).1
  have Z24 : n0 ≤ h24.size := Nat.le_trans Z15 (Keep.of_wr W24).1
  have K24 : Keep h0 h24 [a] := K15.wr W24 (Or.inl (List.mem_of_getElem? (i := 0) rfl))
  have N24 := Fr.snoc X24 N15 g_a
  have k31 : ∀ t, Steps p.tables e below (T24.setTop (mkF m 21 #[.val (.ref a), .val (.int p1), .val (.ref b)] [])) t → Steps p.tables e below (s₁.setTop (entryFrame m #[(.ref a), (.int p1), (.ref b)] 3)) t := fun t kt => k23 t (st24 t kt)
  obtain ⟨fs, hr, hrun, hended, hRW⟩ := X24.leaveW hS5 (by rw [e24]; exact hk_30) (v := none) (fun _ => rfl)
  refine ⟨_, _, k31 _ ?_, hrun, hended, _, _, rfl, ?_, ?_, hRW.1, hRW.2.1, hRW.2.2.1, hRW.2.2.2.mono (by decide) (by decide)⟩
  · show Steps p.tables e below (T24.setTop (mkF m 21 #[.val (.ref a), .val (.int p1), .val (.ref b)] [])) _
    exact X24.returnOut hx Bd.returns (hb hby d7_21) hr
  · show QSf Z a p1 b h0 n0 _ T24.heap _
    rw [e24]
    exact ⟨rfl, N24, K24, F27⟩
  · show CHr Z own_EL s.vm s.heap T24.vm T24.heap
    rw [hh, e24]
    exact CHr.trans C26 (CHv.at (s := s) (vm0 := T5.vm) X24 hZ5 hEL C26.1)
theorem d14_0 : decode prog_31_method_2_code 0 = .ok (.aload_n 0, 1) := by decide +kernel
theorem d14_1 : decode prog_31_method_2_code 1 = .ok (.getfield 15, 3) := by decide +kernel
theorem d14_4 : decode prog_31_method_2_code 4 = .ok (.bipush 97, 2) := by decide +kernel
theorem d14_6 : decode prog_31_method_2_code 6 = .ok (.if_icmp .eq 12, 3) := by decide +kernel
theorem d14_9 : decode prog_31_method_2_code 9 = .ok (.aload_n 0, 1) := by decide +kernel
theorem d14_10 : decode prog_31_method_2_code 10 = .ok (.getfield 15, 3) := by decide +kernel
theorem d14_13 : decode prog_31_method_2_code 13 = .ok (.bipush 98, 2) := by decide +kernel
theorem d14_15 : decode prog_31_method_2_code 15 = .ok (.if_icmp .ne 7, 3) := by decide +kernel
theorem d14_18 : decode prog_31_method_2_code 18 = .ok (.iconst 1, 1) := by decide +kernel
theorem d14_19 : decode prog_31_method_2_code 19 = .ok (.goto 4, 3) := by decide +kernel
theorem d14_22 : decode prog_31_method_2_code 22 = .ok (.iconst 0, 1) := by decide +kernel
theorem d14_23 : decode prog_31_method_2_code 23 = .ok (.ireturn, 1) := by decide +kernel
theorem rmIs_ef (m : MethodId) (x0 : Addr) : entryFrame m #[(.ref x0)] 1 = mkF m 0 #[.val (.ref x0)] [] := by first | (simp [entryFrame, mkF, argsToLocals, Value.category]; done) | rfl
def QIs (Z : State) (a : Addr) (p1 : Int32) (h0 : Heap) (n0 : Nat) (v : Option Value) (h : Heap) (L : List Loc) : Prop := v = some (.int (own_st p1)) ∧ Fr n0 L ∧ h = h0
set_option maxRecDepth 65536 in
set_option maxHeartbeats 40000000 in
theorem rmIs (l : Launch) (Z : State) (a0 : Array Value) (hw : ∀ d ∈ tables_1, d.before a0 Z = true) (ws : List Jvm.Cond) (a : Addr) (p1 : Int32) (h0 : Heap) (n0 : Nat) (Z0 : n0 ≤ h0.size) (Fc : Fld Z h0 a "recensio/records/Subfield" "code" "C" (.int p1)) :
    MetFree l (⟨"recensio/records/Subfield", "isStatementText", "()Z"⟩ : MethodName) (head1 (Jvm.Cond.code (⟨"recensio/records/Subfield", "isStatementText", "()Z"⟩ : MethodName) prog_31_method_2_code 1 (some .boolean) :: ws) ({ frames := 0, cells := 0, slots := 0, locals := 0 } : Room)) (fun aA' U => aA' = #[(.ref a)] ∧ Z.Warmed39 U.vm ∧ U.heap = h0) (fun _ _ _ _ _ => True) (fun _ U oO' U' => ∃ vV' L, oO' = .returned vV' ∧ QIs Z a p1 h0 n0 vV' U'.heap L ∧ FrameEnd U oO' U' L ({ frames := 0, cells := 0, slots := 0, locals := 0 } : Room).cells ({ frames := 0, cells := 0, slots := 0, locals := 0 } : Room).slots) := by
  refine MetFree.of_bodySF (plainFor_of_name own_pn5) hisR ?_
  intro p e s m args below meth c s₁ Bd hml0 hP hK
  obtain ⟨rfl, hZ, hh⟩ := hP
  have hx := Bd.exec
  have hby := Bd.bytes
  have hml : c.maxLocals = 1 := hml0
  have hown : s.vm.findClass "recensio/records/Subfield" = some m.cls := findClass_of_methodNamed Bd.named
  have hnm := (name_of_methodNamed Bd.named Bd.method).1
  have X0 : Stand p l e ({ frames := 0, cells := 0, slots := 0, locals := 0 } : Room) s m #[(.ref a)] below meth c s₁ [] 0 0 := Stand.of_body Bd
  have e0 : s₁.heap = h0 := by rw [← hh, Bd.state]; rfl
  have N0 := Fr.nil n0
  have K0 : Keep h0 h0 [] := Keep.refl _ _
  have k0 : ∀ t, Steps p.tables e below (s₁.setTop (mkF m 0 #[.val (.ref a)] [])) t → Steps p.tables e below (s₁.setTop (entryFrame m #[(.ref a)] 1)) t := fun t k => castTop (rmIs_ef m (a)) k
  have k1 : ∀ t, Steps p.tables e below (s₁.setTop (mkF m 1 #[.val (.ref a)] [(.ref a)])) t → Steps p.tables e below (s₁.setTop (entryFrame m #[(.ref a)] 1)) t := by
    intro t kt
    refine k0 t ?_
    show Steps p.tables e below (s₁.setTop (mkF m 0 #[.val (.ref a)] [])) t
    refine XS.aloadN X0.here hx rfl (hb hby d14_0) rfl rfl ?_
    exact kt
  obtain ⟨T2, X2, e2, st2⟩ := getF X0 hx hZ hown (host := "") (Or.inl (hw _ (List.mem_of_getElem? (i := 49) rfl))) Via.refl e0 Fc (g := (mkF m 1 #[.val (.ref a)] [(.ref a)])) rfl rfl (hb hby d14_1)
  have k3 : ∀ t, Steps p.tables e below (T2.setTop (mkF m 4 #[.val (.ref a)] [(.int p1)])) t → Steps p.tables e below (s₁.setTop (entryFrame m #[(.ref a)] 1)) t := fun t kt => k1 t (st2 t kt)
  have k5 : ∀ t, Steps p.tables e below (T2.setTop (mkF m 6 #[.val (.ref a)] [(.int (97 : Int32)), (.int p1)])) t → Steps p.tables e below (s₁.setTop (entryFrame m #[(.ref a)] 1)) t := by
    intro t kt
    refine k3 t ?_
    show Steps p.tables e below (T2.setTop (mkF m 4 #[.val (.ref a)] [(.int p1)])) t
    refine XS.bipush X2.here hx rfl (hb hby d14_4) ?_
    exact kt
  by_cases hc6_4 : p1 = (97 : Int32)
  · have k6 : ∀ t, Steps p.tables e below (T2.setTop (mkF m 23 #[.val (.ref a)] [(.int (1 : Int32))])) t → Steps p.tables e below (s₁.setTop (entryFrame m #[(.ref a)] 1)) t := by
      intro t kt
      refine k5 t ?_
      show Steps p.tables e below (T2.setTop (mkF m 6 #[.val (.ref a)] [(.int (97 : Int32)), (.int p1)])) t
      refine XS.icmpYes X2.here hx rfl (pc0 := 6) (pc' := 18) rfl (hb hby d14_6) rfl (teq hc6_4).1 (by decide) (by decide) ?_
      show Steps p.tables e below (T2.setTop (mkF m 18 #[.val (.ref a)] [])) t
      refine XS.iconst X2.here hx rfl (hb hby d14_18) ?_
      show Steps p.tables e below (T2.setTop (mkF m 19 #[.val (.ref a)] [(.int (1 : Int32))])) t
      refine XS.goto X2.here hx rfl (pc0 := 19) (pc' := 23) rfl (hb hby d14_19) (by decide) (by decide) ?_
      exact kt
    obtain ⟨fs, hr, hrun, hended, hW, hsame⟩ := X2.leave (v := some (.int (1 : Int32))) (fun h => by rw [Bd.returns] at h; cases h)
    refine ⟨_, _, k6 _ ?_, hrun, hended, _, _, rfl, ?_, ⟨_, rfl⟩, hW, hsame.mono (by decide) (by decide)⟩
    · show Steps p.tables e below (T2.setTop (mkF m 23 #[.val (.ref a)] [(.int (1 : Int32))])) _
      exact retN X2 hx (t := .boolean) Bd.returns (by simp) (hb hby d14_23) hr
    · show QIs Z a p1 h0 n0 _ T2.heap _
      rw [e2]
      refine ⟨congrArg (fun z => some (Value.int z)) ?_, N0, rfl⟩
      simp [own_st, hc6_4]
  · have k7 : ∀ t, Steps p.tables e below (T2.setTop (mkF m 10 #[.val (.ref a)] [(.ref a)])) t → Steps p.tables e below (s₁.setTop (entryFrame m #[(.ref a)] 1)) t := by
      intro t kt
      refine k5 t ?_
      show Steps p.tables e below (T2.setTop (mkF m 6 #[.val (.ref a)] [(.int (97 : Int32)), (.int p1)])) t
      refine XS.icmpNo X2.here hx rfl (hb hby d14_6) rfl (feq hc6_4).1 ?_
      show Steps p.tables e below (T2.setTop (mkF m 9 #[.val (.ref a)] [])) t
      refine XS.aloadN X2.here hx rfl (hb hby d14_9) rfl rfl ?_
      exact kt
    obtain ⟨T8, X8, e8, st8⟩ := getF X2 hx hZ hown (host := "") (Or.inl (hw _ (List.mem_of_getElem? (i := 49) rfl))) Via.refl e2 Fc (g := (mkF m 10 #[.val (.ref a)] [(.ref a)])) rfl rfl (hb hby d14_10)
    have k9 : ∀ t, Steps p.tables e below (T8.setTop (mkF m 13 #[.val (.ref a)] [(.int p1)])) t → Steps p.tables e below (s₁.setTop (entryFrame m #[(.ref a)] 1)) t := fun t kt => k7 t (st8 t kt)
    have k11 : ∀ t, Steps p.tables e below (T8.setTop (mkF m 15 #[.val (.ref a)] [(.int (98 : Int32)), (.int p1)])) t → Steps p.tables e below (s₁.setTop (entryFrame m #[(.ref a)] 1)) t := by
      intro t kt
      refine k9 t ?_
      show Steps p.tables e below (T8.setTop (mkF m 13 #[.val (.ref a)] [(.int p1)])) t
      refine XS.bipush X8.here hx rfl (hb hby d14_13) ?_
      exact kt
    by_cases hc15_10 : p1 = (98 : Int32)
    · have k12 : ∀ t, Steps p.tables e below (T8.setTop (mkF m 23 #[.val (.ref a)] [(.int (1 : Int32))])) t → Steps p.tables e below (s₁.setTop (entryFrame m #[(.ref a)] 1)) t := by
        intro t kt
        refine k11 t ?_
        show Steps p.tables e below (T8.setTop (mkF m 15 #[.val (.ref a)] [(.int (98 : Int32)), (.int p1)])) t
        refine XS.icmpNo X8.here hx rfl (hb hby d14_15) rfl (teq hc15_10).2 ?_
        show Steps p.tables e below (T8.setTop (mkF m 18 #[.val (.ref a)] [])) t
        refine XS.iconst X8.here hx rfl (hb hby d14_18) ?_
        show Steps p.tables e below (T8.setTop (mkF m 19 #[.val (.ref a)] [(.int (1 : Int32))])) t
        refine XS.goto X8.here hx rfl (pc0 := 19) (pc' := 23) rfl (hb hby d14_19) (by decide) (by decide) ?_
        exact kt
      obtain ⟨fs, hr, hrun, hended, hW, hsame⟩ := X8.leave (v := some (.int (1 : Int32))) (fun h => by rw [Bd.returns] at h; cases h)
      refine ⟨_, _, k12 _ ?_, hrun, hended, _, _, rfl, ?_, ⟨_, rfl⟩, hW, hsame.mono (by decide) (by decide)⟩
      · show Steps p.tables e below (T8.setTop (mkF m 23 #[.val (.ref a)] [(.int (1 : Int32))])) _
        exact retN X8 hx (t := .boolean) Bd.returns (by simp) (hb hby d14_23) hr
      · show QIs Z a p1 h0 n0 _ T8.heap _
        rw [e8]
        refine ⟨congrArg (fun z => some (Value.int z)) ?_, N0, rfl⟩
        simp [own_st, hc6_4, hc15_10]
    · have k13 : ∀ t, Steps p.tables e below (T8.setTop (mkF m 23 #[.val (.ref a)] [(.int (0 : Int32))])) t → Steps p.tables e below (s₁.setTop (entryFrame m #[(.ref a)] 1)) t := by
        intro t kt
        refine k11 t ?_
        show Steps p.tables e below (T8.setTop (mkF m 15 #[.val (.ref a)] [(.int (98 : Int32)), (.int p1)])) t
        refine XS.icmpYes X8.here hx rfl (pc0 := 15) (pc' := 22) rfl (hb hby d14_15) rfl (feq hc15_10).2 (by decide) (by decide) ?_
        show Steps p.tables e below (T8.setTop (mkF m 22 #[.val (.ref a)] [])) t
        refine XS.iconst X8.here hx rfl (hb hby d14_22) ?_
        exact kt
      obtain ⟨fs, hr, hrun, hended, hW, hsame⟩ := X8.leave (v := some (.int (0 : Int32))) (fun h => by rw [Bd.returns] at h; cases h)
      refine ⟨_, _, k13 _ ?_, hrun, hended, _, _, rfl, ?_, ⟨_, rfl⟩, hW, hsame.mono (by decide) (by decide)⟩
      · show Steps p.tables e below (T8.setTop (mkF m 23 #[.val (.ref a)] [(.int (0 : Int32))])) _
        exact retN X8 hx (t := .boolean) Bd.returns (by simp) (hb hby d14_23) hr
      · show QIs Z a p1 h0 n0 _ T8.heap _
        rw [e8]
        refine ⟨congrArg (fun z => some (Value.int z)) ?_, N0, rfl⟩
        simp [own_st, hc6_4, hc15_10]
theorem own_cr (p1 p2 : Int32) : 0 ≤ ((if (p1 &&& (3 : Int32)) = (0 : Int32) then (((96 : Int32) + (p2 &&& (3 : Int32))).toUInt32.toUInt16.toUInt32.toInt32) else ((p2 &&& (65535 : Int32)).toUInt32.toUInt16.toUInt32.toInt32))).toInt ∧ ((if (p1 &&& (3 : Int32)) = (0 : Int32) then (((96 : Int32) + (p2 &&& (3 : Int32))).toUInt32.toUInt16.toUInt32.toInt32) else ((p2 &&& (65535 : Int32)).toUInt32.toUInt16.toUInt32.toInt32))).toInt < 65536 := by
  split
  · exact (c_i2c _).2
  · exact (c_i2c _).2
theorem own_pn6 : plainName "recensio/records/SubfieldIsStatementTextPinLaw" = true := by first | (simp [plainName, overriddenIn]; done) | decide +kernel
theorem rm0_ef (m : MethodId) (x0 : Int32) (x1 : Int32) (x2 : Int32) (x3 : Int32) : entryFrame m #[(.int x0), (.int x1), (.int x2), (.int x3)] maxLocals = mkF m 0 #[.val (.int x0), .val (.int x1), .val (.int x2), .val (.int x3), .unset, .unset, .unset, .unset, .unset, .unset] [] := by first | (simp [entryFrame, mkF, argsToLocals, Value.category, maxLocals]; done) | rfl
def Q0 (Z : State) (p1 : Int32) (p2 : Int32) (p3 : Int32) (p4 : Int32) (cs : Int32) (h0 : Heap) (n0 : Nat) (v : Option Value) (h : Heap) (L : List Loc) : Prop := v = some (.int 1) ∧ Fr n0 L
theorem own_pd9 : parseMethodDescriptor "([C)V" = some ⟨[(.array .char)], none⟩ := by decide +kernel
theorem own_pd10 : parseMethodDescriptor "(CLjava/lang/String;)V" = some ⟨[.char, (.object "java/lang/String")], none⟩ := by decide +kernel
theorem own_pd11 : parseMethodDescriptor "(C)Ljava/lang/String;" = some ⟨[.char], some (.object "java/lang/String")⟩ := by decide +kernel
theorem own_pd12 : parseMethodDescriptor "()Z" = some ⟨[], some .boolean⟩ := by decide +kernel
set_option maxRecDepth 65536 in
set_option maxHeartbeats 40000000 in
theorem rm0 (l : Launch) (Z : State) (a0 : Array Value) (hw : ∀ d ∈ tables_1, d.before a0 Z = true) (ws : List Jvm.Cond) (p1 : Int32) (p2 : Int32) (p3 : Int32) (p4 : Int32) (cs : Int32) (h0 : Heap) (n0 : Nat) (Z0 : n0 ≤ h0.size) (O0 : Old Z n0 h0) (RC : Sta Z Z.heap "java/lang/String" "COMPACT_STRINGS" "Z" (.int cs)) (hcs : ¬ (cs = (0 : Int32))) :
    MetFree l x (head1 (Jvm.Cond.code x code maxLocals ret :: ws) room_1) (fun aA' U => aA' = #[(.int p1), (.int p2), (.int p3), (.int p4)] ∧ Z.Warmed39 U.vm ∧ U.heap = h0 ∧ CHv Z own_EL U.vm h0 ∧ ∀ xX' ∈ ([] : List Addr), Safe Z own_EL U.vm h0 xX') (fun _ _ _ _ _ => True) (fun _ U oO' U' => ∃ vV' L, oO' = .returned vV' ∧ Q0 Z p1 p2 p3 p4 cs h0 n0 vV' U'.heap L ∧ CHr Z own_EL U.vm U.heap U'.vm U'.heap ∧ ReturnedEndW U oO' U' L 32 2176) := by
  refine MetFree.of_bodySF (plainFor_of_name own_pn6) hisR ?_
  intro p e s m args below meth c s₁ Bd hml0 hP hK
  obtain ⟨rfl, hZ, hh, hC0, hSf⟩ := hP
  have hx := Bd.exec
  have hby := Bd.bytes
  have hml : c.maxLocals = 10 := hml0
  have hown : s.vm.findClass "recensio/records/SubfieldIsStatementTextPinLaw" = some m.cls := findClass_of_methodNamed Bd.named
  have hnm := (name_of_methodNamed Bd.named Bd.method).1
  have X0 : Stand p l e room_1 (s.setVm s.vm) m #[(.int p1), (.int p2), (.int p3), (.int p4)] below meth c s₁ [] 0 0 := Stand.of_body Bd
  have e0 : s₁.heap = h0 := by rw [← hh, Bd.state]; rfl
  have N0 := Fr.nil n0
  have K0 : Keep h0 h0 [] := Keep.refl _ _
  have k0 : ∀ t, Steps p.tables e below (s₁.setTop (mkF m 0 #[.val (.int p1), .val (.int p2), .val (.int p3), .val (.int p4), .unset, .unset, .unset, .unset, .unset, .unset] [])) t → Steps p.tables e below (s₁.setTop (entryFrame m #[(.int p1), (.int p2), (.int p3), (.int p4)] maxLocals)) t := fun t k => castTop (rm0_ef m (p1) (p2) (p3) (p4)) k
  have C0 : CHr Z own_EL s.vm h0 s.vm h0 := CHr.refl hC0
  have hS0 : s.Since s.vm 0 := (State.WarmedH.refl s).since 0
  have hk0 : 0 ≤ h0.size := Nat.zero_le _
  have hEL := own_EW hw
  have k1 : ∀ t, Steps p.tables e below (s₁.setTop (mkF m 3 #[.val (.int p1), .val (.int p2), .val (.int p3), .val (.int p4), .unset, .unset, .unset, .unset, .unset, .unset] [(.int (p1 &&& (3 : Int32)))])) t → Steps p.tables e below (s₁.setTop (entryFrame m #[(.int p1), (.int p2), (.int p3), (.int p4)] maxLocals)) t := by
    intro t kt
    refine k0 t ?_
    show Steps p.tables e below (s₁.setTop (mkF m 0 #[.val (.int p1), .val (.int p2), .val (.int p3), .val (.int p4), .unset, .unset, .unset, .unset, .unset, .unset] [])) t
    refine XS.iloadN X0.here hx rfl (hb hby at_0) rfl ?_
    show Steps p.tables e below (s₁.setTop (mkF m 1 #[.val (.int p1), .val (.int p2), .val (.int p3), .val (.int p4), .unset, .unset, .unset, .unset, .unset, .unset] [(.int p1)])) t
    refine XS.iconst X0.here hx rfl (hb hby at_1) ?_
    show Steps p.tables e below (s₁.setTop (mkF m 2 #[.val (.int p1), .val (.int p2), .val (.int p3), .val (.int p4), .unset, .unset, .unset, .unset, .unset, .unset] [(.int (3 : Int32)), (.int p1)])) t
    refine XS.iand X0.here hx rfl (hb hby at_2) rfl ?_
    exact kt
  have k2 : ∀ t, Steps p.tables e below (s₁.setTop (mkF m 25 #[.val (.int p1), .val (.int p2), .val (.int p3), .val (.int p4), .val (.int (if (p1 &&& (3 : Int32)) = (0 : Int32) then (((96 : Int32) + (p2 &&& (3 : Int32))).toUInt32.toUInt16.toUInt32.toInt32) else ((p2 &&& (65535 : Int32)).toUInt32.toUInt16.toUInt32.toInt32))), .unset, .unset, .unset, .unset, .unset] [])) t → Steps p.tables e below (s₁.setTop (entryFrame m #[(.int p1), (.int p2), (.int p3), (.int p4)] maxLocals)) t := by
    intro t kt
    by_cases hc3_3 : (p1 &&& (3 : Int32)) = (0 : Int32)
    · have k4 : ∀ t, Steps p.tables e below (s₁.setTop (mkF m 25 #[.val (.int p1), .val (.int p2), .val (.int p3), .val (.int p4), .val (.int (((96 : Int32) + (p2 &&& (3 : Int32))).toUInt32.toUInt16.toUInt32.toInt32)), .unset, .unset, .unset, .unset, .unset] [])) t → Steps p.tables e below (s₁.setTop (entryFrame m #[(.int p1), (.int p2), (.int p3), (.int p4)] maxLocals)) t := by
        intro t kt
        refine k1 t ?_
        show Steps p.tables e below (s₁.setTop (mkF m 3 #[.val (.int p1), .val (.int p2), .val (.int p3), .val (.int p4), .unset, .unset, .unset, .unset, .unset, .unset] [(.int (p1 &&& (3 : Int32)))])) t
        refine XS.ifNo X0.here hx rfl (hb hby at_3) rfl ((if0 _ _).trans (teq hc3_3).2) ?_
        show Steps p.tables e below (s₁.setTop (mkF m 6 #[.val (.int p1), .val (.int p2), .val (.int p3), .val (.int p4), .unset, .unset, .unset, .unset, .unset, .unset] [])) t
        refine XS.bipush X0.here hx rfl (hb hby at_6) ?_
        show Steps p.tables e below (s₁.setTop (mkF m 8 #[.val (.int p1), .val (.int p2), .val (.int p3), .val (.int p4), .unset, .unset, .unset, .unset, .unset, .unset] [(.int (96 : Int32))])) t
        refine XS.iloadN X0.here hx rfl (hb hby at_8) rfl ?_
        show Steps p.tables e below (s₁.setTop (mkF m 9 #[.val (.int p1), .val (.int p2), .val (.int p3), .val (.int p4), .unset, .unset, .unset, .unset, .unset, .unset] [(.int p2), (.int (96 : Int32))])) t
        refine XS.iconst X0.here hx rfl (hb hby at_9) ?_
        show Steps p.tables e below (s₁.setTop (mkF m 10 #[.val (.int p1), .val (.int p2), .val (.int p3), .val (.int p4), .unset, .unset, .unset, .unset, .unset, .unset] [(.int (3 : Int32)), (.int p2), (.int (96 : Int32))])) t
        refine XS.iand X0.here hx rfl (hb hby at_10) rfl ?_
        show Steps p.tables e below (s₁.setTop (mkF m 11 #[.val (.int p1), .val (.int p2), .val (.int p3), .val (.int p4), .unset, .unset, .unset, .unset, .unset, .unset] [(.int (p2 &&& (3 : Int32))), (.int (96 : Int32))])) t
        refine XS.iadd X0.here hx rfl (hb hby at_11) rfl ?_
        show Steps p.tables e below (s₁.setTop (mkF m 12 #[.val (.int p1), .val (.int p2), .val (.int p3), .val (.int p4), .unset, .unset, .unset, .unset, .unset, .unset] [(.int ((96 : Int32) + (p2 &&& (3 : Int32))))])) t
        refine XS.i2c X0.here hx rfl (hb hby at_12) rfl ?_
        show Steps p.tables e below (s₁.setTop (mkF m 13 #[.val (.int p1), .val (.int p2), .val (.int p3), .val (.int p4), .unset, .unset, .unset, .unset, .unset, .unset] [(.int (((96 : Int32) + (p2 &&& (3 : Int32))).toUInt32.toUInt16.toUInt32.toInt32))])) t
        refine XS.istore X0.here hx rfl (hb hby at_13) rfl (l' := #[.val (.int p1), .val (.int p2), .val (.int p3), .val (.int p4), .val (.int (((96 : Int32) + (p2 &&& (3 : Int32))).toUInt32.toUInt16.toUInt32.toInt32)), .unset, .unset, .unset, .unset, .unset]) rfl ?_
        show Steps p.tables e below (s₁.setTop (mkF m 15 #[.val (.int p1), .val (.int p2), .val (.int p3), .val (.int p4), .val (.int (((96 : Int32) + (p2 &&& (3 : Int32))).toUInt32.toUInt16.toUInt32.toInt32)), .unset, .unset, .unset, .unset, .unset] [])) t
        refine XS.goto X0.here hx rfl (pc0 := 15) (pc' := 25) rfl (hb hby at_15) (by decide) (by decide) ?_
        exact kt
      rw [show ((if (p1 &&& (3 : Int32)) = (0 : Int32) then (((96 : Int32) + (p2 &&& (3 : Int32))).toUInt32.toUInt16.toUInt32.toInt32) else ((p2 &&& (65535 : Int32)).toUInt32.toUInt16.toUInt32.toInt32))) = (((96 : Int32) + (p2 &&& (3 : Int32))).toUInt32.toUInt16.toUInt32.toInt32) from by first | exact if_pos hc3_3 | exact if_neg hc3_3 | (simp only [hc3_3, if_true, if_false]; done) | simp [hc3_3]] at kt
      exact k4 t kt
    · have k5 : ∀ t, Steps p.tables e below (s₁.setTop (mkF m 25 #[.val (.int p1), .val (.int p2), .val (.int p3), .val (.int p4), .val (.int ((p2 &&& (65535 : Int32)).toUInt32.toUInt16.toUInt32.toInt32)), .unset, .unset, .unset, .unset, .unset] [])) t → Steps p.tables e below (s₁.setTop (entryFrame m #[(.int p1), (.int p2), (.int p3), (.int p4)] maxLocals)) t := by
        intro t kt
        refine k1 t ?_
        show Steps p.tables e below (s₁.setTop (mkF m 3 #[.val (.int p1), .val (.int p2), .val (.int p3), .val (.int p4), .unset, .unset, .unset, .unset, .unset, .unset] [(.int (p1 &&& (3 : Int32)))])) t
        refine XS.ifYes X0.here hx rfl (pc0 := 3) (pc' := 18) rfl (hb hby at_3) rfl ((if0 _ _).trans (feq hc3_3).2) (by decide) (by decide) ?_
        show Steps p.tables e below (s₁.setTop (mkF m 18 #[.val (.int p1), .val (.int p2), .val (.int p3), .val (.int p4), .unset, .unset, .unset, .unset, .unset, .unset] [])) t
        refine XS.iloadN X0.here hx rfl (hb hby at_18) rfl ?_
        show Steps p.tables e below (s₁.setTop (mkF m 19 #[.val (.int p1), .val (.int p2), .val (.int p3), .val (.int p4), .unset, .unset, .unset, .unset, .unset, .unset] [(.int p2)])) t
        refine X0.ldcInt hx hown (mvT hZ (hw _ (List.mem_of_getElem? (i := 73) rfl))) (g := (mkF m 19 #[.val (.int p1), .val (.int p2), .val (.int p3), .val (.int p4), .unset, .unset, .unset, .unset, .unset, .unset] [(.int p2)])) rfl (hb hby at_19) _ ?_
        show Steps p.tables e below (s₁.setTop (mkF m 21 #[.val (.int p1), .val (.int p2), .val (.int p3), .val (.int p4), .unset, .unset, .unset, .unset, .unset, .unset] [(.int (65535 : Int32)), (.int p2)])) t
        refine XS.iand X0.here hx rfl (hb hby at_21) rfl ?_
        show Steps p.tables e below (s₁.setTop (mkF m 22 #[.val (.int p1), .val (.int p2), .val (.int p3), .val (.int p4), .unset, .unset, .unset, .unset, .unset, .unset] [(.int (p2 &&& (65535 : Int32)))])) t
        refine XS.i2c X0.here hx rfl (hb hby at_22) rfl ?_
        show Steps p.tables e below (s₁.setTop (mkF m 23 #[.val (.int p1), .val (.int p2), .val (.int p3), .val (.int p4), .unset, .unset, .unset, .unset, .unset, .unset] [(.int ((p2 &&& (65535 : Int32)).toUInt32.toUInt16.toUInt32.toInt32))])) t
        refine XS.istore X0.here hx rfl (hb hby at_23) rfl (l' := #[.val (.int p1), .val (.int p2), .val (.int p3), .val (.int p4), .val (.int ((p2 &&& (65535 : Int32)).toUInt32.toUInt16.toUInt32.toInt32)), .unset, .unset, .unset, .unset, .unset]) rfl ?_
        exact kt
      rw [show ((if (p1 &&& (3 : Int32)) = (0 : Int32) then (((96 : Int32) + (p2 &&& (3 : Int32))).toUInt32.toUInt16.toUInt32.toInt32) else ((p2 &&& (65535 : Int32)).toUInt32.toUInt16.toUInt32.toInt32))) = ((p2 &&& (65535 : Int32)).toUInt32.toUInt16.toUInt32.toInt32) from by first | exact if_pos hc3_3 | exact if_neg hc3_3 | (simp only [hc3_3, if_true, if_false]; done) | simp [hc3_3]] at kt
      exact k5 t kt
  have k7 : ∀ t, Steps p.tables e below (s₁.setTop (mkF m 28 #[.val (.int p1), .val (.int p2), .val (.int p3), .val (.int p4), .val (.int (if (p1 &&& (3 : Int32)) = (0 : Int32) then (((96 : Int32) + (p2 &&& (3 : Int32))).toUInt32.toUInt16.toUInt32.toInt32) else ((p2 &&& (65535 : Int32)).toUInt32.toUInt16.toUInt32.toInt32))), .unset, .unset, .unset, .unset, .unset] [(.int (p1 &&& (4 : Int32)))])) t → Steps p.tables e below (s₁.setTop (entryFrame m #[(.int p1), (.int p2), (.int p3), (.int p4)] maxLocals)) t := by
    intro t kt
    refine k2 t ?_
    show Steps p.tables e below (s₁.setTop (mkF m 25 #[.val (.int p1), .val (.int p2), .val (.int p3), .val (.int p4), .val (.int (if (p1 &&& (3 : Int32)) = (0 : Int32) then (((96 : Int32) + (p2 &&& (3 : Int32))).toUInt32.toUInt16.toUInt32.toInt32) else ((p2 &&& (65535 : Int32)).toUInt32.toUInt16.toUInt32.toInt32))), .unset, .unset, .unset, .unset, .unset] [])) t
    refine XS.iloadN X0.here hx rfl (hb hby at_25) rfl ?_
    show Steps p.tables e below (s₁.setTop (mkF m 26 #[.val (.int p1), .val (.int p2), .val (.int p3), .val (.int p4), .val (.int (if (p1 &&& (3 : Int32)) = (0 : Int32) then (((96 : Int32) + (p2 &&& (3 : Int32))).toUInt32.toUInt16.toUInt32.toInt32) else ((p2 &&& (65535 : Int32)).toUInt32.toUInt16.toUInt32.toInt32))), .unset, .unset, .unset, .unset, .unset] [(.int p1)])) t
    refine XS.iconst X0.here hx rfl (hb hby at_26) ?_
    show Steps p.tables e below (s₁.setTop (mkF m 27 #[.val (.int p1), .val (.int p2), .val (.int p3), .val (.int p4), .val (.int (if (p1 &&& (3 : Int32)) = (0 : Int32) then (((96 : Int32) + (p2 &&& (3 : Int32))).toUInt32.toUInt16.toUInt32.toInt32) else ((p2 &&& (65535 : Int32)).toUInt32.toUInt16.toUInt32.toInt32))), .unset, .unset, .unset, .unset, .unset] [(.int (4 : Int32)), (.int p1)])) t
    refine XS.iand X0.here hx rfl (hb hby at_27) rfl ?_
    exact kt
  by_cases hc28_6 : (p1 &&& (4 : Int32)) = (0 : Int32)
  · have k8 : ∀ t, Steps p.tables e below (s₁.setTop (mkF m 39 #[.val (.int p1), .val (.int p2), .val (.int p3), .val (.int p4), .val (.int (if (p1 &&& (3 : Int32)) = (0 : Int32) then (((96 : Int32) + (p2 &&& (3 : Int32))).toUInt32.toUInt16.toUInt32.toInt32) else ((p2 &&& (65535 : Int32)).toUInt32.toUInt16.toUInt32.toInt32))), .unset, .unset, .unset, .unset, .unset] [(.int (2 : Int32))])) t → Steps p.tables e below (s₁.setTop (entryFrame m #[(.int p1), (.int p2), (.int p3), (.int p4)] maxLocals)) t := by
      intro t kt
      refine k7 t ?_
      show Steps p.tables e below (s₁.setTop (mkF m 28 #[.val (.int p1), .val (.int p2), .val (.int p3), .val (.int p4), .val (.int (if (p1 &&& (3 : Int32)) = (0 : Int32) then (((96 : Int32) + (p2 &&& (3 : Int32))).toUInt32.toUInt16.toUInt32.toInt32) else ((p2 &&& (65535 : Int32)).toUInt32.toUInt16.toUInt32.toInt32))), .unset, .unset, .unset, .unset, .unset] [(.int (p1 &&& (4 : Int32)))])) t
      refine XS.ifYes X0.here hx rfl (pc0 := 28) (pc' := 38) rfl (hb hby at_28) rfl ((if0 _ _).trans (teq hc28_6).1) (by decide) (by decide) ?_
      show Steps p.tables e below (s₁.setTop (mkF m 38 #[.val (.int p1), .val (.int p2), .val (.int p3), .val (.int p4), .val (.int (if (p1 &&& (3 : Int32)) = (0 : Int32) then (((96 : Int32) + (p2 &&& (3 : Int32))).toUInt32.toUInt16.toUInt32.toInt32) else ((p2 &&& (65535 : Int32)).toUInt32.toUInt16.toUInt32.toInt32))), .unset, .unset, .unset, .unset, .unset] [])) t
      refine XS.iconst X0.here hx rfl (hb hby at_38) ?_
      exact kt
    obtain ⟨T9, h9, c9, X9, e9, E9, A9, st9⟩ := newP X0 hx hZ (hw _ (List.mem_of_getElem? (i := 0) rfl)) e0 (g := (mkF m 39 #[.val (.int p1), .val (.int p2), .val (.int p3), .val (.int p4), .val (.int (if (p1 &&& (3 : Int32)) = (0 : Int32) then (((96 : Int32) + (p2 &&& (3 : Int32))).toUInt32.toUInt16.toUInt32.toInt32) else ((p2 &&& (65535 : Int32)).toUInt32.toUInt16.toUInt32.toInt32))), .unset, .unset, .unset, .unset, .unset] [(.int (2 : Int32))])) rfl (hb hby at_39) rfl (by decide) (cap := 2) (by decide) (by decide) (by decide) (by decide)
    obtain ⟨b9, g9⟩ : ∃ z, z = h0.size := ⟨_, rfl⟩
    rw [← g9] at A9 st9
    have F10 : Safe Z own_EL s.vm h0 b9 := Safe.new (Nat.le_of_eq g9.symm)
    have g_b9 : n0 ≤ b9 := Nat.le_trans Z0 (Nat.le_of_eq g9.symm)
    have sz_b9 : h0.size ≤ b9 := Nat.le_trans K0.1 (Nat.le_of_eq g9.symm)
    have F11 := Safe.ext E9 C0.1 F10
    have C12 := CHr.trans C0 (CHr.ext E9 C0.1)
    have F13 := O0.ext E9
    have F14 := (Sta.ext O0.2 RC).ext E9
    have hk_15 := Nat.le_trans hk0 E9.1
    have Z9 : n0 ≤ h9.size := Nat.le_trans Z0 E9.1
    have K9 : Keep h0 h9 [] := K0.ext E9
    have F16 : Arv Z h9 b9 c9 .char (2 : Int32) [(.int (0 : Int32)), (.int (0 : Int32))] (.int (0 : Int32)) := (Arv.new A9 (by decide)).pad (pad_rep [] (.int (0 : Int32)) 2)
    have k17 : ∀ t, Steps p.tables e below (T9.setTop (mkF m 41 #[.val (.int p1), .val (.int p2), .val (.int p3), .val (.int p4), .val (.int (if (p1 &&& (3 : Int32)) = (0 : Int32) then (((96 : Int32) + (p2 &&& (3 : Int32))).toUInt32.toUInt16.toUInt32.toInt32) else ((p2 &&& (65535 : Int32)).toUInt32.toUInt16.toUInt32.toInt32))), .unset, .unset, .unset, .unset, .unset] [(.ref b9)])) t → Steps p.tables e below (s₁.setTop (entryFrame m #[(.int p1), (.int p2), (.int p3), (.int p4)] maxLocals)) t := fun t kt => k8 t (st9 t kt)
    have k18 : ∀ t, Steps p.tables e below (T9.setTop (mkF m 52 #[.val (.int p1), .val (.int p2), .val (.int p3), .val (.int p4), .val (.int (if (p1 &&& (3 : Int32)) = (0 : Int32) then (((96 : Int32) + (p2 &&& (3 : Int32))).toUInt32.toUInt16.toUInt32.toInt32) else ((p2 &&& (65535 : Int32)).toUInt32.toUInt16.toUInt32.toInt32))), .unset, .val (.ref b9), .unset, .unset, .unset] [(.int ((p3 &&& (255 : Int32)).toUInt32.toUInt16.toUInt32.toInt32)), (.int (0 : Int32)), (.ref b9)])) t → Steps p.tables e below (s₁.setTop (entryFrame m #[(.int p1), (.int p2), (.int p3), (.int p4)] maxLocals)) t := by
      intro t kt
      refine k17 t ?_
      show Steps p.tables e below (T9.setTop (mkF m 41 #[.val (.int p1), .val (.int p2), .val (.int p3), .val (.int p4), .val (.int (if (p1 &&& (3 : Int32)) = (0 : Int32) then (((96 : Int32) + (p2 &&& (3 : Int32))).toUInt32.toUInt16.toUInt32.toInt32) else ((p2 &&& (65535 : Int32)).toUInt32.toUInt16.toUInt32.toInt32))), .unset, .unset, .unset, .unset, .unset] [(.ref b9)])) t
      refine XS.astore X9.here hx rfl (hb hby at_41) rfl rfl (l' := #[.val (.int p1), .val (.int p2), .val (.int p3), .val (.int p4), .val (.int (if (p1 &&& (3 : Int32)) = (0 : Int32) then (((96 : Int32) + (p2 &&& (3 : Int32))).toUInt32.toUInt16.toUInt32.toInt32) else ((p2 &&& (65535 : Int32)).toUInt32.toUInt16.toUInt32.toInt32))), .unset, .val (.ref b9), .unset, .unset, .unset]) rfl ?_
      show Steps p.tables e below (T9.setTop (mkF m 43 #[.val (.int p1), .val (.int p2), .val (.int p3), .val (.int p4), .val (.int (if (p1 &&& (3 : Int32)) = (0 : Int32) then (((96 : Int32) + (p2 &&& (3 : Int32))).toUInt32.toUInt16.toUInt32.toInt32) else ((p2 &&& (65535 : Int32)).toUInt32.toUInt16.toUInt32.toInt32))), .unset, .val (.ref b9), .unset, .unset, .unset] [])) t
      refine XS.aload X9.here hx rfl (hb hby at_43) rfl rfl ?_
      show Steps p.tables e below (T9.setTop (mkF m 45 #[.val (.int p1), .val (.int p2), .val (.int p3), .val (.int p4), .val (.int (if (p1 &&& (3 : Int32)) = (0 : Int32) then (((96 : Int32) + (p2 &&& (3 : Int32))).toUInt32.toUInt16.toUInt32.toInt32) else ((p2 &&& (65535 : Int32)).toUInt32.toUInt16.toUInt32.toInt32))), .unset, .val (.ref b9), .unset, .unset, .unset] [(.ref b9)])) t
      refine XS.iconst X9.here hx rfl (hb hby at_45) ?_
      show Steps p.tables e below (T9.setTop (mkF m 46 #[.val (.int p1), .val (.int p2), .val (.int p3), .val (.int p4), .val (.int (if (p1 &&& (3 : Int32)) = (0 : Int32) then (((96 : Int32) + (p2 &&& (3 : Int32))).toUInt32.toUInt16.toUInt32.toInt32) else ((p2 &&& (65535 : Int32)).toUInt32.toUInt16.toUInt32.toInt32))), .unset, .val (.ref b9), .unset, .unset, .unset] [(.int (0 : Int32)), (.ref b9)])) t
      refine XS.iloadN X9.here hx rfl (hb hby at_46) rfl ?_
      show Steps p.tables e below (T9.setTop (mkF m 47 #[.val (.int p1), .val (.int p2), .val (.int p3), .val (.int p4), .val (.int (if (p1 &&& (3 : Int32)) = (0 : Int32) then (((96 : Int32) + (p2 &&& (3 : Int32))).toUInt32.toUInt16.toUInt32.toInt32) else ((p2 &&& (65535 : Int32)).toUInt32.toUInt16.toUInt32.toInt32))), .unset, .val (.ref b9), .unset, .unset, .unset] [(.int p3), (.int (0 : Int32)), (.ref b9)])) t
      refine XS.sipush X9.here hx rfl (hb hby at_47) ?_
      show Steps p.tables e below (T9.setTop (mkF m 50 #[.val (.int p1), .val (.int p2), .val (.int p3), .val (.int p4), .val (.int (if (p1 &&& (3 : Int32)) = (0 : Int32) then (((96 : Int32) + (p2 &&& (3 : Int32))).toUInt32.toUInt16.toUInt32.toInt32) else ((p2 &&& (65535 : Int32)).toUInt32.toUInt16.toUInt32.toInt32))), .unset, .val (.ref b9), .unset, .unset, .unset] [(.int (255 : Int32)), (.int p3), (.int (0 : Int32)), (.ref b9)])) t
      refine XS.iand X9.here hx rfl (hb hby at_50) rfl ?_
      show Steps p.tables e below (T9.setTop (mkF m 51 #[.val (.int p1), .val (.int p2), .val (.int p3), .val (.int p4), .val (.int (if (p1 &&& (3 : Int32)) = (0 : Int32) then (((96 : Int32) + (p2 &&& (3 : Int32))).toUInt32.toUInt16.toUInt32.toInt32) else ((p2 &&& (65535 : Int32)).toUInt32.toUInt16.toUInt32.toInt32))), .unset, .val (.ref b9), .unset, .unset, .unset] [(.int (p3 &&& (255 : Int32))), (.int (0 : Int32)), (.ref b9)])) t
      refine XS.i2c X9.here hx rfl (hb hby at_51) rfl ?_
      exact kt
    obtain ⟨cl19, Ar19, q19, S19, M19, H19, G19⟩ := id F16
    have hin19 : ¬ ((0 : Int32) < 0 ∨ cl19.slots.size ≤ ((0 : Int32)).toNatClampNeg) := inb_of S19 ⟨by decide, by decide⟩
    obtain ⟨T19, h19, X19, e19, W19, st19⟩ := stC X9 hx hZ e9 Ar19 (j := (0 : Int32)) hin19 (g := (mkF m 52 #[.val (.int p1), .val (.int p2), .val (.int p3), .val (.int p4), .val (.int (if (p1 &&& (3 : Int32)) = (0 : Int32) then (((96 : Int32) + (p2 &&& (3 : Int32))).toUInt32.toUInt16.toUInt32.toInt32) else ((p2 &&& (65535 : Int32)).toUInt32.toUInt16.toUInt32.toInt32))), .unset, .val (.ref b9), .unset, .unset, .unset] [(.int ((p3 &&& (255 : Int32)).toUInt32.toUInt16.toUInt32.toInt32)), (.int (0 : Int32)), (.ref b9)])) rfl rfl (hb hby at_52)
    have F20 : Arv Z h19 b9 c9 .char (2 : Int32) [(.int (((p3 &&& (255 : Int32)).toUInt32.toUInt16.toUInt32.toInt32).toUInt32.toUInt16.toUInt32.toInt32)), (.int (0 : Int32))] (.int (0 : Int32)) := Arv.set Ar19 q19 S19 M19 H19 G19 (fits_nar_char _) W19 0 rfl (Nat.le_of_ble_eq_true rfl)
    have F21 := Safe.wr W19 F11 C12.1 F11
    have C22 := CHr.trans C12 (CHr.wr W19 F11 C12.1)
    have F23 := F13.wr W19 g_b9
    have F24 := F14.wr W19
    have hk_26 := Nat.le_trans hk_15 (Keep.of_wr W19).1
    have Z19 : n0 ≤ h19.size := Nat.le_trans Z9 (Keep.of_wr W19).1
    have K19 : Keep h0 h19 [] := K9.wr W19 (Or.inr sz_b9)
    have N19 := Fr.snoc X19 N0 g_b9
    have k27 : ∀ t, Steps p.tables e below (T19.setTop (mkF m 53 #[.val (.int p1), .val (.int p2), .val (.int p3), .val (.int p4), .val (.int (if (p1 &&& (3 : Int32)) = (0 : Int32) then (((96 : Int32) + (p2 &&& (3 : Int32))).toUInt32.toUInt16.toUInt32.toInt32) else ((p2 &&& (65535 : Int32)).toUInt32.toUInt16.toUInt32.toInt32))), .unset, .val (.ref b9), .unset, .unset, .unset] [])) t → Steps p.tables e below (s₁.setTop (entryFrame m #[(.int p1), (.int p2), (.int p3), (.int p4)] maxLocals)) t := fun t kt => k18 t (st19 t kt)
    have k28 : ∀ t, Steps p.tables e below (T19.setTop (mkF m 62 #[.val (.int p1), .val (.int p2), .val (.int p3), .val (.int p4), .val (.int (if (p1 &&& (3 : Int32)) = (0 : Int32) then (((96 : Int32) + (p2 &&& (3 : Int32))).toUInt32.toUInt16.toUInt32.toInt32) else ((p2 &&& (65535 : Int32)).toUInt32.toUInt16.toUInt32.toInt32))), .unset, .val (.ref b9), .unset, .unset, .unset] [(.int ((p4 &&& (255 : Int32)).toUInt32.toUInt16.toUInt32.toInt32)), (.int (1 : Int32)), (.ref b9)])) t → Steps p.tables e below (s₁.setTop (entryFrame m #[(.int p1), (.int p2), (.int p3), (.int p4)] maxLocals)) t := by
      intro t kt
      refine k27 t ?_
      show Steps p.tables e below (T19.setTop (mkF m 53 #[.val (.int p1), .val (.int p2), .val (.int p3), .val (.int p4), .val (.int (if (p1 &&& (3 : Int32)) = (0 : Int32) then (((96 : Int32) + (p2 &&& (3 : Int32))).toUInt32.toUInt16.toUInt32.toInt32) else ((p2 &&& (65535 : Int32)).toUInt32.toUInt16.toUInt32.toInt32))), .unset, .val (.ref b9), .unset, .unset, .unset] [])) t
      refine XS.aload X19.here hx rfl (hb hby at_53) rfl rfl ?_
      show Steps p.tables e below (T19.setTop (mkF m 55 #[.val (.int p1), .val (.int p2), .val (.int p3), .val (.int p4), .val (.int (if (p1 &&& (3 : Int32)) = (0 : Int32) then (((96 : Int32) + (p2 &&& (3 : Int32))).toUInt32.toUInt16.toUInt32.toInt32) else ((p2 &&& (65535 : Int32)).toUInt32.toUInt16.toUInt32.toInt32))), .unset, .val (.ref b9), .unset, .unset, .unset] [(.ref b9)])) t
      refine XS.iconst X19.here hx rfl (hb hby at_55) ?_
      show Steps p.tables e below (T19.setTop (mkF m 56 #[.val (.int p1), .val (.int p2), .val (.int p3), .val (.int p4), .val (.int (if (p1 &&& (3 : Int32)) = (0 : Int32) then (((96 : Int32) + (p2 &&& (3 : Int32))).toUInt32.toUInt16.toUInt32.toInt32) else ((p2 &&& (65535 : Int32)).toUInt32.toUInt16.toUInt32.toInt32))), .unset, .val (.ref b9), .unset, .unset, .unset] [(.int (1 : Int32)), (.ref b9)])) t
      refine XS.iloadN X19.here hx rfl (hb hby at_56) rfl ?_
      show Steps p.tables e below (T19.setTop (mkF m 57 #[.val (.int p1), .val (.int p2), .val (.int p3), .val (.int p4), .val (.int (if (p1 &&& (3 : Int32)) = (0 : Int32) then (((96 : Int32) + (p2 &&& (3 : Int32))).toUInt32.toUInt16.toUInt32.toInt32) else ((p2 &&& (65535 : Int32)).toUInt32.toUInt16.toUInt32.toInt32))), .unset, .val (.ref b9), .unset, .unset, .unset] [(.int p4), (.int (1 : Int32)), (.ref b9)])) t
      refine XS.sipush X19.here hx rfl (hb hby at_57) ?_
      show Steps p.tables e below (T19.setTop (mkF m 60 #[.val (.int p1), .val (.int p2), .val (.int p3), .val (.int p4), .val (.int (if (p1 &&& (3 : Int32)) = (0 : Int32) then (((96 : Int32) + (p2 &&& (3 : Int32))).toUInt32.toUInt16.toUInt32.toInt32) else ((p2 &&& (65535 : Int32)).toUInt32.toUInt16.toUInt32.toInt32))), .unset, .val (.ref b9), .unset, .unset, .unset] [(.int (255 : Int32)), (.int p4), (.int (1 : Int32)), (.ref b9)])) t
      refine XS.iand X19.here hx rfl (hb hby at_60) rfl ?_
      show Steps p.tables e below (T19.setTop (mkF m 61 #[.val (.int p1), .val (.int p2), .val (.int p3), .val (.int p4), .val (.int (if (p1 &&& (3 : Int32)) = (0 : Int32) then (((96 : Int32) + (p2 &&& (3 : Int32))).toUInt32.toUInt16.toUInt32.toInt32) else ((p2 &&& (65535 : Int32)).toUInt32.toUInt16.toUInt32.toInt32))), .unset, .val (.ref b9), .unset, .unset, .unset] [(.int (p4 &&& (255 : Int32))), (.int (1 : Int32)), (.ref b9)])) t
      refine XS.i2c X19.here hx rfl (hb hby at_61) rfl ?_
      exact kt
    obtain ⟨cl29, Ar29, q29, S29, M29, H29, G29⟩ := id F20
    have hin29 : ¬ ((1 : Int32) < 0 ∨ cl29.slots.size ≤ ((1 : Int32)).toNatClampNeg) := inb_of S29 ⟨by decide, by decide⟩
    obtain ⟨T29, h29, X29, e29, W29, st29⟩ := stC X19 hx hZ e19 Ar29 (j := (1 : Int32)) hin29 (g := (mkF m 62 #[.val (.int p1), .val (.int p2), .val (.int p3), .val (.int p4), .val (.int (if (p1 &&& (3 : Int32)) = (0 : Int32) then (((96 : Int32) + (p2 &&& (3 : Int32))).toUInt32.toUInt16.toUInt32.toInt32) else ((p2 &&& (65535 : Int32)).toUInt32.toUInt16.toUInt32.toInt32))), .unset, .val (.ref b9), .unset, .unset, .unset] [(.int ((p4 &&& (255 : Int32)).toUInt32.toUInt16.toUInt32.toInt32)), (.int (1 : Int32)), (.ref b9)])) rfl rfl (hb hby at_62)
    have F30 : Arv Z h29 b9 c9 .char (2 : Int32) [(.int (((p3 &&& (255 : Int32)).toUInt32.toUInt16.toUInt32.toInt32).toUInt32.toUInt16.toUInt32.toInt32)), (.int (((p4 &&& (255 : Int32)).toUInt32.toUInt16.toUInt32.toInt32).toUInt32.toUInt16.toUInt32.toInt32))] (.int (0 : Int32)) := Arv.set Ar29 q29 S29 M29 H29 G29 (fits_nar_char _) W29 1 rfl (Nat.le_of_ble_eq_true rfl)
    have F31 := Safe.wr W29 F21 C22.1 F21
    have C32 := CHr.trans C22 (CHr.wr W29 F21 C22.1)
    have F33 := F23.wr W29 g_b9
    have F34 := F24.wr W29
    have hk_36 := Nat.le_trans hk_26 (Keep.of_wr W29).1
    have Z29 : n0 ≤ h29.size := Nat.le_trans Z19 (Keep.of_wr W29).1
    have K29 : Keep h0 h29 [] := K19.wr W29 (Or.inr sz_b9)
    have N29 := Fr.snoc X29 N19 g_b9
    have k37 : ∀ t, Steps p.tables e below (T29.setTop (mkF m 63 #[.val (.int p1), .val (.int p2), .val (.int p3), .val (.int p4), .val (.int (if (p1 &&& (3 : Int32)) = (0 : Int32) then (((96 : Int32) + (p2 &&& (3 : Int32))).toUInt32.toUInt16.toUInt32.toInt32) else ((p2 &&& (65535 : Int32)).toUInt32.toUInt16.toUInt32.toInt32))), .unset, .val (.ref b9), .unset, .unset, .unset] [])) t → Steps p.tables e below (s₁.setTop (entryFrame m #[(.int p1), (.int p2), (.int p3), (.int p4)] maxLocals)) t := fun t kt => k28 t (st29 t kt)
    obtain ⟨T38, h38, X38, e38, E38, A38, D38, -, st38⟩ := newO X29 hx hZ hown (hw _ (List.mem_of_getElem? (i := 1) rfl)) (hw _ (List.mem_of_getElem? (i := 2) rfl)) (hw _ (List.mem_of_getElem? (i := 3) rfl)) e29 (g := (mkF m 63 #[.val (.int p1), .val (.int p2), .val (.int p3), .val (.int p4), .val (.int (if (p1 &&& (3 : Int32)) = (0 : Int32) then (((96 : Int32) + (p2 &&& (3 : Int32))).toUInt32.toUInt16.toUInt32.toInt32) else ((p2 &&& (65535 : Int32)).toUInt32.toUInt16.toUInt32.toInt32))), .unset, .val (.ref b9), .unset, .unset, .unset] [])) rfl (hb hby at_63) (by decide) (by decide)
    obtain ⟨b38, g38⟩ : ∃ z, z = h29.size := ⟨_, rfl⟩
    rw [← g38] at A38 D38 st38
    have F39 : Safe Z own_EL s.vm h29 b38 := Safe.new (Nat.le_of_eq g38.symm)
    have g_b38 : n0 ≤ b38 := Nat.le_trans Z29 (Nat.le_of_eq g38.symm)
    have sz_b38 : h0.size ≤ b38 := Nat.le_trans K29.1 (Nat.le_of_eq g38.symm)
    have ne40 : b9 ≠ b38 := Nat.ne_of_lt (Nat.lt_of_lt_of_le F30.lt (Nat.le_of_eq g38.symm))
    have F41 := Safe.ext E38 C32.1 F31
    have F42 := Safe.ext E38 C32.1 F39
    have C43 := CHr.trans C32 (CHr.ext E38 C32.1)
    have F44 := F33.ext E38
    have F45 := F34.ext E38
    have F46 := F30.ext E38
    have hk_47 := Nat.le_trans hk_36 E38.1
    have Z38 : n0 ≤ h38.size := Nat.le_trans Z29 E38.1
    have K38 : Keep h0 h38 [] := K29.ext E38
    have F48 : Fld Z h38 b38 "java/lang/String" "coder" "B" (.int (0 : Int32)) := D38 (Or.inr (hw _ (List.mem_of_getElem? (i := 27) rfl))) (ty := .byte) (by decide)
    have F49 : Fld Z h38 b38 "java/lang/String" "value" "[B" .null := D38 (Or.inr (hw _ (List.mem_of_getElem? (i := 29) rfl))) (ty := (.array .byte)) (by decide)
    have k50 : ∀ t, Steps p.tables e below (T38.setTop (mkF m 66 #[.val (.int p1), .val (.int p2), .val (.int p3), .val (.int p4), .val (.int (if (p1 &&& (3 : Int32)) = (0 : Int32) then (((96 : Int32) + (p2 &&& (3 : Int32))).toUInt32.toUInt16.toUInt32.toInt32) else ((p2 &&& (65535 : Int32)).toUInt32.toUInt16.toUInt32.toInt32))), .unset, .val (.ref b9), .unset, .unset, .unset] [(.ref b38)])) t → Steps p.tables e below (s₁.setTop (entryFrame m #[(.int p1), (.int p2), (.int p3), (.int p4)] maxLocals)) t := fun t kt => k37 t (st38 t kt)
    have k51 : ∀ t, Steps p.tables e below (T38.setTop (mkF m 69 #[.val (.int p1), .val (.int p2), .val (.int p3), .val (.int p4), .val (.int (if (p1 &&& (3 : Int32)) = (0 : Int32) then (((96 : Int32) + (p2 &&& (3 : Int32))).toUInt32.toUInt16.toUInt32.toInt32) else ((p2 &&& (65535 : Int32)).toUInt32.toUInt16.toUInt32.toInt32))), .unset, .val (.ref b9), .unset, .unset, .unset] [(.ref b9), (.ref b38), (.ref b38)])) t → Steps p.tables e below (s₁.setTop (entryFrame m #[(.int p1), (.int p2), (.int p3), (.int p4)] maxLocals)) t := by
      intro t kt
      refine k50 t ?_
      show Steps p.tables e below (T38.setTop (mkF m 66 #[.val (.int p1), .val (.int p2), .val (.int p3), .val (.int p4), .val (.int (if (p1 &&& (3 : Int32)) = (0 : Int32) then (((96 : Int32) + (p2 &&& (3 : Int32))).toUInt32.toUInt16.toUInt32.toInt32) else ((p2 &&& (65535 : Int32)).toUInt32.toUInt16.toUInt32.toInt32))), .unset, .val (.ref b9), .unset, .unset, .unset] [(.ref b38)])) t
      refine XS.dup X38.here hx rfl (hb hby at_66) rfl rfl ?_
      show Steps p.tables e below (T38.setTop (mkF m 67 #[.val (.int p1), .val (.int p2), .val (.int p3), .val (.int p4), .val (.int (if (p1 &&& (3 : Int32)) = (0 : Int32) then (((96 : Int32) + (p2 &&& (3 : Int32))).toUInt32.toUInt16.toUInt32.toInt32) else ((p2 &&& (65535 : Int32)).toUInt32.toUInt16.toUInt32.toInt32))), .unset, .val (.ref b9), .unset, .unset, .unset] [(.ref b38), (.ref b38)])) t
      refine XS.aload X38.here hx rfl (hb hby at_67) rfl rfl ?_
      exact kt
    obtain ⟨_, _, ⟨T52, L52, k52c, n52⟩, -, X52, ⟨Lc52, hQ52, l52, y52, z52⟩, st52⟩ := X38.specialBack hx (y := (⟨"java/lang/String", "<init>", "([C)V"⟩ : MethodName)) rfl hown (mvT hZ (hw _ (List.mem_of_getElem? (i := 4) rfl))) (mvT hZ (hw _ (List.mem_of_getElem? (i := 5) rfl))) (mvT hZ (hw _ (List.mem_of_getElem? (i := 6) rfl))) (by decide) (backOf (W := 1) (rmSi2 l Z a0 hw [] b38 b9 .null (.int (0 : Int32)) c9 cs (((p3 &&& (255 : Int32)).toUInt32.toUInt16.toUInt32.toInt32).toUInt32.toUInt16.toUInt32.toInt32) (((p4 &&& (255 : Int32)).toUInt32.toUInt16.toUInt32.toInt32).toUInt32.toUInt16.toUInt32.toInt32) h38 n0 Z38 F49 F48 A38 g_b38 (Ne.symm ne40) F46 F45 hcs (own_lt2 _) (own_lt2 _)) hZ (hw _ (List.mem_of_getElem? (i := 6) rfl)) (hw _ (List.mem_of_getElem? (i := 3) rfl)) (by decide) (by decide)) (g := (mkF m 69 #[.val (.int p1), .val (.int p2), .val (.int p3), .val (.int p4), .val (.int (if (p1 &&& (3 : Int32)) = (0 : Int32) then (((96 : Int32) + (p2 &&& (3 : Int32))).toUInt32.toUInt16.toUInt32.toInt32) else ((p2 &&& (65535 : Int32)).toUInt32.toUInt16.toUInt32.toInt32))), .unset, .val (.ref b9), .unset, .unset, .unset] [(.ref b9), (.ref b38), (.ref b38)])) rfl (by rw [hml]; rfl) (Steps.refl _) (a := b38) (argsL := [(.ref b9)]) (rest := [(.ref b38)]) (lenOf own_pd9 rfl) rfl (by show 2 * 0 + _ ≤ _; exact Nat.le_of_eq rfl) (hb hby at_69) (fun _ _ => ⟨rfl, e38, (by decide : 2 + 1 ≤ _), (by decide : 6 + 2 ≤ _)⟩)
    dsimp only [Pt.U, Pt.locs, Pt.cells, Pt.slots] at X52 l52 y52 z52 st52 hQ52
    subst l52 y52 z52
    obtain ⟨rfl, N52q, K52k, -, b52, c52k, s52z, Fv52, Fc52, A52⟩ := hQ52
    have N52 := Fr.app N29 N52q
    have g_b52 : n0 ≤ b52 := Nat.le_trans Z38 s52z
    have sz_b52 : h0.size ≤ b52 := Nat.le_trans K38.1 s52z
    have ne53 : b9 ≠ b52 := Nat.ne_of_lt (Nat.lt_of_lt_of_le F46.lt s52z)
    have ne54 : b38 ≠ b52 := Nat.ne_of_lt (Nat.lt_of_lt_of_le A38.lt s52z)
    have F55 := Safe.keep K52k (sfS F42 sf0) C43.1 F41
    have F56 := Safe.keep K52k (sfS F42 sf0) C43.1 F42
    have C57 := CHr.trans C43 (CHr.keep K52k (sfS F42 sf0) C43.1)
    have F58 := F44.keep K52k (allS g_b38 all0)
    have F59 := Sta.ext F58.2 RC
    have F60 := F46.keep K52k (ninS ne40 nin0)
    have F61 := A38.keep K52k
    have hk_64 := Nat.le_trans hk_47 K52k.1
    have Z65 : n0 ≤ T52.heap.size := Nat.le_trans Z38 K52k.1
    have K65 : Keep h0 T52.heap [] := K38.trans K52k (allS (Or.inr sz_b38) all0)
    have k66 : ∀ t, Steps p.tables e below (T52.setTop (mkF m 72 #[.val (.int p1), .val (.int p2), .val (.int p3), .val (.int p4), .val (.int (if (p1 &&& (3 : Int32)) = (0 : Int32) then (((96 : Int32) + (p2 &&& (3 : Int32))).toUInt32.toUInt16.toUInt32.toInt32) else ((p2 &&& (65535 : Int32)).toUInt32.toUInt16.toUInt32.toInt32))), .unset, .val (.ref b9), .unset, .unset, .unset] [(.ref b38)])) t → Steps p.tables e below (s₁.setTop (entryFrame m #[(.int p1), (.int p2), (.int p3), (.int p4)] maxLocals)) t := fun t kt => k51 t (st52.trans kt)
    have k67 : ∀ t, Steps p.tables e below (T52.setTop (mkF m 74 #[.val (.int p1), .val (.int p2), .val (.int p3), .val (.int p4), .val (.int (if (p1 &&& (3 : Int32)) = (0 : Int32) then (((96 : Int32) + (p2 &&& (3 : Int32))).toUInt32.toUInt16.toUInt32.toInt32) else ((p2 &&& (65535 : Int32)).toUInt32.toUInt16.toUInt32.toInt32))), .val (.ref b38), .val (.ref b9), .unset, .unset, .unset] [])) t → Steps p.tables e below (s₁.setTop (entryFrame m #[(.int p1), (.int p2), (.int p3), (.int p4)] maxLocals)) t := by
      intro t kt
      refine k66 t ?_
      show Steps p.tables e below (T52.setTop (mkF m 72 #[.val (.int p1), .val (.int p2), .val (.int p3), .val (.int p4), .val (.int (if (p1 &&& (3 : Int32)) = (0 : Int32) then (((96 : Int32) + (p2 &&& (3 : Int32))).toUInt32.toUInt16.toUInt32.toInt32) else ((p2 &&& (65535 : Int32)).toUInt32.toUInt16.toUInt32.toInt32))), .unset, .val (.ref b9), .unset, .unset, .unset] [(.ref b38)])) t
      refine XS.astore X52.here hx rfl (hb hby at_72) rfl rfl (l' := #[.val (.int p1), .val (.int p2), .val (.int p3), .val (.int p4), .val (.int (if (p1 &&& (3 : Int32)) = (0 : Int32) then (((96 : Int32) + (p2 &&& (3 : Int32))).toUInt32.toUInt16.toUInt32.toInt32) else ((p2 &&& (65535 : Int32)).toUInt32.toUInt16.toUInt32.toInt32))), .val (.ref b38), .val (.ref b9), .unset, .unset, .unset]) rfl ?_
      exact kt
    obtain ⟨T68, h68, X68, e68, E68, A68, D68, -, st68⟩ := newO X52 hx hZ hown (hw _ (List.mem_of_getElem? (i := 30) rfl)) (hw _ (List.mem_of_getElem? (i := 31) rfl)) (hw _ (List.mem_of_getElem? (i := 32) rfl)) rfl (g := (mkF m 74 #[.val (.int p1), .val (.int p2), .val (.int p3), .val (.int p4), .val (.int (if (p1 &&& (3 : Int32)) = (0 : Int32) then (((96 : Int32) + (p2 &&& (3 : Int32))).toUInt32.toUInt16.toUInt32.toInt32) else ((p2 &&& (65535 : Int32)).toUInt32.toUInt16.toUInt32.toInt32))), .val (.ref b38), .val (.ref b9), .unset, .unset, .unset] [])) rfl (hb hby at_74) (by decide) (by decide)
    obtain ⟨b68, g68⟩ : ∃ z, z = T52.heap.size := ⟨_, rfl⟩
    rw [← g68] at A68 D68 st68
    have F69 : Safe Z own_EL s.vm T52.heap b68 := Safe.new (Nat.le_of_eq g68.symm)
    have g_b68 : n0 ≤ b68 := Nat.le_trans Z65 (Nat.le_of_eq g68.symm)
    have sz_b68 : h0.size ≤ b68 := Nat.le_trans K65.1 (Nat.le_of_eq g68.symm)
    have ne70 : b9 ≠ b68 := Nat.ne_of_lt (Nat.lt_of_lt_of_le F60.lt (Nat.le_of_eq g68.symm))
    have ne71 : b38 ≠ b68 := Nat.ne_of_lt (Nat.lt_of_lt_of_le F61.lt (Nat.le_of_eq g68.symm))
    have ne72 : b52 ≠ b68 := Nat.ne_of_lt (Nat.lt_of_lt_of_le A52.lt (Nat.le_of_eq g68.symm))
    have F73 := Safe.ext E68 C57.1 F55
    have F74 := Safe.ext E68 C57.1 F56
    have F75 := Safe.ext E68 C57.1 F69
    have C76 := CHr.trans C57 (CHr.ext E68 C57.1)
    have F77 := F58.ext E68
    have F78 := F59.ext E68
    have F79 := F60.ext E68
    have F80 := F61.ext E68
    have F81 := Fv52.ext E68
    have F82 := Fc52.ext E68
    have F83 := A52.ext E68
    have hk_84 := Nat.le_trans hk_64 E68.1
    have Z68 : n0 ≤ h68.size := Nat.le_trans Z65 E68.1
    have K68 : Keep h0 h68 [] := K65.ext E68
    have F85 : Fld Z h68 b68 "recensio/records/Subfield" "code" "C" (.int (0 : Int32)) := D68 (Or.inr (hw _ (List.mem_of_getElem? (i := 50) rfl))) (ty := .char) (by decide)
    have F86 : Fld Z h68 b68 "recensio/records/Subfield" "value" "Ljava/lang/String;" .null := D68 (Or.inr (hw _ (List.mem_of_getElem? (i := 52) rfl))) (ty := (.object "java/lang/String")) (by decide)
    have k87 : ∀ t, Steps p.tables e below (T68.setTop (mkF m 77 #[.val (.int p1), .val (.int p2), .val (.int p3), .val (.int p4), .val (.int (if (p1 &&& (3 : Int32)) = (0 : Int32) then (((96 : Int32) + (p2 &&& (3 : Int32))).toUInt32.toUInt16.toUInt32.toInt32) else ((p2 &&& (65535 : Int32)).toUInt32.toUInt16.toUInt32.toInt32))), .val (.ref b38), .val (.ref b9), .unset, .unset, .unset] [(.ref b68)])) t → Steps p.tables e below (s₁.setTop (entryFrame m #[(.int p1), (.int p2), (.int p3), (.int p4)] maxLocals)) t := fun t kt => k67 t (st68 t kt)
    have k88 : ∀ t, Steps p.tables e below (T68.setTop (mkF m 82 #[.val (.int p1), .val (.int p2), .val (.int p3), .val (.int p4), .val (.int (if (p1 &&& (3 : Int32)) = (0 : Int32) then (((96 : Int32) + (p2 &&& (3 : Int32))).toUInt32.toUInt16.toUInt32.toInt32) else ((p2 &&& (65535 : Int32)).toUInt32.toUInt16.toUInt32.toInt32))), .val (.ref b38), .val (.ref b9), .unset, .unset, .unset] [(.ref b38), (.int (if (p1 &&& (3 : Int32)) = (0 : Int32) then (((96 : Int32) + (p2 &&& (3 : Int32))).toUInt32.toUInt16.toUInt32.toInt32) else ((p2 &&& (65535 : Int32)).toUInt32.toUInt16.toUInt32.toInt32))), (.ref b68), (.ref b68)])) t → Steps p.tables e below (s₁.setTop (entryFrame m #[(.int p1), (.int p2), (.int p3), (.int p4)] maxLocals)) t := by
      intro t kt
      refine k87 t ?_
      show Steps p.tables e below (T68.setTop (mkF m 77 #[.val (.int p1), .val (.int p2), .val (.int p3), .val (.int p4), .val (.int (if (p1 &&& (3 : Int32)) = (0 : Int32) then (((96 : Int32) + (p2 &&& (3 : Int32))).toUInt32.toUInt16.toUInt32.toInt32) else ((p2 &&& (65535 : Int32)).toUInt32.toUInt16.toUInt32.toInt32))), .val (.ref b38), .val (.ref b9), .unset, .unset, .unset] [(.ref b68)])) t
      refine XS.dup X68.here hx rfl (hb hby at_77) rfl rfl ?_
      show Steps p.tables e below (T68.setTop (mkF m 78 #[.val (.int p1), .val (.int p2), .val (.int p3), .val (.int p4), .val (.int (if (p1 &&& (3 : Int32)) = (0 : Int32) then (((96 : Int32) + (p2 &&& (3 : Int32))).toUInt32.toUInt16.toUInt32.toInt32) else ((p2 &&& (65535 : Int32)).toUInt32.toUInt16.toUInt32.toInt32))), .val (.ref b38), .val (.ref b9), .unset, .unset, .unset] [(.ref b68), (.ref b68)])) t
      refine XS.iload X68.here hx rfl (hb hby at_78) rfl ?_
      show Steps p.tables e below (T68.setTop (mkF m 80 #[.val (.int p1), .val (.int p2), .val (.int p3), .val (.int p4), .val (.int (if (p1 &&& (3 : Int32)) = (0 : Int32) then (((96 : Int32) + (p2 &&& (3 : Int32))).toUInt32.toUInt16.toUInt32.toInt32) else ((p2 &&& (65535 : Int32)).toUInt32.toUInt16.toUInt32.toInt32))), .val (.ref b38), .val (.ref b9), .unset, .unset, .unset] [(.int (if (p1 &&& (3 : Int32)) = (0 : Int32) then (((96 : Int32) + (p2 &&& (3 : Int32))).toUInt32.toUInt16.toUInt32.toInt32) else ((p2 &&& (65535 : Int32)).toUInt32.toUInt16.toUInt32.toInt32))), (.ref b68), (.ref b68)])) t
      refine XS.aload X68.here hx rfl (hb hby at_80) rfl rfl ?_
      exact kt
    obtain ⟨_, _, ⟨T89, L89, k89c, n89⟩, -, Y89, hS89p, hg89, ⟨Lc89, hQ89, l89, y89, z89, Cn89⟩, st89⟩ := X68.specialBackS hx (y := (⟨"recensio/records/Subfield", "<init>", "(CLjava/lang/String;)V"⟩ : MethodName)) rfl hown (mvT hZ (hw _ (List.mem_of_getElem? (i := 33) rfl))) (mvT hZ (hw _ (List.mem_of_getElem? (i := 34) rfl))) (mvT hZ (hw _ (List.mem_of_getElem? (i := 35) rfl))) (by decide) (own_backSH (s := s) (vm0 := s.vm) (W := 1) (rmSf l Z a0 hw [] b68 (if (p1 &&& (3 : Int32)) = (0 : Int32) then (((96 : Int32) + (p2 &&& (3 : Int32))).toUInt32.toUInt16.toUInt32.toInt32) else ((p2 &&& (65535 : Int32)).toUInt32.toUInt16.toUInt32.toInt32)) b38 h68 n0 Z68 F85 F86 A68 g_b68) hZ (hw _ (List.mem_of_getElem? (i := 35) rfl)) (hw _ (List.mem_of_getElem? (i := 32) rfl)) (by decide) (by decide) hEL C76.1 (own_slS A68.lt F75 (fun _ q => nomatch q))) (g := (mkF m 82 #[.val (.int p1), .val (.int p2), .val (.int p3), .val (.int p4), .val (.int (if (p1 &&& (3 : Int32)) = (0 : Int32) then (((96 : Int32) + (p2 &&& (3 : Int32))).toUInt32.toUInt16.toUInt32.toInt32) else ((p2 &&& (65535 : Int32)).toUInt32.toUInt16.toUInt32.toInt32))), .val (.ref b38), .val (.ref b9), .unset, .unset, .unset] [(.ref b38), (.int (if (p1 &&& (3 : Int32)) = (0 : Int32) then (((96 : Int32) + (p2 &&& (3 : Int32))).toUInt32.toUInt16.toUInt32.toInt32) else ((p2 &&& (65535 : Int32)).toUInt32.toUInt16.toUInt32.toInt32))), (.ref b68), (.ref b68)])) rfl (by rw [hml]; rfl) (Steps.refl _) (a := b68) (argsL := [(.int (if (p1 &&& (3 : Int32)) = (0 : Int32) then (((96 : Int32) + (p2 &&& (3 : Int32))).toUInt32.toUInt16.toUInt32.toInt32) else ((p2 &&& (65535 : Int32)).toUInt32.toUInt16.toUInt32.toInt32))), (.ref b38)]) (rest := [(.ref b68)]) (lenOf own_pd10 rfl) rfl (by show 2 * 0 + _ ≤ _; exact Nat.le_of_eq rfl) (hb hby at_82) (fun _ _ => ⟨rfl, e68, (by decide : 4 + 2 ≤ _), (by decide : 10 + 24 ≤ _)⟩)
    dsimp only [Pt.U, Pt.locs, Pt.cells, Pt.slots] at Y89 hS89p hg89 l89 y89 z89 st89 hQ89 Cn89
    subst l89 y89 z89
    obtain ⟨X89, hS89, hZ89, hown89⟩ := rebS hS0 (by rw [e68]; exact hk_84) Y89 hS89p hg89 hZ hown
    have hk89 := Nat.le_refl T89.heap.size
    obtain ⟨rfl, N89q, K89k, Fc89⟩ := hQ89
    have N89 := Fr.app N52 N89q
    rw [own_ch _ (own_cr p1 p2).1 (own_cr p1 p2).2] at Fc89
    have F90 := CHr.safe Cn89 F79.lt F73
    have F91 := CHr.safe Cn89 F80.lt F74
    have F92 := CHr.safe Cn89 A68.lt F75
    have C93 := CHr.trans C76 Cn89
    have F94 := F77.keep K89k (allS g_b68 all0)
    have F95 := Sta.ext F94.2 RC
    have F96 := F79.keep K89k (ninS ne70 nin0)
    have F97 := F80.keep K89k
    have F98 := F81.keep K89k (ninS ne71 nin0)
    have F99 := F82.keep K89k (ninS ne71 nin0)
    have F100 := F83.keep K89k (ninS ne72 nin0)
    have F101 := A68.keep K89k
    have Z104 : n0 ≤ T89.heap.size := Nat.le_trans Z68 K89k.1
    have K104 : Keep h0 T89.heap [] := K68.trans K89k (allS (Or.inr sz_b68) all0)
    have k105 : ∀ t, Steps p.tables e below (T89.setTop (mkF m 85 #[.val (.int p1), .val (.int p2), .val (.int p3), .val (.int p4), .val (.int (if (p1 &&& (3 : Int32)) = (0 : Int32) then (((96 : Int32) + (p2 &&& (3 : Int32))).toUInt32.toUInt16.toUInt32.toInt32) else ((p2 &&& (65535 : Int32)).toUInt32.toUInt16.toUInt32.toInt32))), .val (.ref b38), .val (.ref b9), .unset, .unset, .unset] [(.ref b68)])) t → Steps p.tables e below (s₁.setTop (entryFrame m #[(.int p1), (.int p2), (.int p3), (.int p4)] maxLocals)) t := fun t kt => k88 t (st89.trans kt)
    have k106 : ∀ t, Steps p.tables e below (T89.setTop (mkF m 87 #[.val (.int p1), .val (.int p2), .val (.int p3), .val (.int p4), .val (.int (if (p1 &&& (3 : Int32)) = (0 : Int32) then (((96 : Int32) + (p2 &&& (3 : Int32))).toUInt32.toUInt16.toUInt32.toInt32) else ((p2 &&& (65535 : Int32)).toUInt32.toUInt16.toUInt32.toInt32))), .val (.ref b38), .val (.ref b68), .unset, .unset, .unset] [])) t → Steps p.tables e below (s₁.setTop (entryFrame m #[(.int p1), (.int p2), (.int p3), (.int p4)] maxLocals)) t := by
      intro t kt
      refine k105 t ?_
      show Steps p.tables e below (T89.setTop (mkF m 85 #[.val (.int p1), .val (.int p2), .val (.int p3), .val (.int p4), .val (.int (if (p1 &&& (3 : Int32)) = (0 : Int32) then (((96 : Int32) + (p2 &&& (3 : Int32))).toUInt32.toUInt16.toUInt32.toInt32) else ((p2 &&& (65535 : Int32)).toUInt32.toUInt16.toUInt32.toInt32))), .val (.ref b38), .val (.ref b9), .unset, .unset, .unset] [(.ref b68)])) t
      refine XS.astore X89.here hx rfl (hb hby at_85) rfl rfl (l' := #[.val (.int p1), .val (.int p2), .val (.int p3), .val (.int p4), .val (.int (if (p1 &&& (3 : Int32)) = (0 : Int32) then (((96 : Int32) + (p2 &&& (3 : Int32))).toUInt32.toUInt16.toUInt32.toInt32) else ((p2 &&& (65535 : Int32)).toUInt32.toUInt16.toUInt32.toInt32))), .val (.ref b38), .val (.ref b68), .unset, .unset, .unset]) rfl ?_
      exact kt
    obtain ⟨T107, h107, X107, e107, E107, A107, D107, -, st107⟩ := newO X89 hx hZ89 hown89 (hw _ (List.mem_of_getElem? (i := 30) rfl)) (hw _ (List.mem_of_getElem? (i := 31) rfl)) (hw _ (List.mem_of_getElem? (i := 32) rfl)) rfl (g := (mkF m 87 #[.val (.int p1), .val (.int p2), .val (.int p3), .val (.int p4), .val (.int (if (p1 &&& (3 : Int32)) = (0 : Int32) then (((96 : Int32) + (p2 &&& (3 : Int32))).toUInt32.toUInt16.toUInt32.toInt32) else ((p2 &&& (65535 : Int32)).toUInt32.toUInt16.toUInt32.toInt32))), .val (.ref b38), .val (.ref b68), .unset, .unset, .unset] [])) rfl (hb hby at_87) (by decide) (by decide)
    obtain ⟨b107, g107⟩ : ∃ z, z = T89.heap.size := ⟨_, rfl⟩
    rw [← g107] at A107 D107 st107
    have F108 : Safe Z own_EL T89.vm T89.heap b107 := Safe.new (Nat.le_of_eq g107.symm)
    have g_b107 : n0 ≤ b107 := Nat.le_trans Z104 (Nat.le_of_eq g107.symm)
    have sz_b107 : h0.size ≤ b107 := Nat.le_trans K104.1 (Nat.le_of_eq g107.symm)
    have ne109 : b9 ≠ b107 := Nat.ne_of_lt (Nat.lt_of_lt_of_le F96.lt (Nat.le_of_eq g107.symm))
    have ne110 : b38 ≠ b107 := Nat.ne_of_lt (Nat.lt_of_lt_of_le F97.lt (Nat.le_of_eq g107.symm))
    have ne111 : b52 ≠ b107 := Nat.ne_of_lt (Nat.lt_of_lt_of_le F100.lt (Nat.le_of_eq g107.symm))
    have ne112 : b68 ≠ b107 := Nat.ne_of_lt (Nat.lt_of_lt_of_le F101.lt (Nat.le_of_eq g107.symm))
    have F113 := Safe.ext E107 C93.1 F90
    have F114 := Safe.ext E107 C93.1 F91
    have F115 := Safe.ext E107 C93.1 F92
    have F116 := Safe.ext E107 C93.1 F108
    have C117 := CHr.trans C93 (CHr.ext E107 C93.1)
    have F118 := F94.ext E107
    have F119 := F95.ext E107
    have F120 := F96.ext E107
    have F121 := F97.ext E107
    have F122 := F98.ext E107
    have F123 := F99.ext E107
    have F124 := F100.ext E107
    have F125 := F101.ext E107
    have F126 := Fc89.ext E107
    have hk_127 := Nat.le_trans hk89 E107.1
    have Z107 : n0 ≤ h107.size := Nat.le_trans Z104 E107.1
    have K107 : Keep h0 h107 [] := K104.ext E107
    have F128 : Fld Z h107 b107 "recensio/records/Subfield" "code" "C" (.int (0 : Int32)) := D107 (Or.inr (hw _ (List.mem_of_getElem? (i := 50) rfl))) (ty := .char) (by decide)
    have F129 : Fld Z h107 b107 "recensio/records/Subfield" "value" "Ljava/lang/String;" .null := D107 (Or.inr (hw _ (List.mem_of_getElem? (i := 52) rfl))) (ty := (.object "java/lang/String")) (by decide)
    have k130 : ∀ t, Steps p.tables e below (T107.setTop (mkF m 90 #[.val (.int p1), .val (.int p2), .val (.int p3), .val (.int p4), .val (.int (if (p1 &&& (3 : Int32)) = (0 : Int32) then (((96 : Int32) + (p2 &&& (3 : Int32))).toUInt32.toUInt16.toUInt32.toInt32) else ((p2 &&& (65535 : Int32)).toUInt32.toUInt16.toUInt32.toInt32))), .val (.ref b38), .val (.ref b68), .unset, .unset, .unset] [(.ref b107)])) t → Steps p.tables e below (s₁.setTop (entryFrame m #[(.int p1), (.int p2), (.int p3), (.int p4)] maxLocals)) t := fun t kt => k106 t (st107 t kt)
    have k131 : ∀ t, Steps p.tables e below (T107.setTop (mkF m 101 #[.val (.int p1), .val (.int p2), .val (.int p3), .val (.int p4), .val (.int (if (p1 &&& (3 : Int32)) = (0 : Int32) then (((96 : Int32) + (p2 &&& (3 : Int32))).toUInt32.toUInt16.toUInt32.toInt32) else ((p2 &&& (65535 : Int32)).toUInt32.toUInt16.toUInt32.toInt32))), .val (.ref b38), .val (.ref b68), .unset, .unset, .unset] [(.int (((p3 ^^^ p4) &&& (255 : Int32)).toUInt32.toUInt16.toUInt32.toInt32)), (.int (if (p1 &&& (3 : Int32)) = (0 : Int32) then (((96 : Int32) + (p2 &&& (3 : Int32))).toUInt32.toUInt16.toUInt32.toInt32) else ((p2 &&& (65535 : Int32)).toUInt32.toUInt16.toUInt32.toInt32))), (.ref b107), (.ref b107)])) t → Steps p.tables e below (s₁.setTop (entryFrame m #[(.int p1), (.int p2), (.int p3), (.int p4)] maxLocals)) t := by
      intro t kt
      refine k130 t ?_
      show Steps p.tables e below (T107.setTop (mkF m 90 #[.val (.int p1), .val (.int p2), .val (.int p3), .val (.int p4), .val (.int (if (p1 &&& (3 : Int32)) = (0 : Int32) then (((96 : Int32) + (p2 &&& (3 : Int32))).toUInt32.toUInt16.toUInt32.toInt32) else ((p2 &&& (65535 : Int32)).toUInt32.toUInt16.toUInt32.toInt32))), .val (.ref b38), .val (.ref b68), .unset, .unset, .unset] [(.ref b107)])) t
      refine XS.dup X107.here hx rfl (hb hby at_90) rfl rfl ?_
      show Steps p.tables e below (T107.setTop (mkF m 91 #[.val (.int p1), .val (.int p2), .val (.int p3), .val (.int p4), .val (.int (if (p1 &&& (3 : Int32)) = (0 : Int32) then (((96 : Int32) + (p2 &&& (3 : Int32))).toUInt32.toUInt16.toUInt32.toInt32) else ((p2 &&& (65535 : Int32)).toUInt32.toUInt16.toUInt32.toInt32))), .val (.ref b38), .val (.ref b68), .unset, .unset, .unset] [(.ref b107), (.ref b107)])) t
      refine XS.iload X107.here hx rfl (hb hby at_91) rfl ?_
      show Steps p.tables e below (T107.setTop (mkF m 93 #[.val (.int p1), .val (.int p2), .val (.int p3), .val (.int p4), .val (.int (if (p1 &&& (3 : Int32)) = (0 : Int32) then (((96 : Int32) + (p2 &&& (3 : Int32))).toUInt32.toUInt16.toUInt32.toInt32) else ((p2 &&& (65535 : Int32)).toUInt32.toUInt16.toUInt32.toInt32))), .val (.ref b38), .val (.ref b68), .unset, .unset, .unset] [(.int (if (p1 &&& (3 : Int32)) = (0 : Int32) then (((96 : Int32) + (p2 &&& (3 : Int32))).toUInt32.toUInt16.toUInt32.toInt32) else ((p2 &&& (65535 : Int32)).toUInt32.toUInt16.toUInt32.toInt32))), (.ref b107), (.ref b107)])) t
      refine XS.iloadN X107.here hx rfl (hb hby at_93) rfl ?_
      show Steps p.tables e below (T107.setTop (mkF m 94 #[.val (.int p1), .val (.int p2), .val (.int p3), .val (.int p4), .val (.int (if (p1 &&& (3 : Int32)) = (0 : Int32) then (((96 : Int32) + (p2 &&& (3 : Int32))).toUInt32.toUInt16.toUInt32.toInt32) else ((p2 &&& (65535 : Int32)).toUInt32.toUInt16.toUInt32.toInt32))), .val (.ref b38), .val (.ref b68), .unset, .unset, .unset] [(.int p3), (.int (if (p1 &&& (3 : Int32)) = (0 : Int32) then (((96 : Int32) + (p2 &&& (3 : Int32))).toUInt32.toUInt16.toUInt32.toInt32) else ((p2 &&& (65535 : Int32)).toUInt32.toUInt16.toUInt32.toInt32))), (.ref b107), (.ref b107)])) t
      refine XS.iloadN X107.here hx rfl (hb hby at_94) rfl ?_
      show Steps p.tables e below (T107.setTop (mkF m 95 #[.val (.int p1), .val (.int p2), .val (.int p3), .val (.int p4), .val (.int (if (p1 &&& (3 : Int32)) = (0 : Int32) then (((96 : Int32) + (p2 &&& (3 : Int32))).toUInt32.toUInt16.toUInt32.toInt32) else ((p2 &&& (65535 : Int32)).toUInt32.toUInt16.toUInt32.toInt32))), .val (.ref b38), .val (.ref b68), .unset, .unset, .unset] [(.int p4), (.int p3), (.int (if (p1 &&& (3 : Int32)) = (0 : Int32) then (((96 : Int32) + (p2 &&& (3 : Int32))).toUInt32.toUInt16.toUInt32.toInt32) else ((p2 &&& (65535 : Int32)).toUInt32.toUInt16.toUInt32.toInt32))), (.ref b107), (.ref b107)])) t
      refine XS.ixor X107.here hx rfl (hb hby at_95) rfl ?_
      show Steps p.tables e below (T107.setTop (mkF m 96 #[.val (.int p1), .val (.int p2), .val (.int p3), .val (.int p4), .val (.int (if (p1 &&& (3 : Int32)) = (0 : Int32) then (((96 : Int32) + (p2 &&& (3 : Int32))).toUInt32.toUInt16.toUInt32.toInt32) else ((p2 &&& (65535 : Int32)).toUInt32.toUInt16.toUInt32.toInt32))), .val (.ref b38), .val (.ref b68), .unset, .unset, .unset] [(.int (p3 ^^^ p4)), (.int (if (p1 &&& (3 : Int32)) = (0 : Int32) then (((96 : Int32) + (p2 &&& (3 : Int32))).toUInt32.toUInt16.toUInt32.toInt32) else ((p2 &&& (65535 : Int32)).toUInt32.toUInt16.toUInt32.toInt32))), (.ref b107), (.ref b107)])) t
      refine XS.sipush X107.here hx rfl (hb hby at_96) ?_
      show Steps p.tables e below (T107.setTop (mkF m 99 #[.val (.int p1), .val (.int p2), .val (.int p3), .val (.int p4), .val (.int (if (p1 &&& (3 : Int32)) = (0 : Int32) then (((96 : Int32) + (p2 &&& (3 : Int32))).toUInt32.toUInt16.toUInt32.toInt32) else ((p2 &&& (65535 : Int32)).toUInt32.toUInt16.toUInt32.toInt32))), .val (.ref b38), .val (.ref b68), .unset, .unset, .unset] [(.int (255 : Int32)), (.int (p3 ^^^ p4)), (.int (if (p1 &&& (3 : Int32)) = (0 : Int32) then (((96 : Int32) + (p2 &&& (3 : Int32))).toUInt32.toUInt16.toUInt32.toInt32) else ((p2 &&& (65535 : Int32)).toUInt32.toUInt16.toUInt32.toInt32))), (.ref b107), (.ref b107)])) t
      refine XS.iand X107.here hx rfl (hb hby at_99) rfl ?_
      show Steps p.tables e below (T107.setTop (mkF m 100 #[.val (.int p1), .val (.int p2), .val (.int p3), .val (.int p4), .val (.int (if (p1 &&& (3 : Int32)) = (0 : Int32) then (((96 : Int32) + (p2 &&& (3 : Int32))).toUInt32.toUInt16.toUInt32.toInt32) else ((p2 &&& (65535 : Int32)).toUInt32.toUInt16.toUInt32.toInt32))), .val (.ref b38), .val (.ref b68), .unset, .unset, .unset] [(.int ((p3 ^^^ p4) &&& (255 : Int32))), (.int (if (p1 &&& (3 : Int32)) = (0 : Int32) then (((96 : Int32) + (p2 &&& (3 : Int32))).toUInt32.toUInt16.toUInt32.toInt32) else ((p2 &&& (65535 : Int32)).toUInt32.toUInt16.toUInt32.toInt32))), (.ref b107), (.ref b107)])) t
      refine XS.i2c X107.here hx rfl (hb hby at_100) rfl ?_
      exact kt
    obtain ⟨_, _, ⟨T132, L132, k132c, n132⟩, -, X132, ⟨Lc132, hQ132, l132, y132, z132⟩, st132⟩ := Jvm.LawKit.callS X107 hx (y := (⟨"java/lang/String", "valueOf", "(C)Ljava/lang/String;"⟩ : MethodName)) hown89 (mvT hZ89 (hw _ (List.mem_of_getElem? (i := 53) rfl))) (mvT hZ89 (hw _ (List.mem_of_getElem? (i := 54) rfl))) (mvT hZ89 (hw _ (List.mem_of_getElem? (i := 3) rfl))) (mvT hZ89 (hw _ (List.mem_of_getElem? (i := 55) rfl))) (by decide) (backOf (W := 3) (rmVal l Z a0 hw [] (((p3 ^^^ p4) &&& (255 : Int32)).toUInt32.toUInt16.toUInt32.toInt32) cs h107 n0 Z107 F119 hcs (own_lt1 _)) hZ89 (hw _ (List.mem_of_getElem? (i := 55) rfl)) (hw _ (List.mem_of_getElem? (i := 3) rfl)) (by decide) (by decide)) (g := (mkF m 101 #[.val (.int p1), .val (.int p2), .val (.int p3), .val (.int p4), .val (.int (if (p1 &&& (3 : Int32)) = (0 : Int32) then (((96 : Int32) + (p2 &&& (3 : Int32))).toUInt32.toUInt16.toUInt32.toInt32) else ((p2 &&& (65535 : Int32)).toUInt32.toUInt16.toUInt32.toInt32))), .val (.ref b38), .val (.ref b68), .unset, .unset, .unset] [(.int (((p3 ^^^ p4) &&& (255 : Int32)).toUInt32.toUInt16.toUInt32.toInt32)), (.int (if (p1 &&& (3 : Int32)) = (0 : Int32) then (((96 : Int32) + (p2 &&& (3 : Int32))).toUInt32.toUInt16.toUInt32.toInt32) else ((p2 &&& (65535 : Int32)).toUInt32.toUInt16.toUInt32.toInt32))), (.ref b107), (.ref b107)])) rfl (by rw [hml]; rfl) (argsL := [(.int (((p3 ^^^ p4) &&& (255 : Int32)).toUInt32.toUInt16.toUInt32.toInt32))]) (rest := [(.int (if (p1 &&& (3 : Int32)) = (0 : Int32) then (((96 : Int32) + (p2 &&& (3 : Int32))).toUInt32.toUInt16.toUInt32.toInt32) else ((p2 &&& (65535 : Int32)).toUInt32.toUInt16.toUInt32.toInt32))), (.ref b107), (.ref b107)]) (lenOf own_pd11 rfl) rfl (by show 2 * 0 + _ ≤ _; exact Nat.le_of_eq rfl) (hb hby at_101) (fun _ _ => ⟨rfl, e107, (by decide : 7 + 2 ≤ _), (by decide : 36 + 5 ≤ _)⟩)
    dsimp only [Pt.U, Pt.locs, Pt.cells, Pt.slots] at X132 l132 y132 z132 st132 hQ132
    subst l132 y132 z132
    obtain ⟨r132, b132, c132, rfl, N132q, K132k, s132z, E132r, -, -, -⟩ := hQ132
    have N132 := Fr.app N89 N132q
    have g_r132 : n0 ≤ r132 := Nat.le_trans Z107 s132z
    have sz_r132 : h0.size ≤ r132 := Nat.le_trans K107.1 s132z
    have ne133 : b9 ≠ r132 := Nat.ne_of_lt (Nat.lt_of_lt_of_le F120.lt s132z)
    have ne134 : b38 ≠ r132 := Nat.ne_of_lt (Nat.lt_of_lt_of_le F121.lt s132z)
    have ne135 : b52 ≠ r132 := Nat.ne_of_lt (Nat.lt_of_lt_of_le F124.lt s132z)
    have ne136 : b68 ≠ r132 := Nat.ne_of_lt (Nat.lt_of_lt_of_le F125.lt s132z)
    have ne137 : b107 ≠ r132 := Nat.ne_of_lt (Nat.lt_of_lt_of_le A107.lt s132z)
    have F138 := Safe.keep K132k sf0 C117.1 F113
    have F139 := Safe.keep K132k sf0 C117.1 F114
    have F140 := Safe.keep K132k sf0 C117.1 F115
    have F141 := Safe.keep K132k sf0 C117.1 F116
    have C142 := CHr.trans C117 (CHr.keep K132k sf0 C117.1)
    have F143 := F118.keep K132k all0
    have F144 := Sta.ext F143.2 RC
    have F145 := F120.keep K132k nin0
    have F146 := F121.keep K132k
    have F147 := F122.keep K132k nin0
    have F148 := F123.keep K132k nin0
    have F149 := F124.keep K132k nin0
    have F150 := F125.keep K132k
    have F151 := F126.keep K132k nin0
    have F152 := A107.keep K132k
    have F153 := F128.keep K132k nin0
    have F154 := F129.keep K132k nin0
    have hk_155 := Nat.le_trans hk_127 K132k.1
    have Z156 : n0 ≤ T132.heap.size := Nat.le_trans Z107 K132k.1
    have K156 : Keep h0 T132.heap [] := K107.trans K132k all0
    have k157 : ∀ t, Steps p.tables e below (T132.setTop (mkF m 104 #[.val (.int p1), .val (.int p2), .val (.int p3), .val (.int p4), .val (.int (if (p1 &&& (3 : Int32)) = (0 : Int32) then (((96 : Int32) + (p2 &&& (3 : Int32))).toUInt32.toUInt16.toUInt32.toInt32) else ((p2 &&& (65535 : Int32)).toUInt32.toUInt16.toUInt32.toInt32))), .val (.ref b38), .val (.ref b68), .unset, .unset, .unset] [(.ref r132), (.int (if (p1 &&& (3 : Int32)) = (0 : Int32) then (((96 : Int32) + (p2 &&& (3 : Int32))).toUInt32.toUInt16.toUInt32.toInt32) else ((p2 &&& (65535 : Int32)).toUInt32.toUInt16.toUInt32.toInt32))), (.ref b107), (.ref b107)])) t → Steps p.tables e below (s₁.setTop (entryFrame m #[(.int p1), (.int p2), (.int p3), (.int p4)] maxLocals)) t := fun t kt => k131 t (st132 t kt)
    obtain ⟨_, _, ⟨T158, L158, k158c, n158⟩, -, Y158, hS158p, hg158, ⟨Lc158, hQ158, l158, y158, z158, Cn158⟩, st158⟩ := X132.specialBackS hx (y := (⟨"recensio/records/Subfield", "<init>", "(CLjava/lang/String;)V"⟩ : MethodName)) rfl hown89 (mvT hZ89 (hw _ (List.mem_of_getElem? (i := 33) rfl))) (mvT hZ89 (hw _ (List.mem_of_getElem? (i := 34) rfl))) (mvT hZ89 (hw _ (List.mem_of_getElem? (i := 35) rfl))) (by decide) (own_backSH (s := s) (vm0 := T89.vm) (W := 1) (rmSf l Z a0 hw [] b107 (if (p1 &&& (3 : Int32)) = (0 : Int32) then (((96 : Int32) + (p2 &&& (3 : Int32))).toUInt32.toUInt16.toUInt32.toInt32) else ((p2 &&& (65535 : Int32)).toUInt32.toUInt16.toUInt32.toInt32)) r132 T132.heap n0 Z156 F153 F154 F152 g_b107) hZ89 (hw _ (List.mem_of_getElem? (i := 35) rfl)) (hw _ (List.mem_of_getElem? (i := 32) rfl)) (by decide) (by decide) hEL C142.1 (own_slS F152.lt F141 (fun _ q => nomatch q))) (g := (mkF m 104 #[.val (.int p1), .val (.int p2), .val (.int p3), .val (.int p4), .val (.int (if (p1 &&& (3 : Int32)) = (0 : Int32) then (((96 : Int32) + (p2 &&& (3 : Int32))).toUInt32.toUInt16.toUInt32.toInt32) else ((p2 &&& (65535 : Int32)).toUInt32.toUInt16.toUInt32.toInt32))), .val (.ref b38), .val (.ref b68), .unset, .unset, .unset] [(.ref r132), (.int (if (p1 &&& (3 : Int32)) = (0 : Int32) then (((96 : Int32) + (p2 &&& (3 : Int32))).toUInt32.toUInt16.toUInt32.toInt32) else ((p2 &&& (65535 : Int32)).toUInt32.toUInt16.toUInt32.toInt32))), (.ref b107), (.ref b107)])) rfl (by rw [hml]; rfl) (Steps.refl _) (a := b107) (argsL := [(.int (if (p1 &&& (3 : Int32)) = (0 : Int32) then (((96 : Int32) + (p2 &&& (3 : Int32))).toUInt32.toUInt16.toUInt32.toInt32) else ((p2 &&& (65535 : Int32)).toUInt32.toUInt16.toUInt32.toInt32))), (.ref r132)]) (rest := [(.ref b107)]) (lenOf own_pd10 rfl) rfl (by show 2 * 0 + _ ≤ _; exact Nat.le_of_eq rfl) (hb hby at_104) (fun _ _ => ⟨rfl, rfl, (by decide : 9 + 2 ≤ _), (by decide : 41 + 24 ≤ _)⟩)
    dsimp only [Pt.U, Pt.locs, Pt.cells, Pt.slots] at Y158 hS158p hg158 l158 y158 z158 st158 hQ158 Cn158
    subst l158 y158 z158
    obtain ⟨X158, hS158, hZ158, hown158⟩ := rebS hS89 hk_155 Y158 hS158p hg158 hZ89 hown89
    have hk158 := Nat.le_refl T158.heap.size
    obtain ⟨rfl, N158q, K158k, Fc158⟩ := hQ158
    have N158 := Fr.app N132 N158q
    rw [own_ch _ (own_cr p1 p2).1 (own_cr p1 p2).2] at Fc158
    have F159 := CHr.safe Cn158 F145.lt F138
    have F160 := CHr.safe Cn158 F146.lt F139
    have F161 := CHr.safe Cn158 F150.lt F140
    have F162 := CHr.safe Cn158 F152.lt F141
    have C163 := CHr.trans C142 Cn158
    have F164 := F143.keep K158k (allS g_b107 all0)
    have F165 := Sta.ext F164.2 RC
    have F166 := F145.keep K158k (ninS ne109 nin0)
    have F167 := F146.keep K158k
    have F168 := F147.keep K158k (ninS ne110 nin0)
    have F169 := F148.keep K158k (ninS ne110 nin0)
    have F170 := F149.keep K158k (ninS ne111 nin0)
    have F171 := F150.keep K158k
    have F172 := F151.keep K158k (ninS ne112 nin0)
    have F173 := F152.keep K158k
    have F176 := E132r.keep K158k
    have Z177 : n0 ≤ T158.heap.size := Nat.le_trans Z156 K158k.1
    have K177 : Keep h0 T158.heap [] := K156.trans K158k (allS (Or.inr sz_b107) all0)
    have k178 : ∀ t, Steps p.tables e below (T158.setTop (mkF m 107 #[.val (.int p1), .val (.int p2), .val (.int p3), .val (.int p4), .val (.int (if (p1 &&& (3 : Int32)) = (0 : Int32) then (((96 : Int32) + (p2 &&& (3 : Int32))).toUInt32.toUInt16.toUInt32.toInt32) else ((p2 &&& (65535 : Int32)).toUInt32.toUInt16.toUInt32.toInt32))), .val (.ref b38), .val (.ref b68), .unset, .unset, .unset] [(.ref b107)])) t → Steps p.tables e below (s₁.setTop (entryFrame m #[(.int p1), (.int p2), (.int p3), (.int p4)] maxLocals)) t := fun t kt => k157 t (st158.trans kt)
    have k179 : ∀ t, Steps p.tables e below (T158.setTop (mkF m 118 #[.val (.int p1), .val (.int p2), .val (.int p3), .val (.int p4), .val (.int (if (p1 &&& (3 : Int32)) = (0 : Int32) then (((96 : Int32) + (p2 &&& (3 : Int32))).toUInt32.toUInt16.toUInt32.toInt32) else ((p2 &&& (65535 : Int32)).toUInt32.toUInt16.toUInt32.toInt32))), .val (.ref b38), .val (.ref b68), .val (.ref b107), .val (.int ((if (p1 &&& (3 : Int32)) = (0 : Int32) then (((96 : Int32) + (p2 &&& (3 : Int32))).toUInt32.toUInt16.toUInt32.toInt32) else ((p2 &&& (65535 : Int32)).toUInt32.toUInt16.toUInt32.toInt32)) - (97 : Int32))), .unset] [(.int ((if (p1 &&& (3 : Int32)) = (0 : Int32) then (((96 : Int32) + (p2 &&& (3 : Int32))).toUInt32.toUInt16.toUInt32.toInt32) else ((p2 &&& (65535 : Int32)).toUInt32.toUInt16.toUInt32.toInt32)) - (97 : Int32)))])) t → Steps p.tables e below (s₁.setTop (entryFrame m #[(.int p1), (.int p2), (.int p3), (.int p4)] maxLocals)) t := by
      intro t kt
      refine k178 t ?_
      show Steps p.tables e below (T158.setTop (mkF m 107 #[.val (.int p1), .val (.int p2), .val (.int p3), .val (.int p4), .val (.int (if (p1 &&& (3 : Int32)) = (0 : Int32) then (((96 : Int32) + (p2 &&& (3 : Int32))).toUInt32.toUInt16.toUInt32.toInt32) else ((p2 &&& (65535 : Int32)).toUInt32.toUInt16.toUInt32.toInt32))), .val (.ref b38), .val (.ref b68), .unset, .unset, .unset] [(.ref b107)])) t
      refine XS.astore X158.here hx rfl (hb hby at_107) rfl rfl (l' := #[.val (.int p1), .val (.int p2), .val (.int p3), .val (.int p4), .val (.int (if (p1 &&& (3 : Int32)) = (0 : Int32) then (((96 : Int32) + (p2 &&& (3 : Int32))).toUInt32.toUInt16.toUInt32.toInt32) else ((p2 &&& (65535 : Int32)).toUInt32.toUInt16.toUInt32.toInt32))), .val (.ref b38), .val (.ref b68), .val (.ref b107), .unset, .unset]) rfl ?_
      show Steps p.tables e below (T158.setTop (mkF m 109 #[.val (.int p1), .val (.int p2), .val (.int p3), .val (.int p4), .val (.int (if (p1 &&& (3 : Int32)) = (0 : Int32) then (((96 : Int32) + (p2 &&& (3 : Int32))).toUInt32.toUInt16.toUInt32.toInt32) else ((p2 &&& (65535 : Int32)).toUInt32.toUInt16.toUInt32.toInt32))), .val (.ref b38), .val (.ref b68), .val (.ref b107), .unset, .unset] [])) t
      refine XS.iload X158.here hx rfl (hb hby at_109) rfl ?_
      show Steps p.tables e below (T158.setTop (mkF m 111 #[.val (.int p1), .val (.int p2), .val (.int p3), .val (.int p4), .val (.int (if (p1 &&& (3 : Int32)) = (0 : Int32) then (((96 : Int32) + (p2 &&& (3 : Int32))).toUInt32.toUInt16.toUInt32.toInt32) else ((p2 &&& (65535 : Int32)).toUInt32.toUInt16.toUInt32.toInt32))), .val (.ref b38), .val (.ref b68), .val (.ref b107), .unset, .unset] [(.int (if (p1 &&& (3 : Int32)) = (0 : Int32) then (((96 : Int32) + (p2 &&& (3 : Int32))).toUInt32.toUInt16.toUInt32.toInt32) else ((p2 &&& (65535 : Int32)).toUInt32.toUInt16.toUInt32.toInt32)))])) t
      refine XS.bipush X158.here hx rfl (hb hby at_111) ?_
      show Steps p.tables e below (T158.setTop (mkF m 113 #[.val (.int p1), .val (.int p2), .val (.int p3), .val (.int p4), .val (.int (if (p1 &&& (3 : Int32)) = (0 : Int32) then (((96 : Int32) + (p2 &&& (3 : Int32))).toUInt32.toUInt16.toUInt32.toInt32) else ((p2 &&& (65535 : Int32)).toUInt32.toUInt16.toUInt32.toInt32))), .val (.ref b38), .val (.ref b68), .val (.ref b107), .unset, .unset] [(.int (97 : Int32)), (.int (if (p1 &&& (3 : Int32)) = (0 : Int32) then (((96 : Int32) + (p2 &&& (3 : Int32))).toUInt32.toUInt16.toUInt32.toInt32) else ((p2 &&& (65535 : Int32)).toUInt32.toUInt16.toUInt32.toInt32)))])) t
      refine XS.isub X158.here hx rfl (hb hby at_113) rfl ?_
      show Steps p.tables e below (T158.setTop (mkF m 114 #[.val (.int p1), .val (.int p2), .val (.int p3), .val (.int p4), .val (.int (if (p1 &&& (3 : Int32)) = (0 : Int32) then (((96 : Int32) + (p2 &&& (3 : Int32))).toUInt32.toUInt16.toUInt32.toInt32) else ((p2 &&& (65535 : Int32)).toUInt32.toUInt16.toUInt32.toInt32))), .val (.ref b38), .val (.ref b68), .val (.ref b107), .unset, .unset] [(.int ((if (p1 &&& (3 : Int32)) = (0 : Int32) then (((96 : Int32) + (p2 &&& (3 : Int32))).toUInt32.toUInt16.toUInt32.toInt32) else ((p2 &&& (65535 : Int32)).toUInt32.toUInt16.toUInt32.toInt32)) - (97 : Int32)))])) t
      refine XS.istore X158.here hx rfl (hb hby at_114) rfl (l' := #[.val (.int p1), .val (.int p2), .val (.int p3), .val (.int p4), .val (.int (if (p1 &&& (3 : Int32)) = (0 : Int32) then (((96 : Int32) + (p2 &&& (3 : Int32))).toUInt32.toUInt16.toUInt32.toInt32) else ((p2 &&& (65535 : Int32)).toUInt32.toUInt16.toUInt32.toInt32))), .val (.ref b38), .val (.ref b68), .val (.ref b107), .val (.int ((if (p1 &&& (3 : Int32)) = (0 : Int32) then (((96 : Int32) + (p2 &&& (3 : Int32))).toUInt32.toUInt16.toUInt32.toInt32) else ((p2 &&& (65535 : Int32)).toUInt32.toUInt16.toUInt32.toInt32)) - (97 : Int32))), .unset]) rfl ?_
      show Steps p.tables e below (T158.setTop (mkF m 116 #[.val (.int p1), .val (.int p2), .val (.int p3), .val (.int p4), .val (.int (if (p1 &&& (3 : Int32)) = (0 : Int32) then (((96 : Int32) + (p2 &&& (3 : Int32))).toUInt32.toUInt16.toUInt32.toInt32) else ((p2 &&& (65535 : Int32)).toUInt32.toUInt16.toUInt32.toInt32))), .val (.ref b38), .val (.ref b68), .val (.ref b107), .val (.int ((if (p1 &&& (3 : Int32)) = (0 : Int32) then (((96 : Int32) + (p2 &&& (3 : Int32))).toUInt32.toUInt16.toUInt32.toInt32) else ((p2 &&& (65535 : Int32)).toUInt32.toUInt16.toUInt32.toInt32)) - (97 : Int32))), .unset] [])) t
      refine XS.iload X158.here hx rfl (hb hby at_116) rfl ?_
      exact kt
    have k180 : ∀ t, Steps p.tables e below (T158.setTop (mkF m 132 #[.val (.int p1), .val (.int p2), .val (.int p3), .val (.int p4), .val (.int (if (p1 &&& (3 : Int32)) = (0 : Int32) then (((96 : Int32) + (p2 &&& (3 : Int32))).toUInt32.toUInt16.toUInt32.toInt32) else ((p2 &&& (65535 : Int32)).toUInt32.toUInt16.toUInt32.toInt32))), .val (.ref b38), .val (.ref b68), .val (.ref b107), .val (.int ((if (p1 &&& (3 : Int32)) = (0 : Int32) then (((96 : Int32) + (p2 &&& (3 : Int32))).toUInt32.toUInt16.toUInt32.toInt32) else ((p2 &&& (65535 : Int32)).toUInt32.toUInt16.toUInt32.toInt32)) - (97 : Int32))), .unset] [(.int (own_ex ((if (p1 &&& (3 : Int32)) = (0 : Int32) then (((96 : Int32) + (p2 &&& (3 : Int32))).toUInt32.toUInt16.toUInt32.toInt32) else ((p2 &&& (65535 : Int32)).toUInt32.toUInt16.toUInt32.toInt32)) - (97 : Int32))))])) t → Steps p.tables e below (s₁.setTop (entryFrame m #[(.int p1), (.int p2), (.int p3), (.int p4)] maxLocals)) t := by
      intro t kt
      by_cases hc118_181 : ((if (p1 &&& (3 : Int32)) = (0 : Int32) then (((96 : Int32) + (p2 &&& (3 : Int32))).toUInt32.toUInt16.toUInt32.toInt32) else ((p2 &&& (65535 : Int32)).toUInt32.toUInt16.toUInt32.toInt32)) - (97 : Int32)) < (0 : Int32)
      · have k182 : ∀ t, Steps p.tables e below (T158.setTop (mkF m 132 #[.val (.int p1), .val (.int p2), .val (.int p3), .val (.int p4), .val (.int (if (p1 &&& (3 : Int32)) = (0 : Int32) then (((96 : Int32) + (p2 &&& (3 : Int32))).toUInt32.toUInt16.toUInt32.toInt32) else ((p2 &&& (65535 : Int32)).toUInt32.toUInt16.toUInt32.toInt32))), .val (.ref b38), .val (.ref b68), .val (.ref b107), .val (.int ((if (p1 &&& (3 : Int32)) = (0 : Int32) then (((96 : Int32) + (p2 &&& (3 : Int32))).toUInt32.toUInt16.toUInt32.toInt32) else ((p2 &&& (65535 : Int32)).toUInt32.toUInt16.toUInt32.toInt32)) - (97 : Int32))), .unset] [(.int (0 : Int32))])) t → Steps p.tables e below (s₁.setTop (entryFrame m #[(.int p1), (.int p2), (.int p3), (.int p4)] maxLocals)) t := by
          intro t kt
          refine k179 t ?_
          show Steps p.tables e below (T158.setTop (mkF m 118 #[.val (.int p1), .val (.int p2), .val (.int p3), .val (.int p4), .val (.int (if (p1 &&& (3 : Int32)) = (0 : Int32) then (((96 : Int32) + (p2 &&& (3 : Int32))).toUInt32.toUInt16.toUInt32.toInt32) else ((p2 &&& (65535 : Int32)).toUInt32.toUInt16.toUInt32.toInt32))), .val (.ref b38), .val (.ref b68), .val (.ref b107), .val (.int ((if (p1 &&& (3 : Int32)) = (0 : Int32) then (((96 : Int32) + (p2 &&& (3 : Int32))).toUInt32.toUInt16.toUInt32.toInt32) else ((p2 &&& (65535 : Int32)).toUInt32.toUInt16.toUInt32.toInt32)) - (97 : Int32))), .unset] [(.int ((if (p1 &&& (3 : Int32)) = (0 : Int32) then (((96 : Int32) + (p2 &&& (3 : Int32))).toUInt32.toUInt16.toUInt32.toInt32) else ((p2 &&& (65535 : Int32)).toUInt32.toUInt16.toUInt32.toInt32)) - (97 : Int32)))])) t
          refine XS.ifYes X158.here hx rfl (pc0 := 118) (pc' := 131) rfl (hb hby at_118) rfl ((if0 _ _).trans (tlt hc118_181).1) (by decide) (by decide) ?_
          show Steps p.tables e below (T158.setTop (mkF m 131 #[.val (.int p1), .val (.int p2), .val (.int p3), .val (.int p4), .val (.int (if (p1 &&& (3 : Int32)) = (0 : Int32) then (((96 : Int32) + (p2 &&& (3 : Int32))).toUInt32.toUInt16.toUInt32.toInt32) else ((p2 &&& (65535 : Int32)).toUInt32.toUInt16.toUInt32.toInt32))), .val (.ref b38), .val (.ref b68), .val (.ref b107), .val (.int ((if (p1 &&& (3 : Int32)) = (0 : Int32) then (((96 : Int32) + (p2 &&& (3 : Int32))).toUInt32.toUInt16.toUInt32.toInt32) else ((p2 &&& (65535 : Int32)).toUInt32.toUInt16.toUInt32.toInt32)) - (97 : Int32))), .unset] [])) t
          refine XS.iconst X158.here hx rfl (hb hby at_131) ?_
          exact kt
        rw [show ((own_ex ((if (p1 &&& (3 : Int32)) = (0 : Int32) then (((96 : Int32) + (p2 &&& (3 : Int32))).toUInt32.toUInt16.toUInt32.toInt32) else ((p2 &&& (65535 : Int32)).toUInt32.toUInt16.toUInt32.toInt32)) - (97 : Int32)))) = (0 : Int32) from by first | exact if_pos hc118_181 | exact if_neg hc118_181 | (simp only [hc118_181, own_ex, if_true, if_false]; done) | simp [hc118_181, own_ex]] at kt
        exact k182 t kt
      · have k184 : ∀ t, Steps p.tables e below (T158.setTop (mkF m 124 #[.val (.int p1), .val (.int p2), .val (.int p3), .val (.int p4), .val (.int (if (p1 &&& (3 : Int32)) = (0 : Int32) then (((96 : Int32) + (p2 &&& (3 : Int32))).toUInt32.toUInt16.toUInt32.toInt32) else ((p2 &&& (65535 : Int32)).toUInt32.toUInt16.toUInt32.toInt32))), .val (.ref b38), .val (.ref b68), .val (.ref b107), .val (.int ((if (p1 &&& (3 : Int32)) = (0 : Int32) then (((96 : Int32) + (p2 &&& (3 : Int32))).toUInt32.toUInt16.toUInt32.toInt32) else ((p2 &&& (65535 : Int32)).toUInt32.toUInt16.toUInt32.toInt32)) - (97 : Int32))), .unset] [(.int (2 : Int32)), (.int ((if (p1 &&& (3 : Int32)) = (0 : Int32) then (((96 : Int32) + (p2 &&& (3 : Int32))).toUInt32.toUInt16.toUInt32.toInt32) else ((p2 &&& (65535 : Int32)).toUInt32.toUInt16.toUInt32.toInt32)) - (97 : Int32)))])) t → Steps p.tables e below (s₁.setTop (entryFrame m #[(.int p1), (.int p2), (.int p3), (.int p4)] maxLocals)) t := by
          intro t kt
          refine k179 t ?_
          show Steps p.tables e below (T158.setTop (mkF m 118 #[.val (.int p1), .val (.int p2), .val (.int p3), .val (.int p4), .val (.int (if (p1 &&& (3 : Int32)) = (0 : Int32) then (((96 : Int32) + (p2 &&& (3 : Int32))).toUInt32.toUInt16.toUInt32.toInt32) else ((p2 &&& (65535 : Int32)).toUInt32.toUInt16.toUInt32.toInt32))), .val (.ref b38), .val (.ref b68), .val (.ref b107), .val (.int ((if (p1 &&& (3 : Int32)) = (0 : Int32) then (((96 : Int32) + (p2 &&& (3 : Int32))).toUInt32.toUInt16.toUInt32.toInt32) else ((p2 &&& (65535 : Int32)).toUInt32.toUInt16.toUInt32.toInt32)) - (97 : Int32))), .unset] [(.int ((if (p1 &&& (3 : Int32)) = (0 : Int32) then (((96 : Int32) + (p2 &&& (3 : Int32))).toUInt32.toUInt16.toUInt32.toInt32) else ((p2 &&& (65535 : Int32)).toUInt32.toUInt16.toUInt32.toInt32)) - (97 : Int32)))])) t
          refine XS.ifNo X158.here hx rfl (hb hby at_118) rfl ((if0 _ _).trans (flt hc118_181).1) ?_
          show Steps p.tables e below (T158.setTop (mkF m 121 #[.val (.int p1), .val (.int p2), .val (.int p3), .val (.int p4), .val (.int (if (p1 &&& (3 : Int32)) = (0 : Int32) then (((96 : Int32) + (p2 &&& (3 : Int32))).toUInt32.toUInt16.toUInt32.toInt32) else ((p2 &&& (65535 : Int32)).toUInt32.toUInt16.toUInt32.toInt32))), .val (.ref b38), .val (.ref b68), .val (.ref b107), .val (.int ((if (p1 &&& (3 : Int32)) = (0 : Int32) then (((96 : Int32) + (p2 &&& (3 : Int32))).toUInt32.toUInt16.toUInt32.toInt32) else ((p2 &&& (65535 : Int32)).toUInt32.toUInt16.toUInt32.toInt32)) - (97 : Int32))), .unset] [])) t
          refine XS.iload X158.here hx rfl (hb hby at_121) rfl ?_
          show Steps p.tables e below (T158.setTop (mkF m 123 #[.val (.int p1), .val (.int p2), .val (.int p3), .val (.int p4), .val (.int (if (p1 &&& (3 : Int32)) = (0 : Int32) then (((96 : Int32) + (p2 &&& (3 : Int32))).toUInt32.toUInt16.toUInt32.toInt32) else ((p2 &&& (65535 : Int32)).toUInt32.toUInt16.toUInt32.toInt32))), .val (.ref b38), .val (.ref b68), .val (.ref b107), .val (.int ((if (p1 &&& (3 : Int32)) = (0 : Int32) then (((96 : Int32) + (p2 &&& (3 : Int32))).toUInt32.toUInt16.toUInt32.toInt32) else ((p2 &&& (65535 : Int32)).toUInt32.toUInt16.toUInt32.toInt32)) - (97 : Int32))), .unset] [(.int ((if (p1 &&& (3 : Int32)) = (0 : Int32) then (((96 : Int32) + (p2 &&& (3 : Int32))).toUInt32.toUInt16.toUInt32.toInt32) else ((p2 &&& (65535 : Int32)).toUInt32.toUInt16.toUInt32.toInt32)) - (97 : Int32)))])) t
          refine XS.iconst X158.here hx rfl (hb hby at_123) ?_
          exact kt
        by_cases hc124_183 : ((if (p1 &&& (3 : Int32)) = (0 : Int32) then (((96 : Int32) + (p2 &&& (3 : Int32))).toUInt32.toUInt16.toUInt32.toInt32) else ((p2 &&& (65535 : Int32)).toUInt32.toUInt16.toUInt32.toInt32)) - (97 : Int32)) < (2 : Int32)
        · have k185 : ∀ t, Steps p.tables e below (T158.setTop (mkF m 132 #[.val (.int p1), .val (.int p2), .val (.int p3), .val (.int p4), .val (.int (if (p1 &&& (3 : Int32)) = (0 : Int32) then (((96 : Int32) + (p2 &&& (3 : Int32))).toUInt32.toUInt16.toUInt32.toInt32) else ((p2 &&& (65535 : Int32)).toUInt32.toUInt16.toUInt32.toInt32))), .val (.ref b38), .val (.ref b68), .val (.ref b107), .val (.int ((if (p1 &&& (3 : Int32)) = (0 : Int32) then (((96 : Int32) + (p2 &&& (3 : Int32))).toUInt32.toUInt16.toUInt32.toInt32) else ((p2 &&& (65535 : Int32)).toUInt32.toUInt16.toUInt32.toInt32)) - (97 : Int32))), .unset] [(.int (1 : Int32))])) t → Steps p.tables e below (s₁.setTop (entryFrame m #[(.int p1), (.int p2), (.int p3), (.int p4)] maxLocals)) t := by
            intro t kt
            refine k184 t ?_
            show Steps p.tables e below (T158.setTop (mkF m 124 #[.val (.int p1), .val (.int p2), .val (.int p3), .val (.int p4), .val (.int (if (p1 &&& (3 : Int32)) = (0 : Int32) then (((96 : Int32) + (p2 &&& (3 : Int32))).toUInt32.toUInt16.toUInt32.toInt32) else ((p2 &&& (65535 : Int32)).toUInt32.toUInt16.toUInt32.toInt32))), .val (.ref b38), .val (.ref b68), .val (.ref b107), .val (.int ((if (p1 &&& (3 : Int32)) = (0 : Int32) then (((96 : Int32) + (p2 &&& (3 : Int32))).toUInt32.toUInt16.toUInt32.toInt32) else ((p2 &&& (65535 : Int32)).toUInt32.toUInt16.toUInt32.toInt32)) - (97 : Int32))), .unset] [(.int (2 : Int32)), (.int ((if (p1 &&& (3 : Int32)) = (0 : Int32) then (((96 : Int32) + (p2 &&& (3 : Int32))).toUInt32.toUInt16.toUInt32.toInt32) else ((p2 &&& (65535 : Int32)).toUInt32.toUInt16.toUInt32.toInt32)) - (97 : Int32)))])) t
            refine XS.icmpNo X158.here hx rfl (hb hby at_124) rfl (tlt hc124_183).2.1 ?_
            show Steps p.tables e below (T158.setTop (mkF m 127 #[.val (.int p1), .val (.int p2), .val (.int p3), .val (.int p4), .val (.int (if (p1 &&& (3 : Int32)) = (0 : Int32) then (((96 : Int32) + (p2 &&& (3 : Int32))).toUInt32.toUInt16.toUInt32.toInt32) else ((p2 &&& (65535 : Int32)).toUInt32.toUInt16.toUInt32.toInt32))), .val (.ref b38), .val (.ref b68), .val (.ref b107), .val (.int ((if (p1 &&& (3 : Int32)) = (0 : Int32) then (((96 : Int32) + (p2 &&& (3 : Int32))).toUInt32.toUInt16.toUInt32.toInt32) else ((p2 &&& (65535 : Int32)).toUInt32.toUInt16.toUInt32.toInt32)) - (97 : Int32))), .unset] [])) t
            refine XS.iconst X158.here hx rfl (hb hby at_127) ?_
            show Steps p.tables e below (T158.setTop (mkF m 128 #[.val (.int p1), .val (.int p2), .val (.int p3), .val (.int p4), .val (.int (if (p1 &&& (3 : Int32)) = (0 : Int32) then (((96 : Int32) + (p2 &&& (3 : Int32))).toUInt32.toUInt16.toUInt32.toInt32) else ((p2 &&& (65535 : Int32)).toUInt32.toUInt16.toUInt32.toInt32))), .val (.ref b38), .val (.ref b68), .val (.ref b107), .val (.int ((if (p1 &&& (3 : Int32)) = (0 : Int32) then (((96 : Int32) + (p2 &&& (3 : Int32))).toUInt32.toUInt16.toUInt32.toInt32) else ((p2 &&& (65535 : Int32)).toUInt32.toUInt16.toUInt32.toInt32)) - (97 : Int32))), .unset] [(.int (1 : Int32))])) t
            refine XS.goto X158.here hx rfl (pc0 := 128) (pc' := 132) rfl (hb hby at_128) (by decide) (by decide) ?_
            exact kt
          rw [show ((own_ex ((if (p1 &&& (3 : Int32)) = (0 : Int32) then (((96 : Int32) + (p2 &&& (3 : Int32))).toUInt32.toUInt16.toUInt32.toInt32) else ((p2 &&& (65535 : Int32)).toUInt32.toUInt16.toUInt32.toInt32)) - (97 : Int32)))) = (1 : Int32) from by first | exact if_pos hc118_181 | exact if_neg hc118_181 | exact if_pos hc124_183 | exact if_neg hc124_183 | (simp only [hc118_181, hc124_183, own_ex, if_true, if_false]; done) | simp [hc118_181, hc124_183, own_ex]] at kt
          exact k185 t kt
        · have k186 : ∀ t, Steps p.tables e below (T158.setTop (mkF m 132 #[.val (.int p1), .val (.int p2), .val (.int p3), .val (.int p4), .val (.int (if (p1 &&& (3 : Int32)) = (0 : Int32) then (((96 : Int32) + (p2 &&& (3 : Int32))).toUInt32.toUInt16.toUInt32.toInt32) else ((p2 &&& (65535 : Int32)).toUInt32.toUInt16.toUInt32.toInt32))), .val (.ref b38), .val (.ref b68), .val (.ref b107), .val (.int ((if (p1 &&& (3 : Int32)) = (0 : Int32) then (((96 : Int32) + (p2 &&& (3 : Int32))).toUInt32.toUInt16.toUInt32.toInt32) else ((p2 &&& (65535 : Int32)).toUInt32.toUInt16.toUInt32.toInt32)) - (97 : Int32))), .unset] [(.int (0 : Int32))])) t → Steps p.tables e below (s₁.setTop (entryFrame m #[(.int p1), (.int p2), (.int p3), (.int p4)] maxLocals)) t := by
            intro t kt
            refine k184 t ?_
            show Steps p.tables e below (T158.setTop (mkF m 124 #[.val (.int p1), .val (.int p2), .val (.int p3), .val (.int p4), .val (.int (if (p1 &&& (3 : Int32)) = (0 : Int32) then (((96 : Int32) + (p2 &&& (3 : Int32))).toUInt32.toUInt16.toUInt32.toInt32) else ((p2 &&& (65535 : Int32)).toUInt32.toUInt16.toUInt32.toInt32))), .val (.ref b38), .val (.ref b68), .val (.ref b107), .val (.int ((if (p1 &&& (3 : Int32)) = (0 : Int32) then (((96 : Int32) + (p2 &&& (3 : Int32))).toUInt32.toUInt16.toUInt32.toInt32) else ((p2 &&& (65535 : Int32)).toUInt32.toUInt16.toUInt32.toInt32)) - (97 : Int32))), .unset] [(.int (2 : Int32)), (.int ((if (p1 &&& (3 : Int32)) = (0 : Int32) then (((96 : Int32) + (p2 &&& (3 : Int32))).toUInt32.toUInt16.toUInt32.toInt32) else ((p2 &&& (65535 : Int32)).toUInt32.toUInt16.toUInt32.toInt32)) - (97 : Int32)))])) t
            refine XS.icmpYes X158.here hx rfl (pc0 := 124) (pc' := 131) rfl (hb hby at_124) rfl (flt hc124_183).2.1 (by decide) (by decide) ?_
            show Steps p.tables e below (T158.setTop (mkF m 131 #[.val (.int p1), .val (.int p2), .val (.int p3), .val (.int p4), .val (.int (if (p1 &&& (3 : Int32)) = (0 : Int32) then (((96 : Int32) + (p2 &&& (3 : Int32))).toUInt32.toUInt16.toUInt32.toInt32) else ((p2 &&& (65535 : Int32)).toUInt32.toUInt16.toUInt32.toInt32))), .val (.ref b38), .val (.ref b68), .val (.ref b107), .val (.int ((if (p1 &&& (3 : Int32)) = (0 : Int32) then (((96 : Int32) + (p2 &&& (3 : Int32))).toUInt32.toUInt16.toUInt32.toInt32) else ((p2 &&& (65535 : Int32)).toUInt32.toUInt16.toUInt32.toInt32)) - (97 : Int32))), .unset] [])) t
            refine XS.iconst X158.here hx rfl (hb hby at_131) ?_
            exact kt
          rw [show ((own_ex ((if (p1 &&& (3 : Int32)) = (0 : Int32) then (((96 : Int32) + (p2 &&& (3 : Int32))).toUInt32.toUInt16.toUInt32.toInt32) else ((p2 &&& (65535 : Int32)).toUInt32.toUInt16.toUInt32.toInt32)) - (97 : Int32)))) = (0 : Int32) from by first | exact if_pos hc118_181 | exact if_neg hc118_181 | exact if_pos hc124_183 | exact if_neg hc124_183 | (simp only [hc118_181, hc124_183, own_ex, if_true, if_false]; done) | simp [hc118_181, hc124_183, own_ex]] at kt
          exact k186 t kt
    have k187 : ∀ t, Steps p.tables e below (T158.setTop (mkF m 136 #[.val (.int p1), .val (.int p2), .val (.int p3), .val (.int p4), .val (.int (if (p1 &&& (3 : Int32)) = (0 : Int32) then (((96 : Int32) + (p2 &&& (3 : Int32))).toUInt32.toUInt16.toUInt32.toInt32) else ((p2 &&& (65535 : Int32)).toUInt32.toUInt16.toUInt32.toInt32))), .val (.ref b38), .val (.ref b68), .val (.ref b107), .val (.int ((if (p1 &&& (3 : Int32)) = (0 : Int32) then (((96 : Int32) + (p2 &&& (3 : Int32))).toUInt32.toUInt16.toUInt32.toInt32) else ((p2 &&& (65535 : Int32)).toUInt32.toUInt16.toUInt32.toInt32)) - (97 : Int32))), .val (.int (own_ex ((if (p1 &&& (3 : Int32)) = (0 : Int32) then (((96 : Int32) + (p2 &&& (3 : Int32))).toUInt32.toUInt16.toUInt32.toInt32) else ((p2 &&& (65535 : Int32)).toUInt32.toUInt16.toUInt32.toInt32)) - (97 : Int32))))] [(.ref b68)])) t → Steps p.tables e below (s₁.setTop (entryFrame m #[(.int p1), (.int p2), (.int p3), (.int p4)] maxLocals)) t := by
      intro t kt
      refine k180 t ?_
      show Steps p.tables e below (T158.setTop (mkF m 132 #[.val (.int p1), .val (.int p2), .val (.int p3), .val (.int p4), .val (.int (if (p1 &&& (3 : Int32)) = (0 : Int32) then (((96 : Int32) + (p2 &&& (3 : Int32))).toUInt32.toUInt16.toUInt32.toInt32) else ((p2 &&& (65535 : Int32)).toUInt32.toUInt16.toUInt32.toInt32))), .val (.ref b38), .val (.ref b68), .val (.ref b107), .val (.int ((if (p1 &&& (3 : Int32)) = (0 : Int32) then (((96 : Int32) + (p2 &&& (3 : Int32))).toUInt32.toUInt16.toUInt32.toInt32) else ((p2 &&& (65535 : Int32)).toUInt32.toUInt16.toUInt32.toInt32)) - (97 : Int32))), .unset] [(.int (own_ex ((if (p1 &&& (3 : Int32)) = (0 : Int32) then (((96 : Int32) + (p2 &&& (3 : Int32))).toUInt32.toUInt16.toUInt32.toInt32) else ((p2 &&& (65535 : Int32)).toUInt32.toUInt16.toUInt32.toInt32)) - (97 : Int32))))])) t
      refine XS.istore X158.here hx rfl (hb hby at_132) rfl (l' := #[.val (.int p1), .val (.int p2), .val (.int p3), .val (.int p4), .val (.int (if (p1 &&& (3 : Int32)) = (0 : Int32) then (((96 : Int32) + (p2 &&& (3 : Int32))).toUInt32.toUInt16.toUInt32.toInt32) else ((p2 &&& (65535 : Int32)).toUInt32.toUInt16.toUInt32.toInt32))), .val (.ref b38), .val (.ref b68), .val (.ref b107), .val (.int ((if (p1 &&& (3 : Int32)) = (0 : Int32) then (((96 : Int32) + (p2 &&& (3 : Int32))).toUInt32.toUInt16.toUInt32.toInt32) else ((p2 &&& (65535 : Int32)).toUInt32.toUInt16.toUInt32.toInt32)) - (97 : Int32))), .val (.int (own_ex ((if (p1 &&& (3 : Int32)) = (0 : Int32) then (((96 : Int32) + (p2 &&& (3 : Int32))).toUInt32.toUInt16.toUInt32.toInt32) else ((p2 &&& (65535 : Int32)).toUInt32.toUInt16.toUInt32.toInt32)) - (97 : Int32))))]) rfl ?_
      show Steps p.tables e below (T158.setTop (mkF m 134 #[.val (.int p1), .val (.int p2), .val (.int p3), .val (.int p4), .val (.int (if (p1 &&& (3 : Int32)) = (0 : Int32) then (((96 : Int32) + (p2 &&& (3 : Int32))).toUInt32.toUInt16.toUInt32.toInt32) else ((p2 &&& (65535 : Int32)).toUInt32.toUInt16.toUInt32.toInt32))), .val (.ref b38), .val (.ref b68), .val (.ref b107), .val (.int ((if (p1 &&& (3 : Int32)) = (0 : Int32) then (((96 : Int32) + (p2 &&& (3 : Int32))).toUInt32.toUInt16.toUInt32.toInt32) else ((p2 &&& (65535 : Int32)).toUInt32.toUInt16.toUInt32.toInt32)) - (97 : Int32))), .val (.int (own_ex ((if (p1 &&& (3 : Int32)) = (0 : Int32) then (((96 : Int32) + (p2 &&& (3 : Int32))).toUInt32.toUInt16.toUInt32.toInt32) else ((p2 &&& (65535 : Int32)).toUInt32.toUInt16.toUInt32.toInt32)) - (97 : Int32))))] [])) t
      refine XS.aload X158.here hx rfl (hb hby at_134) rfl rfl ?_
      exact kt
    obtain ⟨cq188, kq188, q188a, q188b, q188c⟩ := isOf hZ158 rfl F171
    obtain ⟨_, _, ⟨T188, L188, k188c, n188⟩, -, X188, ⟨Lc188, hQ188, l188, y188, z188⟩, st188⟩ := X158.virtualBack hx (y := (⟨"recensio/records/Subfield", "isStatementText", "()Z"⟩ : MethodName)) (z := (⟨"recensio/records/Subfield", "isStatementText", "()Z"⟩ : MethodName)) hown158 (mvT hZ158 (hw _ (List.mem_of_getElem? (i := 67) rfl))) (mvT hZ158 (hw _ (List.mem_of_getElem? (i := 68) rfl))) (notFace_of_selects (args := #[]) (mvT hZ158 (hw _ (List.mem_of_getElem? (i := 70) rfl)))) (mvT hZ158 (hw _ (List.mem_of_getElem? (i := 70) rfl))) (mvT hZ158 (hw _ (List.mem_of_getElem? (i := 69) rfl))) (by decide) (backOf (W := 0) (rmIs l Z a0 hw [] b68 (if (p1 &&& (3 : Int32)) = (0 : Int32) then (((96 : Int32) + (p2 &&& (3 : Int32))).toUInt32.toUInt16.toUInt32.toInt32) else ((p2 &&& (65535 : Int32)).toUInt32.toUInt16.toUInt32.toInt32)) T158.heap n0 Z177 F172) hZ158 (hw _ (List.mem_of_getElem? (i := 71) rfl)) (hw _ (List.mem_of_getElem? (i := 32) rfl)) (by decide) (by decide)) q188a q188c (g := (mkF m 136 #[.val (.int p1), .val (.int p2), .val (.int p3), .val (.int p4), .val (.int (if (p1 &&& (3 : Int32)) = (0 : Int32) then (((96 : Int32) + (p2 &&& (3 : Int32))).toUInt32.toUInt16.toUInt32.toInt32) else ((p2 &&& (65535 : Int32)).toUInt32.toUInt16.toUInt32.toInt32))), .val (.ref b38), .val (.ref b68), .val (.ref b107), .val (.int ((if (p1 &&& (3 : Int32)) = (0 : Int32) then (((96 : Int32) + (p2 &&& (3 : Int32))).toUInt32.toUInt16.toUInt32.toInt32) else ((p2 &&& (65535 : Int32)).toUInt32.toUInt16.toUInt32.toInt32)) - (97 : Int32))), .val (.int (own_ex ((if (p1 &&& (3 : Int32)) = (0 : Int32) then (((96 : Int32) + (p2 &&& (3 : Int32))).toUInt32.toUInt16.toUInt32.toInt32) else ((p2 &&& (65535 : Int32)).toUInt32.toUInt16.toUInt32.toInt32)) - (97 : Int32))))] [(.ref b68)])) rfl (by rw [hml]; rfl) (Steps.refl _) (argsL := []) (rest := []) (lenOf own_pd12 rfl) rfl (by show 2 * 0 + _ ≤ _; exact Nat.le_of_eq rfl) (hb hby at_136) (fun _ _ => ⟨rfl, rfl, (by decide : 11 + 0 ≤ _), (by decide : 65 + 0 ≤ _)⟩)
    dsimp only [Pt.U, Pt.locs, Pt.cells, Pt.slots] at X188 l188 y188 z188 st188 hQ188
    subst l188 y188 z188
    obtain ⟨rfl, N188q, e188⟩ := hQ188
    have N188 := Fr.app N158 N188q
    have k189 : ∀ t, Steps p.tables e below (T188.setTop (mkF m 139 #[.val (.int p1), .val (.int p2), .val (.int p3), .val (.int p4), .val (.int (if (p1 &&& (3 : Int32)) = (0 : Int32) then (((96 : Int32) + (p2 &&& (3 : Int32))).toUInt32.toUInt16.toUInt32.toInt32) else ((p2 &&& (65535 : Int32)).toUInt32.toUInt16.toUInt32.toInt32))), .val (.ref b38), .val (.ref b68), .val (.ref b107), .val (.int ((if (p1 &&& (3 : Int32)) = (0 : Int32) then (((96 : Int32) + (p2 &&& (3 : Int32))).toUInt32.toUInt16.toUInt32.toInt32) else ((p2 &&& (65535 : Int32)).toUInt32.toUInt16.toUInt32.toInt32)) - (97 : Int32))), .val (.int (own_ex ((if (p1 &&& (3 : Int32)) = (0 : Int32) then (((96 : Int32) + (p2 &&& (3 : Int32))).toUInt32.toUInt16.toUInt32.toInt32) else ((p2 &&& (65535 : Int32)).toUInt32.toUInt16.toUInt32.toInt32)) - (97 : Int32))))] [(.int (own_st (if (p1 &&& (3 : Int32)) = (0 : Int32) then (((96 : Int32) + (p2 &&& (3 : Int32))).toUInt32.toUInt16.toUInt32.toInt32) else ((p2 &&& (65535 : Int32)).toUInt32.toUInt16.toUInt32.toInt32))))])) t → Steps p.tables e below (s₁.setTop (entryFrame m #[(.int p1), (.int p2), (.int p3), (.int p4)] maxLocals)) t := fun t kt => k187 t (st188.trans kt)
    have k191 : ∀ t, Steps p.tables e below (T188.setTop (mkF m 141 #[.val (.int p1), .val (.int p2), .val (.int p3), .val (.int p4), .val (.int (if (p1 &&& (3 : Int32)) = (0 : Int32) then (((96 : Int32) + (p2 &&& (3 : Int32))).toUInt32.toUInt16.toUInt32.toInt32) else ((p2 &&& (65535 : Int32)).toUInt32.toUInt16.toUInt32.toInt32))), .val (.ref b38), .val (.ref b68), .val (.ref b107), .val (.int ((if (p1 &&& (3 : Int32)) = (0 : Int32) then (((96 : Int32) + (p2 &&& (3 : Int32))).toUInt32.toUInt16.toUInt32.toInt32) else ((p2 &&& (65535 : Int32)).toUInt32.toUInt16.toUInt32.toInt32)) - (97 : Int32))), .val (.int (own_ex ((if (p1 &&& (3 : Int32)) = (0 : Int32) then (((96 : Int32) + (p2 &&& (3 : Int32))).toUInt32.toUInt16.toUInt32.toInt32) else ((p2 &&& (65535 : Int32)).toUInt32.toUInt16.toUInt32.toInt32)) - (97 : Int32))))] [(.int (own_ex ((if (p1 &&& (3 : Int32)) = (0 : Int32) then (((96 : Int32) + (p2 &&& (3 : Int32))).toUInt32.toUInt16.toUInt32.toInt32) else ((p2 &&& (65535 : Int32)).toUInt32.toUInt16.toUInt32.toInt32)) - (97 : Int32)))), (.int (own_st (if (p1 &&& (3 : Int32)) = (0 : Int32) then (((96 : Int32) + (p2 &&& (3 : Int32))).toUInt32.toUInt16.toUInt32.toInt32) else ((p2 &&& (65535 : Int32)).toUInt32.toUInt16.toUInt32.toInt32))))])) t → Steps p.tables e below (s₁.setTop (entryFrame m #[(.int p1), (.int p2), (.int p3), (.int p4)] maxLocals)) t := by
      intro t kt
      refine k189 t ?_
      show Steps p.tables e below (T188.setTop (mkF m 139 #[.val (.int p1), .val (.int p2), .val (.int p3), .val (.int p4), .val (.int (if (p1 &&& (3 : Int32)) = (0 : Int32) then (((96 : Int32) + (p2 &&& (3 : Int32))).toUInt32.toUInt16.toUInt32.toInt32) else ((p2 &&& (65535 : Int32)).toUInt32.toUInt16.toUInt32.toInt32))), .val (.ref b38), .val (.ref b68), .val (.ref b107), .val (.int ((if (p1 &&& (3 : Int32)) = (0 : Int32) then (((96 : Int32) + (p2 &&& (3 : Int32))).toUInt32.toUInt16.toUInt32.toInt32) else ((p2 &&& (65535 : Int32)).toUInt32.toUInt16.toUInt32.toInt32)) - (97 : Int32))), .val (.int (own_ex ((if (p1 &&& (3 : Int32)) = (0 : Int32) then (((96 : Int32) + (p2 &&& (3 : Int32))).toUInt32.toUInt16.toUInt32.toInt32) else ((p2 &&& (65535 : Int32)).toUInt32.toUInt16.toUInt32.toInt32)) - (97 : Int32))))] [(.int (own_st (if (p1 &&& (3 : Int32)) = (0 : Int32) then (((96 : Int32) + (p2 &&& (3 : Int32))).toUInt32.toUInt16.toUInt32.toInt32) else ((p2 &&& (65535 : Int32)).toUInt32.toUInt16.toUInt32.toInt32))))])) t
      refine XS.iload X188.here hx rfl (hb hby at_139) rfl ?_
      exact kt
    have hc141_190 : (own_st (if (p1 &&& (3 : Int32)) = (0 : Int32) then (((96 : Int32) + (p2 &&& (3 : Int32))).toUInt32.toUInt16.toUInt32.toInt32) else ((p2 &&& (65535 : Int32)).toUInt32.toUInt16.toUInt32.toInt32))) = (own_ex ((if (p1 &&& (3 : Int32)) = (0 : Int32) then (((96 : Int32) + (p2 &&& (3 : Int32))).toUInt32.toUInt16.toUInt32.toInt32) else ((p2 &&& (65535 : Int32)).toUInt32.toUInt16.toUInt32.toInt32)) - (97 : Int32))) := own_same _ (own_cr p1 p2).1 (own_cr p1 p2).2
    have k192 : ∀ t, Steps p.tables e below (T188.setTop (mkF m 146 #[.val (.int p1), .val (.int p2), .val (.int p3), .val (.int p4), .val (.int (if (p1 &&& (3 : Int32)) = (0 : Int32) then (((96 : Int32) + (p2 &&& (3 : Int32))).toUInt32.toUInt16.toUInt32.toInt32) else ((p2 &&& (65535 : Int32)).toUInt32.toUInt16.toUInt32.toInt32))), .val (.ref b38), .val (.ref b68), .val (.ref b107), .val (.int ((if (p1 &&& (3 : Int32)) = (0 : Int32) then (((96 : Int32) + (p2 &&& (3 : Int32))).toUInt32.toUInt16.toUInt32.toInt32) else ((p2 &&& (65535 : Int32)).toUInt32.toUInt16.toUInt32.toInt32)) - (97 : Int32))), .val (.int (own_ex ((if (p1 &&& (3 : Int32)) = (0 : Int32) then (((96 : Int32) + (p2 &&& (3 : Int32))).toUInt32.toUInt16.toUInt32.toInt32) else ((p2 &&& (65535 : Int32)).toUInt32.toUInt16.toUInt32.toInt32)) - (97 : Int32))))] [(.ref b107)])) t → Steps p.tables e below (s₁.setTop (entryFrame m #[(.int p1), (.int p2), (.int p3), (.int p4)] maxLocals)) t := by
      intro t kt
      refine k191 t ?_
      show Steps p.tables e below (T188.setTop (mkF m 141 #[.val (.int p1), .val (.int p2), .val (.int p3), .val (.int p4), .val (.int (if (p1 &&& (3 : Int32)) = (0 : Int32) then (((96 : Int32) + (p2 &&& (3 : Int32))).toUInt32.toUInt16.toUInt32.toInt32) else ((p2 &&& (65535 : Int32)).toUInt32.toUInt16.toUInt32.toInt32))), .val (.ref b38), .val (.ref b68), .val (.ref b107), .val (.int ((if (p1 &&& (3 : Int32)) = (0 : Int32) then (((96 : Int32) + (p2 &&& (3 : Int32))).toUInt32.toUInt16.toUInt32.toInt32) else ((p2 &&& (65535 : Int32)).toUInt32.toUInt16.toUInt32.toInt32)) - (97 : Int32))), .val (.int (own_ex ((if (p1 &&& (3 : Int32)) = (0 : Int32) then (((96 : Int32) + (p2 &&& (3 : Int32))).toUInt32.toUInt16.toUInt32.toInt32) else ((p2 &&& (65535 : Int32)).toUInt32.toUInt16.toUInt32.toInt32)) - (97 : Int32))))] [(.int (own_ex ((if (p1 &&& (3 : Int32)) = (0 : Int32) then (((96 : Int32) + (p2 &&& (3 : Int32))).toUInt32.toUInt16.toUInt32.toInt32) else ((p2 &&& (65535 : Int32)).toUInt32.toUInt16.toUInt32.toInt32)) - (97 : Int32)))), (.int (own_st (if (p1 &&& (3 : Int32)) = (0 : Int32) then (((96 : Int32) + (p2 &&& (3 : Int32))).toUInt32.toUInt16.toUInt32.toInt32) else ((p2 &&& (65535 : Int32)).toUInt32.toUInt16.toUInt32.toInt32))))])) t
      refine XS.icmpNo X188.here hx rfl (hb hby at_141) rfl (teq hc141_190).2 ?_
      show Steps p.tables e below (T188.setTop (mkF m 144 #[.val (.int p1), .val (.int p2), .val (.int p3), .val (.int p4), .val (.int (if (p1 &&& (3 : Int32)) = (0 : Int32) then (((96 : Int32) + (p2 &&& (3 : Int32))).toUInt32.toUInt16.toUInt32.toInt32) else ((p2 &&& (65535 : Int32)).toUInt32.toUInt16.toUInt32.toInt32))), .val (.ref b38), .val (.ref b68), .val (.ref b107), .val (.int ((if (p1 &&& (3 : Int32)) = (0 : Int32) then (((96 : Int32) + (p2 &&& (3 : Int32))).toUInt32.toUInt16.toUInt32.toInt32) else ((p2 &&& (65535 : Int32)).toUInt32.toUInt16.toUInt32.toInt32)) - (97 : Int32))), .val (.int (own_ex ((if (p1 &&& (3 : Int32)) = (0 : Int32) then (((96 : Int32) + (p2 &&& (3 : Int32))).toUInt32.toUInt16.toUInt32.toInt32) else ((p2 &&& (65535 : Int32)).toUInt32.toUInt16.toUInt32.toInt32)) - (97 : Int32))))] [])) t
      refine XS.aload X188.here hx rfl (hb hby at_144) rfl rfl ?_
      exact kt
    obtain ⟨cq193, kq193, q193a, q193b, q193c⟩ := isOf hZ158 e188 F173
    obtain ⟨_, _, ⟨T193, L193, k193c, n193⟩, -, X193, ⟨Lc193, hQ193, l193, y193, z193⟩, st193⟩ := X188.virtualBack hx (y := (⟨"recensio/records/Subfield", "isStatementText", "()Z"⟩ : MethodName)) (z := (⟨"recensio/records/Subfield", "isStatementText", "()Z"⟩ : MethodName)) hown158 (mvT hZ158 (hw _ (List.mem_of_getElem? (i := 67) rfl))) (mvT hZ158 (hw _ (List.mem_of_getElem? (i := 68) rfl))) (notFace_of_selects (args := #[]) (mvT hZ158 (hw _ (List.mem_of_getElem? (i := 70) rfl)))) (mvT hZ158 (hw _ (List.mem_of_getElem? (i := 70) rfl))) (mvT hZ158 (hw _ (List.mem_of_getElem? (i := 69) rfl))) (by decide) (backOf (W := 0) (rmIs l Z a0 hw [] b107 (if (p1 &&& (3 : Int32)) = (0 : Int32) then (((96 : Int32) + (p2 &&& (3 : Int32))).toUInt32.toUInt16.toUInt32.toInt32) else ((p2 &&& (65535 : Int32)).toUInt32.toUInt16.toUInt32.toInt32)) T158.heap n0 Z177 Fc158) hZ158 (hw _ (List.mem_of_getElem? (i := 71) rfl)) (hw _ (List.mem_of_getElem? (i := 32) rfl)) (by decide) (by decide)) q193a q193c (g := (mkF m 146 #[.val (.int p1), .val (.int p2), .val (.int p3), .val (.int p4), .val (.int (if (p1 &&& (3 : Int32)) = (0 : Int32) then (((96 : Int32) + (p2 &&& (3 : Int32))).toUInt32.toUInt16.toUInt32.toInt32) else ((p2 &&& (65535 : Int32)).toUInt32.toUInt16.toUInt32.toInt32))), .val (.ref b38), .val (.ref b68), .val (.ref b107), .val (.int ((if (p1 &&& (3 : Int32)) = (0 : Int32) then (((96 : Int32) + (p2 &&& (3 : Int32))).toUInt32.toUInt16.toUInt32.toInt32) else ((p2 &&& (65535 : Int32)).toUInt32.toUInt16.toUInt32.toInt32)) - (97 : Int32))), .val (.int (own_ex ((if (p1 &&& (3 : Int32)) = (0 : Int32) then (((96 : Int32) + (p2 &&& (3 : Int32))).toUInt32.toUInt16.toUInt32.toInt32) else ((p2 &&& (65535 : Int32)).toUInt32.toUInt16.toUInt32.toInt32)) - (97 : Int32))))] [(.ref b107)])) rfl (by rw [hml]; rfl) (Steps.refl _) (argsL := []) (rest := []) (lenOf own_pd12 rfl) rfl (by show 2 * 0 + _ ≤ _; exact Nat.le_of_eq rfl) (hb hby at_146) (fun _ _ => ⟨rfl, e188, (by decide : 11 + 0 ≤ _), (by decide : 65 + 0 ≤ _)⟩)
    dsimp only [Pt.U, Pt.locs, Pt.cells, Pt.slots] at X193 l193 y193 z193 st193 hQ193
    subst l193 y193 z193
    obtain ⟨rfl, N193q, e193⟩ := hQ193
    have N193 := Fr.app N188 N193q
    have k194 : ∀ t, Steps p.tables e below (T193.setTop (mkF m 149 #[.val (.int p1), .val (.int p2), .val (.int p3), .val (.int p4), .val (.int (if (p1 &&& (3 : Int32)) = (0 : Int32) then (((96 : Int32) + (p2 &&& (3 : Int32))).toUInt32.toUInt16.toUInt32.toInt32) else ((p2 &&& (65535 : Int32)).toUInt32.toUInt16.toUInt32.toInt32))), .val (.ref b38), .val (.ref b68), .val (.ref b107), .val (.int ((if (p1 &&& (3 : Int32)) = (0 : Int32) then (((96 : Int32) + (p2 &&& (3 : Int32))).toUInt32.toUInt16.toUInt32.toInt32) else ((p2 &&& (65535 : Int32)).toUInt32.toUInt16.toUInt32.toInt32)) - (97 : Int32))), .val (.int (own_ex ((if (p1 &&& (3 : Int32)) = (0 : Int32) then (((96 : Int32) + (p2 &&& (3 : Int32))).toUInt32.toUInt16.toUInt32.toInt32) else ((p2 &&& (65535 : Int32)).toUInt32.toUInt16.toUInt32.toInt32)) - (97 : Int32))))] [(.int (own_st (if (p1 &&& (3 : Int32)) = (0 : Int32) then (((96 : Int32) + (p2 &&& (3 : Int32))).toUInt32.toUInt16.toUInt32.toInt32) else ((p2 &&& (65535 : Int32)).toUInt32.toUInt16.toUInt32.toInt32))))])) t → Steps p.tables e below (s₁.setTop (entryFrame m #[(.int p1), (.int p2), (.int p3), (.int p4)] maxLocals)) t := fun t kt => k192 t (st193.trans kt)
    have k196 : ∀ t, Steps p.tables e below (T193.setTop (mkF m 159 #[.val (.int p1), .val (.int p2), .val (.int p3), .val (.int p4), .val (.int (if (p1 &&& (3 : Int32)) = (0 : Int32) then (((96 : Int32) + (p2 &&& (3 : Int32))).toUInt32.toUInt16.toUInt32.toInt32) else ((p2 &&& (65535 : Int32)).toUInt32.toUInt16.toUInt32.toInt32))), .val (.ref b38), .val (.ref b68), .val (.ref b107), .val (.int ((if (p1 &&& (3 : Int32)) = (0 : Int32) then (((96 : Int32) + (p2 &&& (3 : Int32))).toUInt32.toUInt16.toUInt32.toInt32) else ((p2 &&& (65535 : Int32)).toUInt32.toUInt16.toUInt32.toInt32)) - (97 : Int32))), .val (.int (own_ex ((if (p1 &&& (3 : Int32)) = (0 : Int32) then (((96 : Int32) + (p2 &&& (3 : Int32))).toUInt32.toUInt16.toUInt32.toInt32) else ((p2 &&& (65535 : Int32)).toUInt32.toUInt16.toUInt32.toInt32)) - (97 : Int32))))] [(.int (1 : Int32))])) t → Steps p.tables e below (s₁.setTop (entryFrame m #[(.int p1), (.int p2), (.int p3), (.int p4)] maxLocals)) t := by
      intro t kt
      refine k194 t ?_
      show Steps p.tables e below (T193.setTop (mkF m 149 #[.val (.int p1), .val (.int p2), .val (.int p3), .val (.int p4), .val (.int (if (p1 &&& (3 : Int32)) = (0 : Int32) then (((96 : Int32) + (p2 &&& (3 : Int32))).toUInt32.toUInt16.toUInt32.toInt32) else ((p2 &&& (65535 : Int32)).toUInt32.toUInt16.toUInt32.toInt32))), .val (.ref b38), .val (.ref b68), .val (.ref b107), .val (.int ((if (p1 &&& (3 : Int32)) = (0 : Int32) then (((96 : Int32) + (p2 &&& (3 : Int32))).toUInt32.toUInt16.toUInt32.toInt32) else ((p2 &&& (65535 : Int32)).toUInt32.toUInt16.toUInt32.toInt32)) - (97 : Int32))), .val (.int (own_ex ((if (p1 &&& (3 : Int32)) = (0 : Int32) then (((96 : Int32) + (p2 &&& (3 : Int32))).toUInt32.toUInt16.toUInt32.toInt32) else ((p2 &&& (65535 : Int32)).toUInt32.toUInt16.toUInt32.toInt32)) - (97 : Int32))))] [(.int (own_st (if (p1 &&& (3 : Int32)) = (0 : Int32) then (((96 : Int32) + (p2 &&& (3 : Int32))).toUInt32.toUInt16.toUInt32.toInt32) else ((p2 &&& (65535 : Int32)).toUInt32.toUInt16.toUInt32.toInt32))))])) t
      refine XS.iload X193.here hx rfl (hb hby at_149) rfl ?_
      show Steps p.tables e below (T193.setTop (mkF m 151 #[.val (.int p1), .val (.int p2), .val (.int p3), .val (.int p4), .val (.int (if (p1 &&& (3 : Int32)) = (0 : Int32) then (((96 : Int32) + (p2 &&& (3 : Int32))).toUInt32.toUInt16.toUInt32.toInt32) else ((p2 &&& (65535 : Int32)).toUInt32.toUInt16.toUInt32.toInt32))), .val (.ref b38), .val (.ref b68), .val (.ref b107), .val (.int ((if (p1 &&& (3 : Int32)) = (0 : Int32) then (((96 : Int32) + (p2 &&& (3 : Int32))).toUInt32.toUInt16.toUInt32.toInt32) else ((p2 &&& (65535 : Int32)).toUInt32.toUInt16.toUInt32.toInt32)) - (97 : Int32))), .val (.int (own_ex ((if (p1 &&& (3 : Int32)) = (0 : Int32) then (((96 : Int32) + (p2 &&& (3 : Int32))).toUInt32.toUInt16.toUInt32.toInt32) else ((p2 &&& (65535 : Int32)).toUInt32.toUInt16.toUInt32.toInt32)) - (97 : Int32))))] [(.int (own_ex ((if (p1 &&& (3 : Int32)) = (0 : Int32) then (((96 : Int32) + (p2 &&& (3 : Int32))).toUInt32.toUInt16.toUInt32.toInt32) else ((p2 &&& (65535 : Int32)).toUInt32.toUInt16.toUInt32.toInt32)) - (97 : Int32)))), (.int (own_st (if (p1 &&& (3 : Int32)) = (0 : Int32) then (((96 : Int32) + (p2 &&& (3 : Int32))).toUInt32.toUInt16.toUInt32.toInt32) else ((p2 &&& (65535 : Int32)).toUInt32.toUInt16.toUInt32.toInt32))))])) t
      refine XS.icmpNo X193.here hx rfl (hb hby at_151) rfl (teq hc141_190).2 ?_
      show Steps p.tables e below (T193.setTop (mkF m 154 #[.val (.int p1), .val (.int p2), .val (.int p3), .val (.int p4), .val (.int (if (p1 &&& (3 : Int32)) = (0 : Int32) then (((96 : Int32) + (p2 &&& (3 : Int32))).toUInt32.toUInt16.toUInt32.toInt32) else ((p2 &&& (65535 : Int32)).toUInt32.toUInt16.toUInt32.toInt32))), .val (.ref b38), .val (.ref b68), .val (.ref b107), .val (.int ((if (p1 &&& (3 : Int32)) = (0 : Int32) then (((96 : Int32) + (p2 &&& (3 : Int32))).toUInt32.toUInt16.toUInt32.toInt32) else ((p2 &&& (65535 : Int32)).toUInt32.toUInt16.toUInt32.toInt32)) - (97 : Int32))), .val (.int (own_ex ((if (p1 &&& (3 : Int32)) = (0 : Int32) then (((96 : Int32) + (p2 &&& (3 : Int32))).toUInt32.toUInt16.toUInt32.toInt32) else ((p2 &&& (65535 : Int32)).toUInt32.toUInt16.toUInt32.toInt32)) - (97 : Int32))))] [])) t
      refine XS.iconst X193.here hx rfl (hb hby at_154) ?_
      show Steps p.tables e below (T193.setTop (mkF m 155 #[.val (.int p1), .val (.int p2), .val (.int p3), .val (.int p4), .val (.int (if (p1 &&& (3 : Int32)) = (0 : Int32) then (((96 : Int32) + (p2 &&& (3 : Int32))).toUInt32.toUInt16.toUInt32.toInt32) else ((p2 &&& (65535 : Int32)).toUInt32.toUInt16.toUInt32.toInt32))), .val (.ref b38), .val (.ref b68), .val (.ref b107), .val (.int ((if (p1 &&& (3 : Int32)) = (0 : Int32) then (((96 : Int32) + (p2 &&& (3 : Int32))).toUInt32.toUInt16.toUInt32.toInt32) else ((p2 &&& (65535 : Int32)).toUInt32.toUInt16.toUInt32.toInt32)) - (97 : Int32))), .val (.int (own_ex ((if (p1 &&& (3 : Int32)) = (0 : Int32) then (((96 : Int32) + (p2 &&& (3 : Int32))).toUInt32.toUInt16.toUInt32.toInt32) else ((p2 &&& (65535 : Int32)).toUInt32.toUInt16.toUInt32.toInt32)) - (97 : Int32))))] [(.int (1 : Int32))])) t
      refine XS.goto X193.here hx rfl (pc0 := 155) (pc' := 159) rfl (hb hby at_155) (by decide) (by decide) ?_
      exact kt
    obtain ⟨fs, hr, hrun, hended, hRW⟩ := X193.leaveW hS158 (by rw [e193]; exact hk158) (v := some (.int (1 : Int32))) (fun h => by rw [Bd.returns] at h; cases h)
    refine ⟨_, _, k196 _ ?_, hrun, hended, _, _, rfl, ?_, ?_, hRW.1, hRW.2.1, hRW.2.2.1, hRW.2.2.2.mono (by decide) (by decide)⟩
    · show Steps p.tables e below (T193.setTop (mkF m 159 #[.val (.int p1), .val (.int p2), .val (.int p3), .val (.int p4), .val (.int (if (p1 &&& (3 : Int32)) = (0 : Int32) then (((96 : Int32) + (p2 &&& (3 : Int32))).toUInt32.toUInt16.toUInt32.toInt32) else ((p2 &&& (65535 : Int32)).toUInt32.toUInt16.toUInt32.toInt32))), .val (.ref b38), .val (.ref b68), .val (.ref b107), .val (.int ((if (p1 &&& (3 : Int32)) = (0 : Int32) then (((96 : Int32) + (p2 &&& (3 : Int32))).toUInt32.toUInt16.toUInt32.toInt32) else ((p2 &&& (65535 : Int32)).toUInt32.toUInt16.toUInt32.toInt32)) - (97 : Int32))), .val (.int (own_ex ((if (p1 &&& (3 : Int32)) = (0 : Int32) then (((96 : Int32) + (p2 &&& (3 : Int32))).toUInt32.toUInt16.toUInt32.toInt32) else ((p2 &&& (65535 : Int32)).toUInt32.toUInt16.toUInt32.toInt32)) - (97 : Int32))))] [(.int (1 : Int32))])) _
      exact retN X193 hx (t := .boolean) Bd.returns (by simp) (hb hby at_159) hr
    · show Q0 Z p1 p2 p3 p4 cs h0 n0 _ T193.heap _
      rw [e193]
      exact ⟨rfl, N193⟩
    · show CHr Z own_EL s.vm s.heap T193.vm T193.heap
      rw [hh, e193]
      exact CHr.trans C163 (CHv.at (s := s) (vm0 := T158.vm) X193 hZ158 hEL C163.1)
  · have k197 : ∀ t, Steps p.tables e below (s₁.setTop (mkF m 31 #[.val (.int p1), .val (.int p2), .val (.int p3), .val (.int p4), .val (.int (if (p1 &&& (3 : Int32)) = (0 : Int32) then (((96 : Int32) + (p2 &&& (3 : Int32))).toUInt32.toUInt16.toUInt32.toInt32) else ((p2 &&& (65535 : Int32)).toUInt32.toUInt16.toUInt32.toInt32))), .unset, .unset, .unset, .unset, .unset] [])) t → Steps p.tables e below (s₁.setTop (entryFrame m #[(.int p1), (.int p2), (.int p3), (.int p4)] maxLocals)) t := by
      intro t kt
      refine k7 t ?_
      show Steps p.tables e below (s₁.setTop (mkF m 28 #[.val (.int p1), .val (.int p2), .val (.int p3), .val (.int p4), .val (.int (if (p1 &&& (3 : Int32)) = (0 : Int32) then (((96 : Int32) + (p2 &&& (3 : Int32))).toUInt32.toUInt16.toUInt32.toInt32) else ((p2 &&& (65535 : Int32)).toUInt32.toUInt16.toUInt32.toInt32))), .unset, .unset, .unset, .unset, .unset] [(.int (p1 &&& (4 : Int32)))])) t
      refine XS.ifNo X0.here hx rfl (hb hby at_28) rfl ((if0 _ _).trans (feq hc28_6).1) ?_
      exact kt
    obtain ⟨a198, T198, h198, j198, X198, e198, E198, hS198, hk198, hZ198, hown198, Cn198, Li198, st198⟩ := ldcOH (s := s) (vm0 := s.vm) X0 hx hZ hown (hw _ (List.mem_of_getElem? (i := 72) rfl)) (own_wS hw) e0 hS0 hk0 hEL C0.1 (g := (mkF m 31 #[.val (.int p1), .val (.int p2), .val (.int p3), .val (.int p4), .val (.int (if (p1 &&& (3 : Int32)) = (0 : Int32) then (((96 : Int32) + (p2 &&& (3 : Int32))).toUInt32.toUInt16.toUInt32.toInt32) else ((p2 &&& (65535 : Int32)).toUInt32.toUInt16.toUInt32.toInt32))), .unset, .unset, .unset, .unset, .unset] [])) rfl (hb hby at_31) (n := 0) (by decide) (by decide) (by decide) (by decide)
    have C199 := CHr.trans C0 Cn198
    have F200 := O0.ext E198
    have F201 := (Sta.ext O0.2 RC).ext E198
    have Z198 : n0 ≤ h198.size := Nat.le_trans Z0 E198.1
    have K198 : Keep h0 h198 [] := K0.ext E198
    have k202 : ∀ t, Steps p.tables e below (T198.setTop (mkF m 33 #[.val (.int p1), .val (.int p2), .val (.int p3), .val (.int p4), .val (.int (if (p1 &&& (3 : Int32)) = (0 : Int32) then (((96 : Int32) + (p2 &&& (3 : Int32))).toUInt32.toUInt16.toUInt32.toInt32) else ((p2 &&& (65535 : Int32)).toUInt32.toUInt16.toUInt32.toInt32))), .unset, .unset, .unset, .unset, .unset] [(.ref a198)])) t → Steps p.tables e below (s₁.setTop (entryFrame m #[(.int p1), (.int p2), (.int p3), (.int p4)] maxLocals)) t := fun t kt => k197 t (st198 t kt)
    have k203 : ∀ t, Steps p.tables e below (T198.setTop (mkF m 74 #[.val (.int p1), .val (.int p2), .val (.int p3), .val (.int p4), .val (.int (if (p1 &&& (3 : Int32)) = (0 : Int32) then (((96 : Int32) + (p2 &&& (3 : Int32))).toUInt32.toUInt16.toUInt32.toInt32) else ((p2 &&& (65535 : Int32)).toUInt32.toUInt16.toUInt32.toInt32))), .val (.ref a198), .unset, .unset, .unset, .unset] [])) t → Steps p.tables e below (s₁.setTop (entryFrame m #[(.int p1), (.int p2), (.int p3), (.int p4)] maxLocals)) t := by
      intro t kt
      refine k202 t ?_
      show Steps p.tables e below (T198.setTop (mkF m 33 #[.val (.int p1), .val (.int p2), .val (.int p3), .val (.int p4), .val (.int (if (p1 &&& (3 : Int32)) = (0 : Int32) then (((96 : Int32) + (p2 &&& (3 : Int32))).toUInt32.toUInt16.toUInt32.toInt32) else ((p2 &&& (65535 : Int32)).toUInt32.toUInt16.toUInt32.toInt32))), .unset, .unset, .unset, .unset, .unset] [(.ref a198)])) t
      refine XS.astore X198.here hx rfl (hb hby at_33) rfl rfl (l' := #[.val (.int p1), .val (.int p2), .val (.int p3), .val (.int p4), .val (.int (if (p1 &&& (3 : Int32)) = (0 : Int32) then (((96 : Int32) + (p2 &&& (3 : Int32))).toUInt32.toUInt16.toUInt32.toInt32) else ((p2 &&& (65535 : Int32)).toUInt32.toUInt16.toUInt32.toInt32))), .val (.ref a198), .unset, .unset, .unset, .unset]) rfl ?_
      show Steps p.tables e below (T198.setTop (mkF m 35 #[.val (.int p1), .val (.int p2), .val (.int p3), .val (.int p4), .val (.int (if (p1 &&& (3 : Int32)) = (0 : Int32) then (((96 : Int32) + (p2 &&& (3 : Int32))).toUInt32.toUInt16.toUInt32.toInt32) else ((p2 &&& (65535 : Int32)).toUInt32.toUInt16.toUInt32.toInt32))), .val (.ref a198), .unset, .unset, .unset, .unset] [])) t
      refine XS.goto X198.here hx rfl (pc0 := 35) (pc' := 74) rfl (hb hby at_35) (by decide) (by decide) ?_
      exact kt
    obtain ⟨T204, h204, X204, e204, E204, A204, D204, -, st204⟩ := newO X198 hx hZ198 hown198 (hw _ (List.mem_of_getElem? (i := 30) rfl)) (hw _ (List.mem_of_getElem? (i := 31) rfl)) (hw _ (List.mem_of_getElem? (i := 32) rfl)) e198 (g := (mkF m 74 #[.val (.int p1), .val (.int p2), .val (.int p3), .val (.int p4), .val (.int (if (p1 &&& (3 : Int32)) = (0 : Int32) then (((96 : Int32) + (p2 &&& (3 : Int32))).toUInt32.toUInt16.toUInt32.toInt32) else ((p2 &&& (65535 : Int32)).toUInt32.toUInt16.toUInt32.toInt32))), .val (.ref a198), .unset, .unset, .unset, .unset] [])) rfl (hb hby at_74) (by decide) (by decide)
    obtain ⟨b204, g204⟩ : ∃ z, z = h198.size := ⟨_, rfl⟩
    rw [← g204] at A204 D204 st204
    have F205 : Safe Z own_EL T198.vm h198 b204 := Safe.new (Nat.le_of_eq g204.symm)
    have g_b204 : n0 ≤ b204 := Nat.le_trans Z198 (Nat.le_of_eq g204.symm)
    have sz_b204 : h0.size ≤ b204 := Nat.le_trans K198.1 (Nat.le_of_eq g204.symm)
    have F206 := Safe.ext E204 C199.1 F205
    have C207 := CHr.trans C199 (CHr.ext E204 C199.1)
    have F208 := F200.ext E204
    have F209 := F201.ext E204
    have hk_210 := Nat.le_trans hk198 E204.1
    have Z204 : n0 ≤ h204.size := Nat.le_trans Z198 E204.1
    have K204 : Keep h0 h204 [] := K198.ext E204
    have F211 : Fld Z h204 b204 "recensio/records/Subfield" "code" "C" (.int (0 : Int32)) := D204 (Or.inr (hw _ (List.mem_of_getElem? (i := 50) rfl))) (ty := .char) (by decide)
    have F212 : Fld Z h204 b204 "recensio/records/Subfield" "value" "Ljava/lang/String;" .null := D204 (Or.inr (hw _ (List.mem_of_getElem? (i := 52) rfl))) (ty := (.object "java/lang/String")) (by decide)
    have k213 : ∀ t, Steps p.tables e below (T204.setTop (mkF m 77 #[.val (.int p1), .val (.int p2), .val (.int p3), .val (.int p4), .val (.int (if (p1 &&& (3 : Int32)) = (0 : Int32) then (((96 : Int32) + (p2 &&& (3 : Int32))).toUInt32.toUInt16.toUInt32.toInt32) else ((p2 &&& (65535 : Int32)).toUInt32.toUInt16.toUInt32.toInt32))), .val (.ref a198), .unset, .unset, .unset, .unset] [(.ref b204)])) t → Steps p.tables e below (s₁.setTop (entryFrame m #[(.int p1), (.int p2), (.int p3), (.int p4)] maxLocals)) t := fun t kt => k203 t (st204 t kt)
    have k214 : ∀ t, Steps p.tables e below (T204.setTop (mkF m 82 #[.val (.int p1), .val (.int p2), .val (.int p3), .val (.int p4), .val (.int (if (p1 &&& (3 : Int32)) = (0 : Int32) then (((96 : Int32) + (p2 &&& (3 : Int32))).toUInt32.toUInt16.toUInt32.toInt32) else ((p2 &&& (65535 : Int32)).toUInt32.toUInt16.toUInt32.toInt32))), .val (.ref a198), .unset, .unset, .unset, .unset] [(.ref a198), (.int (if (p1 &&& (3 : Int32)) = (0 : Int32) then (((96 : Int32) + (p2 &&& (3 : Int32))).toUInt32.toUInt16.toUInt32.toInt32) else ((p2 &&& (65535 : Int32)).toUInt32.toUInt16.toUInt32.toInt32))), (.ref b204), (.ref b204)])) t → Steps p.tables e below (s₁.setTop (entryFrame m #[(.int p1), (.int p2), (.int p3), (.int p4)] maxLocals)) t := by
      intro t kt
      refine k213 t ?_
      show Steps p.tables e below (T204.setTop (mkF m 77 #[.val (.int p1), .val (.int p2), .val (.int p3), .val (.int p4), .val (.int (if (p1 &&& (3 : Int32)) = (0 : Int32) then (((96 : Int32) + (p2 &&& (3 : Int32))).toUInt32.toUInt16.toUInt32.toInt32) else ((p2 &&& (65535 : Int32)).toUInt32.toUInt16.toUInt32.toInt32))), .val (.ref a198), .unset, .unset, .unset, .unset] [(.ref b204)])) t
      refine XS.dup X204.here hx rfl (hb hby at_77) rfl rfl ?_
      show Steps p.tables e below (T204.setTop (mkF m 78 #[.val (.int p1), .val (.int p2), .val (.int p3), .val (.int p4), .val (.int (if (p1 &&& (3 : Int32)) = (0 : Int32) then (((96 : Int32) + (p2 &&& (3 : Int32))).toUInt32.toUInt16.toUInt32.toInt32) else ((p2 &&& (65535 : Int32)).toUInt32.toUInt16.toUInt32.toInt32))), .val (.ref a198), .unset, .unset, .unset, .unset] [(.ref b204), (.ref b204)])) t
      refine XS.iload X204.here hx rfl (hb hby at_78) rfl ?_
      show Steps p.tables e below (T204.setTop (mkF m 80 #[.val (.int p1), .val (.int p2), .val (.int p3), .val (.int p4), .val (.int (if (p1 &&& (3 : Int32)) = (0 : Int32) then (((96 : Int32) + (p2 &&& (3 : Int32))).toUInt32.toUInt16.toUInt32.toInt32) else ((p2 &&& (65535 : Int32)).toUInt32.toUInt16.toUInt32.toInt32))), .val (.ref a198), .unset, .unset, .unset, .unset] [(.int (if (p1 &&& (3 : Int32)) = (0 : Int32) then (((96 : Int32) + (p2 &&& (3 : Int32))).toUInt32.toUInt16.toUInt32.toInt32) else ((p2 &&& (65535 : Int32)).toUInt32.toUInt16.toUInt32.toInt32))), (.ref b204), (.ref b204)])) t
      refine XS.aload X204.here hx rfl (hb hby at_80) rfl rfl ?_
      exact kt
    obtain ⟨_, _, ⟨T215, L215, k215c, n215⟩, -, Y215, hS215p, hg215, ⟨Lc215, hQ215, l215, y215, z215, Cn215⟩, st215⟩ := X204.specialBackS hx (y := (⟨"recensio/records/Subfield", "<init>", "(CLjava/lang/String;)V"⟩ : MethodName)) rfl hown198 (mvT hZ198 (hw _ (List.mem_of_getElem? (i := 33) rfl))) (mvT hZ198 (hw _ (List.mem_of_getElem? (i := 34) rfl))) (mvT hZ198 (hw _ (List.mem_of_getElem? (i := 35) rfl))) (by decide) (own_backSH (s := s) (vm0 := T198.vm) (W := 1) (rmSf l Z a0 hw [] b204 (if (p1 &&& (3 : Int32)) = (0 : Int32) then (((96 : Int32) + (p2 &&& (3 : Int32))).toUInt32.toUInt16.toUInt32.toInt32) else ((p2 &&& (65535 : Int32)).toUInt32.toUInt16.toUInt32.toInt32)) a198 h204 n0 Z204 F211 F212 A204 g_b204) hZ198 (hw _ (List.mem_of_getElem? (i := 35) rfl)) (hw _ (List.mem_of_getElem? (i := 32) rfl)) (by decide) (by decide) hEL C207.1 (own_slS A204.lt F206 (fun _ q => nomatch q))) (g := (mkF m 82 #[.val (.int p1), .val (.int p2), .val (.int p3), .val (.int p4), .val (.int (if (p1 &&& (3 : Int32)) = (0 : Int32) then (((96 : Int32) + (p2 &&& (3 : Int32))).toUInt32.toUInt16.toUInt32.toInt32) else ((p2 &&& (65535 : Int32)).toUInt32.toUInt16.toUInt32.toInt32))), .val (.ref a198), .unset, .unset, .unset, .unset] [(.ref a198), (.int (if (p1 &&& (3 : Int32)) = (0 : Int32) then (((96 : Int32) + (p2 &&& (3 : Int32))).toUInt32.toUInt16.toUInt32.toInt32) else ((p2 &&& (65535 : Int32)).toUInt32.toUInt16.toUInt32.toInt32))), (.ref b204), (.ref b204)])) rfl (by rw [hml]; rfl) (Steps.refl _) (a := b204) (argsL := [(.int (if (p1 &&& (3 : Int32)) = (0 : Int32) then (((96 : Int32) + (p2 &&& (3 : Int32))).toUInt32.toUInt16.toUInt32.toInt32) else ((p2 &&& (65535 : Int32)).toUInt32.toUInt16.toUInt32.toInt32))), (.ref a198)]) (rest := [(.ref b204)]) (lenOf own_pd10 rfl) rfl (by show 2 * 0 + _ ≤ _; exact Nat.le_of_eq rfl) (hb hby at_82) (fun _ _ => ⟨rfl, e204, (by decide : 3 + 2 ≤ _), (by decide : 6 + 24 ≤ _)⟩)
    dsimp only [Pt.U, Pt.locs, Pt.cells, Pt.slots] at Y215 hS215p hg215 l215 y215 z215 st215 hQ215 Cn215
    subst l215 y215 z215
    obtain ⟨X215, hS215, hZ215, hown215⟩ := rebS hS198 (by rw [e204]; exact hk_210) Y215 hS215p hg215 hZ198 hown198
    have hk215 := Nat.le_refl T215.heap.size
    obtain ⟨rfl, N215q, K215k, Fc215⟩ := hQ215
    have N215 := Fr.app N0 N215q
    rw [own_ch _ (own_cr p1 p2).1 (own_cr p1 p2).2] at Fc215
    have F216 := CHr.safe Cn215 A204.lt F206
    have C217 := CHr.trans C207 Cn215
    have F218 := F208.keep K215k (allS g_b204 all0)
    have F219 := Sta.ext F218.2 RC
    have F220 := A204.keep K215k
    have Z223 : n0 ≤ T215.heap.size := Nat.le_trans Z204 K215k.1
    have K223 : Keep h0 T215.heap [] := K204.trans K215k (allS (Or.inr sz_b204) all0)
    have k224 : ∀ t, Steps p.tables e below (T215.setTop (mkF m 85 #[.val (.int p1), .val (.int p2), .val (.int p3), .val (.int p4), .val (.int (if (p1 &&& (3 : Int32)) = (0 : Int32) then (((96 : Int32) + (p2 &&& (3 : Int32))).toUInt32.toUInt16.toUInt32.toInt32) else ((p2 &&& (65535 : Int32)).toUInt32.toUInt16.toUInt32.toInt32))), .val (.ref a198), .unset, .unset, .unset, .unset] [(.ref b204)])) t → Steps p.tables e below (s₁.setTop (entryFrame m #[(.int p1), (.int p2), (.int p3), (.int p4)] maxLocals)) t := fun t kt => k214 t (st215.trans kt)
    have k225 : ∀ t, Steps p.tables e below (T215.setTop (mkF m 87 #[.val (.int p1), .val (.int p2), .val (.int p3), .val (.int p4), .val (.int (if (p1 &&& (3 : Int32)) = (0 : Int32) then (((96 : Int32) + (p2 &&& (3 : Int32))).toUInt32.toUInt16.toUInt32.toInt32) else ((p2 &&& (65535 : Int32)).toUInt32.toUInt16.toUInt32.toInt32))), .val (.ref a198), .val (.ref b204), .unset, .unset, .unset] [])) t → Steps p.tables e below (s₁.setTop (entryFrame m #[(.int p1), (.int p2), (.int p3), (.int p4)] maxLocals)) t := by
      intro t kt
      refine k224 t ?_
      show Steps p.tables e below (T215.setTop (mkF m 85 #[.val (.int p1), .val (.int p2), .val (.int p3), .val (.int p4), .val (.int (if (p1 &&& (3 : Int32)) = (0 : Int32) then (((96 : Int32) + (p2 &&& (3 : Int32))).toUInt32.toUInt16.toUInt32.toInt32) else ((p2 &&& (65535 : Int32)).toUInt32.toUInt16.toUInt32.toInt32))), .val (.ref a198), .unset, .unset, .unset, .unset] [(.ref b204)])) t
      refine XS.astore X215.here hx rfl (hb hby at_85) rfl rfl (l' := #[.val (.int p1), .val (.int p2), .val (.int p3), .val (.int p4), .val (.int (if (p1 &&& (3 : Int32)) = (0 : Int32) then (((96 : Int32) + (p2 &&& (3 : Int32))).toUInt32.toUInt16.toUInt32.toInt32) else ((p2 &&& (65535 : Int32)).toUInt32.toUInt16.toUInt32.toInt32))), .val (.ref a198), .val (.ref b204), .unset, .unset, .unset]) rfl ?_
      exact kt
    obtain ⟨T226, h226, X226, e226, E226, A226, D226, -, st226⟩ := newO X215 hx hZ215 hown215 (hw _ (List.mem_of_getElem? (i := 30) rfl)) (hw _ (List.mem_of_getElem? (i := 31) rfl)) (hw _ (List.mem_of_getElem? (i := 32) rfl)) rfl (g := (mkF m 87 #[.val (.int p1), .val (.int p2), .val (.int p3), .val (.int p4), .val (.int (if (p1 &&& (3 : Int32)) = (0 : Int32) then (((96 : Int32) + (p2 &&& (3 : Int32))).toUInt32.toUInt16.toUInt32.toInt32) else ((p2 &&& (65535 : Int32)).toUInt32.toUInt16.toUInt32.toInt32))), .val (.ref a198), .val (.ref b204), .unset, .unset, .unset] [])) rfl (hb hby at_87) (by decide) (by decide)
    obtain ⟨b226, g226⟩ : ∃ z, z = T215.heap.size := ⟨_, rfl⟩
    rw [← g226] at A226 D226 st226
    have F227 : Safe Z own_EL T215.vm T215.heap b226 := Safe.new (Nat.le_of_eq g226.symm)
    have g_b226 : n0 ≤ b226 := Nat.le_trans Z223 (Nat.le_of_eq g226.symm)
    have sz_b226 : h0.size ≤ b226 := Nat.le_trans K223.1 (Nat.le_of_eq g226.symm)
    have ne228 : b204 ≠ b226 := Nat.ne_of_lt (Nat.lt_of_lt_of_le F220.lt (Nat.le_of_eq g226.symm))
    have F229 := Safe.ext E226 C217.1 F216
    have F230 := Safe.ext E226 C217.1 F227
    have C231 := CHr.trans C217 (CHr.ext E226 C217.1)
    have F232 := F218.ext E226
    have F233 := F219.ext E226
    have F234 := F220.ext E226
    have F235 := Fc215.ext E226
    have hk_236 := Nat.le_trans hk215 E226.1
    have Z226 : n0 ≤ h226.size := Nat.le_trans Z223 E226.1
    have K226 : Keep h0 h226 [] := K223.ext E226
    have F237 : Fld Z h226 b226 "recensio/records/Subfield" "code" "C" (.int (0 : Int32)) := D226 (Or.inr (hw _ (List.mem_of_getElem? (i := 50) rfl))) (ty := .char) (by decide)
    have F238 : Fld Z h226 b226 "recensio/records/Subfield" "value" "Ljava/lang/String;" .null := D226 (Or.inr (hw _ (List.mem_of_getElem? (i := 52) rfl))) (ty := (.object "java/lang/String")) (by decide)
    have k239 : ∀ t, Steps p.tables e below (T226.setTop (mkF m 90 #[.val (.int p1), .val (.int p2), .val (.int p3), .val (.int p4), .val (.int (if (p1 &&& (3 : Int32)) = (0 : Int32) then (((96 : Int32) + (p2 &&& (3 : Int32))).toUInt32.toUInt16.toUInt32.toInt32) else ((p2 &&& (65535 : Int32)).toUInt32.toUInt16.toUInt32.toInt32))), .val (.ref a198), .val (.ref b204), .unset, .unset, .unset] [(.ref b226)])) t → Steps p.tables e below (s₁.setTop (entryFrame m #[(.int p1), (.int p2), (.int p3), (.int p4)] maxLocals)) t := fun t kt => k225 t (st226 t kt)
    have k240 : ∀ t, Steps p.tables e below (T226.setTop (mkF m 101 #[.val (.int p1), .val (.int p2), .val (.int p3), .val (.int p4), .val (.int (if (p1 &&& (3 : Int32)) = (0 : Int32) then (((96 : Int32) + (p2 &&& (3 : Int32))).toUInt32.toUInt16.toUInt32.toInt32) else ((p2 &&& (65535 : Int32)).toUInt32.toUInt16.toUInt32.toInt32))), .val (.ref a198), .val (.ref b204), .unset, .unset, .unset] [(.int (((p3 ^^^ p4) &&& (255 : Int32)).toUInt32.toUInt16.toUInt32.toInt32)), (.int (if (p1 &&& (3 : Int32)) = (0 : Int32) then (((96 : Int32) + (p2 &&& (3 : Int32))).toUInt32.toUInt16.toUInt32.toInt32) else ((p2 &&& (65535 : Int32)).toUInt32.toUInt16.toUInt32.toInt32))), (.ref b226), (.ref b226)])) t → Steps p.tables e below (s₁.setTop (entryFrame m #[(.int p1), (.int p2), (.int p3), (.int p4)] maxLocals)) t := by
      intro t kt
      refine k239 t ?_
      show Steps p.tables e below (T226.setTop (mkF m 90 #[.val (.int p1), .val (.int p2), .val (.int p3), .val (.int p4), .val (.int (if (p1 &&& (3 : Int32)) = (0 : Int32) then (((96 : Int32) + (p2 &&& (3 : Int32))).toUInt32.toUInt16.toUInt32.toInt32) else ((p2 &&& (65535 : Int32)).toUInt32.toUInt16.toUInt32.toInt32))), .val (.ref a198), .val (.ref b204), .unset, .unset, .unset] [(.ref b226)])) t
      refine XS.dup X226.here hx rfl (hb hby at_90) rfl rfl ?_
      show Steps p.tables e below (T226.setTop (mkF m 91 #[.val (.int p1), .val (.int p2), .val (.int p3), .val (.int p4), .val (.int (if (p1 &&& (3 : Int32)) = (0 : Int32) then (((96 : Int32) + (p2 &&& (3 : Int32))).toUInt32.toUInt16.toUInt32.toInt32) else ((p2 &&& (65535 : Int32)).toUInt32.toUInt16.toUInt32.toInt32))), .val (.ref a198), .val (.ref b204), .unset, .unset, .unset] [(.ref b226), (.ref b226)])) t
      refine XS.iload X226.here hx rfl (hb hby at_91) rfl ?_
      show Steps p.tables e below (T226.setTop (mkF m 93 #[.val (.int p1), .val (.int p2), .val (.int p3), .val (.int p4), .val (.int (if (p1 &&& (3 : Int32)) = (0 : Int32) then (((96 : Int32) + (p2 &&& (3 : Int32))).toUInt32.toUInt16.toUInt32.toInt32) else ((p2 &&& (65535 : Int32)).toUInt32.toUInt16.toUInt32.toInt32))), .val (.ref a198), .val (.ref b204), .unset, .unset, .unset] [(.int (if (p1 &&& (3 : Int32)) = (0 : Int32) then (((96 : Int32) + (p2 &&& (3 : Int32))).toUInt32.toUInt16.toUInt32.toInt32) else ((p2 &&& (65535 : Int32)).toUInt32.toUInt16.toUInt32.toInt32))), (.ref b226), (.ref b226)])) t
      refine XS.iloadN X226.here hx rfl (hb hby at_93) rfl ?_
      show Steps p.tables e below (T226.setTop (mkF m 94 #[.val (.int p1), .val (.int p2), .val (.int p3), .val (.int p4), .val (.int (if (p1 &&& (3 : Int32)) = (0 : Int32) then (((96 : Int32) + (p2 &&& (3 : Int32))).toUInt32.toUInt16.toUInt32.toInt32) else ((p2 &&& (65535 : Int32)).toUInt32.toUInt16.toUInt32.toInt32))), .val (.ref a198), .val (.ref b204), .unset, .unset, .unset] [(.int p3), (.int (if (p1 &&& (3 : Int32)) = (0 : Int32) then (((96 : Int32) + (p2 &&& (3 : Int32))).toUInt32.toUInt16.toUInt32.toInt32) else ((p2 &&& (65535 : Int32)).toUInt32.toUInt16.toUInt32.toInt32))), (.ref b226), (.ref b226)])) t
      refine XS.iloadN X226.here hx rfl (hb hby at_94) rfl ?_
      show Steps p.tables e below (T226.setTop (mkF m 95 #[.val (.int p1), .val (.int p2), .val (.int p3), .val (.int p4), .val (.int (if (p1 &&& (3 : Int32)) = (0 : Int32) then (((96 : Int32) + (p2 &&& (3 : Int32))).toUInt32.toUInt16.toUInt32.toInt32) else ((p2 &&& (65535 : Int32)).toUInt32.toUInt16.toUInt32.toInt32))), .val (.ref a198), .val (.ref b204), .unset, .unset, .unset] [(.int p4), (.int p3), (.int (if (p1 &&& (3 : Int32)) = (0 : Int32) then (((96 : Int32) + (p2 &&& (3 : Int32))).toUInt32.toUInt16.toUInt32.toInt32) else ((p2 &&& (65535 : Int32)).toUInt32.toUInt16.toUInt32.toInt32))), (.ref b226), (.ref b226)])) t
      refine XS.ixor X226.here hx rfl (hb hby at_95) rfl ?_
      show Steps p.tables e below (T226.setTop (mkF m 96 #[.val (.int p1), .val (.int p2), .val (.int p3), .val (.int p4), .val (.int (if (p1 &&& (3 : Int32)) = (0 : Int32) then (((96 : Int32) + (p2 &&& (3 : Int32))).toUInt32.toUInt16.toUInt32.toInt32) else ((p2 &&& (65535 : Int32)).toUInt32.toUInt16.toUInt32.toInt32))), .val (.ref a198), .val (.ref b204), .unset, .unset, .unset] [(.int (p3 ^^^ p4)), (.int (if (p1 &&& (3 : Int32)) = (0 : Int32) then (((96 : Int32) + (p2 &&& (3 : Int32))).toUInt32.toUInt16.toUInt32.toInt32) else ((p2 &&& (65535 : Int32)).toUInt32.toUInt16.toUInt32.toInt32))), (.ref b226), (.ref b226)])) t
      refine XS.sipush X226.here hx rfl (hb hby at_96) ?_
      show Steps p.tables e below (T226.setTop (mkF m 99 #[.val (.int p1), .val (.int p2), .val (.int p3), .val (.int p4), .val (.int (if (p1 &&& (3 : Int32)) = (0 : Int32) then (((96 : Int32) + (p2 &&& (3 : Int32))).toUInt32.toUInt16.toUInt32.toInt32) else ((p2 &&& (65535 : Int32)).toUInt32.toUInt16.toUInt32.toInt32))), .val (.ref a198), .val (.ref b204), .unset, .unset, .unset] [(.int (255 : Int32)), (.int (p3 ^^^ p4)), (.int (if (p1 &&& (3 : Int32)) = (0 : Int32) then (((96 : Int32) + (p2 &&& (3 : Int32))).toUInt32.toUInt16.toUInt32.toInt32) else ((p2 &&& (65535 : Int32)).toUInt32.toUInt16.toUInt32.toInt32))), (.ref b226), (.ref b226)])) t
      refine XS.iand X226.here hx rfl (hb hby at_99) rfl ?_
      show Steps p.tables e below (T226.setTop (mkF m 100 #[.val (.int p1), .val (.int p2), .val (.int p3), .val (.int p4), .val (.int (if (p1 &&& (3 : Int32)) = (0 : Int32) then (((96 : Int32) + (p2 &&& (3 : Int32))).toUInt32.toUInt16.toUInt32.toInt32) else ((p2 &&& (65535 : Int32)).toUInt32.toUInt16.toUInt32.toInt32))), .val (.ref a198), .val (.ref b204), .unset, .unset, .unset] [(.int ((p3 ^^^ p4) &&& (255 : Int32))), (.int (if (p1 &&& (3 : Int32)) = (0 : Int32) then (((96 : Int32) + (p2 &&& (3 : Int32))).toUInt32.toUInt16.toUInt32.toInt32) else ((p2 &&& (65535 : Int32)).toUInt32.toUInt16.toUInt32.toInt32))), (.ref b226), (.ref b226)])) t
      refine XS.i2c X226.here hx rfl (hb hby at_100) rfl ?_
      exact kt
    obtain ⟨_, _, ⟨T241, L241, k241c, n241⟩, -, X241, ⟨Lc241, hQ241, l241, y241, z241⟩, st241⟩ := Jvm.LawKit.callS X226 hx (y := (⟨"java/lang/String", "valueOf", "(C)Ljava/lang/String;"⟩ : MethodName)) hown215 (mvT hZ215 (hw _ (List.mem_of_getElem? (i := 53) rfl))) (mvT hZ215 (hw _ (List.mem_of_getElem? (i := 54) rfl))) (mvT hZ215 (hw _ (List.mem_of_getElem? (i := 3) rfl))) (mvT hZ215 (hw _ (List.mem_of_getElem? (i := 55) rfl))) (by decide) (backOf (W := 3) (rmVal l Z a0 hw [] (((p3 ^^^ p4) &&& (255 : Int32)).toUInt32.toUInt16.toUInt32.toInt32) cs h226 n0 Z226 F233 hcs (own_lt1 _)) hZ215 (hw _ (List.mem_of_getElem? (i := 55) rfl)) (hw _ (List.mem_of_getElem? (i := 3) rfl)) (by decide) (by decide)) (g := (mkF m 101 #[.val (.int p1), .val (.int p2), .val (.int p3), .val (.int p4), .val (.int (if (p1 &&& (3 : Int32)) = (0 : Int32) then (((96 : Int32) + (p2 &&& (3 : Int32))).toUInt32.toUInt16.toUInt32.toInt32) else ((p2 &&& (65535 : Int32)).toUInt32.toUInt16.toUInt32.toInt32))), .val (.ref a198), .val (.ref b204), .unset, .unset, .unset] [(.int (((p3 ^^^ p4) &&& (255 : Int32)).toUInt32.toUInt16.toUInt32.toInt32)), (.int (if (p1 &&& (3 : Int32)) = (0 : Int32) then (((96 : Int32) + (p2 &&& (3 : Int32))).toUInt32.toUInt16.toUInt32.toInt32) else ((p2 &&& (65535 : Int32)).toUInt32.toUInt16.toUInt32.toInt32))), (.ref b226), (.ref b226)])) rfl (by rw [hml]; rfl) (argsL := [(.int (((p3 ^^^ p4) &&& (255 : Int32)).toUInt32.toUInt16.toUInt32.toInt32))]) (rest := [(.int (if (p1 &&& (3 : Int32)) = (0 : Int32) then (((96 : Int32) + (p2 &&& (3 : Int32))).toUInt32.toUInt16.toUInt32.toInt32) else ((p2 &&& (65535 : Int32)).toUInt32.toUInt16.toUInt32.toInt32))), (.ref b226), (.ref b226)]) (lenOf own_pd11 rfl) rfl (by show 2 * 0 + _ ≤ _; exact Nat.le_of_eq rfl) (hb hby at_101) (fun _ _ => ⟨rfl, e226, (by decide : 6 + 2 ≤ _), (by decide : 32 + 5 ≤ _)⟩)
    dsimp only [Pt.U, Pt.locs, Pt.cells, Pt.slots] at X241 l241 y241 z241 st241 hQ241
    subst l241 y241 z241
    obtain ⟨r241, b241, c241, rfl, N241q, K241k, s241z, E241r, -, -, -⟩ := hQ241
    have N241 := Fr.app N215 N241q
    have g_r241 : n0 ≤ r241 := Nat.le_trans Z226 s241z
    have sz_r241 : h0.size ≤ r241 := Nat.le_trans K226.1 s241z
    have ne242 : b204 ≠ r241 := Nat.ne_of_lt (Nat.lt_of_lt_of_le F234.lt s241z)
    have ne243 : b226 ≠ r241 := Nat.ne_of_lt (Nat.lt_of_lt_of_le A226.lt s241z)
    have F244 := Safe.keep K241k sf0 C231.1 F229
    have F245 := Safe.keep K241k sf0 C231.1 F230
    have C246 := CHr.trans C231 (CHr.keep K241k sf0 C231.1)
    have F247 := F232.keep K241k all0
    have F248 := Sta.ext F247.2 RC
    have F249 := F234.keep K241k
    have F250 := F235.keep K241k nin0
    have F251 := A226.keep K241k
    have F252 := F237.keep K241k nin0
    have F253 := F238.keep K241k nin0
    have hk_254 := Nat.le_trans hk_236 K241k.1
    have Z255 : n0 ≤ T241.heap.size := Nat.le_trans Z226 K241k.1
    have K255 : Keep h0 T241.heap [] := K226.trans K241k all0
    have k256 : ∀ t, Steps p.tables e below (T241.setTop (mkF m 104 #[.val (.int p1), .val (.int p2), .val (.int p3), .val (.int p4), .val (.int (if (p1 &&& (3 : Int32)) = (0 : Int32) then (((96 : Int32) + (p2 &&& (3 : Int32))).toUInt32.toUInt16.toUInt32.toInt32) else ((p2 &&& (65535 : Int32)).toUInt32.toUInt16.toUInt32.toInt32))), .val (.ref a198), .val (.ref b204), .unset, .unset, .unset] [(.ref r241), (.int (if (p1 &&& (3 : Int32)) = (0 : Int32) then (((96 : Int32) + (p2 &&& (3 : Int32))).toUInt32.toUInt16.toUInt32.toInt32) else ((p2 &&& (65535 : Int32)).toUInt32.toUInt16.toUInt32.toInt32))), (.ref b226), (.ref b226)])) t → Steps p.tables e below (s₁.setTop (entryFrame m #[(.int p1), (.int p2), (.int p3), (.int p4)] maxLocals)) t := fun t kt => k240 t (st241 t kt)
    obtain ⟨_, _, ⟨T257, L257, k257c, n257⟩, -, Y257, hS257p, hg257, ⟨Lc257, hQ257, l257, y257, z257, Cn257⟩, st257⟩ := X241.specialBackS hx (y := (⟨"recensio/records/Subfield", "<init>", "(CLjava/lang/String;)V"⟩ : MethodName)) rfl hown215 (mvT hZ215 (hw _ (List.mem_of_getElem? (i := 33) rfl))) (mvT hZ215 (hw _ (List.mem_of_getElem? (i := 34) rfl))) (mvT hZ215 (hw _ (List.mem_of_getElem? (i := 35) rfl))) (by decide) (own_backSH (s := s) (vm0 := T215.vm) (W := 1) (rmSf l Z a0 hw [] b226 (if (p1 &&& (3 : Int32)) = (0 : Int32) then (((96 : Int32) + (p2 &&& (3 : Int32))).toUInt32.toUInt16.toUInt32.toInt32) else ((p2 &&& (65535 : Int32)).toUInt32.toUInt16.toUInt32.toInt32)) r241 T241.heap n0 Z255 F252 F253 F251 g_b226) hZ215 (hw _ (List.mem_of_getElem? (i := 35) rfl)) (hw _ (List.mem_of_getElem? (i := 32) rfl)) (by decide) (by decide) hEL C246.1 (own_slS F251.lt F245 (fun _ q => nomatch q))) (g := (mkF m 104 #[.val (.int p1), .val (.int p2), .val (.int p3), .val (.int p4), .val (.int (if (p1 &&& (3 : Int32)) = (0 : Int32) then (((96 : Int32) + (p2 &&& (3 : Int32))).toUInt32.toUInt16.toUInt32.toInt32) else ((p2 &&& (65535 : Int32)).toUInt32.toUInt16.toUInt32.toInt32))), .val (.ref a198), .val (.ref b204), .unset, .unset, .unset] [(.ref r241), (.int (if (p1 &&& (3 : Int32)) = (0 : Int32) then (((96 : Int32) + (p2 &&& (3 : Int32))).toUInt32.toUInt16.toUInt32.toInt32) else ((p2 &&& (65535 : Int32)).toUInt32.toUInt16.toUInt32.toInt32))), (.ref b226), (.ref b226)])) rfl (by rw [hml]; rfl) (Steps.refl _) (a := b226) (argsL := [(.int (if (p1 &&& (3 : Int32)) = (0 : Int32) then (((96 : Int32) + (p2 &&& (3 : Int32))).toUInt32.toUInt16.toUInt32.toInt32) else ((p2 &&& (65535 : Int32)).toUInt32.toUInt16.toUInt32.toInt32))), (.ref r241)]) (rest := [(.ref b226)]) (lenOf own_pd10 rfl) rfl (by show 2 * 0 + _ ≤ _; exact Nat.le_of_eq rfl) (hb hby at_104) (fun _ _ => ⟨rfl, rfl, (by decide : 8 + 2 ≤ _), (by decide : 37 + 24 ≤ _)⟩)
    dsimp only [Pt.U, Pt.locs, Pt.cells, Pt.slots] at Y257 hS257p hg257 l257 y257 z257 st257 hQ257 Cn257
    subst l257 y257 z257
    obtain ⟨X257, hS257, hZ257, hown257⟩ := rebS hS215 hk_254 Y257 hS257p hg257 hZ215 hown215
    have hk257 := Nat.le_refl T257.heap.size
    obtain ⟨rfl, N257q, K257k, Fc257⟩ := hQ257
    have N257 := Fr.app N241 N257q
    rw [own_ch _ (own_cr p1 p2).1 (own_cr p1 p2).2] at Fc257
    have F258 := CHr.safe Cn257 F249.lt F244
    have F259 := CHr.safe Cn257 F251.lt F245
    have C260 := CHr.trans C246 Cn257
    have F261 := F247.keep K257k (allS g_b226 all0)
    have F262 := Sta.ext F261.2 RC
    have F263 := F249.keep K257k
    have F264 := F250.keep K257k (ninS ne228 nin0)
    have F265 := F251.keep K257k
    have F268 := E241r.keep K257k
    have Z269 : n0 ≤ T257.heap.size := Nat.le_trans Z255 K257k.1
    have K269 : Keep h0 T257.heap [] := K255.trans K257k (allS (Or.inr sz_b226) all0)
    have k270 : ∀ t, Steps p.tables e below (T257.setTop (mkF m 107 #[.val (.int p1), .val (.int p2), .val (.int p3), .val (.int p4), .val (.int (if (p1 &&& (3 : Int32)) = (0 : Int32) then (((96 : Int32) + (p2 &&& (3 : Int32))).toUInt32.toUInt16.toUInt32.toInt32) else ((p2 &&& (65535 : Int32)).toUInt32.toUInt16.toUInt32.toInt32))), .val (.ref a198), .val (.ref b204), .unset, .unset, .unset] [(.ref b226)])) t → Steps p.tables e below (s₁.setTop (entryFrame m #[(.int p1), (.int p2), (.int p3), (.int p4)] maxLocals)) t := fun t kt => k256 t (st257.trans kt)
    have k271 : ∀ t, Steps p.tables e below (T257.setTop (mkF m 118 #[.val (.int p1), .val (.int p2), .val (.int p3), .val (.int p4), .val (.int (if (p1 &&& (3 : Int32)) = (0 : Int32) then (((96 : Int32) + (p2 &&& (3 : Int32))).toUInt32.toUInt16.toUInt32.toInt32) else ((p2 &&& (65535 : Int32)).toUInt32.toUInt16.toUInt32.toInt32))), .val (.ref a198), .val (.ref b204), .val (.ref b226), .val (.int ((if (p1 &&& (3 : Int32)) = (0 : Int32) then (((96 : Int32) + (p2 &&& (3 : Int32))).toUInt32.toUInt16.toUInt32.toInt32) else ((p2 &&& (65535 : Int32)).toUInt32.toUInt16.toUInt32.toInt32)) - (97 : Int32))), .unset] [(.int ((if (p1 &&& (3 : Int32)) = (0 : Int32) then (((96 : Int32) + (p2 &&& (3 : Int32))).toUInt32.toUInt16.toUInt32.toInt32) else ((p2 &&& (65535 : Int32)).toUInt32.toUInt16.toUInt32.toInt32)) - (97 : Int32)))])) t → Steps p.tables e below (s₁.setTop (entryFrame m #[(.int p1), (.int p2), (.int p3), (.int p4)] maxLocals)) t := by
      intro t kt
      refine k270 t ?_
      show Steps p.tables e below (T257.setTop (mkF m 107 #[.val (.int p1), .val (.int p2), .val (.int p3), .val (.int p4), .val (.int (if (p1 &&& (3 : Int32)) = (0 : Int32) then (((96 : Int32) + (p2 &&& (3 : Int32))).toUInt32.toUInt16.toUInt32.toInt32) else ((p2 &&& (65535 : Int32)).toUInt32.toUInt16.toUInt32.toInt32))), .val (.ref a198), .val (.ref b204), .unset, .unset, .unset] [(.ref b226)])) t
      refine XS.astore X257.here hx rfl (hb hby at_107) rfl rfl (l' := #[.val (.int p1), .val (.int p2), .val (.int p3), .val (.int p4), .val (.int (if (p1 &&& (3 : Int32)) = (0 : Int32) then (((96 : Int32) + (p2 &&& (3 : Int32))).toUInt32.toUInt16.toUInt32.toInt32) else ((p2 &&& (65535 : Int32)).toUInt32.toUInt16.toUInt32.toInt32))), .val (.ref a198), .val (.ref b204), .val (.ref b226), .unset, .unset]) rfl ?_
      show Steps p.tables e below (T257.setTop (mkF m 109 #[.val (.int p1), .val (.int p2), .val (.int p3), .val (.int p4), .val (.int (if (p1 &&& (3 : Int32)) = (0 : Int32) then (((96 : Int32) + (p2 &&& (3 : Int32))).toUInt32.toUInt16.toUInt32.toInt32) else ((p2 &&& (65535 : Int32)).toUInt32.toUInt16.toUInt32.toInt32))), .val (.ref a198), .val (.ref b204), .val (.ref b226), .unset, .unset] [])) t
      refine XS.iload X257.here hx rfl (hb hby at_109) rfl ?_
      show Steps p.tables e below (T257.setTop (mkF m 111 #[.val (.int p1), .val (.int p2), .val (.int p3), .val (.int p4), .val (.int (if (p1 &&& (3 : Int32)) = (0 : Int32) then (((96 : Int32) + (p2 &&& (3 : Int32))).toUInt32.toUInt16.toUInt32.toInt32) else ((p2 &&& (65535 : Int32)).toUInt32.toUInt16.toUInt32.toInt32))), .val (.ref a198), .val (.ref b204), .val (.ref b226), .unset, .unset] [(.int (if (p1 &&& (3 : Int32)) = (0 : Int32) then (((96 : Int32) + (p2 &&& (3 : Int32))).toUInt32.toUInt16.toUInt32.toInt32) else ((p2 &&& (65535 : Int32)).toUInt32.toUInt16.toUInt32.toInt32)))])) t
      refine XS.bipush X257.here hx rfl (hb hby at_111) ?_
      show Steps p.tables e below (T257.setTop (mkF m 113 #[.val (.int p1), .val (.int p2), .val (.int p3), .val (.int p4), .val (.int (if (p1 &&& (3 : Int32)) = (0 : Int32) then (((96 : Int32) + (p2 &&& (3 : Int32))).toUInt32.toUInt16.toUInt32.toInt32) else ((p2 &&& (65535 : Int32)).toUInt32.toUInt16.toUInt32.toInt32))), .val (.ref a198), .val (.ref b204), .val (.ref b226), .unset, .unset] [(.int (97 : Int32)), (.int (if (p1 &&& (3 : Int32)) = (0 : Int32) then (((96 : Int32) + (p2 &&& (3 : Int32))).toUInt32.toUInt16.toUInt32.toInt32) else ((p2 &&& (65535 : Int32)).toUInt32.toUInt16.toUInt32.toInt32)))])) t
      refine XS.isub X257.here hx rfl (hb hby at_113) rfl ?_
      show Steps p.tables e below (T257.setTop (mkF m 114 #[.val (.int p1), .val (.int p2), .val (.int p3), .val (.int p4), .val (.int (if (p1 &&& (3 : Int32)) = (0 : Int32) then (((96 : Int32) + (p2 &&& (3 : Int32))).toUInt32.toUInt16.toUInt32.toInt32) else ((p2 &&& (65535 : Int32)).toUInt32.toUInt16.toUInt32.toInt32))), .val (.ref a198), .val (.ref b204), .val (.ref b226), .unset, .unset] [(.int ((if (p1 &&& (3 : Int32)) = (0 : Int32) then (((96 : Int32) + (p2 &&& (3 : Int32))).toUInt32.toUInt16.toUInt32.toInt32) else ((p2 &&& (65535 : Int32)).toUInt32.toUInt16.toUInt32.toInt32)) - (97 : Int32)))])) t
      refine XS.istore X257.here hx rfl (hb hby at_114) rfl (l' := #[.val (.int p1), .val (.int p2), .val (.int p3), .val (.int p4), .val (.int (if (p1 &&& (3 : Int32)) = (0 : Int32) then (((96 : Int32) + (p2 &&& (3 : Int32))).toUInt32.toUInt16.toUInt32.toInt32) else ((p2 &&& (65535 : Int32)).toUInt32.toUInt16.toUInt32.toInt32))), .val (.ref a198), .val (.ref b204), .val (.ref b226), .val (.int ((if (p1 &&& (3 : Int32)) = (0 : Int32) then (((96 : Int32) + (p2 &&& (3 : Int32))).toUInt32.toUInt16.toUInt32.toInt32) else ((p2 &&& (65535 : Int32)).toUInt32.toUInt16.toUInt32.toInt32)) - (97 : Int32))), .unset]) rfl ?_
      show Steps p.tables e below (T257.setTop (mkF m 116 #[.val (.int p1), .val (.int p2), .val (.int p3), .val (.int p4), .val (.int (if (p1 &&& (3 : Int32)) = (0 : Int32) then (((96 : Int32) + (p2 &&& (3 : Int32))).toUInt32.toUInt16.toUInt32.toInt32) else ((p2 &&& (65535 : Int32)).toUInt32.toUInt16.toUInt32.toInt32))), .val (.ref a198), .val (.ref b204), .val (.ref b226), .val (.int ((if (p1 &&& (3 : Int32)) = (0 : Int32) then (((96 : Int32) + (p2 &&& (3 : Int32))).toUInt32.toUInt16.toUInt32.toInt32) else ((p2 &&& (65535 : Int32)).toUInt32.toUInt16.toUInt32.toInt32)) - (97 : Int32))), .unset] [])) t
      refine XS.iload X257.here hx rfl (hb hby at_116) rfl ?_
      exact kt
    have k272 : ∀ t, Steps p.tables e below (T257.setTop (mkF m 132 #[.val (.int p1), .val (.int p2), .val (.int p3), .val (.int p4), .val (.int (if (p1 &&& (3 : Int32)) = (0 : Int32) then (((96 : Int32) + (p2 &&& (3 : Int32))).toUInt32.toUInt16.toUInt32.toInt32) else ((p2 &&& (65535 : Int32)).toUInt32.toUInt16.toUInt32.toInt32))), .val (.ref a198), .val (.ref b204), .val (.ref b226), .val (.int ((if (p1 &&& (3 : Int32)) = (0 : Int32) then (((96 : Int32) + (p2 &&& (3 : Int32))).toUInt32.toUInt16.toUInt32.toInt32) else ((p2 &&& (65535 : Int32)).toUInt32.toUInt16.toUInt32.toInt32)) - (97 : Int32))), .unset] [(.int (own_ex ((if (p1 &&& (3 : Int32)) = (0 : Int32) then (((96 : Int32) + (p2 &&& (3 : Int32))).toUInt32.toUInt16.toUInt32.toInt32) else ((p2 &&& (65535 : Int32)).toUInt32.toUInt16.toUInt32.toInt32)) - (97 : Int32))))])) t → Steps p.tables e below (s₁.setTop (entryFrame m #[(.int p1), (.int p2), (.int p3), (.int p4)] maxLocals)) t := by
      intro t kt
      by_cases hc118_273 : ((if (p1 &&& (3 : Int32)) = (0 : Int32) then (((96 : Int32) + (p2 &&& (3 : Int32))).toUInt32.toUInt16.toUInt32.toInt32) else ((p2 &&& (65535 : Int32)).toUInt32.toUInt16.toUInt32.toInt32)) - (97 : Int32)) < (0 : Int32)
      · have k274 : ∀ t, Steps p.tables e below (T257.setTop (mkF m 132 #[.val (.int p1), .val (.int p2), .val (.int p3), .val (.int p4), .val (.int (if (p1 &&& (3 : Int32)) = (0 : Int32) then (((96 : Int32) + (p2 &&& (3 : Int32))).toUInt32.toUInt16.toUInt32.toInt32) else ((p2 &&& (65535 : Int32)).toUInt32.toUInt16.toUInt32.toInt32))), .val (.ref a198), .val (.ref b204), .val (.ref b226), .val (.int ((if (p1 &&& (3 : Int32)) = (0 : Int32) then (((96 : Int32) + (p2 &&& (3 : Int32))).toUInt32.toUInt16.toUInt32.toInt32) else ((p2 &&& (65535 : Int32)).toUInt32.toUInt16.toUInt32.toInt32)) - (97 : Int32))), .unset] [(.int (0 : Int32))])) t → Steps p.tables e below (s₁.setTop (entryFrame m #[(.int p1), (.int p2), (.int p3), (.int p4)] maxLocals)) t := by
          intro t kt
          refine k271 t ?_
          show Steps p.tables e below (T257.setTop (mkF m 118 #[.val (.int p1), .val (.int p2), .val (.int p3), .val (.int p4), .val (.int (if (p1 &&& (3 : Int32)) = (0 : Int32) then (((96 : Int32) + (p2 &&& (3 : Int32))).toUInt32.toUInt16.toUInt32.toInt32) else ((p2 &&& (65535 : Int32)).toUInt32.toUInt16.toUInt32.toInt32))), .val (.ref a198), .val (.ref b204), .val (.ref b226), .val (.int ((if (p1 &&& (3 : Int32)) = (0 : Int32) then (((96 : Int32) + (p2 &&& (3 : Int32))).toUInt32.toUInt16.toUInt32.toInt32) else ((p2 &&& (65535 : Int32)).toUInt32.toUInt16.toUInt32.toInt32)) - (97 : Int32))), .unset] [(.int ((if (p1 &&& (3 : Int32)) = (0 : Int32) then (((96 : Int32) + (p2 &&& (3 : Int32))).toUInt32.toUInt16.toUInt32.toInt32) else ((p2 &&& (65535 : Int32)).toUInt32.toUInt16.toUInt32.toInt32)) - (97 : Int32)))])) t
          refine XS.ifYes X257.here hx rfl (pc0 := 118) (pc' := 131) rfl (hb hby at_118) rfl ((if0 _ _).trans (tlt hc118_273).1) (by decide) (by decide) ?_
          show Steps p.tables e below (T257.setTop (mkF m 131 #[.val (.int p1), .val (.int p2), .val (.int p3), .val (.int p4), .val (.int (if (p1 &&& (3 : Int32)) = (0 : Int32) then (((96 : Int32) + (p2 &&& (3 : Int32))).toUInt32.toUInt16.toUInt32.toInt32) else ((p2 &&& (65535 : Int32)).toUInt32.toUInt16.toUInt32.toInt32))), .val (.ref a198), .val (.ref b204), .val (.ref b226), .val (.int ((if (p1 &&& (3 : Int32)) = (0 : Int32) then (((96 : Int32) + (p2 &&& (3 : Int32))).toUInt32.toUInt16.toUInt32.toInt32) else ((p2 &&& (65535 : Int32)).toUInt32.toUInt16.toUInt32.toInt32)) - (97 : Int32))), .unset] [])) t
          refine XS.iconst X257.here hx rfl (hb hby at_131) ?_
          exact kt
        rw [show ((own_ex ((if (p1 &&& (3 : Int32)) = (0 : Int32) then (((96 : Int32) + (p2 &&& (3 : Int32))).toUInt32.toUInt16.toUInt32.toInt32) else ((p2 &&& (65535 : Int32)).toUInt32.toUInt16.toUInt32.toInt32)) - (97 : Int32)))) = (0 : Int32) from by first | exact if_pos hc118_273 | exact if_neg hc118_273 | (simp only [hc118_273, own_ex, if_true, if_false]; done) | simp [hc118_273, own_ex]] at kt
        exact k274 t kt
      · have k276 : ∀ t, Steps p.tables e below (T257.setTop (mkF m 124 #[.val (.int p1), .val (.int p2), .val (.int p3), .val (.int p4), .val (.int (if (p1 &&& (3 : Int32)) = (0 : Int32) then (((96 : Int32) + (p2 &&& (3 : Int32))).toUInt32.toUInt16.toUInt32.toInt32) else ((p2 &&& (65535 : Int32)).toUInt32.toUInt16.toUInt32.toInt32))), .val (.ref a198), .val (.ref b204), .val (.ref b226), .val (.int ((if (p1 &&& (3 : Int32)) = (0 : Int32) then (((96 : Int32) + (p2 &&& (3 : Int32))).toUInt32.toUInt16.toUInt32.toInt32) else ((p2 &&& (65535 : Int32)).toUInt32.toUInt16.toUInt32.toInt32)) - (97 : Int32))), .unset] [(.int (2 : Int32)), (.int ((if (p1 &&& (3 : Int32)) = (0 : Int32) then (((96 : Int32) + (p2 &&& (3 : Int32))).toUInt32.toUInt16.toUInt32.toInt32) else ((p2 &&& (65535 : Int32)).toUInt32.toUInt16.toUInt32.toInt32)) - (97 : Int32)))])) t → Steps p.tables e below (s₁.setTop (entryFrame m #[(.int p1), (.int p2), (.int p3), (.int p4)] maxLocals)) t := by
          intro t kt
          refine k271 t ?_
          show Steps p.tables e below (T257.setTop (mkF m 118 #[.val (.int p1), .val (.int p2), .val (.int p3), .val (.int p4), .val (.int (if (p1 &&& (3 : Int32)) = (0 : Int32) then (((96 : Int32) + (p2 &&& (3 : Int32))).toUInt32.toUInt16.toUInt32.toInt32) else ((p2 &&& (65535 : Int32)).toUInt32.toUInt16.toUInt32.toInt32))), .val (.ref a198), .val (.ref b204), .val (.ref b226), .val (.int ((if (p1 &&& (3 : Int32)) = (0 : Int32) then (((96 : Int32) + (p2 &&& (3 : Int32))).toUInt32.toUInt16.toUInt32.toInt32) else ((p2 &&& (65535 : Int32)).toUInt32.toUInt16.toUInt32.toInt32)) - (97 : Int32))), .unset] [(.int ((if (p1 &&& (3 : Int32)) = (0 : Int32) then (((96 : Int32) + (p2 &&& (3 : Int32))).toUInt32.toUInt16.toUInt32.toInt32) else ((p2 &&& (65535 : Int32)).toUInt32.toUInt16.toUInt32.toInt32)) - (97 : Int32)))])) t
          refine XS.ifNo X257.here hx rfl (hb hby at_118) rfl ((if0 _ _).trans (flt hc118_273).1) ?_
          show Steps p.tables e below (T257.setTop (mkF m 121 #[.val (.int p1), .val (.int p2), .val (.int p3), .val (.int p4), .val (.int (if (p1 &&& (3 : Int32)) = (0 : Int32) then (((96 : Int32) + (p2 &&& (3 : Int32))).toUInt32.toUInt16.toUInt32.toInt32) else ((p2 &&& (65535 : Int32)).toUInt32.toUInt16.toUInt32.toInt32))), .val (.ref a198), .val (.ref b204), .val (.ref b226), .val (.int ((if (p1 &&& (3 : Int32)) = (0 : Int32) then (((96 : Int32) + (p2 &&& (3 : Int32))).toUInt32.toUInt16.toUInt32.toInt32) else ((p2 &&& (65535 : Int32)).toUInt32.toUInt16.toUInt32.toInt32)) - (97 : Int32))), .unset] [])) t
          refine XS.iload X257.here hx rfl (hb hby at_121) rfl ?_
          show Steps p.tables e below (T257.setTop (mkF m 123 #[.val (.int p1), .val (.int p2), .val (.int p3), .val (.int p4), .val (.int (if (p1 &&& (3 : Int32)) = (0 : Int32) then (((96 : Int32) + (p2 &&& (3 : Int32))).toUInt32.toUInt16.toUInt32.toInt32) else ((p2 &&& (65535 : Int32)).toUInt32.toUInt16.toUInt32.toInt32))), .val (.ref a198), .val (.ref b204), .val (.ref b226), .val (.int ((if (p1 &&& (3 : Int32)) = (0 : Int32) then (((96 : Int32) + (p2 &&& (3 : Int32))).toUInt32.toUInt16.toUInt32.toInt32) else ((p2 &&& (65535 : Int32)).toUInt32.toUInt16.toUInt32.toInt32)) - (97 : Int32))), .unset] [(.int ((if (p1 &&& (3 : Int32)) = (0 : Int32) then (((96 : Int32) + (p2 &&& (3 : Int32))).toUInt32.toUInt16.toUInt32.toInt32) else ((p2 &&& (65535 : Int32)).toUInt32.toUInt16.toUInt32.toInt32)) - (97 : Int32)))])) t
          refine XS.iconst X257.here hx rfl (hb hby at_123) ?_
          exact kt
        by_cases hc124_275 : ((if (p1 &&& (3 : Int32)) = (0 : Int32) then (((96 : Int32) + (p2 &&& (3 : Int32))).toUInt32.toUInt16.toUInt32.toInt32) else ((p2 &&& (65535 : Int32)).toUInt32.toUInt16.toUInt32.toInt32)) - (97 : Int32)) < (2 : Int32)
        · have k277 : ∀ t, Steps p.tables e below (T257.setTop (mkF m 132 #[.val (.int p1), .val (.int p2), .val (.int p3), .val (.int p4), .val (.int (if (p1 &&& (3 : Int32)) = (0 : Int32) then (((96 : Int32) + (p2 &&& (3 : Int32))).toUInt32.toUInt16.toUInt32.toInt32) else ((p2 &&& (65535 : Int32)).toUInt32.toUInt16.toUInt32.toInt32))), .val (.ref a198), .val (.ref b204), .val (.ref b226), .val (.int ((if (p1 &&& (3 : Int32)) = (0 : Int32) then (((96 : Int32) + (p2 &&& (3 : Int32))).toUInt32.toUInt16.toUInt32.toInt32) else ((p2 &&& (65535 : Int32)).toUInt32.toUInt16.toUInt32.toInt32)) - (97 : Int32))), .unset] [(.int (1 : Int32))])) t → Steps p.tables e below (s₁.setTop (entryFrame m #[(.int p1), (.int p2), (.int p3), (.int p4)] maxLocals)) t := by
            intro t kt
            refine k276 t ?_
            show Steps p.tables e below (T257.setTop (mkF m 124 #[.val (.int p1), .val (.int p2), .val (.int p3), .val (.int p4), .val (.int (if (p1 &&& (3 : Int32)) = (0 : Int32) then (((96 : Int32) + (p2 &&& (3 : Int32))).toUInt32.toUInt16.toUInt32.toInt32) else ((p2 &&& (65535 : Int32)).toUInt32.toUInt16.toUInt32.toInt32))), .val (.ref a198), .val (.ref b204), .val (.ref b226), .val (.int ((if (p1 &&& (3 : Int32)) = (0 : Int32) then (((96 : Int32) + (p2 &&& (3 : Int32))).toUInt32.toUInt16.toUInt32.toInt32) else ((p2 &&& (65535 : Int32)).toUInt32.toUInt16.toUInt32.toInt32)) - (97 : Int32))), .unset] [(.int (2 : Int32)), (.int ((if (p1 &&& (3 : Int32)) = (0 : Int32) then (((96 : Int32) + (p2 &&& (3 : Int32))).toUInt32.toUInt16.toUInt32.toInt32) else ((p2 &&& (65535 : Int32)).toUInt32.toUInt16.toUInt32.toInt32)) - (97 : Int32)))])) t
            refine XS.icmpNo X257.here hx rfl (hb hby at_124) rfl (tlt hc124_275).2.1 ?_
            show Steps p.tables e below (T257.setTop (mkF m 127 #[.val (.int p1), .val (.int p2), .val (.int p3), .val (.int p4), .val (.int (if (p1 &&& (3 : Int32)) = (0 : Int32) then (((96 : Int32) + (p2 &&& (3 : Int32))).toUInt32.toUInt16.toUInt32.toInt32) else ((p2 &&& (65535 : Int32)).toUInt32.toUInt16.toUInt32.toInt32))), .val (.ref a198), .val (.ref b204), .val (.ref b226), .val (.int ((if (p1 &&& (3 : Int32)) = (0 : Int32) then (((96 : Int32) + (p2 &&& (3 : Int32))).toUInt32.toUInt16.toUInt32.toInt32) else ((p2 &&& (65535 : Int32)).toUInt32.toUInt16.toUInt32.toInt32)) - (97 : Int32))), .unset] [])) t
            refine XS.iconst X257.here hx rfl (hb hby at_127) ?_
            show Steps p.tables e below (T257.setTop (mkF m 128 #[.val (.int p1), .val (.int p2), .val (.int p3), .val (.int p4), .val (.int (if (p1 &&& (3 : Int32)) = (0 : Int32) then (((96 : Int32) + (p2 &&& (3 : Int32))).toUInt32.toUInt16.toUInt32.toInt32) else ((p2 &&& (65535 : Int32)).toUInt32.toUInt16.toUInt32.toInt32))), .val (.ref a198), .val (.ref b204), .val (.ref b226), .val (.int ((if (p1 &&& (3 : Int32)) = (0 : Int32) then (((96 : Int32) + (p2 &&& (3 : Int32))).toUInt32.toUInt16.toUInt32.toInt32) else ((p2 &&& (65535 : Int32)).toUInt32.toUInt16.toUInt32.toInt32)) - (97 : Int32))), .unset] [(.int (1 : Int32))])) t
            refine XS.goto X257.here hx rfl (pc0 := 128) (pc' := 132) rfl (hb hby at_128) (by decide) (by decide) ?_
            exact kt
          rw [show ((own_ex ((if (p1 &&& (3 : Int32)) = (0 : Int32) then (((96 : Int32) + (p2 &&& (3 : Int32))).toUInt32.toUInt16.toUInt32.toInt32) else ((p2 &&& (65535 : Int32)).toUInt32.toUInt16.toUInt32.toInt32)) - (97 : Int32)))) = (1 : Int32) from by first | exact if_pos hc118_273 | exact if_neg hc118_273 | exact if_pos hc124_275 | exact if_neg hc124_275 | (simp only [hc118_273, hc124_275, own_ex, if_true, if_false]; done) | simp [hc118_273, hc124_275, own_ex]] at kt
          exact k277 t kt
        · have k278 : ∀ t, Steps p.tables e below (T257.setTop (mkF m 132 #[.val (.int p1), .val (.int p2), .val (.int p3), .val (.int p4), .val (.int (if (p1 &&& (3 : Int32)) = (0 : Int32) then (((96 : Int32) + (p2 &&& (3 : Int32))).toUInt32.toUInt16.toUInt32.toInt32) else ((p2 &&& (65535 : Int32)).toUInt32.toUInt16.toUInt32.toInt32))), .val (.ref a198), .val (.ref b204), .val (.ref b226), .val (.int ((if (p1 &&& (3 : Int32)) = (0 : Int32) then (((96 : Int32) + (p2 &&& (3 : Int32))).toUInt32.toUInt16.toUInt32.toInt32) else ((p2 &&& (65535 : Int32)).toUInt32.toUInt16.toUInt32.toInt32)) - (97 : Int32))), .unset] [(.int (0 : Int32))])) t → Steps p.tables e below (s₁.setTop (entryFrame m #[(.int p1), (.int p2), (.int p3), (.int p4)] maxLocals)) t := by
            intro t kt
            refine k276 t ?_
            show Steps p.tables e below (T257.setTop (mkF m 124 #[.val (.int p1), .val (.int p2), .val (.int p3), .val (.int p4), .val (.int (if (p1 &&& (3 : Int32)) = (0 : Int32) then (((96 : Int32) + (p2 &&& (3 : Int32))).toUInt32.toUInt16.toUInt32.toInt32) else ((p2 &&& (65535 : Int32)).toUInt32.toUInt16.toUInt32.toInt32))), .val (.ref a198), .val (.ref b204), .val (.ref b226), .val (.int ((if (p1 &&& (3 : Int32)) = (0 : Int32) then (((96 : Int32) + (p2 &&& (3 : Int32))).toUInt32.toUInt16.toUInt32.toInt32) else ((p2 &&& (65535 : Int32)).toUInt32.toUInt16.toUInt32.toInt32)) - (97 : Int32))), .unset] [(.int (2 : Int32)), (.int ((if (p1 &&& (3 : Int32)) = (0 : Int32) then (((96 : Int32) + (p2 &&& (3 : Int32))).toUInt32.toUInt16.toUInt32.toInt32) else ((p2 &&& (65535 : Int32)).toUInt32.toUInt16.toUInt32.toInt32)) - (97 : Int32)))])) t
            refine XS.icmpYes X257.here hx rfl (pc0 := 124) (pc' := 131) rfl (hb hby at_124) rfl (flt hc124_275).2.1 (by decide) (by decide) ?_
            show Steps p.tables e below (T257.setTop (mkF m 131 #[.val (.int p1), .val (.int p2), .val (.int p3), .val (.int p4), .val (.int (if (p1 &&& (3 : Int32)) = (0 : Int32) then (((96 : Int32) + (p2 &&& (3 : Int32))).toUInt32.toUInt16.toUInt32.toInt32) else ((p2 &&& (65535 : Int32)).toUInt32.toUInt16.toUInt32.toInt32))), .val (.ref a198), .val (.ref b204), .val (.ref b226), .val (.int ((if (p1 &&& (3 : Int32)) = (0 : Int32) then (((96 : Int32) + (p2 &&& (3 : Int32))).toUInt32.toUInt16.toUInt32.toInt32) else ((p2 &&& (65535 : Int32)).toUInt32.toUInt16.toUInt32.toInt32)) - (97 : Int32))), .unset] [])) t
            refine XS.iconst X257.here hx rfl (hb hby at_131) ?_
            exact kt
          rw [show ((own_ex ((if (p1 &&& (3 : Int32)) = (0 : Int32) then (((96 : Int32) + (p2 &&& (3 : Int32))).toUInt32.toUInt16.toUInt32.toInt32) else ((p2 &&& (65535 : Int32)).toUInt32.toUInt16.toUInt32.toInt32)) - (97 : Int32)))) = (0 : Int32) from by first | exact if_pos hc118_273 | exact if_neg hc118_273 | exact if_pos hc124_275 | exact if_neg hc124_275 | (simp only [hc118_273, hc124_275, own_ex, if_true, if_false]; done) | simp [hc118_273, hc124_275, own_ex]] at kt
          exact k278 t kt
    have k279 : ∀ t, Steps p.tables e below (T257.setTop (mkF m 136 #[.val (.int p1), .val (.int p2), .val (.int p3), .val (.int p4), .val (.int (if (p1 &&& (3 : Int32)) = (0 : Int32) then (((96 : Int32) + (p2 &&& (3 : Int32))).toUInt32.toUInt16.toUInt32.toInt32) else ((p2 &&& (65535 : Int32)).toUInt32.toUInt16.toUInt32.toInt32))), .val (.ref a198), .val (.ref b204), .val (.ref b226), .val (.int ((if (p1 &&& (3 : Int32)) = (0 : Int32) then (((96 : Int32) + (p2 &&& (3 : Int32))).toUInt32.toUInt16.toUInt32.toInt32) else ((p2 &&& (65535 : Int32)).toUInt32.toUInt16.toUInt32.toInt32)) - (97 : Int32))), .val (.int (own_ex ((if (p1 &&& (3 : Int32)) = (0 : Int32) then (((96 : Int32) + (p2 &&& (3 : Int32))).toUInt32.toUInt16.toUInt32.toInt32) else ((p2 &&& (65535 : Int32)).toUInt32.toUInt16.toUInt32.toInt32)) - (97 : Int32))))] [(.ref b204)])) t → Steps p.tables e below (s₁.setTop (entryFrame m #[(.int p1), (.int p2), (.int p3), (.int p4)] maxLocals)) t := by
      intro t kt
      refine k272 t ?_
      show Steps p.tables e below (T257.setTop (mkF m 132 #[.val (.int p1), .val (.int p2), .val (.int p3), .val (.int p4), .val (.int (if (p1 &&& (3 : Int32)) = (0 : Int32) then (((96 : Int32) + (p2 &&& (3 : Int32))).toUInt32.toUInt16.toUInt32.toInt32) else ((p2 &&& (65535 : Int32)).toUInt32.toUInt16.toUInt32.toInt32))), .val (.ref a198), .val (.ref b204), .val (.ref b226), .val (.int ((if (p1 &&& (3 : Int32)) = (0 : Int32) then (((96 : Int32) + (p2 &&& (3 : Int32))).toUInt32.toUInt16.toUInt32.toInt32) else ((p2 &&& (65535 : Int32)).toUInt32.toUInt16.toUInt32.toInt32)) - (97 : Int32))), .unset] [(.int (own_ex ((if (p1 &&& (3 : Int32)) = (0 : Int32) then (((96 : Int32) + (p2 &&& (3 : Int32))).toUInt32.toUInt16.toUInt32.toInt32) else ((p2 &&& (65535 : Int32)).toUInt32.toUInt16.toUInt32.toInt32)) - (97 : Int32))))])) t
      refine XS.istore X257.here hx rfl (hb hby at_132) rfl (l' := #[.val (.int p1), .val (.int p2), .val (.int p3), .val (.int p4), .val (.int (if (p1 &&& (3 : Int32)) = (0 : Int32) then (((96 : Int32) + (p2 &&& (3 : Int32))).toUInt32.toUInt16.toUInt32.toInt32) else ((p2 &&& (65535 : Int32)).toUInt32.toUInt16.toUInt32.toInt32))), .val (.ref a198), .val (.ref b204), .val (.ref b226), .val (.int ((if (p1 &&& (3 : Int32)) = (0 : Int32) then (((96 : Int32) + (p2 &&& (3 : Int32))).toUInt32.toUInt16.toUInt32.toInt32) else ((p2 &&& (65535 : Int32)).toUInt32.toUInt16.toUInt32.toInt32)) - (97 : Int32))), .val (.int (own_ex ((if (p1 &&& (3 : Int32)) = (0 : Int32) then (((96 : Int32) + (p2 &&& (3 : Int32))).toUInt32.toUInt16.toUInt32.toInt32) else ((p2 &&& (65535 : Int32)).toUInt32.toUInt16.toUInt32.toInt32)) - (97 : Int32))))]) rfl ?_
      show Steps p.tables e below (T257.setTop (mkF m 134 #[.val (.int p1), .val (.int p2), .val (.int p3), .val (.int p4), .val (.int (if (p1 &&& (3 : Int32)) = (0 : Int32) then (((96 : Int32) + (p2 &&& (3 : Int32))).toUInt32.toUInt16.toUInt32.toInt32) else ((p2 &&& (65535 : Int32)).toUInt32.toUInt16.toUInt32.toInt32))), .val (.ref a198), .val (.ref b204), .val (.ref b226), .val (.int ((if (p1 &&& (3 : Int32)) = (0 : Int32) then (((96 : Int32) + (p2 &&& (3 : Int32))).toUInt32.toUInt16.toUInt32.toInt32) else ((p2 &&& (65535 : Int32)).toUInt32.toUInt16.toUInt32.toInt32)) - (97 : Int32))), .val (.int (own_ex ((if (p1 &&& (3 : Int32)) = (0 : Int32) then (((96 : Int32) + (p2 &&& (3 : Int32))).toUInt32.toUInt16.toUInt32.toInt32) else ((p2 &&& (65535 : Int32)).toUInt32.toUInt16.toUInt32.toInt32)) - (97 : Int32))))] [])) t
      refine XS.aload X257.here hx rfl (hb hby at_134) rfl rfl ?_
      exact kt
    obtain ⟨cq280, kq280, q280a, q280b, q280c⟩ := isOf hZ257 rfl F263
    obtain ⟨_, _, ⟨T280, L280, k280c, n280⟩, -, X280, ⟨Lc280, hQ280, l280, y280, z280⟩, st280⟩ := X257.virtualBack hx (y := (⟨"recensio/records/Subfield", "isStatementText", "()Z"⟩ : MethodName)) (z := (⟨"recensio/records/Subfield", "isStatementText", "()Z"⟩ : MethodName)) hown257 (mvT hZ257 (hw _ (List.mem_of_getElem? (i := 67) rfl))) (mvT hZ257 (hw _ (List.mem_of_getElem? (i := 68) rfl))) (notFace_of_selects (args := #[]) (mvT hZ257 (hw _ (List.mem_of_getElem? (i := 70) rfl)))) (mvT hZ257 (hw _ (List.mem_of_getElem? (i := 70) rfl))) (mvT hZ257 (hw _ (List.mem_of_getElem? (i := 69) rfl))) (by decide) (backOf (W := 0) (rmIs l Z a0 hw [] b204 (if (p1 &&& (3 : Int32)) = (0 : Int32) then (((96 : Int32) + (p2 &&& (3 : Int32))).toUInt32.toUInt16.toUInt32.toInt32) else ((p2 &&& (65535 : Int32)).toUInt32.toUInt16.toUInt32.toInt32)) T257.heap n0 Z269 F264) hZ257 (hw _ (List.mem_of_getElem? (i := 71) rfl)) (hw _ (List.mem_of_getElem? (i := 32) rfl)) (by decide) (by decide)) q280a q280c (g := (mkF m 136 #[.val (.int p1), .val (.int p2), .val (.int p3), .val (.int p4), .val (.int (if (p1 &&& (3 : Int32)) = (0 : Int32) then (((96 : Int32) + (p2 &&& (3 : Int32))).toUInt32.toUInt16.toUInt32.toInt32) else ((p2 &&& (65535 : Int32)).toUInt32.toUInt16.toUInt32.toInt32))), .val (.ref a198), .val (.ref b204), .val (.ref b226), .val (.int ((if (p1 &&& (3 : Int32)) = (0 : Int32) then (((96 : Int32) + (p2 &&& (3 : Int32))).toUInt32.toUInt16.toUInt32.toInt32) else ((p2 &&& (65535 : Int32)).toUInt32.toUInt16.toUInt32.toInt32)) - (97 : Int32))), .val (.int (own_ex ((if (p1 &&& (3 : Int32)) = (0 : Int32) then (((96 : Int32) + (p2 &&& (3 : Int32))).toUInt32.toUInt16.toUInt32.toInt32) else ((p2 &&& (65535 : Int32)).toUInt32.toUInt16.toUInt32.toInt32)) - (97 : Int32))))] [(.ref b204)])) rfl (by rw [hml]; rfl) (Steps.refl _) (argsL := []) (rest := []) (lenOf own_pd12 rfl) rfl (by show 2 * 0 + _ ≤ _; exact Nat.le_of_eq rfl) (hb hby at_136) (fun _ _ => ⟨rfl, rfl, (by decide : 10 + 0 ≤ _), (by decide : 61 + 0 ≤ _)⟩)
    dsimp only [Pt.U, Pt.locs, Pt.cells, Pt.slots] at X280 l280 y280 z280 st280 hQ280
    subst l280 y280 z280
    obtain ⟨rfl, N280q, e280⟩ := hQ280
    have N280 := Fr.app N257 N280q
    have k281 : ∀ t, Steps p.tables e below (T280.setTop (mkF m 139 #[.val (.int p1), .val (.int p2), .val (.int p3), .val (.int p4), .val (.int (if (p1 &&& (3 : Int32)) = (0 : Int32) then (((96 : Int32) + (p2 &&& (3 : Int32))).toUInt32.toUInt16.toUInt32.toInt32) else ((p2 &&& (65535 : Int32)).toUInt32.toUInt16.toUInt32.toInt32))), .val (.ref a198), .val (.ref b204), .val (.ref b226), .val (.int ((if (p1 &&& (3 : Int32)) = (0 : Int32) then (((96 : Int32) + (p2 &&& (3 : Int32))).toUInt32.toUInt16.toUInt32.toInt32) else ((p2 &&& (65535 : Int32)).toUInt32.toUInt16.toUInt32.toInt32)) - (97 : Int32))), .val (.int (own_ex ((if (p1 &&& (3 : Int32)) = (0 : Int32) then (((96 : Int32) + (p2 &&& (3 : Int32))).toUInt32.toUInt16.toUInt32.toInt32) else ((p2 &&& (65535 : Int32)).toUInt32.toUInt16.toUInt32.toInt32)) - (97 : Int32))))] [(.int (own_st (if (p1 &&& (3 : Int32)) = (0 : Int32) then (((96 : Int32) + (p2 &&& (3 : Int32))).toUInt32.toUInt16.toUInt32.toInt32) else ((p2 &&& (65535 : Int32)).toUInt32.toUInt16.toUInt32.toInt32))))])) t → Steps p.tables e below (s₁.setTop (entryFrame m #[(.int p1), (.int p2), (.int p3), (.int p4)] maxLocals)) t := fun t kt => k279 t (st280.trans kt)
    have k283 : ∀ t, Steps p.tables e below (T280.setTop (mkF m 141 #[.val (.int p1), .val (.int p2), .val (.int p3), .val (.int p4), .val (.int (if (p1 &&& (3 : Int32)) = (0 : Int32) then (((96 : Int32) + (p2 &&& (3 : Int32))).toUInt32.toUInt16.toUInt32.toInt32) else ((p2 &&& (65535 : Int32)).toUInt32.toUInt16.toUInt32.toInt32))), .val (.ref a198), .val (.ref b204), .val (.ref b226), .val (.int ((if (p1 &&& (3 : Int32)) = (0 : Int32) then (((96 : Int32) + (p2 &&& (3 : Int32))).toUInt32.toUInt16.toUInt32.toInt32) else ((p2 &&& (65535 : Int32)).toUInt32.toUInt16.toUInt32.toInt32)) - (97 : Int32))), .val (.int (own_ex ((if (p1 &&& (3 : Int32)) = (0 : Int32) then (((96 : Int32) + (p2 &&& (3 : Int32))).toUInt32.toUInt16.toUInt32.toInt32) else ((p2 &&& (65535 : Int32)).toUInt32.toUInt16.toUInt32.toInt32)) - (97 : Int32))))] [(.int (own_ex ((if (p1 &&& (3 : Int32)) = (0 : Int32) then (((96 : Int32) + (p2 &&& (3 : Int32))).toUInt32.toUInt16.toUInt32.toInt32) else ((p2 &&& (65535 : Int32)).toUInt32.toUInt16.toUInt32.toInt32)) - (97 : Int32)))), (.int (own_st (if (p1 &&& (3 : Int32)) = (0 : Int32) then (((96 : Int32) + (p2 &&& (3 : Int32))).toUInt32.toUInt16.toUInt32.toInt32) else ((p2 &&& (65535 : Int32)).toUInt32.toUInt16.toUInt32.toInt32))))])) t → Steps p.tables e below (s₁.setTop (entryFrame m #[(.int p1), (.int p2), (.int p3), (.int p4)] maxLocals)) t := by
      intro t kt
      refine k281 t ?_
      show Steps p.tables e below (T280.setTop (mkF m 139 #[.val (.int p1), .val (.int p2), .val (.int p3), .val (.int p4), .val (.int (if (p1 &&& (3 : Int32)) = (0 : Int32) then (((96 : Int32) + (p2 &&& (3 : Int32))).toUInt32.toUInt16.toUInt32.toInt32) else ((p2 &&& (65535 : Int32)).toUInt32.toUInt16.toUInt32.toInt32))), .val (.ref a198), .val (.ref b204), .val (.ref b226), .val (.int ((if (p1 &&& (3 : Int32)) = (0 : Int32) then (((96 : Int32) + (p2 &&& (3 : Int32))).toUInt32.toUInt16.toUInt32.toInt32) else ((p2 &&& (65535 : Int32)).toUInt32.toUInt16.toUInt32.toInt32)) - (97 : Int32))), .val (.int (own_ex ((if (p1 &&& (3 : Int32)) = (0 : Int32) then (((96 : Int32) + (p2 &&& (3 : Int32))).toUInt32.toUInt16.toUInt32.toInt32) else ((p2 &&& (65535 : Int32)).toUInt32.toUInt16.toUInt32.toInt32)) - (97 : Int32))))] [(.int (own_st (if (p1 &&& (3 : Int32)) = (0 : Int32) then (((96 : Int32) + (p2 &&& (3 : Int32))).toUInt32.toUInt16.toUInt32.toInt32) else ((p2 &&& (65535 : Int32)).toUInt32.toUInt16.toUInt32.toInt32))))])) t
      refine XS.iload X280.here hx rfl (hb hby at_139) rfl ?_
      exact kt
    have hc141_282 : (own_st (if (p1 &&& (3 : Int32)) = (0 : Int32) then (((96 : Int32) + (p2 &&& (3 : Int32))).toUInt32.toUInt16.toUInt32.toInt32) else ((p2 &&& (65535 : Int32)).toUInt32.toUInt16.toUInt32.toInt32))) = (own_ex ((if (p1 &&& (3 : Int32)) = (0 : Int32) then (((96 : Int32) + (p2 &&& (3 : Int32))).toUInt32.toUInt16.toUInt32.toInt32) else ((p2 &&& (65535 : Int32)).toUInt32.toUInt16.toUInt32.toInt32)) - (97 : Int32))) := own_same _ (own_cr p1 p2).1 (own_cr p1 p2).2
    have k284 : ∀ t, Steps p.tables e below (T280.setTop (mkF m 146 #[.val (.int p1), .val (.int p2), .val (.int p3), .val (.int p4), .val (.int (if (p1 &&& (3 : Int32)) = (0 : Int32) then (((96 : Int32) + (p2 &&& (3 : Int32))).toUInt32.toUInt16.toUInt32.toInt32) else ((p2 &&& (65535 : Int32)).toUInt32.toUInt16.toUInt32.toInt32))), .val (.ref a198), .val (.ref b204), .val (.ref b226), .val (.int ((if (p1 &&& (3 : Int32)) = (0 : Int32) then (((96 : Int32) + (p2 &&& (3 : Int32))).toUInt32.toUInt16.toUInt32.toInt32) else ((p2 &&& (65535 : Int32)).toUInt32.toUInt16.toUInt32.toInt32)) - (97 : Int32))), .val (.int (own_ex ((if (p1 &&& (3 : Int32)) = (0 : Int32) then (((96 : Int32) + (p2 &&& (3 : Int32))).toUInt32.toUInt16.toUInt32.toInt32) else ((p2 &&& (65535 : Int32)).toUInt32.toUInt16.toUInt32.toInt32)) - (97 : Int32))))] [(.ref b226)])) t → Steps p.tables e below (s₁.setTop (entryFrame m #[(.int p1), (.int p2), (.int p3), (.int p4)] maxLocals)) t := by
      intro t kt
      refine k283 t ?_
      show Steps p.tables e below (T280.setTop (mkF m 141 #[.val (.int p1), .val (.int p2), .val (.int p3), .val (.int p4), .val (.int (if (p1 &&& (3 : Int32)) = (0 : Int32) then (((96 : Int32) + (p2 &&& (3 : Int32))).toUInt32.toUInt16.toUInt32.toInt32) else ((p2 &&& (65535 : Int32)).toUInt32.toUInt16.toUInt32.toInt32))), .val (.ref a198), .val (.ref b204), .val (.ref b226), .val (.int ((if (p1 &&& (3 : Int32)) = (0 : Int32) then (((96 : Int32) + (p2 &&& (3 : Int32))).toUInt32.toUInt16.toUInt32.toInt32) else ((p2 &&& (65535 : Int32)).toUInt32.toUInt16.toUInt32.toInt32)) - (97 : Int32))), .val (.int (own_ex ((if (p1 &&& (3 : Int32)) = (0 : Int32) then (((96 : Int32) + (p2 &&& (3 : Int32))).toUInt32.toUInt16.toUInt32.toInt32) else ((p2 &&& (65535 : Int32)).toUInt32.toUInt16.toUInt32.toInt32)) - (97 : Int32))))] [(.int (own_ex ((if (p1 &&& (3 : Int32)) = (0 : Int32) then (((96 : Int32) + (p2 &&& (3 : Int32))).toUInt32.toUInt16.toUInt32.toInt32) else ((p2 &&& (65535 : Int32)).toUInt32.toUInt16.toUInt32.toInt32)) - (97 : Int32)))), (.int (own_st (if (p1 &&& (3 : Int32)) = (0 : Int32) then (((96 : Int32) + (p2 &&& (3 : Int32))).toUInt32.toUInt16.toUInt32.toInt32) else ((p2 &&& (65535 : Int32)).toUInt32.toUInt16.toUInt32.toInt32))))])) t
      refine XS.icmpNo X280.here hx rfl (hb hby at_141) rfl (teq hc141_282).2 ?_
      show Steps p.tables e below (T280.setTop (mkF m 144 #[.val (.int p1), .val (.int p2), .val (.int p3), .val (.int p4), .val (.int (if (p1 &&& (3 : Int32)) = (0 : Int32) then (((96 : Int32) + (p2 &&& (3 : Int32))).toUInt32.toUInt16.toUInt32.toInt32) else ((p2 &&& (65535 : Int32)).toUInt32.toUInt16.toUInt32.toInt32))), .val (.ref a198), .val (.ref b204), .val (.ref b226), .val (.int ((if (p1 &&& (3 : Int32)) = (0 : Int32) then (((96 : Int32) + (p2 &&& (3 : Int32))).toUInt32.toUInt16.toUInt32.toInt32) else ((p2 &&& (65535 : Int32)).toUInt32.toUInt16.toUInt32.toInt32)) - (97 : Int32))), .val (.int (own_ex ((if (p1 &&& (3 : Int32)) = (0 : Int32) then (((96 : Int32) + (p2 &&& (3 : Int32))).toUInt32.toUInt16.toUInt32.toInt32) else ((p2 &&& (65535 : Int32)).toUInt32.toUInt16.toUInt32.toInt32)) - (97 : Int32))))] [])) t
      refine XS.aload X280.here hx rfl (hb hby at_144) rfl rfl ?_
      exact kt
    obtain ⟨cq285, kq285, q285a, q285b, q285c⟩ := isOf hZ257 e280 F265
    obtain ⟨_, _, ⟨T285, L285, k285c, n285⟩, -, X285, ⟨Lc285, hQ285, l285, y285, z285⟩, st285⟩ := X280.virtualBack hx (y := (⟨"recensio/records/Subfield", "isStatementText", "()Z"⟩ : MethodName)) (z := (⟨"recensio/records/Subfield", "isStatementText", "()Z"⟩ : MethodName)) hown257 (mvT hZ257 (hw _ (List.mem_of_getElem? (i := 67) rfl))) (mvT hZ257 (hw _ (List.mem_of_getElem? (i := 68) rfl))) (notFace_of_selects (args := #[]) (mvT hZ257 (hw _ (List.mem_of_getElem? (i := 70) rfl)))) (mvT hZ257 (hw _ (List.mem_of_getElem? (i := 70) rfl))) (mvT hZ257 (hw _ (List.mem_of_getElem? (i := 69) rfl))) (by decide) (backOf (W := 0) (rmIs l Z a0 hw [] b226 (if (p1 &&& (3 : Int32)) = (0 : Int32) then (((96 : Int32) + (p2 &&& (3 : Int32))).toUInt32.toUInt16.toUInt32.toInt32) else ((p2 &&& (65535 : Int32)).toUInt32.toUInt16.toUInt32.toInt32)) T257.heap n0 Z269 Fc257) hZ257 (hw _ (List.mem_of_getElem? (i := 71) rfl)) (hw _ (List.mem_of_getElem? (i := 32) rfl)) (by decide) (by decide)) q285a q285c (g := (mkF m 146 #[.val (.int p1), .val (.int p2), .val (.int p3), .val (.int p4), .val (.int (if (p1 &&& (3 : Int32)) = (0 : Int32) then (((96 : Int32) + (p2 &&& (3 : Int32))).toUInt32.toUInt16.toUInt32.toInt32) else ((p2 &&& (65535 : Int32)).toUInt32.toUInt16.toUInt32.toInt32))), .val (.ref a198), .val (.ref b204), .val (.ref b226), .val (.int ((if (p1 &&& (3 : Int32)) = (0 : Int32) then (((96 : Int32) + (p2 &&& (3 : Int32))).toUInt32.toUInt16.toUInt32.toInt32) else ((p2 &&& (65535 : Int32)).toUInt32.toUInt16.toUInt32.toInt32)) - (97 : Int32))), .val (.int (own_ex ((if (p1 &&& (3 : Int32)) = (0 : Int32) then (((96 : Int32) + (p2 &&& (3 : Int32))).toUInt32.toUInt16.toUInt32.toInt32) else ((p2 &&& (65535 : Int32)).toUInt32.toUInt16.toUInt32.toInt32)) - (97 : Int32))))] [(.ref b226)])) rfl (by rw [hml]; rfl) (Steps.refl _) (argsL := []) (rest := []) (lenOf own_pd12 rfl) rfl (by show 2 * 0 + _ ≤ _; exact Nat.le_of_eq rfl) (hb hby at_146) (fun _ _ => ⟨rfl, e280, (by decide : 10 + 0 ≤ _), (by decide : 61 + 0 ≤ _)⟩)
    dsimp only [Pt.U, Pt.locs, Pt.cells, Pt.slots] at X285 l285 y285 z285 st285 hQ285
    subst l285 y285 z285
    obtain ⟨rfl, N285q, e285⟩ := hQ285
    have N285 := Fr.app N280 N285q
    have k286 : ∀ t, Steps p.tables e below (T285.setTop (mkF m 149 #[.val (.int p1), .val (.int p2), .val (.int p3), .val (.int p4), .val (.int (if (p1 &&& (3 : Int32)) = (0 : Int32) then (((96 : Int32) + (p2 &&& (3 : Int32))).toUInt32.toUInt16.toUInt32.toInt32) else ((p2 &&& (65535 : Int32)).toUInt32.toUInt16.toUInt32.toInt32))), .val (.ref a198), .val (.ref b204), .val (.ref b226), .val (.int ((if (p1 &&& (3 : Int32)) = (0 : Int32) then (((96 : Int32) + (p2 &&& (3 : Int32))).toUInt32.toUInt16.toUInt32.toInt32) else ((p2 &&& (65535 : Int32)).toUInt32.toUInt16.toUInt32.toInt32)) - (97 : Int32))), .val (.int (own_ex ((if (p1 &&& (3 : Int32)) = (0 : Int32) then (((96 : Int32) + (p2 &&& (3 : Int32))).toUInt32.toUInt16.toUInt32.toInt32) else ((p2 &&& (65535 : Int32)).toUInt32.toUInt16.toUInt32.toInt32)) - (97 : Int32))))] [(.int (own_st (if (p1 &&& (3 : Int32)) = (0 : Int32) then (((96 : Int32) + (p2 &&& (3 : Int32))).toUInt32.toUInt16.toUInt32.toInt32) else ((p2 &&& (65535 : Int32)).toUInt32.toUInt16.toUInt32.toInt32))))])) t → Steps p.tables e below (s₁.setTop (entryFrame m #[(.int p1), (.int p2), (.int p3), (.int p4)] maxLocals)) t := fun t kt => k284 t (st285.trans kt)
    have k288 : ∀ t, Steps p.tables e below (T285.setTop (mkF m 159 #[.val (.int p1), .val (.int p2), .val (.int p3), .val (.int p4), .val (.int (if (p1 &&& (3 : Int32)) = (0 : Int32) then (((96 : Int32) + (p2 &&& (3 : Int32))).toUInt32.toUInt16.toUInt32.toInt32) else ((p2 &&& (65535 : Int32)).toUInt32.toUInt16.toUInt32.toInt32))), .val (.ref a198), .val (.ref b204), .val (.ref b226), .val (.int ((if (p1 &&& (3 : Int32)) = (0 : Int32) then (((96 : Int32) + (p2 &&& (3 : Int32))).toUInt32.toUInt16.toUInt32.toInt32) else ((p2 &&& (65535 : Int32)).toUInt32.toUInt16.toUInt32.toInt32)) - (97 : Int32))), .val (.int (own_ex ((if (p1 &&& (3 : Int32)) = (0 : Int32) then (((96 : Int32) + (p2 &&& (3 : Int32))).toUInt32.toUInt16.toUInt32.toInt32) else ((p2 &&& (65535 : Int32)).toUInt32.toUInt16.toUInt32.toInt32)) - (97 : Int32))))] [(.int (1 : Int32))])) t → Steps p.tables e below (s₁.setTop (entryFrame m #[(.int p1), (.int p2), (.int p3), (.int p4)] maxLocals)) t := by
      intro t kt
      refine k286 t ?_
      show Steps p.tables e below (T285.setTop (mkF m 149 #[.val (.int p1), .val (.int p2), .val (.int p3), .val (.int p4), .val (.int (if (p1 &&& (3 : Int32)) = (0 : Int32) then (((96 : Int32) + (p2 &&& (3 : Int32))).toUInt32.toUInt16.toUInt32.toInt32) else ((p2 &&& (65535 : Int32)).toUInt32.toUInt16.toUInt32.toInt32))), .val (.ref a198), .val (.ref b204), .val (.ref b226), .val (.int ((if (p1 &&& (3 : Int32)) = (0 : Int32) then (((96 : Int32) + (p2 &&& (3 : Int32))).toUInt32.toUInt16.toUInt32.toInt32) else ((p2 &&& (65535 : Int32)).toUInt32.toUInt16.toUInt32.toInt32)) - (97 : Int32))), .val (.int (own_ex ((if (p1 &&& (3 : Int32)) = (0 : Int32) then (((96 : Int32) + (p2 &&& (3 : Int32))).toUInt32.toUInt16.toUInt32.toInt32) else ((p2 &&& (65535 : Int32)).toUInt32.toUInt16.toUInt32.toInt32)) - (97 : Int32))))] [(.int (own_st (if (p1 &&& (3 : Int32)) = (0 : Int32) then (((96 : Int32) + (p2 &&& (3 : Int32))).toUInt32.toUInt16.toUInt32.toInt32) else ((p2 &&& (65535 : Int32)).toUInt32.toUInt16.toUInt32.toInt32))))])) t
      refine XS.iload X285.here hx rfl (hb hby at_149) rfl ?_
      show Steps p.tables e below (T285.setTop (mkF m 151 #[.val (.int p1), .val (.int p2), .val (.int p3), .val (.int p4), .val (.int (if (p1 &&& (3 : Int32)) = (0 : Int32) then (((96 : Int32) + (p2 &&& (3 : Int32))).toUInt32.toUInt16.toUInt32.toInt32) else ((p2 &&& (65535 : Int32)).toUInt32.toUInt16.toUInt32.toInt32))), .val (.ref a198), .val (.ref b204), .val (.ref b226), .val (.int ((if (p1 &&& (3 : Int32)) = (0 : Int32) then (((96 : Int32) + (p2 &&& (3 : Int32))).toUInt32.toUInt16.toUInt32.toInt32) else ((p2 &&& (65535 : Int32)).toUInt32.toUInt16.toUInt32.toInt32)) - (97 : Int32))), .val (.int (own_ex ((if (p1 &&& (3 : Int32)) = (0 : Int32) then (((96 : Int32) + (p2 &&& (3 : Int32))).toUInt32.toUInt16.toUInt32.toInt32) else ((p2 &&& (65535 : Int32)).toUInt32.toUInt16.toUInt32.toInt32)) - (97 : Int32))))] [(.int (own_ex ((if (p1 &&& (3 : Int32)) = (0 : Int32) then (((96 : Int32) + (p2 &&& (3 : Int32))).toUInt32.toUInt16.toUInt32.toInt32) else ((p2 &&& (65535 : Int32)).toUInt32.toUInt16.toUInt32.toInt32)) - (97 : Int32)))), (.int (own_st (if (p1 &&& (3 : Int32)) = (0 : Int32) then (((96 : Int32) + (p2 &&& (3 : Int32))).toUInt32.toUInt16.toUInt32.toInt32) else ((p2 &&& (65535 : Int32)).toUInt32.toUInt16.toUInt32.toInt32))))])) t
      refine XS.icmpNo X285.here hx rfl (hb hby at_151) rfl (teq hc141_282).2 ?_
      show Steps p.tables e below (T285.setTop (mkF m 154 #[.val (.int p1), .val (.int p2), .val (.int p3), .val (.int p4), .val (.int (if (p1 &&& (3 : Int32)) = (0 : Int32) then (((96 : Int32) + (p2 &&& (3 : Int32))).toUInt32.toUInt16.toUInt32.toInt32) else ((p2 &&& (65535 : Int32)).toUInt32.toUInt16.toUInt32.toInt32))), .val (.ref a198), .val (.ref b204), .val (.ref b226), .val (.int ((if (p1 &&& (3 : Int32)) = (0 : Int32) then (((96 : Int32) + (p2 &&& (3 : Int32))).toUInt32.toUInt16.toUInt32.toInt32) else ((p2 &&& (65535 : Int32)).toUInt32.toUInt16.toUInt32.toInt32)) - (97 : Int32))), .val (.int (own_ex ((if (p1 &&& (3 : Int32)) = (0 : Int32) then (((96 : Int32) + (p2 &&& (3 : Int32))).toUInt32.toUInt16.toUInt32.toInt32) else ((p2 &&& (65535 : Int32)).toUInt32.toUInt16.toUInt32.toInt32)) - (97 : Int32))))] [])) t
      refine XS.iconst X285.here hx rfl (hb hby at_154) ?_
      show Steps p.tables e below (T285.setTop (mkF m 155 #[.val (.int p1), .val (.int p2), .val (.int p3), .val (.int p4), .val (.int (if (p1 &&& (3 : Int32)) = (0 : Int32) then (((96 : Int32) + (p2 &&& (3 : Int32))).toUInt32.toUInt16.toUInt32.toInt32) else ((p2 &&& (65535 : Int32)).toUInt32.toUInt16.toUInt32.toInt32))), .val (.ref a198), .val (.ref b204), .val (.ref b226), .val (.int ((if (p1 &&& (3 : Int32)) = (0 : Int32) then (((96 : Int32) + (p2 &&& (3 : Int32))).toUInt32.toUInt16.toUInt32.toInt32) else ((p2 &&& (65535 : Int32)).toUInt32.toUInt16.toUInt32.toInt32)) - (97 : Int32))), .val (.int (own_ex ((if (p1 &&& (3 : Int32)) = (0 : Int32) then (((96 : Int32) + (p2 &&& (3 : Int32))).toUInt32.toUInt16.toUInt32.toInt32) else ((p2 &&& (65535 : Int32)).toUInt32.toUInt16.toUInt32.toInt32)) - (97 : Int32))))] [(.int (1 : Int32))])) t
      refine XS.goto X285.here hx rfl (pc0 := 155) (pc' := 159) rfl (hb hby at_155) (by decide) (by decide) ?_
      exact kt
    obtain ⟨fs, hr, hrun, hended, hRW⟩ := X285.leaveW hS257 (by rw [e285]; exact hk257) (v := some (.int (1 : Int32))) (fun h => by rw [Bd.returns] at h; cases h)
    refine ⟨_, _, k288 _ ?_, hrun, hended, _, _, rfl, ?_, ?_, hRW.1, hRW.2.1, hRW.2.2.1, hRW.2.2.2.mono (by decide) (by decide)⟩
    · show Steps p.tables e below (T285.setTop (mkF m 159 #[.val (.int p1), .val (.int p2), .val (.int p3), .val (.int p4), .val (.int (if (p1 &&& (3 : Int32)) = (0 : Int32) then (((96 : Int32) + (p2 &&& (3 : Int32))).toUInt32.toUInt16.toUInt32.toInt32) else ((p2 &&& (65535 : Int32)).toUInt32.toUInt16.toUInt32.toInt32))), .val (.ref a198), .val (.ref b204), .val (.ref b226), .val (.int ((if (p1 &&& (3 : Int32)) = (0 : Int32) then (((96 : Int32) + (p2 &&& (3 : Int32))).toUInt32.toUInt16.toUInt32.toInt32) else ((p2 &&& (65535 : Int32)).toUInt32.toUInt16.toUInt32.toInt32)) - (97 : Int32))), .val (.int (own_ex ((if (p1 &&& (3 : Int32)) = (0 : Int32) then (((96 : Int32) + (p2 &&& (3 : Int32))).toUInt32.toUInt16.toUInt32.toInt32) else ((p2 &&& (65535 : Int32)).toUInt32.toUInt16.toUInt32.toInt32)) - (97 : Int32))))] [(.int (1 : Int32))])) _
      exact retN X285 hx (t := .boolean) Bd.returns (by simp) (hb hby at_159) hr
    · show Q0 Z p1 p2 p3 p4 cs h0 n0 _ T285.heap _
      rw [e285]
      exact ⟨rfl, N285⟩
    · show CHr Z own_EL s.vm s.heap T285.vm T285.heap
      rw [hh, e285]
      exact CHr.trans C260 (CHv.at (s := s) (vm0 := T257.vm) X285 hZ257 hEL C260.1)
set_option maxRecDepth 65536 in
set_option maxHeartbeats 40000000 in
theorem comes_1 {Post : Tables → Env → Array Value → State → Outcome → State → Prop} (hpost : ∀ tb e args s v u, (limb_1_1.after args s (.returned v) u = true ∧ limb_1_2.after args s (.returned v) u = true ∧ True) → ReturnedEndW s (.returned v) u (Jvm.fieldLocs frame_1_writes args s ++ Jvm.arrayLocs frame_1_arrays args s ++ Jvm.staticLocs frame_1_statics s) 32 2176 → Post tb e args s (.returned v) u) :
    ArmFor flags0 classFile x code maxLocals ret World_1 tables_1 room_1 Calls_1 rest_1 Pre_1 Post := by
  intro l hfl _ _ p e ha hc hk s m args below hf hA hF happ hP
  obtain ⟨hcalls, hrest, hpre⟩ := hP
  obtain ⟨-, -, -, hnamed, -, -, -, hat⟩ := (Spec.applies_iff hf).mp happ
  obtain ⟨hg, hn⟩ := and_e (Cond.before_iff.mp (show (Jvm.Cond.and given_1 narrow_1).before args s = true from hpre))
  obtain ⟨gc, gr0⟩ := and_e hg
  obtain ⟨ga0, gr1⟩ := and_e gr0
  obtain ⟨ga1, gr2⟩ := and_e gr1
  obtain ⟨ga2, gr3⟩ := and_e gr2
  have ga3 := gr3
  obtain ⟨w0, w1, w2, w3, rfl⟩ : ∃ w0 w1 w2 w3 : Value, args = #[w0, w1, w2, w3] := by
    have hs : args.size = 4 := by simpa [Cond.value, given_1] using gc
    obtain ⟨L⟩ := args
    match L, hs with
    | [w0, w1, w2, w3], _ => exact ⟨w0, w1, w2, w3, rfl⟩
  have hw := fun d (hd : d ∈ tables_1) => atoms_spec (ws := Jvm.Cond.code x code maxLocals ret :: tables_1) hat d (List.mem_cons_of_mem _ hd)
  have hfit : Fit s := fun {y c} hc i hi => by
    obtain ⟨ha, rfl⟩ := Array.getElem?_eq_some_iff.mp hc
    have q := List.all_eq_true.mp ((Array.all_eq_true_iff_forall_mem.mp hF) _ (Array.getElem_mem ha)) i (List.mem_range.mpr hi)
    simpa [Array.getElem?_eq_getElem hi] using q
  obtain ⟨i0, ei0⟩ := is_v ga0
  obtain rfl : w0 = (.int i0) := Option.some.inj ei0
  obtain ⟨i1, ei1⟩ := is_v ga1
  obtain rfl : w1 = (.int i1) := Option.some.inj ei1
  obtain ⟨i2, ei2⟩ := is_v ga2
  obtain rfl : w2 = (.int i2) := Option.some.inj ei2
  obtain ⟨i3, ei3⟩ := is_v ga3
  obtain rfl : w3 = (.int i3) := Option.some.inj ei3
  obtain ⟨hsets, hown0⟩ := atoms_of _ (rest_1_c_eq ▸ (show rest_1_c.before _ s = true from hrest))
  obtain ⟨cs, ecs⟩ := is_v (Cond.before_iff.mp (hsets _ (List.mem_of_getElem? (i := 1) rfl)))
  have RC : Sta s s.heap "java/lang/String" "COMPACT_STRINGS" "Z" (.int cs) := Sta.start ecs (Or.inl (hsets _ (List.mem_of_getElem? (i := 0) rfl)))
  have hcs : ¬ (cs = (0 : Int32)) := gotF (Cond.eq_ints ecs (Term.int_eval 0)) (by simpa using not_v (Cond.before_iff.mp (hsets _ (List.mem_of_getElem? (i := 2) rfl))))
  have H0 : CHv s own_EL s.vm s.heap := fun q hq => nomatch hq
  obtain ⟨n, o, h1, h2, h3, _, L, rfl, ⟨rfl, N⟩, -, hq⟩ := rm0 l s _ hw tables_1 i0 i1 i2 i3 cs s.heap s.heap.size (Nat.le_refl _) (Old.start s) RC hcs p e ha hc hk s m _ below hf ((Spec.applies_iff_loose hf).mp happ).1 ⟨rfl, State.Warmed39.refl s, rfl, H0, fun _ q => nomatch q⟩ trivial
  refine ⟨n, _, h1, h2, h3, hpost _ _ _ _ _ _ ⟨Cond.after_iff.mpr rfl, Cond.after_iff.mpr (eq_i res_at (Term.int_eval (1)) rfl), trivial⟩ ⟨hq.1, hq.2.1, hq.2.2.1, (hq.2.2.2.sift fun y hy => Or.inr (N y hy)).mono (by decide) (by decide)⟩⟩
theorem main_1_1 : Claimed_1_1 := comes_1 fun _ _ _ _ _ _ h hF => ⟨h.1, hF⟩
theorem main_1_2 : Claimed_1_2 := comes_1 fun _ _ _ _ _ _ h hF => ⟨h.2.1, hF⟩
end Jvm.Pilot.@@N@@
namespace Jvm.Pilot.@@N@@
open Jvm Jvm.ClassFile Sem Op Lib Jvm.Free Jvm.Stand Jvm.Pilot.@@N@@.Jvm.D
/-! MADE BY PROGRAM (witnessworld.py) out of the Statement's table words and the real class files: 22 classes; the members and pool entries that the words name. The judged class is class 1, her method 1. -/
namespace start1
open Jvm.ClassFile
def u (s : String) : CpInfo := .utf8 (stringToUtf16 s)
/-- a pool by its gaps: so many unusable entries, then the entry; so many at the end -/
def gap : Nat → List CpInfo → List CpInfo
  | 0, r => r
  | n + 1, r => .unusable :: gap n r
def poolList (es : List (Nat × CpInfo)) (last : Nat) : List CpInfo := es.foldr (fun e r => gap e.1 (e.2 :: r)) (gap last [])
def pool (es : List (Nat × CpInfo)) (last : Nat) : Array CpInfo := ⟨poolList es last⟩
def fileOf (pool : Array CpInfo) (this : Nat) (attrs : Array Attribute := #[]) (ms : Array MethodInfo := #[]) (fl : Nat := 33) (sup : Nat := 0) (ifs : Array Nat := #[]) (fds : Array FieldInfo := #[]) : ClassFile where
  minorVersion := 0
  majorVersion := 65
  constantPool := pool
  accessFlags := fl
  thisClass := this
  superClass := sup
  interfaces := ifs
  fields := fds
  methods := ms
  attributes := attrs
def plain (name : String) (sup : Option ClassId) : Class where
  name := name
  kind := .ordinary
  loader := none
  accessFlags := 33
  super := sup
  interfaces := #[]
  cf := none
  fields := #[]
  methods := #[]
  instanceTypes := #[]
  staticTypes := #[]
  resolved := #[]
  callSites := []
  init := .initialized
  statics := none
  mirror := none

def pool0 : Array CpInfo := pool [(5, u "<init>"), (0, u "()V"), (1, .class_ 10), (1, u "java/lang/Object")] 113

def k0c0 : Code := { maxStack := 0, maxLocals := 1, code := object_method_1_code, exceptionTable := #[], attributes := #[] }
def k0m0 : Method := { name := "<init>", desc := "()V", sig := { parameters := [], returnType := none }, accessFlags := 1, code := some k0c0 }
/-- java/lang/Object -/
def k0 : Class := { plain "java/lang/Object" none with
  accessFlags := 33
  interfaces := #[]
  cf := some (fileOf pool0 8 #[] #[{ accessFlags := 1, nameIndex := 5, descriptorIndex := 6, attributes := #[] }] 33 0 #[] #[])
  fields := #[]
  methods := #[k0m0]
  instanceTypes := #[]
  staticTypes := #[]
  resolved := Array.replicate 124 none
  statics := none }

def pool1 : Array CpInfo := pool [(2, .class_ 4), (1, u "java/lang/Object"), (0, u "<init>"), (0, u "()V"), (0, .integer 65535), (0, .string 9), (0, u ""), (0, .class_ 11), (0, u "java/lang/String"), (0, .methodref 10 13), (0, .nameAndType 5 14), (0, u "([C)V"), (0, .class_ 16), (0, u "recensio/records/Subfield"), (0, .methodref 15 18), (0, .nameAndType 5 19), (0, u "(CLjava/lang/String;)V"), (0, .methodref 10 21), (0, .nameAndType 22 23), (0, u "valueOf"), (0, u "(C)Ljava/lang/String;"), (0, .methodref 15 25), (0, .nameAndType 26 27), (0, u "isStatementText"), (0, u "()Z"), (0, .class_ 29), (0, u "recensio/records/SubfieldIsStatementTextPinLaw"), (2, u "law"), (0, u "(IIII)Z")] 3

def k1m0 : Method := { name := "<init>", desc := "()V", sig := { parameters := [], returnType := none }, accessFlags := 1, code := none }
def k1c1 : Code := { maxStack := 5, maxLocals := 10, code := code, exceptionTable := #[], attributes := #[] }
def k1m1 : Method := { name := "law", desc := "(IIII)Z", sig := { parameters := [.int, .int, .int, .int], returnType := some .boolean }, accessFlags := 9, code := some k1c1 }
/-- recensio/records/SubfieldIsStatementTextPinLaw -/
def k1 : Class := { plain "recensio/records/SubfieldIsStatementTextPinLaw" (some 0) with
  accessFlags := 49
  interfaces := #[]
  cf := some (fileOf pool1 28 #[] #[{ accessFlags := 1, nameIndex := 5, descriptorIndex := 6, attributes := #[] }, { accessFlags := 9, nameIndex := 32, descriptorIndex := 33, attributes := #[] }] 49 2 #[] #[])
  fields := #[]
  methods := #[k1m0, k1m1]
  instanceTypes := #[]
  staticTypes := #[]
  resolved := Array.replicate 37 none
  statics := none }

def pool2 : Array CpInfo := pool [(1, .class_ 2), (0, u "java/io/Serializable"), (0, .class_ 4), (0, u "java/lang/Object")] 2

/-- java/io/Serializable -/
def k2 : Class := { plain "java/io/Serializable" (some 0) with
  accessFlags := 1537
  interfaces := #[]
  cf := some (fileOf pool2 1 #[] #[] 1537 3 #[] #[])
  fields := #[]
  methods := #[]
  instanceTypes := #[]
  staticTypes := #[]
  resolved := Array.replicate 7 none
  statics := none }

def pool3 : Array CpInfo := pool [(1, .class_ 2), (0, u "java/lang/Comparable"), (0, .class_ 4), (0, u "java/lang/Object")] 7

/-- java/lang/Comparable -/
def k3 : Class := { plain "java/lang/Comparable" (some 0) with
  accessFlags := 1537
  interfaces := #[]
  cf := some (fileOf pool3 1 #[] #[] 1537 3 #[] #[])
  fields := #[]
  methods := #[]
  instanceTypes := #[]
  staticTypes := #[]
  resolved := Array.replicate 12 none
  statics := none }

def pool4 : Array CpInfo := pool [(2, .class_ 4), (1, u "java/lang/CharSequence"), (42, .class_ 48), (0, u "java/lang/CharSequence$1CodePointIterator"), (10, .class_ 60), (0, u "java/lang/CharSequence$1CharIterator"), (5, .class_ 67), (0, u "java/lang/Object")] 63

/-- java/lang/CharSequence -/
def k4 : Class := { plain "java/lang/CharSequence" (some 0) with
  accessFlags := 1537
  interfaces := #[]
  cf := some (fileOf pool4 2 #[.nestMembers #[47, 59]] #[] 1537 66 #[] #[])
  fields := #[]
  methods := #[]
  instanceTypes := #[]
  staticTypes := #[]
  resolved := Array.replicate 131 none
  statics := none }

def pool5 : Array CpInfo := pool [(1, .class_ 2), (0, u "java/lang/constant/Constable"), (0, .class_ 4), (0, u "java/lang/Object")] 6

/-- java/lang/constant/Constable -/
def k5 : Class := { plain "java/lang/constant/Constable" (some 0) with
  accessFlags := 1537
  interfaces := #[]
  cf := some (fileOf pool5 1 #[] #[] 1537 3 #[] #[])
  fields := #[]
  methods := #[]
  instanceTypes := #[]
  staticTypes := #[]
  resolved := Array.replicate 11 none
  statics := none }

def pool6 : Array CpInfo := pool [(1, .class_ 2), (0, u "java/lang/constant/ConstantDesc"), (0, .class_ 4), (0, u "java/lang/Object")] 32

/-- java/lang/constant/ConstantDesc -/
def k6 : Class := { plain "java/lang/constant/ConstantDesc" (some 0) with
  accessFlags := 1537
  interfaces := #[]
  cf := some (fileOf pool6 1 #[] #[] 1537 3 #[] #[])
  fields := #[]
  methods := #[]
  instanceTypes := #[]
  staticTypes := #[]
  resolved := Array.replicate 37 none
  statics := none }

def pool7 : Array CpInfo := pool [(1, .methodref 2 3), (0, .class_ 4), (0, .nameAndType 5 6), (0, u "java/lang/Object"), (0, u "<init>"), (0, u "()V"), (2, .fieldref 10 11), (0, .class_ 12), (0, .nameAndType 13 14), (0, u "java/lang/String"), (0, u "value"), (0, u "[B"), (0, .fieldref 10 16), (0, .nameAndType 17 18), (0, u "coder"), (0, u "B"), (2, u "hash"), (0, u "I"), (2, u "hashIsZero"), (0, u "Z"), (0, .methodref 10 28), (0, .nameAndType 5 29), (0, u "([CIILjava/lang/Void;)V"), (8, .fieldref 10 39), (0, .nameAndType 40 26), (0, u "COMPACT_STRINGS"), (1, .class_ 44), (1, u "java/lang/StringUTF16"), (0, u "compress"), (1, .methodref 42 48), (0, .nameAndType 49 50), (0, u "coderFromArrayLen"), (0, u "([BI)B"), (2, u "toBytes"), (53, .class_ 109), (1, u "java/lang/StringLatin1"), (67, .methodref 42 178), (0, .nameAndType 45 179), (0, u "([CII)[B"), (29, .methodref 10 210), (0, .nameAndType 5 211), (0, u "([BB)V"), (157, u "(C)Z"), (205, .class_ 576), (0, u "java/lang/CharSequence"), (22, u "CASE_INSENSITIVE_ORDER"), (0, u "Ljava/util/Comparator;"), (181, u "valueOf"), (0, u "(C)Ljava/lang/String;"), (226, u "([C)V"), (4, .methodref 107 1016), (0, .nameAndType 1017 369), (0, u "canEncode"), (0, .methodref 107 1019), (0, .nameAndType 53 1020), (0, u "(C)[B"), (80, u "serialPersistentFields"), (0, u "[Ljava/io/ObjectStreamField;"), (0, .class_ 1104), (0, u "java/lang/String$CaseInsensitiveComparator"), (1, .class_ 1107), (0, u "java/io/Serializable"), (0, .class_ 1109), (0, u "java/lang/Comparable"), (0, .class_ 1111), (0, u "java/lang/constant/Constable"), (0, .class_ 1113), (0, u "java/lang/constant/ConstantDesc"), (2, u "serialVersionUID"), (0, u "J"), (3, u "REPL"), (0, u "C"), (2, u "LATIN1"), (1, u "UTF16")] 323

def k7m0 : Method := { name := "<init>", desc := "()V", sig := { parameters := [], returnType := none }, accessFlags := 1, code := none }
def k7c1 : Code := { maxStack := 5, maxLocals := 2, code := jdk_42_method_3_code, exceptionTable := #[], attributes := #[] }
def k7m1 : Method := { name := "<init>", desc := "([C)V", sig := { parameters := [(.array .char)], returnType := none }, accessFlags := 1, code := some k7c1 }
def k7c2 : Code := { maxStack := 4, maxLocals := 1, code := jdk_42_method_139_code, exceptionTable := #[], attributes := #[] }
def k7m2 : Method := { name := "valueOf", desc := "(C)Ljava/lang/String;", sig := { parameters := [.char], returnType := some (.object "java/lang/String") }, accessFlags := 9, code := some k7c2 }
def k7c3 : Code := { maxStack := 4, maxLocals := 6, code := jdk_42_method_149_code, exceptionTable := #[], attributes := #[] }
def k7m3 : Method := { name := "<init>", desc := "([CIILjava/lang/Void;)V", sig := { parameters := [(.array .char), .int, .int, (.object "java/lang/Void")], returnType := none }, accessFlags := 2, code := some k7c3 }
def k7c4 : Code := { maxStack := 2, maxLocals := 3, code := jdk_42_method_151_code, exceptionTable := #[], attributes := #[] }
def k7m4 : Method := { name := "<init>", desc := "([BB)V", sig := { parameters := [(.array .byte), .byte], returnType := none }, accessFlags := 0, code := some k7c4 }
/-- java/lang/String -/
def k7 : Class := { plain "java/lang/String" (some 0) with
  accessFlags := 49
  interfaces := #[2, 3, 4, 5, 6]
  cf := some (fileOf pool7 10 #[.nestMembers #[1103]] #[{ accessFlags := 1, nameIndex := 5, descriptorIndex := 6, attributes := #[] }, { accessFlags := 1, nameIndex := 5, descriptorIndex := 1010, attributes := #[] }, { accessFlags := 9, nameIndex := 782, descriptorIndex := 783, attributes := #[] }, { accessFlags := 2, nameIndex := 5, descriptorIndex := 29, attributes := #[] }, { accessFlags := 0, nameIndex := 5, descriptorIndex := 211, attributes := #[] }] 49 2 #[1106, 1108, 575, 1110, 1112] #[{ accessFlags := 18, nameIndex := 13, descriptorIndex := 14, attributes := #[] }, { accessFlags := 18, nameIndex := 17, descriptorIndex := 18, attributes := #[] }, { accessFlags := 2, nameIndex := 21, descriptorIndex := 22, attributes := #[] }, { accessFlags := 2, nameIndex := 25, descriptorIndex := 26, attributes := #[] }, { accessFlags := 26, nameIndex := 1116, descriptorIndex := 1117, attributes := #[] }, { accessFlags := 24, nameIndex := 40, descriptorIndex := 26, attributes := #[] }, { accessFlags := 26, nameIndex := 1101, descriptorIndex := 1102, attributes := #[] }, { accessFlags := 26, nameIndex := 1121, descriptorIndex := 1122, attributes := #[] }, { accessFlags := 25, nameIndex := 599, descriptorIndex := 600, attributes := #[] }, { accessFlags := 24, nameIndex := 1125, descriptorIndex := 18, attributes := #[] }, { accessFlags := 24, nameIndex := 1127, descriptorIndex := 18, attributes := #[] }])
  fields := #[{ name := "value", type := (.array .byte), accessFlags := 18, slot := 0, constantValue := 0 }, { name := "coder", type := .byte, accessFlags := 18, slot := 1, constantValue := 0 }, { name := "hash", type := .int, accessFlags := 2, slot := 2, constantValue := 0 }, { name := "hashIsZero", type := .boolean, accessFlags := 2, slot := 3, constantValue := 0 }, { name := "serialVersionUID", type := .long, accessFlags := 26, slot := 0, constantValue := 0 }, { name := "COMPACT_STRINGS", type := .boolean, accessFlags := 24, slot := 1, constantValue := 0 }, { name := "serialPersistentFields", type := (.array (.object "java/io/ObjectStreamField")), accessFlags := 26, slot := 2, constantValue := 0 }, { name := "REPL", type := .char, accessFlags := 26, slot := 3, constantValue := 0 }, { name := "CASE_INSENSITIVE_ORDER", type := (.object "java/util/Comparator"), accessFlags := 25, slot := 4, constantValue := 0 }, { name := "LATIN1", type := .byte, accessFlags := 24, slot := 5, constantValue := 0 }, { name := "UTF16", type := .byte, accessFlags := 24, slot := 6, constantValue := 0 }]
  methods := #[k7m0, k7m1, k7m2, k7m3, k7m4]
  instanceTypes := #[(.array .byte), .byte, .int, .boolean]
  staticTypes := #[.long, .boolean, (.array (.object "java/io/ObjectStreamField")), .char, (.object "java/util/Comparator"), .byte, .byte]
  resolved := Array.replicate 1451 none
  statics := some 0 }

def pool8 : Array CpInfo := pool [(6, .class_ 8), (1, u "java/lang/Object"), (0, u "<init>"), (0, u "()V"), (1, .class_ 14), (1, u "java/lang/StringUTF16"), (31, u "$assertionsDisabled"), (0, u "Z"), (13, u "HI_BYTE_SHIFT"), (0, u "I"), (2, u "LO_BYTE_SHIFT"), (49, .methodref 12 116), (0, .nameAndType 117 118), (0, u "compress"), (0, u "([CI[BII)I"), (3, u "([CII)[B"), (138, u "coderFromArrayLen"), (0, u "([BI)B"), (106, .class_ 371), (1, u "java/lang/StringUTF16$LinesSpliterator"), (58, u "MAX_LENGTH"), (196, .class_ 628), (0, u "java/lang/StringUTF16$CodePointsSpliterator"), (0, .class_ 630), (0, u "java/lang/StringUTF16$CharsSpliterator")] 4

def k8m0 : Method := { name := "<init>", desc := "()V", sig := { parameters := [], returnType := none }, accessFlags := 0, code := none }
def k8c1 : Code := { maxStack := 2, maxLocals := 2, code := jdk_52_method_15_code, exceptionTable := #[], attributes := #[] }
def k8m1 : Method := { name := "coderFromArrayLen", desc := "([BI)B", sig := { parameters := [(.array .byte), .int], returnType := some .byte }, accessFlags := 8, code := some k8c1 }
def k8c2 : Code := { maxStack := 5, maxLocals := 6, code := jdk_52_method_16_code, exceptionTable := #[], attributes := #[] }
def k8m2 : Method := { name := "compress", desc := "([CII)[B", sig := { parameters := [(.array .char), .int, .int], returnType := some (.array .byte) }, accessFlags := 9, code := some k8c2 }
def k8c3 : Code := { maxStack := 3, maxLocals := 7, code := jdk_52_method_21_code, exceptionTable := #[], attributes := #[] }
def k8m3 : Method := { name := "compress", desc := "([CI[BII)I", sig := { parameters := [(.array .char), .int, (.array .byte), .int, .int], returnType := some .int }, accessFlags := 9, code := some k8c3 }
/-- java/lang/StringUTF16 -/
def k8 : Class := { plain "java/lang/StringUTF16" (some 0) with
  accessFlags := 48
  interfaces := #[]
  cf := some (fileOf pool8 12 #[.nestMembers #[627, 629, 369]] #[{ accessFlags := 0, nameIndex := 9, descriptorIndex := 10, attributes := #[] }, { accessFlags := 8, nameIndex := 261, descriptorIndex := 262, attributes := #[] }, { accessFlags := 9, nameIndex := 117, descriptorIndex := 122, attributes := #[] }, { accessFlags := 9, nameIndex := 117, descriptorIndex := 118, attributes := #[] }] 48 6 #[] #[{ accessFlags := 26, nameIndex := 61, descriptorIndex := 62, attributes := #[] }, { accessFlags := 26, nameIndex := 65, descriptorIndex := 62, attributes := #[] }, { accessFlags := 24, nameIndex := 430, descriptorIndex := 62, attributes := #[] }, { accessFlags := 4120, nameIndex := 46, descriptorIndex := 47, attributes := #[] }])
  fields := #[{ name := "HI_BYTE_SHIFT", type := .int, accessFlags := 26, slot := 0, constantValue := 0 }, { name := "LO_BYTE_SHIFT", type := .int, accessFlags := 26, slot := 1, constantValue := 0 }, { name := "MAX_LENGTH", type := .int, accessFlags := 24, slot := 2, constantValue := 0 }, { name := "$assertionsDisabled", type := .boolean, accessFlags := 4120, slot := 3, constantValue := 0 }]
  methods := #[k8m0, k8m1, k8m2, k8m3]
  instanceTypes := #[]
  staticTypes := #[.int, .int, .int, .boolean]
  resolved := Array.replicate 635 none
  statics := none }

def pool9 : Array CpInfo := pool [(1, .methodref 2 3), (0, .class_ 4), (0, .nameAndType 5 6), (0, u "java/lang/Object"), (0, u "<init>"), (0, u "()V"), (0, .class_ 8), (0, u "java/lang/Record")] 13

def k9c0 : Code := { maxStack := 1, maxLocals := 1, code := jdk_30_method_1_code, exceptionTable := #[], attributes := #[] }
def k9m0 : Method := { name := "<init>", desc := "()V", sig := { parameters := [], returnType := none }, accessFlags := 4, code := some k9c0 }
/-- java/lang/Record -/
def k9 : Class := { plain "java/lang/Record" (some 0) with
  accessFlags := 1057
  interfaces := #[]
  cf := some (fileOf pool9 7 #[] #[{ accessFlags := 4, nameIndex := 5, descriptorIndex := 6, attributes := #[] }] 1057 2 #[] #[])
  fields := #[]
  methods := #[k9m0]
  instanceTypes := #[]
  staticTypes := #[]
  resolved := Array.replicate 22 none
  statics := none }

def pool10 : Array CpInfo := pool [(1, .methodref 2 3), (0, .class_ 4), (0, .nameAndType 5 6), (0, u "java/lang/Record"), (0, u "<init>"), (0, u "()V"), (0, .string 8), (0, u "value"), (0, .methodref 10 11), (0, .class_ 12), (0, .nameAndType 13 14), (0, u "java/util/Objects"), (0, u "requireNonNull"), (0, u "(Ljava/lang/Object;Ljava/lang/String;)Ljava/lang/Object;"), (0, .fieldref 16 17), (0, .class_ 18), (0, .nameAndType 19 20), (0, u "recensio/records/Subfield"), (0, u "code"), (0, u "C"), (0, .fieldref 16 22), (0, .nameAndType 8 23), (0, u "Ljava/lang/String;"), (12, u "(CLjava/lang/String;)V"), (3, u "isStatementText"), (0, u "()Z")] 26

def k10c0 : Code := { maxStack := 2, maxLocals := 3, code := prog_31_method_1_code, exceptionTable := #[], attributes := #[] }
def k10m0 : Method := { name := "<init>", desc := "(CLjava/lang/String;)V", sig := { parameters := [.char, (.object "java/lang/String")], returnType := none }, accessFlags := 1, code := some k10c0 }
def k10c1 : Code := { maxStack := 2, maxLocals := 1, code := prog_31_method_2_code, exceptionTable := #[], attributes := #[] }
def k10m1 : Method := { name := "isStatementText", desc := "()Z", sig := { parameters := [], returnType := some .boolean }, accessFlags := 1, code := some k10c1 }
/-- recensio/records/Subfield -/
def k10 : Class := { plain "recensio/records/Subfield" (some 9) with
  accessFlags := 49
  interfaces := #[]
  cf := some (fileOf pool10 16 #[] #[{ accessFlags := 1, nameIndex := 5, descriptorIndex := 36, attributes := #[] }, { accessFlags := 1, nameIndex := 40, descriptorIndex := 41, attributes := #[] }] 49 2 #[] #[{ accessFlags := 18, nameIndex := 19, descriptorIndex := 20, attributes := #[] }, { accessFlags := 18, nameIndex := 8, descriptorIndex := 23, attributes := #[] }])
  fields := #[{ name := "code", type := .char, accessFlags := 18, slot := 0, constantValue := 0 }, { name := "value", type := (.object "java/lang/String"), accessFlags := 18, slot := 1, constantValue := 0 }]
  methods := #[k10m0, k10m1]
  instanceTypes := #[.char, (.object "java/lang/String")]
  staticTypes := #[]
  resolved := Array.replicate 68 none
  statics := none }

def pool11 : Array CpInfo := pool [(2, .class_ 4), (1, u "java/lang/Object"), (0, u "<init>"), (0, u "()V"), (35, .class_ 44), (1, u "java/util/Objects"), (0, u "requireNonNull"), (48, u "(Ljava/lang/Object;Ljava/lang/String;)Ljava/lang/Object;")] 89

def k11m0 : Method := { name := "<init>", desc := "()V", sig := { parameters := [], returnType := none }, accessFlags := 2, code := none }
def k11c1 : Code := { maxStack := 3, maxLocals := 2, code := jdk_31_method_11_code, exceptionTable := #[], attributes := #[] }
def k11m1 : Method := { name := "requireNonNull", desc := "(Ljava/lang/Object;Ljava/lang/String;)Ljava/lang/Object;", sig := { parameters := [(.object "java/lang/Object"), (.object "java/lang/String")], returnType := some (.object "java/lang/Object") }, accessFlags := 9, code := some k11c1 }
/-- java/util/Objects -/
def k11 : Class := { plain "java/util/Objects" (some 0) with
  accessFlags := 49
  interfaces := #[]
  cf := some (fileOf pool11 42 #[] #[{ accessFlags := 2, nameIndex := 5, descriptorIndex := 6, attributes := #[] }, { accessFlags := 9, nameIndex := 45, descriptorIndex := 94, attributes := #[] }] 49 2 #[] #[])
  fields := #[]
  methods := #[k11m0, k11m1]
  instanceTypes := #[]
  staticTypes := #[]
  resolved := Array.replicate 184 none
  statics := none }

def pool12 : Array CpInfo := pool [(4, .class_ 6), (1, u "java/lang/Object"), (0, u "<init>"), (0, u "()V"), (5, .class_ 16), (1, u "java/lang/StringLatin1"), (73, u "canEncode"), (14, u "(C)Z"), (15, u "$assertionsDisabled"), (0, u "Z"), (98, .class_ 223), (1, u "java/lang/StringLatin1$LinesSpliterator"), (156, u "toBytes"), (1, u "(C)[B"), (7, .class_ 391), (0, u "java/lang/StringLatin1$CharsSpliterator")] 3

def k12m0 : Method := { name := "<init>", desc := "()V", sig := { parameters := [], returnType := none }, accessFlags := 0, code := none }
def k12c1 : Code := { maxStack := 2, maxLocals := 1, code := jdk_43_method_3_code, exceptionTable := #[], attributes := #[] }
def k12m1 : Method := { name := "canEncode", desc := "(C)Z", sig := { parameters := [.char], returnType := some .boolean }, accessFlags := 9, code := some k12c1 }
def k12c2 : Code := { maxStack := 4, maxLocals := 1, code := jdk_43_method_46_code, exceptionTable := #[], attributes := #[] }
def k12m2 : Method := { name := "toBytes", desc := "(C)[B", sig := { parameters := [.char], returnType := some (.array .byte) }, accessFlags := 9, code := some k12c2 }
/-- java/lang/StringLatin1 -/
def k12 : Class := { plain "java/lang/StringLatin1" (some 0) with
  accessFlags := 48
  interfaces := #[]
  cf := some (fileOf pool12 14 #[.nestMembers #[390, 221]] #[{ accessFlags := 0, nameIndex := 7, descriptorIndex := 8, attributes := #[] }, { accessFlags := 9, nameIndex := 90, descriptorIndex := 105, attributes := #[] }, { accessFlags := 9, nameIndex := 380, descriptorIndex := 382, attributes := #[] }] 48 4 #[] #[{ accessFlags := 4120, nameIndex := 121, descriptorIndex := 122, attributes := #[] }])
  fields := #[{ name := "$assertionsDisabled", type := .boolean, accessFlags := 4120, slot := 0, constantValue := 0 }]
  methods := #[k12m0, k12m1, k12m2]
  instanceTypes := #[]
  staticTypes := #[.boolean]
  resolved := Array.replicate 395 none
  statics := none }

def pool13 : Array CpInfo := pool [(2, .class_ 4), (1, u "java/lang/Object"), (0, u "<init>"), (0, u "()V"), (17, .class_ 26), (1, u "jdk/internal/util/Preconditions"), (28, .class_ 56), (0, u "jdk/internal/util/Preconditions$4"), (57, .class_ 115), (0, u "jdk/internal/util/Preconditions$1"), (7, u "SIOOBE_FORMATTER"), (0, u "Ljava/util/function/BiFunction;"), (0, .class_ 126), (0, u "jdk/internal/util/Preconditions$2"), (3, u "AIOOBE_FORMATTER"), (0, .class_ 132), (0, u "jdk/internal/util/Preconditions$3"), (3, u "IOOBE_FORMATTER")] 57

def k13m0 : Method := { name := "<init>", desc := "()V", sig := { parameters := [], returnType := none }, accessFlags := 1, code := none }
/-- jdk/internal/util/Preconditions -/
def k13 : Class := { plain "jdk/internal/util/Preconditions" (some 0) with
  accessFlags := 33
  interfaces := #[]
  cf := some (fileOf pool13 24 #[.nestMembers #[55, 131, 125, 114]] #[{ accessFlags := 1, nameIndex := 5, descriptorIndex := 6, attributes := #[] }] 33 2 #[] #[{ accessFlags := 25, nameIndex := 123, descriptorIndex := 124, attributes := #[] }, { accessFlags := 25, nameIndex := 130, descriptorIndex := 124, attributes := #[] }, { accessFlags := 25, nameIndex := 136, descriptorIndex := 124, attributes := #[] }])
  fields := #[{ name := "SIOOBE_FORMATTER", type := (.object "java/util/function/BiFunction"), accessFlags := 25, slot := 0, constantValue := 0 }, { name := "AIOOBE_FORMATTER", type := (.object "java/util/function/BiFunction"), accessFlags := 25, slot := 1, constantValue := 0 }, { name := "IOOBE_FORMATTER", type := (.object "java/util/function/BiFunction"), accessFlags := 25, slot := 2, constantValue := 0 }]
  methods := #[k13m0]
  instanceTypes := #[]
  staticTypes := #[(.object "java/util/function/BiFunction"), (.object "java/util/function/BiFunction"), (.object "java/util/function/BiFunction")]
  resolved := Array.replicate 194 none
  statics := some 1 }

def pool14 : Array CpInfo := pool [(9, u "<init>"), (6, .class_ 18), (1, u "java/lang/Object"), (0, u "()V"), (1, .class_ 23), (1, u "jdk/internal/util/ArraysSupport"), (0, u "LOG2_ARRAY_LONG_INDEX_SCALE"), (0, u "I"), (2, u "U"), (0, u "Ljdk/internal/misc/Unsafe;"), (8, u "BIG_ENDIAN"), (0, u "Z"), (8, u "LOG2_BYTE_BIT_SIZE"), (4, u "LOG2_ARRAY_INT_INDEX_SCALE"), (54, u "JLA"), (0, u "Ljdk/internal/access/JavaLangAccess;"), (11, u "LOG2_ARRAY_BOOLEAN_INDEX_SCALE"), (9, u "LOG2_ARRAY_BYTE_INDEX_SCALE"), (5, u "LOG2_ARRAY_CHAR_INDEX_SCALE"), (5, u "LOG2_ARRAY_SHORT_INDEX_SCALE"), (18, u "LOG2_ARRAY_FLOAT_INDEX_SCALE"), (24, u "LOG2_ARRAY_DOUBLE_INDEX_SCALE"), (89, u "T_BOOLEAN"), (2, u "T_CHAR"), (1, u "T_FLOAT"), (1, u "T_DOUBLE"), (1, u "T_BYTE"), (1, u "T_SHORT"), (1, u "T_INT"), (1, u "T_LONG"), (1, u "SOFT_MAX_ARRAY_LENGTH")] 83

def k14m0 : Method := { name := "<init>", desc := "()V", sig := { parameters := [], returnType := none }, accessFlags := 2, code := none }
/-- jdk/internal/util/ArraysSupport -/
def k14 : Class := { plain "jdk/internal/util/ArraysSupport" (some 0) with
  accessFlags := 33
  interfaces := #[]
  cf := some (fileOf pool14 21 #[] #[{ accessFlags := 2, nameIndex := 9, descriptorIndex := 19, attributes := #[] }] 33 16 #[] #[{ accessFlags := 24, nameIndex := 28, descriptorIndex := 29, attributes := #[] }, { accessFlags := 26, nameIndex := 38, descriptorIndex := 39, attributes := #[] }, { accessFlags := 25, nameIndex := 121, descriptorIndex := 25, attributes := #[] }, { accessFlags := 25, nameIndex := 131, descriptorIndex := 25, attributes := #[] }, { accessFlags := 25, nameIndex := 137, descriptorIndex := 25, attributes := #[] }, { accessFlags := 25, nameIndex := 143, descriptorIndex := 25, attributes := #[] }, { accessFlags := 25, nameIndex := 53, descriptorIndex := 25, attributes := #[] }, { accessFlags := 25, nameIndex := 24, descriptorIndex := 25, attributes := #[] }, { accessFlags := 25, nameIndex := 162, descriptorIndex := 25, attributes := #[] }, { accessFlags := 25, nameIndex := 187, descriptorIndex := 25, attributes := #[] }, { accessFlags := 26, nameIndex := 48, descriptorIndex := 25, attributes := #[] }, { accessFlags := 25, nameIndex := 277, descriptorIndex := 25, attributes := #[] }, { accessFlags := 25, nameIndex := 280, descriptorIndex := 25, attributes := #[] }, { accessFlags := 25, nameIndex := 282, descriptorIndex := 25, attributes := #[] }, { accessFlags := 25, nameIndex := 284, descriptorIndex := 25, attributes := #[] }, { accessFlags := 25, nameIndex := 286, descriptorIndex := 25, attributes := #[] }, { accessFlags := 25, nameIndex := 288, descriptorIndex := 25, attributes := #[] }, { accessFlags := 25, nameIndex := 290, descriptorIndex := 25, attributes := #[] }, { accessFlags := 25, nameIndex := 292, descriptorIndex := 25, attributes := #[] }, { accessFlags := 26, nameIndex := 108, descriptorIndex := 109, attributes := #[] }, { accessFlags := 25, nameIndex := 294, descriptorIndex := 25, attributes := #[] }])
  fields := #[{ name := "U", type := (.object "jdk/internal/misc/Unsafe"), accessFlags := 24, slot := 0, constantValue := 0 }, { name := "BIG_ENDIAN", type := .boolean, accessFlags := 26, slot := 1, constantValue := 0 }, { name := "LOG2_ARRAY_BOOLEAN_INDEX_SCALE", type := .int, accessFlags := 25, slot := 2, constantValue := 0 }, { name := "LOG2_ARRAY_BYTE_INDEX_SCALE", type := .int, accessFlags := 25, slot := 3, constantValue := 0 }, { name := "LOG2_ARRAY_CHAR_INDEX_SCALE", type := .int, accessFlags := 25, slot := 4, constantValue := 0 }, { name := "LOG2_ARRAY_SHORT_INDEX_SCALE", type := .int, accessFlags := 25, slot := 5, constantValue := 0 }, { name := "LOG2_ARRAY_INT_INDEX_SCALE", type := .int, accessFlags := 25, slot := 6, constantValue := 0 }, { name := "LOG2_ARRAY_LONG_INDEX_SCALE", type := .int, accessFlags := 25, slot := 7, constantValue := 0 }, { name := "LOG2_ARRAY_FLOAT_INDEX_SCALE", type := .int, accessFlags := 25, slot := 8, constantValue := 0 }, { name := "LOG2_ARRAY_DOUBLE_INDEX_SCALE", type := .int, accessFlags := 25, slot := 9, constantValue := 0 }, { name := "LOG2_BYTE_BIT_SIZE", type := .int, accessFlags := 26, slot := 10, constantValue := 0 }, { name := "T_BOOLEAN", type := .int, accessFlags := 25, slot := 11, constantValue := 0 }, { name := "T_CHAR", type := .int, accessFlags := 25, slot := 12, constantValue := 0 }, { name := "T_FLOAT", type := .int, accessFlags := 25, slot := 13, constantValue := 0 }, { name := "T_DOUBLE", type := .int, accessFlags := 25, slot := 14, constantValue := 0 }, { name := "T_BYTE", type := .int, accessFlags := 25, slot := 15, constantValue := 0 }, { name := "T_SHORT", type := .int, accessFlags := 25, slot := 16, constantValue := 0 }, { name := "T_INT", type := .int, accessFlags := 25, slot := 17, constantValue := 0 }, { name := "T_LONG", type := .int, accessFlags := 25, slot := 18, constantValue := 0 }, { name := "JLA", type := (.object "jdk/internal/access/JavaLangAccess"), accessFlags := 26, slot := 19, constantValue := 0 }, { name := "SOFT_MAX_ARRAY_LENGTH", type := .int, accessFlags := 25, slot := 20, constantValue := 0 }]
  methods := #[k14m0]
  instanceTypes := #[]
  staticTypes := #[(.object "jdk/internal/misc/Unsafe"), .boolean, .int, .int, .int, .int, .int, .int, .int, .int, .int, .int, .int, .int, .int, .int, .int, .int, .int, (.object "jdk/internal/access/JavaLangAccess"), .int]
  resolved := Array.replicate 378 none
  statics := none }

def pool15 : Array CpInfo := pool [(1, u "java/lang/Cloneable"), (0, .class_ 1), (0, u "java/lang/Object"), (0, .class_ 3)] 3

/-- java/lang/Cloneable -/
def k15 : Class := { plain "java/lang/Cloneable" (some 0) with
  accessFlags := 1537
  interfaces := #[]
  cf := some (fileOf pool15 2 #[] #[] 1537 4 #[] #[])
  fields := #[]
  methods := #[]
  instanceTypes := #[]
  staticTypes := #[]
  resolved := Array.replicate 8 none
  statics := none }

/-- the primitive byte -/
def k16 : Class := { plain "byte" none with kind := .primitive 'B', accessFlags := 0x411 }
/-- [B -/
def k17 : Class := { plain "[B" (some 0) with kind := .array 16 .byte, interfaces := #[15, 2], accessFlags := 1041 }

/-- the primitive char -/
def k18 : Class := { plain "char" none with kind := .primitive 'C', accessFlags := 0x411 }
/-- [C -/
def k19 : Class := { plain "[C" (some 0) with kind := .array 18 .char, interfaces := #[15, 2], accessFlags := 1041 }

/-- the primitive int -/
def k20 : Class := { plain "int" none with kind := .primitive 'I', accessFlags := 0x411 }
/-- [I -/
def k21 : Class := { plain "[I" (some 0) with kind := .array 20 .int, interfaces := #[15, 2], accessFlags := 1041 }

def heap : Heap := #[{ cls := 7, slots := #[.long 0, .int 1, .null, .int 0, .null, .int 0, .int 0], vm := .statics 7 },
  { cls := 13, slots := #[.null, .null, .null], vm := .statics 13 }]
def classes : Array Class := #[k0, k1, k2, k3, k4, k5, k6, k7, k8, k9, k10, k11, k12, k13, k14, k15, k16, k17, k18, k19, k20, k21]
def interned : List (Array UInt16 × Addr) := []
def slotsUsed : Nat := 10
def theMethod : MethodId := ⟨1, 1⟩
def args0 : Array Value := #[.int 5, .int 1, .int 1, .int 1]
def aboutOver (below : List Frame) : State where
  vm := { classes := classes, interned := interned.toArray }
  heap := heap
  slotsUsed := slotsUsed
  threads := #[{ frames := .invoking theMethod args0 :: below }]
def below0 : List Frame := [.native { method := ⟨0, 0⟩, args := #[] }]
def about1 : State := aboutOver below0
def p0 : Program := .bare "" "" ""
def e0 : Env := launch0.env 0 0 0
theorem w_frames : about1.frames = Frame.invoking theMethod args0 :: below0 := rfl
set_option maxRecDepth 65536 in
theorem w_args : argsFit about1.vm theMethod args0 = true := by decide +kernel
set_option maxRecDepth 65536 in
theorem w_heap : heapFits about1 = true := by decide +kernel
set_option maxRecDepth 65536 in
theorem w_runnable : about1.curStatus? = some .runnable := by decide +kernel
set_option maxRecDepth 65536 in
theorem w_alone : about1.alone = true := by decide +kernel
set_option maxRecDepth 65536 in
theorem w_named : about1.methodNamed? x = some theMethod := by decide +kernel
set_option maxRecDepth 65536 in
theorem w_hears : about1.hears theMethod below0 = true := by decide +kernel
set_option maxRecDepth 65536 in
theorem w_ripe : about1.ripe theMethod args0 below0 = true := by decide +kernel
theorem w_running : about1.status = .running := rfl
set_option maxRecDepth 65536 in
theorem w_room : about1.hasRoom e0.platform room_1 = true :=
  launch0.hasRoom_least _ room_1 (by decide +kernel) (by decide +kernel) (by decide +kernel) (by decide +kernel) (by decide +kernel) (by decide +kernel)
theorem allAtoms_all (ts : List Jvm.Cond) (a : Array Jvm.Value) (st : Jvm.State) : (allAtoms ts).before a st = ts.all (fun c => c.before a st) := by
  induction ts with
  | nil => rfl
  | cons c t ih =>
    show (Jvm.Cond.and c (allAtoms t)).before a st = _
    rw [Jvm.Cond.before_and, ih, List.all_cons]
def words1 : List Jvm.Cond := Jvm.Cond.code x code maxLocals ret :: tables_1
/-- a 'code' word, met by the world's own term for the bytes: nothing is compared byte by byte -/
theorem code_word {y : MethodName} {bytes : ByteArray} {mx : Nat} {rt : Option FieldType} {a : Array Value} {s : State} {m : MethodId} {meth : Method} {c : Code} (h1 : s.methodNamed? y = some m) (h2 : s.vm.method? m = some meth) (h3 : meth.code = some c) (h4 : c.code = bytes)
    (h5 : (c.maxLocals == mx && c.exceptionTable.isEmpty && decide (c.maxStack ≤ mostOperands) && decide (meth.sig.returnType = rt) && !meth.locks && decide (parseMethodDescriptor y.desc = some meth.sig)) = true) : (Jvm.Cond.code y bytes mx rt).before a s = true := by
  simp only [Bool.and_eq_true, beq_iff_eq, Bool.not_eq_true', decide_eq_true_eq] at h5
  obtain ⟨⟨⟨⟨⟨g1, g2⟩, g3⟩, g4⟩, g5⟩, g6⟩ := h5
  simp [Cond.before, Cond.holds, Cond.value, h1, h2, h3, h4, g1, g2, g3, g4, g5, g6]
def isCode : Jvm.Cond → Bool
  | .code _ _ _ _ => true
  | _ => false
theorem all_split {L : List Jvm.Cond} {P : Jvm.Cond → Bool} (h1 : L.all (fun c => isCode c || P c) = true) (h2 : ∀ c ∈ L.filter isCode, P c = true) : L.all P = true := by
  refine List.all_eq_true.mpr fun c hc => ?_
  have h := List.all_eq_true.mp h1 c hc
  rcases Bool.eq_false_or_eq_true (isCode c) with hi | hi
  · exact h2 c (List.mem_filter.mpr ⟨hc, hi⟩)
  · simpa [hi] using h
set_option maxRecDepth 65536 in
theorem w_c0 : (Jvm.Cond.code x code maxLocals ret).before args0 about1 = true := code_word (m := ⟨1, 1⟩) (meth := k1m1) (c := k1c1) (by decide +kernel) rfl rfl rfl (by decide +kernel)
set_option maxRecDepth 65536 in
theorem w_c1 : (Jvm.Cond.code ({ cls := "java/lang/String", name := "<init>", desc := "([C)V" } : Jvm.MethodName) jdk_42_method_3_code (2 : Nat) (Option.none : Option Jvm.ClassFile.FieldType)).before args0 about1 = true := code_word (m := ⟨7, 1⟩) (meth := k7m1) (c := k7c1) (by decide +kernel) rfl rfl rfl (by decide +kernel)
set_option maxRecDepth 65536 in
theorem w_c2 : (Jvm.Cond.code ({ cls := "java/lang/String", name := "<init>", desc := "([CIILjava/lang/Void;)V" } : Jvm.MethodName) jdk_42_method_149_code (6 : Nat) (Option.none : Option Jvm.ClassFile.FieldType)).before args0 about1 = true := code_word (m := ⟨7, 3⟩) (meth := k7m3) (c := k7c3) (by decide +kernel) rfl rfl rfl (by decide +kernel)
set_option maxRecDepth 65536 in
theorem w_c3 : (Jvm.Cond.code ({ cls := "java/lang/Object", name := "<init>", desc := "()V" } : Jvm.MethodName) object_method_1_code (1 : Nat) (Option.none : Option Jvm.ClassFile.FieldType)).before args0 about1 = true := code_word (m := ⟨0, 0⟩) (meth := k0m0) (c := k0c0) (by decide +kernel) rfl rfl rfl (by decide +kernel)
set_option maxRecDepth 65536 in
theorem w_c4 : (Jvm.Cond.code ({ cls := "java/lang/StringUTF16", name := "compress", desc := "([CII)[B" } : Jvm.MethodName) jdk_52_method_16_code (6 : Nat) (Option.some (Jvm.ClassFile.FieldType.array Jvm.ClassFile.FieldType.byte))).before args0 about1 = true := code_word (m := ⟨8, 2⟩) (meth := k8m2) (c := k8c2) (by decide +kernel) rfl rfl rfl (by decide +kernel)
set_option maxRecDepth 65536 in
theorem w_c5 : (Jvm.Cond.code ({ cls := "java/lang/StringUTF16", name := "compress", desc := "([CI[BII)I" } : Jvm.MethodName) jdk_52_method_21_code (7 : Nat) (Option.some Jvm.ClassFile.FieldType.int)).before args0 about1 = true := code_word (m := ⟨8, 3⟩) (meth := k8m3) (c := k8c3) (by decide +kernel) rfl rfl rfl (by decide +kernel)
set_option maxRecDepth 65536 in
theorem w_c6 : (Jvm.Cond.code ({ cls := "java/lang/StringUTF16", name := "coderFromArrayLen", desc := "([BI)B" } : Jvm.MethodName) jdk_52_method_15_code (2 : Nat) (Option.some Jvm.ClassFile.FieldType.byte)).before args0 about1 = true := code_word (m := ⟨8, 1⟩) (meth := k8m1) (c := k8c1) (by decide +kernel) rfl rfl rfl (by decide +kernel)
set_option maxRecDepth 65536 in
theorem w_c7 : (Jvm.Cond.code ({ cls := "recensio/records/Subfield", name := "<init>", desc := "(CLjava/lang/String;)V" } : Jvm.MethodName) prog_31_method_1_code (3 : Nat) (Option.none : Option Jvm.ClassFile.FieldType)).before args0 about1 = true := code_word (m := ⟨10, 0⟩) (meth := k10m0) (c := k10c0) (by decide +kernel) rfl rfl rfl (by decide +kernel)
set_option maxRecDepth 65536 in
theorem w_c8 : (Jvm.Cond.code ({ cls := "java/lang/Record", name := "<init>", desc := "()V" } : Jvm.MethodName) jdk_30_method_1_code (1 : Nat) (Option.none : Option Jvm.ClassFile.FieldType)).before args0 about1 = true := code_word (m := ⟨9, 0⟩) (meth := k9m0) (c := k9c0) (by decide +kernel) rfl rfl rfl (by decide +kernel)
set_option maxRecDepth 65536 in
theorem w_c9 : (Jvm.Cond.code ({ cls := "java/util/Objects", name := "requireNonNull", desc := "(Ljava/lang/Object;Ljava/lang/String;)Ljava/lang/Object;" } : Jvm.MethodName) jdk_31_method_11_code (2 : Nat) (Option.some (Jvm.ClassFile.FieldType.object "java/lang/Object"))).before args0 about1 = true := code_word (m := ⟨11, 1⟩) (meth := k11m1) (c := k11c1) (by decide +kernel) rfl rfl rfl (by decide +kernel)
set_option maxRecDepth 65536 in
theorem w_c10 : (Jvm.Cond.code ({ cls := "java/lang/String", name := "valueOf", desc := "(C)Ljava/lang/String;" } : Jvm.MethodName) jdk_42_method_139_code (1 : Nat) (Option.some (Jvm.ClassFile.FieldType.object "java/lang/String"))).before args0 about1 = true := code_word (m := ⟨7, 2⟩) (meth := k7m2) (c := k7c2) (by decide +kernel) rfl rfl rfl (by decide +kernel)
set_option maxRecDepth 65536 in
theorem w_c11 : (Jvm.Cond.code ({ cls := "java/lang/StringLatin1", name := "canEncode", desc := "(C)Z" } : Jvm.MethodName) jdk_43_method_3_code (1 : Nat) (Option.some Jvm.ClassFile.FieldType.boolean)).before args0 about1 = true := code_word (m := ⟨12, 1⟩) (meth := k12m1) (c := k12c1) (by decide +kernel) rfl rfl rfl (by decide +kernel)
set_option maxRecDepth 65536 in
theorem w_c12 : (Jvm.Cond.code ({ cls := "java/lang/StringLatin1", name := "toBytes", desc := "(C)[B" } : Jvm.MethodName) jdk_43_method_46_code (1 : Nat) (Option.some (Jvm.ClassFile.FieldType.array Jvm.ClassFile.FieldType.byte))).before args0 about1 = true := code_word (m := ⟨12, 2⟩) (meth := k12m2) (c := k12c2) (by decide +kernel) rfl rfl rfl (by decide +kernel)
set_option maxRecDepth 65536 in
theorem w_c13 : (Jvm.Cond.code ({ cls := "java/lang/String", name := "<init>", desc := "([BB)V" } : Jvm.MethodName) jdk_42_method_151_code (3 : Nat) (Option.none : Option Jvm.ClassFile.FieldType)).before args0 about1 = true := code_word (m := ⟨7, 4⟩) (meth := k7m4) (c := k7c4) (by decide +kernel) rfl rfl rfl (by decide +kernel)
set_option maxRecDepth 65536 in
theorem w_c14 : (Jvm.Cond.code ({ cls := "recensio/records/Subfield", name := "isStatementText", desc := "()Z" } : Jvm.MethodName) prog_31_method_2_code (1 : Nat) (Option.some Jvm.ClassFile.FieldType.boolean)).before args0 about1 = true := code_word (m := ⟨10, 1⟩) (meth := k10m1) (c := k10c1) (by decide +kernel) rfl rfl rfl (by decide +kernel)
def codes1 : List Jvm.Cond := [Jvm.Cond.code x code maxLocals ret, Jvm.Cond.code ({ cls := "java/lang/String", name := "<init>", desc := "([C)V" } : Jvm.MethodName) jdk_42_method_3_code (2 : Nat) (Option.none : Option Jvm.ClassFile.FieldType), Jvm.Cond.code ({ cls := "java/lang/String", name := "<init>", desc := "([CIILjava/lang/Void;)V" } : Jvm.MethodName) jdk_42_method_149_code (6 : Nat) (Option.none : Option Jvm.ClassFile.FieldType), Jvm.Cond.code ({ cls := "java/lang/Object", name := "<init>", desc := "()V" } : Jvm.MethodName) object_method_1_code (1 : Nat) (Option.none : Option Jvm.ClassFile.FieldType), Jvm.Cond.code ({ cls := "java/lang/StringUTF16", name := "compress", desc := "([CII)[B" } : Jvm.MethodName) jdk_52_method_16_code (6 : Nat) (Option.some (Jvm.ClassFile.FieldType.array Jvm.ClassFile.FieldType.byte)), Jvm.Cond.code ({ cls := "java/lang/StringUTF16", name := "compress", desc := "([CI[BII)I" } : Jvm.MethodName) jdk_52_method_21_code (7 : Nat) (Option.some Jvm.ClassFile.FieldType.int), Jvm.Cond.code ({ cls := "java/lang/StringUTF16", name := "coderFromArrayLen", desc := "([BI)B" } : Jvm.MethodName) jdk_52_method_15_code (2 : Nat) (Option.some Jvm.ClassFile.FieldType.byte), Jvm.Cond.code ({ cls := "recensio/records/Subfield", name := "<init>", desc := "(CLjava/lang/String;)V" } : Jvm.MethodName) prog_31_method_1_code (3 : Nat) (Option.none : Option Jvm.ClassFile.FieldType), Jvm.Cond.code ({ cls := "java/lang/Record", name := "<init>", desc := "()V" } : Jvm.MethodName) jdk_30_method_1_code (1 : Nat) (Option.none : Option Jvm.ClassFile.FieldType), Jvm.Cond.code ({ cls := "java/util/Objects", name := "requireNonNull", desc := "(Ljava/lang/Object;Ljava/lang/String;)Ljava/lang/Object;" } : Jvm.MethodName) jdk_31_method_11_code (2 : Nat) (Option.some (Jvm.ClassFile.FieldType.object "java/lang/Object")), Jvm.Cond.code ({ cls := "java/lang/String", name := "valueOf", desc := "(C)Ljava/lang/String;" } : Jvm.MethodName) jdk_42_method_139_code (1 : Nat) (Option.some (Jvm.ClassFile.FieldType.object "java/lang/String")), Jvm.Cond.code ({ cls := "java/lang/StringLatin1", name := "canEncode", desc := "(C)Z" } : Jvm.MethodName) jdk_43_method_3_code (1 : Nat) (Option.some Jvm.ClassFile.FieldType.boolean), Jvm.Cond.code ({ cls := "java/lang/StringLatin1", name := "toBytes", desc := "(C)[B" } : Jvm.MethodName) jdk_43_method_46_code (1 : Nat) (Option.some (Jvm.ClassFile.FieldType.array Jvm.ClassFile.FieldType.byte)), Jvm.Cond.code ({ cls := "java/lang/String", name := "<init>", desc := "([BB)V" } : Jvm.MethodName) jdk_42_method_151_code (3 : Nat) (Option.none : Option Jvm.ClassFile.FieldType), Jvm.Cond.code ({ cls := "recensio/records/Subfield", name := "isStatementText", desc := "()Z" } : Jvm.MethodName) prog_31_method_2_code (1 : Nat) (Option.some Jvm.ClassFile.FieldType.boolean)]
set_option maxRecDepth 65536 in
theorem codes_eq : words1.filter isCode = codes1 := rfl
theorem w_codes : ∀ c ∈ words1.filter isCode, c.before args0 about1 = true := by
  rw [codes_eq]
  intro c hc
  simp only [codes1, List.mem_cons, List.not_mem_nil, or_false] at hc
  rcases hc with rfl | rfl | rfl | rfl | rfl | rfl | rfl | rfl | rfl | rfl | rfl | rfl | rfl | rfl | rfl
  · exact w_c0
  · exact w_c1
  · exact w_c2
  · exact w_c3
  · exact w_c4
  · exact w_c5
  · exact w_c6
  · exact w_c7
  · exact w_c8
  · exact w_c9
  · exact w_c10
  · exact w_c11
  · exact w_c12
  · exact w_c13
  · exact w_c14
set_option maxRecDepth 65536 in
theorem w_t1 : (words1.take 24).all (fun c => isCode c || c.before args0 about1) = true := by decide +kernel
set_option maxRecDepth 65536 in
theorem w_t2 : ((words1.drop 24).take 24).all (fun c => isCode c || c.before args0 about1) = true := by decide +kernel
set_option maxRecDepth 65536 in
theorem w_t3 : (((words1.drop 24).drop 24).take 24).all (fun c => isCode c || c.before args0 about1) = true := by decide +kernel
set_option maxRecDepth 65536 in
theorem w_t4 : (((words1.drop 24).drop 24).drop 24).all (fun c => isCode c || c.before args0 about1) = true := by decide +kernel
theorem w_tables : (allAtoms (Jvm.Cond.code x code maxLocals ret :: tables_1)).before args0 about1 = true := by
  rw [allAtoms_all]
  show words1.all (fun c => c.before args0 about1) = true
  refine all_split ?_ w_codes
  rw [← List.take_append_drop 24 words1, List.all_append, w_t1, ← List.take_append_drop 24 (words1.drop 24), List.all_append, w_t2, ← List.take_append_drop 24 ((words1.drop 24).drop 24), List.all_append, w_t3, w_t4]
  rfl
set_option maxRecDepth 65536 in
theorem w_rest : rest_1_c.before args0 about1 = true := by decide +kernel
set_option maxRecDepth 65536 in
theorem w_case : (Jvm.Cond.and given_1 narrow_1).before args0 about1 = true := by decide +kernel
theorem w_applies : (headSpec (Jvm.Cond.code x code maxLocals ret :: tables_1) room_1).applies x e0.platform about1 = true :=
  (Spec.applies_iff w_frames).mpr ⟨w_running, w_runnable, w_alone, w_named, w_hears, w_ripe, w_room, w_tables⟩
theorem atStart : AtStart classFile x code maxLocals ret World_1 tables_1 room_1 Calls_1 rest_1 Pre_1 launch0 p0 e0 about1 theMethod args0 below0 :=
  ⟨lists_1, trivial, launch0.admits_env _ _ _, launch0.least_env, fairChoices_fair.cas, fairChoices_fair.clock, w_frames, w_args, w_heap, w_applies, trivial, w_rest, w_case⟩
end start1
theorem witness_1 : WitnessClaimed_1 := ⟨start1.p0, start1.e0, start1.about1, start1.theMethod, start1.args0, start1.below0, start1.atStart⟩
end Jvm.Pilot.@@N@@
