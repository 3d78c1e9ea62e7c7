import JvmDerived
import JvmDerived.Pilot.@@N@@Statement
import JvmDerived.Pilot.@@N@@Code
set_option linter.unusedVariables false
set_option linter.unusedSimpArgs false
namespace Jvm.RoadKit
open Sem ClassFile Op Lib Jvm.Stand Jvm.Free Jvm.LawKit
section New
variable {p : Program} {l : Launch} {e : Env} {R : Room} {s : State} {m : MethodId} {args : Array Value} {below : List Frame} {meth : Method} {c : Code} {T : State} {locs : List Loc} {cells slots : Nat}
theorem retI (X : Stand p l e R s m args below meth c T locs cells slots) (hx : p.tables.exec = Jvm.exec) {pc : Nat} {Ls : Array Slot} {z : Int32} {rest : List Value} (hret : meth.sig.returnType = some .int) (hd : decode c.code pc = .ok (.ireturn, 1)) {fs : List Frame}
    (hl : ∀ (f : JFrame) (acts : List Action), f.method = m → f.locked = none → f.entered = [] → (doReturn e (T.setTop f) acts (some (.int z))).1 = T.setFrames fs) : Steps p.tables e below (T.setTop (mkF m pc Ls (.int z :: rest))) (T.setFrames fs) := by
  have hm' : T.vm.method? m = some meth := X.method'
  have hn : narrow .int (.int z) = .int z := rfl
  show Steps p.tables e below (T.setTop { method := m, pc := pc, locals := Ls, stack := _ :: rest, locked := none }) _
  jvm_step X.here [X.here.top, hx, hd, hm', hret, hn]
  first | (intro acts; rw [hl _ acts rfl rfl rfl]) | rw [hl _ _ rfl rfl rfl]
  exact Steps.refl _
theorem retZ (X : Stand p l e R s m args below meth c T locs cells slots) (hx : p.tables.exec = Jvm.exec) {pc : Nat} {Ls : Array Slot} {z : Int32} {rest : List Value} (hret : meth.sig.returnType = some .boolean) (hz : z &&& 1 = z) (hd : decode c.code pc = .ok (.ireturn, 1)) {fs : List Frame}
    (hl : ∀ (f : JFrame) (acts : List Action), f.method = m → f.locked = none → f.entered = [] → (doReturn e (T.setTop f) acts (some (.int z))).1 = T.setFrames fs) : Steps p.tables e below (T.setTop (mkF m pc Ls (.int z :: rest))) (T.setFrames fs) := by
  have hn : narrow .boolean (.int z) = .int z := by show Value.int (z &&& 1) = _; rw [hz]
  exact retOut X hx hret hn (Or.inl ⟨rfl, Or.inr (Or.inl rfl), z, rfl⟩) hd hl
theorem retJ (X : Stand p l e R s m args below meth c T locs cells slots) (hx : p.tables.exec = Jvm.exec) {pc : Nat} {Ls : Array Slot} {z : Int64} {rest : List Value} (hret : meth.sig.returnType = some .long) (hd : decode c.code pc = .ok (.lreturn, 1)) {fs : List Frame}
    (hl : ∀ (f : JFrame) (acts : List Action), f.method = m → f.locked = none → f.entered = [] → (doReturn e (T.setTop f) acts (some (.long z))).1 = T.setFrames fs) : Steps p.tables e below (T.setTop (mkF m pc Ls (.long z :: rest))) (T.setFrames fs) :=
  retOut X hx hret rfl (Or.inr (Or.inl ⟨rfl, rfl, z, rfl⟩)) hd hl
theorem retA (X : Stand p l e R s m args below meth c T locs cells slots) (hx : p.tables.exec = Jvm.exec) {pc : Nat} {Ls : Array Slot} {a : Addr} {rest : List Value} {t : FieldType} (ht : t.isReference = true) (hn : narrow t (.ref a) = .ref a) (hret : meth.sig.returnType = some t) (hd : decode c.code pc = .ok (.areturn, 1)) {fs : List Frame}
    (hl : ∀ (f : JFrame) (acts : List Action), f.method = m → f.locked = none → f.entered = [] → (doReturn e (T.setTop f) acts (some (.ref a))).1 = T.setFrames fs) : Steps p.tables e below (T.setTop (mkF m pc Ls (.ref a :: rest))) (T.setFrames fs) :=
  retOut X hx hret hn (Or.inr (Or.inr (Or.inr (Or.inr ⟨rfl, ht, rfl⟩)))) hd hl
theorem newPk {Z : State} {a0 : Array Value} {h : Heap} (X : Stand p l e R s m args below meth c T locs cells slots) (hx : p.tables.exec = Jvm.exec) (hZ : Z.Warmed39 s.vm) {aty : ArrayType} (w : (Cond.arrayClass (newarray.typeOf aty)).before a0 Z = true) (eT : T.heap = h) {g : JFrame} (hg : g.method = m)
    (hd : decode c.code g.pc = .ok (.newarray aty, 2)) {n : Int32} {rest : List Value} (hs : g.stack = .int n :: rest) (hn : ¬ n < 0) {cap : Nat} (hcap : n.toNatClampNeg ≤ cap) (hb : cap * 8 ≤ 536870912) (hc : cells + 1 ≤ R.cells) (hl : slots + cap ≤ R.slots) :
    ∃ T' h' cA, Stand p l e R s m args below meth c T' locs (cells + 1) (slots + cap) ∧ T'.heap = h' ∧ Ext h h' ∧ Arr Z h' h.size (newA cA (newarray.typeOf aty) n) (newarray.typeOf aty) ∧ Z.vm.findClass ("[" ++ (newarray.typeOf aty).toString) = some cA ∧
      ∀ target, Steps p.tables e below (T'.setTop { g with pc := g.pc + 2, stack := .ref h.size :: rest }) target → Steps p.tables e below (T.setTop g) target := by
  have hw8 : componentBytes (newarray.typeOf aty) ≤ 8 := by cases aty <;> decide
  obtain ⟨cA, kA, comp, f1, f2, f3, X', st⟩ := X.newarrayPrim hx (mvA hZ w) hg hd hs hn (Nat.le_trans (Nat.mul_le_mul hcap hw8) hb) hc (by omega)
  subst eT
  have f0 : Z.vm.findClass ("[" ++ (newarray.typeOf aty).toString) = some cA := by rw [← hZ.alike.findClass]; exact f1
  obtain ⟨kZ, z1, -⟩ := Vm.findClass_spec f0
  obtain ⟨k', z2, z3⟩ := hZ.alike.2.2 _ _ z1
  have ek : kA = k' := Option.some.inj (f2.symm.trans z2)
  have hq : kZ.kind = .array comp (newarray.typeOf aty) := by rw [← f3, ek, z3]
  refine ⟨_, _, cA, X'.more (Nat.le_refl _) (by omega), rfl, ext_of fun a ha => ?_, ⟨?_, ⟨fun q => by simp [newA], kZ, z1, comp, hq⟩, by simp [newA]⟩, f0, st⟩
  · show (T.heap.push _)[a]? = _
    rw [Array.getElem?_push_lt ha, Array.getElem?_eq_getElem ha]
  · show (T.heap.push _)[T.heap.size]? = _
    simp [newA]
theorem selPriv {s : State} {args : Array Value} {C : String} {y y0 : MethodName} (hsel : (Cond.selects C y0 y0).before args s = true) (hcls : y0.cls = y.cls) (hpriv : s.PrivateAt y) (hinst : (Cond.instanceMethod y).before args s = true) (hy : y.cls ≠ "java/lang/invoke/MethodHandle" ∧ y.cls ≠ "java/lang/invoke/VarHandle") : (Cond.selects y.cls y y).before args s = true := by
  obtain ⟨mk, meth, hnamed, hm, -, -⟩ := Cond.instanceMethod_spec hinst
  have hc := findClass_of_methodNamed hnamed
  obtain ⟨_, _, m2, -, -, q3, -, kP, hkP, hkPi⟩ := Cond.selects_spec hsel
  have h0 := findClass_of_methodNamed q3
  rw [hcls] at h0
  have e : mk.cls = m2.cls := Option.some.inj (hc.symm.trans h0)
  exact selects_self_of_private hc (by rw [e]; exact hkP) hkPi hpriv hinst hy
theorem backOfCH {Z s : State} {a0 : Array Value} {EL : List (String × Nat)} {h : Heap} {vm0 : Vm} {y : MethodName} {bytes : ByteArray} {maxL : Nat} {ret : Option FieldType} {rm : Room} {len W : Nat} {as' : Array Value} {sf : List Addr} {Q : Option Value → Heap → List Loc → Prop}
    (hM : MetFree l y (head1 [Cond.code y bytes maxL ret] rm) (fun a U => a = as' ∧ Z.Warmed39 U.vm ∧ U.heap = h ∧ CHv Z EL U.vm h ∧ ∀ x ∈ sf, Safe Z EL U.vm h x) (fun _ _ _ _ _ => True) (fun _ U o U' => ∃ v L, o = .returned v ∧ Q v U'.heap L ∧ CHr Z EL U.vm U.heap U'.vm U'.heap ∧ ReturnedEndW U o U' L rm.cells rm.slots))
    (hZ : Z.Warmed39 vm0) (wc : (Cond.code y bytes maxL ret).before a0 Z = true) (wz : (Cond.initialized y.cls).before a0 Z = true) (hf : rm.frames + 1 ≤ R.frames) (hl : W + (maxL + 11) + rm.locals ≤ R.locals) (hEL : EW Z a0 EL) (H : CHv Z EL vm0 h) (hsf : ∀ x ∈ sf, Safe Z EL vm0 h x ∧ x < h.size) :
    BackS l R p e below (s.setVm vm0) args y len W (fun A a => a = as' ∧ A.U.heap = h ∧ A.cells + rm.cells ≤ R.cells ∧ A.slots + rm.slots ≤ R.slots)
      (fun A _ v B => ∃ L, Q v B.U.heap L ∧ B.locs = A.locs ++ L ∧ B.cells = A.cells + rm.cells ∧ B.slots = A.slots + rm.slots ∧ CHr Z EL vm0 h B.U.vm B.U.heap) :=
  BackS.of_freeW (bytes := bytes) (maxL := maxL) (ret := ret) (E := fun _ first o t L k n => k = rm.cells ∧ n = rm.slots ∧ (∃ v, o = .returned v ∧ Q v t.heap L) ∧ CHr Z EL first.vm first.heap t.vm t.heap) hM hf hl
    (fun m meth c A a Y hp => have hU : Z.Warmed39 A.U.vm := wtrans (s := s.setVm vm0) hZ Y.warmed
      ⟨by show (Cond.and _ .tt).before a A.U = true; rw [Cond.before_and, mv hU wc]; rfl, mv hU wc, mv hU wz, hp.2.2.1, hp.2.2.2⟩)
    (fun m meth c A a g mk Y hp => ⟨hp.1, wtrans (s := s.setVm vm0) hZ Y.warmed, hp.2.1, (CHv.at Y hZ hEL H).1, fun x hx => (CHv.at Y hZ hEL H).safe (hsf x hx).2 (hsf x hx).1⟩) (fun _ _ _ _ _ _ _ _ _ => trivial)
    (fun _ _ _ _ ⟨v, L, h1, h2, h3, h4⟩ => ⟨L, _, _, h4, rfl, rfl, ⟨v, h1, h2⟩, h3⟩)
    (fun m meth c A a g mk v t L k n Y hp _ _ ⟨e1, e2, ⟨v', e3, e4⟩, e5⟩ => by
      cases e3; subst e1 e2
      refine ⟨L, e4, rfl, rfl, rfl, (CHv.at Y hZ hEL H).trans ?_⟩
      rw [← hp.2.1]; exact e5)
theorem insA {Z : State} {h : Heap} {a : Addr} {k : ClassId} {ty : FieldType} {z : Int32} {vs : List Value} {d : Value} {K : String} (F : Arv Z h a k ty z vs d) (hk : Z.vm.findClass K = some k) : Ins Z h a K true := by
  obtain ⟨c, A, q, -⟩ := F
  exact ⟨c, k, A.1, hk, by simp [A.plain, q, Vm.assignable_self]⟩
theorem lswHit {g : JFrame} {target : State} (X : Stand p l e R s m args below meth c T locs cells slots) (hx : p.tables.exec = Jvm.exec) (hg : g.method = m) {pc0 pc' : Nat} (hpc : g.pc = pc0) {k : Int32} {rest : List Value} {dflt : Int} {pairs : Array (Int × Int)} {len : Nat}
    (hd : decode c.code g.pc = .ok (.lookupswitch dflt pairs, len)) (hs : g.stack = .int k :: rest) (hsort : (pairs.toList.zip (pairs.toList.drop 1)).all (fun (a, next) => a.1 < next.1) = true) {a off : Int} (hf : pairs.find? (·.1 == k.toInt) = some (a, off)) (ho : 0 ≤ (pc0 : Int) + off) (hp : ((pc0 : Int) + off).toNat = pc')
    (hr : Steps p.tables e below (T.setTop { g with pc := pc', stack := rest }) target) : Steps p.tables e below (T.setTop g) target := by
  subst hpc hp
  exact X.lookupswitchHit hx hg hs hd hsort hf ho _ hr
theorem lswMiss {g : JFrame} {target : State} (X : Stand p l e R s m args below meth c T locs cells slots) (hx : p.tables.exec = Jvm.exec) (hg : g.method = m) {pc0 pc' : Nat} (hpc : g.pc = pc0) {k : Int32} {rest : List Value} {dflt : Int} {pairs : Array (Int × Int)} {len : Nat}
    (hd : decode c.code g.pc = .ok (.lookupswitch dflt pairs, len)) (hs : g.stack = .int k :: rest) (hsort : (pairs.toList.zip (pairs.toList.drop 1)).all (fun (a, next) => a.1 < next.1) = true) (hf : pairs.find? (·.1 == k.toInt) = none) (ho : 0 ≤ (pc0 : Int) + dflt) (hp : ((pc0 : Int) + dflt).toNat = pc')
    (hr : Steps p.tables e below (T.setTop { g with pc := pc', stack := rest }) target) : Steps p.tables e below (T.setTop g) target := by
  subst hpc hp
  exact X.lookupswitchMiss hx hg hs hd hsort hf ho _ hr
end New
end Jvm.RoadKit
namespace Jvm.Pilot.@@N@@
open Jvm Jvm.ClassFile Sem Op Lib Jvm.Free Jvm.Stand Jvm.LawKit Jvm.RoadKit Bundle Jvm.Pilot.@@N@@.Jvm.D
theorem own_rng (x : Int32) : -128 ≤ (nar .byte x).toInt ∧ (nar .byte x).toInt < 128 := (c_i2b x).2
theorem own_nc {p : Int32} (h : 0 ≤ p.toInt ∧ p.toInt ≤ 255) : ¬ ((255 : Int32) < nar .char p) := fun q => by
  have c := c_i2c p
  rw [Int32.lt_iff_toInt_lt, show (255 : Int32).toInt = 255 by decide] at q
  change 255 < (p.toUInt32.toUInt16.toUInt32.toInt32).toInt at q
  omega
theorem own_neS {Z : State} {h : Heap} {a b t t' : Addr} {C n d : String} {k k' : ClassId} {ty ty' : FieldType} {z z' : Int32} {vs vs' : List Value} {e e' : Value} (F : Fld Z h a C n d (.ref t)) (G : Fld Z h b C n d (.ref t')) (A : Arv Z h t k ty z vs e) (B : Arv Z h t' k' ty' z' vs' e') (hz : z.toNatClampNeg ≠ z'.toNatClampNeg) : a ≠ b :=
  Fld.ne F G fun q => by
    have q' : t = t' := Value.ref.inj q
    subst q'
    obtain ⟨c, A1, -, A3, -⟩ := A
    obtain ⟨c', B1, -, B3, -⟩ := B
    have : c = c' := Option.some.inj (A1.1.symm.trans B1.1)
    subst this
    exact hz (A3.symm.trans B3)
theorem own_neC {Z : State} {h : Heap} {a b t t' : Addr} {C n d : String} {k k' : ClassId} {ty ty' : FieldType} {z' : Int32} {vs vs' : List Value} {e e' x y : Value} (F : Fld Z h a C n d (.ref t)) (G : Fld Z h b C n d (.ref t')) (A : Arv Z h t k ty (1 : Int32) (x :: vs) e) (B : Arv Z h t' k' ty' z' (y :: vs') e') (hz : x ≠ y) : a ≠ b :=
  Fld.ne F G fun q => by
    have q' : t = t' := Value.ref.inj q
    subst q'
    obtain ⟨c, A1, -, A3, -, A5, -⟩ := A
    obtain ⟨c', B1, -, B3, -, B5, -⟩ := B
    have : c = c' := Option.some.inj (A1.1.symm.trans B1.1)
    subst this
    have h0 : 0 < c.slots.size := by rw [A3]; decide
    have e1 := A5 0 h0
    have e2 := B5 0 h0
    exact hz (Option.some.inj (e1.symm.trans e2))
theorem own_ch {w : Int32} (h : -128 ≤ w.toInt ∧ w.toInt < 128) : (nar .char (nar .char (((w &&& (255 : Int32)).toUInt32.toUInt16.toUInt32.toInt32)))) = (88 : Int32) ↔ w = (88 : Int32) := by
  have m := c_mask w 255 8 (by decide) (by decide)
  have c1 := c_i2c (w &&& (255 : Int32))
  have c2 := c_i2c (w &&& (255 : Int32)).toUInt32.toUInt16.toUInt32.toInt32
  have c3 := c_i2c (w &&& (255 : Int32)).toUInt32.toUInt16.toUInt32.toInt32.toUInt32.toUInt16.toUInt32.toInt32
  change (w &&& (255 : Int32)).toUInt32.toUInt16.toUInt32.toInt32.toUInt32.toUInt16.toUInt32.toInt32.toUInt32.toUInt16.toUInt32.toInt32 = (88 : Int32) ↔ w = (88 : Int32)
  rw [← Int32.toInt_inj, ← Int32.toInt_inj, show (88 : Int32).toInt = 88 by decide]
  omega
theorem d11_0 : decode jdk_52_method_21_code 0 = .ok (.iconst 0, 1) := by decide +kernel
theorem d11_1 : decode jdk_52_method_21_code 1 = .ok (.istore 5, 2) := by decide +kernel
theorem d11_3 : decode jdk_52_method_21_code 3 = .ok (.iload 5, 2) := by decide +kernel
theorem d11_5 : decode jdk_52_method_21_code 5 = .ok (.iload 4, 2) := by decide +kernel
theorem d11_7 : decode jdk_52_method_21_code 7 = .ok (.if_icmp .ge 37, 3) := by decide +kernel
theorem d11_10 : decode jdk_52_method_21_code 10 = .ok (.aload_n 0, 1) := by decide +kernel
theorem d11_11 : decode jdk_52_method_21_code 11 = .ok (.iload_n 1, 1) := by decide +kernel
theorem d11_12 : decode jdk_52_method_21_code 12 = .ok (.caload, 1) := by decide +kernel
theorem d11_13 : decode jdk_52_method_21_code 13 = .ok (.istore 6, 2) := by decide +kernel
theorem d11_15 : decode jdk_52_method_21_code 15 = .ok (.iload 6, 2) := by decide +kernel
theorem d11_17 : decode jdk_52_method_21_code 17 = .ok (.sipush 255, 3) := by decide +kernel
theorem d11_20 : decode jdk_52_method_21_code 20 = .ok (.if_icmp .le 6, 3) := by decide +kernel
theorem d11_26 : decode jdk_52_method_21_code 26 = .ok (.aload_n 2, 1) := by decide +kernel
theorem d11_27 : decode jdk_52_method_21_code 27 = .ok (.iload_n 3, 1) := by decide +kernel
theorem d11_28 : decode jdk_52_method_21_code 28 = .ok (.iload 6, 2) := by decide +kernel
theorem d11_30 : decode jdk_52_method_21_code 30 = .ok (.i2b, 1) := by decide +kernel
theorem d11_31 : decode jdk_52_method_21_code 31 = .ok (.bastore, 1) := by decide +kernel
theorem d11_32 : decode jdk_52_method_21_code 32 = .ok (.iinc 1 1, 3) := by decide +kernel
theorem d11_35 : decode jdk_52_method_21_code 35 = .ok (.iinc 3 1, 3) := by decide +kernel
theorem d11_38 : decode jdk_52_method_21_code 38 = .ok (.iinc 5 1, 3) := by decide +kernel
theorem d11_41 : decode jdk_52_method_21_code 41 = .ok (.goto (-38), 3) := by decide +kernel
theorem d11_44 : decode jdk_52_method_21_code 44 = .ok (.iload 4, 2) := by decide +kernel
theorem d11_46 : decode jdk_52_method_21_code 46 = .ok (.ireturn, 1) := by decide +kernel
theorem pn_0 : plainName "java/lang/StringUTF16" = true := by first | (simp [plainName, overriddenIn]; done) | decide +kernel
theorem ef_c5_1 (m : MethodId) (a0 : Addr) (a2 : Addr) : entryFrame m #[(.ref a0), (.int (0 : Int32)), (.ref a2), (.int (0 : Int32)), (.int (1 : Int32))] 7 = mkF m 0 #[.val (.ref a0), .val (.int (0 : Int32)), .val (.ref a2), .val (.int (0 : Int32)), .val (.int (1 : Int32)), .unset, .unset] [] := by first | (simp [entryFrame, mkF, argsToLocals, Value.category]; done) | rfl
def Q_c5_1 (Z : State) (a0 : Addr) (a2 : Addr) (kc : ClassId) (kb : ClassId) (u0 : Int32) (h0 : Heap) (n0 : Nat) (v : Option Value) (h : Heap) (L : List Loc) : Prop := v = some (.int (1 : Int32)) ∧ Fr n0 L ∧ Keep h0 h [a2] ∧ Arv Z h a2 kb .byte (1 : Int32) [(.int (nar .byte (u0.toInt8.toInt32)))] (.int (0 : Int32))
set_option maxRecDepth 65536 in
set_option maxHeartbeats 40000000 in
theorem c5_1 (l : Launch) (Z : State) (aw : Array Value) (hw : ∀ d ∈ tables_1, d.before aw Z = true) (ws : List Jvm.Cond) (a0 : Addr) (a2 : Addr) (kc : ClassId) (kb : ClassId) (u0 : Int32) (h0 : Heap) (n0 : Nat) (Z0 : n0 ≤ h0.size) (V_a0 : Arv Z h0 a0 kc .char (1 : Int32) [(.int u0)] (.int (0 : Int32))) (V_a2 : Arv Z h0 a2 kb .byte (1 : Int32) [(.int (0 : Int32))] (.int (0 : Int32))) (ne_a0_a2 : a0 ≠ a2) (g_a2 : n0 ≤ a2) (hu0 : ¬ ((255 : Int32) < u0)) :
    MetFree l (⟨"java/lang/StringUTF16", "compress", "([CI[BII)I"⟩ : MethodName) (head1 (Jvm.Cond.code (⟨"java/lang/StringUTF16", "compress", "([CI[BII)I"⟩ : MethodName) jdk_52_method_21_code 7 (some .int) :: ws) ({ frames := 0, cells := 0, slots := 0, locals := 0 } : Room)) (fun a U => a = #[(.ref a0), (.int (0 : Int32)), (.ref a2), (.int (0 : Int32)), (.int (1 : Int32))] ∧ Z.Warmed39 U.vm ∧ U.heap = h0) (fun _ _ _ _ _ => True) (fun _ U o U' => ∃ v L, o = .returned v ∧ Q_c5_1 Z a0 a2 kc kb u0 h0 n0 v U'.heap L ∧ FrameEnd U o U' L ({ frames := 0, cells := 0, slots := 0, locals := 0 } : Room).cells ({ frames := 0, cells := 0, slots := 0, locals := 0 } : Room).slots) := by
  refine MetFree.of_bodySF (plainFor_of_name pn_0) hisR ?_
  intro p e s m args below meth c s₁ Bd hml0 hP hK
  obtain ⟨rfl, hZ, hh⟩ := hP
  have hx := Bd.exec
  have hby := Bd.bytes
  have hml : c.maxLocals = 7 := hml0
  have hown : s.vm.findClass "java/lang/StringUTF16" = some m.cls := findClass_of_methodNamed Bd.named
  have hnm := (name_of_methodNamed Bd.named Bd.method).1
  have X0 : Stand p l e ({ frames := 0, cells := 0, slots := 0, locals := 0 } : Room) s m #[(.ref a0), (.int (0 : Int32)), (.ref a2), (.int (0 : Int32)), (.int (1 : Int32))] below meth c s₁ [] 0 0 := Stand.of_body Bd
  have e0 : s₁.heap = h0 := by rw [← hh, Bd.state]; rfl
  have N0 := Fr.nil n0
  have pre0 : ∀ t, Steps p.tables e below (s₁.setTop (mkF m 0 #[.val (.ref a0), .val (.int (0 : Int32)), .val (.ref a2), .val (.int (0 : Int32)), .val (.int (1 : Int32)), .unset, .unset] [])) t → Steps p.tables e below (s₁.setTop (entryFrame m #[(.ref a0), (.int (0 : Int32)), (.ref a2), (.int (0 : Int32)), (.int (1 : Int32))] 7)) t := fun t k => castTop (ef_c5_1 m a0 a2) k
  have KC0 : Keep h0 h0 [a2] := Keep.refl h0 [a2]
  obtain ⟨cl101, Ar101, q101, S101, N101, H101, G101⟩ := id V_a0
  have hin101 : ¬ ((0 : Int32) < 0 ∨ cl101.slots.size ≤ ((0 : Int32)).toNatClampNeg) := inb_of S101 ⟨by decide, by decide⟩
  have hat101 : cl101.slots[((0 : Int32)).toNatClampNeg]? = some (.int u0) := Has.at H101 hin101 rfl
  have c102 : ¬ ((255 : Int32) < u0) := by
    exact hu0
  obtain ⟨cl103, Ar103, q103, S103, N103, H103, G103⟩ := id V_a2
  have hin103 : ¬ ((0 : Int32) < 0 ∨ cl103.slots.size ≤ ((0 : Int32)).toNatClampNeg) := inb_of S103 ⟨by decide, by decide⟩
  obtain ⟨T103, h103, X103, e103, W103, st103⟩ := stB X0 hx hZ e0 Ar103 (j := (0 : Int32)) hin103 (g := (mkF m 31 #[.val (.ref a0), .val (.int (0 : Int32)), .val (.ref a2), .val (.int (0 : Int32)), .val (.int (1 : Int32)), .val (.int (0 : Int32)), .val (.int u0)] [(.int (u0.toInt8.toInt32)), (.int (0 : Int32)), (.ref a2)])) rfl rfl (hb hby d11_31)
  have f104 := V_a0.other W103 ne_a0_a2
  have Z105 : n0 ≤ h103.size := Nat.le_trans Z0 (Keep.of_wr W103).1
  have K106 : Keep h0 h103 [a2] := Keep.wr KC0 W103 (Or.inl (List.mem_of_getElem? (i := 0) rfl))
  have N107 := Fr.snoc X103 N0 g_a2
  have f108 : Arv Z h103 a2 kb .byte (1 : Int32) [(.int (nar .byte (u0.toInt8.toInt32)))] (.int (0 : Int32)) := Arv.set Ar103 q103 S103 N103 H103 G103 (fits_nar_byte _) W103 0 rfl (Nat.le_of_ble_eq_true rfl)
  obtain ⟨fs, hr, hrun, hended, hW, hsame⟩ := X103.leave (v := some (.int (1 : Int32))) (fun h => by rw [Bd.returns] at h; cases h)
  refine ⟨_, _, pre0 _ ?_, hrun, hended, _, _, rfl, ?_, ⟨_, rfl⟩, hW, hsame.mono (by decide) (by decide)⟩
  ·
    show Steps p.tables e below (s₁.setTop (mkF m 0 #[.val (.ref a0), .val (.int (0 : Int32)), .val (.ref a2), .val (.int (0 : Int32)), .val (.int (1 : Int32)), .unset, .unset] [])) _
    refine XS.iconst X0.here hx rfl (hb hby d11_0) ?_
    show Steps p.tables e below (s₁.setTop (mkF m 1 #[.val (.ref a0), .val (.int (0 : Int32)), .val (.ref a2), .val (.int (0 : Int32)), .val (.int (1 : Int32)), .unset, .unset] [(.int (0 : Int32))])) _
    refine XS.istore X0.here hx rfl (hb hby d11_1) rfl (l' := #[.val (.ref a0), .val (.int (0 : Int32)), .val (.ref a2), .val (.int (0 : Int32)), .val (.int (1 : Int32)), .val (.int (0 : Int32)), .unset]) rfl ?_
    show Steps p.tables e below (s₁.setTop (mkF m 3 #[.val (.ref a0), .val (.int (0 : Int32)), .val (.ref a2), .val (.int (0 : Int32)), .val (.int (1 : Int32)), .val (.int (0 : Int32)), .unset] [])) _
    refine XS.iload X0.here hx rfl (hb hby d11_3) rfl ?_
    show Steps p.tables e below (s₁.setTop (mkF m 5 #[.val (.ref a0), .val (.int (0 : Int32)), .val (.ref a2), .val (.int (0 : Int32)), .val (.int (1 : Int32)), .val (.int (0 : Int32)), .unset] [(.int (0 : Int32))])) _
    refine XS.iload X0.here hx rfl (hb hby d11_5) rfl ?_
    show Steps p.tables e below (s₁.setTop (mkF m 7 #[.val (.ref a0), .val (.int (0 : Int32)), .val (.ref a2), .val (.int (0 : Int32)), .val (.int (1 : Int32)), .val (.int (0 : Int32)), .unset] [(.int (1 : Int32)), (.int (0 : Int32))])) _
    refine XS.icmpNo X0.here hx rfl (hb hby d11_7) rfl (tlt (by decide)).2.1 ?_
    show Steps p.tables e below (s₁.setTop (mkF m 10 #[.val (.ref a0), .val (.int (0 : Int32)), .val (.ref a2), .val (.int (0 : Int32)), .val (.int (1 : Int32)), .val (.int (0 : Int32)), .unset] [])) _
    refine XS.aloadN X0.here hx rfl (hb hby d11_10) rfl rfl ?_
    show Steps p.tables e below (s₁.setTop (mkF m 11 #[.val (.ref a0), .val (.int (0 : Int32)), .val (.ref a2), .val (.int (0 : Int32)), .val (.int (1 : Int32)), .val (.int (0 : Int32)), .unset] [(.ref a0)])) _
    refine XS.iloadN X0.here hx rfl (hb hby d11_11) rfl ?_
    show Steps p.tables e below (s₁.setTop (mkF m 12 #[.val (.ref a0), .val (.int (0 : Int32)), .val (.ref a2), .val (.int (0 : Int32)), .val (.int (1 : Int32)), .val (.int (0 : Int32)), .unset] [(.int (0 : Int32)), (.ref a0)])) _
    refine X0.caload hx (j := (0 : Int32)) (v := (.int u0)) (by rw [e0]; exact Ar101.1) (State.isArrayOf_alike hZ.alike Ar101.2.1) Ar101.2.2 hin101 hat101 (g := (mkF m 12 #[.val (.ref a0), .val (.int (0 : Int32)), .val (.ref a2), .val (.int (0 : Int32)), .val (.int (1 : Int32)), .val (.int (0 : Int32)), .unset] [(.int (0 : Int32)), (.ref a0)])) rfl rfl (hb hby d11_12) _ ?_
    show Steps p.tables e below (s₁.setTop (mkF m 13 #[.val (.ref a0), .val (.int (0 : Int32)), .val (.ref a2), .val (.int (0 : Int32)), .val (.int (1 : Int32)), .val (.int (0 : Int32)), .unset] [(.int u0)])) _
    refine XS.istore X0.here hx rfl (hb hby d11_13) rfl (l' := #[.val (.ref a0), .val (.int (0 : Int32)), .val (.ref a2), .val (.int (0 : Int32)), .val (.int (1 : Int32)), .val (.int (0 : Int32)), .val (.int u0)]) rfl ?_
    show Steps p.tables e below (s₁.setTop (mkF m 15 #[.val (.ref a0), .val (.int (0 : Int32)), .val (.ref a2), .val (.int (0 : Int32)), .val (.int (1 : Int32)), .val (.int (0 : Int32)), .val (.int u0)] [])) _
    refine XS.iload X0.here hx rfl (hb hby d11_15) rfl ?_
    show Steps p.tables e below (s₁.setTop (mkF m 17 #[.val (.ref a0), .val (.int (0 : Int32)), .val (.ref a2), .val (.int (0 : Int32)), .val (.int (1 : Int32)), .val (.int (0 : Int32)), .val (.int u0)] [(.int u0)])) _
    refine XS.sipush X0.here hx rfl (hb hby d11_17) ?_
    show Steps p.tables e below (s₁.setTop (mkF m 20 #[.val (.ref a0), .val (.int (0 : Int32)), .val (.ref a2), .val (.int (0 : Int32)), .val (.int (1 : Int32)), .val (.int (0 : Int32)), .val (.int u0)] [(.int (255 : Int32)), (.int u0)])) _
    refine XS.icmpYes X0.here hx rfl (pc0 := 20) (pc' := 26) rfl (hb hby d11_20) rfl (flt c102).2.2.2 (by decide) (by decide) ?_
    show Steps p.tables e below (s₁.setTop (mkF m 26 #[.val (.ref a0), .val (.int (0 : Int32)), .val (.ref a2), .val (.int (0 : Int32)), .val (.int (1 : Int32)), .val (.int (0 : Int32)), .val (.int u0)] [])) _
    refine XS.aloadN X0.here hx rfl (hb hby d11_26) rfl rfl ?_
    show Steps p.tables e below (s₁.setTop (mkF m 27 #[.val (.ref a0), .val (.int (0 : Int32)), .val (.ref a2), .val (.int (0 : Int32)), .val (.int (1 : Int32)), .val (.int (0 : Int32)), .val (.int u0)] [(.ref a2)])) _
    refine XS.iloadN X0.here hx rfl (hb hby d11_27) rfl ?_
    show Steps p.tables e below (s₁.setTop (mkF m 28 #[.val (.ref a0), .val (.int (0 : Int32)), .val (.ref a2), .val (.int (0 : Int32)), .val (.int (1 : Int32)), .val (.int (0 : Int32)), .val (.int u0)] [(.int (0 : Int32)), (.ref a2)])) _
    refine XS.iload X0.here hx rfl (hb hby d11_28) rfl ?_
    show Steps p.tables e below (s₁.setTop (mkF m 30 #[.val (.ref a0), .val (.int (0 : Int32)), .val (.ref a2), .val (.int (0 : Int32)), .val (.int (1 : Int32)), .val (.int (0 : Int32)), .val (.int u0)] [(.int u0), (.int (0 : Int32)), (.ref a2)])) _
    refine XS.i2b X0.here hx rfl (hb hby d11_30) rfl ?_
    show Steps p.tables e below (s₁.setTop (mkF m 31 #[.val (.ref a0), .val (.int (0 : Int32)), .val (.ref a2), .val (.int (0 : Int32)), .val (.int (1 : Int32)), .val (.int (0 : Int32)), .val (.int u0)] [(.int (u0.toInt8.toInt32)), (.int (0 : Int32)), (.ref a2)])) _
    refine st103 _ ?_
    show Steps p.tables e below (T103.setTop (mkF m 32 #[.val (.ref a0), .val (.int (0 : Int32)), .val (.ref a2), .val (.int (0 : Int32)), .val (.int (1 : Int32)), .val (.int (0 : Int32)), .val (.int u0)] [])) _
    refine XS.iinc X103.here hx rfl (hb hby d11_32) rfl (l' := #[.val (.ref a0), .val (.int (1 : Int32)), .val (.ref a2), .val (.int (0 : Int32)), .val (.int (1 : Int32)), .val (.int (0 : Int32)), .val (.int u0)]) rfl ?_
    show Steps p.tables e below (T103.setTop (mkF m 35 #[.val (.ref a0), .val (.int (1 : Int32)), .val (.ref a2), .val (.int (0 : Int32)), .val (.int (1 : Int32)), .val (.int (0 : Int32)), .val (.int u0)] [])) _
    refine XS.iinc X103.here hx rfl (hb hby d11_35) rfl (l' := #[.val (.ref a0), .val (.int (1 : Int32)), .val (.ref a2), .val (.int (1 : Int32)), .val (.int (1 : Int32)), .val (.int (0 : Int32)), .val (.int u0)]) rfl ?_
    show Steps p.tables e below (T103.setTop (mkF m 38 #[.val (.ref a0), .val (.int (1 : Int32)), .val (.ref a2), .val (.int (1 : Int32)), .val (.int (1 : Int32)), .val (.int (0 : Int32)), .val (.int u0)] [])) _
    refine XS.iinc X103.here hx rfl (hb hby d11_38) rfl (l' := #[.val (.ref a0), .val (.int (1 : Int32)), .val (.ref a2), .val (.int (1 : Int32)), .val (.int (1 : Int32)), .val (.int (1 : Int32)), .val (.int u0)]) rfl ?_
    show Steps p.tables e below (T103.setTop (mkF m 41 #[.val (.ref a0), .val (.int (1 : Int32)), .val (.ref a2), .val (.int (1 : Int32)), .val (.int (1 : Int32)), .val (.int (1 : Int32)), .val (.int u0)] [])) _
    refine XS.goto X103.here hx rfl (pc0 := 41) (pc' := 3) rfl (hb hby d11_41) (by decide) (by decide) ?_
    show Steps p.tables e below (T103.setTop (mkF m 3 #[.val (.ref a0), .val (.int (1 : Int32)), .val (.ref a2), .val (.int (1 : Int32)), .val (.int (1 : Int32)), .val (.int (1 : Int32)), .val (.int u0)] [])) _
    refine XS.iload X103.here hx rfl (hb hby d11_3) rfl ?_
    show Steps p.tables e below (T103.setTop (mkF m 5 #[.val (.ref a0), .val (.int (1 : Int32)), .val (.ref a2), .val (.int (1 : Int32)), .val (.int (1 : Int32)), .val (.int (1 : Int32)), .val (.int u0)] [(.int (1 : Int32))])) _
    refine XS.iload X103.here hx rfl (hb hby d11_5) rfl ?_
    show Steps p.tables e below (T103.setTop (mkF m 7 #[.val (.ref a0), .val (.int (1 : Int32)), .val (.ref a2), .val (.int (1 : Int32)), .val (.int (1 : Int32)), .val (.int (1 : Int32)), .val (.int u0)] [(.int (1 : Int32)), (.int (1 : Int32))])) _
    refine XS.icmpYes X103.here hx rfl (pc0 := 7) (pc' := 44) rfl (hb hby d11_7) rfl (flt (by decide)).2.1 (by decide) (by decide) ?_
    show Steps p.tables e below (T103.setTop (mkF m 44 #[.val (.ref a0), .val (.int (1 : Int32)), .val (.ref a2), .val (.int (1 : Int32)), .val (.int (1 : Int32)), .val (.int (1 : Int32)), .val (.int u0)] [])) _
    refine XS.iload X103.here hx rfl (hb hby d11_44) rfl ?_
    show Steps p.tables e below (T103.setTop (mkF m 46 #[.val (.ref a0), .val (.int (1 : Int32)), .val (.ref a2), .val (.int (1 : Int32)), .val (.int (1 : Int32)), .val (.int (1 : Int32)), .val (.int u0)] [(.int (1 : Int32))])) _
    exact retI X103 hx Bd.returns (hb hby d11_46) hr
  ·
    show Q_c5_1 Z a0 a2 kc kb u0 h0 n0 _ T103.heap _
    rw [e103]
    exact ⟨rfl, N107, K106, f108⟩
theorem d10_0 : decode jdk_52_method_16_code 0 = .ok (.iload_n 2, 1) := by decide +kernel
theorem d10_1 : decode jdk_52_method_16_code 1 = .ok (.newarray .byte, 2) := by decide +kernel
theorem d10_3 : decode jdk_52_method_16_code 3 = .ok (.astore_n 3, 1) := by decide +kernel
theorem d10_4 : decode jdk_52_method_16_code 4 = .ok (.aload_n 0, 1) := by decide +kernel
theorem d10_5 : decode jdk_52_method_16_code 5 = .ok (.iload_n 1, 1) := by decide +kernel
theorem d10_6 : decode jdk_52_method_16_code 6 = .ok (.aload_n 3, 1) := by decide +kernel
theorem d10_7 : decode jdk_52_method_16_code 7 = .ok (.iconst 0, 1) := by decide +kernel
theorem d10_8 : decode jdk_52_method_16_code 8 = .ok (.iload_n 2, 1) := by decide +kernel
theorem pd_0 : parseMethodDescriptor "([CI[BII)I" = some ⟨[(.array .char), .int, (.array .byte), .int, .int], some .int⟩ := by decide +kernel
theorem d10_9 : decode jdk_52_method_16_code 9 = .ok (.invokestatic 115, 3) := by decide +kernel
theorem d10_12 : decode jdk_52_method_16_code 12 = .ok (.istore 4, 2) := by decide +kernel
theorem d10_14 : decode jdk_52_method_16_code 14 = .ok (.iload 4, 2) := by decide +kernel
theorem d10_16 : decode jdk_52_method_16_code 16 = .ok (.iload_n 2, 1) := by decide +kernel
theorem d10_17 : decode jdk_52_method_16_code 17 = .ok (.if_icmp .eq 40, 3) := by decide +kernel
theorem d10_57 : decode jdk_52_method_16_code 57 = .ok (.aload_n 3, 1) := by decide +kernel
theorem d10_58 : decode jdk_52_method_16_code 58 = .ok (.areturn, 1) := by decide +kernel
theorem ef_c3_1 (m : MethodId) (a0 : Addr) : entryFrame m #[(.ref a0), (.int (0 : Int32)), (.int (1 : Int32))] 6 = mkF m 0 #[.val (.ref a0), .val (.int (0 : Int32)), .val (.int (1 : Int32)), .unset, .unset, .unset] [] := by first | (simp [entryFrame, mkF, argsToLocals, Value.category]; done) | rfl
def Q_c3_1 (Z : State) (a0 : Addr) (kc : ClassId) (u0 : Int32) (h0 : Heap) (n0 : Nat) (v : Option Value) (h : Heap) (L : List Loc) : Prop := ∃ b : Addr, ∃ kb : ClassId, v = some (.ref b) ∧ Fr n0 L ∧ Keep h0 h [] ∧ h0.size ≤ b ∧ Arv Z h b kb .byte (1 : Int32) [(.int (nar .byte (u0.toInt8.toInt32)))] (.int (0 : Int32))
set_option maxRecDepth 65536 in
set_option maxHeartbeats 40000000 in
theorem c3_1 (l : Launch) (Z : State) (aw : Array Value) (hw : ∀ d ∈ tables_1, d.before aw Z = true) (ws : List Jvm.Cond) (a0 : Addr) (kc : ClassId) (u0 : Int32) (h0 : Heap) (n0 : Nat) (Z0 : n0 ≤ h0.size) (V_a0 : Arv Z h0 a0 kc .char (1 : Int32) [(.int u0)] (.int (0 : Int32))) (hu0 : ¬ ((255 : Int32) < u0)) :
    MetFree l (⟨"java/lang/StringUTF16", "compress", "([CII)[B"⟩ : MethodName) (head1 (Jvm.Cond.code (⟨"java/lang/StringUTF16", "compress", "([CII)[B"⟩ : MethodName) jdk_52_method_16_code 6 (some (.array .byte)) :: ws) ({ frames := 1, cells := 1, slots := 1, locals := 18 } : Room)) (fun a U => a = #[(.ref a0), (.int (0 : Int32)), (.int (1 : Int32))] ∧ Z.Warmed39 U.vm ∧ U.heap = h0) (fun _ _ _ _ _ => True) (fun _ U o U' => ∃ v L, o = .returned v ∧ Q_c3_1 Z a0 kc u0 h0 n0 v U'.heap L ∧ FrameEnd U o U' L ({ frames := 1, cells := 1, slots := 1, locals := 18 } : Room).cells ({ frames := 1, cells := 1, slots := 1, locals := 18 } : Room).slots) := by
  refine MetFree.of_bodySF (plainFor_of_name pn_0) hisR ?_
  intro p e s m args below meth c s₁ Bd hml0 hP hK
  obtain ⟨rfl, hZ, hh⟩ := hP
  have hx := Bd.exec
  have hby := Bd.bytes
  have hml : c.maxLocals = 6 := hml0
  have hown : s.vm.findClass "java/lang/StringUTF16" = some m.cls := findClass_of_methodNamed Bd.named
  have hnm := (name_of_methodNamed Bd.named Bd.method).1
  have X0 : Stand p l e ({ frames := 1, cells := 1, slots := 1, locals := 18 } : Room) s m #[(.ref a0), (.int (0 : Int32)), (.int (1 : Int32))] below meth c s₁ [] 0 0 := Stand.of_body Bd
  have e0 : s₁.heap = h0 := by rw [← hh, Bd.state]; rfl
  have N0 := Fr.nil n0
  have pre0 : ∀ t, Steps p.tables e below (s₁.setTop (mkF m 0 #[.val (.ref a0), .val (.int (0 : Int32)), .val (.int (1 : Int32)), .unset, .unset, .unset] [])) t → Steps p.tables e below (s₁.setTop (entryFrame m #[(.ref a0), (.int (0 : Int32)), (.int (1 : Int32))] 6)) t := fun t k => castTop (ef_c3_1 m a0) k
  have KC0 : Keep h0 h0 [] := Keep.refl h0 []
  obtain ⟨T109, h109, k109, X109, e109, E109, A109, kc109, st109⟩ := newPk X0 hx hZ (hw _ (List.mem_of_getElem? (i := 19) rfl)) e0 (g := (mkF m 1 #[.val (.ref a0), .val (.int (0 : Int32)), .val (.int (1 : Int32)), .unset, .unset, .unset] [(.int (1 : Int32))])) rfl (hb hby d10_1) rfl (by decide) (cap := 1) (by decide) (by decide) (by decide) (by decide)
  obtain ⟨b109, g109⟩ : ∃ z_, z_ = h0.size := ⟨_, rfl⟩
  rw [← g109] at A109 st109
  have ne110 : a0 ≠ b109 := Nat.ne_of_lt (Nat.lt_of_lt_of_le V_a0.lt (Nat.le_of_eq g109.symm))
  have gn111 : n0 ≤ b109 := Nat.le_trans Z0 (Nat.le_of_eq g109.symm)
  have sz112 : h0.size ≤ b109 := Nat.le_trans KC0.1 (Nat.le_of_eq g109.symm)
  have f113 := V_a0.ext E109
  have Z114 : n0 ≤ h109.size := Nat.le_trans Z0 E109.1
  have K115 : Keep h0 h109 [] := Keep.ext KC0 E109
  have f116 : Arv Z h109 b109 k109 .byte (1 : Int32) [(.int (0 : Int32))] (.int (0 : Int32)) := (Arv.new A109 (by decide)).pad (pad_rep [] (.int (0 : Int32)) 1)
  obtain ⟨_, _, ⟨T117, L117, k117, n117⟩, -, X117, ⟨Lc117, hQ117, l117, y117, z117⟩, st117⟩ := Jvm.LawKit.callS X109 hx (y := (⟨"java/lang/StringUTF16", "compress", "([CI[BII)I"⟩ : MethodName)) hown (mvT hZ (hw _ (List.mem_of_getElem? (i := 59) rfl))) (mvT hZ (hw _ (List.mem_of_getElem? (i := 60) rfl))) (mvT hZ (hw _ (List.mem_of_getElem? (i := 57) rfl))) (mvT hZ (hw _ (List.mem_of_getElem? (i := 61) rfl))) (by decide) (backOf (W := 0) (c5_1 l Z aw hw [] a0 b109 kc k109 u0 h109 n0 Z114 f113 f116 ne110 gn111 hu0) hZ (hw _ (List.mem_of_getElem? (i := 61) rfl)) (hw _ (List.mem_of_getElem? (i := 57) rfl)) (by decide) (by decide)) (g := (mkF m 9 #[.val (.ref a0), .val (.int (0 : Int32)), .val (.int (1 : Int32)), .val (.ref b109), .unset, .unset] [(.int (1 : Int32)), (.int (0 : Int32)), (.ref b109), (.int (0 : Int32)), (.ref a0)])) rfl (by rw [hml]; rfl) (argsL := [(.ref a0), (.int (0 : Int32)), (.ref b109), (.int (0 : Int32)), (.int (1 : Int32))]) (rest := []) (lenOf pd_0 rfl) rfl (by show 2 * 0 + _ ≤ _; exact Nat.le_of_eq rfl) (hb hby d10_9) (fun _ _ => ⟨rfl, e109, (by decide : 1 + 0 ≤ _), (by decide : 1 + 0 ≤ _)⟩)
  dsimp only [Pt.U, Pt.locs, Pt.cells, Pt.slots] at X117 l117 y117 z117 st117 hQ117
  replace l117 := l117.symm; replace y117 := y117.symm; replace z117 := z117.symm; subst l117 y117 z117
  obtain ⟨rfl, N117q, K117, f118⟩ := hQ117
  have N117 := Fr.app N0 N117q
  have f119 := f113.keep K117 (ninS ne110 nin0)
  have Z120 : n0 ≤ T117.heap.size := Nat.le_trans Z114 K117.1
  have K121 : Keep h0 T117.heap [] := Keep.trans K115 K117 (allS (Or.inr sz112) all0)
  obtain ⟨fs, hr, hrun, hended, hW, hsame⟩ := X117.leave (v := some (.ref b109)) (fun h => by rw [Bd.returns] at h; cases h)
  refine ⟨_, _, pre0 _ ?_, hrun, hended, _, _, rfl, ?_, ⟨_, rfl⟩, hW, hsame.mono (by decide) (by decide)⟩
  ·
    show Steps p.tables e below (s₁.setTop (mkF m 0 #[.val (.ref a0), .val (.int (0 : Int32)), .val (.int (1 : Int32)), .unset, .unset, .unset] [])) _
    refine XS.iloadN X0.here hx rfl (hb hby d10_0) rfl ?_
    show Steps p.tables e below (s₁.setTop (mkF m 1 #[.val (.ref a0), .val (.int (0 : Int32)), .val (.int (1 : Int32)), .unset, .unset, .unset] [(.int (1 : Int32))])) _
    refine st109 _ ?_
    show Steps p.tables e below (T109.setTop (mkF m 3 #[.val (.ref a0), .val (.int (0 : Int32)), .val (.int (1 : Int32)), .unset, .unset, .unset] [(.ref b109)])) _
    refine XS.astoreN X109.here hx rfl (hb hby d10_3) rfl rfl (l' := #[.val (.ref a0), .val (.int (0 : Int32)), .val (.int (1 : Int32)), .val (.ref b109), .unset, .unset]) rfl ?_
    show Steps p.tables e below (T109.setTop (mkF m 4 #[.val (.ref a0), .val (.int (0 : Int32)), .val (.int (1 : Int32)), .val (.ref b109), .unset, .unset] [])) _
    refine XS.aloadN X109.here hx rfl (hb hby d10_4) rfl rfl ?_
    show Steps p.tables e below (T109.setTop (mkF m 5 #[.val (.ref a0), .val (.int (0 : Int32)), .val (.int (1 : Int32)), .val (.ref b109), .unset, .unset] [(.ref a0)])) _
    refine XS.iloadN X109.here hx rfl (hb hby d10_5) rfl ?_
    show Steps p.tables e below (T109.setTop (mkF m 6 #[.val (.ref a0), .val (.int (0 : Int32)), .val (.int (1 : Int32)), .val (.ref b109), .unset, .unset] [(.int (0 : Int32)), (.ref a0)])) _
    refine XS.aloadN X109.here hx rfl (hb hby d10_6) rfl rfl ?_
    show Steps p.tables e below (T109.setTop (mkF m 7 #[.val (.ref a0), .val (.int (0 : Int32)), .val (.int (1 : Int32)), .val (.ref b109), .unset, .unset] [(.ref b109), (.int (0 : Int32)), (.ref a0)])) _
    refine XS.iconst X109.here hx rfl (hb hby d10_7) ?_
    show Steps p.tables e below (T109.setTop (mkF m 8 #[.val (.ref a0), .val (.int (0 : Int32)), .val (.int (1 : Int32)), .val (.ref b109), .unset, .unset] [(.int (0 : Int32)), (.ref b109), (.int (0 : Int32)), (.ref a0)])) _
    refine XS.iloadN X109.here hx rfl (hb hby d10_8) rfl ?_
    show Steps p.tables e below (T109.setTop (mkF m 9 #[.val (.ref a0), .val (.int (0 : Int32)), .val (.int (1 : Int32)), .val (.ref b109), .unset, .unset] [(.int (1 : Int32)), (.int (0 : Int32)), (.ref b109), (.int (0 : Int32)), (.ref a0)])) _
    refine st117 _ ?_
    show Steps p.tables e below (T117.setTop (mkF m 12 #[.val (.ref a0), .val (.int (0 : Int32)), .val (.int (1 : Int32)), .val (.ref b109), .unset, .unset] [(.int (1 : Int32))])) _
    refine XS.istore X117.here hx rfl (hb hby d10_12) rfl (l' := #[.val (.ref a0), .val (.int (0 : Int32)), .val (.int (1 : Int32)), .val (.ref b109), .val (.int (1 : Int32)), .unset]) rfl ?_
    show Steps p.tables e below (T117.setTop (mkF m 14 #[.val (.ref a0), .val (.int (0 : Int32)), .val (.int (1 : Int32)), .val (.ref b109), .val (.int (1 : Int32)), .unset] [])) _
    refine XS.iload X117.here hx rfl (hb hby d10_14) rfl ?_
    show Steps p.tables e below (T117.setTop (mkF m 16 #[.val (.ref a0), .val (.int (0 : Int32)), .val (.int (1 : Int32)), .val (.ref b109), .val (.int (1 : Int32)), .unset] [(.int (1 : Int32))])) _
    refine XS.iloadN X117.here hx rfl (hb hby d10_16) rfl ?_
    show Steps p.tables e below (T117.setTop (mkF m 17 #[.val (.ref a0), .val (.int (0 : Int32)), .val (.int (1 : Int32)), .val (.ref b109), .val (.int (1 : Int32)), .unset] [(.int (1 : Int32)), (.int (1 : Int32))])) _
    refine XS.icmpYes X117.here hx rfl (pc0 := 17) (pc' := 57) rfl (hb hby d10_17) rfl (teq rfl).1 (by decide) (by decide) ?_
    show Steps p.tables e below (T117.setTop (mkF m 57 #[.val (.ref a0), .val (.int (0 : Int32)), .val (.int (1 : Int32)), .val (.ref b109), .val (.int (1 : Int32)), .unset] [])) _
    refine XS.aloadN X117.here hx rfl (hb hby d10_57) rfl rfl ?_
    show Steps p.tables e below (T117.setTop (mkF m 58 #[.val (.ref a0), .val (.int (0 : Int32)), .val (.int (1 : Int32)), .val (.ref b109), .val (.int (1 : Int32)), .unset] [(.ref b109)])) _
    exact retA X117 hx rfl rfl Bd.returns (hb hby d10_58) hr
  ·
    show Q_c3_1 Z a0 kc u0 h0 n0 _ T117.heap _
    exact ⟨b109, k109, rfl, N117, K121, sz112, f118⟩
theorem d12_0 : decode jdk_52_method_15_code 0 = .ok (.iload_n 1, 1) := by decide +kernel
theorem d12_1 : decode jdk_52_method_15_code 1 = .ok (.aload_n 0, 1) := by decide +kernel
theorem d12_2 : decode jdk_52_method_15_code 2 = .ok (.arraylength, 1) := by decide +kernel
theorem d12_3 : decode jdk_52_method_15_code 3 = .ok (.isub, 1) := by decide +kernel
theorem d12_4 : decode jdk_52_method_15_code 4 = .ok (.bipush 31, 2) := by decide +kernel
theorem d12_6 : decode jdk_52_method_15_code 6 = .ok (.iushr, 1) := by decide +kernel
theorem d12_7 : decode jdk_52_method_15_code 7 = .ok (.i2b, 1) := by decide +kernel
theorem d12_8 : decode jdk_52_method_15_code 8 = .ok (.ireturn, 1) := by decide +kernel
theorem ef_cf_1 (m : MethodId) (a0 : Addr) : entryFrame m #[(.ref a0), (.int (1 : Int32))] 2 = mkF m 0 #[.val (.ref a0), .val (.int (1 : Int32))] [] := by first | (simp [entryFrame, mkF, argsToLocals, Value.category]; done) | rfl
def Q_cf_1 (Z : State) (a0 : Addr) (k1 : ClassId) (vs : List Value) (h0 : Heap) (n0 : Nat) (v : Option Value) (h : Heap) (L : List Loc) : Prop := v = some (.int (0 : Int32)) ∧ Fr n0 L ∧ h = h0
set_option maxRecDepth 65536 in
set_option maxHeartbeats 40000000 in
theorem cf_1 (l : Launch) (Z : State) (aw : Array Value) (hw : ∀ d ∈ tables_1, d.before aw Z = true) (ws : List Jvm.Cond) (a0 : Addr) (k1 : ClassId) (vs : List Value) (h0 : Heap) (n0 : Nat) (Z0 : n0 ≤ h0.size) (V_a0 : Arv Z h0 a0 k1 .byte (1 : Int32) vs (.int (0 : Int32))) :
    MetFree l (⟨"java/lang/StringUTF16", "coderFromArrayLen", "([BI)B"⟩ : MethodName) (head1 (Jvm.Cond.code (⟨"java/lang/StringUTF16", "coderFromArrayLen", "([BI)B"⟩ : MethodName) jdk_52_method_15_code 2 (some .byte) :: ws) ({ frames := 0, cells := 0, slots := 0, locals := 0 } : Room)) (fun a U => a = #[(.ref a0), (.int (1 : Int32))] ∧ Z.Warmed39 U.vm ∧ U.heap = h0) (fun _ _ _ _ _ => True) (fun _ U o U' => ∃ v L, o = .returned v ∧ Q_cf_1 Z a0 k1 vs h0 n0 v U'.heap L ∧ FrameEnd U o U' L ({ frames := 0, cells := 0, slots := 0, locals := 0 } : Room).cells ({ frames := 0, cells := 0, slots := 0, locals := 0 } : Room).slots) := by
  refine MetFree.of_bodySF (plainFor_of_name pn_0) hisR ?_
  intro p e s m args below meth c s₁ Bd hml0 hP hK
  obtain ⟨rfl, hZ, hh⟩ := hP
  have hx := Bd.exec
  have hby := Bd.bytes
  have hml : c.maxLocals = 2 := hml0
  have hown : s.vm.findClass "java/lang/StringUTF16" = some m.cls := findClass_of_methodNamed Bd.named
  have hnm := (name_of_methodNamed Bd.named Bd.method).1
  have X0 : Stand p l e ({ frames := 0, cells := 0, slots := 0, locals := 0 } : Room) s m #[(.ref a0), (.int (1 : Int32))] below meth c s₁ [] 0 0 := Stand.of_body Bd
  have e0 : s₁.heap = h0 := by rw [← hh, Bd.state]; rfl
  have N0 := Fr.nil n0
  have pre0 : ∀ t, Steps p.tables e below (s₁.setTop (mkF m 0 #[.val (.ref a0), .val (.int (1 : Int32))] [])) t → Steps p.tables e below (s₁.setTop (entryFrame m #[(.ref a0), (.int (1 : Int32))] 2)) t := fun t k => castTop (ef_cf_1 m a0) k
  obtain ⟨cl122, Ar122, q122, S122, N122, H122, G122⟩ := id V_a0
  obtain ⟨fs, hr, hrun, hended, hW, hsame⟩ := X0.leave (v := some (.int (0 : Int32))) (fun h => by rw [Bd.returns] at h; cases h)
  refine ⟨_, _, pre0 _ ?_, hrun, hended, _, _, rfl, ?_, ⟨_, rfl⟩, hW, hsame.mono (by decide) (by decide)⟩
  ·
    show Steps p.tables e below (s₁.setTop (mkF m 0 #[.val (.ref a0), .val (.int (1 : Int32))] [])) _
    refine XS.iloadN X0.here hx rfl (hb hby d12_0) rfl ?_
    show Steps p.tables e below (s₁.setTop (mkF m 1 #[.val (.ref a0), .val (.int (1 : Int32))] [(.int (1 : Int32))])) _
    refine XS.aloadN X0.here hx rfl (hb hby d12_1) rfl rfl ?_
    show Steps p.tables e below (s₁.setTop (mkF m 2 #[.val (.ref a0), .val (.int (1 : Int32))] [(.ref a0), (.int (1 : Int32))])) _
    refine X0.arraylength hx (by rw [e0]; exact Ar122.1) (State.isArrayOf_alike hZ.alike Ar122.2.1) (g := (mkF m 2 #[.val (.ref a0), .val (.int (1 : Int32))] [(.ref a0), (.int (1 : Int32))])) rfl rfl (hb hby d12_2) _ ?_
    rw [len_of S122 N122]
    show Steps p.tables e below (s₁.setTop (mkF m 3 #[.val (.ref a0), .val (.int (1 : Int32))] [(.int (1 : Int32)), (.int (1 : Int32))])) _
    refine XS.isub X0.here hx rfl (hb hby d12_3) rfl ?_
    show Steps p.tables e below (s₁.setTop (mkF m 4 #[.val (.ref a0), .val (.int (1 : Int32))] [(.int (0 : Int32))])) _
    refine XS.bipush X0.here hx rfl (hb hby d12_4) ?_
    show Steps p.tables e below (s₁.setTop (mkF m 6 #[.val (.ref a0), .val (.int (1 : Int32))] [(.int (31 : Int32)), (.int (0 : Int32))])) _
    refine XS.iushr X0.here hx rfl (hb hby d12_6) rfl ?_
    show Steps p.tables e below (s₁.setTop (mkF m 7 #[.val (.ref a0), .val (.int (1 : Int32))] [(.int (0 : Int32))])) _
    refine XS.i2b X0.here hx rfl (hb hby d12_7) rfl ?_
    show Steps p.tables e below (s₁.setTop (mkF m 8 #[.val (.ref a0), .val (.int (1 : Int32))] [(.int (0 : Int32))])) _
    exact retN X0 hx (t := .byte) Bd.returns (by simp) (hb hby d12_8) hr
  ·
    show Q_cf_1 Z a0 k1 vs h0 n0 _ s₁.heap _
    rw [e0]
    exact ⟨rfl, N0, rfl⟩
theorem d3_0 : decode jdk_42_method_149_code 0 = .ok (.aload_n 0, 1) := by decide +kernel
theorem d3_1 : decode jdk_42_method_149_code 1 = .ok (.invokespecial 1, 3) := by decide +kernel
theorem d3_4 : decode jdk_42_method_149_code 4 = .ok (.iload_n 3, 1) := by decide +kernel
theorem d3_5 : decode jdk_42_method_149_code 5 = .ok (.ifCond .ne 22, 3) := by decide +kernel
theorem d3_27 : decode jdk_42_method_149_code 27 = .ok (.getstatic 38, 3) := by decide +kernel
theorem d3_30 : decode jdk_42_method_149_code 30 = .ok (.ifCond .eq 28, 3) := by decide +kernel
theorem d3_33 : decode jdk_42_method_149_code 33 = .ok (.aload_n 1, 1) := by decide +kernel
theorem d3_34 : decode jdk_42_method_149_code 34 = .ok (.iload_n 2, 1) := by decide +kernel
theorem d3_35 : decode jdk_42_method_149_code 35 = .ok (.iload_n 3, 1) := by decide +kernel
theorem pd_1 : parseMethodDescriptor "([CII)[B" = some ⟨[(.array .char), .int, .int], some (.array .byte)⟩ := by decide +kernel
theorem d3_36 : decode jdk_42_method_149_code 36 = .ok (.invokestatic 177, 3) := by decide +kernel
theorem d3_39 : decode jdk_42_method_149_code 39 = .ok (.astore 5, 2) := by decide +kernel
theorem d3_41 : decode jdk_42_method_149_code 41 = .ok (.aload_n 0, 1) := by decide +kernel
theorem d3_42 : decode jdk_42_method_149_code 42 = .ok (.aload 5, 2) := by decide +kernel
theorem d3_44 : decode jdk_42_method_149_code 44 = .ok (.iload_n 3, 1) := by decide +kernel
theorem pd_2 : parseMethodDescriptor "([BI)B" = some ⟨[(.array .byte), .int], some .byte⟩ := by decide +kernel
theorem d3_45 : decode jdk_42_method_149_code 45 = .ok (.invokestatic 47, 3) := by decide +kernel
theorem d3_48 : decode jdk_42_method_149_code 48 = .ok (.putfield 15, 3) := by decide +kernel
theorem d3_51 : decode jdk_42_method_149_code 51 = .ok (.aload_n 0, 1) := by decide +kernel
theorem d3_52 : decode jdk_42_method_149_code 52 = .ok (.aload 5, 2) := by decide +kernel
theorem d3_54 : decode jdk_42_method_149_code 54 = .ok (.putfield 9, 3) := by decide +kernel
theorem d3_57 : decode jdk_42_method_149_code 57 = .ok (.return_, 1) := by decide +kernel
theorem pn_1 : plainName "java/lang/String" = true := by first | (simp [plainName, overriddenIn]; done) | decide +kernel
theorem ef_i4_1 (m : MethodId) (a0 : Addr) (a1 : Addr) : entryFrame m #[(.ref a0), (.ref a1), (.int (0 : Int32)), (.int (1 : Int32)), .null] 6 = mkF m 0 #[.val (.ref a0), .val (.ref a1), .val (.int (0 : Int32)), .val (.int (1 : Int32)), .val .null, .unset] [] := by first | (simp [entryFrame, mkF, argsToLocals, Value.category]; done) | rfl
def Q_i4_1 (Z : State) (a0 : Addr) (a1 : Addr) (kc : ClassId) (u0 : Int32) (zc : Int32) (h0 : Heap) (n0 : Nat) (v : Option Value) (h : Heap) (L : List Loc) : Prop := ∃ t : Addr, ∃ kb : ClassId, ∃ w0 : Int32, v = none ∧ Fr n0 L ∧ Keep h0 h [a0] ∧ Exa Z h a0 "java/lang/String" ∧ Fld Z h a0 "java/lang/String" "coder" "B" (.int (0 : Int32)) ∧ Fld Z h a0 "java/lang/String" "value" "[B" (.ref t) ∧ Arv Z h t kb .byte (1 : Int32) [(.int w0)] (.int (0 : Int32)) ∧ -128 ≤ w0.toInt ∧ w0.toInt < 128
set_option maxRecDepth 65536 in
set_option maxHeartbeats 40000000 in
theorem i4_1 (l : Launch) (Z : State) (aw : Array Value) (hw : ∀ d ∈ tables_1, d.before aw Z = true) (ws : List Jvm.Cond) (a0 : Addr) (a1 : Addr) (kc : ClassId) (u0 : Int32) (zc : Int32) (h0 : Heap) (n0 : Nat) (Z0 : n0 ≤ h0.size) (E_a0 : Exa Z h0 a0 "java/lang/String") (F_a0_value : Fld Z h0 a0 "java/lang/String" "value" "[B" .null) (F_a0_coder : Fld Z h0 a0 "java/lang/String" "coder" "B" (.int (0 : Int32))) (g_a0 : n0 ≤ a0) (V_a1 : Arv Z h0 a1 kc .char (1 : Int32) [(.int u0)] (.int (0 : Int32))) (ne_a0_a1 : a0 ≠ a1) (OLD : Old Z n0 h0) (O_COMPACT_STRINGS : Sta Z Z.heap "java/lang/String" "COMPACT_STRINGS" "Z" (.int zc)) (hzc : ¬ (zc = (0 : Int32))) (hu0 : ¬ ((255 : Int32) < u0)) :
    MetFree l (⟨"java/lang/String", "<init>", "([CIILjava/lang/Void;)V"⟩ : MethodName) (head1 (Jvm.Cond.code (⟨"java/lang/String", "<init>", "([CIILjava/lang/Void;)V"⟩ : MethodName) jdk_42_method_149_code 6 none :: ws) ({ frames := 2, cells := 1, slots := 1, locals := 35 } : Room)) (fun a U => a = #[(.ref a0), (.ref a1), (.int (0 : Int32)), (.int (1 : Int32)), .null] ∧ Z.Warmed39 U.vm ∧ U.heap = h0) (fun _ _ _ _ _ => True) (fun _ U o U' => ∃ v L, o = .returned v ∧ Q_i4_1 Z a0 a1 kc u0 zc h0 n0 v U'.heap L ∧ FrameEnd U o U' L ({ frames := 2, cells := 1, slots := 1, locals := 35 } : Room).cells ({ frames := 2, cells := 1, slots := 1, locals := 35 } : Room).slots) := by
  refine MetFree.of_bodySF (plainFor_of_name pn_1) hisR ?_
  intro p e s m args below meth c s₁ Bd hml0 hP hK
  obtain ⟨rfl, hZ, hh⟩ := hP
  have hx := Bd.exec
  have hby := Bd.bytes
  have hml : c.maxLocals = 6 := hml0
  have hown : s.vm.findClass "java/lang/String" = some m.cls := findClass_of_methodNamed Bd.named
  have hnm := (name_of_methodNamed Bd.named Bd.method).1
  have X0 : Stand p l e ({ frames := 2, cells := 1, slots := 1, locals := 35 } : Room) s m #[(.ref a0), (.ref a1), (.int (0 : Int32)), (.int (1 : Int32)), .null] below meth c s₁ [] 0 0 := Stand.of_body Bd
  have e0 : s₁.heap = h0 := by rw [← hh, Bd.state]; rfl
  have N0 := Fr.nil n0
  have pre0 : ∀ t, Steps p.tables e below (s₁.setTop (mkF m 0 #[.val (.ref a0), .val (.ref a1), .val (.int (0 : Int32)), .val (.int (1 : Int32)), .val .null, .unset] [])) t → Steps p.tables e below (s₁.setTop (entryFrame m #[(.ref a0), (.ref a1), (.int (0 : Int32)), (.int (1 : Int32)), .null] 6)) t := fun t k => castTop (ef_i4_1 m a0 a1) k
  have KC0 : Keep h0 h0 [a0] := Keep.refl h0 [a0]
  obtain ⟨T123, X123, e123, st123⟩ := initO X0 hx hZ hown (hw _ (List.mem_of_getElem? (i := 15) rfl)) (hw _ (List.mem_of_getElem? (i := 16) rfl)) (hw _ (List.mem_of_getElem? (i := 17) rfl)) e0 (g := (mkF m 1 #[.val (.ref a0), .val (.ref a1), .val (.int (0 : Int32)), .val (.int (1 : Int32)), .val .null, .unset] [(.ref a0)])) rfl (by rw [hml]; rfl) rfl (hb hby d3_1) (by decide) (W := 0) (by show 2 * 0 + _ ≤ _; exact Nat.le_of_eq rfl) (by decide)
  obtain ⟨T124, X124, e124, st124⟩ := getS2 X123 hx hZ hown (host := "") (Or.inl (hw _ (List.mem_of_getElem? (i := 37) rfl))) Via.refl e123 (Sta.ext OLD.2 O_COMPACT_STRINGS) (g := (mkF m 27 #[.val (.ref a0), .val (.ref a1), .val (.int (0 : Int32)), .val (.int (1 : Int32)), .val .null, .unset] [])) rfl (hb hby d3_27)
  have c125 : ¬ (zc = (0 : Int32)) := by
    exact hzc
  obtain ⟨_, _, ⟨T126, L126, k126, n126⟩, -, X126, ⟨Lc126, hQ126, l126, y126, z126⟩, st126⟩ := Jvm.LawKit.callS X124 hx (y := (⟨"java/lang/StringUTF16", "compress", "([CII)[B"⟩ : MethodName)) hown (mvT hZ (hw _ (List.mem_of_getElem? (i := 55) rfl))) (mvT hZ (hw _ (List.mem_of_getElem? (i := 56) rfl))) (mvT hZ (hw _ (List.mem_of_getElem? (i := 57) rfl))) (mvT hZ (hw _ (List.mem_of_getElem? (i := 58) rfl))) (by decide) (backOf (W := 0) (c3_1 l Z aw hw [] a1 kc u0 h0 n0 Z0 V_a1 hu0) hZ (hw _ (List.mem_of_getElem? (i := 58) rfl)) (hw _ (List.mem_of_getElem? (i := 57) rfl)) (by decide) (by decide)) (g := (mkF m 36 #[.val (.ref a0), .val (.ref a1), .val (.int (0 : Int32)), .val (.int (1 : Int32)), .val .null, .unset] [(.int (1 : Int32)), (.int (0 : Int32)), (.ref a1)])) rfl (by rw [hml]; rfl) (argsL := [(.ref a1), (.int (0 : Int32)), (.int (1 : Int32))]) (rest := []) (lenOf pd_1 rfl) rfl (by show 2 * 0 + _ ≤ _; exact Nat.le_of_eq rfl) (hb hby d3_36) (fun _ _ => ⟨rfl, e124, (by decide : 0 + 1 ≤ _), (by decide : 0 + 1 ≤ _)⟩)
  dsimp only [Pt.U, Pt.locs, Pt.cells, Pt.slots] at X126 l126 y126 z126 st126 hQ126
  replace l126 := l126.symm; replace y126 := y126.symm; replace z126 := z126.symm; subst l126 y126 z126
  obtain ⟨r126, kb126, rfl, N126q, K126, sz126, f127⟩ := hQ126
  have N126 := Fr.app N0 N126q
  have ne128 : a0 ≠ r126 := Nat.ne_of_lt (Nat.lt_of_lt_of_le E_a0.lt sz126)
  have ne129 : a1 ≠ r126 := Nat.ne_of_lt (Nat.lt_of_lt_of_le V_a1.lt sz126)
  have gn130 : n0 ≤ r126 := Nat.le_trans Z0 sz126
  have sz131 : h0.size ≤ r126 := Nat.le_trans KC0.1 sz126
  have f132 := E_a0.keep K126
  have f133 := F_a0_value.keep K126 nin0
  have f134 := F_a0_coder.keep K126 nin0
  have f135 := V_a1.keep K126 nin0
  have Z136 : n0 ≤ T126.heap.size := Nat.le_trans Z0 K126.1
  have O137 := Old.keep OLD K126 all0
  have K138 : Keep h0 T126.heap [a0] := Keep.trans KC0 K126 all0
  obtain ⟨_, _, ⟨T139, L139, k139, n139⟩, -, X139, ⟨Lc139, hQ139, l139, y139, z139⟩, st139⟩ := Jvm.LawKit.callS X126 hx (y := (⟨"java/lang/StringUTF16", "coderFromArrayLen", "([BI)B"⟩ : MethodName)) hown (mvT hZ (hw _ (List.mem_of_getElem? (i := 62) rfl))) (mvT hZ (hw _ (List.mem_of_getElem? (i := 63) rfl))) (mvT hZ (hw _ (List.mem_of_getElem? (i := 57) rfl))) (mvT hZ (hw _ (List.mem_of_getElem? (i := 64) rfl))) (by decide) (backOf (W := 1) (cf_1 l Z aw hw [] r126 kb126 ([(.int (nar .byte (u0.toInt8.toInt32)))]) T126.heap n0 Z136 f127) hZ (hw _ (List.mem_of_getElem? (i := 64) rfl)) (hw _ (List.mem_of_getElem? (i := 57) rfl)) (by decide) (by decide)) (g := (mkF m 45 #[.val (.ref a0), .val (.ref a1), .val (.int (0 : Int32)), .val (.int (1 : Int32)), .val .null, .val (.ref r126)] [(.int (1 : Int32)), (.ref r126), (.ref a0)])) rfl (by rw [hml]; rfl) (argsL := [(.ref r126), (.int (1 : Int32))]) (rest := [(.ref a0)]) (lenOf pd_2 rfl) rfl (by show 2 * 0 + _ ≤ _; exact Nat.le_of_eq rfl) (hb hby d3_45) (fun _ _ => ⟨rfl, rfl, (by decide : 1 + 0 ≤ _), (by decide : 1 + 0 ≤ _)⟩)
  dsimp only [Pt.U, Pt.locs, Pt.cells, Pt.slots] at X139 l139 y139 z139 st139 hQ139
  replace l139 := l139.symm; replace y139 := y139.symm; replace z139 := z139.symm; subst l139 y139 z139
  obtain ⟨rfl, N139q, e139⟩ := hQ139
  have N139 := Fr.app N126 N139q
  obtain ⟨T140, h140, X140, e140, W140, st140⟩ := putFN X139 hx hZ hown (hw _ (List.mem_of_getElem? (i := 25) rfl)) Via.refl e139 f134 f132 (Or.inr ⟨(hw _ (List.mem_of_getElem? (i := 21) rfl)), rfl, hnm⟩) (hw _ (List.mem_of_getElem? (i := 5) rfl)) (ty := .byte) (v' := (.int (nar .byte (0 : Int32)))) (by decide) rfl (fits_nar_byte _) (g := (mkF m 48 #[.val (.ref a0), .val (.ref a1), .val (.int (0 : Int32)), .val (.int (1 : Int32)), .val .null, .val (.ref r126)] [(.int (0 : Int32)), (.ref a0)])) rfl rfl (hb hby d3_48)
  have f141 := f132.wr W140
  have f142 := f133.other W140 (Or.inr (slot_ne (Or.inr (hw _ (List.mem_of_getElem? (i := 20) rfl))) (Or.inr (hw _ (List.mem_of_getElem? (i := 21) rfl))) (by decide) (t := (.array .byte)) (t' := .byte) (by decide) (by decide)))
  have f143 := f135.other W140 (Ne.symm ne_a0_a1)
  have f144 := f127.other W140 (Ne.symm ne128)
  have Z145 : n0 ≤ h140.size := Nat.le_trans Z136 (Keep.of_wr W140).1
  have K146 : Keep h0 h140 [a0] := Keep.wr K138 W140 (Or.inl (List.mem_of_getElem? (i := 0) rfl))
  have N147 := Fr.snoc X140 N139 g_a0
  have O148 := Old.wr O137 W140 g_a0
  have f149 : Fld Z h140 a0 "java/lang/String" "coder" "B" (.int (0 : Int32)) := f134.same W140
  obtain ⟨T150, h150, X150, e150, W150, st150⟩ := putF X140 hx hZ hown (host := "") (Or.inl (hw _ (List.mem_of_getElem? (i := 24) rfl))) Via.refl e140 f142 f141 (Or.inr ⟨(hw _ (List.mem_of_getElem? (i := 20) rfl)), rfl, hnm⟩) (hw _ (List.mem_of_getElem? (i := 5) rfl)) (ty := (.array .byte)) (by decide) rfl rfl (g := (mkF m 54 #[.val (.ref a0), .val (.ref a1), .val (.int (0 : Int32)), .val (.int (1 : Int32)), .val .null, .val (.ref r126)] [(.ref r126), (.ref a0)])) rfl rfl (hb hby d3_54)
  have f151 := f141.wr W150
  have f152 := f143.other W150 (Ne.symm ne_a0_a1)
  have f153 := f144.other W150 (Ne.symm ne128)
  have f154 := f149.other W150 (Or.inr (slot_ne (Or.inr (hw _ (List.mem_of_getElem? (i := 21) rfl))) (Or.inr (hw _ (List.mem_of_getElem? (i := 20) rfl))) (by decide) (t := .byte) (t' := (.array .byte)) (by decide) (by decide)))
  have Z155 : n0 ≤ h150.size := Nat.le_trans Z145 (Keep.of_wr W150).1
  have K156 : Keep h0 h150 [a0] := Keep.wr K146 W150 (Or.inl (List.mem_of_getElem? (i := 0) rfl))
  have N157 := Fr.snoc X150 N147 g_a0
  have O158 := Old.wr O148 W150 g_a0
  have f159 : Fld Z h150 a0 "java/lang/String" "value" "[B" (.ref r126) := f142.same W150
  obtain ⟨fs, hr, hrun, hended, hW, hsame⟩ := X150.leave (v := none) (fun _ => rfl)
  refine ⟨_, _, pre0 _ ?_, hrun, hended, _, _, rfl, ?_, ⟨_, rfl⟩, hW, hsame.mono (by decide) (by decide)⟩
  ·
    show Steps p.tables e below (s₁.setTop (mkF m 0 #[.val (.ref a0), .val (.ref a1), .val (.int (0 : Int32)), .val (.int (1 : Int32)), .val .null, .unset] [])) _
    refine XS.aloadN X0.here hx rfl (hb hby d3_0) rfl rfl ?_
    show Steps p.tables e below (s₁.setTop (mkF m 1 #[.val (.ref a0), .val (.ref a1), .val (.int (0 : Int32)), .val (.int (1 : Int32)), .val .null, .unset] [(.ref a0)])) _
    refine st123 _ ?_
    show Steps p.tables e below (T123.setTop (mkF m 4 #[.val (.ref a0), .val (.ref a1), .val (.int (0 : Int32)), .val (.int (1 : Int32)), .val .null, .unset] [])) _
    refine XS.iloadN X123.here hx rfl (hb hby d3_4) rfl ?_
    show Steps p.tables e below (T123.setTop (mkF m 5 #[.val (.ref a0), .val (.ref a1), .val (.int (0 : Int32)), .val (.int (1 : Int32)), .val .null, .unset] [(.int (1 : Int32))])) _
    refine XS.ifYes X123.here hx rfl (pc0 := 5) (pc' := 27) rfl (hb hby d3_5) rfl ((if0 _ _).trans (feq (by decide)).2) (by decide) (by decide) ?_
    show Steps p.tables e below (T123.setTop (mkF m 27 #[.val (.ref a0), .val (.ref a1), .val (.int (0 : Int32)), .val (.int (1 : Int32)), .val .null, .unset] [])) _
    refine st124 _ ?_
    show Steps p.tables e below (T124.setTop (mkF m 30 #[.val (.ref a0), .val (.ref a1), .val (.int (0 : Int32)), .val (.int (1 : Int32)), .val .null, .unset] [(.int zc)])) _
    refine XS.ifNo X124.here hx rfl (hb hby d3_30) rfl ((if0 _ _).trans (feq c125).1) ?_
    show Steps p.tables e below (T124.setTop (mkF m 33 #[.val (.ref a0), .val (.ref a1), .val (.int (0 : Int32)), .val (.int (1 : Int32)), .val .null, .unset] [])) _
    refine XS.aloadN X124.here hx rfl (hb hby d3_33) rfl rfl ?_
    show Steps p.tables e below (T124.setTop (mkF m 34 #[.val (.ref a0), .val (.ref a1), .val (.int (0 : Int32)), .val (.int (1 : Int32)), .val .null, .unset] [(.ref a1)])) _
    refine XS.iloadN X124.here hx rfl (hb hby d3_34) rfl ?_
    show Steps p.tables e below (T124.setTop (mkF m 35 #[.val (.ref a0), .val (.ref a1), .val (.int (0 : Int32)), .val (.int (1 : Int32)), .val .null, .unset] [(.int (0 : Int32)), (.ref a1)])) _
    refine XS.iloadN X124.here hx rfl (hb hby d3_35) rfl ?_
    show Steps p.tables e below (T124.setTop (mkF m 36 #[.val (.ref a0), .val (.ref a1), .val (.int (0 : Int32)), .val (.int (1 : Int32)), .val .null, .unset] [(.int (1 : Int32)), (.int (0 : Int32)), (.ref a1)])) _
    refine st126 _ ?_
    show Steps p.tables e below (T126.setTop (mkF m 39 #[.val (.ref a0), .val (.ref a1), .val (.int (0 : Int32)), .val (.int (1 : Int32)), .val .null, .unset] [(.ref r126)])) _
    refine XS.astore X126.here hx rfl (hb hby d3_39) rfl rfl (l' := #[.val (.ref a0), .val (.ref a1), .val (.int (0 : Int32)), .val (.int (1 : Int32)), .val .null, .val (.ref r126)]) rfl ?_
    show Steps p.tables e below (T126.setTop (mkF m 41 #[.val (.ref a0), .val (.ref a1), .val (.int (0 : Int32)), .val (.int (1 : Int32)), .val .null, .val (.ref r126)] [])) _
    refine XS.aloadN X126.here hx rfl (hb hby d3_41) rfl rfl ?_
    show Steps p.tables e below (T126.setTop (mkF m 42 #[.val (.ref a0), .val (.ref a1), .val (.int (0 : Int32)), .val (.int (1 : Int32)), .val .null, .val (.ref r126)] [(.ref a0)])) _
    refine XS.aload X126.here hx rfl (hb hby d3_42) rfl rfl ?_
    show Steps p.tables e below (T126.setTop (mkF m 44 #[.val (.ref a0), .val (.ref a1), .val (.int (0 : Int32)), .val (.int (1 : Int32)), .val .null, .val (.ref r126)] [(.ref r126), (.ref a0)])) _
    refine XS.iloadN X126.here hx rfl (hb hby d3_44) rfl ?_
    show Steps p.tables e below (T126.setTop (mkF m 45 #[.val (.ref a0), .val (.ref a1), .val (.int (0 : Int32)), .val (.int (1 : Int32)), .val .null, .val (.ref r126)] [(.int (1 : Int32)), (.ref r126), (.ref a0)])) _
    refine st139 _ ?_
    show Steps p.tables e below (T139.setTop (mkF m 48 #[.val (.ref a0), .val (.ref a1), .val (.int (0 : Int32)), .val (.int (1 : Int32)), .val .null, .val (.ref r126)] [(.int (0 : Int32)), (.ref a0)])) _
    refine st140 _ ?_
    show Steps p.tables e below (T140.setTop (mkF m 51 #[.val (.ref a0), .val (.ref a1), .val (.int (0 : Int32)), .val (.int (1 : Int32)), .val .null, .val (.ref r126)] [])) _
    refine XS.aloadN X140.here hx rfl (hb hby d3_51) rfl rfl ?_
    show Steps p.tables e below (T140.setTop (mkF m 52 #[.val (.ref a0), .val (.ref a1), .val (.int (0 : Int32)), .val (.int (1 : Int32)), .val .null, .val (.ref r126)] [(.ref a0)])) _
    refine XS.aload X140.here hx rfl (hb hby d3_52) rfl rfl ?_
    show Steps p.tables e below (T140.setTop (mkF m 54 #[.val (.ref a0), .val (.ref a1), .val (.int (0 : Int32)), .val (.int (1 : Int32)), .val .null, .val (.ref r126)] [(.ref r126), (.ref a0)])) _
    refine st150 _ ?_
    show Steps p.tables e below (T150.setTop (mkF m 57 #[.val (.ref a0), .val (.ref a1), .val (.int (0 : Int32)), .val (.int (1 : Int32)), .val .null, .val (.ref r126)] [])) _
    exact X150.returnOut hx Bd.returns (hb hby d3_57) hr
  ·
    show Q_i4_1 Z a0 a1 kc u0 zc h0 n0 _ T150.heap _
    rw [e150]
    exact ⟨r126, kb126, ((nar .byte (u0.toInt8.toInt32))), rfl, N157, K156, f151, f154, f159, f153, (own_rng _)⟩
theorem d2_0 : decode jdk_42_method_3_code 0 = .ok (.aload_n 0, 1) := by decide +kernel
theorem d2_1 : decode jdk_42_method_3_code 1 = .ok (.aload_n 1, 1) := by decide +kernel
theorem d2_2 : decode jdk_42_method_3_code 2 = .ok (.iconst 0, 1) := by decide +kernel
theorem d2_3 : decode jdk_42_method_3_code 3 = .ok (.aload_n 1, 1) := by decide +kernel
theorem d2_4 : decode jdk_42_method_3_code 4 = .ok (.arraylength, 1) := by decide +kernel
theorem d2_5 : decode jdk_42_method_3_code 5 = .ok (.aconst_null, 1) := by decide +kernel
theorem pd_3 : parseMethodDescriptor "([CIILjava/lang/Void;)V" = some ⟨[(.array .char), .int, .int, (.object "java/lang/Void")], none⟩ := by decide +kernel
theorem d2_6 : decode jdk_42_method_3_code 6 = .ok (.invokespecial 27, 3) := by decide +kernel
theorem d2_9 : decode jdk_42_method_3_code 9 = .ok (.return_, 1) := by decide +kernel
theorem ef_i1_1 (m : MethodId) (a0 : Addr) (a1 : Addr) : entryFrame m #[(.ref a0), (.ref a1)] 2 = mkF m 0 #[.val (.ref a0), .val (.ref a1)] [] := by first | (simp [entryFrame, mkF, argsToLocals, Value.category]; done) | rfl
def Q_i1_1 (Z : State) (a0 : Addr) (a1 : Addr) (kc : ClassId) (u0 : Int32) (zc : Int32) (h0 : Heap) (n0 : Nat) (v : Option Value) (h : Heap) (L : List Loc) : Prop := ∃ t : Addr, ∃ kb : ClassId, ∃ w0 : Int32, v = none ∧ Fr n0 L ∧ Keep h0 h [a0] ∧ Exa Z h a0 "java/lang/String" ∧ Fld Z h a0 "java/lang/String" "coder" "B" (.int (0 : Int32)) ∧ Fld Z h a0 "java/lang/String" "value" "[B" (.ref t) ∧ Arv Z h t kb .byte (1 : Int32) [(.int w0)] (.int (0 : Int32)) ∧ -128 ≤ w0.toInt ∧ w0.toInt < 128
set_option maxRecDepth 65536 in
set_option maxHeartbeats 40000000 in
theorem i1_1 (l : Launch) (Z : State) (aw : Array Value) (hw : ∀ d ∈ tables_1, d.before aw Z = true) (ws : List Jvm.Cond) (a0 : Addr) (a1 : Addr) (kc : ClassId) (u0 : Int32) (zc : Int32) (h0 : Heap) (n0 : Nat) (Z0 : n0 ≤ h0.size) (E_a0 : Exa Z h0 a0 "java/lang/String") (F_a0_value : Fld Z h0 a0 "java/lang/String" "value" "[B" .null) (F_a0_coder : Fld Z h0 a0 "java/lang/String" "coder" "B" (.int (0 : Int32))) (g_a0 : n0 ≤ a0) (V_a1 : Arv Z h0 a1 kc .char (1 : Int32) [(.int u0)] (.int (0 : Int32))) (ne_a0_a1 : a0 ≠ a1) (OLD : Old Z n0 h0) (O_COMPACT_STRINGS : Sta Z Z.heap "java/lang/String" "COMPACT_STRINGS" "Z" (.int zc)) (hzc : ¬ (zc = (0 : Int32))) (hu0 : ¬ ((255 : Int32) < u0)) :
    MetFree l (⟨"java/lang/String", "<init>", "([C)V"⟩ : MethodName) (head1 (Jvm.Cond.code (⟨"java/lang/String", "<init>", "([C)V"⟩ : MethodName) jdk_42_method_3_code 2 none :: ws) ({ frames := 3, cells := 1, slots := 1, locals := 52 } : Room)) (fun a U => a = #[(.ref a0), (.ref a1)] ∧ Z.Warmed39 U.vm ∧ U.heap = h0) (fun _ _ _ _ _ => True) (fun _ U o U' => ∃ v L, o = .returned v ∧ Q_i1_1 Z a0 a1 kc u0 zc h0 n0 v U'.heap L ∧ FrameEnd U o U' L ({ frames := 3, cells := 1, slots := 1, locals := 52 } : Room).cells ({ frames := 3, cells := 1, slots := 1, locals := 52 } : Room).slots) := by
  refine MetFree.of_bodySF (plainFor_of_name pn_1) hisR ?_
  intro p e s m args below meth c s₁ Bd hml0 hP hK
  obtain ⟨rfl, hZ, hh⟩ := hP
  have hx := Bd.exec
  have hby := Bd.bytes
  have hml : c.maxLocals = 2 := hml0
  have hown : s.vm.findClass "java/lang/String" = some m.cls := findClass_of_methodNamed Bd.named
  have hnm := (name_of_methodNamed Bd.named Bd.method).1
  have X0 : Stand p l e ({ frames := 3, cells := 1, slots := 1, locals := 52 } : Room) s m #[(.ref a0), (.ref a1)] below meth c s₁ [] 0 0 := Stand.of_body Bd
  have e0 : s₁.heap = h0 := by rw [← hh, Bd.state]; rfl
  have N0 := Fr.nil n0
  have pre0 : ∀ t, Steps p.tables e below (s₁.setTop (mkF m 0 #[.val (.ref a0), .val (.ref a1)] [])) t → Steps p.tables e below (s₁.setTop (entryFrame m #[(.ref a0), (.ref a1)] 2)) t := fun t k => castTop (ef_i1_1 m a0 a1) k
  have KC0 : Keep h0 h0 [a0] := Keep.refl h0 [a0]
  obtain ⟨cl160, Ar160, q160, S160, N160, H160, G160⟩ := id V_a1
  obtain ⟨_, _, ⟨T161, L161, k161, n161⟩, -, X161, ⟨Lc161, hQ161, l161, y161, z161⟩, st161⟩ := X0.specialBack hx (y := (⟨"java/lang/String", "<init>", "([CIILjava/lang/Void;)V"⟩ : MethodName)) rfl hown (mvT hZ (hw _ (List.mem_of_getElem? (i := 11) rfl))) (mvT hZ (hw _ (List.mem_of_getElem? (i := 12) rfl))) (mvT hZ (hw _ (List.mem_of_getElem? (i := 14) rfl))) (by decide) (backOf (W := 0) (i4_1 l Z aw hw [] a0 a1 kc u0 zc h0 n0 Z0 E_a0 F_a0_value F_a0_coder g_a0 V_a1 ne_a0_a1 OLD O_COMPACT_STRINGS hzc hu0) hZ (hw _ (List.mem_of_getElem? (i := 14) rfl)) (hw _ (List.mem_of_getElem? (i := 6) rfl)) (by decide) (by decide)) (g := (mkF m 6 #[.val (.ref a0), .val (.ref a1)] [.null, (.int (1 : Int32)), (.int (0 : Int32)), (.ref a1), (.ref a0)])) rfl (by rw [hml]; rfl) (Steps.refl _) (a := a0) (argsL := [(.ref a1), (.int (0 : Int32)), (.int (1 : Int32)), .null]) (rest := []) (lenOf pd_3 rfl) rfl (by show 2 * 0 + _ ≤ _; exact Nat.le_of_eq rfl) (hb hby d2_6) (fun _ _ => ⟨rfl, e0, (by decide : 0 + 1 ≤ _), (by decide : 0 + 1 ≤ _)⟩)
  dsimp only [Pt.U, Pt.locs, Pt.cells, Pt.slots] at X161 l161 y161 z161 st161 hQ161
  replace l161 := l161.symm; replace y161 := y161.symm; replace z161 := z161.symm; subst l161 y161 z161
  obtain ⟨t161, kb161, w0161, rfl, N161q, K161, f162, f163, f164, f165, f166⟩ := hQ161
  have N161 := Fr.app N0 N161q
  have f167 := V_a1.keep K161 (ninS (Ne.symm ne_a0_a1) nin0)
  have Z168 : n0 ≤ T161.heap.size := Nat.le_trans Z0 K161.1
  have O169 := Old.keep OLD K161 (allS g_a0 all0)
  have K170 : Keep h0 T161.heap [a0] := Keep.trans KC0 K161 (allS (Or.inl (List.mem_of_getElem? (i := 0) rfl)) all0)
  obtain ⟨fs, hr, hrun, hended, hW, hsame⟩ := X161.leave (v := none) (fun _ => rfl)
  refine ⟨_, _, pre0 _ ?_, hrun, hended, _, _, rfl, ?_, ⟨_, rfl⟩, hW, hsame.mono (by decide) (by decide)⟩
  ·
    show Steps p.tables e below (s₁.setTop (mkF m 0 #[.val (.ref a0), .val (.ref a1)] [])) _
    refine XS.aloadN X0.here hx rfl (hb hby d2_0) rfl rfl ?_
    show Steps p.tables e below (s₁.setTop (mkF m 1 #[.val (.ref a0), .val (.ref a1)] [(.ref a0)])) _
    refine XS.aloadN X0.here hx rfl (hb hby d2_1) rfl rfl ?_
    show Steps p.tables e below (s₁.setTop (mkF m 2 #[.val (.ref a0), .val (.ref a1)] [(.ref a1), (.ref a0)])) _
    refine XS.iconst X0.here hx rfl (hb hby d2_2) ?_
    show Steps p.tables e below (s₁.setTop (mkF m 3 #[.val (.ref a0), .val (.ref a1)] [(.int (0 : Int32)), (.ref a1), (.ref a0)])) _
    refine XS.aloadN X0.here hx rfl (hb hby d2_3) rfl rfl ?_
    show Steps p.tables e below (s₁.setTop (mkF m 4 #[.val (.ref a0), .val (.ref a1)] [(.ref a1), (.int (0 : Int32)), (.ref a1), (.ref a0)])) _
    refine X0.arraylength hx (by rw [e0]; exact Ar160.1) (State.isArrayOf_alike hZ.alike Ar160.2.1) (g := (mkF m 4 #[.val (.ref a0), .val (.ref a1)] [(.ref a1), (.int (0 : Int32)), (.ref a1), (.ref a0)])) rfl rfl (hb hby d2_4) _ ?_
    rw [len_of S160 N160]
    show Steps p.tables e below (s₁.setTop (mkF m 5 #[.val (.ref a0), .val (.ref a1)] [(.int (1 : Int32)), (.int (0 : Int32)), (.ref a1), (.ref a0)])) _
    refine XS.aconstNull X0.here hx rfl (hb hby d2_5) ?_
    show Steps p.tables e below (s₁.setTop (mkF m 6 #[.val (.ref a0), .val (.ref a1)] [.null, (.int (1 : Int32)), (.int (0 : Int32)), (.ref a1), (.ref a0)])) _
    refine st161.trans ?_
    show Steps p.tables e below (T161.setTop (mkF m 9 #[.val (.ref a0), .val (.ref a1)] [])) _
    exact X161.returnOut hx Bd.returns (hb hby d2_9) hr
  ·
    show Q_i1_1 Z a0 a1 kc u0 zc h0 n0 _ T161.heap _
    exact ⟨t161, kb161, w0161, rfl, N161, K170, f162, f163, f164, f165, f166⟩
theorem d1_0 : decode method_3_code 0 = .ok (.iload_n 0, 1) := by decide +kernel
theorem d1_1 : decode method_3_code 1 = .ok (.ifCond .ne 14, 3) := by decide +kernel
theorem d1_15 : decode method_3_code 15 = .ok (.iload_n 0, 1) := by decide +kernel
theorem d1_16 : decode method_3_code 16 = .ok (.iconst 1, 1) := by decide +kernel
theorem d1_17 : decode method_3_code 17 = .ok (.if_icmp .ne 18, 3) := by decide +kernel
theorem d1_20 : decode method_3_code 20 = .ok (.new 20, 3) := by decide +kernel
theorem d1_23 : decode method_3_code 23 = .ok (.dup, 1) := by decide +kernel
theorem d1_24 : decode method_3_code 24 = .ok (.iconst 1, 1) := by decide +kernel
theorem d1_25 : decode method_3_code 25 = .ok (.newarray .char, 2) := by decide +kernel
theorem d1_27 : decode method_3_code 27 = .ok (.dup, 1) := by decide +kernel
theorem d1_28 : decode method_3_code 28 = .ok (.iconst 0, 1) := by decide +kernel
theorem d1_29 : decode method_3_code 29 = .ok (.iload_n 1, 1) := by decide +kernel
theorem d1_30 : decode method_3_code 30 = .ok (.castore, 1) := by decide +kernel
theorem pd_4 : parseMethodDescriptor "([C)V" = some ⟨[(.array .char)], none⟩ := by decide +kernel
theorem d1_31 : decode method_3_code 31 = .ok (.invokespecial 37, 3) := by decide +kernel
theorem d1_34 : decode method_3_code 34 = .ok (.areturn, 1) := by decide +kernel
theorem pn_2 : plainName "com/example/reliquary/reliquary/DatastreamDefaultMimeTypePinLaw" = true := by first | (simp [plainName, overriddenIn]; done) | decide +kernel
theorem ef_mk_1 (m : MethodId) (p1 : Int32) (p2 : Int32) (p3 : Int32) : entryFrame m #[(.int (1 : Int32)), (.int p1), (.int p2), (.int p3)] 4 = mkF m 0 #[.val (.int (1 : Int32)), .val (.int p1), .val (.int p2), .val (.int p3)] [] := by first | (simp [entryFrame, mkF, argsToLocals, Value.category]; done) | rfl
def Q_mk_1 (Z : State) (p1 : Int32) (p2 : Int32) (p3 : Int32) (zc : Int32) (h0 : Heap) (n0 : Nat) (v : Option Value) (h : Heap) (L : List Loc) : Prop := ∃ b : Addr, ∃ t : Addr, ∃ kb : ClassId, ∃ w0 : Int32, v = some (.ref b) ∧ Fr n0 L ∧ Keep h0 h [] ∧ h0.size ≤ b ∧ Exa Z h b "java/lang/String" ∧ Fld Z h b "java/lang/String" "coder" "B" (.int (0 : Int32)) ∧ Fld Z h b "java/lang/String" "value" "[B" (.ref t) ∧ Arv Z h t kb .byte (1 : Int32) [(.int w0)] (.int (0 : Int32)) ∧ -128 ≤ w0.toInt ∧ w0.toInt < 128
set_option maxRecDepth 65536 in
set_option maxHeartbeats 40000000 in
theorem mk_1 (l : Launch) (Z : State) (aw : Array Value) (hw : ∀ d ∈ tables_1, d.before aw Z = true) (ws : List Jvm.Cond) (p1 : Int32) (p2 : Int32) (p3 : Int32) (zc : Int32) (h0 : Heap) (n0 : Nat) (Z0 : n0 ≤ h0.size) (OLD : Old Z n0 h0) (O_COMPACT_STRINGS : Sta Z Z.heap "java/lang/String" "COMPACT_STRINGS" "Z" (.int zc)) (hzc : ¬ (zc = (0 : Int32))) (hp1 : 0 ≤ p1.toInt ∧ p1.toInt ≤ 255) :
    MetFree l (⟨"com/example/reliquary/reliquary/DatastreamDefaultMimeTypePinLaw", "make", "(ICCC)Ljava/lang/String;"⟩ : MethodName) (head1 (Jvm.Cond.code (⟨"com/example/reliquary/reliquary/DatastreamDefaultMimeTypePinLaw", "make", "(ICCC)Ljava/lang/String;"⟩ : MethodName) method_3_code 4 (some (.object "java/lang/String")) :: ws) ({ frames := 4, cells := 3, slots := 6, locals := 66 } : Room)) (fun a U => a = #[(.int (1 : Int32)), (.int p1), (.int p2), (.int p3)] ∧ Z.Warmed39 U.vm ∧ U.heap = h0) (fun _ _ _ _ _ => True) (fun _ U o U' => ∃ v L, o = .returned v ∧ Q_mk_1 Z p1 p2 p3 zc h0 n0 v U'.heap L ∧ FrameEnd U o U' L ({ frames := 4, cells := 3, slots := 6, locals := 66 } : Room).cells ({ frames := 4, cells := 3, slots := 6, locals := 66 } : Room).slots) := by
  refine MetFree.of_bodySF (plainFor_of_name pn_2) hisR ?_
  intro p e s m args below meth c s₁ Bd hml0 hP hK
  obtain ⟨rfl, hZ, hh⟩ := hP
  have hx := Bd.exec
  have hby := Bd.bytes
  have hml : c.maxLocals = 4 := hml0
  have hown : s.vm.findClass "com/example/reliquary/reliquary/DatastreamDefaultMimeTypePinLaw" = some m.cls := findClass_of_methodNamed Bd.named
  have hnm := (name_of_methodNamed Bd.named Bd.method).1
  have X0 : Stand p l e ({ frames := 4, cells := 3, slots := 6, locals := 66 } : Room) s m #[(.int (1 : Int32)), (.int p1), (.int p2), (.int p3)] below meth c s₁ [] 0 0 := Stand.of_body Bd
  have e0 : s₁.heap = h0 := by rw [← hh, Bd.state]; rfl
  have N0 := Fr.nil n0
  have pre0 : ∀ t, Steps p.tables e below (s₁.setTop (mkF m 0 #[.val (.int (1 : Int32)), .val (.int p1), .val (.int p2), .val (.int p3)] [])) t → Steps p.tables e below (s₁.setTop (entryFrame m #[(.int (1 : Int32)), (.int p1), (.int p2), (.int p3)] 4)) t := fun t k => castTop (ef_mk_1 m p1 p2 p3) k
  have KC0 : Keep h0 h0 [] := Keep.refl h0 []
  obtain ⟨T171, h171, X171, e171, E171, A171, D171, -, st171⟩ := newO X0 hx hZ hown (hw _ (List.mem_of_getElem? (i := 4) rfl)) (hw _ (List.mem_of_getElem? (i := 5) rfl)) (hw _ (List.mem_of_getElem? (i := 6) rfl)) e0 (g := (mkF m 20 #[.val (.int (1 : Int32)), .val (.int p1), .val (.int p2), .val (.int p3)] [])) rfl (hb hby d1_20) (by decide) (by decide)
  obtain ⟨b171, g171⟩ : ∃ z_, z_ = h0.size := ⟨_, rfl⟩
  rw [← g171] at A171 D171 st171
  have gn172 : n0 ≤ b171 := Nat.le_trans Z0 (Nat.le_of_eq g171.symm)
  have sz173 : h0.size ≤ b171 := Nat.le_trans KC0.1 (Nat.le_of_eq g171.symm)
  have Z174 : n0 ≤ h171.size := Nat.le_trans Z0 E171.1
  have K175 : Keep h0 h171 [] := Keep.ext KC0 E171
  have O176 := Old.ext OLD E171
  have f177 : Fld Z h171 b171 "java/lang/String" "value" "[B" .null := D171 (Or.inr (hw _ (List.mem_of_getElem? (i := 20) rfl))) (ty := (.array .byte)) (by decide)
  have f178 : Fld Z h171 b171 "java/lang/String" "coder" "B" (.int (0 : Int32)) := D171 (Or.inr (hw _ (List.mem_of_getElem? (i := 21) rfl))) (ty := .byte) (by decide)
  obtain ⟨T179, h179, k179, X179, e179, E179, A179, kc179, st179⟩ := newPk X171 hx hZ (hw _ (List.mem_of_getElem? (i := 7) rfl)) e171 (g := (mkF m 25 #[.val (.int (1 : Int32)), .val (.int p1), .val (.int p2), .val (.int p3)] [(.int (1 : Int32)), (.ref b171), (.ref b171)])) rfl (hb hby d1_25) rfl (by decide) (cap := 1) (by decide) (by decide) (by decide) (by decide)
  obtain ⟨b179, g179⟩ : ∃ z_, z_ = h171.size := ⟨_, rfl⟩
  rw [← g179] at A179 st179
  have ne180 : b171 ≠ b179 := Nat.ne_of_lt (Nat.lt_of_lt_of_le A171.lt (Nat.le_of_eq g179.symm))
  have gn181 : n0 ≤ b179 := Nat.le_trans Z174 (Nat.le_of_eq g179.symm)
  have sz182 : h0.size ≤ b179 := Nat.le_trans K175.1 (Nat.le_of_eq g179.symm)
  have f183 := A171.ext E179
  have f184 := f177.ext E179
  have f185 := f178.ext E179
  have Z186 : n0 ≤ h179.size := Nat.le_trans Z174 E179.1
  have K187 : Keep h0 h179 [] := Keep.ext K175 E179
  have O188 := Old.ext O176 E179
  have f189 : Arv Z h179 b179 k179 .char (1 : Int32) [(.int (0 : Int32))] (.int (0 : Int32)) := (Arv.new A179 (by decide)).pad (pad_rep [] (.int (0 : Int32)) 1)
  obtain ⟨cl190, Ar190, q190, S190, N190, H190, G190⟩ := id f189
  have hin190 : ¬ ((0 : Int32) < 0 ∨ cl190.slots.size ≤ ((0 : Int32)).toNatClampNeg) := inb_of S190 ⟨by decide, by decide⟩
  obtain ⟨T190, h190, X190, e190, W190, st190⟩ := stC X179 hx hZ e179 Ar190 (j := (0 : Int32)) hin190 (g := (mkF m 30 #[.val (.int (1 : Int32)), .val (.int p1), .val (.int p2), .val (.int p3)] [(.int p1), (.int (0 : Int32)), (.ref b179), (.ref b179), (.ref b171), (.ref b171)])) rfl rfl (hb hby d1_30)
  have f191 := f183.wr W190
  have f192 := f184.other W190 (Or.inl ne180)
  have f193 := f185.other W190 (Or.inl ne180)
  have Z194 : n0 ≤ h190.size := Nat.le_trans Z186 (Keep.of_wr W190).1
  have K195 : Keep h0 h190 [] := Keep.wr K187 W190 (Or.inr sz182)
  have N196 := Fr.snoc X190 N0 gn181
  have O197 := Old.wr O188 W190 gn181
  have f198 : Arv Z h190 b179 k179 .char (1 : Int32) [(.int (nar .char p1))] (.int (0 : Int32)) := Arv.set Ar190 q190 S190 N190 H190 G190 (fits_nar_char _) W190 0 rfl (Nat.le_of_ble_eq_true rfl)
  obtain ⟨_, _, ⟨T199, L199, k199, n199⟩, -, X199, ⟨Lc199, hQ199, l199, y199, z199⟩, st199⟩ := X190.specialBack hx (y := (⟨"java/lang/String", "<init>", "([C)V"⟩ : MethodName)) rfl hown (mvT hZ (hw _ (List.mem_of_getElem? (i := 8) rfl))) (mvT hZ (hw _ (List.mem_of_getElem? (i := 9) rfl))) (mvT hZ (hw _ (List.mem_of_getElem? (i := 10) rfl))) (by decide) (backOf (W := 1) (i1_1 l Z aw hw [] b171 b179 k179 ((nar .char p1)) zc h190 n0 Z194 f191 f192 f193 gn172 f198 ne180 O197 O_COMPACT_STRINGS hzc (own_nc hp1)) hZ (hw _ (List.mem_of_getElem? (i := 10) rfl)) (hw _ (List.mem_of_getElem? (i := 6) rfl)) (by decide) (by decide)) (g := (mkF m 31 #[.val (.int (1 : Int32)), .val (.int p1), .val (.int p2), .val (.int p3)] [(.ref b179), (.ref b171), (.ref b171)])) rfl (by rw [hml]; rfl) (Steps.refl _) (a := b171) (argsL := [(.ref b179)]) (rest := [(.ref b171)]) (lenOf pd_4 rfl) rfl (by show 2 * 0 + _ ≤ _; exact Nat.le_of_eq rfl) (hb hby d1_31) (fun _ _ => ⟨rfl, e190, (by decide : 2 + 1 ≤ _), (by decide : 5 + 1 ≤ _)⟩)
  dsimp only [Pt.U, Pt.locs, Pt.cells, Pt.slots] at X199 l199 y199 z199 st199 hQ199
  replace l199 := l199.symm; replace y199 := y199.symm; replace z199 := z199.symm; subst l199 y199 z199
  obtain ⟨t199, kb199, w0199, rfl, N199q, K199, f200, f201, f202, f203, f204⟩ := hQ199
  have N199 := Fr.app N196 N199q
  have f205 := f198.keep K199 (ninS (Ne.symm ne180) nin0)
  have Z206 : n0 ≤ T199.heap.size := Nat.le_trans Z194 K199.1
  have O207 := Old.keep O197 K199 (allS gn172 all0)
  have K208 : Keep h0 T199.heap [] := Keep.trans K195 K199 (allS (Or.inr sz173) all0)
  obtain ⟨fs, hr, hrun, hended, hW, hsame⟩ := X199.leave (v := some (.ref b171)) (fun h => by rw [Bd.returns] at h; cases h)
  refine ⟨_, _, pre0 _ ?_, hrun, hended, _, _, rfl, ?_, ⟨_, rfl⟩, hW, hsame.mono (by decide) (by decide)⟩
  ·
    show Steps p.tables e below (s₁.setTop (mkF m 0 #[.val (.int (1 : Int32)), .val (.int p1), .val (.int p2), .val (.int p3)] [])) _
    refine XS.iloadN X0.here hx rfl (hb hby d1_0) rfl ?_
    show Steps p.tables e below (s₁.setTop (mkF m 1 #[.val (.int (1 : Int32)), .val (.int p1), .val (.int p2), .val (.int p3)] [(.int (1 : Int32))])) _
    refine XS.ifYes X0.here hx rfl (pc0 := 1) (pc' := 15) rfl (hb hby d1_1) rfl ((if0 _ _).trans (feq (by decide)).2) (by decide) (by decide) ?_
    show Steps p.tables e below (s₁.setTop (mkF m 15 #[.val (.int (1 : Int32)), .val (.int p1), .val (.int p2), .val (.int p3)] [])) _
    refine XS.iloadN X0.here hx rfl (hb hby d1_15) rfl ?_
    show Steps p.tables e below (s₁.setTop (mkF m 16 #[.val (.int (1 : Int32)), .val (.int p1), .val (.int p2), .val (.int p3)] [(.int (1 : Int32))])) _
    refine XS.iconst X0.here hx rfl (hb hby d1_16) ?_
    show Steps p.tables e below (s₁.setTop (mkF m 17 #[.val (.int (1 : Int32)), .val (.int p1), .val (.int p2), .val (.int p3)] [(.int (1 : Int32)), (.int (1 : Int32))])) _
    refine XS.icmpNo X0.here hx rfl (hb hby d1_17) rfl (teq rfl).2 ?_
    show Steps p.tables e below (s₁.setTop (mkF m 20 #[.val (.int (1 : Int32)), .val (.int p1), .val (.int p2), .val (.int p3)] [])) _
    refine st171 _ ?_
    show Steps p.tables e below (T171.setTop (mkF m 23 #[.val (.int (1 : Int32)), .val (.int p1), .val (.int p2), .val (.int p3)] [(.ref b171)])) _
    refine XS.dup X171.here hx rfl (hb hby d1_23) rfl rfl ?_
    show Steps p.tables e below (T171.setTop (mkF m 24 #[.val (.int (1 : Int32)), .val (.int p1), .val (.int p2), .val (.int p3)] [(.ref b171), (.ref b171)])) _
    refine XS.iconst X171.here hx rfl (hb hby d1_24) ?_
    show Steps p.tables e below (T171.setTop (mkF m 25 #[.val (.int (1 : Int32)), .val (.int p1), .val (.int p2), .val (.int p3)] [(.int (1 : Int32)), (.ref b171), (.ref b171)])) _
    refine st179 _ ?_
    show Steps p.tables e below (T179.setTop (mkF m 27 #[.val (.int (1 : Int32)), .val (.int p1), .val (.int p2), .val (.int p3)] [(.ref b179), (.ref b171), (.ref b171)])) _
    refine XS.dup X179.here hx rfl (hb hby d1_27) rfl rfl ?_
    show Steps p.tables e below (T179.setTop (mkF m 28 #[.val (.int (1 : Int32)), .val (.int p1), .val (.int p2), .val (.int p3)] [(.ref b179), (.ref b179), (.ref b171), (.ref b171)])) _
    refine XS.iconst X179.here hx rfl (hb hby d1_28) ?_
    show Steps p.tables e below (T179.setTop (mkF m 29 #[.val (.int (1 : Int32)), .val (.int p1), .val (.int p2), .val (.int p3)] [(.int (0 : Int32)), (.ref b179), (.ref b179), (.ref b171), (.ref b171)])) _
    refine XS.iloadN X179.here hx rfl (hb hby d1_29) rfl ?_
    show Steps p.tables e below (T179.setTop (mkF m 30 #[.val (.int (1 : Int32)), .val (.int p1), .val (.int p2), .val (.int p3)] [(.int p1), (.int (0 : Int32)), (.ref b179), (.ref b179), (.ref b171), (.ref b171)])) _
    refine st190 _ ?_
    show Steps p.tables e below (T190.setTop (mkF m 31 #[.val (.int (1 : Int32)), .val (.int p1), .val (.int p2), .val (.int p3)] [(.ref b179), (.ref b171), (.ref b171)])) _
    refine st199.trans ?_
    show Steps p.tables e below (T199.setTop (mkF m 34 #[.val (.int (1 : Int32)), .val (.int p1), .val (.int p2), .val (.int p3)] [(.ref b171)])) _
    exact retA X199 hx rfl rfl Bd.returns (hb hby d1_34) hr
  ·
    show Q_mk_1 Z p1 p2 p3 zc h0 n0 _ T199.heap _
    exact ⟨b171, t199, kb199, w0199, rfl, N199, K208, sz173, f200, f201, f202, f203, f204⟩
theorem ef_c5_2 (m : MethodId) (a0 : Addr) (a2 : Addr) : entryFrame m #[(.ref a0), (.int (0 : Int32)), (.ref a2), (.int (0 : Int32)), (.int (2 : Int32))] 7 = mkF m 0 #[.val (.ref a0), .val (.int (0 : Int32)), .val (.ref a2), .val (.int (0 : Int32)), .val (.int (2 : Int32)), .unset, .unset] [] := by first | (simp [entryFrame, mkF, argsToLocals, Value.category]; done) | rfl
def Q_c5_2 (Z : State) (a0 : Addr) (a2 : Addr) (kc : ClassId) (kb : ClassId) (u0 : Int32) (u1 : Int32) (h0 : Heap) (n0 : Nat) (v : Option Value) (h : Heap) (L : List Loc) : Prop := v = some (.int (2 : Int32)) ∧ Fr n0 L ∧ Keep h0 h [a2] ∧ Arv Z h a2 kb .byte (2 : Int32) [(.int (nar .byte (u0.toInt8.toInt32))), (.int (nar .byte (u1.toInt8.toInt32)))] (.int (0 : Int32))
set_option maxRecDepth 65536 in
set_option maxHeartbeats 40000000 in
theorem c5_2 (l : Launch) (Z : State) (aw : Array Value) (hw : ∀ d ∈ tables_1, d.before aw Z = true) (ws : List Jvm.Cond) (a0 : Addr) (a2 : Addr) (kc : ClassId) (kb : ClassId) (u0 : Int32) (u1 : Int32) (h0 : Heap) (n0 : Nat) (Z0 : n0 ≤ h0.size) (V_a0 : Arv Z h0 a0 kc .char (2 : Int32) [(.int u0), (.int u1)] (.int (0 : Int32))) (V_a2 : Arv Z h0 a2 kb .byte (2 : Int32) [(.int (0 : Int32)), (.int (0 : Int32))] (.int (0 : Int32))) (ne_a0_a2 : a0 ≠ a2) (g_a2 : n0 ≤ a2) (hu0 : ¬ ((255 : Int32) < u0)) (hu1 : ¬ ((255 : Int32) < u1)) :
    MetFree l (⟨"java/lang/StringUTF16", "compress", "([CI[BII)I"⟩ : MethodName) (head1 (Jvm.Cond.code (⟨"java/lang/StringUTF16", "compress", "([CI[BII)I"⟩ : MethodName) jdk_52_method_21_code 7 (some .int) :: ws) ({ frames := 0, cells := 0, slots := 0, locals := 0 } : Room)) (fun a U => a = #[(.ref a0), (.int (0 : Int32)), (.ref a2), (.int (0 : Int32)), (.int (2 : Int32))] ∧ Z.Warmed39 U.vm ∧ U.heap = h0) (fun _ _ _ _ _ => True) (fun _ U o U' => ∃ v L, o = .returned v ∧ Q_c5_2 Z a0 a2 kc kb u0 u1 h0 n0 v U'.heap L ∧ FrameEnd U o U' L ({ frames := 0, cells := 0, slots := 0, locals := 0 } : Room).cells ({ frames := 0, cells := 0, slots := 0, locals := 0 } : Room).slots) := by
  refine MetFree.of_bodySF (plainFor_of_name pn_0) hisR ?_
  intro p e s m args below meth c s₁ Bd hml0 hP hK
  obtain ⟨rfl, hZ, hh⟩ := hP
  have hx := Bd.exec
  have hby := Bd.bytes
  have hml : c.maxLocals = 7 := hml0
  have hown : s.vm.findClass "java/lang/StringUTF16" = some m.cls := findClass_of_methodNamed Bd.named
  have hnm := (name_of_methodNamed Bd.named Bd.method).1
  have X0 : Stand p l e ({ frames := 0, cells := 0, slots := 0, locals := 0 } : Room) s m #[(.ref a0), (.int (0 : Int32)), (.ref a2), (.int (0 : Int32)), (.int (2 : Int32))] below meth c s₁ [] 0 0 := Stand.of_body Bd
  have e0 : s₁.heap = h0 := by rw [← hh, Bd.state]; rfl
  have N0 := Fr.nil n0
  have pre0 : ∀ t, Steps p.tables e below (s₁.setTop (mkF m 0 #[.val (.ref a0), .val (.int (0 : Int32)), .val (.ref a2), .val (.int (0 : Int32)), .val (.int (2 : Int32)), .unset, .unset] [])) t → Steps p.tables e below (s₁.setTop (entryFrame m #[(.ref a0), (.int (0 : Int32)), (.ref a2), (.int (0 : Int32)), (.int (2 : Int32))] 7)) t := fun t k => castTop (ef_c5_2 m a0 a2) k
  have KC0 : Keep h0 h0 [a2] := Keep.refl h0 [a2]
  obtain ⟨cl209, Ar209, q209, S209, N209, H209, G209⟩ := id V_a0
  have hin209 : ¬ ((0 : Int32) < 0 ∨ cl209.slots.size ≤ ((0 : Int32)).toNatClampNeg) := inb_of S209 ⟨by decide, by decide⟩
  have hat209 : cl209.slots[((0 : Int32)).toNatClampNeg]? = some (.int u0) := Has.at H209 hin209 rfl
  have c210 : ¬ ((255 : Int32) < u0) := by
    exact hu0
  obtain ⟨cl211, Ar211, q211, S211, N211, H211, G211⟩ := id V_a2
  have hin211 : ¬ ((0 : Int32) < 0 ∨ cl211.slots.size ≤ ((0 : Int32)).toNatClampNeg) := inb_of S211 ⟨by decide, by decide⟩
  obtain ⟨T211, h211, X211, e211, W211, st211⟩ := stB X0 hx hZ e0 Ar211 (j := (0 : Int32)) hin211 (g := (mkF m 31 #[.val (.ref a0), .val (.int (0 : Int32)), .val (.ref a2), .val (.int (0 : Int32)), .val (.int (2 : Int32)), .val (.int (0 : Int32)), .val (.int u0)] [(.int (u0.toInt8.toInt32)), (.int (0 : Int32)), (.ref a2)])) rfl rfl (hb hby d11_31)
  have f212 := V_a0.other W211 ne_a0_a2
  have Z213 : n0 ≤ h211.size := Nat.le_trans Z0 (Keep.of_wr W211).1
  have K214 : Keep h0 h211 [a2] := Keep.wr KC0 W211 (Or.inl (List.mem_of_getElem? (i := 0) rfl))
  have N215 := Fr.snoc X211 N0 g_a2
  have f216 : Arv Z h211 a2 kb .byte (2 : Int32) [(.int (nar .byte (u0.toInt8.toInt32))), (.int (0 : Int32))] (.int (0 : Int32)) := Arv.set Ar211 q211 S211 N211 H211 G211 (fits_nar_byte _) W211 0 rfl (Nat.le_of_ble_eq_true rfl)
  obtain ⟨cl217, Ar217, q217, S217, N217, H217, G217⟩ := id f212
  have hin217 : ¬ ((1 : Int32) < 0 ∨ cl217.slots.size ≤ ((1 : Int32)).toNatClampNeg) := inb_of S217 ⟨by decide, by decide⟩
  have hat217 : cl217.slots[((1 : Int32)).toNatClampNeg]? = some (.int u1) := Has.at H217 hin217 rfl
  have c218 : ¬ ((255 : Int32) < u1) := by
    exact hu1
  obtain ⟨cl219, Ar219, q219, S219, N219, H219, G219⟩ := id f216
  have hin219 : ¬ ((1 : Int32) < 0 ∨ cl219.slots.size ≤ ((1 : Int32)).toNatClampNeg) := inb_of S219 ⟨by decide, by decide⟩
  obtain ⟨T219, h219, X219, e219, W219, st219⟩ := stB X211 hx hZ e211 Ar219 (j := (1 : Int32)) hin219 (g := (mkF m 31 #[.val (.ref a0), .val (.int (1 : Int32)), .val (.ref a2), .val (.int (1 : Int32)), .val (.int (2 : Int32)), .val (.int (1 : Int32)), .val (.int u1)] [(.int (u1.toInt8.toInt32)), (.int (1 : Int32)), (.ref a2)])) rfl rfl (hb hby d11_31)
  have f220 := f212.other W219 ne_a0_a2
  have Z221 : n0 ≤ h219.size := Nat.le_trans Z213 (Keep.of_wr W219).1
  have K222 : Keep h0 h219 [a2] := Keep.wr K214 W219 (Or.inl (List.mem_of_getElem? (i := 0) rfl))
  have N223 := Fr.snoc X219 N215 g_a2
  have f224 : Arv Z h219 a2 kb .byte (2 : Int32) [(.int (nar .byte (u0.toInt8.toInt32))), (.int (nar .byte (u1.toInt8.toInt32)))] (.int (0 : Int32)) := Arv.set Ar219 q219 S219 N219 H219 G219 (fits_nar_byte _) W219 1 rfl (Nat.le_of_ble_eq_true rfl)
  obtain ⟨fs, hr, hrun, hended, hW, hsame⟩ := X219.leave (v := some (.int (2 : Int32))) (fun h => by rw [Bd.returns] at h; cases h)
  refine ⟨_, _, pre0 _ ?_, hrun, hended, _, _, rfl, ?_, ⟨_, rfl⟩, hW, hsame.mono (by decide) (by decide)⟩
  ·
    show Steps p.tables e below (s₁.setTop (mkF m 0 #[.val (.ref a0), .val (.int (0 : Int32)), .val (.ref a2), .val (.int (0 : Int32)), .val (.int (2 : Int32)), .unset, .unset] [])) _
    refine XS.iconst X0.here hx rfl (hb hby d11_0) ?_
    show Steps p.tables e below (s₁.setTop (mkF m 1 #[.val (.ref a0), .val (.int (0 : Int32)), .val (.ref a2), .val (.int (0 : Int32)), .val (.int (2 : Int32)), .unset, .unset] [(.int (0 : Int32))])) _
    refine XS.istore X0.here hx rfl (hb hby d11_1) rfl (l' := #[.val (.ref a0), .val (.int (0 : Int32)), .val (.ref a2), .val (.int (0 : Int32)), .val (.int (2 : Int32)), .val (.int (0 : Int32)), .unset]) rfl ?_
    show Steps p.tables e below (s₁.setTop (mkF m 3 #[.val (.ref a0), .val (.int (0 : Int32)), .val (.ref a2), .val (.int (0 : Int32)), .val (.int (2 : Int32)), .val (.int (0 : Int32)), .unset] [])) _
    refine XS.iload X0.here hx rfl (hb hby d11_3) rfl ?_
    show Steps p.tables e below (s₁.setTop (mkF m 5 #[.val (.ref a0), .val (.int (0 : Int32)), .val (.ref a2), .val (.int (0 : Int32)), .val (.int (2 : Int32)), .val (.int (0 : Int32)), .unset] [(.int (0 : Int32))])) _
    refine XS.iload X0.here hx rfl (hb hby d11_5) rfl ?_
    show Steps p.tables e below (s₁.setTop (mkF m 7 #[.val (.ref a0), .val (.int (0 : Int32)), .val (.ref a2), .val (.int (0 : Int32)), .val (.int (2 : Int32)), .val (.int (0 : Int32)), .unset] [(.int (2 : Int32)), (.int (0 : Int32))])) _
    refine XS.icmpNo X0.here hx rfl (hb hby d11_7) rfl (tlt (by decide)).2.1 ?_
    show Steps p.tables e below (s₁.setTop (mkF m 10 #[.val (.ref a0), .val (.int (0 : Int32)), .val (.ref a2), .val (.int (0 : Int32)), .val (.int (2 : Int32)), .val (.int (0 : Int32)), .unset] [])) _
    refine XS.aloadN X0.here hx rfl (hb hby d11_10) rfl rfl ?_
    show Steps p.tables e below (s₁.setTop (mkF m 11 #[.val (.ref a0), .val (.int (0 : Int32)), .val (.ref a2), .val (.int (0 : Int32)), .val (.int (2 : Int32)), .val (.int (0 : Int32)), .unset] [(.ref a0)])) _
    refine XS.iloadN X0.here hx rfl (hb hby d11_11) rfl ?_
    show Steps p.tables e below (s₁.setTop (mkF m 12 #[.val (.ref a0), .val (.int (0 : Int32)), .val (.ref a2), .val (.int (0 : Int32)), .val (.int (2 : Int32)), .val (.int (0 : Int32)), .unset] [(.int (0 : Int32)), (.ref a0)])) _
    refine X0.caload hx (j := (0 : Int32)) (v := (.int u0)) (by rw [e0]; exact Ar209.1) (State.isArrayOf_alike hZ.alike Ar209.2.1) Ar209.2.2 hin209 hat209 (g := (mkF m 12 #[.val (.ref a0), .val (.int (0 : Int32)), .val (.ref a2), .val (.int (0 : Int32)), .val (.int (2 : Int32)), .val (.int (0 : Int32)), .unset] [(.int (0 : Int32)), (.ref a0)])) rfl rfl (hb hby d11_12) _ ?_
    show Steps p.tables e below (s₁.setTop (mkF m 13 #[.val (.ref a0), .val (.int (0 : Int32)), .val (.ref a2), .val (.int (0 : Int32)), .val (.int (2 : Int32)), .val (.int (0 : Int32)), .unset] [(.int u0)])) _
    refine XS.istore X0.here hx rfl (hb hby d11_13) rfl (l' := #[.val (.ref a0), .val (.int (0 : Int32)), .val (.ref a2), .val (.int (0 : Int32)), .val (.int (2 : Int32)), .val (.int (0 : Int32)), .val (.int u0)]) rfl ?_
    show Steps p.tables e below (s₁.setTop (mkF m 15 #[.val (.ref a0), .val (.int (0 : Int32)), .val (.ref a2), .val (.int (0 : Int32)), .val (.int (2 : Int32)), .val (.int (0 : Int32)), .val (.int u0)] [])) _
    refine XS.iload X0.here hx rfl (hb hby d11_15) rfl ?_
    show Steps p.tables e below (s₁.setTop (mkF m 17 #[.val (.ref a0), .val (.int (0 : Int32)), .val (.ref a2), .val (.int (0 : Int32)), .val (.int (2 : Int32)), .val (.int (0 : Int32)), .val (.int u0)] [(.int u0)])) _
    refine XS.sipush X0.here hx rfl (hb hby d11_17) ?_
    show Steps p.tables e below (s₁.setTop (mkF m 20 #[.val (.ref a0), .val (.int (0 : Int32)), .val (.ref a2), .val (.int (0 : Int32)), .val (.int (2 : Int32)), .val (.int (0 : Int32)), .val (.int u0)] [(.int (255 : Int32)), (.int u0)])) _
    refine XS.icmpYes X0.here hx rfl (pc0 := 20) (pc' := 26) rfl (hb hby d11_20) rfl (flt c210).2.2.2 (by decide) (by decide) ?_
    show Steps p.tables e below (s₁.setTop (mkF m 26 #[.val (.ref a0), .val (.int (0 : Int32)), .val (.ref a2), .val (.int (0 : Int32)), .val (.int (2 : Int32)), .val (.int (0 : Int32)), .val (.int u0)] [])) _
    refine XS.aloadN X0.here hx rfl (hb hby d11_26) rfl rfl ?_
    show Steps p.tables e below (s₁.setTop (mkF m 27 #[.val (.ref a0), .val (.int (0 : Int32)), .val (.ref a2), .val (.int (0 : Int32)), .val (.int (2 : Int32)), .val (.int (0 : Int32)), .val (.int u0)] [(.ref a2)])) _
    refine XS.iloadN X0.here hx rfl (hb hby d11_27) rfl ?_
    show Steps p.tables e below (s₁.setTop (mkF m 28 #[.val (.ref a0), .val (.int (0 : Int32)), .val (.ref a2), .val (.int (0 : Int32)), .val (.int (2 : Int32)), .val (.int (0 : Int32)), .val (.int u0)] [(.int (0 : Int32)), (.ref a2)])) _
    refine XS.iload X0.here hx rfl (hb hby d11_28) rfl ?_
    show Steps p.tables e below (s₁.setTop (mkF m 30 #[.val (.ref a0), .val (.int (0 : Int32)), .val (.ref a2), .val (.int (0 : Int32)), .val (.int (2 : Int32)), .val (.int (0 : Int32)), .val (.int u0)] [(.int u0), (.int (0 : Int32)), (.ref a2)])) _
    refine XS.i2b X0.here hx rfl (hb hby d11_30) rfl ?_
    show Steps p.tables e below (s₁.setTop (mkF m 31 #[.val (.ref a0), .val (.int (0 : Int32)), .val (.ref a2), .val (.int (0 : Int32)), .val (.int (2 : Int32)), .val (.int (0 : Int32)), .val (.int u0)] [(.int (u0.toInt8.toInt32)), (.int (0 : Int32)), (.ref a2)])) _
    refine st211 _ ?_
    show Steps p.tables e below (T211.setTop (mkF m 32 #[.val (.ref a0), .val (.int (0 : Int32)), .val (.ref a2), .val (.int (0 : Int32)), .val (.int (2 : Int32)), .val (.int (0 : Int32)), .val (.int u0)] [])) _
    refine XS.iinc X211.here hx rfl (hb hby d11_32) rfl (l' := #[.val (.ref a0), .val (.int (1 : Int32)), .val (.ref a2), .val (.int (0 : Int32)), .val (.int (2 : Int32)), .val (.int (0 : Int32)), .val (.int u0)]) rfl ?_
    show Steps p.tables e below (T211.setTop (mkF m 35 #[.val (.ref a0), .val (.int (1 : Int32)), .val (.ref a2), .val (.int (0 : Int32)), .val (.int (2 : Int32)), .val (.int (0 : Int32)), .val (.int u0)] [])) _
    refine XS.iinc X211.here hx rfl (hb hby d11_35) rfl (l' := #[.val (.ref a0), .val (.int (1 : Int32)), .val (.ref a2), .val (.int (1 : Int32)), .val (.int (2 : Int32)), .val (.int (0 : Int32)), .val (.int u0)]) rfl ?_
    show Steps p.tables e below (T211.setTop (mkF m 38 #[.val (.ref a0), .val (.int (1 : Int32)), .val (.ref a2), .val (.int (1 : Int32)), .val (.int (2 : Int32)), .val (.int (0 : Int32)), .val (.int u0)] [])) _
    refine XS.iinc X211.here hx rfl (hb hby d11_38) rfl (l' := #[.val (.ref a0), .val (.int (1 : Int32)), .val (.ref a2), .val (.int (1 : Int32)), .val (.int (2 : Int32)), .val (.int (1 : Int32)), .val (.int u0)]) rfl ?_
    show Steps p.tables e below (T211.setTop (mkF m 41 #[.val (.ref a0), .val (.int (1 : Int32)), .val (.ref a2), .val (.int (1 : Int32)), .val (.int (2 : Int32)), .val (.int (1 : Int32)), .val (.int u0)] [])) _
    refine XS.goto X211.here hx rfl (pc0 := 41) (pc' := 3) rfl (hb hby d11_41) (by decide) (by decide) ?_
    show Steps p.tables e below (T211.setTop (mkF m 3 #[.val (.ref a0), .val (.int (1 : Int32)), .val (.ref a2), .val (.int (1 : Int32)), .val (.int (2 : Int32)), .val (.int (1 : Int32)), .val (.int u0)] [])) _
    refine XS.iload X211.here hx rfl (hb hby d11_3) rfl ?_
    show Steps p.tables e below (T211.setTop (mkF m 5 #[.val (.ref a0), .val (.int (1 : Int32)), .val (.ref a2), .val (.int (1 : Int32)), .val (.int (2 : Int32)), .val (.int (1 : Int32)), .val (.int u0)] [(.int (1 : Int32))])) _
    refine XS.iload X211.here hx rfl (hb hby d11_5) rfl ?_
    show Steps p.tables e below (T211.setTop (mkF m 7 #[.val (.ref a0), .val (.int (1 : Int32)), .val (.ref a2), .val (.int (1 : Int32)), .val (.int (2 : Int32)), .val (.int (1 : Int32)), .val (.int u0)] [(.int (2 : Int32)), (.int (1 : Int32))])) _
    refine XS.icmpNo X211.here hx rfl (hb hby d11_7) rfl (tlt (by decide)).2.1 ?_
    show Steps p.tables e below (T211.setTop (mkF m 10 #[.val (.ref a0), .val (.int (1 : Int32)), .val (.ref a2), .val (.int (1 : Int32)), .val (.int (2 : Int32)), .val (.int (1 : Int32)), .val (.int u0)] [])) _
    refine XS.aloadN X211.here hx rfl (hb hby d11_10) rfl rfl ?_
    show Steps p.tables e below (T211.setTop (mkF m 11 #[.val (.ref a0), .val (.int (1 : Int32)), .val (.ref a2), .val (.int (1 : Int32)), .val (.int (2 : Int32)), .val (.int (1 : Int32)), .val (.int u0)] [(.ref a0)])) _
    refine XS.iloadN X211.here hx rfl (hb hby d11_11) rfl ?_
    show Steps p.tables e below (T211.setTop (mkF m 12 #[.val (.ref a0), .val (.int (1 : Int32)), .val (.ref a2), .val (.int (1 : Int32)), .val (.int (2 : Int32)), .val (.int (1 : Int32)), .val (.int u0)] [(.int (1 : Int32)), (.ref a0)])) _
    refine X211.caload hx (j := (1 : Int32)) (v := (.int u1)) (by rw [e211]; exact Ar217.1) (State.isArrayOf_alike hZ.alike Ar217.2.1) Ar217.2.2 hin217 hat217 (g := (mkF m 12 #[.val (.ref a0), .val (.int (1 : Int32)), .val (.ref a2), .val (.int (1 : Int32)), .val (.int (2 : Int32)), .val (.int (1 : Int32)), .val (.int u0)] [(.int (1 : Int32)), (.ref a0)])) rfl rfl (hb hby d11_12) _ ?_
    show Steps p.tables e below (T211.setTop (mkF m 13 #[.val (.ref a0), .val (.int (1 : Int32)), .val (.ref a2), .val (.int (1 : Int32)), .val (.int (2 : Int32)), .val (.int (1 : Int32)), .val (.int u0)] [(.int u1)])) _
    refine XS.istore X211.here hx rfl (hb hby d11_13) rfl (l' := #[.val (.ref a0), .val (.int (1 : Int32)), .val (.ref a2), .val (.int (1 : Int32)), .val (.int (2 : Int32)), .val (.int (1 : Int32)), .val (.int u1)]) rfl ?_
    show Steps p.tables e below (T211.setTop (mkF m 15 #[.val (.ref a0), .val (.int (1 : Int32)), .val (.ref a2), .val (.int (1 : Int32)), .val (.int (2 : Int32)), .val (.int (1 : Int32)), .val (.int u1)] [])) _
    refine XS.iload X211.here hx rfl (hb hby d11_15) rfl ?_
    show Steps p.tables e below (T211.setTop (mkF m 17 #[.val (.ref a0), .val (.int (1 : Int32)), .val (.ref a2), .val (.int (1 : Int32)), .val (.int (2 : Int32)), .val (.int (1 : Int32)), .val (.int u1)] [(.int u1)])) _
    refine XS.sipush X211.here hx rfl (hb hby d11_17) ?_
    show Steps p.tables e below (T211.setTop (mkF m 20 #[.val (.ref a0), .val (.int (1 : Int32)), .val (.ref a2), .val (.int (1 : Int32)), .val (.int (2 : Int32)), .val (.int (1 : Int32)), .val (.int u1)] [(.int (255 : Int32)), (.int u1)])) _
    refine XS.icmpYes X211.here hx rfl (pc0 := 20) (pc' := 26) rfl (hb hby d11_20) rfl (flt c218).2.2.2 (by decide) (by decide) ?_
    show Steps p.tables e below (T211.setTop (mkF m 26 #[.val (.ref a0), .val (.int (1 : Int32)), .val (.ref a2), .val (.int (1 : Int32)), .val (.int (2 : Int32)), .val (.int (1 : Int32)), .val (.int u1)] [])) _
    refine XS.aloadN X211.here hx rfl (hb hby d11_26) rfl rfl ?_
    show Steps p.tables e below (T211.setTop (mkF m 27 #[.val (.ref a0), .val (.int (1 : Int32)), .val (.ref a2), .val (.int (1 : Int32)), .val (.int (2 : Int32)), .val (.int (1 : Int32)), .val (.int u1)] [(.ref a2)])) _
    refine XS.iloadN X211.here hx rfl (hb hby d11_27) rfl ?_
    show Steps p.tables e below (T211.setTop (mkF m 28 #[.val (.ref a0), .val (.int (1 : Int32)), .val (.ref a2), .val (.int (1 : Int32)), .val (.int (2 : Int32)), .val (.int (1 : Int32)), .val (.int u1)] [(.int (1 : Int32)), (.ref a2)])) _
    refine XS.iload X211.here hx rfl (hb hby d11_28) rfl ?_
    show Steps p.tables e below (T211.setTop (mkF m 30 #[.val (.ref a0), .val (.int (1 : Int32)), .val (.ref a2), .val (.int (1 : Int32)), .val (.int (2 : Int32)), .val (.int (1 : Int32)), .val (.int u1)] [(.int u1), (.int (1 : Int32)), (.ref a2)])) _
    refine XS.i2b X211.here hx rfl (hb hby d11_30) rfl ?_
    show Steps p.tables e below (T211.setTop (mkF m 31 #[.val (.ref a0), .val (.int (1 : Int32)), .val (.ref a2), .val (.int (1 : Int32)), .val (.int (2 : Int32)), .val (.int (1 : Int32)), .val (.int u1)] [(.int (u1.toInt8.toInt32)), (.int (1 : Int32)), (.ref a2)])) _
    refine st219 _ ?_
    show Steps p.tables e below (T219.setTop (mkF m 32 #[.val (.ref a0), .val (.int (1 : Int32)), .val (.ref a2), .val (.int (1 : Int32)), .val (.int (2 : Int32)), .val (.int (1 : Int32)), .val (.int u1)] [])) _
    refine XS.iinc X219.here hx rfl (hb hby d11_32) rfl (l' := #[.val (.ref a0), .val (.int (2 : Int32)), .val (.ref a2), .val (.int (1 : Int32)), .val (.int (2 : Int32)), .val (.int (1 : Int32)), .val (.int u1)]) rfl ?_
    show Steps p.tables e below (T219.setTop (mkF m 35 #[.val (.ref a0), .val (.int (2 : Int32)), .val (.ref a2), .val (.int (1 : Int32)), .val (.int (2 : Int32)), .val (.int (1 : Int32)), .val (.int u1)] [])) _
    refine XS.iinc X219.here hx rfl (hb hby d11_35) rfl (l' := #[.val (.ref a0), .val (.int (2 : Int32)), .val (.ref a2), .val (.int (2 : Int32)), .val (.int (2 : Int32)), .val (.int (1 : Int32)), .val (.int u1)]) rfl ?_
    show Steps p.tables e below (T219.setTop (mkF m 38 #[.val (.ref a0), .val (.int (2 : Int32)), .val (.ref a2), .val (.int (2 : Int32)), .val (.int (2 : Int32)), .val (.int (1 : Int32)), .val (.int u1)] [])) _
    refine XS.iinc X219.here hx rfl (hb hby d11_38) rfl (l' := #[.val (.ref a0), .val (.int (2 : Int32)), .val (.ref a2), .val (.int (2 : Int32)), .val (.int (2 : Int32)), .val (.int (2 : Int32)), .val (.int u1)]) rfl ?_
    show Steps p.tables e below (T219.setTop (mkF m 41 #[.val (.ref a0), .val (.int (2 : Int32)), .val (.ref a2), .val (.int (2 : Int32)), .val (.int (2 : Int32)), .val (.int (2 : Int32)), .val (.int u1)] [])) _
    refine XS.goto X219.here hx rfl (pc0 := 41) (pc' := 3) rfl (hb hby d11_41) (by decide) (by decide) ?_
    show Steps p.tables e below (T219.setTop (mkF m 3 #[.val (.ref a0), .val (.int (2 : Int32)), .val (.ref a2), .val (.int (2 : Int32)), .val (.int (2 : Int32)), .val (.int (2 : Int32)), .val (.int u1)] [])) _
    refine XS.iload X219.here hx rfl (hb hby d11_3) rfl ?_
    show Steps p.tables e below (T219.setTop (mkF m 5 #[.val (.ref a0), .val (.int (2 : Int32)), .val (.ref a2), .val (.int (2 : Int32)), .val (.int (2 : Int32)), .val (.int (2 : Int32)), .val (.int u1)] [(.int (2 : Int32))])) _
    refine XS.iload X219.here hx rfl (hb hby d11_5) rfl ?_
    show Steps p.tables e below (T219.setTop (mkF m 7 #[.val (.ref a0), .val (.int (2 : Int32)), .val (.ref a2), .val (.int (2 : Int32)), .val (.int (2 : Int32)), .val (.int (2 : Int32)), .val (.int u1)] [(.int (2 : Int32)), (.int (2 : Int32))])) _
    refine XS.icmpYes X219.here hx rfl (pc0 := 7) (pc' := 44) rfl (hb hby d11_7) rfl (flt (by decide)).2.1 (by decide) (by decide) ?_
    show Steps p.tables e below (T219.setTop (mkF m 44 #[.val (.ref a0), .val (.int (2 : Int32)), .val (.ref a2), .val (.int (2 : Int32)), .val (.int (2 : Int32)), .val (.int (2 : Int32)), .val (.int u1)] [])) _
    refine XS.iload X219.here hx rfl (hb hby d11_44) rfl ?_
    show Steps p.tables e below (T219.setTop (mkF m 46 #[.val (.ref a0), .val (.int (2 : Int32)), .val (.ref a2), .val (.int (2 : Int32)), .val (.int (2 : Int32)), .val (.int (2 : Int32)), .val (.int u1)] [(.int (2 : Int32))])) _
    exact retI X219 hx Bd.returns (hb hby d11_46) hr
  ·
    show Q_c5_2 Z a0 a2 kc kb u0 u1 h0 n0 _ T219.heap _
    rw [e219]
    exact ⟨rfl, N223, K222, f224⟩
theorem ef_c3_2 (m : MethodId) (a0 : Addr) : entryFrame m #[(.ref a0), (.int (0 : Int32)), (.int (2 : Int32))] 6 = mkF m 0 #[.val (.ref a0), .val (.int (0 : Int32)), .val (.int (2 : Int32)), .unset, .unset, .unset] [] := by first | (simp [entryFrame, mkF, argsToLocals, Value.category]; done) | rfl
def Q_c3_2 (Z : State) (a0 : Addr) (kc : ClassId) (u0 : Int32) (u1 : Int32) (h0 : Heap) (n0 : Nat) (v : Option Value) (h : Heap) (L : List Loc) : Prop := ∃ b : Addr, ∃ kb : ClassId, v = some (.ref b) ∧ Fr n0 L ∧ Keep h0 h [] ∧ h0.size ≤ b ∧ Arv Z h b kb .byte (2 : Int32) [(.int (nar .byte (u0.toInt8.toInt32))), (.int (nar .byte (u1.toInt8.toInt32)))] (.int (0 : Int32))
set_option maxRecDepth 65536 in
set_option maxHeartbeats 40000000 in
theorem c3_2 (l : Launch) (Z : State) (aw : Array Value) (hw : ∀ d ∈ tables_1, d.before aw Z = true) (ws : List Jvm.Cond) (a0 : Addr) (kc : ClassId) (u0 : Int32) (u1 : Int32) (h0 : Heap) (n0 : Nat) (Z0 : n0 ≤ h0.size) (V_a0 : Arv Z h0 a0 kc .char (2 : Int32) [(.int u0), (.int u1)] (.int (0 : Int32))) (hu0 : ¬ ((255 : Int32) < u0)) (hu1 : ¬ ((255 : Int32) < u1)) :
    MetFree l (⟨"java/lang/StringUTF16", "compress", "([CII)[B"⟩ : MethodName) (head1 (Jvm.Cond.code (⟨"java/lang/StringUTF16", "compress", "([CII)[B"⟩ : MethodName) jdk_52_method_16_code 6 (some (.array .byte)) :: ws) ({ frames := 1, cells := 1, slots := 2, locals := 18 } : Room)) (fun a U => a = #[(.ref a0), (.int (0 : Int32)), (.int (2 : Int32))] ∧ Z.Warmed39 U.vm ∧ U.heap = h0) (fun _ _ _ _ _ => True) (fun _ U o U' => ∃ v L, o = .returned v ∧ Q_c3_2 Z a0 kc u0 u1 h0 n0 v U'.heap L ∧ FrameEnd U o U' L ({ frames := 1, cells := 1, slots := 2, locals := 18 } : Room).cells ({ frames := 1, cells := 1, slots := 2, locals := 18 } : Room).slots) := by
  refine MetFree.of_bodySF (plainFor_of_name pn_0) hisR ?_
  intro p e s m args below meth c s₁ Bd hml0 hP hK
  obtain ⟨rfl, hZ, hh⟩ := hP
  have hx := Bd.exec
  have hby := Bd.bytes
  have hml : c.maxLocals = 6 := hml0
  have hown : s.vm.findClass "java/lang/StringUTF16" = some m.cls := findClass_of_methodNamed Bd.named
  have hnm := (name_of_methodNamed Bd.named Bd.method).1
  have X0 : Stand p l e ({ frames := 1, cells := 1, slots := 2, locals := 18 } : Room) s m #[(.ref a0), (.int (0 : Int32)), (.int (2 : Int32))] below meth c s₁ [] 0 0 := Stand.of_body Bd
  have e0 : s₁.heap = h0 := by rw [← hh, Bd.state]; rfl
  have N0 := Fr.nil n0
  have pre0 : ∀ t, Steps p.tables e below (s₁.setTop (mkF m 0 #[.val (.ref a0), .val (.int (0 : Int32)), .val (.int (2 : Int32)), .unset, .unset, .unset] [])) t → Steps p.tables e below (s₁.setTop (entryFrame m #[(.ref a0), (.int (0 : Int32)), (.int (2 : Int32))] 6)) t := fun t k => castTop (ef_c3_2 m a0) k
  have KC0 : Keep h0 h0 [] := Keep.refl h0 []
  obtain ⟨T225, h225, k225, X225, e225, E225, A225, kc225, st225⟩ := newPk X0 hx hZ (hw _ (List.mem_of_getElem? (i := 19) rfl)) e0 (g := (mkF m 1 #[.val (.ref a0), .val (.int (0 : Int32)), .val (.int (2 : Int32)), .unset, .unset, .unset] [(.int (2 : Int32))])) rfl (hb hby d10_1) rfl (by decide) (cap := 2) (by decide) (by decide) (by decide) (by decide)
  obtain ⟨b225, g225⟩ : ∃ z_, z_ = h0.size := ⟨_, rfl⟩
  rw [← g225] at A225 st225
  have ne226 : a0 ≠ b225 := Nat.ne_of_lt (Nat.lt_of_lt_of_le V_a0.lt (Nat.le_of_eq g225.symm))
  have gn227 : n0 ≤ b225 := Nat.le_trans Z0 (Nat.le_of_eq g225.symm)
  have sz228 : h0.size ≤ b225 := Nat.le_trans KC0.1 (Nat.le_of_eq g225.symm)
  have f229 := V_a0.ext E225
  have Z230 : n0 ≤ h225.size := Nat.le_trans Z0 E225.1
  have K231 : Keep h0 h225 [] := Keep.ext KC0 E225
  have f232 : Arv Z h225 b225 k225 .byte (2 : Int32) [(.int (0 : Int32)), (.int (0 : Int32))] (.int (0 : Int32)) := (Arv.new A225 (by decide)).pad (pad_rep [] (.int (0 : Int32)) 2)
  obtain ⟨_, _, ⟨T233, L233, k233, n233⟩, -, X233, ⟨Lc233, hQ233, l233, y233, z233⟩, st233⟩ := Jvm.LawKit.callS X225 hx (y := (⟨"java/lang/StringUTF16", "compress", "([CI[BII)I"⟩ : MethodName)) hown (mvT hZ (hw _ (List.mem_of_getElem? (i := 59) rfl))) (mvT hZ (hw _ (List.mem_of_getElem? (i := 60) rfl))) (mvT hZ (hw _ (List.mem_of_getElem? (i := 57) rfl))) (mvT hZ (hw _ (List.mem_of_getElem? (i := 61) rfl))) (by decide) (backOf (W := 0) (c5_2 l Z aw hw [] a0 b225 kc k225 u0 u1 h225 n0 Z230 f229 f232 ne226 gn227 hu0 hu1) hZ (hw _ (List.mem_of_getElem? (i := 61) rfl)) (hw _ (List.mem_of_getElem? (i := 57) rfl)) (by decide) (by decide)) (g := (mkF m 9 #[.val (.ref a0), .val (.int (0 : Int32)), .val (.int (2 : Int32)), .val (.ref b225), .unset, .unset] [(.int (2 : Int32)), (.int (0 : Int32)), (.ref b225), (.int (0 : Int32)), (.ref a0)])) rfl (by rw [hml]; rfl) (argsL := [(.ref a0), (.int (0 : Int32)), (.ref b225), (.int (0 : Int32)), (.int (2 : Int32))]) (rest := []) (lenOf pd_0 rfl) rfl (by show 2 * 0 + _ ≤ _; exact Nat.le_of_eq rfl) (hb hby d10_9) (fun _ _ => ⟨rfl, e225, (by decide : 1 + 0 ≤ _), (by decide : 2 + 0 ≤ _)⟩)
  dsimp only [Pt.U, Pt.locs, Pt.cells, Pt.slots] at X233 l233 y233 z233 st233 hQ233
  replace l233 := l233.symm; replace y233 := y233.symm; replace z233 := z233.symm; subst l233 y233 z233
  obtain ⟨rfl, N233q, K233, f234⟩ := hQ233
  have N233 := Fr.app N0 N233q
  have f235 := f229.keep K233 (ninS ne226 nin0)
  have Z236 : n0 ≤ T233.heap.size := Nat.le_trans Z230 K233.1
  have K237 : Keep h0 T233.heap [] := Keep.trans K231 K233 (allS (Or.inr sz228) all0)
  obtain ⟨fs, hr, hrun, hended, hW, hsame⟩ := X233.leave (v := some (.ref b225)) (fun h => by rw [Bd.returns] at h; cases h)
  refine ⟨_, _, pre0 _ ?_, hrun, hended, _, _, rfl, ?_, ⟨_, rfl⟩, hW, hsame.mono (by decide) (by decide)⟩
  ·
    show Steps p.tables e below (s₁.setTop (mkF m 0 #[.val (.ref a0), .val (.int (0 : Int32)), .val (.int (2 : Int32)), .unset, .unset, .unset] [])) _
    refine XS.iloadN X0.here hx rfl (hb hby d10_0) rfl ?_
    show Steps p.tables e below (s₁.setTop (mkF m 1 #[.val (.ref a0), .val (.int (0 : Int32)), .val (.int (2 : Int32)), .unset, .unset, .unset] [(.int (2 : Int32))])) _
    refine st225 _ ?_
    show Steps p.tables e below (T225.setTop (mkF m 3 #[.val (.ref a0), .val (.int (0 : Int32)), .val (.int (2 : Int32)), .unset, .unset, .unset] [(.ref b225)])) _
    refine XS.astoreN X225.here hx rfl (hb hby d10_3) rfl rfl (l' := #[.val (.ref a0), .val (.int (0 : Int32)), .val (.int (2 : Int32)), .val (.ref b225), .unset, .unset]) rfl ?_
    show Steps p.tables e below (T225.setTop (mkF m 4 #[.val (.ref a0), .val (.int (0 : Int32)), .val (.int (2 : Int32)), .val (.ref b225), .unset, .unset] [])) _
    refine XS.aloadN X225.here hx rfl (hb hby d10_4) rfl rfl ?_
    show Steps p.tables e below (T225.setTop (mkF m 5 #[.val (.ref a0), .val (.int (0 : Int32)), .val (.int (2 : Int32)), .val (.ref b225), .unset, .unset] [(.ref a0)])) _
    refine XS.iloadN X225.here hx rfl (hb hby d10_5) rfl ?_
    show Steps p.tables e below (T225.setTop (mkF m 6 #[.val (.ref a0), .val (.int (0 : Int32)), .val (.int (2 : Int32)), .val (.ref b225), .unset, .unset] [(.int (0 : Int32)), (.ref a0)])) _
    refine XS.aloadN X225.here hx rfl (hb hby d10_6) rfl rfl ?_
    show Steps p.tables e below (T225.setTop (mkF m 7 #[.val (.ref a0), .val (.int (0 : Int32)), .val (.int (2 : Int32)), .val (.ref b225), .unset, .unset] [(.ref b225), (.int (0 : Int32)), (.ref a0)])) _
    refine XS.iconst X225.here hx rfl (hb hby d10_7) ?_
    show Steps p.tables e below (T225.setTop (mkF m 8 #[.val (.ref a0), .val (.int (0 : Int32)), .val (.int (2 : Int32)), .val (.ref b225), .unset, .unset] [(.int (0 : Int32)), (.ref b225), (.int (0 : Int32)), (.ref a0)])) _
    refine XS.iloadN X225.here hx rfl (hb hby d10_8) rfl ?_
    show Steps p.tables e below (T225.setTop (mkF m 9 #[.val (.ref a0), .val (.int (0 : Int32)), .val (.int (2 : Int32)), .val (.ref b225), .unset, .unset] [(.int (2 : Int32)), (.int (0 : Int32)), (.ref b225), (.int (0 : Int32)), (.ref a0)])) _
    refine st233 _ ?_
    show Steps p.tables e below (T233.setTop (mkF m 12 #[.val (.ref a0), .val (.int (0 : Int32)), .val (.int (2 : Int32)), .val (.ref b225), .unset, .unset] [(.int (2 : Int32))])) _
    refine XS.istore X233.here hx rfl (hb hby d10_12) rfl (l' := #[.val (.ref a0), .val (.int (0 : Int32)), .val (.int (2 : Int32)), .val (.ref b225), .val (.int (2 : Int32)), .unset]) rfl ?_
    show Steps p.tables e below (T233.setTop (mkF m 14 #[.val (.ref a0), .val (.int (0 : Int32)), .val (.int (2 : Int32)), .val (.ref b225), .val (.int (2 : Int32)), .unset] [])) _
    refine XS.iload X233.here hx rfl (hb hby d10_14) rfl ?_
    show Steps p.tables e below (T233.setTop (mkF m 16 #[.val (.ref a0), .val (.int (0 : Int32)), .val (.int (2 : Int32)), .val (.ref b225), .val (.int (2 : Int32)), .unset] [(.int (2 : Int32))])) _
    refine XS.iloadN X233.here hx rfl (hb hby d10_16) rfl ?_
    show Steps p.tables e below (T233.setTop (mkF m 17 #[.val (.ref a0), .val (.int (0 : Int32)), .val (.int (2 : Int32)), .val (.ref b225), .val (.int (2 : Int32)), .unset] [(.int (2 : Int32)), (.int (2 : Int32))])) _
    refine XS.icmpYes X233.here hx rfl (pc0 := 17) (pc' := 57) rfl (hb hby d10_17) rfl (teq rfl).1 (by decide) (by decide) ?_
    show Steps p.tables e below (T233.setTop (mkF m 57 #[.val (.ref a0), .val (.int (0 : Int32)), .val (.int (2 : Int32)), .val (.ref b225), .val (.int (2 : Int32)), .unset] [])) _
    refine XS.aloadN X233.here hx rfl (hb hby d10_57) rfl rfl ?_
    show Steps p.tables e below (T233.setTop (mkF m 58 #[.val (.ref a0), .val (.int (0 : Int32)), .val (.int (2 : Int32)), .val (.ref b225), .val (.int (2 : Int32)), .unset] [(.ref b225)])) _
    exact retA X233 hx rfl rfl Bd.returns (hb hby d10_58) hr
  ·
    show Q_c3_2 Z a0 kc u0 u1 h0 n0 _ T233.heap _
    exact ⟨b225, k225, rfl, N233, K237, sz228, f234⟩
theorem ef_cf_2 (m : MethodId) (a0 : Addr) : entryFrame m #[(.ref a0), (.int (2 : Int32))] 2 = mkF m 0 #[.val (.ref a0), .val (.int (2 : Int32))] [] := by first | (simp [entryFrame, mkF, argsToLocals, Value.category]; done) | rfl
def Q_cf_2 (Z : State) (a0 : Addr) (k1 : ClassId) (vs : List Value) (h0 : Heap) (n0 : Nat) (v : Option Value) (h : Heap) (L : List Loc) : Prop := v = some (.int (0 : Int32)) ∧ Fr n0 L ∧ h = h0
set_option maxRecDepth 65536 in
set_option maxHeartbeats 40000000 in
theorem cf_2 (l : Launch) (Z : State) (aw : Array Value) (hw : ∀ d ∈ tables_1, d.before aw Z = true) (ws : List Jvm.Cond) (a0 : Addr) (k1 : ClassId) (vs : List Value) (h0 : Heap) (n0 : Nat) (Z0 : n0 ≤ h0.size) (V_a0 : Arv Z h0 a0 k1 .byte (2 : Int32) vs (.int (0 : Int32))) :
    MetFree l (⟨"java/lang/StringUTF16", "coderFromArrayLen", "([BI)B"⟩ : MethodName) (head1 (Jvm.Cond.code (⟨"java/lang/StringUTF16", "coderFromArrayLen", "([BI)B"⟩ : MethodName) jdk_52_method_15_code 2 (some .byte) :: ws) ({ frames := 0, cells := 0, slots := 0, locals := 0 } : Room)) (fun a U => a = #[(.ref a0), (.int (2 : Int32))] ∧ Z.Warmed39 U.vm ∧ U.heap = h0) (fun _ _ _ _ _ => True) (fun _ U o U' => ∃ v L, o = .returned v ∧ Q_cf_2 Z a0 k1 vs h0 n0 v U'.heap L ∧ FrameEnd U o U' L ({ frames := 0, cells := 0, slots := 0, locals := 0 } : Room).cells ({ frames := 0, cells := 0, slots := 0, locals := 0 } : Room).slots) := by
  refine MetFree.of_bodySF (plainFor_of_name pn_0) hisR ?_
  intro p e s m args below meth c s₁ Bd hml0 hP hK
  obtain ⟨rfl, hZ, hh⟩ := hP
  have hx := Bd.exec
  have hby := Bd.bytes
  have hml : c.maxLocals = 2 := hml0
  have hown : s.vm.findClass "java/lang/StringUTF16" = some m.cls := findClass_of_methodNamed Bd.named
  have hnm := (name_of_methodNamed Bd.named Bd.method).1
  have X0 : Stand p l e ({ frames := 0, cells := 0, slots := 0, locals := 0 } : Room) s m #[(.ref a0), (.int (2 : Int32))] below meth c s₁ [] 0 0 := Stand.of_body Bd
  have e0 : s₁.heap = h0 := by rw [← hh, Bd.state]; rfl
  have N0 := Fr.nil n0
  have pre0 : ∀ t, Steps p.tables e below (s₁.setTop (mkF m 0 #[.val (.ref a0), .val (.int (2 : Int32))] [])) t → Steps p.tables e below (s₁.setTop (entryFrame m #[(.ref a0), (.int (2 : Int32))] 2)) t := fun t k => castTop (ef_cf_2 m a0) k
  obtain ⟨cl238, Ar238, q238, S238, N238, H238, G238⟩ := id V_a0
  obtain ⟨fs, hr, hrun, hended, hW, hsame⟩ := X0.leave (v := some (.int (0 : Int32))) (fun h => by rw [Bd.returns] at h; cases h)
  refine ⟨_, _, pre0 _ ?_, hrun, hended, _, _, rfl, ?_, ⟨_, rfl⟩, hW, hsame.mono (by decide) (by decide)⟩
  ·
    show Steps p.tables e below (s₁.setTop (mkF m 0 #[.val (.ref a0), .val (.int (2 : Int32))] [])) _
    refine XS.iloadN X0.here hx rfl (hb hby d12_0) rfl ?_
    show Steps p.tables e below (s₁.setTop (mkF m 1 #[.val (.ref a0), .val (.int (2 : Int32))] [(.int (2 : Int32))])) _
    refine XS.aloadN X0.here hx rfl (hb hby d12_1) rfl rfl ?_
    show Steps p.tables e below (s₁.setTop (mkF m 2 #[.val (.ref a0), .val (.int (2 : Int32))] [(.ref a0), (.int (2 : Int32))])) _
    refine X0.arraylength hx (by rw [e0]; exact Ar238.1) (State.isArrayOf_alike hZ.alike Ar238.2.1) (g := (mkF m 2 #[.val (.ref a0), .val (.int (2 : Int32))] [(.ref a0), (.int (2 : Int32))])) rfl rfl (hb hby d12_2) _ ?_
    rw [len_of S238 N238]
    show Steps p.tables e below (s₁.setTop (mkF m 3 #[.val (.ref a0), .val (.int (2 : Int32))] [(.int (2 : Int32)), (.int (2 : Int32))])) _
    refine XS.isub X0.here hx rfl (hb hby d12_3) rfl ?_
    show Steps p.tables e below (s₁.setTop (mkF m 4 #[.val (.ref a0), .val (.int (2 : Int32))] [(.int (0 : Int32))])) _
    refine XS.bipush X0.here hx rfl (hb hby d12_4) ?_
    show Steps p.tables e below (s₁.setTop (mkF m 6 #[.val (.ref a0), .val (.int (2 : Int32))] [(.int (31 : Int32)), (.int (0 : Int32))])) _
    refine XS.iushr X0.here hx rfl (hb hby d12_6) rfl ?_
    show Steps p.tables e below (s₁.setTop (mkF m 7 #[.val (.ref a0), .val (.int (2 : Int32))] [(.int (0 : Int32))])) _
    refine XS.i2b X0.here hx rfl (hb hby d12_7) rfl ?_
    show Steps p.tables e below (s₁.setTop (mkF m 8 #[.val (.ref a0), .val (.int (2 : Int32))] [(.int (0 : Int32))])) _
    exact retN X0 hx (t := .byte) Bd.returns (by simp) (hb hby d12_8) hr
  ·
    show Q_cf_2 Z a0 k1 vs h0 n0 _ s₁.heap _
    rw [e0]
    exact ⟨rfl, N0, rfl⟩
theorem ef_i4_2 (m : MethodId) (a0 : Addr) (a1 : Addr) : entryFrame m #[(.ref a0), (.ref a1), (.int (0 : Int32)), (.int (2 : Int32)), .null] 6 = mkF m 0 #[.val (.ref a0), .val (.ref a1), .val (.int (0 : Int32)), .val (.int (2 : Int32)), .val .null, .unset] [] := by first | (simp [entryFrame, mkF, argsToLocals, Value.category]; done) | rfl
def Q_i4_2 (Z : State) (a0 : Addr) (a1 : Addr) (kc : ClassId) (u0 : Int32) (u1 : Int32) (zc : Int32) (h0 : Heap) (n0 : Nat) (v : Option Value) (h : Heap) (L : List Loc) : Prop := ∃ t : Addr, ∃ kb : ClassId, ∃ w0 : Int32, ∃ w1 : Int32, v = none ∧ Fr n0 L ∧ Keep h0 h [a0] ∧ Exa Z h a0 "java/lang/String" ∧ Fld Z h a0 "java/lang/String" "coder" "B" (.int (0 : Int32)) ∧ Fld Z h a0 "java/lang/String" "value" "[B" (.ref t) ∧ Arv Z h t kb .byte (2 : Int32) [(.int w0), (.int w1)] (.int (0 : Int32))
set_option maxRecDepth 65536 in
set_option maxHeartbeats 40000000 in
theorem i4_2 (l : Launch) (Z : State) (aw : Array Value) (hw : ∀ d ∈ tables_1, d.before aw Z = true) (ws : List Jvm.Cond) (a0 : Addr) (a1 : Addr) (kc : ClassId) (u0 : Int32) (u1 : Int32) (zc : Int32) (h0 : Heap) (n0 : Nat) (Z0 : n0 ≤ h0.size) (E_a0 : Exa Z h0 a0 "java/lang/String") (F_a0_value : Fld Z h0 a0 "java/lang/String" "value" "[B" .null) (F_a0_coder : Fld Z h0 a0 "java/lang/String" "coder" "B" (.int (0 : Int32))) (g_a0 : n0 ≤ a0) (V_a1 : Arv Z h0 a1 kc .char (2 : Int32) [(.int u0), (.int u1)] (.int (0 : Int32))) (ne_a0_a1 : a0 ≠ a1) (OLD : Old Z n0 h0) (O_COMPACT_STRINGS : Sta Z Z.heap "java/lang/String" "COMPACT_STRINGS" "Z" (.int zc)) (hzc : ¬ (zc = (0 : Int32))) (hu0 : ¬ ((255 : Int32) < u0)) (hu1 : ¬ ((255 : Int32) < u1)) :
    MetFree l (⟨"java/lang/String", "<init>", "([CIILjava/lang/Void;)V"⟩ : MethodName) (head1 (Jvm.Cond.code (⟨"java/lang/String", "<init>", "([CIILjava/lang/Void;)V"⟩ : MethodName) jdk_42_method_149_code 6 none :: ws) ({ frames := 2, cells := 1, slots := 2, locals := 35 } : Room)) (fun a U => a = #[(.ref a0), (.ref a1), (.int (0 : Int32)), (.int (2 : Int32)), .null] ∧ Z.Warmed39 U.vm ∧ U.heap = h0) (fun _ _ _ _ _ => True) (fun _ U o U' => ∃ v L, o = .returned v ∧ Q_i4_2 Z a0 a1 kc u0 u1 zc h0 n0 v U'.heap L ∧ FrameEnd U o U' L ({ frames := 2, cells := 1, slots := 2, locals := 35 } : Room).cells ({ frames := 2, cells := 1, slots := 2, locals := 35 } : Room).slots) := by
  refine MetFree.of_bodySF (plainFor_of_name pn_1) hisR ?_
  intro p e s m args below meth c s₁ Bd hml0 hP hK
  obtain ⟨rfl, hZ, hh⟩ := hP
  have hx := Bd.exec
  have hby := Bd.bytes
  have hml : c.maxLocals = 6 := hml0
  have hown : s.vm.findClass "java/lang/String" = some m.cls := findClass_of_methodNamed Bd.named
  have hnm := (name_of_methodNamed Bd.named Bd.method).1
  have X0 : Stand p l e ({ frames := 2, cells := 1, slots := 2, locals := 35 } : Room) s m #[(.ref a0), (.ref a1), (.int (0 : Int32)), (.int (2 : Int32)), .null] below meth c s₁ [] 0 0 := Stand.of_body Bd
  have e0 : s₁.heap = h0 := by rw [← hh, Bd.state]; rfl
  have N0 := Fr.nil n0
  have pre0 : ∀ t, Steps p.tables e below (s₁.setTop (mkF m 0 #[.val (.ref a0), .val (.ref a1), .val (.int (0 : Int32)), .val (.int (2 : Int32)), .val .null, .unset] [])) t → Steps p.tables e below (s₁.setTop (entryFrame m #[(.ref a0), (.ref a1), (.int (0 : Int32)), (.int (2 : Int32)), .null] 6)) t := fun t k => castTop (ef_i4_2 m a0 a1) k
  have KC0 : Keep h0 h0 [a0] := Keep.refl h0 [a0]
  obtain ⟨T239, X239, e239, st239⟩ := initO X0 hx hZ hown (hw _ (List.mem_of_getElem? (i := 15) rfl)) (hw _ (List.mem_of_getElem? (i := 16) rfl)) (hw _ (List.mem_of_getElem? (i := 17) rfl)) e0 (g := (mkF m 1 #[.val (.ref a0), .val (.ref a1), .val (.int (0 : Int32)), .val (.int (2 : Int32)), .val .null, .unset] [(.ref a0)])) rfl (by rw [hml]; rfl) rfl (hb hby d3_1) (by decide) (W := 0) (by show 2 * 0 + _ ≤ _; exact Nat.le_of_eq rfl) (by decide)
  obtain ⟨T240, X240, e240, st240⟩ := getS2 X239 hx hZ hown (host := "") (Or.inl (hw _ (List.mem_of_getElem? (i := 37) rfl))) Via.refl e239 (Sta.ext OLD.2 O_COMPACT_STRINGS) (g := (mkF m 27 #[.val (.ref a0), .val (.ref a1), .val (.int (0 : Int32)), .val (.int (2 : Int32)), .val .null, .unset] [])) rfl (hb hby d3_27)
  have c241 : ¬ (zc = (0 : Int32)) := by
    exact hzc
  obtain ⟨_, _, ⟨T242, L242, k242, n242⟩, -, X242, ⟨Lc242, hQ242, l242, y242, z242⟩, st242⟩ := Jvm.LawKit.callS X240 hx (y := (⟨"java/lang/StringUTF16", "compress", "([CII)[B"⟩ : MethodName)) hown (mvT hZ (hw _ (List.mem_of_getElem? (i := 55) rfl))) (mvT hZ (hw _ (List.mem_of_getElem? (i := 56) rfl))) (mvT hZ (hw _ (List.mem_of_getElem? (i := 57) rfl))) (mvT hZ (hw _ (List.mem_of_getElem? (i := 58) rfl))) (by decide) (backOf (W := 0) (c3_2 l Z aw hw [] a1 kc u0 u1 h0 n0 Z0 V_a1 hu0 hu1) hZ (hw _ (List.mem_of_getElem? (i := 58) rfl)) (hw _ (List.mem_of_getElem? (i := 57) rfl)) (by decide) (by decide)) (g := (mkF m 36 #[.val (.ref a0), .val (.ref a1), .val (.int (0 : Int32)), .val (.int (2 : Int32)), .val .null, .unset] [(.int (2 : Int32)), (.int (0 : Int32)), (.ref a1)])) rfl (by rw [hml]; rfl) (argsL := [(.ref a1), (.int (0 : Int32)), (.int (2 : Int32))]) (rest := []) (lenOf pd_1 rfl) rfl (by show 2 * 0 + _ ≤ _; exact Nat.le_of_eq rfl) (hb hby d3_36) (fun _ _ => ⟨rfl, e240, (by decide : 0 + 1 ≤ _), (by decide : 0 + 2 ≤ _)⟩)
  dsimp only [Pt.U, Pt.locs, Pt.cells, Pt.slots] at X242 l242 y242 z242 st242 hQ242
  replace l242 := l242.symm; replace y242 := y242.symm; replace z242 := z242.symm; subst l242 y242 z242
  obtain ⟨r242, kb242, rfl, N242q, K242, sz242, f243⟩ := hQ242
  have N242 := Fr.app N0 N242q
  have ne244 : a0 ≠ r242 := Nat.ne_of_lt (Nat.lt_of_lt_of_le E_a0.lt sz242)
  have ne245 : a1 ≠ r242 := Nat.ne_of_lt (Nat.lt_of_lt_of_le V_a1.lt sz242)
  have gn246 : n0 ≤ r242 := Nat.le_trans Z0 sz242
  have sz247 : h0.size ≤ r242 := Nat.le_trans KC0.1 sz242
  have f248 := E_a0.keep K242
  have f249 := F_a0_value.keep K242 nin0
  have f250 := F_a0_coder.keep K242 nin0
  have f251 := V_a1.keep K242 nin0
  have Z252 : n0 ≤ T242.heap.size := Nat.le_trans Z0 K242.1
  have O253 := Old.keep OLD K242 all0
  have K254 : Keep h0 T242.heap [a0] := Keep.trans KC0 K242 all0
  obtain ⟨_, _, ⟨T255, L255, k255, n255⟩, -, X255, ⟨Lc255, hQ255, l255, y255, z255⟩, st255⟩ := Jvm.LawKit.callS X242 hx (y := (⟨"java/lang/StringUTF16", "coderFromArrayLen", "([BI)B"⟩ : MethodName)) hown (mvT hZ (hw _ (List.mem_of_getElem? (i := 62) rfl))) (mvT hZ (hw _ (List.mem_of_getElem? (i := 63) rfl))) (mvT hZ (hw _ (List.mem_of_getElem? (i := 57) rfl))) (mvT hZ (hw _ (List.mem_of_getElem? (i := 64) rfl))) (by decide) (backOf (W := 1) (cf_2 l Z aw hw [] r242 kb242 ([(.int (nar .byte (u0.toInt8.toInt32))), (.int (nar .byte (u1.toInt8.toInt32)))]) T242.heap n0 Z252 f243) hZ (hw _ (List.mem_of_getElem? (i := 64) rfl)) (hw _ (List.mem_of_getElem? (i := 57) rfl)) (by decide) (by decide)) (g := (mkF m 45 #[.val (.ref a0), .val (.ref a1), .val (.int (0 : Int32)), .val (.int (2 : Int32)), .val .null, .val (.ref r242)] [(.int (2 : Int32)), (.ref r242), (.ref a0)])) rfl (by rw [hml]; rfl) (argsL := [(.ref r242), (.int (2 : Int32))]) (rest := [(.ref a0)]) (lenOf pd_2 rfl) rfl (by show 2 * 0 + _ ≤ _; exact Nat.le_of_eq rfl) (hb hby d3_45) (fun _ _ => ⟨rfl, rfl, (by decide : 1 + 0 ≤ _), (by decide : 2 + 0 ≤ _)⟩)
  dsimp only [Pt.U, Pt.locs, Pt.cells, Pt.slots] at X255 l255 y255 z255 st255 hQ255
  replace l255 := l255.symm; replace y255 := y255.symm; replace z255 := z255.symm; subst l255 y255 z255
  obtain ⟨rfl, N255q, e255⟩ := hQ255
  have N255 := Fr.app N242 N255q
  obtain ⟨T256, h256, X256, e256, W256, st256⟩ := putFN X255 hx hZ hown (hw _ (List.mem_of_getElem? (i := 25) rfl)) Via.refl e255 f250 f248 (Or.inr ⟨(hw _ (List.mem_of_getElem? (i := 21) rfl)), rfl, hnm⟩) (hw _ (List.mem_of_getElem? (i := 5) rfl)) (ty := .byte) (v' := (.int (nar .byte (0 : Int32)))) (by decide) rfl (fits_nar_byte _) (g := (mkF m 48 #[.val (.ref a0), .val (.ref a1), .val (.int (0 : Int32)), .val (.int (2 : Int32)), .val .null, .val (.ref r242)] [(.int (0 : Int32)), (.ref a0)])) rfl rfl (hb hby d3_48)
  have f257 := f248.wr W256
  have f258 := f249.other W256 (Or.inr (slot_ne (Or.inr (hw _ (List.mem_of_getElem? (i := 20) rfl))) (Or.inr (hw _ (List.mem_of_getElem? (i := 21) rfl))) (by decide) (t := (.array .byte)) (t' := .byte) (by decide) (by decide)))
  have f259 := f251.other W256 (Ne.symm ne_a0_a1)
  have f260 := f243.other W256 (Ne.symm ne244)
  have Z261 : n0 ≤ h256.size := Nat.le_trans Z252 (Keep.of_wr W256).1
  have K262 : Keep h0 h256 [a0] := Keep.wr K254 W256 (Or.inl (List.mem_of_getElem? (i := 0) rfl))
  have N263 := Fr.snoc X256 N255 g_a0
  have O264 := Old.wr O253 W256 g_a0
  have f265 : Fld Z h256 a0 "java/lang/String" "coder" "B" (.int (0 : Int32)) := f250.same W256
  obtain ⟨T266, h266, X266, e266, W266, st266⟩ := putF X256 hx hZ hown (host := "") (Or.inl (hw _ (List.mem_of_getElem? (i := 24) rfl))) Via.refl e256 f258 f257 (Or.inr ⟨(hw _ (List.mem_of_getElem? (i := 20) rfl)), rfl, hnm⟩) (hw _ (List.mem_of_getElem? (i := 5) rfl)) (ty := (.array .byte)) (by decide) rfl rfl (g := (mkF m 54 #[.val (.ref a0), .val (.ref a1), .val (.int (0 : Int32)), .val (.int (2 : Int32)), .val .null, .val (.ref r242)] [(.ref r242), (.ref a0)])) rfl rfl (hb hby d3_54)
  have f267 := f257.wr W266
  have f268 := f259.other W266 (Ne.symm ne_a0_a1)
  have f269 := f260.other W266 (Ne.symm ne244)
  have f270 := f265.other W266 (Or.inr (slot_ne (Or.inr (hw _ (List.mem_of_getElem? (i := 21) rfl))) (Or.inr (hw _ (List.mem_of_getElem? (i := 20) rfl))) (by decide) (t := .byte) (t' := (.array .byte)) (by decide) (by decide)))
  have Z271 : n0 ≤ h266.size := Nat.le_trans Z261 (Keep.of_wr W266).1
  have K272 : Keep h0 h266 [a0] := Keep.wr K262 W266 (Or.inl (List.mem_of_getElem? (i := 0) rfl))
  have N273 := Fr.snoc X266 N263 g_a0
  have O274 := Old.wr O264 W266 g_a0
  have f275 : Fld Z h266 a0 "java/lang/String" "value" "[B" (.ref r242) := f258.same W266
  obtain ⟨fs, hr, hrun, hended, hW, hsame⟩ := X266.leave (v := none) (fun _ => rfl)
  refine ⟨_, _, pre0 _ ?_, hrun, hended, _, _, rfl, ?_, ⟨_, rfl⟩, hW, hsame.mono (by decide) (by decide)⟩
  ·
    show Steps p.tables e below (s₁.setTop (mkF m 0 #[.val (.ref a0), .val (.ref a1), .val (.int (0 : Int32)), .val (.int (2 : Int32)), .val .null, .unset] [])) _
    refine XS.aloadN X0.here hx rfl (hb hby d3_0) rfl rfl ?_
    show Steps p.tables e below (s₁.setTop (mkF m 1 #[.val (.ref a0), .val (.ref a1), .val (.int (0 : Int32)), .val (.int (2 : Int32)), .val .null, .unset] [(.ref a0)])) _
    refine st239 _ ?_
    show Steps p.tables e below (T239.setTop (mkF m 4 #[.val (.ref a0), .val (.ref a1), .val (.int (0 : Int32)), .val (.int (2 : Int32)), .val .null, .unset] [])) _
    refine XS.iloadN X239.here hx rfl (hb hby d3_4) rfl ?_
    show Steps p.tables e below (T239.setTop (mkF m 5 #[.val (.ref a0), .val (.ref a1), .val (.int (0 : Int32)), .val (.int (2 : Int32)), .val .null, .unset] [(.int (2 : Int32))])) _
    refine XS.ifYes X239.here hx rfl (pc0 := 5) (pc' := 27) rfl (hb hby d3_5) rfl ((if0 _ _).trans (feq (by decide)).2) (by decide) (by decide) ?_
    show Steps p.tables e below (T239.setTop (mkF m 27 #[.val (.ref a0), .val (.ref a1), .val (.int (0 : Int32)), .val (.int (2 : Int32)), .val .null, .unset] [])) _
    refine st240 _ ?_
    show Steps p.tables e below (T240.setTop (mkF m 30 #[.val (.ref a0), .val (.ref a1), .val (.int (0 : Int32)), .val (.int (2 : Int32)), .val .null, .unset] [(.int zc)])) _
    refine XS.ifNo X240.here hx rfl (hb hby d3_30) rfl ((if0 _ _).trans (feq c241).1) ?_
    show Steps p.tables e below (T240.setTop (mkF m 33 #[.val (.ref a0), .val (.ref a1), .val (.int (0 : Int32)), .val (.int (2 : Int32)), .val .null, .unset] [])) _
    refine XS.aloadN X240.here hx rfl (hb hby d3_33) rfl rfl ?_
    show Steps p.tables e below (T240.setTop (mkF m 34 #[.val (.ref a0), .val (.ref a1), .val (.int (0 : Int32)), .val (.int (2 : Int32)), .val .null, .unset] [(.ref a1)])) _
    refine XS.iloadN X240.here hx rfl (hb hby d3_34) rfl ?_
    show Steps p.tables e below (T240.setTop (mkF m 35 #[.val (.ref a0), .val (.ref a1), .val (.int (0 : Int32)), .val (.int (2 : Int32)), .val .null, .unset] [(.int (0 : Int32)), (.ref a1)])) _
    refine XS.iloadN X240.here hx rfl (hb hby d3_35) rfl ?_
    show Steps p.tables e below (T240.setTop (mkF m 36 #[.val (.ref a0), .val (.ref a1), .val (.int (0 : Int32)), .val (.int (2 : Int32)), .val .null, .unset] [(.int (2 : Int32)), (.int (0 : Int32)), (.ref a1)])) _
    refine st242 _ ?_
    show Steps p.tables e below (T242.setTop (mkF m 39 #[.val (.ref a0), .val (.ref a1), .val (.int (0 : Int32)), .val (.int (2 : Int32)), .val .null, .unset] [(.ref r242)])) _
    refine XS.astore X242.here hx rfl (hb hby d3_39) rfl rfl (l' := #[.val (.ref a0), .val (.ref a1), .val (.int (0 : Int32)), .val (.int (2 : Int32)), .val .null, .val (.ref r242)]) rfl ?_
    show Steps p.tables e below (T242.setTop (mkF m 41 #[.val (.ref a0), .val (.ref a1), .val (.int (0 : Int32)), .val (.int (2 : Int32)), .val .null, .val (.ref r242)] [])) _
    refine XS.aloadN X242.here hx rfl (hb hby d3_41) rfl rfl ?_
    show Steps p.tables e below (T242.setTop (mkF m 42 #[.val (.ref a0), .val (.ref a1), .val (.int (0 : Int32)), .val (.int (2 : Int32)), .val .null, .val (.ref r242)] [(.ref a0)])) _
    refine XS.aload X242.here hx rfl (hb hby d3_42) rfl rfl ?_
    show Steps p.tables e below (T242.setTop (mkF m 44 #[.val (.ref a0), .val (.ref a1), .val (.int (0 : Int32)), .val (.int (2 : Int32)), .val .null, .val (.ref r242)] [(.ref r242), (.ref a0)])) _
    refine XS.iloadN X242.here hx rfl (hb hby d3_44) rfl ?_
    show Steps p.tables e below (T242.setTop (mkF m 45 #[.val (.ref a0), .val (.ref a1), .val (.int (0 : Int32)), .val (.int (2 : Int32)), .val .null, .val (.ref r242)] [(.int (2 : Int32)), (.ref r242), (.ref a0)])) _
    refine st255 _ ?_
    show Steps p.tables e below (T255.setTop (mkF m 48 #[.val (.ref a0), .val (.ref a1), .val (.int (0 : Int32)), .val (.int (2 : Int32)), .val .null, .val (.ref r242)] [(.int (0 : Int32)), (.ref a0)])) _
    refine st256 _ ?_
    show Steps p.tables e below (T256.setTop (mkF m 51 #[.val (.ref a0), .val (.ref a1), .val (.int (0 : Int32)), .val (.int (2 : Int32)), .val .null, .val (.ref r242)] [])) _
    refine XS.aloadN X256.here hx rfl (hb hby d3_51) rfl rfl ?_
    show Steps p.tables e below (T256.setTop (mkF m 52 #[.val (.ref a0), .val (.ref a1), .val (.int (0 : Int32)), .val (.int (2 : Int32)), .val .null, .val (.ref r242)] [(.ref a0)])) _
    refine XS.aload X256.here hx rfl (hb hby d3_52) rfl rfl ?_
    show Steps p.tables e below (T256.setTop (mkF m 54 #[.val (.ref a0), .val (.ref a1), .val (.int (0 : Int32)), .val (.int (2 : Int32)), .val .null, .val (.ref r242)] [(.ref r242), (.ref a0)])) _
    refine st266 _ ?_
    show Steps p.tables e below (T266.setTop (mkF m 57 #[.val (.ref a0), .val (.ref a1), .val (.int (0 : Int32)), .val (.int (2 : Int32)), .val .null, .val (.ref r242)] [])) _
    exact X266.returnOut hx Bd.returns (hb hby d3_57) hr
  ·
    show Q_i4_2 Z a0 a1 kc u0 u1 zc h0 n0 _ T266.heap _
    rw [e266]
    exact ⟨r242, kb242, ((nar .byte (u0.toInt8.toInt32))), ((nar .byte (u1.toInt8.toInt32))), rfl, N273, K272, f267, f270, f275, f269⟩
theorem ef_i1_2 (m : MethodId) (a0 : Addr) (a1 : Addr) : entryFrame m #[(.ref a0), (.ref a1)] 2 = mkF m 0 #[.val (.ref a0), .val (.ref a1)] [] := by first | (simp [entryFrame, mkF, argsToLocals, Value.category]; done) | rfl
def Q_i1_2 (Z : State) (a0 : Addr) (a1 : Addr) (kc : ClassId) (u0 : Int32) (u1 : Int32) (zc : Int32) (h0 : Heap) (n0 : Nat) (v : Option Value) (h : Heap) (L : List Loc) : Prop := ∃ t : Addr, ∃ kb : ClassId, ∃ w0 : Int32, ∃ w1 : Int32, v = none ∧ Fr n0 L ∧ Keep h0 h [a0] ∧ Exa Z h a0 "java/lang/String" ∧ Fld Z h a0 "java/lang/String" "coder" "B" (.int (0 : Int32)) ∧ Fld Z h a0 "java/lang/String" "value" "[B" (.ref t) ∧ Arv Z h t kb .byte (2 : Int32) [(.int w0), (.int w1)] (.int (0 : Int32))
set_option maxRecDepth 65536 in
set_option maxHeartbeats 40000000 in
theorem i1_2 (l : Launch) (Z : State) (aw : Array Value) (hw : ∀ d ∈ tables_1, d.before aw Z = true) (ws : List Jvm.Cond) (a0 : Addr) (a1 : Addr) (kc : ClassId) (u0 : Int32) (u1 : Int32) (zc : Int32) (h0 : Heap) (n0 : Nat) (Z0 : n0 ≤ h0.size) (E_a0 : Exa Z h0 a0 "java/lang/String") (F_a0_value : Fld Z h0 a0 "java/lang/String" "value" "[B" .null) (F_a0_coder : Fld Z h0 a0 "java/lang/String" "coder" "B" (.int (0 : Int32))) (g_a0 : n0 ≤ a0) (V_a1 : Arv Z h0 a1 kc .char (2 : Int32) [(.int u0), (.int u1)] (.int (0 : Int32))) (ne_a0_a1 : a0 ≠ a1) (OLD : Old Z n0 h0) (O_COMPACT_STRINGS : Sta Z Z.heap "java/lang/String" "COMPACT_STRINGS" "Z" (.int zc)) (hzc : ¬ (zc = (0 : Int32))) (hu0 : ¬ ((255 : Int32) < u0)) (hu1 : ¬ ((255 : Int32) < u1)) :
    MetFree l (⟨"java/lang/String", "<init>", "([C)V"⟩ : MethodName) (head1 (Jvm.Cond.code (⟨"java/lang/String", "<init>", "([C)V"⟩ : MethodName) jdk_42_method_3_code 2 none :: ws) ({ frames := 3, cells := 1, slots := 2, locals := 52 } : Room)) (fun a U => a = #[(.ref a0), (.ref a1)] ∧ Z.Warmed39 U.vm ∧ U.heap = h0) (fun _ _ _ _ _ => True) (fun _ U o U' => ∃ v L, o = .returned v ∧ Q_i1_2 Z a0 a1 kc u0 u1 zc h0 n0 v U'.heap L ∧ FrameEnd U o U' L ({ frames := 3, cells := 1, slots := 2, locals := 52 } : Room).cells ({ frames := 3, cells := 1, slots := 2, locals := 52 } : Room).slots) := by
  refine MetFree.of_bodySF (plainFor_of_name pn_1) hisR ?_
  intro p e s m args below meth c s₁ Bd hml0 hP hK
  obtain ⟨rfl, hZ, hh⟩ := hP
  have hx := Bd.exec
  have hby := Bd.bytes
  have hml : c.maxLocals = 2 := hml0
  have hown : s.vm.findClass "java/lang/String" = some m.cls := findClass_of_methodNamed Bd.named
  have hnm := (name_of_methodNamed Bd.named Bd.method).1
  have X0 : Stand p l e ({ frames := 3, cells := 1, slots := 2, locals := 52 } : Room) s m #[(.ref a0), (.ref a1)] below meth c s₁ [] 0 0 := Stand.of_body Bd
  have e0 : s₁.heap = h0 := by rw [← hh, Bd.state]; rfl
  have N0 := Fr.nil n0
  have pre0 : ∀ t, Steps p.tables e below (s₁.setTop (mkF m 0 #[.val (.ref a0), .val (.ref a1)] [])) t → Steps p.tables e below (s₁.setTop (entryFrame m #[(.ref a0), (.ref a1)] 2)) t := fun t k => castTop (ef_i1_2 m a0 a1) k
  have KC0 : Keep h0 h0 [a0] := Keep.refl h0 [a0]
  obtain ⟨cl276, Ar276, q276, S276, N276, H276, G276⟩ := id V_a1
  obtain ⟨_, _, ⟨T277, L277, k277, n277⟩, -, X277, ⟨Lc277, hQ277, l277, y277, z277⟩, st277⟩ := X0.specialBack hx (y := (⟨"java/lang/String", "<init>", "([CIILjava/lang/Void;)V"⟩ : MethodName)) rfl hown (mvT hZ (hw _ (List.mem_of_getElem? (i := 11) rfl))) (mvT hZ (hw _ (List.mem_of_getElem? (i := 12) rfl))) (mvT hZ (hw _ (List.mem_of_getElem? (i := 14) rfl))) (by decide) (backOf (W := 0) (i4_2 l Z aw hw [] a0 a1 kc u0 u1 zc h0 n0 Z0 E_a0 F_a0_value F_a0_coder g_a0 V_a1 ne_a0_a1 OLD O_COMPACT_STRINGS hzc hu0 hu1) hZ (hw _ (List.mem_of_getElem? (i := 14) rfl)) (hw _ (List.mem_of_getElem? (i := 6) rfl)) (by decide) (by decide)) (g := (mkF m 6 #[.val (.ref a0), .val (.ref a1)] [.null, (.int (2 : Int32)), (.int (0 : Int32)), (.ref a1), (.ref a0)])) rfl (by rw [hml]; rfl) (Steps.refl _) (a := a0) (argsL := [(.ref a1), (.int (0 : Int32)), (.int (2 : Int32)), .null]) (rest := []) (lenOf pd_3 rfl) rfl (by show 2 * 0 + _ ≤ _; exact Nat.le_of_eq rfl) (hb hby d2_6) (fun _ _ => ⟨rfl, e0, (by decide : 0 + 1 ≤ _), (by decide : 0 + 2 ≤ _)⟩)
  dsimp only [Pt.U, Pt.locs, Pt.cells, Pt.slots] at X277 l277 y277 z277 st277 hQ277
  replace l277 := l277.symm; replace y277 := y277.symm; replace z277 := z277.symm; subst l277 y277 z277
  obtain ⟨t277, kb277, w0277, w1277, rfl, N277q, K277, f278, f279, f280, f281⟩ := hQ277
  have N277 := Fr.app N0 N277q
  have f282 := V_a1.keep K277 (ninS (Ne.symm ne_a0_a1) nin0)
  have Z283 : n0 ≤ T277.heap.size := Nat.le_trans Z0 K277.1
  have O284 := Old.keep OLD K277 (allS g_a0 all0)
  have K285 : Keep h0 T277.heap [a0] := Keep.trans KC0 K277 (allS (Or.inl (List.mem_of_getElem? (i := 0) rfl)) all0)
  obtain ⟨fs, hr, hrun, hended, hW, hsame⟩ := X277.leave (v := none) (fun _ => rfl)
  refine ⟨_, _, pre0 _ ?_, hrun, hended, _, _, rfl, ?_, ⟨_, rfl⟩, hW, hsame.mono (by decide) (by decide)⟩
  ·
    show Steps p.tables e below (s₁.setTop (mkF m 0 #[.val (.ref a0), .val (.ref a1)] [])) _
    refine XS.aloadN X0.here hx rfl (hb hby d2_0) rfl rfl ?_
    show Steps p.tables e below (s₁.setTop (mkF m 1 #[.val (.ref a0), .val (.ref a1)] [(.ref a0)])) _
    refine XS.aloadN X0.here hx rfl (hb hby d2_1) rfl rfl ?_
    show Steps p.tables e below (s₁.setTop (mkF m 2 #[.val (.ref a0), .val (.ref a1)] [(.ref a1), (.ref a0)])) _
    refine XS.iconst X0.here hx rfl (hb hby d2_2) ?_
    show Steps p.tables e below (s₁.setTop (mkF m 3 #[.val (.ref a0), .val (.ref a1)] [(.int (0 : Int32)), (.ref a1), (.ref a0)])) _
    refine XS.aloadN X0.here hx rfl (hb hby d2_3) rfl rfl ?_
    show Steps p.tables e below (s₁.setTop (mkF m 4 #[.val (.ref a0), .val (.ref a1)] [(.ref a1), (.int (0 : Int32)), (.ref a1), (.ref a0)])) _
    refine X0.arraylength hx (by rw [e0]; exact Ar276.1) (State.isArrayOf_alike hZ.alike Ar276.2.1) (g := (mkF m 4 #[.val (.ref a0), .val (.ref a1)] [(.ref a1), (.int (0 : Int32)), (.ref a1), (.ref a0)])) rfl rfl (hb hby d2_4) _ ?_
    rw [len_of S276 N276]
    show Steps p.tables e below (s₁.setTop (mkF m 5 #[.val (.ref a0), .val (.ref a1)] [(.int (2 : Int32)), (.int (0 : Int32)), (.ref a1), (.ref a0)])) _
    refine XS.aconstNull X0.here hx rfl (hb hby d2_5) ?_
    show Steps p.tables e below (s₁.setTop (mkF m 6 #[.val (.ref a0), .val (.ref a1)] [.null, (.int (2 : Int32)), (.int (0 : Int32)), (.ref a1), (.ref a0)])) _
    refine st277.trans ?_
    show Steps p.tables e below (T277.setTop (mkF m 9 #[.val (.ref a0), .val (.ref a1)] [])) _
    exact X277.returnOut hx Bd.returns (hb hby d2_9) hr
  ·
    show Q_i1_2 Z a0 a1 kc u0 u1 zc h0 n0 _ T277.heap _
    exact ⟨t277, kb277, w0277, w1277, rfl, N277, K285, f278, f279, f280, f281⟩
theorem d1_35 : decode method_3_code 35 = .ok (.iload_n 0, 1) := by decide +kernel
theorem d1_36 : decode method_3_code 36 = .ok (.iconst 2, 1) := by decide +kernel
theorem d1_37 : decode method_3_code 37 = .ok (.if_icmp .ne 22, 3) := by decide +kernel
theorem d1_40 : decode method_3_code 40 = .ok (.new 20, 3) := by decide +kernel
theorem d1_43 : decode method_3_code 43 = .ok (.dup, 1) := by decide +kernel
theorem d1_44 : decode method_3_code 44 = .ok (.iconst 2, 1) := by decide +kernel
theorem d1_45 : decode method_3_code 45 = .ok (.newarray .char, 2) := by decide +kernel
theorem d1_47 : decode method_3_code 47 = .ok (.dup, 1) := by decide +kernel
theorem d1_48 : decode method_3_code 48 = .ok (.iconst 0, 1) := by decide +kernel
theorem d1_49 : decode method_3_code 49 = .ok (.iload_n 1, 1) := by decide +kernel
theorem d1_50 : decode method_3_code 50 = .ok (.castore, 1) := by decide +kernel
theorem d1_51 : decode method_3_code 51 = .ok (.dup, 1) := by decide +kernel
theorem d1_52 : decode method_3_code 52 = .ok (.iconst 1, 1) := by decide +kernel
theorem d1_53 : decode method_3_code 53 = .ok (.iload_n 2, 1) := by decide +kernel
theorem d1_54 : decode method_3_code 54 = .ok (.castore, 1) := by decide +kernel
theorem d1_55 : decode method_3_code 55 = .ok (.invokespecial 37, 3) := by decide +kernel
theorem d1_58 : decode method_3_code 58 = .ok (.areturn, 1) := by decide +kernel
theorem ef_mk_2 (m : MethodId) (p1 : Int32) (p2 : Int32) (p3 : Int32) : entryFrame m #[(.int (2 : Int32)), (.int p1), (.int p2), (.int p3)] 4 = mkF m 0 #[.val (.int (2 : Int32)), .val (.int p1), .val (.int p2), .val (.int p3)] [] := by first | (simp [entryFrame, mkF, argsToLocals, Value.category]; done) | rfl
def Q_mk_2 (Z : State) (p1 : Int32) (p2 : Int32) (p3 : Int32) (zc : Int32) (h0 : Heap) (n0 : Nat) (v : Option Value) (h : Heap) (L : List Loc) : Prop := ∃ b : Addr, ∃ t : Addr, ∃ kb : ClassId, ∃ w0 : Int32, ∃ w1 : Int32, v = some (.ref b) ∧ Fr n0 L ∧ Keep h0 h [] ∧ h0.size ≤ b ∧ Exa Z h b "java/lang/String" ∧ Fld Z h b "java/lang/String" "coder" "B" (.int (0 : Int32)) ∧ Fld Z h b "java/lang/String" "value" "[B" (.ref t) ∧ Arv Z h t kb .byte (2 : Int32) [(.int w0), (.int w1)] (.int (0 : Int32))
set_option maxRecDepth 65536 in
set_option maxHeartbeats 40000000 in
theorem mk_2 (l : Launch) (Z : State) (aw : Array Value) (hw : ∀ d ∈ tables_1, d.before aw Z = true) (ws : List Jvm.Cond) (p1 : Int32) (p2 : Int32) (p3 : Int32) (zc : Int32) (h0 : Heap) (n0 : Nat) (Z0 : n0 ≤ h0.size) (OLD : Old Z n0 h0) (O_COMPACT_STRINGS : Sta Z Z.heap "java/lang/String" "COMPACT_STRINGS" "Z" (.int zc)) (hzc : ¬ (zc = (0 : Int32))) (hp1 : 0 ≤ p1.toInt ∧ p1.toInt ≤ 255) (hp2 : 0 ≤ p2.toInt ∧ p2.toInt ≤ 255) :
    MetFree l (⟨"com/example/reliquary/reliquary/DatastreamDefaultMimeTypePinLaw", "make", "(ICCC)Ljava/lang/String;"⟩ : MethodName) (head1 (Jvm.Cond.code (⟨"com/example/reliquary/reliquary/DatastreamDefaultMimeTypePinLaw", "make", "(ICCC)Ljava/lang/String;"⟩ : MethodName) method_3_code 4 (some (.object "java/lang/String")) :: ws) ({ frames := 4, cells := 3, slots := 8, locals := 66 } : Room)) (fun a U => a = #[(.int (2 : Int32)), (.int p1), (.int p2), (.int p3)] ∧ Z.Warmed39 U.vm ∧ U.heap = h0) (fun _ _ _ _ _ => True) (fun _ U o U' => ∃ v L, o = .returned v ∧ Q_mk_2 Z p1 p2 p3 zc h0 n0 v U'.heap L ∧ FrameEnd U o U' L ({ frames := 4, cells := 3, slots := 8, locals := 66 } : Room).cells ({ frames := 4, cells := 3, slots := 8, locals := 66 } : Room).slots) := by
  refine MetFree.of_bodySF (plainFor_of_name pn_2) hisR ?_
  intro p e s m args below meth c s₁ Bd hml0 hP hK
  obtain ⟨rfl, hZ, hh⟩ := hP
  have hx := Bd.exec
  have hby := Bd.bytes
  have hml : c.maxLocals = 4 := hml0
  have hown : s.vm.findClass "com/example/reliquary/reliquary/DatastreamDefaultMimeTypePinLaw" = some m.cls := findClass_of_methodNamed Bd.named
  have hnm := (name_of_methodNamed Bd.named Bd.method).1
  have X0 : Stand p l e ({ frames := 4, cells := 3, slots := 8, locals := 66 } : Room) s m #[(.int (2 : Int32)), (.int p1), (.int p2), (.int p3)] below meth c s₁ [] 0 0 := Stand.of_body Bd
  have e0 : s₁.heap = h0 := by rw [← hh, Bd.state]; rfl
  have N0 := Fr.nil n0
  have pre0 : ∀ t, Steps p.tables e below (s₁.setTop (mkF m 0 #[.val (.int (2 : Int32)), .val (.int p1), .val (.int p2), .val (.int p3)] [])) t → Steps p.tables e below (s₁.setTop (entryFrame m #[(.int (2 : Int32)), (.int p1), (.int p2), (.int p3)] 4)) t := fun t k => castTop (ef_mk_2 m p1 p2 p3) k
  have KC0 : Keep h0 h0 [] := Keep.refl h0 []
  obtain ⟨T286, h286, X286, e286, E286, A286, D286, -, st286⟩ := newO X0 hx hZ hown (hw _ (List.mem_of_getElem? (i := 4) rfl)) (hw _ (List.mem_of_getElem? (i := 5) rfl)) (hw _ (List.mem_of_getElem? (i := 6) rfl)) e0 (g := (mkF m 40 #[.val (.int (2 : Int32)), .val (.int p1), .val (.int p2), .val (.int p3)] [])) rfl (hb hby d1_40) (by decide) (by decide)
  obtain ⟨b286, g286⟩ : ∃ z_, z_ = h0.size := ⟨_, rfl⟩
  rw [← g286] at A286 D286 st286
  have gn287 : n0 ≤ b286 := Nat.le_trans Z0 (Nat.le_of_eq g286.symm)
  have sz288 : h0.size ≤ b286 := Nat.le_trans KC0.1 (Nat.le_of_eq g286.symm)
  have Z289 : n0 ≤ h286.size := Nat.le_trans Z0 E286.1
  have K290 : Keep h0 h286 [] := Keep.ext KC0 E286
  have O291 := Old.ext OLD E286
  have f292 : Fld Z h286 b286 "java/lang/String" "value" "[B" .null := D286 (Or.inr (hw _ (List.mem_of_getElem? (i := 20) rfl))) (ty := (.array .byte)) (by decide)
  have f293 : Fld Z h286 b286 "java/lang/String" "coder" "B" (.int (0 : Int32)) := D286 (Or.inr (hw _ (List.mem_of_getElem? (i := 21) rfl))) (ty := .byte) (by decide)
  obtain ⟨T294, h294, k294, X294, e294, E294, A294, kc294, st294⟩ := newPk X286 hx hZ (hw _ (List.mem_of_getElem? (i := 7) rfl)) e286 (g := (mkF m 45 #[.val (.int (2 : Int32)), .val (.int p1), .val (.int p2), .val (.int p3)] [(.int (2 : Int32)), (.ref b286), (.ref b286)])) rfl (hb hby d1_45) rfl (by decide) (cap := 2) (by decide) (by decide) (by decide) (by decide)
  obtain ⟨b294, g294⟩ : ∃ z_, z_ = h286.size := ⟨_, rfl⟩
  rw [← g294] at A294 st294
  have ne295 : b286 ≠ b294 := Nat.ne_of_lt (Nat.lt_of_lt_of_le A286.lt (Nat.le_of_eq g294.symm))
  have gn296 : n0 ≤ b294 := Nat.le_trans Z289 (Nat.le_of_eq g294.symm)
  have sz297 : h0.size ≤ b294 := Nat.le_trans K290.1 (Nat.le_of_eq g294.symm)
  have f298 := A286.ext E294
  have f299 := f292.ext E294
  have f300 := f293.ext E294
  have Z301 : n0 ≤ h294.size := Nat.le_trans Z289 E294.1
  have K302 : Keep h0 h294 [] := Keep.ext K290 E294
  have O303 := Old.ext O291 E294
  have f304 : Arv Z h294 b294 k294 .char (2 : Int32) [(.int (0 : Int32)), (.int (0 : Int32))] (.int (0 : Int32)) := (Arv.new A294 (by decide)).pad (pad_rep [] (.int (0 : Int32)) 2)
  obtain ⟨cl305, Ar305, q305, S305, N305, H305, G305⟩ := id f304
  have hin305 : ¬ ((0 : Int32) < 0 ∨ cl305.slots.size ≤ ((0 : Int32)).toNatClampNeg) := inb_of S305 ⟨by decide, by decide⟩
  obtain ⟨T305, h305, X305, e305, W305, st305⟩ := stC X294 hx hZ e294 Ar305 (j := (0 : Int32)) hin305 (g := (mkF m 50 #[.val (.int (2 : Int32)), .val (.int p1), .val (.int p2), .val (.int p3)] [(.int p1), (.int (0 : Int32)), (.ref b294), (.ref b294), (.ref b286), (.ref b286)])) rfl rfl (hb hby d1_50)
  have f306 := f298.wr W305
  have f307 := f299.other W305 (Or.inl ne295)
  have f308 := f300.other W305 (Or.inl ne295)
  have Z309 : n0 ≤ h305.size := Nat.le_trans Z301 (Keep.of_wr W305).1
  have K310 : Keep h0 h305 [] := Keep.wr K302 W305 (Or.inr sz297)
  have N311 := Fr.snoc X305 N0 gn296
  have O312 := Old.wr O303 W305 gn296
  have f313 : Arv Z h305 b294 k294 .char (2 : Int32) [(.int (nar .char p1)), (.int (0 : Int32))] (.int (0 : Int32)) := Arv.set Ar305 q305 S305 N305 H305 G305 (fits_nar_char _) W305 0 rfl (Nat.le_of_ble_eq_true rfl)
  obtain ⟨cl314, Ar314, q314, S314, N314, H314, G314⟩ := id f313
  have hin314 : ¬ ((1 : Int32) < 0 ∨ cl314.slots.size ≤ ((1 : Int32)).toNatClampNeg) := inb_of S314 ⟨by decide, by decide⟩
  obtain ⟨T314, h314, X314, e314, W314, st314⟩ := stC X305 hx hZ e305 Ar314 (j := (1 : Int32)) hin314 (g := (mkF m 54 #[.val (.int (2 : Int32)), .val (.int p1), .val (.int p2), .val (.int p3)] [(.int p2), (.int (1 : Int32)), (.ref b294), (.ref b294), (.ref b286), (.ref b286)])) rfl rfl (hb hby d1_54)
  have f315 := f306.wr W314
  have f316 := f307.other W314 (Or.inl ne295)
  have f317 := f308.other W314 (Or.inl ne295)
  have Z318 : n0 ≤ h314.size := Nat.le_trans Z309 (Keep.of_wr W314).1
  have K319 : Keep h0 h314 [] := Keep.wr K310 W314 (Or.inr sz297)
  have N320 := Fr.snoc X314 N311 gn296
  have O321 := Old.wr O312 W314 gn296
  have f322 : Arv Z h314 b294 k294 .char (2 : Int32) [(.int (nar .char p1)), (.int (nar .char p2))] (.int (0 : Int32)) := Arv.set Ar314 q314 S314 N314 H314 G314 (fits_nar_char _) W314 1 rfl (Nat.le_of_ble_eq_true rfl)
  obtain ⟨_, _, ⟨T323, L323, k323, n323⟩, -, X323, ⟨Lc323, hQ323, l323, y323, z323⟩, st323⟩ := X314.specialBack hx (y := (⟨"java/lang/String", "<init>", "([C)V"⟩ : MethodName)) rfl hown (mvT hZ (hw _ (List.mem_of_getElem? (i := 8) rfl))) (mvT hZ (hw _ (List.mem_of_getElem? (i := 9) rfl))) (mvT hZ (hw _ (List.mem_of_getElem? (i := 10) rfl))) (by decide) (backOf (W := 1) (i1_2 l Z aw hw [] b286 b294 k294 ((nar .char p1)) ((nar .char p2)) zc h314 n0 Z318 f315 f316 f317 gn287 f322 ne295 O321 O_COMPACT_STRINGS hzc (own_nc hp1) (own_nc hp2)) hZ (hw _ (List.mem_of_getElem? (i := 10) rfl)) (hw _ (List.mem_of_getElem? (i := 6) rfl)) (by decide) (by decide)) (g := (mkF m 55 #[.val (.int (2 : Int32)), .val (.int p1), .val (.int p2), .val (.int p3)] [(.ref b294), (.ref b286), (.ref b286)])) rfl (by rw [hml]; rfl) (Steps.refl _) (a := b286) (argsL := [(.ref b294)]) (rest := [(.ref b286)]) (lenOf pd_4 rfl) rfl (by show 2 * 0 + _ ≤ _; exact Nat.le_of_eq rfl) (hb hby d1_55) (fun _ _ => ⟨rfl, e314, (by decide : 2 + 1 ≤ _), (by decide : 6 + 2 ≤ _)⟩)
  dsimp only [Pt.U, Pt.locs, Pt.cells, Pt.slots] at X323 l323 y323 z323 st323 hQ323
  replace l323 := l323.symm; replace y323 := y323.symm; replace z323 := z323.symm; subst l323 y323 z323
  obtain ⟨t323, kb323, w0323, w1323, rfl, N323q, K323, f324, f325, f326, f327⟩ := hQ323
  have N323 := Fr.app N320 N323q
  have f328 := f322.keep K323 (ninS (Ne.symm ne295) nin0)
  have Z329 : n0 ≤ T323.heap.size := Nat.le_trans Z318 K323.1
  have O330 := Old.keep O321 K323 (allS gn287 all0)
  have K331 : Keep h0 T323.heap [] := Keep.trans K319 K323 (allS (Or.inr sz288) all0)
  obtain ⟨fs, hr, hrun, hended, hW, hsame⟩ := X323.leave (v := some (.ref b286)) (fun h => by rw [Bd.returns] at h; cases h)
  refine ⟨_, _, pre0 _ ?_, hrun, hended, _, _, rfl, ?_, ⟨_, rfl⟩, hW, hsame.mono (by decide) (by decide)⟩
  ·
    show Steps p.tables e below (s₁.setTop (mkF m 0 #[.val (.int (2 : Int32)), .val (.int p1), .val (.int p2), .val (.int p3)] [])) _
    refine XS.iloadN X0.here hx rfl (hb hby d1_0) rfl ?_
    show Steps p.tables e below (s₁.setTop (mkF m 1 #[.val (.int (2 : Int32)), .val (.int p1), .val (.int p2), .val (.int p3)] [(.int (2 : Int32))])) _
    refine XS.ifYes X0.here hx rfl (pc0 := 1) (pc' := 15) rfl (hb hby d1_1) rfl ((if0 _ _).trans (feq (by decide)).2) (by decide) (by decide) ?_
    show Steps p.tables e below (s₁.setTop (mkF m 15 #[.val (.int (2 : Int32)), .val (.int p1), .val (.int p2), .val (.int p3)] [])) _
    refine XS.iloadN X0.here hx rfl (hb hby d1_15) rfl ?_
    show Steps p.tables e below (s₁.setTop (mkF m 16 #[.val (.int (2 : Int32)), .val (.int p1), .val (.int p2), .val (.int p3)] [(.int (2 : Int32))])) _
    refine XS.iconst X0.here hx rfl (hb hby d1_16) ?_
    show Steps p.tables e below (s₁.setTop (mkF m 17 #[.val (.int (2 : Int32)), .val (.int p1), .val (.int p2), .val (.int p3)] [(.int (1 : Int32)), (.int (2 : Int32))])) _
    refine XS.icmpYes X0.here hx rfl (pc0 := 17) (pc' := 35) rfl (hb hby d1_17) rfl (feq (by decide)).2 (by decide) (by decide) ?_
    show Steps p.tables e below (s₁.setTop (mkF m 35 #[.val (.int (2 : Int32)), .val (.int p1), .val (.int p2), .val (.int p3)] [])) _
    refine XS.iloadN X0.here hx rfl (hb hby d1_35) rfl ?_
    show Steps p.tables e below (s₁.setTop (mkF m 36 #[.val (.int (2 : Int32)), .val (.int p1), .val (.int p2), .val (.int p3)] [(.int (2 : Int32))])) _
    refine XS.iconst X0.here hx rfl (hb hby d1_36) ?_
    show Steps p.tables e below (s₁.setTop (mkF m 37 #[.val (.int (2 : Int32)), .val (.int p1), .val (.int p2), .val (.int p3)] [(.int (2 : Int32)), (.int (2 : Int32))])) _
    refine XS.icmpNo X0.here hx rfl (hb hby d1_37) rfl (teq rfl).2 ?_
    show Steps p.tables e below (s₁.setTop (mkF m 40 #[.val (.int (2 : Int32)), .val (.int p1), .val (.int p2), .val (.int p3)] [])) _
    refine st286 _ ?_
    show Steps p.tables e below (T286.setTop (mkF m 43 #[.val (.int (2 : Int32)), .val (.int p1), .val (.int p2), .val (.int p3)] [(.ref b286)])) _
    refine XS.dup X286.here hx rfl (hb hby d1_43) rfl rfl ?_
    show Steps p.tables e below (T286.setTop (mkF m 44 #[.val (.int (2 : Int32)), .val (.int p1), .val (.int p2), .val (.int p3)] [(.ref b286), (.ref b286)])) _
    refine XS.iconst X286.here hx rfl (hb hby d1_44) ?_
    show Steps p.tables e below (T286.setTop (mkF m 45 #[.val (.int (2 : Int32)), .val (.int p1), .val (.int p2), .val (.int p3)] [(.int (2 : Int32)), (.ref b286), (.ref b286)])) _
    refine st294 _ ?_
    show Steps p.tables e below (T294.setTop (mkF m 47 #[.val (.int (2 : Int32)), .val (.int p1), .val (.int p2), .val (.int p3)] [(.ref b294), (.ref b286), (.ref b286)])) _
    refine XS.dup X294.here hx rfl (hb hby d1_47) rfl rfl ?_
    show Steps p.tables e below (T294.setTop (mkF m 48 #[.val (.int (2 : Int32)), .val (.int p1), .val (.int p2), .val (.int p3)] [(.ref b294), (.ref b294), (.ref b286), (.ref b286)])) _
    refine XS.iconst X294.here hx rfl (hb hby d1_48) ?_
    show Steps p.tables e below (T294.setTop (mkF m 49 #[.val (.int (2 : Int32)), .val (.int p1), .val (.int p2), .val (.int p3)] [(.int (0 : Int32)), (.ref b294), (.ref b294), (.ref b286), (.ref b286)])) _
    refine XS.iloadN X294.here hx rfl (hb hby d1_49) rfl ?_
    show Steps p.tables e below (T294.setTop (mkF m 50 #[.val (.int (2 : Int32)), .val (.int p1), .val (.int p2), .val (.int p3)] [(.int p1), (.int (0 : Int32)), (.ref b294), (.ref b294), (.ref b286), (.ref b286)])) _
    refine st305 _ ?_
    show Steps p.tables e below (T305.setTop (mkF m 51 #[.val (.int (2 : Int32)), .val (.int p1), .val (.int p2), .val (.int p3)] [(.ref b294), (.ref b286), (.ref b286)])) _
    refine XS.dup X305.here hx rfl (hb hby d1_51) rfl rfl ?_
    show Steps p.tables e below (T305.setTop (mkF m 52 #[.val (.int (2 : Int32)), .val (.int p1), .val (.int p2), .val (.int p3)] [(.ref b294), (.ref b294), (.ref b286), (.ref b286)])) _
    refine XS.iconst X305.here hx rfl (hb hby d1_52) ?_
    show Steps p.tables e below (T305.setTop (mkF m 53 #[.val (.int (2 : Int32)), .val (.int p1), .val (.int p2), .val (.int p3)] [(.int (1 : Int32)), (.ref b294), (.ref b294), (.ref b286), (.ref b286)])) _
    refine XS.iloadN X305.here hx rfl (hb hby d1_53) rfl ?_
    show Steps p.tables e below (T305.setTop (mkF m 54 #[.val (.int (2 : Int32)), .val (.int p1), .val (.int p2), .val (.int p3)] [(.int p2), (.int (1 : Int32)), (.ref b294), (.ref b294), (.ref b286), (.ref b286)])) _
    refine st314 _ ?_
    show Steps p.tables e below (T314.setTop (mkF m 55 #[.val (.int (2 : Int32)), .val (.int p1), .val (.int p2), .val (.int p3)] [(.ref b294), (.ref b286), (.ref b286)])) _
    refine st323.trans ?_
    show Steps p.tables e below (T323.setTop (mkF m 58 #[.val (.int (2 : Int32)), .val (.int p1), .val (.int p2), .val (.int p3)] [(.ref b286)])) _
    exact retA X323 hx rfl rfl Bd.returns (hb hby d1_58) hr
  ·
    show Q_mk_2 Z p1 p2 p3 zc h0 n0 _ T323.heap _
    exact ⟨b286, t323, kb323, w0323, w1323, rfl, N323, K331, sz288, f324, f325, f326, f327⟩
theorem ef_c5_3 (m : MethodId) (a0 : Addr) (a2 : Addr) : entryFrame m #[(.ref a0), (.int (0 : Int32)), (.ref a2), (.int (0 : Int32)), (.int (3 : Int32))] 7 = mkF m 0 #[.val (.ref a0), .val (.int (0 : Int32)), .val (.ref a2), .val (.int (0 : Int32)), .val (.int (3 : Int32)), .unset, .unset] [] := by first | (simp [entryFrame, mkF, argsToLocals, Value.category]; done) | rfl
def Q_c5_3 (Z : State) (a0 : Addr) (a2 : Addr) (kc : ClassId) (kb : ClassId) (u0 : Int32) (u1 : Int32) (u2 : Int32) (h0 : Heap) (n0 : Nat) (v : Option Value) (h : Heap) (L : List Loc) : Prop := v = some (.int (3 : Int32)) ∧ Fr n0 L ∧ Keep h0 h [a2] ∧ Arv Z h a2 kb .byte (3 : Int32) [(.int (nar .byte (u0.toInt8.toInt32))), (.int (nar .byte (u1.toInt8.toInt32))), (.int (nar .byte (u2.toInt8.toInt32)))] (.int (0 : Int32))
set_option maxRecDepth 65536 in
set_option maxHeartbeats 40000000 in
theorem c5_3 (l : Launch) (Z : State) (aw : Array Value) (hw : ∀ d ∈ tables_1, d.before aw Z = true) (ws : List Jvm.Cond) (a0 : Addr) (a2 : Addr) (kc : ClassId) (kb : ClassId) (u0 : Int32) (u1 : Int32) (u2 : Int32) (h0 : Heap) (n0 : Nat) (Z0 : n0 ≤ h0.size) (V_a0 : Arv Z h0 a0 kc .char (3 : Int32) [(.int u0), (.int u1), (.int u2)] (.int (0 : Int32))) (V_a2 : Arv Z h0 a2 kb .byte (3 : Int32) [(.int (0 : Int32)), (.int (0 : Int32)), (.int (0 : Int32))] (.int (0 : Int32))) (ne_a0_a2 : a0 ≠ a2) (g_a2 : n0 ≤ a2) (hu0 : ¬ ((255 : Int32) < u0)) (hu1 : ¬ ((255 : Int32) < u1)) (hu2 : ¬ ((255 : Int32) < u2)) :
    MetFree l (⟨"java/lang/StringUTF16", "compress", "([CI[BII)I"⟩ : MethodName) (head1 (Jvm.Cond.code (⟨"java/lang/StringUTF16", "compress", "([CI[BII)I"⟩ : MethodName) jdk_52_method_21_code 7 (some .int) :: ws) ({ frames := 0, cells := 0, slots := 0, locals := 0 } : Room)) (fun a U => a = #[(.ref a0), (.int (0 : Int32)), (.ref a2), (.int (0 : Int32)), (.int (3 : Int32))] ∧ Z.Warmed39 U.vm ∧ U.heap = h0) (fun _ _ _ _ _ => True) (fun _ U o U' => ∃ v L, o = .returned v ∧ Q_c5_3 Z a0 a2 kc kb u0 u1 u2 h0 n0 v U'.heap L ∧ FrameEnd U o U' L ({ frames := 0, cells := 0, slots := 0, locals := 0 } : Room).cells ({ frames := 0, cells := 0, slots := 0, locals := 0 } : Room).slots) := by
  refine MetFree.of_bodySF (plainFor_of_name pn_0) hisR ?_
  intro p e s m args below meth c s₁ Bd hml0 hP hK
  obtain ⟨rfl, hZ, hh⟩ := hP
  have hx := Bd.exec
  have hby := Bd.bytes
  have hml : c.maxLocals = 7 := hml0
  have hown : s.vm.findClass "java/lang/StringUTF16" = some m.cls := findClass_of_methodNamed Bd.named
  have hnm := (name_of_methodNamed Bd.named Bd.method).1
  have X0 : Stand p l e ({ frames := 0, cells := 0, slots := 0, locals := 0 } : Room) s m #[(.ref a0), (.int (0 : Int32)), (.ref a2), (.int (0 : Int32)), (.int (3 : Int32))] below meth c s₁ [] 0 0 := Stand.of_body Bd
  have e0 : s₁.heap = h0 := by rw [← hh, Bd.state]; rfl
  have N0 := Fr.nil n0
  have pre0 : ∀ t, Steps p.tables e below (s₁.setTop (mkF m 0 #[.val (.ref a0), .val (.int (0 : Int32)), .val (.ref a2), .val (.int (0 : Int32)), .val (.int (3 : Int32)), .unset, .unset] [])) t → Steps p.tables e below (s₁.setTop (entryFrame m #[(.ref a0), (.int (0 : Int32)), (.ref a2), (.int (0 : Int32)), (.int (3 : Int32))] 7)) t := fun t k => castTop (ef_c5_3 m a0 a2) k
  have KC0 : Keep h0 h0 [a2] := Keep.refl h0 [a2]
  obtain ⟨cl332, Ar332, q332, S332, N332, H332, G332⟩ := id V_a0
  have hin332 : ¬ ((0 : Int32) < 0 ∨ cl332.slots.size ≤ ((0 : Int32)).toNatClampNeg) := inb_of S332 ⟨by decide, by decide⟩
  have hat332 : cl332.slots[((0 : Int32)).toNatClampNeg]? = some (.int u0) := Has.at H332 hin332 rfl
  have c333 : ¬ ((255 : Int32) < u0) := by
    exact hu0
  obtain ⟨cl334, Ar334, q334, S334, N334, H334, G334⟩ := id V_a2
  have hin334 : ¬ ((0 : Int32) < 0 ∨ cl334.slots.size ≤ ((0 : Int32)).toNatClampNeg) := inb_of S334 ⟨by decide, by decide⟩
  obtain ⟨T334, h334, X334, e334, W334, st334⟩ := stB X0 hx hZ e0 Ar334 (j := (0 : Int32)) hin334 (g := (mkF m 31 #[.val (.ref a0), .val (.int (0 : Int32)), .val (.ref a2), .val (.int (0 : Int32)), .val (.int (3 : Int32)), .val (.int (0 : Int32)), .val (.int u0)] [(.int (u0.toInt8.toInt32)), (.int (0 : Int32)), (.ref a2)])) rfl rfl (hb hby d11_31)
  have f335 := V_a0.other W334 ne_a0_a2
  have Z336 : n0 ≤ h334.size := Nat.le_trans Z0 (Keep.of_wr W334).1
  have K337 : Keep h0 h334 [a2] := Keep.wr KC0 W334 (Or.inl (List.mem_of_getElem? (i := 0) rfl))
  have N338 := Fr.snoc X334 N0 g_a2
  have f339 : Arv Z h334 a2 kb .byte (3 : Int32) [(.int (nar .byte (u0.toInt8.toInt32))), (.int (0 : Int32)), (.int (0 : Int32))] (.int (0 : Int32)) := Arv.set Ar334 q334 S334 N334 H334 G334 (fits_nar_byte _) W334 0 rfl (Nat.le_of_ble_eq_true rfl)
  obtain ⟨cl340, Ar340, q340, S340, N340, H340, G340⟩ := id f335
  have hin340 : ¬ ((1 : Int32) < 0 ∨ cl340.slots.size ≤ ((1 : Int32)).toNatClampNeg) := inb_of S340 ⟨by decide, by decide⟩
  have hat340 : cl340.slots[((1 : Int32)).toNatClampNeg]? = some (.int u1) := Has.at H340 hin340 rfl
  have c341 : ¬ ((255 : Int32) < u1) := by
    exact hu1
  obtain ⟨cl342, Ar342, q342, S342, N342, H342, G342⟩ := id f339
  have hin342 : ¬ ((1 : Int32) < 0 ∨ cl342.slots.size ≤ ((1 : Int32)).toNatClampNeg) := inb_of S342 ⟨by decide, by decide⟩
  obtain ⟨T342, h342, X342, e342, W342, st342⟩ := stB X334 hx hZ e334 Ar342 (j := (1 : Int32)) hin342 (g := (mkF m 31 #[.val (.ref a0), .val (.int (1 : Int32)), .val (.ref a2), .val (.int (1 : Int32)), .val (.int (3 : Int32)), .val (.int (1 : Int32)), .val (.int u1)] [(.int (u1.toInt8.toInt32)), (.int (1 : Int32)), (.ref a2)])) rfl rfl (hb hby d11_31)
  have f343 := f335.other W342 ne_a0_a2
  have Z344 : n0 ≤ h342.size := Nat.le_trans Z336 (Keep.of_wr W342).1
  have K345 : Keep h0 h342 [a2] := Keep.wr K337 W342 (Or.inl (List.mem_of_getElem? (i := 0) rfl))
  have N346 := Fr.snoc X342 N338 g_a2
  have f347 : Arv Z h342 a2 kb .byte (3 : Int32) [(.int (nar .byte (u0.toInt8.toInt32))), (.int (nar .byte (u1.toInt8.toInt32))), (.int (0 : Int32))] (.int (0 : Int32)) := Arv.set Ar342 q342 S342 N342 H342 G342 (fits_nar_byte _) W342 1 rfl (Nat.le_of_ble_eq_true rfl)
  obtain ⟨cl348, Ar348, q348, S348, N348, H348, G348⟩ := id f343
  have hin348 : ¬ ((2 : Int32) < 0 ∨ cl348.slots.size ≤ ((2 : Int32)).toNatClampNeg) := inb_of S348 ⟨by decide, by decide⟩
  have hat348 : cl348.slots[((2 : Int32)).toNatClampNeg]? = some (.int u2) := Has.at H348 hin348 rfl
  have c349 : ¬ ((255 : Int32) < u2) := by
    exact hu2
  obtain ⟨cl350, Ar350, q350, S350, N350, H350, G350⟩ := id f347
  have hin350 : ¬ ((2 : Int32) < 0 ∨ cl350.slots.size ≤ ((2 : Int32)).toNatClampNeg) := inb_of S350 ⟨by decide, by decide⟩
  obtain ⟨T350, h350, X350, e350, W350, st350⟩ := stB X342 hx hZ e342 Ar350 (j := (2 : Int32)) hin350 (g := (mkF m 31 #[.val (.ref a0), .val (.int (2 : Int32)), .val (.ref a2), .val (.int (2 : Int32)), .val (.int (3 : Int32)), .val (.int (2 : Int32)), .val (.int u2)] [(.int (u2.toInt8.toInt32)), (.int (2 : Int32)), (.ref a2)])) rfl rfl (hb hby d11_31)
  have f351 := f343.other W350 ne_a0_a2
  have Z352 : n0 ≤ h350.size := Nat.le_trans Z344 (Keep.of_wr W350).1
  have K353 : Keep h0 h350 [a2] := Keep.wr K345 W350 (Or.inl (List.mem_of_getElem? (i := 0) rfl))
  have N354 := Fr.snoc X350 N346 g_a2
  have f355 : Arv Z h350 a2 kb .byte (3 : Int32) [(.int (nar .byte (u0.toInt8.toInt32))), (.int (nar .byte (u1.toInt8.toInt32))), (.int (nar .byte (u2.toInt8.toInt32)))] (.int (0 : Int32)) := Arv.set Ar350 q350 S350 N350 H350 G350 (fits_nar_byte _) W350 2 rfl (Nat.le_of_ble_eq_true rfl)
  obtain ⟨fs, hr, hrun, hended, hW, hsame⟩ := X350.leave (v := some (.int (3 : Int32))) (fun h => by rw [Bd.returns] at h; cases h)
  refine ⟨_, _, pre0 _ ?_, hrun, hended, _, _, rfl, ?_, ⟨_, rfl⟩, hW, hsame.mono (by decide) (by decide)⟩
  ·
    show Steps p.tables e below (s₁.setTop (mkF m 0 #[.val (.ref a0), .val (.int (0 : Int32)), .val (.ref a2), .val (.int (0 : Int32)), .val (.int (3 : Int32)), .unset, .unset] [])) _
    refine XS.iconst X0.here hx rfl (hb hby d11_0) ?_
    show Steps p.tables e below (s₁.setTop (mkF m 1 #[.val (.ref a0), .val (.int (0 : Int32)), .val (.ref a2), .val (.int (0 : Int32)), .val (.int (3 : Int32)), .unset, .unset] [(.int (0 : Int32))])) _
    refine XS.istore X0.here hx rfl (hb hby d11_1) rfl (l' := #[.val (.ref a0), .val (.int (0 : Int32)), .val (.ref a2), .val (.int (0 : Int32)), .val (.int (3 : Int32)), .val (.int (0 : Int32)), .unset]) rfl ?_
    show Steps p.tables e below (s₁.setTop (mkF m 3 #[.val (.ref a0), .val (.int (0 : Int32)), .val (.ref a2), .val (.int (0 : Int32)), .val (.int (3 : Int32)), .val (.int (0 : Int32)), .unset] [])) _
    refine XS.iload X0.here hx rfl (hb hby d11_3) rfl ?_
    show Steps p.tables e below (s₁.setTop (mkF m 5 #[.val (.ref a0), .val (.int (0 : Int32)), .val (.ref a2), .val (.int (0 : Int32)), .val (.int (3 : Int32)), .val (.int (0 : Int32)), .unset] [(.int (0 : Int32))])) _
    refine XS.iload X0.here hx rfl (hb hby d11_5) rfl ?_
    show Steps p.tables e below (s₁.setTop (mkF m 7 #[.val (.ref a0), .val (.int (0 : Int32)), .val (.ref a2), .val (.int (0 : Int32)), .val (.int (3 : Int32)), .val (.int (0 : Int32)), .unset] [(.int (3 : Int32)), (.int (0 : Int32))])) _
    refine XS.icmpNo X0.here hx rfl (hb hby d11_7) rfl (tlt (by decide)).2.1 ?_
    show Steps p.tables e below (s₁.setTop (mkF m 10 #[.val (.ref a0), .val (.int (0 : Int32)), .val (.ref a2), .val (.int (0 : Int32)), .val (.int (3 : Int32)), .val (.int (0 : Int32)), .unset] [])) _
    refine XS.aloadN X0.here hx rfl (hb hby d11_10) rfl rfl ?_
    show Steps p.tables e below (s₁.setTop (mkF m 11 #[.val (.ref a0), .val (.int (0 : Int32)), .val (.ref a2), .val (.int (0 : Int32)), .val (.int (3 : Int32)), .val (.int (0 : Int32)), .unset] [(.ref a0)])) _
    refine XS.iloadN X0.here hx rfl (hb hby d11_11) rfl ?_
    show Steps p.tables e below (s₁.setTop (mkF m 12 #[.val (.ref a0), .val (.int (0 : Int32)), .val (.ref a2), .val (.int (0 : Int32)), .val (.int (3 : Int32)), .val (.int (0 : Int32)), .unset] [(.int (0 : Int32)), (.ref a0)])) _
    refine X0.caload hx (j := (0 : Int32)) (v := (.int u0)) (by rw [e0]; exact Ar332.1) (State.isArrayOf_alike hZ.alike Ar332.2.1) Ar332.2.2 hin332 hat332 (g := (mkF m 12 #[.val (.ref a0), .val (.int (0 : Int32)), .val (.ref a2), .val (.int (0 : Int32)), .val (.int (3 : Int32)), .val (.int (0 : Int32)), .unset] [(.int (0 : Int32)), (.ref a0)])) rfl rfl (hb hby d11_12) _ ?_
    show Steps p.tables e below (s₁.setTop (mkF m 13 #[.val (.ref a0), .val (.int (0 : Int32)), .val (.ref a2), .val (.int (0 : Int32)), .val (.int (3 : Int32)), .val (.int (0 : Int32)), .unset] [(.int u0)])) _
    refine XS.istore X0.here hx rfl (hb hby d11_13) rfl (l' := #[.val (.ref a0), .val (.int (0 : Int32)), .val (.ref a2), .val (.int (0 : Int32)), .val (.int (3 : Int32)), .val (.int (0 : Int32)), .val (.int u0)]) rfl ?_
    show Steps p.tables e below (s₁.setTop (mkF m 15 #[.val (.ref a0), .val (.int (0 : Int32)), .val (.ref a2), .val (.int (0 : Int32)), .val (.int (3 : Int32)), .val (.int (0 : Int32)), .val (.int u0)] [])) _
    refine XS.iload X0.here hx rfl (hb hby d11_15) rfl ?_
    show Steps p.tables e below (s₁.setTop (mkF m 17 #[.val (.ref a0), .val (.int (0 : Int32)), .val (.ref a2), .val (.int (0 : Int32)), .val (.int (3 : Int32)), .val (.int (0 : Int32)), .val (.int u0)] [(.int u0)])) _
    refine XS.sipush X0.here hx rfl (hb hby d11_17) ?_
    show Steps p.tables e below (s₁.setTop (mkF m 20 #[.val (.ref a0), .val (.int (0 : Int32)), .val (.ref a2), .val (.int (0 : Int32)), .val (.int (3 : Int32)), .val (.int (0 : Int32)), .val (.int u0)] [(.int (255 : Int32)), (.int u0)])) _
    refine XS.icmpYes X0.here hx rfl (pc0 := 20) (pc' := 26) rfl (hb hby d11_20) rfl (flt c333).2.2.2 (by decide) (by decide) ?_
    show Steps p.tables e below (s₁.setTop (mkF m 26 #[.val (.ref a0), .val (.int (0 : Int32)), .val (.ref a2), .val (.int (0 : Int32)), .val (.int (3 : Int32)), .val (.int (0 : Int32)), .val (.int u0)] [])) _
    refine XS.aloadN X0.here hx rfl (hb hby d11_26) rfl rfl ?_
    show Steps p.tables e below (s₁.setTop (mkF m 27 #[.val (.ref a0), .val (.int (0 : Int32)), .val (.ref a2), .val (.int (0 : Int32)), .val (.int (3 : Int32)), .val (.int (0 : Int32)), .val (.int u0)] [(.ref a2)])) _
    refine XS.iloadN X0.here hx rfl (hb hby d11_27) rfl ?_
    show Steps p.tables e below (s₁.setTop (mkF m 28 #[.val (.ref a0), .val (.int (0 : Int32)), .val (.ref a2), .val (.int (0 : Int32)), .val (.int (3 : Int32)), .val (.int (0 : Int32)), .val (.int u0)] [(.int (0 : Int32)), (.ref a2)])) _
    refine XS.iload X0.here hx rfl (hb hby d11_28) rfl ?_
    show Steps p.tables e below (s₁.setTop (mkF m 30 #[.val (.ref a0), .val (.int (0 : Int32)), .val (.ref a2), .val (.int (0 : Int32)), .val (.int (3 : Int32)), .val (.int (0 : Int32)), .val (.int u0)] [(.int u0), (.int (0 : Int32)), (.ref a2)])) _
    refine XS.i2b X0.here hx rfl (hb hby d11_30) rfl ?_
    show Steps p.tables e below (s₁.setTop (mkF m 31 #[.val (.ref a0), .val (.int (0 : Int32)), .val (.ref a2), .val (.int (0 : Int32)), .val (.int (3 : Int32)), .val (.int (0 : Int32)), .val (.int u0)] [(.int (u0.toInt8.toInt32)), (.int (0 : Int32)), (.ref a2)])) _
    refine st334 _ ?_
    show Steps p.tables e below (T334.setTop (mkF m 32 #[.val (.ref a0), .val (.int (0 : Int32)), .val (.ref a2), .val (.int (0 : Int32)), .val (.int (3 : Int32)), .val (.int (0 : Int32)), .val (.int u0)] [])) _
    refine XS.iinc X334.here hx rfl (hb hby d11_32) rfl (l' := #[.val (.ref a0), .val (.int (1 : Int32)), .val (.ref a2), .val (.int (0 : Int32)), .val (.int (3 : Int32)), .val (.int (0 : Int32)), .val (.int u0)]) rfl ?_
    show Steps p.tables e below (T334.setTop (mkF m 35 #[.val (.ref a0), .val (.int (1 : Int32)), .val (.ref a2), .val (.int (0 : Int32)), .val (.int (3 : Int32)), .val (.int (0 : Int32)), .val (.int u0)] [])) _
    refine XS.iinc X334.here hx rfl (hb hby d11_35) rfl (l' := #[.val (.ref a0), .val (.int (1 : Int32)), .val (.ref a2), .val (.int (1 : Int32)), .val (.int (3 : Int32)), .val (.int (0 : Int32)), .val (.int u0)]) rfl ?_
    show Steps p.tables e below (T334.setTop (mkF m 38 #[.val (.ref a0), .val (.int (1 : Int32)), .val (.ref a2), .val (.int (1 : Int32)), .val (.int (3 : Int32)), .val (.int (0 : Int32)), .val (.int u0)] [])) _
    refine XS.iinc X334.here hx rfl (hb hby d11_38) rfl (l' := #[.val (.ref a0), .val (.int (1 : Int32)), .val (.ref a2), .val (.int (1 : Int32)), .val (.int (3 : Int32)), .val (.int (1 : Int32)), .val (.int u0)]) rfl ?_
    show Steps p.tables e below (T334.setTop (mkF m 41 #[.val (.ref a0), .val (.int (1 : Int32)), .val (.ref a2), .val (.int (1 : Int32)), .val (.int (3 : Int32)), .val (.int (1 : Int32)), .val (.int u0)] [])) _
    refine XS.goto X334.here hx rfl (pc0 := 41) (pc' := 3) rfl (hb hby d11_41) (by decide) (by decide) ?_
    show Steps p.tables e below (T334.setTop (mkF m 3 #[.val (.ref a0), .val (.int (1 : Int32)), .val (.ref a2), .val (.int (1 : Int32)), .val (.int (3 : Int32)), .val (.int (1 : Int32)), .val (.int u0)] [])) _
    refine XS.iload X334.here hx rfl (hb hby d11_3) rfl ?_
    show Steps p.tables e below (T334.setTop (mkF m 5 #[.val (.ref a0), .val (.int (1 : Int32)), .val (.ref a2), .val (.int (1 : Int32)), .val (.int (3 : Int32)), .val (.int (1 : Int32)), .val (.int u0)] [(.int (1 : Int32))])) _
    refine XS.iload X334.here hx rfl (hb hby d11_5) rfl ?_
    show Steps p.tables e below (T334.setTop (mkF m 7 #[.val (.ref a0), .val (.int (1 : Int32)), .val (.ref a2), .val (.int (1 : Int32)), .val (.int (3 : Int32)), .val (.int (1 : Int32)), .val (.int u0)] [(.int (3 : Int32)), (.int (1 : Int32))])) _
    refine XS.icmpNo X334.here hx rfl (hb hby d11_7) rfl (tlt (by decide)).2.1 ?_
    show Steps p.tables e below (T334.setTop (mkF m 10 #[.val (.ref a0), .val (.int (1 : Int32)), .val (.ref a2), .val (.int (1 : Int32)), .val (.int (3 : Int32)), .val (.int (1 : Int32)), .val (.int u0)] [])) _
    refine XS.aloadN X334.here hx rfl (hb hby d11_10) rfl rfl ?_
    show Steps p.tables e below (T334.setTop (mkF m 11 #[.val (.ref a0), .val (.int (1 : Int32)), .val (.ref a2), .val (.int (1 : Int32)), .val (.int (3 : Int32)), .val (.int (1 : Int32)), .val (.int u0)] [(.ref a0)])) _
    refine XS.iloadN X334.here hx rfl (hb hby d11_11) rfl ?_
    show Steps p.tables e below (T334.setTop (mkF m 12 #[.val (.ref a0), .val (.int (1 : Int32)), .val (.ref a2), .val (.int (1 : Int32)), .val (.int (3 : Int32)), .val (.int (1 : Int32)), .val (.int u0)] [(.int (1 : Int32)), (.ref a0)])) _
    refine X334.caload hx (j := (1 : Int32)) (v := (.int u1)) (by rw [e334]; exact Ar340.1) (State.isArrayOf_alike hZ.alike Ar340.2.1) Ar340.2.2 hin340 hat340 (g := (mkF m 12 #[.val (.ref a0), .val (.int (1 : Int32)), .val (.ref a2), .val (.int (1 : Int32)), .val (.int (3 : Int32)), .val (.int (1 : Int32)), .val (.int u0)] [(.int (1 : Int32)), (.ref a0)])) rfl rfl (hb hby d11_12) _ ?_
    show Steps p.tables e below (T334.setTop (mkF m 13 #[.val (.ref a0), .val (.int (1 : Int32)), .val (.ref a2), .val (.int (1 : Int32)), .val (.int (3 : Int32)), .val (.int (1 : Int32)), .val (.int u0)] [(.int u1)])) _
    refine XS.istore X334.here hx rfl (hb hby d11_13) rfl (l' := #[.val (.ref a0), .val (.int (1 : Int32)), .val (.ref a2), .val (.int (1 : Int32)), .val (.int (3 : Int32)), .val (.int (1 : Int32)), .val (.int u1)]) rfl ?_
    show Steps p.tables e below (T334.setTop (mkF m 15 #[.val (.ref a0), .val (.int (1 : Int32)), .val (.ref a2), .val (.int (1 : Int32)), .val (.int (3 : Int32)), .val (.int (1 : Int32)), .val (.int u1)] [])) _
    refine XS.iload X334.here hx rfl (hb hby d11_15) rfl ?_
    show Steps p.tables e below (T334.setTop (mkF m 17 #[.val (.ref a0), .val (.int (1 : Int32)), .val (.ref a2), .val (.int (1 : Int32)), .val (.int (3 : Int32)), .val (.int (1 : Int32)), .val (.int u1)] [(.int u1)])) _
    refine XS.sipush X334.here hx rfl (hb hby d11_17) ?_
    show Steps p.tables e below (T334.setTop (mkF m 20 #[.val (.ref a0), .val (.int (1 : Int32)), .val (.ref a2), .val (.int (1 : Int32)), .val (.int (3 : Int32)), .val (.int (1 : Int32)), .val (.int u1)] [(.int (255 : Int32)), (.int u1)])) _
    refine XS.icmpYes X334.here hx rfl (pc0 := 20) (pc' := 26) rfl (hb hby d11_20) rfl (flt c341).2.2.2 (by decide) (by decide) ?_
    show Steps p.tables e below (T334.setTop (mkF m 26 #[.val (.ref a0), .val (.int (1 : Int32)), .val (.ref a2), .val (.int (1 : Int32)), .val (.int (3 : Int32)), .val (.int (1 : Int32)), .val (.int u1)] [])) _
    refine XS.aloadN X334.here hx rfl (hb hby d11_26) rfl rfl ?_
    show Steps p.tables e below (T334.setTop (mkF m 27 #[.val (.ref a0), .val (.int (1 : Int32)), .val (.ref a2), .val (.int (1 : Int32)), .val (.int (3 : Int32)), .val (.int (1 : Int32)), .val (.int u1)] [(.ref a2)])) _
    refine XS.iloadN X334.here hx rfl (hb hby d11_27) rfl ?_
    show Steps p.tables e below (T334.setTop (mkF m 28 #[.val (.ref a0), .val (.int (1 : Int32)), .val (.ref a2), .val (.int (1 : Int32)), .val (.int (3 : Int32)), .val (.int (1 : Int32)), .val (.int u1)] [(.int (1 : Int32)), (.ref a2)])) _
    refine XS.iload X334.here hx rfl (hb hby d11_28) rfl ?_
    show Steps p.tables e below (T334.setTop (mkF m 30 #[.val (.ref a0), .val (.int (1 : Int32)), .val (.ref a2), .val (.int (1 : Int32)), .val (.int (3 : Int32)), .val (.int (1 : Int32)), .val (.int u1)] [(.int u1), (.int (1 : Int32)), (.ref a2)])) _
    refine XS.i2b X334.here hx rfl (hb hby d11_30) rfl ?_
    show Steps p.tables e below (T334.setTop (mkF m 31 #[.val (.ref a0), .val (.int (1 : Int32)), .val (.ref a2), .val (.int (1 : Int32)), .val (.int (3 : Int32)), .val (.int (1 : Int32)), .val (.int u1)] [(.int (u1.toInt8.toInt32)), (.int (1 : Int32)), (.ref a2)])) _
    refine st342 _ ?_
    show Steps p.tables e below (T342.setTop (mkF m 32 #[.val (.ref a0), .val (.int (1 : Int32)), .val (.ref a2), .val (.int (1 : Int32)), .val (.int (3 : Int32)), .val (.int (1 : Int32)), .val (.int u1)] [])) _
    refine XS.iinc X342.here hx rfl (hb hby d11_32) rfl (l' := #[.val (.ref a0), .val (.int (2 : Int32)), .val (.ref a2), .val (.int (1 : Int32)), .val (.int (3 : Int32)), .val (.int (1 : Int32)), .val (.int u1)]) rfl ?_
    show Steps p.tables e below (T342.setTop (mkF m 35 #[.val (.ref a0), .val (.int (2 : Int32)), .val (.ref a2), .val (.int (1 : Int32)), .val (.int (3 : Int32)), .val (.int (1 : Int32)), .val (.int u1)] [])) _
    refine XS.iinc X342.here hx rfl (hb hby d11_35) rfl (l' := #[.val (.ref a0), .val (.int (2 : Int32)), .val (.ref a2), .val (.int (2 : Int32)), .val (.int (3 : Int32)), .val (.int (1 : Int32)), .val (.int u1)]) rfl ?_
    show Steps p.tables e below (T342.setTop (mkF m 38 #[.val (.ref a0), .val (.int (2 : Int32)), .val (.ref a2), .val (.int (2 : Int32)), .val (.int (3 : Int32)), .val (.int (1 : Int32)), .val (.int u1)] [])) _
    refine XS.iinc X342.here hx rfl (hb hby d11_38) rfl (l' := #[.val (.ref a0), .val (.int (2 : Int32)), .val (.ref a2), .val (.int (2 : Int32)), .val (.int (3 : Int32)), .val (.int (2 : Int32)), .val (.int u1)]) rfl ?_
    show Steps p.tables e below (T342.setTop (mkF m 41 #[.val (.ref a0), .val (.int (2 : Int32)), .val (.ref a2), .val (.int (2 : Int32)), .val (.int (3 : Int32)), .val (.int (2 : Int32)), .val (.int u1)] [])) _
    refine XS.goto X342.here hx rfl (pc0 := 41) (pc' := 3) rfl (hb hby d11_41) (by decide) (by decide) ?_
    show Steps p.tables e below (T342.setTop (mkF m 3 #[.val (.ref a0), .val (.int (2 : Int32)), .val (.ref a2), .val (.int (2 : Int32)), .val (.int (3 : Int32)), .val (.int (2 : Int32)), .val (.int u1)] [])) _
    refine XS.iload X342.here hx rfl (hb hby d11_3) rfl ?_
    show Steps p.tables e below (T342.setTop (mkF m 5 #[.val (.ref a0), .val (.int (2 : Int32)), .val (.ref a2), .val (.int (2 : Int32)), .val (.int (3 : Int32)), .val (.int (2 : Int32)), .val (.int u1)] [(.int (2 : Int32))])) _
    refine XS.iload X342.here hx rfl (hb hby d11_5) rfl ?_
    show Steps p.tables e below (T342.setTop (mkF m 7 #[.val (.ref a0), .val (.int (2 : Int32)), .val (.ref a2), .val (.int (2 : Int32)), .val (.int (3 : Int32)), .val (.int (2 : Int32)), .val (.int u1)] [(.int (3 : Int32)), (.int (2 : Int32))])) _
    refine XS.icmpNo X342.here hx rfl (hb hby d11_7) rfl (tlt (by decide)).2.1 ?_
    show Steps p.tables e below (T342.setTop (mkF m 10 #[.val (.ref a0), .val (.int (2 : Int32)), .val (.ref a2), .val (.int (2 : Int32)), .val (.int (3 : Int32)), .val (.int (2 : Int32)), .val (.int u1)] [])) _
    refine XS.aloadN X342.here hx rfl (hb hby d11_10) rfl rfl ?_
    show Steps p.tables e below (T342.setTop (mkF m 11 #[.val (.ref a0), .val (.int (2 : Int32)), .val (.ref a2), .val (.int (2 : Int32)), .val (.int (3 : Int32)), .val (.int (2 : Int32)), .val (.int u1)] [(.ref a0)])) _
    refine XS.iloadN X342.here hx rfl (hb hby d11_11) rfl ?_
    show Steps p.tables e below (T342.setTop (mkF m 12 #[.val (.ref a0), .val (.int (2 : Int32)), .val (.ref a2), .val (.int (2 : Int32)), .val (.int (3 : Int32)), .val (.int (2 : Int32)), .val (.int u1)] [(.int (2 : Int32)), (.ref a0)])) _
    refine X342.caload hx (j := (2 : Int32)) (v := (.int u2)) (by rw [e342]; exact Ar348.1) (State.isArrayOf_alike hZ.alike Ar348.2.1) Ar348.2.2 hin348 hat348 (g := (mkF m 12 #[.val (.ref a0), .val (.int (2 : Int32)), .val (.ref a2), .val (.int (2 : Int32)), .val (.int (3 : Int32)), .val (.int (2 : Int32)), .val (.int u1)] [(.int (2 : Int32)), (.ref a0)])) rfl rfl (hb hby d11_12) _ ?_
    show Steps p.tables e below (T342.setTop (mkF m 13 #[.val (.ref a0), .val (.int (2 : Int32)), .val (.ref a2), .val (.int (2 : Int32)), .val (.int (3 : Int32)), .val (.int (2 : Int32)), .val (.int u1)] [(.int u2)])) _
    refine XS.istore X342.here hx rfl (hb hby d11_13) rfl (l' := #[.val (.ref a0), .val (.int (2 : Int32)), .val (.ref a2), .val (.int (2 : Int32)), .val (.int (3 : Int32)), .val (.int (2 : Int32)), .val (.int u2)]) rfl ?_
    show Steps p.tables e below (T342.setTop (mkF m 15 #[.val (.ref a0), .val (.int (2 : Int32)), .val (.ref a2), .val (.int (2 : Int32)), .val (.int (3 : Int32)), .val (.int (2 : Int32)), .val (.int u2)] [])) _
    refine XS.iload X342.here hx rfl (hb hby d11_15) rfl ?_
    show Steps p.tables e below (T342.setTop (mkF m 17 #[.val (.ref a0), .val (.int (2 : Int32)), .val (.ref a2), .val (.int (2 : Int32)), .val (.int (3 : Int32)), .val (.int (2 : Int32)), .val (.int u2)] [(.int u2)])) _
    refine XS.sipush X342.here hx rfl (hb hby d11_17) ?_
    show Steps p.tables e below (T342.setTop (mkF m 20 #[.val (.ref a0), .val (.int (2 : Int32)), .val (.ref a2), .val (.int (2 : Int32)), .val (.int (3 : Int32)), .val (.int (2 : Int32)), .val (.int u2)] [(.int (255 : Int32)), (.int u2)])) _
    refine XS.icmpYes X342.here hx rfl (pc0 := 20) (pc' := 26) rfl (hb hby d11_20) rfl (flt c349).2.2.2 (by decide) (by decide) ?_
    show Steps p.tables e below (T342.setTop (mkF m 26 #[.val (.ref a0), .val (.int (2 : Int32)), .val (.ref a2), .val (.int (2 : Int32)), .val (.int (3 : Int32)), .val (.int (2 : Int32)), .val (.int u2)] [])) _
    refine XS.aloadN X342.here hx rfl (hb hby d11_26) rfl rfl ?_
    show Steps p.tables e below (T342.setTop (mkF m 27 #[.val (.ref a0), .val (.int (2 : Int32)), .val (.ref a2), .val (.int (2 : Int32)), .val (.int (3 : Int32)), .val (.int (2 : Int32)), .val (.int u2)] [(.ref a2)])) _
    refine XS.iloadN X342.here hx rfl (hb hby d11_27) rfl ?_
    show Steps p.tables e below (T342.setTop (mkF m 28 #[.val (.ref a0), .val (.int (2 : Int32)), .val (.ref a2), .val (.int (2 : Int32)), .val (.int (3 : Int32)), .val (.int (2 : Int32)), .val (.int u2)] [(.int (2 : Int32)), (.ref a2)])) _
    refine XS.iload X342.here hx rfl (hb hby d11_28) rfl ?_
    show Steps p.tables e below (T342.setTop (mkF m 30 #[.val (.ref a0), .val (.int (2 : Int32)), .val (.ref a2), .val (.int (2 : Int32)), .val (.int (3 : Int32)), .val (.int (2 : Int32)), .val (.int u2)] [(.int u2), (.int (2 : Int32)), (.ref a2)])) _
    refine XS.i2b X342.here hx rfl (hb hby d11_30) rfl ?_
    show Steps p.tables e below (T342.setTop (mkF m 31 #[.val (.ref a0), .val (.int (2 : Int32)), .val (.ref a2), .val (.int (2 : Int32)), .val (.int (3 : Int32)), .val (.int (2 : Int32)), .val (.int u2)] [(.int (u2.toInt8.toInt32)), (.int (2 : Int32)), (.ref a2)])) _
    refine st350 _ ?_
    show Steps p.tables e below (T350.setTop (mkF m 32 #[.val (.ref a0), .val (.int (2 : Int32)), .val (.ref a2), .val (.int (2 : Int32)), .val (.int (3 : Int32)), .val (.int (2 : Int32)), .val (.int u2)] [])) _
    refine XS.iinc X350.here hx rfl (hb hby d11_32) rfl (l' := #[.val (.ref a0), .val (.int (3 : Int32)), .val (.ref a2), .val (.int (2 : Int32)), .val (.int (3 : Int32)), .val (.int (2 : Int32)), .val (.int u2)]) rfl ?_
    show Steps p.tables e below (T350.setTop (mkF m 35 #[.val (.ref a0), .val (.int (3 : Int32)), .val (.ref a2), .val (.int (2 : Int32)), .val (.int (3 : Int32)), .val (.int (2 : Int32)), .val (.int u2)] [])) _
    refine XS.iinc X350.here hx rfl (hb hby d11_35) rfl (l' := #[.val (.ref a0), .val (.int (3 : Int32)), .val (.ref a2), .val (.int (3 : Int32)), .val (.int (3 : Int32)), .val (.int (2 : Int32)), .val (.int u2)]) rfl ?_
    show Steps p.tables e below (T350.setTop (mkF m 38 #[.val (.ref a0), .val (.int (3 : Int32)), .val (.ref a2), .val (.int (3 : Int32)), .val (.int (3 : Int32)), .val (.int (2 : Int32)), .val (.int u2)] [])) _
    refine XS.iinc X350.here hx rfl (hb hby d11_38) rfl (l' := #[.val (.ref a0), .val (.int (3 : Int32)), .val (.ref a2), .val (.int (3 : Int32)), .val (.int (3 : Int32)), .val (.int (3 : Int32)), .val (.int u2)]) rfl ?_
    show Steps p.tables e below (T350.setTop (mkF m 41 #[.val (.ref a0), .val (.int (3 : Int32)), .val (.ref a2), .val (.int (3 : Int32)), .val (.int (3 : Int32)), .val (.int (3 : Int32)), .val (.int u2)] [])) _
    refine XS.goto X350.here hx rfl (pc0 := 41) (pc' := 3) rfl (hb hby d11_41) (by decide) (by decide) ?_
    show Steps p.tables e below (T350.setTop (mkF m 3 #[.val (.ref a0), .val (.int (3 : Int32)), .val (.ref a2), .val (.int (3 : Int32)), .val (.int (3 : Int32)), .val (.int (3 : Int32)), .val (.int u2)] [])) _
    refine XS.iload X350.here hx rfl (hb hby d11_3) rfl ?_
    show Steps p.tables e below (T350.setTop (mkF m 5 #[.val (.ref a0), .val (.int (3 : Int32)), .val (.ref a2), .val (.int (3 : Int32)), .val (.int (3 : Int32)), .val (.int (3 : Int32)), .val (.int u2)] [(.int (3 : Int32))])) _
    refine XS.iload X350.here hx rfl (hb hby d11_5) rfl ?_
    show Steps p.tables e below (T350.setTop (mkF m 7 #[.val (.ref a0), .val (.int (3 : Int32)), .val (.ref a2), .val (.int (3 : Int32)), .val (.int (3 : Int32)), .val (.int (3 : Int32)), .val (.int u2)] [(.int (3 : Int32)), (.int (3 : Int32))])) _
    refine XS.icmpYes X350.here hx rfl (pc0 := 7) (pc' := 44) rfl (hb hby d11_7) rfl (flt (by decide)).2.1 (by decide) (by decide) ?_
    show Steps p.tables e below (T350.setTop (mkF m 44 #[.val (.ref a0), .val (.int (3 : Int32)), .val (.ref a2), .val (.int (3 : Int32)), .val (.int (3 : Int32)), .val (.int (3 : Int32)), .val (.int u2)] [])) _
    refine XS.iload X350.here hx rfl (hb hby d11_44) rfl ?_
    show Steps p.tables e below (T350.setTop (mkF m 46 #[.val (.ref a0), .val (.int (3 : Int32)), .val (.ref a2), .val (.int (3 : Int32)), .val (.int (3 : Int32)), .val (.int (3 : Int32)), .val (.int u2)] [(.int (3 : Int32))])) _
    exact retI X350 hx Bd.returns (hb hby d11_46) hr
  ·
    show Q_c5_3 Z a0 a2 kc kb u0 u1 u2 h0 n0 _ T350.heap _
    rw [e350]
    exact ⟨rfl, N354, K353, f355⟩
theorem ef_c3_3 (m : MethodId) (a0 : Addr) : entryFrame m #[(.ref a0), (.int (0 : Int32)), (.int (3 : Int32))] 6 = mkF m 0 #[.val (.ref a0), .val (.int (0 : Int32)), .val (.int (3 : Int32)), .unset, .unset, .unset] [] := by first | (simp [entryFrame, mkF, argsToLocals, Value.category]; done) | rfl
def Q_c3_3 (Z : State) (a0 : Addr) (kc : ClassId) (u0 : Int32) (u1 : Int32) (u2 : Int32) (h0 : Heap) (n0 : Nat) (v : Option Value) (h : Heap) (L : List Loc) : Prop := ∃ b : Addr, ∃ kb : ClassId, v = some (.ref b) ∧ Fr n0 L ∧ Keep h0 h [] ∧ h0.size ≤ b ∧ Arv Z h b kb .byte (3 : Int32) [(.int (nar .byte (u0.toInt8.toInt32))), (.int (nar .byte (u1.toInt8.toInt32))), (.int (nar .byte (u2.toInt8.toInt32)))] (.int (0 : Int32))
set_option maxRecDepth 65536 in
set_option maxHeartbeats 40000000 in
theorem c3_3 (l : Launch) (Z : State) (aw : Array Value) (hw : ∀ d ∈ tables_1, d.before aw Z = true) (ws : List Jvm.Cond) (a0 : Addr) (kc : ClassId) (u0 : Int32) (u1 : Int32) (u2 : Int32) (h0 : Heap) (n0 : Nat) (Z0 : n0 ≤ h0.size) (V_a0 : Arv Z h0 a0 kc .char (3 : Int32) [(.int u0), (.int u1), (.int u2)] (.int (0 : Int32))) (hu0 : ¬ ((255 : Int32) < u0)) (hu1 : ¬ ((255 : Int32) < u1)) (hu2 : ¬ ((255 : Int32) < u2)) :
    MetFree l (⟨"java/lang/StringUTF16", "compress", "([CII)[B"⟩ : MethodName) (head1 (Jvm.Cond.code (⟨"java/lang/StringUTF16", "compress", "([CII)[B"⟩ : MethodName) jdk_52_method_16_code 6 (some (.array .byte)) :: ws) ({ frames := 1, cells := 1, slots := 3, locals := 18 } : Room)) (fun a U => a = #[(.ref a0), (.int (0 : Int32)), (.int (3 : Int32))] ∧ Z.Warmed39 U.vm ∧ U.heap = h0) (fun _ _ _ _ _ => True) (fun _ U o U' => ∃ v L, o = .returned v ∧ Q_c3_3 Z a0 kc u0 u1 u2 h0 n0 v U'.heap L ∧ FrameEnd U o U' L ({ frames := 1, cells := 1, slots := 3, locals := 18 } : Room).cells ({ frames := 1, cells := 1, slots := 3, locals := 18 } : Room).slots) := by
  refine MetFree.of_bodySF (plainFor_of_name pn_0) hisR ?_
  intro p e s m args below meth c s₁ Bd hml0 hP hK
  obtain ⟨rfl, hZ, hh⟩ := hP
  have hx := Bd.exec
  have hby := Bd.bytes
  have hml : c.maxLocals = 6 := hml0
  have hown : s.vm.findClass "java/lang/StringUTF16" = some m.cls := findClass_of_methodNamed Bd.named
  have hnm := (name_of_methodNamed Bd.named Bd.method).1
  have X0 : Stand p l e ({ frames := 1, cells := 1, slots := 3, locals := 18 } : Room) s m #[(.ref a0), (.int (0 : Int32)), (.int (3 : Int32))] below meth c s₁ [] 0 0 := Stand.of_body Bd
  have e0 : s₁.heap = h0 := by rw [← hh, Bd.state]; rfl
  have N0 := Fr.nil n0
  have pre0 : ∀ t, Steps p.tables e below (s₁.setTop (mkF m 0 #[.val (.ref a0), .val (.int (0 : Int32)), .val (.int (3 : Int32)), .unset, .unset, .unset] [])) t → Steps p.tables e below (s₁.setTop (entryFrame m #[(.ref a0), (.int (0 : Int32)), (.int (3 : Int32))] 6)) t := fun t k => castTop (ef_c3_3 m a0) k
  have KC0 : Keep h0 h0 [] := Keep.refl h0 []
  obtain ⟨T356, h356, k356, X356, e356, E356, A356, kc356, st356⟩ := newPk X0 hx hZ (hw _ (List.mem_of_getElem? (i := 19) rfl)) e0 (g := (mkF m 1 #[.val (.ref a0), .val (.int (0 : Int32)), .val (.int (3 : Int32)), .unset, .unset, .unset] [(.int (3 : Int32))])) rfl (hb hby d10_1) rfl (by decide) (cap := 3) (by decide) (by decide) (by decide) (by decide)
  obtain ⟨b356, g356⟩ : ∃ z_, z_ = h0.size := ⟨_, rfl⟩
  rw [← g356] at A356 st356
  have ne357 : a0 ≠ b356 := Nat.ne_of_lt (Nat.lt_of_lt_of_le V_a0.lt (Nat.le_of_eq g356.symm))
  have gn358 : n0 ≤ b356 := Nat.le_trans Z0 (Nat.le_of_eq g356.symm)
  have sz359 : h0.size ≤ b356 := Nat.le_trans KC0.1 (Nat.le_of_eq g356.symm)
  have f360 := V_a0.ext E356
  have Z361 : n0 ≤ h356.size := Nat.le_trans Z0 E356.1
  have K362 : Keep h0 h356 [] := Keep.ext KC0 E356
  have f363 : Arv Z h356 b356 k356 .byte (3 : Int32) [(.int (0 : Int32)), (.int (0 : Int32)), (.int (0 : Int32))] (.int (0 : Int32)) := (Arv.new A356 (by decide)).pad (pad_rep [] (.int (0 : Int32)) 3)
  obtain ⟨_, _, ⟨T364, L364, k364, n364⟩, -, X364, ⟨Lc364, hQ364, l364, y364, z364⟩, st364⟩ := Jvm.LawKit.callS X356 hx (y := (⟨"java/lang/StringUTF16", "compress", "([CI[BII)I"⟩ : MethodName)) hown (mvT hZ (hw _ (List.mem_of_getElem? (i := 59) rfl))) (mvT hZ (hw _ (List.mem_of_getElem? (i := 60) rfl))) (mvT hZ (hw _ (List.mem_of_getElem? (i := 57) rfl))) (mvT hZ (hw _ (List.mem_of_getElem? (i := 61) rfl))) (by decide) (backOf (W := 0) (c5_3 l Z aw hw [] a0 b356 kc k356 u0 u1 u2 h356 n0 Z361 f360 f363 ne357 gn358 hu0 hu1 hu2) hZ (hw _ (List.mem_of_getElem? (i := 61) rfl)) (hw _ (List.mem_of_getElem? (i := 57) rfl)) (by decide) (by decide)) (g := (mkF m 9 #[.val (.ref a0), .val (.int (0 : Int32)), .val (.int (3 : Int32)), .val (.ref b356), .unset, .unset] [(.int (3 : Int32)), (.int (0 : Int32)), (.ref b356), (.int (0 : Int32)), (.ref a0)])) rfl (by rw [hml]; rfl) (argsL := [(.ref a0), (.int (0 : Int32)), (.ref b356), (.int (0 : Int32)), (.int (3 : Int32))]) (rest := []) (lenOf pd_0 rfl) rfl (by show 2 * 0 + _ ≤ _; exact Nat.le_of_eq rfl) (hb hby d10_9) (fun _ _ => ⟨rfl, e356, (by decide : 1 + 0 ≤ _), (by decide : 3 + 0 ≤ _)⟩)
  dsimp only [Pt.U, Pt.locs, Pt.cells, Pt.slots] at X364 l364 y364 z364 st364 hQ364
  replace l364 := l364.symm; replace y364 := y364.symm; replace z364 := z364.symm; subst l364 y364 z364
  obtain ⟨rfl, N364q, K364, f365⟩ := hQ364
  have N364 := Fr.app N0 N364q
  have f366 := f360.keep K364 (ninS ne357 nin0)
  have Z367 : n0 ≤ T364.heap.size := Nat.le_trans Z361 K364.1
  have K368 : Keep h0 T364.heap [] := Keep.trans K362 K364 (allS (Or.inr sz359) all0)
  obtain ⟨fs, hr, hrun, hended, hW, hsame⟩ := X364.leave (v := some (.ref b356)) (fun h => by rw [Bd.returns] at h; cases h)
  refine ⟨_, _, pre0 _ ?_, hrun, hended, _, _, rfl, ?_, ⟨_, rfl⟩, hW, hsame.mono (by decide) (by decide)⟩
  ·
    show Steps p.tables e below (s₁.setTop (mkF m 0 #[.val (.ref a0), .val (.int (0 : Int32)), .val (.int (3 : Int32)), .unset, .unset, .unset] [])) _
    refine XS.iloadN X0.here hx rfl (hb hby d10_0) rfl ?_
    show Steps p.tables e below (s₁.setTop (mkF m 1 #[.val (.ref a0), .val (.int (0 : Int32)), .val (.int (3 : Int32)), .unset, .unset, .unset] [(.int (3 : Int32))])) _
    refine st356 _ ?_
    show Steps p.tables e below (T356.setTop (mkF m 3 #[.val (.ref a0), .val (.int (0 : Int32)), .val (.int (3 : Int32)), .unset, .unset, .unset] [(.ref b356)])) _
    refine XS.astoreN X356.here hx rfl (hb hby d10_3) rfl rfl (l' := #[.val (.ref a0), .val (.int (0 : Int32)), .val (.int (3 : Int32)), .val (.ref b356), .unset, .unset]) rfl ?_
    show Steps p.tables e below (T356.setTop (mkF m 4 #[.val (.ref a0), .val (.int (0 : Int32)), .val (.int (3 : Int32)), .val (.ref b356), .unset, .unset] [])) _
    refine XS.aloadN X356.here hx rfl (hb hby d10_4) rfl rfl ?_
    show Steps p.tables e below (T356.setTop (mkF m 5 #[.val (.ref a0), .val (.int (0 : Int32)), .val (.int (3 : Int32)), .val (.ref b356), .unset, .unset] [(.ref a0)])) _
    refine XS.iloadN X356.here hx rfl (hb hby d10_5) rfl ?_
    show Steps p.tables e below (T356.setTop (mkF m 6 #[.val (.ref a0), .val (.int (0 : Int32)), .val (.int (3 : Int32)), .val (.ref b356), .unset, .unset] [(.int (0 : Int32)), (.ref a0)])) _
    refine XS.aloadN X356.here hx rfl (hb hby d10_6) rfl rfl ?_
    show Steps p.tables e below (T356.setTop (mkF m 7 #[.val (.ref a0), .val (.int (0 : Int32)), .val (.int (3 : Int32)), .val (.ref b356), .unset, .unset] [(.ref b356), (.int (0 : Int32)), (.ref a0)])) _
    refine XS.iconst X356.here hx rfl (hb hby d10_7) ?_
    show Steps p.tables e below (T356.setTop (mkF m 8 #[.val (.ref a0), .val (.int (0 : Int32)), .val (.int (3 : Int32)), .val (.ref b356), .unset, .unset] [(.int (0 : Int32)), (.ref b356), (.int (0 : Int32)), (.ref a0)])) _
    refine XS.iloadN X356.here hx rfl (hb hby d10_8) rfl ?_
    show Steps p.tables e below (T356.setTop (mkF m 9 #[.val (.ref a0), .val (.int (0 : Int32)), .val (.int (3 : Int32)), .val (.ref b356), .unset, .unset] [(.int (3 : Int32)), (.int (0 : Int32)), (.ref b356), (.int (0 : Int32)), (.ref a0)])) _
    refine st364 _ ?_
    show Steps p.tables e below (T364.setTop (mkF m 12 #[.val (.ref a0), .val (.int (0 : Int32)), .val (.int (3 : Int32)), .val (.ref b356), .unset, .unset] [(.int (3 : Int32))])) _
    refine XS.istore X364.here hx rfl (hb hby d10_12) rfl (l' := #[.val (.ref a0), .val (.int (0 : Int32)), .val (.int (3 : Int32)), .val (.ref b356), .val (.int (3 : Int32)), .unset]) rfl ?_
    show Steps p.tables e below (T364.setTop (mkF m 14 #[.val (.ref a0), .val (.int (0 : Int32)), .val (.int (3 : Int32)), .val (.ref b356), .val (.int (3 : Int32)), .unset] [])) _
    refine XS.iload X364.here hx rfl (hb hby d10_14) rfl ?_
    show Steps p.tables e below (T364.setTop (mkF m 16 #[.val (.ref a0), .val (.int (0 : Int32)), .val (.int (3 : Int32)), .val (.ref b356), .val (.int (3 : Int32)), .unset] [(.int (3 : Int32))])) _
    refine XS.iloadN X364.here hx rfl (hb hby d10_16) rfl ?_
    show Steps p.tables e below (T364.setTop (mkF m 17 #[.val (.ref a0), .val (.int (0 : Int32)), .val (.int (3 : Int32)), .val (.ref b356), .val (.int (3 : Int32)), .unset] [(.int (3 : Int32)), (.int (3 : Int32))])) _
    refine XS.icmpYes X364.here hx rfl (pc0 := 17) (pc' := 57) rfl (hb hby d10_17) rfl (teq rfl).1 (by decide) (by decide) ?_
    show Steps p.tables e below (T364.setTop (mkF m 57 #[.val (.ref a0), .val (.int (0 : Int32)), .val (.int (3 : Int32)), .val (.ref b356), .val (.int (3 : Int32)), .unset] [])) _
    refine XS.aloadN X364.here hx rfl (hb hby d10_57) rfl rfl ?_
    show Steps p.tables e below (T364.setTop (mkF m 58 #[.val (.ref a0), .val (.int (0 : Int32)), .val (.int (3 : Int32)), .val (.ref b356), .val (.int (3 : Int32)), .unset] [(.ref b356)])) _
    exact retA X364 hx rfl rfl Bd.returns (hb hby d10_58) hr
  ·
    show Q_c3_3 Z a0 kc u0 u1 u2 h0 n0 _ T364.heap _
    exact ⟨b356, k356, rfl, N364, K368, sz359, f365⟩
theorem ef_cf_3 (m : MethodId) (a0 : Addr) : entryFrame m #[(.ref a0), (.int (3 : Int32))] 2 = mkF m 0 #[.val (.ref a0), .val (.int (3 : Int32))] [] := by first | (simp [entryFrame, mkF, argsToLocals, Value.category]; done) | rfl
def Q_cf_3 (Z : State) (a0 : Addr) (k1 : ClassId) (vs : List Value) (h0 : Heap) (n0 : Nat) (v : Option Value) (h : Heap) (L : List Loc) : Prop := v = some (.int (0 : Int32)) ∧ Fr n0 L ∧ h = h0
set_option maxRecDepth 65536 in
set_option maxHeartbeats 40000000 in
theorem cf_3 (l : Launch) (Z : State) (aw : Array Value) (hw : ∀ d ∈ tables_1, d.before aw Z = true) (ws : List Jvm.Cond) (a0 : Addr) (k1 : ClassId) (vs : List Value) (h0 : Heap) (n0 : Nat) (Z0 : n0 ≤ h0.size) (V_a0 : Arv Z h0 a0 k1 .byte (3 : Int32) vs (.int (0 : Int32))) :
    MetFree l (⟨"java/lang/StringUTF16", "coderFromArrayLen", "([BI)B"⟩ : MethodName) (head1 (Jvm.Cond.code (⟨"java/lang/StringUTF16", "coderFromArrayLen", "([BI)B"⟩ : MethodName) jdk_52_method_15_code 2 (some .byte) :: ws) ({ frames := 0, cells := 0, slots := 0, locals := 0 } : Room)) (fun a U => a = #[(.ref a0), (.int (3 : Int32))] ∧ Z.Warmed39 U.vm ∧ U.heap = h0) (fun _ _ _ _ _ => True) (fun _ U o U' => ∃ v L, o = .returned v ∧ Q_cf_3 Z a0 k1 vs h0 n0 v U'.heap L ∧ FrameEnd U o U' L ({ frames := 0, cells := 0, slots := 0, locals := 0 } : Room).cells ({ frames := 0, cells := 0, slots := 0, locals := 0 } : Room).slots) := by
  refine MetFree.of_bodySF (plainFor_of_name pn_0) hisR ?_
  intro p e s m args below meth c s₁ Bd hml0 hP hK
  obtain ⟨rfl, hZ, hh⟩ := hP
  have hx := Bd.exec
  have hby := Bd.bytes
  have hml : c.maxLocals = 2 := hml0
  have hown : s.vm.findClass "java/lang/StringUTF16" = some m.cls := findClass_of_methodNamed Bd.named
  have hnm := (name_of_methodNamed Bd.named Bd.method).1
  have X0 : Stand p l e ({ frames := 0, cells := 0, slots := 0, locals := 0 } : Room) s m #[(.ref a0), (.int (3 : Int32))] below meth c s₁ [] 0 0 := Stand.of_body Bd
  have e0 : s₁.heap = h0 := by rw [← hh, Bd.state]; rfl
  have N0 := Fr.nil n0
  have pre0 : ∀ t, Steps p.tables e below (s₁.setTop (mkF m 0 #[.val (.ref a0), .val (.int (3 : Int32))] [])) t → Steps p.tables e below (s₁.setTop (entryFrame m #[(.ref a0), (.int (3 : Int32))] 2)) t := fun t k => castTop (ef_cf_3 m a0) k
  obtain ⟨cl369, Ar369, q369, S369, N369, H369, G369⟩ := id V_a0
  obtain ⟨fs, hr, hrun, hended, hW, hsame⟩ := X0.leave (v := some (.int (0 : Int32))) (fun h => by rw [Bd.returns] at h; cases h)
  refine ⟨_, _, pre0 _ ?_, hrun, hended, _, _, rfl, ?_, ⟨_, rfl⟩, hW, hsame.mono (by decide) (by decide)⟩
  ·
    show Steps p.tables e below (s₁.setTop (mkF m 0 #[.val (.ref a0), .val (.int (3 : Int32))] [])) _
    refine XS.iloadN X0.here hx rfl (hb hby d12_0) rfl ?_
    show Steps p.tables e below (s₁.setTop (mkF m 1 #[.val (.ref a0), .val (.int (3 : Int32))] [(.int (3 : Int32))])) _
    refine XS.aloadN X0.here hx rfl (hb hby d12_1) rfl rfl ?_
    show Steps p.tables e below (s₁.setTop (mkF m 2 #[.val (.ref a0), .val (.int (3 : Int32))] [(.ref a0), (.int (3 : Int32))])) _
    refine X0.arraylength hx (by rw [e0]; exact Ar369.1) (State.isArrayOf_alike hZ.alike Ar369.2.1) (g := (mkF m 2 #[.val (.ref a0), .val (.int (3 : Int32))] [(.ref a0), (.int (3 : Int32))])) rfl rfl (hb hby d12_2) _ ?_
    rw [len_of S369 N369]
    show Steps p.tables e below (s₁.setTop (mkF m 3 #[.val (.ref a0), .val (.int (3 : Int32))] [(.int (3 : Int32)), (.int (3 : Int32))])) _
    refine XS.isub X0.here hx rfl (hb hby d12_3) rfl ?_
    show Steps p.tables e below (s₁.setTop (mkF m 4 #[.val (.ref a0), .val (.int (3 : Int32))] [(.int (0 : Int32))])) _
    refine XS.bipush X0.here hx rfl (hb hby d12_4) ?_
    show Steps p.tables e below (s₁.setTop (mkF m 6 #[.val (.ref a0), .val (.int (3 : Int32))] [(.int (31 : Int32)), (.int (0 : Int32))])) _
    refine XS.iushr X0.here hx rfl (hb hby d12_6) rfl ?_
    show Steps p.tables e below (s₁.setTop (mkF m 7 #[.val (.ref a0), .val (.int (3 : Int32))] [(.int (0 : Int32))])) _
    refine XS.i2b X0.here hx rfl (hb hby d12_7) rfl ?_
    show Steps p.tables e below (s₁.setTop (mkF m 8 #[.val (.ref a0), .val (.int (3 : Int32))] [(.int (0 : Int32))])) _
    exact retN X0 hx (t := .byte) Bd.returns (by simp) (hb hby d12_8) hr
  ·
    show Q_cf_3 Z a0 k1 vs h0 n0 _ s₁.heap _
    rw [e0]
    exact ⟨rfl, N0, rfl⟩
theorem ef_i4_3 (m : MethodId) (a0 : Addr) (a1 : Addr) : entryFrame m #[(.ref a0), (.ref a1), (.int (0 : Int32)), (.int (3 : Int32)), .null] 6 = mkF m 0 #[.val (.ref a0), .val (.ref a1), .val (.int (0 : Int32)), .val (.int (3 : Int32)), .val .null, .unset] [] := by first | (simp [entryFrame, mkF, argsToLocals, Value.category]; done) | rfl
def Q_i4_3 (Z : State) (a0 : Addr) (a1 : Addr) (kc : ClassId) (u0 : Int32) (u1 : Int32) (u2 : Int32) (zc : Int32) (h0 : Heap) (n0 : Nat) (v : Option Value) (h : Heap) (L : List Loc) : Prop := ∃ t : Addr, ∃ kb : ClassId, ∃ w0 : Int32, ∃ w1 : Int32, ∃ w2 : Int32, v = none ∧ Fr n0 L ∧ Keep h0 h [a0] ∧ Exa Z h a0 "java/lang/String" ∧ Fld Z h a0 "java/lang/String" "coder" "B" (.int (0 : Int32)) ∧ Fld Z h a0 "java/lang/String" "value" "[B" (.ref t) ∧ Arv Z h t kb .byte (3 : Int32) [(.int w0), (.int w1), (.int w2)] (.int (0 : Int32))
set_option maxRecDepth 65536 in
set_option maxHeartbeats 40000000 in
theorem i4_3 (l : Launch) (Z : State) (aw : Array Value) (hw : ∀ d ∈ tables_1, d.before aw Z = true) (ws : List Jvm.Cond) (a0 : Addr) (a1 : Addr) (kc : ClassId) (u0 : Int32) (u1 : Int32) (u2 : Int32) (zc : Int32) (h0 : Heap) (n0 : Nat) (Z0 : n0 ≤ h0.size) (E_a0 : Exa Z h0 a0 "java/lang/String") (F_a0_value : Fld Z h0 a0 "java/lang/String" "value" "[B" .null) (F_a0_coder : Fld Z h0 a0 "java/lang/String" "coder" "B" (.int (0 : Int32))) (g_a0 : n0 ≤ a0) (V_a1 : Arv Z h0 a1 kc .char (3 : Int32) [(.int u0), (.int u1), (.int u2)] (.int (0 : Int32))) (ne_a0_a1 : a0 ≠ a1) (OLD : Old Z n0 h0) (O_COMPACT_STRINGS : Sta Z Z.heap "java/lang/String" "COMPACT_STRINGS" "Z" (.int zc)) (hzc : ¬ (zc = (0 : Int32))) (hu0 : ¬ ((255 : Int32) < u0)) (hu1 : ¬ ((255 : Int32) < u1)) (hu2 : ¬ ((255 : Int32) < u2)) :
    MetFree l (⟨"java/lang/String", "<init>", "([CIILjava/lang/Void;)V"⟩ : MethodName) (head1 (Jvm.Cond.code (⟨"java/lang/String", "<init>", "([CIILjava/lang/Void;)V"⟩ : MethodName) jdk_42_method_149_code 6 none :: ws) ({ frames := 2, cells := 1, slots := 3, locals := 35 } : Room)) (fun a U => a = #[(.ref a0), (.ref a1), (.int (0 : Int32)), (.int (3 : Int32)), .null] ∧ Z.Warmed39 U.vm ∧ U.heap = h0) (fun _ _ _ _ _ => True) (fun _ U o U' => ∃ v L, o = .returned v ∧ Q_i4_3 Z a0 a1 kc u0 u1 u2 zc h0 n0 v U'.heap L ∧ FrameEnd U o U' L ({ frames := 2, cells := 1, slots := 3, locals := 35 } : Room).cells ({ frames := 2, cells := 1, slots := 3, locals := 35 } : Room).slots) := by
  refine MetFree.of_bodySF (plainFor_of_name pn_1) hisR ?_
  intro p e s m args below meth c s₁ Bd hml0 hP hK
  obtain ⟨rfl, hZ, hh⟩ := hP
  have hx := Bd.exec
  have hby := Bd.bytes
  have hml : c.maxLocals = 6 := hml0
  have hown : s.vm.findClass "java/lang/String" = some m.cls := findClass_of_methodNamed Bd.named
  have hnm := (name_of_methodNamed Bd.named Bd.method).1
  have X0 : Stand p l e ({ frames := 2, cells := 1, slots := 3, locals := 35 } : Room) s m #[(.ref a0), (.ref a1), (.int (0 : Int32)), (.int (3 : Int32)), .null] below meth c s₁ [] 0 0 := Stand.of_body Bd
  have e0 : s₁.heap = h0 := by rw [← hh, Bd.state]; rfl
  have N0 := Fr.nil n0
  have pre0 : ∀ t, Steps p.tables e below (s₁.setTop (mkF m 0 #[.val (.ref a0), .val (.ref a1), .val (.int (0 : Int32)), .val (.int (3 : Int32)), .val .null, .unset] [])) t → Steps p.tables e below (s₁.setTop (entryFrame m #[(.ref a0), (.ref a1), (.int (0 : Int32)), (.int (3 : Int32)), .null] 6)) t := fun t k => castTop (ef_i4_3 m a0 a1) k
  have KC0 : Keep h0 h0 [a0] := Keep.refl h0 [a0]
  obtain ⟨T370, X370, e370, st370⟩ := initO X0 hx hZ hown (hw _ (List.mem_of_getElem? (i := 15) rfl)) (hw _ (List.mem_of_getElem? (i := 16) rfl)) (hw _ (List.mem_of_getElem? (i := 17) rfl)) e0 (g := (mkF m 1 #[.val (.ref a0), .val (.ref a1), .val (.int (0 : Int32)), .val (.int (3 : Int32)), .val .null, .unset] [(.ref a0)])) rfl (by rw [hml]; rfl) rfl (hb hby d3_1) (by decide) (W := 0) (by show 2 * 0 + _ ≤ _; exact Nat.le_of_eq rfl) (by decide)
  obtain ⟨T371, X371, e371, st371⟩ := getS2 X370 hx hZ hown (host := "") (Or.inl (hw _ (List.mem_of_getElem? (i := 37) rfl))) Via.refl e370 (Sta.ext OLD.2 O_COMPACT_STRINGS) (g := (mkF m 27 #[.val (.ref a0), .val (.ref a1), .val (.int (0 : Int32)), .val (.int (3 : Int32)), .val .null, .unset] [])) rfl (hb hby d3_27)
  have c372 : ¬ (zc = (0 : Int32)) := by
    exact hzc
  obtain ⟨_, _, ⟨T373, L373, k373, n373⟩, -, X373, ⟨Lc373, hQ373, l373, y373, z373⟩, st373⟩ := Jvm.LawKit.callS X371 hx (y := (⟨"java/lang/StringUTF16", "compress", "([CII)[B"⟩ : MethodName)) hown (mvT hZ (hw _ (List.mem_of_getElem? (i := 55) rfl))) (mvT hZ (hw _ (List.mem_of_getElem? (i := 56) rfl))) (mvT hZ (hw _ (List.mem_of_getElem? (i := 57) rfl))) (mvT hZ (hw _ (List.mem_of_getElem? (i := 58) rfl))) (by decide) (backOf (W := 0) (c3_3 l Z aw hw [] a1 kc u0 u1 u2 h0 n0 Z0 V_a1 hu0 hu1 hu2) hZ (hw _ (List.mem_of_getElem? (i := 58) rfl)) (hw _ (List.mem_of_getElem? (i := 57) rfl)) (by decide) (by decide)) (g := (mkF m 36 #[.val (.ref a0), .val (.ref a1), .val (.int (0 : Int32)), .val (.int (3 : Int32)), .val .null, .unset] [(.int (3 : Int32)), (.int (0 : Int32)), (.ref a1)])) rfl (by rw [hml]; rfl) (argsL := [(.ref a1), (.int (0 : Int32)), (.int (3 : Int32))]) (rest := []) (lenOf pd_1 rfl) rfl (by show 2 * 0 + _ ≤ _; exact Nat.le_of_eq rfl) (hb hby d3_36) (fun _ _ => ⟨rfl, e371, (by decide : 0 + 1 ≤ _), (by decide : 0 + 3 ≤ _)⟩)
  dsimp only [Pt.U, Pt.locs, Pt.cells, Pt.slots] at X373 l373 y373 z373 st373 hQ373
  replace l373 := l373.symm; replace y373 := y373.symm; replace z373 := z373.symm; subst l373 y373 z373
  obtain ⟨r373, kb373, rfl, N373q, K373, sz373, f374⟩ := hQ373
  have N373 := Fr.app N0 N373q
  have ne375 : a0 ≠ r373 := Nat.ne_of_lt (Nat.lt_of_lt_of_le E_a0.lt sz373)
  have ne376 : a1 ≠ r373 := Nat.ne_of_lt (Nat.lt_of_lt_of_le V_a1.lt sz373)
  have gn377 : n0 ≤ r373 := Nat.le_trans Z0 sz373
  have sz378 : h0.size ≤ r373 := Nat.le_trans KC0.1 sz373
  have f379 := E_a0.keep K373
  have f380 := F_a0_value.keep K373 nin0
  have f381 := F_a0_coder.keep K373 nin0
  have f382 := V_a1.keep K373 nin0
  have Z383 : n0 ≤ T373.heap.size := Nat.le_trans Z0 K373.1
  have O384 := Old.keep OLD K373 all0
  have K385 : Keep h0 T373.heap [a0] := Keep.trans KC0 K373 all0
  obtain ⟨_, _, ⟨T386, L386, k386, n386⟩, -, X386, ⟨Lc386, hQ386, l386, y386, z386⟩, st386⟩ := Jvm.LawKit.callS X373 hx (y := (⟨"java/lang/StringUTF16", "coderFromArrayLen", "([BI)B"⟩ : MethodName)) hown (mvT hZ (hw _ (List.mem_of_getElem? (i := 62) rfl))) (mvT hZ (hw _ (List.mem_of_getElem? (i := 63) rfl))) (mvT hZ (hw _ (List.mem_of_getElem? (i := 57) rfl))) (mvT hZ (hw _ (List.mem_of_getElem? (i := 64) rfl))) (by decide) (backOf (W := 1) (cf_3 l Z aw hw [] r373 kb373 ([(.int (nar .byte (u0.toInt8.toInt32))), (.int (nar .byte (u1.toInt8.toInt32))), (.int (nar .byte (u2.toInt8.toInt32)))]) T373.heap n0 Z383 f374) hZ (hw _ (List.mem_of_getElem? (i := 64) rfl)) (hw _ (List.mem_of_getElem? (i := 57) rfl)) (by decide) (by decide)) (g := (mkF m 45 #[.val (.ref a0), .val (.ref a1), .val (.int (0 : Int32)), .val (.int (3 : Int32)), .val .null, .val (.ref r373)] [(.int (3 : Int32)), (.ref r373), (.ref a0)])) rfl (by rw [hml]; rfl) (argsL := [(.ref r373), (.int (3 : Int32))]) (rest := [(.ref a0)]) (lenOf pd_2 rfl) rfl (by show 2 * 0 + _ ≤ _; exact Nat.le_of_eq rfl) (hb hby d3_45) (fun _ _ => ⟨rfl, rfl, (by decide : 1 + 0 ≤ _), (by decide : 3 + 0 ≤ _)⟩)
  dsimp only [Pt.U, Pt.locs, Pt.cells, Pt.slots] at X386 l386 y386 z386 st386 hQ386
  replace l386 := l386.symm; replace y386 := y386.symm; replace z386 := z386.symm; subst l386 y386 z386
  obtain ⟨rfl, N386q, e386⟩ := hQ386
  have N386 := Fr.app N373 N386q
  obtain ⟨T387, h387, X387, e387, W387, st387⟩ := putFN X386 hx hZ hown (hw _ (List.mem_of_getElem? (i := 25) rfl)) Via.refl e386 f381 f379 (Or.inr ⟨(hw _ (List.mem_of_getElem? (i := 21) rfl)), rfl, hnm⟩) (hw _ (List.mem_of_getElem? (i := 5) rfl)) (ty := .byte) (v' := (.int (nar .byte (0 : Int32)))) (by decide) rfl (fits_nar_byte _) (g := (mkF m 48 #[.val (.ref a0), .val (.ref a1), .val (.int (0 : Int32)), .val (.int (3 : Int32)), .val .null, .val (.ref r373)] [(.int (0 : Int32)), (.ref a0)])) rfl rfl (hb hby d3_48)
  have f388 := f379.wr W387
  have f389 := f380.other W387 (Or.inr (slot_ne (Or.inr (hw _ (List.mem_of_getElem? (i := 20) rfl))) (Or.inr (hw _ (List.mem_of_getElem? (i := 21) rfl))) (by decide) (t := (.array .byte)) (t' := .byte) (by decide) (by decide)))
  have f390 := f382.other W387 (Ne.symm ne_a0_a1)
  have f391 := f374.other W387 (Ne.symm ne375)
  have Z392 : n0 ≤ h387.size := Nat.le_trans Z383 (Keep.of_wr W387).1
  have K393 : Keep h0 h387 [a0] := Keep.wr K385 W387 (Or.inl (List.mem_of_getElem? (i := 0) rfl))
  have N394 := Fr.snoc X387 N386 g_a0
  have O395 := Old.wr O384 W387 g_a0
  have f396 : Fld Z h387 a0 "java/lang/String" "coder" "B" (.int (0 : Int32)) := f381.same W387
  obtain ⟨T397, h397, X397, e397, W397, st397⟩ := putF X387 hx hZ hown (host := "") (Or.inl (hw _ (List.mem_of_getElem? (i := 24) rfl))) Via.refl e387 f389 f388 (Or.inr ⟨(hw _ (List.mem_of_getElem? (i := 20) rfl)), rfl, hnm⟩) (hw _ (List.mem_of_getElem? (i := 5) rfl)) (ty := (.array .byte)) (by decide) rfl rfl (g := (mkF m 54 #[.val (.ref a0), .val (.ref a1), .val (.int (0 : Int32)), .val (.int (3 : Int32)), .val .null, .val (.ref r373)] [(.ref r373), (.ref a0)])) rfl rfl (hb hby d3_54)
  have f398 := f388.wr W397
  have f399 := f390.other W397 (Ne.symm ne_a0_a1)
  have f400 := f391.other W397 (Ne.symm ne375)
  have f401 := f396.other W397 (Or.inr (slot_ne (Or.inr (hw _ (List.mem_of_getElem? (i := 21) rfl))) (Or.inr (hw _ (List.mem_of_getElem? (i := 20) rfl))) (by decide) (t := .byte) (t' := (.array .byte)) (by decide) (by decide)))
  have Z402 : n0 ≤ h397.size := Nat.le_trans Z392 (Keep.of_wr W397).1
  have K403 : Keep h0 h397 [a0] := Keep.wr K393 W397 (Or.inl (List.mem_of_getElem? (i := 0) rfl))
  have N404 := Fr.snoc X397 N394 g_a0
  have O405 := Old.wr O395 W397 g_a0
  have f406 : Fld Z h397 a0 "java/lang/String" "value" "[B" (.ref r373) := f389.same W397
  obtain ⟨fs, hr, hrun, hended, hW, hsame⟩ := X397.leave (v := none) (fun _ => rfl)
  refine ⟨_, _, pre0 _ ?_, hrun, hended, _, _, rfl, ?_, ⟨_, rfl⟩, hW, hsame.mono (by decide) (by decide)⟩
  ·
    show Steps p.tables e below (s₁.setTop (mkF m 0 #[.val (.ref a0), .val (.ref a1), .val (.int (0 : Int32)), .val (.int (3 : Int32)), .val .null, .unset] [])) _
    refine XS.aloadN X0.here hx rfl (hb hby d3_0) rfl rfl ?_
    show Steps p.tables e below (s₁.setTop (mkF m 1 #[.val (.ref a0), .val (.ref a1), .val (.int (0 : Int32)), .val (.int (3 : Int32)), .val .null, .unset] [(.ref a0)])) _
    refine st370 _ ?_
    show Steps p.tables e below (T370.setTop (mkF m 4 #[.val (.ref a0), .val (.ref a1), .val (.int (0 : Int32)), .val (.int (3 : Int32)), .val .null, .unset] [])) _
    refine XS.iloadN X370.here hx rfl (hb hby d3_4) rfl ?_
    show Steps p.tables e below (T370.setTop (mkF m 5 #[.val (.ref a0), .val (.ref a1), .val (.int (0 : Int32)), .val (.int (3 : Int32)), .val .null, .unset] [(.int (3 : Int32))])) _
    refine XS.ifYes X370.here hx rfl (pc0 := 5) (pc' := 27) rfl (hb hby d3_5) rfl ((if0 _ _).trans (feq (by decide)).2) (by decide) (by decide) ?_
    show Steps p.tables e below (T370.setTop (mkF m 27 #[.val (.ref a0), .val (.ref a1), .val (.int (0 : Int32)), .val (.int (3 : Int32)), .val .null, .unset] [])) _
    refine st371 _ ?_
    show Steps p.tables e below (T371.setTop (mkF m 30 #[.val (.ref a0), .val (.ref a1), .val (.int (0 : Int32)), .val (.int (3 : Int32)), .val .null, .unset] [(.int zc)])) _
    refine XS.ifNo X371.here hx rfl (hb hby d3_30) rfl ((if0 _ _).trans (feq c372).1) ?_
    show Steps p.tables e below (T371.setTop (mkF m 33 #[.val (.ref a0), .val (.ref a1), .val (.int (0 : Int32)), .val (.int (3 : Int32)), .val .null, .unset] [])) _
    refine XS.aloadN X371.here hx rfl (hb hby d3_33) rfl rfl ?_
    show Steps p.tables e below (T371.setTop (mkF m 34 #[.val (.ref a0), .val (.ref a1), .val (.int (0 : Int32)), .val (.int (3 : Int32)), .val .null, .unset] [(.ref a1)])) _
    refine XS.iloadN X371.here hx rfl (hb hby d3_34) rfl ?_
    show Steps p.tables e below (T371.setTop (mkF m 35 #[.val (.ref a0), .val (.ref a1), .val (.int (0 : Int32)), .val (.int (3 : Int32)), .val .null, .unset] [(.int (0 : Int32)), (.ref a1)])) _
    refine XS.iloadN X371.here hx rfl (hb hby d3_35) rfl ?_
    show Steps p.tables e below (T371.setTop (mkF m 36 #[.val (.ref a0), .val (.ref a1), .val (.int (0 : Int32)), .val (.int (3 : Int32)), .val .null, .unset] [(.int (3 : Int32)), (.int (0 : Int32)), (.ref a1)])) _
    refine st373 _ ?_
    show Steps p.tables e below (T373.setTop (mkF m 39 #[.val (.ref a0), .val (.ref a1), .val (.int (0 : Int32)), .val (.int (3 : Int32)), .val .null, .unset] [(.ref r373)])) _
    refine XS.astore X373.here hx rfl (hb hby d3_39) rfl rfl (l' := #[.val (.ref a0), .val (.ref a1), .val (.int (0 : Int32)), .val (.int (3 : Int32)), .val .null, .val (.ref r373)]) rfl ?_
    show Steps p.tables e below (T373.setTop (mkF m 41 #[.val (.ref a0), .val (.ref a1), .val (.int (0 : Int32)), .val (.int (3 : Int32)), .val .null, .val (.ref r373)] [])) _
    refine XS.aloadN X373.here hx rfl (hb hby d3_41) rfl rfl ?_
    show Steps p.tables e below (T373.setTop (mkF m 42 #[.val (.ref a0), .val (.ref a1), .val (.int (0 : Int32)), .val (.int (3 : Int32)), .val .null, .val (.ref r373)] [(.ref a0)])) _
    refine XS.aload X373.here hx rfl (hb hby d3_42) rfl rfl ?_
    show Steps p.tables e below (T373.setTop (mkF m 44 #[.val (.ref a0), .val (.ref a1), .val (.int (0 : Int32)), .val (.int (3 : Int32)), .val .null, .val (.ref r373)] [(.ref r373), (.ref a0)])) _
    refine XS.iloadN X373.here hx rfl (hb hby d3_44) rfl ?_
    show Steps p.tables e below (T373.setTop (mkF m 45 #[.val (.ref a0), .val (.ref a1), .val (.int (0 : Int32)), .val (.int (3 : Int32)), .val .null, .val (.ref r373)] [(.int (3 : Int32)), (.ref r373), (.ref a0)])) _
    refine st386 _ ?_
    show Steps p.tables e below (T386.setTop (mkF m 48 #[.val (.ref a0), .val (.ref a1), .val (.int (0 : Int32)), .val (.int (3 : Int32)), .val .null, .val (.ref r373)] [(.int (0 : Int32)), (.ref a0)])) _
    refine st387 _ ?_
    show Steps p.tables e below (T387.setTop (mkF m 51 #[.val (.ref a0), .val (.ref a1), .val (.int (0 : Int32)), .val (.int (3 : Int32)), .val .null, .val (.ref r373)] [])) _
    refine XS.aloadN X387.here hx rfl (hb hby d3_51) rfl rfl ?_
    show Steps p.tables e below (T387.setTop (mkF m 52 #[.val (.ref a0), .val (.ref a1), .val (.int (0 : Int32)), .val (.int (3 : Int32)), .val .null, .val (.ref r373)] [(.ref a0)])) _
    refine XS.aload X387.here hx rfl (hb hby d3_52) rfl rfl ?_
    show Steps p.tables e below (T387.setTop (mkF m 54 #[.val (.ref a0), .val (.ref a1), .val (.int (0 : Int32)), .val (.int (3 : Int32)), .val .null, .val (.ref r373)] [(.ref r373), (.ref a0)])) _
    refine st397 _ ?_
    show Steps p.tables e below (T397.setTop (mkF m 57 #[.val (.ref a0), .val (.ref a1), .val (.int (0 : Int32)), .val (.int (3 : Int32)), .val .null, .val (.ref r373)] [])) _
    exact X397.returnOut hx Bd.returns (hb hby d3_57) hr
  ·
    show Q_i4_3 Z a0 a1 kc u0 u1 u2 zc h0 n0 _ T397.heap _
    rw [e397]
    exact ⟨r373, kb373, ((nar .byte (u0.toInt8.toInt32))), ((nar .byte (u1.toInt8.toInt32))), ((nar .byte (u2.toInt8.toInt32))), rfl, N404, K403, f398, f401, f406, f400⟩
theorem ef_i1_3 (m : MethodId) (a0 : Addr) (a1 : Addr) : entryFrame m #[(.ref a0), (.ref a1)] 2 = mkF m 0 #[.val (.ref a0), .val (.ref a1)] [] := by first | (simp [entryFrame, mkF, argsToLocals, Value.category]; done) | rfl
def Q_i1_3 (Z : State) (a0 : Addr) (a1 : Addr) (kc : ClassId) (u0 : Int32) (u1 : Int32) (u2 : Int32) (zc : Int32) (h0 : Heap) (n0 : Nat) (v : Option Value) (h : Heap) (L : List Loc) : Prop := ∃ t : Addr, ∃ kb : ClassId, ∃ w0 : Int32, ∃ w1 : Int32, ∃ w2 : Int32, v = none ∧ Fr n0 L ∧ Keep h0 h [a0] ∧ Exa Z h a0 "java/lang/String" ∧ Fld Z h a0 "java/lang/String" "coder" "B" (.int (0 : Int32)) ∧ Fld Z h a0 "java/lang/String" "value" "[B" (.ref t) ∧ Arv Z h t kb .byte (3 : Int32) [(.int w0), (.int w1), (.int w2)] (.int (0 : Int32))
set_option maxRecDepth 65536 in
set_option maxHeartbeats 40000000 in
theorem i1_3 (l : Launch) (Z : State) (aw : Array Value) (hw : ∀ d ∈ tables_1, d.before aw Z = true) (ws : List Jvm.Cond) (a0 : Addr) (a1 : Addr) (kc : ClassId) (u0 : Int32) (u1 : Int32) (u2 : Int32) (zc : Int32) (h0 : Heap) (n0 : Nat) (Z0 : n0 ≤ h0.size) (E_a0 : Exa Z h0 a0 "java/lang/String") (F_a0_value : Fld Z h0 a0 "java/lang/String" "value" "[B" .null) (F_a0_coder : Fld Z h0 a0 "java/lang/String" "coder" "B" (.int (0 : Int32))) (g_a0 : n0 ≤ a0) (V_a1 : Arv Z h0 a1 kc .char (3 : Int32) [(.int u0), (.int u1), (.int u2)] (.int (0 : Int32))) (ne_a0_a1 : a0 ≠ a1) (OLD : Old Z n0 h0) (O_COMPACT_STRINGS : Sta Z Z.heap "java/lang/String" "COMPACT_STRINGS" "Z" (.int zc)) (hzc : ¬ (zc = (0 : Int32))) (hu0 : ¬ ((255 : Int32) < u0)) (hu1 : ¬ ((255 : Int32) < u1)) (hu2 : ¬ ((255 : Int32) < u2)) :
    MetFree l (⟨"java/lang/String", "<init>", "([C)V"⟩ : MethodName) (head1 (Jvm.Cond.code (⟨"java/lang/String", "<init>", "([C)V"⟩ : MethodName) jdk_42_method_3_code 2 none :: ws) ({ frames := 3, cells := 1, slots := 3, locals := 52 } : Room)) (fun a U => a = #[(.ref a0), (.ref a1)] ∧ Z.Warmed39 U.vm ∧ U.heap = h0) (fun _ _ _ _ _ => True) (fun _ U o U' => ∃ v L, o = .returned v ∧ Q_i1_3 Z a0 a1 kc u0 u1 u2 zc h0 n0 v U'.heap L ∧ FrameEnd U o U' L ({ frames := 3, cells := 1, slots := 3, locals := 52 } : Room).cells ({ frames := 3, cells := 1, slots := 3, locals := 52 } : Room).slots) := by
  refine MetFree.of_bodySF (plainFor_of_name pn_1) hisR ?_
  intro p e s m args below meth c s₁ Bd hml0 hP hK
  obtain ⟨rfl, hZ, hh⟩ := hP
  have hx := Bd.exec
  have hby := Bd.bytes
  have hml : c.maxLocals = 2 := hml0
  have hown : s.vm.findClass "java/lang/String" = some m.cls := findClass_of_methodNamed Bd.named
  have hnm := (name_of_methodNamed Bd.named Bd.method).1
  have X0 : Stand p l e ({ frames := 3, cells := 1, slots := 3, locals := 52 } : Room) s m #[(.ref a0), (.ref a1)] below meth c s₁ [] 0 0 := Stand.of_body Bd
  have e0 : s₁.heap = h0 := by rw [← hh, Bd.state]; rfl
  have N0 := Fr.nil n0
  have pre0 : ∀ t, Steps p.tables e below (s₁.setTop (mkF m 0 #[.val (.ref a0), .val (.ref a1)] [])) t → Steps p.tables e below (s₁.setTop (entryFrame m #[(.ref a0), (.ref a1)] 2)) t := fun t k => castTop (ef_i1_3 m a0 a1) k
  have KC0 : Keep h0 h0 [a0] := Keep.refl h0 [a0]
  obtain ⟨cl407, Ar407, q407, S407, N407, H407, G407⟩ := id V_a1
  obtain ⟨_, _, ⟨T408, L408, k408, n408⟩, -, X408, ⟨Lc408, hQ408, l408, y408, z408⟩, st408⟩ := X0.specialBack hx (y := (⟨"java/lang/String", "<init>", "([CIILjava/lang/Void;)V"⟩ : MethodName)) rfl hown (mvT hZ (hw _ (List.mem_of_getElem? (i := 11) rfl))) (mvT hZ (hw _ (List.mem_of_getElem? (i := 12) rfl))) (mvT hZ (hw _ (List.mem_of_getElem? (i := 14) rfl))) (by decide) (backOf (W := 0) (i4_3 l Z aw hw [] a0 a1 kc u0 u1 u2 zc h0 n0 Z0 E_a0 F_a0_value F_a0_coder g_a0 V_a1 ne_a0_a1 OLD O_COMPACT_STRINGS hzc hu0 hu1 hu2) hZ (hw _ (List.mem_of_getElem? (i := 14) rfl)) (hw _ (List.mem_of_getElem? (i := 6) rfl)) (by decide) (by decide)) (g := (mkF m 6 #[.val (.ref a0), .val (.ref a1)] [.null, (.int (3 : Int32)), (.int (0 : Int32)), (.ref a1), (.ref a0)])) rfl (by rw [hml]; rfl) (Steps.refl _) (a := a0) (argsL := [(.ref a1), (.int (0 : Int32)), (.int (3 : Int32)), .null]) (rest := []) (lenOf pd_3 rfl) rfl (by show 2 * 0 + _ ≤ _; exact Nat.le_of_eq rfl) (hb hby d2_6) (fun _ _ => ⟨rfl, e0, (by decide : 0 + 1 ≤ _), (by decide : 0 + 3 ≤ _)⟩)
  dsimp only [Pt.U, Pt.locs, Pt.cells, Pt.slots] at X408 l408 y408 z408 st408 hQ408
  replace l408 := l408.symm; replace y408 := y408.symm; replace z408 := z408.symm; subst l408 y408 z408
  obtain ⟨t408, kb408, w0408, w1408, w2408, rfl, N408q, K408, f409, f410, f411, f412⟩ := hQ408
  have N408 := Fr.app N0 N408q
  have f413 := V_a1.keep K408 (ninS (Ne.symm ne_a0_a1) nin0)
  have Z414 : n0 ≤ T408.heap.size := Nat.le_trans Z0 K408.1
  have O415 := Old.keep OLD K408 (allS g_a0 all0)
  have K416 : Keep h0 T408.heap [a0] := Keep.trans KC0 K408 (allS (Or.inl (List.mem_of_getElem? (i := 0) rfl)) all0)
  obtain ⟨fs, hr, hrun, hended, hW, hsame⟩ := X408.leave (v := none) (fun _ => rfl)
  refine ⟨_, _, pre0 _ ?_, hrun, hended, _, _, rfl, ?_, ⟨_, rfl⟩, hW, hsame.mono (by decide) (by decide)⟩
  ·
    show Steps p.tables e below (s₁.setTop (mkF m 0 #[.val (.ref a0), .val (.ref a1)] [])) _
    refine XS.aloadN X0.here hx rfl (hb hby d2_0) rfl rfl ?_
    show Steps p.tables e below (s₁.setTop (mkF m 1 #[.val (.ref a0), .val (.ref a1)] [(.ref a0)])) _
    refine XS.aloadN X0.here hx rfl (hb hby d2_1) rfl rfl ?_
    show Steps p.tables e below (s₁.setTop (mkF m 2 #[.val (.ref a0), .val (.ref a1)] [(.ref a1), (.ref a0)])) _
    refine XS.iconst X0.here hx rfl (hb hby d2_2) ?_
    show Steps p.tables e below (s₁.setTop (mkF m 3 #[.val (.ref a0), .val (.ref a1)] [(.int (0 : Int32)), (.ref a1), (.ref a0)])) _
    refine XS.aloadN X0.here hx rfl (hb hby d2_3) rfl rfl ?_
    show Steps p.tables e below (s₁.setTop (mkF m 4 #[.val (.ref a0), .val (.ref a1)] [(.ref a1), (.int (0 : Int32)), (.ref a1), (.ref a0)])) _
    refine X0.arraylength hx (by rw [e0]; exact Ar407.1) (State.isArrayOf_alike hZ.alike Ar407.2.1) (g := (mkF m 4 #[.val (.ref a0), .val (.ref a1)] [(.ref a1), (.int (0 : Int32)), (.ref a1), (.ref a0)])) rfl rfl (hb hby d2_4) _ ?_
    rw [len_of S407 N407]
    show Steps p.tables e below (s₁.setTop (mkF m 5 #[.val (.ref a0), .val (.ref a1)] [(.int (3 : Int32)), (.int (0 : Int32)), (.ref a1), (.ref a0)])) _
    refine XS.aconstNull X0.here hx rfl (hb hby d2_5) ?_
    show Steps p.tables e below (s₁.setTop (mkF m 6 #[.val (.ref a0), .val (.ref a1)] [.null, (.int (3 : Int32)), (.int (0 : Int32)), (.ref a1), (.ref a0)])) _
    refine st408.trans ?_
    show Steps p.tables e below (T408.setTop (mkF m 9 #[.val (.ref a0), .val (.ref a1)] [])) _
    exact X408.returnOut hx Bd.returns (hb hby d2_9) hr
  ·
    show Q_i1_3 Z a0 a1 kc u0 u1 u2 zc h0 n0 _ T408.heap _
    exact ⟨t408, kb408, w0408, w1408, w2408, rfl, N408, K416, f409, f410, f411, f412⟩
theorem d1_59 : decode method_3_code 59 = .ok (.new 20, 3) := by decide +kernel
theorem d1_62 : decode method_3_code 62 = .ok (.dup, 1) := by decide +kernel
theorem d1_63 : decode method_3_code 63 = .ok (.iconst 3, 1) := by decide +kernel
theorem d1_64 : decode method_3_code 64 = .ok (.newarray .char, 2) := by decide +kernel
theorem d1_66 : decode method_3_code 66 = .ok (.dup, 1) := by decide +kernel
theorem d1_67 : decode method_3_code 67 = .ok (.iconst 0, 1) := by decide +kernel
theorem d1_68 : decode method_3_code 68 = .ok (.iload_n 1, 1) := by decide +kernel
theorem d1_69 : decode method_3_code 69 = .ok (.castore, 1) := by decide +kernel
theorem d1_70 : decode method_3_code 70 = .ok (.dup, 1) := by decide +kernel
theorem d1_71 : decode method_3_code 71 = .ok (.iconst 1, 1) := by decide +kernel
theorem d1_72 : decode method_3_code 72 = .ok (.iload_n 2, 1) := by decide +kernel
theorem d1_73 : decode method_3_code 73 = .ok (.castore, 1) := by decide +kernel
theorem d1_74 : decode method_3_code 74 = .ok (.dup, 1) := by decide +kernel
theorem d1_75 : decode method_3_code 75 = .ok (.iconst 2, 1) := by decide +kernel
theorem d1_76 : decode method_3_code 76 = .ok (.iload_n 3, 1) := by decide +kernel
theorem d1_77 : decode method_3_code 77 = .ok (.castore, 1) := by decide +kernel
theorem d1_78 : decode method_3_code 78 = .ok (.invokespecial 37, 3) := by decide +kernel
theorem d1_81 : decode method_3_code 81 = .ok (.areturn, 1) := by decide +kernel
theorem ef_mk_3 (m : MethodId) (p1 : Int32) (p2 : Int32) (p3 : Int32) : entryFrame m #[(.int (3 : Int32)), (.int p1), (.int p2), (.int p3)] 4 = mkF m 0 #[.val (.int (3 : Int32)), .val (.int p1), .val (.int p2), .val (.int p3)] [] := by first | (simp [entryFrame, mkF, argsToLocals, Value.category]; done) | rfl
def Q_mk_3 (Z : State) (p1 : Int32) (p2 : Int32) (p3 : Int32) (zc : Int32) (h0 : Heap) (n0 : Nat) (v : Option Value) (h : Heap) (L : List Loc) : Prop := ∃ b : Addr, ∃ t : Addr, ∃ kb : ClassId, ∃ w0 : Int32, ∃ w1 : Int32, ∃ w2 : Int32, v = some (.ref b) ∧ Fr n0 L ∧ Keep h0 h [] ∧ h0.size ≤ b ∧ Exa Z h b "java/lang/String" ∧ Fld Z h b "java/lang/String" "coder" "B" (.int (0 : Int32)) ∧ Fld Z h b "java/lang/String" "value" "[B" (.ref t) ∧ Arv Z h t kb .byte (3 : Int32) [(.int w0), (.int w1), (.int w2)] (.int (0 : Int32))
set_option maxRecDepth 65536 in
set_option maxHeartbeats 40000000 in
theorem mk_3 (l : Launch) (Z : State) (aw : Array Value) (hw : ∀ d ∈ tables_1, d.before aw Z = true) (ws : List Jvm.Cond) (p1 : Int32) (p2 : Int32) (p3 : Int32) (zc : Int32) (h0 : Heap) (n0 : Nat) (Z0 : n0 ≤ h0.size) (OLD : Old Z n0 h0) (O_COMPACT_STRINGS : Sta Z Z.heap "java/lang/String" "COMPACT_STRINGS" "Z" (.int zc)) (hzc : ¬ (zc = (0 : Int32))) (hp1 : 0 ≤ p1.toInt ∧ p1.toInt ≤ 255) (hp2 : 0 ≤ p2.toInt ∧ p2.toInt ≤ 255) (hp3 : 0 ≤ p3.toInt ∧ p3.toInt ≤ 255) :
    MetFree l (⟨"com/example/reliquary/reliquary/DatastreamDefaultMimeTypePinLaw", "make", "(ICCC)Ljava/lang/String;"⟩ : MethodName) (head1 (Jvm.Cond.code (⟨"com/example/reliquary/reliquary/DatastreamDefaultMimeTypePinLaw", "make", "(ICCC)Ljava/lang/String;"⟩ : MethodName) method_3_code 4 (some (.object "java/lang/String")) :: ws) ({ frames := 4, cells := 3, slots := 10, locals := 66 } : Room)) (fun a U => a = #[(.int (3 : Int32)), (.int p1), (.int p2), (.int p3)] ∧ Z.Warmed39 U.vm ∧ U.heap = h0) (fun _ _ _ _ _ => True) (fun _ U o U' => ∃ v L, o = .returned v ∧ Q_mk_3 Z p1 p2 p3 zc h0 n0 v U'.heap L ∧ FrameEnd U o U' L ({ frames := 4, cells := 3, slots := 10, locals := 66 } : Room).cells ({ frames := 4, cells := 3, slots := 10, locals := 66 } : Room).slots) := by
  refine MetFree.of_bodySF (plainFor_of_name pn_2) hisR ?_
  intro p e s m args below meth c s₁ Bd hml0 hP hK
  obtain ⟨rfl, hZ, hh⟩ := hP
  have hx := Bd.exec
  have hby := Bd.bytes
  have hml : c.maxLocals = 4 := hml0
  have hown : s.vm.findClass "com/example/reliquary/reliquary/DatastreamDefaultMimeTypePinLaw" = some m.cls := findClass_of_methodNamed Bd.named
  have hnm := (name_of_methodNamed Bd.named Bd.method).1
  have X0 : Stand p l e ({ frames := 4, cells := 3, slots := 10, locals := 66 } : Room) s m #[(.int (3 : Int32)), (.int p1), (.int p2), (.int p3)] below meth c s₁ [] 0 0 := Stand.of_body Bd
  have e0 : s₁.heap = h0 := by rw [← hh, Bd.state]; rfl
  have N0 := Fr.nil n0
  have pre0 : ∀ t, Steps p.tables e below (s₁.setTop (mkF m 0 #[.val (.int (3 : Int32)), .val (.int p1), .val (.int p2), .val (.int p3)] [])) t → Steps p.tables e below (s₁.setTop (entryFrame m #[(.int (3 : Int32)), (.int p1), (.int p2), (.int p3)] 4)) t := fun t k => castTop (ef_mk_3 m p1 p2 p3) k
  have KC0 : Keep h0 h0 [] := Keep.refl h0 []
  obtain ⟨T417, h417, X417, e417, E417, A417, D417, -, st417⟩ := newO X0 hx hZ hown (hw _ (List.mem_of_getElem? (i := 4) rfl)) (hw _ (List.mem_of_getElem? (i := 5) rfl)) (hw _ (List.mem_of_getElem? (i := 6) rfl)) e0 (g := (mkF m 59 #[.val (.int (3 : Int32)), .val (.int p1), .val (.int p2), .val (.int p3)] [])) rfl (hb hby d1_59) (by decide) (by decide)
  obtain ⟨b417, g417⟩ : ∃ z_, z_ = h0.size := ⟨_, rfl⟩
  rw [← g417] at A417 D417 st417
  have gn418 : n0 ≤ b417 := Nat.le_trans Z0 (Nat.le_of_eq g417.symm)
  have sz419 : h0.size ≤ b417 := Nat.le_trans KC0.1 (Nat.le_of_eq g417.symm)
  have Z420 : n0 ≤ h417.size := Nat.le_trans Z0 E417.1
  have K421 : Keep h0 h417 [] := Keep.ext KC0 E417
  have O422 := Old.ext OLD E417
  have f423 : Fld Z h417 b417 "java/lang/String" "value" "[B" .null := D417 (Or.inr (hw _ (List.mem_of_getElem? (i := 20) rfl))) (ty := (.array .byte)) (by decide)
  have f424 : Fld Z h417 b417 "java/lang/String" "coder" "B" (.int (0 : Int32)) := D417 (Or.inr (hw _ (List.mem_of_getElem? (i := 21) rfl))) (ty := .byte) (by decide)
  obtain ⟨T425, h425, k425, X425, e425, E425, A425, kc425, st425⟩ := newPk X417 hx hZ (hw _ (List.mem_of_getElem? (i := 7) rfl)) e417 (g := (mkF m 64 #[.val (.int (3 : Int32)), .val (.int p1), .val (.int p2), .val (.int p3)] [(.int (3 : Int32)), (.ref b417), (.ref b417)])) rfl (hb hby d1_64) rfl (by decide) (cap := 3) (by decide) (by decide) (by decide) (by decide)
  obtain ⟨b425, g425⟩ : ∃ z_, z_ = h417.size := ⟨_, rfl⟩
  rw [← g425] at A425 st425
  have ne426 : b417 ≠ b425 := Nat.ne_of_lt (Nat.lt_of_lt_of_le A417.lt (Nat.le_of_eq g425.symm))
  have gn427 : n0 ≤ b425 := Nat.le_trans Z420 (Nat.le_of_eq g425.symm)
  have sz428 : h0.size ≤ b425 := Nat.le_trans K421.1 (Nat.le_of_eq g425.symm)
  have f429 := A417.ext E425
  have f430 := f423.ext E425
  have f431 := f424.ext E425
  have Z432 : n0 ≤ h425.size := Nat.le_trans Z420 E425.1
  have K433 : Keep h0 h425 [] := Keep.ext K421 E425
  have O434 := Old.ext O422 E425
  have f435 : Arv Z h425 b425 k425 .char (3 : Int32) [(.int (0 : Int32)), (.int (0 : Int32)), (.int (0 : Int32))] (.int (0 : Int32)) := (Arv.new A425 (by decide)).pad (pad_rep [] (.int (0 : Int32)) 3)
  obtain ⟨cl436, Ar436, q436, S436, N436, H436, G436⟩ := id f435
  have hin436 : ¬ ((0 : Int32) < 0 ∨ cl436.slots.size ≤ ((0 : Int32)).toNatClampNeg) := inb_of S436 ⟨by decide, by decide⟩
  obtain ⟨T436, h436, X436, e436, W436, st436⟩ := stC X425 hx hZ e425 Ar436 (j := (0 : Int32)) hin436 (g := (mkF m 69 #[.val (.int (3 : Int32)), .val (.int p1), .val (.int p2), .val (.int p3)] [(.int p1), (.int (0 : Int32)), (.ref b425), (.ref b425), (.ref b417), (.ref b417)])) rfl rfl (hb hby d1_69)
  have f437 := f429.wr W436
  have f438 := f430.other W436 (Or.inl ne426)
  have f439 := f431.other W436 (Or.inl ne426)
  have Z440 : n0 ≤ h436.size := Nat.le_trans Z432 (Keep.of_wr W436).1
  have K441 : Keep h0 h436 [] := Keep.wr K433 W436 (Or.inr sz428)
  have N442 := Fr.snoc X436 N0 gn427
  have O443 := Old.wr O434 W436 gn427
  have f444 : Arv Z h436 b425 k425 .char (3 : Int32) [(.int (nar .char p1)), (.int (0 : Int32)), (.int (0 : Int32))] (.int (0 : Int32)) := Arv.set Ar436 q436 S436 N436 H436 G436 (fits_nar_char _) W436 0 rfl (Nat.le_of_ble_eq_true rfl)
  obtain ⟨cl445, Ar445, q445, S445, N445, H445, G445⟩ := id f444
  have hin445 : ¬ ((1 : Int32) < 0 ∨ cl445.slots.size ≤ ((1 : Int32)).toNatClampNeg) := inb_of S445 ⟨by decide, by decide⟩
  obtain ⟨T445, h445, X445, e445, W445, st445⟩ := stC X436 hx hZ e436 Ar445 (j := (1 : Int32)) hin445 (g := (mkF m 73 #[.val (.int (3 : Int32)), .val (.int p1), .val (.int p2), .val (.int p3)] [(.int p2), (.int (1 : Int32)), (.ref b425), (.ref b425), (.ref b417), (.ref b417)])) rfl rfl (hb hby d1_73)
  have f446 := f437.wr W445
  have f447 := f438.other W445 (Or.inl ne426)
  have f448 := f439.other W445 (Or.inl ne426)
  have Z449 : n0 ≤ h445.size := Nat.le_trans Z440 (Keep.of_wr W445).1
  have K450 : Keep h0 h445 [] := Keep.wr K441 W445 (Or.inr sz428)
  have N451 := Fr.snoc X445 N442 gn427
  have O452 := Old.wr O443 W445 gn427
  have f453 : Arv Z h445 b425 k425 .char (3 : Int32) [(.int (nar .char p1)), (.int (nar .char p2)), (.int (0 : Int32))] (.int (0 : Int32)) := Arv.set Ar445 q445 S445 N445 H445 G445 (fits_nar_char _) W445 1 rfl (Nat.le_of_ble_eq_true rfl)
  obtain ⟨cl454, Ar454, q454, S454, N454, H454, G454⟩ := id f453
  have hin454 : ¬ ((2 : Int32) < 0 ∨ cl454.slots.size ≤ ((2 : Int32)).toNatClampNeg) := inb_of S454 ⟨by decide, by decide⟩
  obtain ⟨T454, h454, X454, e454, W454, st454⟩ := stC X445 hx hZ e445 Ar454 (j := (2 : Int32)) hin454 (g := (mkF m 77 #[.val (.int (3 : Int32)), .val (.int p1), .val (.int p2), .val (.int p3)] [(.int p3), (.int (2 : Int32)), (.ref b425), (.ref b425), (.ref b417), (.ref b417)])) rfl rfl (hb hby d1_77)
  have f455 := f446.wr W454
  have f456 := f447.other W454 (Or.inl ne426)
  have f457 := f448.other W454 (Or.inl ne426)
  have Z458 : n0 ≤ h454.size := Nat.le_trans Z449 (Keep.of_wr W454).1
  have K459 : Keep h0 h454 [] := Keep.wr K450 W454 (Or.inr sz428)
  have N460 := Fr.snoc X454 N451 gn427
  have O461 := Old.wr O452 W454 gn427
  have f462 : Arv Z h454 b425 k425 .char (3 : Int32) [(.int (nar .char p1)), (.int (nar .char p2)), (.int (nar .char p3))] (.int (0 : Int32)) := Arv.set Ar454 q454 S454 N454 H454 G454 (fits_nar_char _) W454 2 rfl (Nat.le_of_ble_eq_true rfl)
  obtain ⟨_, _, ⟨T463, L463, k463, n463⟩, -, X463, ⟨Lc463, hQ463, l463, y463, z463⟩, st463⟩ := X454.specialBack hx (y := (⟨"java/lang/String", "<init>", "([C)V"⟩ : MethodName)) rfl hown (mvT hZ (hw _ (List.mem_of_getElem? (i := 8) rfl))) (mvT hZ (hw _ (List.mem_of_getElem? (i := 9) rfl))) (mvT hZ (hw _ (List.mem_of_getElem? (i := 10) rfl))) (by decide) (backOf (W := 1) (i1_3 l Z aw hw [] b417 b425 k425 ((nar .char p1)) ((nar .char p2)) ((nar .char p3)) zc h454 n0 Z458 f455 f456 f457 gn418 f462 ne426 O461 O_COMPACT_STRINGS hzc (own_nc hp1) (own_nc hp2) (own_nc hp3)) hZ (hw _ (List.mem_of_getElem? (i := 10) rfl)) (hw _ (List.mem_of_getElem? (i := 6) rfl)) (by decide) (by decide)) (g := (mkF m 78 #[.val (.int (3 : Int32)), .val (.int p1), .val (.int p2), .val (.int p3)] [(.ref b425), (.ref b417), (.ref b417)])) rfl (by rw [hml]; rfl) (Steps.refl _) (a := b417) (argsL := [(.ref b425)]) (rest := [(.ref b417)]) (lenOf pd_4 rfl) rfl (by show 2 * 0 + _ ≤ _; exact Nat.le_of_eq rfl) (hb hby d1_78) (fun _ _ => ⟨rfl, e454, (by decide : 2 + 1 ≤ _), (by decide : 7 + 3 ≤ _)⟩)
  dsimp only [Pt.U, Pt.locs, Pt.cells, Pt.slots] at X463 l463 y463 z463 st463 hQ463
  replace l463 := l463.symm; replace y463 := y463.symm; replace z463 := z463.symm; subst l463 y463 z463
  obtain ⟨t463, kb463, w0463, w1463, w2463, rfl, N463q, K463, f464, f465, f466, f467⟩ := hQ463
  have N463 := Fr.app N460 N463q
  have f468 := f462.keep K463 (ninS (Ne.symm ne426) nin0)
  have Z469 : n0 ≤ T463.heap.size := Nat.le_trans Z458 K463.1
  have O470 := Old.keep O461 K463 (allS gn418 all0)
  have K471 : Keep h0 T463.heap [] := Keep.trans K459 K463 (allS (Or.inr sz419) all0)
  obtain ⟨fs, hr, hrun, hended, hW, hsame⟩ := X463.leave (v := some (.ref b417)) (fun h => by rw [Bd.returns] at h; cases h)
  refine ⟨_, _, pre0 _ ?_, hrun, hended, _, _, rfl, ?_, ⟨_, rfl⟩, hW, hsame.mono (by decide) (by decide)⟩
  ·
    show Steps p.tables e below (s₁.setTop (mkF m 0 #[.val (.int (3 : Int32)), .val (.int p1), .val (.int p2), .val (.int p3)] [])) _
    refine XS.iloadN X0.here hx rfl (hb hby d1_0) rfl ?_
    show Steps p.tables e below (s₁.setTop (mkF m 1 #[.val (.int (3 : Int32)), .val (.int p1), .val (.int p2), .val (.int p3)] [(.int (3 : Int32))])) _
    refine XS.ifYes X0.here hx rfl (pc0 := 1) (pc' := 15) rfl (hb hby d1_1) rfl ((if0 _ _).trans (feq (by decide)).2) (by decide) (by decide) ?_
    show Steps p.tables e below (s₁.setTop (mkF m 15 #[.val (.int (3 : Int32)), .val (.int p1), .val (.int p2), .val (.int p3)] [])) _
    refine XS.iloadN X0.here hx rfl (hb hby d1_15) rfl ?_
    show Steps p.tables e below (s₁.setTop (mkF m 16 #[.val (.int (3 : Int32)), .val (.int p1), .val (.int p2), .val (.int p3)] [(.int (3 : Int32))])) _
    refine XS.iconst X0.here hx rfl (hb hby d1_16) ?_
    show Steps p.tables e below (s₁.setTop (mkF m 17 #[.val (.int (3 : Int32)), .val (.int p1), .val (.int p2), .val (.int p3)] [(.int (1 : Int32)), (.int (3 : Int32))])) _
    refine XS.icmpYes X0.here hx rfl (pc0 := 17) (pc' := 35) rfl (hb hby d1_17) rfl (feq (by decide)).2 (by decide) (by decide) ?_
    show Steps p.tables e below (s₁.setTop (mkF m 35 #[.val (.int (3 : Int32)), .val (.int p1), .val (.int p2), .val (.int p3)] [])) _
    refine XS.iloadN X0.here hx rfl (hb hby d1_35) rfl ?_
    show Steps p.tables e below (s₁.setTop (mkF m 36 #[.val (.int (3 : Int32)), .val (.int p1), .val (.int p2), .val (.int p3)] [(.int (3 : Int32))])) _
    refine XS.iconst X0.here hx rfl (hb hby d1_36) ?_
    show Steps p.tables e below (s₁.setTop (mkF m 37 #[.val (.int (3 : Int32)), .val (.int p1), .val (.int p2), .val (.int p3)] [(.int (2 : Int32)), (.int (3 : Int32))])) _
    refine XS.icmpYes X0.here hx rfl (pc0 := 37) (pc' := 59) rfl (hb hby d1_37) rfl (feq (by decide)).2 (by decide) (by decide) ?_
    show Steps p.tables e below (s₁.setTop (mkF m 59 #[.val (.int (3 : Int32)), .val (.int p1), .val (.int p2), .val (.int p3)] [])) _
    refine st417 _ ?_
    show Steps p.tables e below (T417.setTop (mkF m 62 #[.val (.int (3 : Int32)), .val (.int p1), .val (.int p2), .val (.int p3)] [(.ref b417)])) _
    refine XS.dup X417.here hx rfl (hb hby d1_62) rfl rfl ?_
    show Steps p.tables e below (T417.setTop (mkF m 63 #[.val (.int (3 : Int32)), .val (.int p1), .val (.int p2), .val (.int p3)] [(.ref b417), (.ref b417)])) _
    refine XS.iconst X417.here hx rfl (hb hby d1_63) ?_
    show Steps p.tables e below (T417.setTop (mkF m 64 #[.val (.int (3 : Int32)), .val (.int p1), .val (.int p2), .val (.int p3)] [(.int (3 : Int32)), (.ref b417), (.ref b417)])) _
    refine st425 _ ?_
    show Steps p.tables e below (T425.setTop (mkF m 66 #[.val (.int (3 : Int32)), .val (.int p1), .val (.int p2), .val (.int p3)] [(.ref b425), (.ref b417), (.ref b417)])) _
    refine XS.dup X425.here hx rfl (hb hby d1_66) rfl rfl ?_
    show Steps p.tables e below (T425.setTop (mkF m 67 #[.val (.int (3 : Int32)), .val (.int p1), .val (.int p2), .val (.int p3)] [(.ref b425), (.ref b425), (.ref b417), (.ref b417)])) _
    refine XS.iconst X425.here hx rfl (hb hby d1_67) ?_
    show Steps p.tables e below (T425.setTop (mkF m 68 #[.val (.int (3 : Int32)), .val (.int p1), .val (.int p2), .val (.int p3)] [(.int (0 : Int32)), (.ref b425), (.ref b425), (.ref b417), (.ref b417)])) _
    refine XS.iloadN X425.here hx rfl (hb hby d1_68) rfl ?_
    show Steps p.tables e below (T425.setTop (mkF m 69 #[.val (.int (3 : Int32)), .val (.int p1), .val (.int p2), .val (.int p3)] [(.int p1), (.int (0 : Int32)), (.ref b425), (.ref b425), (.ref b417), (.ref b417)])) _
    refine st436 _ ?_
    show Steps p.tables e below (T436.setTop (mkF m 70 #[.val (.int (3 : Int32)), .val (.int p1), .val (.int p2), .val (.int p3)] [(.ref b425), (.ref b417), (.ref b417)])) _
    refine XS.dup X436.here hx rfl (hb hby d1_70) rfl rfl ?_
    show Steps p.tables e below (T436.setTop (mkF m 71 #[.val (.int (3 : Int32)), .val (.int p1), .val (.int p2), .val (.int p3)] [(.ref b425), (.ref b425), (.ref b417), (.ref b417)])) _
    refine XS.iconst X436.here hx rfl (hb hby d1_71) ?_
    show Steps p.tables e below (T436.setTop (mkF m 72 #[.val (.int (3 : Int32)), .val (.int p1), .val (.int p2), .val (.int p3)] [(.int (1 : Int32)), (.ref b425), (.ref b425), (.ref b417), (.ref b417)])) _
    refine XS.iloadN X436.here hx rfl (hb hby d1_72) rfl ?_
    show Steps p.tables e below (T436.setTop (mkF m 73 #[.val (.int (3 : Int32)), .val (.int p1), .val (.int p2), .val (.int p3)] [(.int p2), (.int (1 : Int32)), (.ref b425), (.ref b425), (.ref b417), (.ref b417)])) _
    refine st445 _ ?_
    show Steps p.tables e below (T445.setTop (mkF m 74 #[.val (.int (3 : Int32)), .val (.int p1), .val (.int p2), .val (.int p3)] [(.ref b425), (.ref b417), (.ref b417)])) _
    refine XS.dup X445.here hx rfl (hb hby d1_74) rfl rfl ?_
    show Steps p.tables e below (T445.setTop (mkF m 75 #[.val (.int (3 : Int32)), .val (.int p1), .val (.int p2), .val (.int p3)] [(.ref b425), (.ref b425), (.ref b417), (.ref b417)])) _
    refine XS.iconst X445.here hx rfl (hb hby d1_75) ?_
    show Steps p.tables e below (T445.setTop (mkF m 76 #[.val (.int (3 : Int32)), .val (.int p1), .val (.int p2), .val (.int p3)] [(.int (2 : Int32)), (.ref b425), (.ref b425), (.ref b417), (.ref b417)])) _
    refine XS.iloadN X445.here hx rfl (hb hby d1_76) rfl ?_
    show Steps p.tables e below (T445.setTop (mkF m 77 #[.val (.int (3 : Int32)), .val (.int p1), .val (.int p2), .val (.int p3)] [(.int p3), (.int (2 : Int32)), (.ref b425), (.ref b425), (.ref b417), (.ref b417)])) _
    refine st454 _ ?_
    show Steps p.tables e below (T454.setTop (mkF m 78 #[.val (.int (3 : Int32)), .val (.int p1), .val (.int p2), .val (.int p3)] [(.ref b425), (.ref b417), (.ref b417)])) _
    refine st463.trans ?_
    show Steps p.tables e below (T463.setTop (mkF m 81 #[.val (.int (3 : Int32)), .val (.int p1), .val (.int p2), .val (.int p3)] [(.ref b417)])) _
    exact retA X463 hx rfl rfl Bd.returns (hb hby d1_81) hr
  ·
    show Q_mk_3 Z p1 p2 p3 zc h0 n0 _ T463.heap _
    exact ⟨b417, t463, kb463, w0463, w1463, w2463, rfl, N463, K471, sz419, f464, f465, f466, f467⟩
theorem own_EW {Z : State} {a0 : Array Value} (hw : ∀ d ∈ tables_1, d.before a0 Z = true) : EW Z a0 consts_1 := (EW.cons (hw _ (List.mem_of_getElem? (i := 30) rfl)) (by decide) (EW.cons (hw _ (List.mem_of_getElem? (i := 65) rfl)) (by decide) (EW.cons (hw _ (List.mem_of_getElem? (i := 42) rfl)) (by decide) (EW.cons (hw _ (List.mem_of_getElem? (i := 87) rfl)) (by decide) (EW.cons (hw _ (List.mem_of_getElem? (i := 53) rfl)) (by decide) (EW.cons (hw _ (List.mem_of_getElem? (i := 18) rfl)) (by decide) EW.nil))))))
theorem d3_8 : decode jdk_42_method_149_code 8 = .ok (.aload_n 0, 1) := by decide +kernel
theorem own_wS {Z : State} {a0 : Array Value} (hw : ∀ d ∈ tables_1, d.before a0 Z = true) : ∀ a ∈ Bundle.stringAtoms, a.before a0 Z = true := fun d hd => by
  simp only [Bundle.stringAtoms, List.mem_cons, List.not_mem_nil, or_false] at hd
  rcases hd with rfl | rfl | rfl | rfl | rfl | rfl | rfl
  · exact (hw _ (List.mem_of_getElem? (i := 6) rfl))
  · exact (hw _ (List.mem_of_getElem? (i := 5) rfl))
  · exact (hw _ (List.mem_of_getElem? (i := 19) rfl))
  · exact (hw _ (List.mem_of_getElem? (i := 20) rfl))
  · exact (hw _ (List.mem_of_getElem? (i := 21) rfl))
  · exact (hw _ (List.mem_of_getElem? (i := 22) rfl))
  · exact (hw _ (List.mem_of_getElem? (i := 23) rfl))
theorem d3_9 : decode jdk_42_method_149_code 9 = .ok (.ldc 7, 2) := by decide +kernel
theorem d3_11 : decode jdk_42_method_149_code 11 = .ok (.getfield 9, 3) := by decide +kernel
theorem d3_14 : decode jdk_42_method_149_code 14 = .ok (.putfield 9, 3) := by decide +kernel
theorem d3_17 : decode jdk_42_method_149_code 17 = .ok (.aload_n 0, 1) := by decide +kernel
theorem d3_18 : decode jdk_42_method_149_code 18 = .ok (.ldc 7, 2) := by decide +kernel
theorem d3_20 : decode jdk_42_method_149_code 20 = .ok (.getfield 15, 3) := by decide +kernel
theorem d3_23 : decode jdk_42_method_149_code 23 = .ok (.putfield 15, 3) := by decide +kernel
theorem d3_26 : decode jdk_42_method_149_code 26 = .ok (.return_, 1) := by decide +kernel
theorem ef_i4_0 (m : MethodId) (a0 : Addr) (a1 : Addr) : entryFrame m #[(.ref a0), (.ref a1), (.int (0 : Int32)), (.int (0 : Int32)), .null] 6 = mkF m 0 #[.val (.ref a0), .val (.ref a1), .val (.int (0 : Int32)), .val (.int (0 : Int32)), .val .null, .unset] [] := by first | (simp [entryFrame, mkF, argsToLocals, Value.category]; done) | rfl
def Q_i4_0 (Z : State) (a0 : Addr) (a1 : Addr) (kc : ClassId) (h0 : Heap) (n0 : Nat) (v : Option Value) (h : Heap) (L : List Loc) : Prop := ∃ t : Addr, ∃ kb : ClassId, v = none ∧ Fr n0 L ∧ Keep h0 h [a0] ∧ Exa Z h a0 "java/lang/String" ∧ Fld Z h a0 "java/lang/String" "coder" "B" (.int (0 : Int32)) ∧ Fld Z h a0 "java/lang/String" "value" "[B" (.ref t) ∧ Arv Z h t kb .byte (0 : Int32) [] (.int (0 : Int32))
set_option maxRecDepth 65536 in
set_option maxHeartbeats 40000000 in
theorem i4_0 (l : Launch) (Z : State) (aw : Array Value) (hw : ∀ d ∈ tables_1, d.before aw Z = true) (ws : List Jvm.Cond) (a0 : Addr) (a1 : Addr) (kc : ClassId) (h0 : Heap) (n0 : Nat) (Z0 : n0 ≤ h0.size) (E_a0 : Exa Z h0 a0 "java/lang/String") (F_a0_value : Fld Z h0 a0 "java/lang/String" "value" "[B" .null) (F_a0_coder : Fld Z h0 a0 "java/lang/String" "coder" "B" (.int (0 : Int32))) (g_a0 : n0 ≤ a0) (V_a1 : Arv Z h0 a1 kc .char (0 : Int32) [] (.int (0 : Int32))) (ne_a0_a1 : a0 ≠ a1) :
    MetFree l (⟨"java/lang/String", "<init>", "([CIILjava/lang/Void;)V"⟩ : MethodName) (head1 (Jvm.Cond.code (⟨"java/lang/String", "<init>", "([CIILjava/lang/Void;)V"⟩ : MethodName) jdk_42_method_149_code 6 none :: ws) ({ frames := 1, cells := 4, slots := 8, locals := 12 } : Room)) (fun a U => a = #[(.ref a0), (.ref a1), (.int (0 : Int32)), (.int (0 : Int32)), .null] ∧ Z.Warmed39 U.vm ∧ U.heap = h0 ∧ CHv Z consts_1 U.vm h0 ∧ ∀ x ∈ ([a0] : List Addr), Safe Z consts_1 U.vm h0 x) (fun _ _ _ _ _ => True) (fun _ U o U' => ∃ v L, o = .returned v ∧ Q_i4_0 Z a0 a1 kc h0 n0 v U'.heap L ∧ CHr Z consts_1 U.vm U.heap U'.vm U'.heap ∧ ReturnedEndW U o U' L ({ frames := 1, cells := 4, slots := 8, locals := 12 } : Room).cells ({ frames := 1, cells := 4, slots := 8, locals := 12 } : Room).slots) := by
  refine MetFree.of_bodySF (plainFor_of_name pn_1) hisR ?_
  intro p e s m args below meth c s₁ Bd hml0 hP hK
  obtain ⟨rfl, hZ, hh, CH0, hSF⟩ := hP
  have hx := Bd.exec
  have hby := Bd.bytes
  have hml : c.maxLocals = 6 := hml0
  have hown : s.vm.findClass "java/lang/String" = some m.cls := findClass_of_methodNamed Bd.named
  have hnm := (name_of_methodNamed Bd.named Bd.method).1
  have X0 : Stand p l e ({ frames := 1, cells := 4, slots := 8, locals := 12 } : Room) s m #[(.ref a0), (.ref a1), (.int (0 : Int32)), (.int (0 : Int32)), .null] below meth c s₁ [] 0 0 := Stand.of_body Bd
  have e0 : s₁.heap = h0 := by rw [← hh, Bd.state]; rfl
  have N0 := Fr.nil n0
  have pre0 : ∀ t, Steps p.tables e below (s₁.setTop (mkF m 0 #[.val (.ref a0), .val (.ref a1), .val (.int (0 : Int32)), .val (.int (0 : Int32)), .val .null, .unset] [])) t → Steps p.tables e below (s₁.setTop (entryFrame m #[(.ref a0), (.ref a1), (.int (0 : Int32)), (.int (0 : Int32)), .null] 6)) t := fun t k => castTop (ef_i4_0 m a0 a1) k
  have KC0 : Keep h0 h0 [a0] := Keep.refl h0 [a0]
  have hS0 : s.Since s.vm h0.size := (State.WarmedH.refl s).since _
  have hk0 : h0.size ≤ h0.size := Nat.le_refl _
  have CR0 : CHr Z consts_1 s.vm h0 s.vm h0 := CHr.refl CH0
  have sf_a0 : Safe Z consts_1 s.vm h0 a0 := hSF _ (List.mem_of_getElem? (i := 0) rfl)
  obtain ⟨T472, X472, e472, st472⟩ := initO X0 hx hZ hown (hw _ (List.mem_of_getElem? (i := 15) rfl)) (hw _ (List.mem_of_getElem? (i := 16) rfl)) (hw _ (List.mem_of_getElem? (i := 17) rfl)) e0 (g := (mkF m 1 #[.val (.ref a0), .val (.ref a1), .val (.int (0 : Int32)), .val (.int (0 : Int32)), .val .null, .unset] [(.ref a0)])) rfl (by rw [hml]; rfl) rfl (hb hby d3_1) (by decide) (W := 0) (by show 2 * 0 + _ ≤ _; exact Nat.le_of_eq rfl) (by decide)
  obtain ⟨a473, T473, h473, k473, b473, kb473, X473, e473, E473, hS473, hk473, hZ473, hown473, fE473, fC473, fV473, fA473, -, -, R473, Li473, Df473, st473⟩ := ldcCH (vm0 := s.vm) X472 hx hZ hown (hw _ (List.mem_of_getElem? (i := 18) rfl)) (own_wS hw) e472 hS0 hk0 (own_EW hw) (List.mem_of_getElem? (i := 5) rfl) CH0 (vs := []) (z := (0 : Int32)) ⟨by decide, by decide⟩ (by decide) (by decide) (g := (mkF m 9 #[.val (.ref a0), .val (.ref a1), .val (.int (0 : Int32)), .val (.int (0 : Int32)), .val .null, .unset] [(.ref a0)])) rfl (hb hby d3_9) (n := 0) (by decide) (by decide) (by decide) (by decide)
  have sf474 := CHr.safe R473 E_a0.lt sf_a0
  have CR475 := CHr.trans CR0 R473
  have CH476 := R473.1
  have f477 := E_a0.ext E473
  have f478 := F_a0_value.ext E473
  have f479 := F_a0_coder.ext E473
  have f480 := V_a1.ext E473
  have Z481 : n0 ≤ h473.size := Nat.le_trans Z0 E473.1
  have K482 : Keep h0 h473 [a0] := Keep.ext KC0 E473
  have ne483 := (Df473 _ sf474).1
  have ne484 := (Df473 _ sf474).2
  obtain ⟨T485, X485, e485, st485⟩ := getF X473 hx hZ473 hown473 (host := "") (Or.inl (hw _ (List.mem_of_getElem? (i := 24) rfl))) Via.refl e473 fV473 (g := (mkF m 11 #[.val (.ref a0), .val (.ref a1), .val (.int (0 : Int32)), .val (.int (0 : Int32)), .val .null, .unset] [(.ref a473), (.ref a0)])) rfl rfl (hb hby d3_11)
  obtain ⟨T486, h486, X486, e486, W486, st486⟩ := putF X485 hx hZ473 hown473 (host := "") (Or.inl (hw _ (List.mem_of_getElem? (i := 24) rfl))) Via.refl e485 f478 f477 (Or.inr ⟨(hw _ (List.mem_of_getElem? (i := 20) rfl)), rfl, hnm⟩) (hw _ (List.mem_of_getElem? (i := 5) rfl)) (ty := (.array .byte)) (by decide) rfl rfl (g := (mkF m 14 #[.val (.ref a0), .val (.ref a1), .val (.int (0 : Int32)), .val (.int (0 : Int32)), .val .null, .unset] [(.ref b473), (.ref a0)])) rfl rfl (hb hby d3_14)
  have f487 := f477.wr W486
  have f488 := f479.other W486 (Or.inr (slot_ne (Or.inr (hw _ (List.mem_of_getElem? (i := 21) rfl))) (Or.inr (hw _ (List.mem_of_getElem? (i := 20) rfl))) (by decide) (t := .byte) (t' := (.array .byte)) (by decide) (by decide)))
  have f489 := f480.other W486 (Ne.symm ne_a0_a1)
  have f490 := fE473.wr W486
  have f491 := fC473.other W486 (Or.inl (Ne.symm ne483))
  have f492 := fV473.other W486 (Or.inl (Ne.symm ne483))
  have f493 := fA473.other W486 (Ne.symm ne484)
  have Z494 : n0 ≤ h486.size := Nat.le_trans Z481 (Keep.of_wr W486).1
  have hk495 := Nat.le_trans hk473 (Keep.of_wr W486).1
  have K496 : Keep h0 h486 [a0] := Keep.wr K482 W486 (Or.inl (List.mem_of_getElem? (i := 0) rfl))
  have N497 := Fr.snoc X486 N0 g_a0
  have sf498 := Safe.wr W486 sf474 CH476 sf474
  have R499 := CHr.wr W486 sf474 CH476
  have CR500 := CHr.trans CR475 R499
  have CH501 := R499.1
  have f502 : Fld Z h486 a0 "java/lang/String" "value" "[B" (.ref b473) := f478.same W486
  obtain ⟨a503, T503, h503, k503, b503, kb503, X503, e503, E503, hS503, hk503, hZ503, hown503, fE503, fC503, fV503, fA503, -, -, R503, Li503, Df503, st503⟩ := ldcCH (vm0 := T473.vm) X486 hx hZ473 hown473 (hw _ (List.mem_of_getElem? (i := 18) rfl)) (own_wS hw) e486 hS473 hk495 (own_EW hw) (List.mem_of_getElem? (i := 5) rfl) CH501 (vs := []) (z := (0 : Int32)) ⟨by decide, by decide⟩ (by decide) (by decide) (g := (mkF m 18 #[.val (.ref a0), .val (.ref a1), .val (.int (0 : Int32)), .val (.int (0 : Int32)), .val .null, .unset] [(.ref a0)])) rfl (hb hby d3_18) (n := 0) (by decide) (by decide) (by decide) (by decide)
  have sf504 := CHr.safe R503 f487.lt sf498
  have CR505 := CHr.trans CR500 R503
  have CH506 := R503.1
  have f507 := f487.ext E503
  have f508 := f488.ext E503
  have f509 := f489.ext E503
  have f510 := f490.ext E503
  have f511 := f491.ext E503
  have f512 := f492.ext E503
  have f513 := f493.ext E503
  have f514 := f502.ext E503
  have Z515 : n0 ≤ h503.size := Nat.le_trans Z494 E503.1
  have K516 : Keep h0 h503 [a0] := Keep.ext K496 E503
  have ne517 := (Df503 _ sf504).1
  have ne518 := (Df503 _ sf504).2
  obtain ⟨T519, X519, e519, st519⟩ := getF X503 hx hZ503 hown503 (host := "") (Or.inl (hw _ (List.mem_of_getElem? (i := 25) rfl))) Via.refl e503 fC503 (g := (mkF m 20 #[.val (.ref a0), .val (.ref a1), .val (.int (0 : Int32)), .val (.int (0 : Int32)), .val .null, .unset] [(.ref a503), (.ref a0)])) rfl rfl (hb hby d3_20)
  obtain ⟨T520, h520, X520, e520, W520, st520⟩ := putFN X519 hx hZ503 hown503 (hw _ (List.mem_of_getElem? (i := 25) rfl)) Via.refl e519 f508 f507 (Or.inr ⟨(hw _ (List.mem_of_getElem? (i := 21) rfl)), rfl, hnm⟩) (hw _ (List.mem_of_getElem? (i := 5) rfl)) (ty := .byte) (v' := (.int (nar .byte (0 : Int32)))) (by decide) rfl (fits_nar_byte _) (g := (mkF m 23 #[.val (.ref a0), .val (.ref a1), .val (.int (0 : Int32)), .val (.int (0 : Int32)), .val .null, .unset] [(.int (0 : Int32)), (.ref a0)])) rfl rfl (hb hby d3_23)
  have f521 := f507.wr W520
  have f522 := f509.other W520 (Ne.symm ne_a0_a1)
  have f523 := f510.wr W520
  have f524 := f511.other W520 (Or.inl (Ne.symm ne483))
  have f525 := f512.other W520 (Or.inl (Ne.symm ne483))
  have f526 := f513.other W520 (Ne.symm ne484)
  have f527 := f514.other W520 (Or.inr (slot_ne (Or.inr (hw _ (List.mem_of_getElem? (i := 20) rfl))) (Or.inr (hw _ (List.mem_of_getElem? (i := 21) rfl))) (by decide) (t := (.array .byte)) (t' := .byte) (by decide) (by decide)))
  have f528 := fE503.wr W520
  have f529 := fC503.other W520 (Or.inl (Ne.symm ne517))
  have f530 := fV503.other W520 (Or.inl (Ne.symm ne517))
  have f531 := fA503.other W520 (Ne.symm ne518)
  have Z532 : n0 ≤ h520.size := Nat.le_trans Z515 (Keep.of_wr W520).1
  have hk533 := Nat.le_trans hk503 (Keep.of_wr W520).1
  have K534 : Keep h0 h520 [a0] := Keep.wr K516 W520 (Or.inl (List.mem_of_getElem? (i := 0) rfl))
  have N535 := Fr.snoc X520 N497 g_a0
  have sf536 := Safe.wr W520 sf504 CH506 sf504
  have R537 := CHr.wr W520 sf504 CH506
  have CR538 := CHr.trans CR505 R537
  have CH539 := R537.1
  have f540 : Fld Z h520 a0 "java/lang/String" "coder" "B" (.int (0 : Int32)) := f508.same W520
  obtain ⟨fs, hr, hrun, hended, hEW⟩ := Stand.leaveW X520 hS503 (by rw [e520]; exact hk533) (v := none) (fun _ => rfl)
  refine ⟨_, _, pre0 _ ?_, hrun, hended, _, _, rfl, ?_, ?_, hEW.1, hEW.2.1, hEW.2.2.1, hEW.2.2.2.mono (by decide) (by decide)⟩
  ·
    show Steps p.tables e below (s₁.setTop (mkF m 0 #[.val (.ref a0), .val (.ref a1), .val (.int (0 : Int32)), .val (.int (0 : Int32)), .val .null, .unset] [])) _
    refine XS.aloadN X0.here hx rfl (hb hby d3_0) rfl rfl ?_
    show Steps p.tables e below (s₁.setTop (mkF m 1 #[.val (.ref a0), .val (.ref a1), .val (.int (0 : Int32)), .val (.int (0 : Int32)), .val .null, .unset] [(.ref a0)])) _
    refine st472 _ ?_
    show Steps p.tables e below (T472.setTop (mkF m 4 #[.val (.ref a0), .val (.ref a1), .val (.int (0 : Int32)), .val (.int (0 : Int32)), .val .null, .unset] [])) _
    refine XS.iloadN X472.here hx rfl (hb hby d3_4) rfl ?_
    show Steps p.tables e below (T472.setTop (mkF m 5 #[.val (.ref a0), .val (.ref a1), .val (.int (0 : Int32)), .val (.int (0 : Int32)), .val .null, .unset] [(.int (0 : Int32))])) _
    refine XS.ifNo X472.here hx rfl (hb hby d3_5) rfl ((if0 _ _).trans (teq rfl).2) ?_
    show Steps p.tables e below (T472.setTop (mkF m 8 #[.val (.ref a0), .val (.ref a1), .val (.int (0 : Int32)), .val (.int (0 : Int32)), .val .null, .unset] [])) _
    refine XS.aloadN X472.here hx rfl (hb hby d3_8) rfl rfl ?_
    show Steps p.tables e below (T472.setTop (mkF m 9 #[.val (.ref a0), .val (.ref a1), .val (.int (0 : Int32)), .val (.int (0 : Int32)), .val .null, .unset] [(.ref a0)])) _
    refine st473 _ ?_
    show Steps p.tables e below (T473.setTop (mkF m 11 #[.val (.ref a0), .val (.ref a1), .val (.int (0 : Int32)), .val (.int (0 : Int32)), .val .null, .unset] [(.ref a473), (.ref a0)])) _
    refine st485 _ ?_
    show Steps p.tables e below (T485.setTop (mkF m 14 #[.val (.ref a0), .val (.ref a1), .val (.int (0 : Int32)), .val (.int (0 : Int32)), .val .null, .unset] [(.ref b473), (.ref a0)])) _
    refine st486 _ ?_
    show Steps p.tables e below (T486.setTop (mkF m 17 #[.val (.ref a0), .val (.ref a1), .val (.int (0 : Int32)), .val (.int (0 : Int32)), .val .null, .unset] [])) _
    refine XS.aloadN X486.here hx rfl (hb hby d3_17) rfl rfl ?_
    show Steps p.tables e below (T486.setTop (mkF m 18 #[.val (.ref a0), .val (.ref a1), .val (.int (0 : Int32)), .val (.int (0 : Int32)), .val .null, .unset] [(.ref a0)])) _
    refine st503 _ ?_
    show Steps p.tables e below (T503.setTop (mkF m 20 #[.val (.ref a0), .val (.ref a1), .val (.int (0 : Int32)), .val (.int (0 : Int32)), .val .null, .unset] [(.ref a503), (.ref a0)])) _
    refine st519 _ ?_
    show Steps p.tables e below (T519.setTop (mkF m 23 #[.val (.ref a0), .val (.ref a1), .val (.int (0 : Int32)), .val (.int (0 : Int32)), .val .null, .unset] [(.int (0 : Int32)), (.ref a0)])) _
    refine st520 _ ?_
    show Steps p.tables e below (T520.setTop (mkF m 26 #[.val (.ref a0), .val (.ref a1), .val (.int (0 : Int32)), .val (.int (0 : Int32)), .val .null, .unset] [])) _
    exact X520.returnOut hx Bd.returns (hb hby d3_26) hr
  ·
    show Q_i4_0 Z a0 a1 kc h0 n0 _ T520.heap _
    rw [e520]
    exact ⟨b473, kb473, rfl, N535, K534, f521, f540, f527, f526⟩
  ·
    rw [hh]
    show CHr Z consts_1 s.vm h0 T520.vm T520.heap
    rw [e520]
    exact CHr.trans CR538 (CHv.at (vm0 := T503.vm) X520 hZ503 (own_EW hw) CH539)
theorem ef_i1_0 (m : MethodId) (a0 : Addr) (a1 : Addr) : entryFrame m #[(.ref a0), (.ref a1)] 2 = mkF m 0 #[.val (.ref a0), .val (.ref a1)] [] := by first | (simp [entryFrame, mkF, argsToLocals, Value.category]; done) | rfl
def Q_i1_0 (Z : State) (a0 : Addr) (a1 : Addr) (kc : ClassId) (h0 : Heap) (n0 : Nat) (v : Option Value) (h : Heap) (L : List Loc) : Prop := ∃ t : Addr, ∃ kb : ClassId, v = none ∧ Fr n0 L ∧ Keep h0 h [a0] ∧ Exa Z h a0 "java/lang/String" ∧ Fld Z h a0 "java/lang/String" "coder" "B" (.int (0 : Int32)) ∧ Fld Z h a0 "java/lang/String" "value" "[B" (.ref t) ∧ Arv Z h t kb .byte (0 : Int32) [] (.int (0 : Int32))
set_option maxRecDepth 65536 in
set_option maxHeartbeats 40000000 in
theorem i1_0 (l : Launch) (Z : State) (aw : Array Value) (hw : ∀ d ∈ tables_1, d.before aw Z = true) (ws : List Jvm.Cond) (a0 : Addr) (a1 : Addr) (kc : ClassId) (h0 : Heap) (n0 : Nat) (Z0 : n0 ≤ h0.size) (E_a0 : Exa Z h0 a0 "java/lang/String") (F_a0_value : Fld Z h0 a0 "java/lang/String" "value" "[B" .null) (F_a0_coder : Fld Z h0 a0 "java/lang/String" "coder" "B" (.int (0 : Int32))) (g_a0 : n0 ≤ a0) (V_a1 : Arv Z h0 a1 kc .char (0 : Int32) [] (.int (0 : Int32))) (ne_a0_a1 : a0 ≠ a1) :
    MetFree l (⟨"java/lang/String", "<init>", "([C)V"⟩ : MethodName) (head1 (Jvm.Cond.code (⟨"java/lang/String", "<init>", "([C)V"⟩ : MethodName) jdk_42_method_3_code 2 none :: ws) ({ frames := 2, cells := 4, slots := 8, locals := 29 } : Room)) (fun a U => a = #[(.ref a0), (.ref a1)] ∧ Z.Warmed39 U.vm ∧ U.heap = h0 ∧ CHv Z consts_1 U.vm h0 ∧ ∀ x ∈ ([a0] : List Addr), Safe Z consts_1 U.vm h0 x) (fun _ _ _ _ _ => True) (fun _ U o U' => ∃ v L, o = .returned v ∧ Q_i1_0 Z a0 a1 kc h0 n0 v U'.heap L ∧ CHr Z consts_1 U.vm U.heap U'.vm U'.heap ∧ ReturnedEndW U o U' L ({ frames := 2, cells := 4, slots := 8, locals := 29 } : Room).cells ({ frames := 2, cells := 4, slots := 8, locals := 29 } : Room).slots) := by
  refine MetFree.of_bodySF (plainFor_of_name pn_1) hisR ?_
  intro p e s m args below meth c s₁ Bd hml0 hP hK
  obtain ⟨rfl, hZ, hh, CH0, hSF⟩ := hP
  have hx := Bd.exec
  have hby := Bd.bytes
  have hml : c.maxLocals = 2 := hml0
  have hown : s.vm.findClass "java/lang/String" = some m.cls := findClass_of_methodNamed Bd.named
  have hnm := (name_of_methodNamed Bd.named Bd.method).1
  have X0 : Stand p l e ({ frames := 2, cells := 4, slots := 8, locals := 29 } : Room) s m #[(.ref a0), (.ref a1)] below meth c s₁ [] 0 0 := Stand.of_body Bd
  have e0 : s₁.heap = h0 := by rw [← hh, Bd.state]; rfl
  have N0 := Fr.nil n0
  have pre0 : ∀ t, Steps p.tables e below (s₁.setTop (mkF m 0 #[.val (.ref a0), .val (.ref a1)] [])) t → Steps p.tables e below (s₁.setTop (entryFrame m #[(.ref a0), (.ref a1)] 2)) t := fun t k => castTop (ef_i1_0 m a0 a1) k
  have KC0 : Keep h0 h0 [a0] := Keep.refl h0 [a0]
  have hS0 : s.Since s.vm h0.size := (State.WarmedH.refl s).since _
  have hk0 : h0.size ≤ h0.size := Nat.le_refl _
  have CR0 : CHr Z consts_1 s.vm h0 s.vm h0 := CHr.refl CH0
  have sf_a0 : Safe Z consts_1 s.vm h0 a0 := hSF _ (List.mem_of_getElem? (i := 0) rfl)
  obtain ⟨cl541, Ar541, q541, S541, N541, H541, G541⟩ := id V_a1
  obtain ⟨_, _, ⟨T542, L542, k542, n542⟩, -, Xq542, hSq542, gq542, ⟨Lc542, hQ542, l542, y542, z542, Rq542⟩, st542⟩ := X0.specialBackS hx (y := (⟨"java/lang/String", "<init>", "([CIILjava/lang/Void;)V"⟩ : MethodName)) rfl hown (mvT hZ (hw _ (List.mem_of_getElem? (i := 11) rfl))) (mvT hZ (hw _ (List.mem_of_getElem? (i := 12) rfl))) (mvT hZ (hw _ (List.mem_of_getElem? (i := 14) rfl))) (by decide) (backOfCH (W := 0) (vm0 := s.vm) (i4_0 l Z aw hw [] a0 a1 kc h0 n0 Z0 E_a0 F_a0_value F_a0_coder g_a0 V_a1 ne_a0_a1) hZ (hw _ (List.mem_of_getElem? (i := 14) rfl)) (hw _ (List.mem_of_getElem? (i := 6) rfl)) (by decide) (by decide) (own_EW hw) CH0 (allS ⟨sf_a0, E_a0.lt⟩ all0)) (g := (mkF m 6 #[.val (.ref a0), .val (.ref a1)] [.null, (.int (0 : Int32)), (.int (0 : Int32)), (.ref a1), (.ref a0)])) rfl (by rw [hml]; rfl) (Steps.refl _) (a := a0) (argsL := [(.ref a1), (.int (0 : Int32)), (.int (0 : Int32)), .null]) (rest := []) (lenOf pd_3 rfl) rfl (by show 2 * 0 + _ ≤ _; exact Nat.le_of_eq rfl) (hb hby d2_6) (fun _ _ => ⟨rfl, e0, (by decide : 0 + 4 ≤ _), (by decide : 0 + 8 ≤ _)⟩)
  dsimp only [Pt.U, Pt.locs, Pt.cells, Pt.slots] at Xq542 hSq542 gq542 l542 y542 z542 st542 hQ542 Rq542
  replace l542 := l542.symm; replace y542 := y542.symm; replace z542 := z542.symm; subst l542 y542 z542
  obtain ⟨X542, hS542, hZ542, hown542⟩ := rebS (vm0 := s.vm) hS0 (by rw [e0]; exact hk0 : _ ≤ s₁.heap.size) Xq542 hSq542 gq542 hZ hown
  have hk542 : T542.heap.size ≤ T542.heap.size := Nat.le_refl _
  have sf543 := CHr.safe Rq542 E_a0.lt sf_a0
  have CR544 := CHr.trans CR0 Rq542
  have CH545 := Rq542.1
  obtain ⟨t542, kb542, rfl, N542q, K542, f546, f547, f548, f549⟩ := hQ542
  have N542 := Fr.app N0 N542q
  have f550 := V_a1.keep K542 (ninS (Ne.symm ne_a0_a1) nin0)
  have Z551 : n0 ≤ T542.heap.size := Nat.le_trans Z0 K542.1
  have K552 : Keep h0 T542.heap [a0] := Keep.trans KC0 K542 (allS (Or.inl (List.mem_of_getElem? (i := 0) rfl)) all0)
  obtain ⟨fs, hr, hrun, hended, hEW⟩ := Stand.leaveW X542 hS542 hk542 (v := none) (fun _ => rfl)
  refine ⟨_, _, pre0 _ ?_, hrun, hended, _, _, rfl, ?_, ?_, hEW.1, hEW.2.1, hEW.2.2.1, hEW.2.2.2.mono (by decide) (by decide)⟩
  ·
    show Steps p.tables e below (s₁.setTop (mkF m 0 #[.val (.ref a0), .val (.ref a1)] [])) _
    refine XS.aloadN X0.here hx rfl (hb hby d2_0) rfl rfl ?_
    show Steps p.tables e below (s₁.setTop (mkF m 1 #[.val (.ref a0), .val (.ref a1)] [(.ref a0)])) _
    refine XS.aloadN X0.here hx rfl (hb hby d2_1) rfl rfl ?_
    show Steps p.tables e below (s₁.setTop (mkF m 2 #[.val (.ref a0), .val (.ref a1)] [(.ref a1), (.ref a0)])) _
    refine XS.iconst X0.here hx rfl (hb hby d2_2) ?_
    show Steps p.tables e below (s₁.setTop (mkF m 3 #[.val (.ref a0), .val (.ref a1)] [(.int (0 : Int32)), (.ref a1), (.ref a0)])) _
    refine XS.aloadN X0.here hx rfl (hb hby d2_3) rfl rfl ?_
    show Steps p.tables e below (s₁.setTop (mkF m 4 #[.val (.ref a0), .val (.ref a1)] [(.ref a1), (.int (0 : Int32)), (.ref a1), (.ref a0)])) _
    refine X0.arraylength hx (by rw [e0]; exact Ar541.1) (State.isArrayOf_alike hZ.alike Ar541.2.1) (g := (mkF m 4 #[.val (.ref a0), .val (.ref a1)] [(.ref a1), (.int (0 : Int32)), (.ref a1), (.ref a0)])) rfl rfl (hb hby d2_4) _ ?_
    rw [len_of S541 N541]
    show Steps p.tables e below (s₁.setTop (mkF m 5 #[.val (.ref a0), .val (.ref a1)] [(.int (0 : Int32)), (.int (0 : Int32)), (.ref a1), (.ref a0)])) _
    refine XS.aconstNull X0.here hx rfl (hb hby d2_5) ?_
    show Steps p.tables e below (s₁.setTop (mkF m 6 #[.val (.ref a0), .val (.ref a1)] [.null, (.int (0 : Int32)), (.int (0 : Int32)), (.ref a1), (.ref a0)])) _
    refine st542.trans ?_
    show Steps p.tables e below (T542.setTop (mkF m 9 #[.val (.ref a0), .val (.ref a1)] [])) _
    exact X542.returnOut hx Bd.returns (hb hby d2_9) hr
  ·
    show Q_i1_0 Z a0 a1 kc h0 n0 _ T542.heap _
    exact ⟨t542, kb542, rfl, N542, K552, f546, f547, f548, f549⟩
  ·
    rw [hh]
    show CHr Z consts_1 s.vm h0 T542.vm T542.heap
    exact CHr.trans CR544 (CHv.at (vm0 := T542.vm) X542 hZ542 (own_EW hw) CH545)
theorem d1_4 : decode method_3_code 4 = .ok (.new 20, 3) := by decide +kernel
theorem d1_7 : decode method_3_code 7 = .ok (.dup, 1) := by decide +kernel
theorem d1_8 : decode method_3_code 8 = .ok (.iconst 0, 1) := by decide +kernel
theorem d1_9 : decode method_3_code 9 = .ok (.newarray .char, 2) := by decide +kernel
theorem d1_11 : decode method_3_code 11 = .ok (.invokespecial 37, 3) := by decide +kernel
theorem d1_14 : decode method_3_code 14 = .ok (.areturn, 1) := by decide +kernel
theorem ef_mk_0 (m : MethodId) (p1 : Int32) (p2 : Int32) (p3 : Int32) : entryFrame m #[(.int (0 : Int32)), (.int p1), (.int p2), (.int p3)] 4 = mkF m 0 #[.val (.int (0 : Int32)), .val (.int p1), .val (.int p2), .val (.int p3)] [] := by first | (simp [entryFrame, mkF, argsToLocals, Value.category]; done) | rfl
def Q_mk_0 (Z : State) (p1 : Int32) (p2 : Int32) (p3 : Int32) (h0 : Heap) (n0 : Nat) (v : Option Value) (h : Heap) (L : List Loc) : Prop := ∃ b : Addr, ∃ t : Addr, ∃ kb : ClassId, v = some (.ref b) ∧ Fr n0 L ∧ Keep h0 h [] ∧ h0.size ≤ b ∧ Exa Z h b "java/lang/String" ∧ Fld Z h b "java/lang/String" "coder" "B" (.int (0 : Int32)) ∧ Fld Z h b "java/lang/String" "value" "[B" (.ref t) ∧ Arv Z h t kb .byte (0 : Int32) [] (.int (0 : Int32))
set_option maxRecDepth 65536 in
set_option maxHeartbeats 40000000 in
theorem mk_0 (l : Launch) (Z : State) (aw : Array Value) (hw : ∀ d ∈ tables_1, d.before aw Z = true) (ws : List Jvm.Cond) (p1 : Int32) (p2 : Int32) (p3 : Int32) (h0 : Heap) (n0 : Nat) (Z0 : n0 ≤ h0.size) :
    MetFree l (⟨"com/example/reliquary/reliquary/DatastreamDefaultMimeTypePinLaw", "make", "(ICCC)Ljava/lang/String;"⟩ : MethodName) (head1 (Jvm.Cond.code (⟨"com/example/reliquary/reliquary/DatastreamDefaultMimeTypePinLaw", "make", "(ICCC)Ljava/lang/String;"⟩ : MethodName) method_3_code 4 (some (.object "java/lang/String")) :: ws) ({ frames := 3, cells := 6, slots := 12, locals := 43 } : Room)) (fun a U => a = #[(.int (0 : Int32)), (.int p1), (.int p2), (.int p3)] ∧ Z.Warmed39 U.vm ∧ U.heap = h0 ∧ CHv Z consts_1 U.vm h0 ∧ ∀ x ∈ ([] : List Addr), Safe Z consts_1 U.vm h0 x) (fun _ _ _ _ _ => True) (fun _ U o U' => ∃ v L, o = .returned v ∧ Q_mk_0 Z p1 p2 p3 h0 n0 v U'.heap L ∧ CHr Z consts_1 U.vm U.heap U'.vm U'.heap ∧ ReturnedEndW U o U' L ({ frames := 3, cells := 6, slots := 12, locals := 43 } : Room).cells ({ frames := 3, cells := 6, slots := 12, locals := 43 } : Room).slots) := by
  refine MetFree.of_bodySF (plainFor_of_name pn_2) hisR ?_
  intro p e s m args below meth c s₁ Bd hml0 hP hK
  obtain ⟨rfl, hZ, hh, CH0, hSF⟩ := hP
  have hx := Bd.exec
  have hby := Bd.bytes
  have hml : c.maxLocals = 4 := hml0
  have hown : s.vm.findClass "com/example/reliquary/reliquary/DatastreamDefaultMimeTypePinLaw" = some m.cls := findClass_of_methodNamed Bd.named
  have hnm := (name_of_methodNamed Bd.named Bd.method).1
  have X0 : Stand p l e ({ frames := 3, cells := 6, slots := 12, locals := 43 } : Room) s m #[(.int (0 : Int32)), (.int p1), (.int p2), (.int p3)] below meth c s₁ [] 0 0 := Stand.of_body Bd
  have e0 : s₁.heap = h0 := by rw [← hh, Bd.state]; rfl
  have N0 := Fr.nil n0
  have pre0 : ∀ t, Steps p.tables e below (s₁.setTop (mkF m 0 #[.val (.int (0 : Int32)), .val (.int p1), .val (.int p2), .val (.int p3)] [])) t → Steps p.tables e below (s₁.setTop (entryFrame m #[(.int (0 : Int32)), (.int p1), (.int p2), (.int p3)] 4)) t := fun t k => castTop (ef_mk_0 m p1 p2 p3) k
  have KC0 : Keep h0 h0 [] := Keep.refl h0 []
  have hS0 : s.Since s.vm h0.size := (State.WarmedH.refl s).since _
  have hk0 : h0.size ≤ h0.size := Nat.le_refl _
  have CR0 : CHr Z consts_1 s.vm h0 s.vm h0 := CHr.refl CH0
  obtain ⟨T553, h553, X553, e553, E553, A553, D553, -, st553⟩ := newO X0 hx hZ hown (hw _ (List.mem_of_getElem? (i := 4) rfl)) (hw _ (List.mem_of_getElem? (i := 5) rfl)) (hw _ (List.mem_of_getElem? (i := 6) rfl)) e0 (g := (mkF m 4 #[.val (.int (0 : Int32)), .val (.int p1), .val (.int p2), .val (.int p3)] [])) rfl (hb hby d1_4) (by decide) (by decide)
  obtain ⟨b553, g553⟩ : ∃ z_, z_ = h0.size := ⟨_, rfl⟩
  rw [← g553] at A553 D553 st553
  have gn554 : n0 ≤ b553 := Nat.le_trans Z0 (Nat.le_of_eq g553.symm)
  have sz555 : h0.size ≤ b553 := Nat.le_trans KC0.1 (Nat.le_of_eq g553.symm)
  have sf556 : Safe Z consts_1 s.vm h0 b553 := Safe.new (Nat.le_of_eq g553.symm)
  have Z557 : n0 ≤ h553.size := Nat.le_trans Z0 E553.1
  have hk558 := Nat.le_trans hk0 E553.1
  have K559 : Keep h0 h553 [] := Keep.ext KC0 E553
  have sf560 := Safe.ext E553 CH0 sf556
  have R561 := CHr.ext E553 CH0
  have CR562 := CHr.trans CR0 R561
  have CH563 := R561.1
  have f564 : Fld Z h553 b553 "java/lang/String" "value" "[B" .null := D553 (Or.inr (hw _ (List.mem_of_getElem? (i := 20) rfl))) (ty := (.array .byte)) (by decide)
  have f565 : Fld Z h553 b553 "java/lang/String" "coder" "B" (.int (0 : Int32)) := D553 (Or.inr (hw _ (List.mem_of_getElem? (i := 21) rfl))) (ty := .byte) (by decide)
  obtain ⟨T566, h566, k566, X566, e566, E566, A566, kc566, st566⟩ := newPk X553 hx hZ (hw _ (List.mem_of_getElem? (i := 7) rfl)) e553 (g := (mkF m 9 #[.val (.int (0 : Int32)), .val (.int p1), .val (.int p2), .val (.int p3)] [(.int (0 : Int32)), (.ref b553), (.ref b553)])) rfl (hb hby d1_9) rfl (by decide) (cap := 0) (by decide) (by decide) (by decide) (by decide)
  obtain ⟨b566, g566⟩ : ∃ z_, z_ = h553.size := ⟨_, rfl⟩
  rw [← g566] at A566 st566
  have ne567 : b553 ≠ b566 := Nat.ne_of_lt (Nat.lt_of_lt_of_le A553.lt (Nat.le_of_eq g566.symm))
  have gn568 : n0 ≤ b566 := Nat.le_trans Z557 (Nat.le_of_eq g566.symm)
  have sz569 : h0.size ≤ b566 := Nat.le_trans K559.1 (Nat.le_of_eq g566.symm)
  have sf570 : Safe Z consts_1 s.vm h553 b566 := Safe.new (Nat.le_of_eq g566.symm)
  have f571 := A553.ext E566
  have f572 := f564.ext E566
  have f573 := f565.ext E566
  have Z574 : n0 ≤ h566.size := Nat.le_trans Z557 E566.1
  have hk575 := Nat.le_trans hk558 E566.1
  have K576 : Keep h0 h566 [] := Keep.ext K559 E566
  have sf577 := Safe.ext E566 CH563 sf560
  have sf578 := Safe.ext E566 CH563 sf570
  have R579 := CHr.ext E566 CH563
  have CR580 := CHr.trans CR562 R579
  have CH581 := R579.1
  have f582 : Arv Z h566 b566 k566 .char (0 : Int32) [] (.int (0 : Int32)) := Arv.new A566 (by decide)
  obtain ⟨_, _, ⟨T583, L583, k583, n583⟩, -, Xq583, hSq583, gq583, ⟨Lc583, hQ583, l583, y583, z583, Rq583⟩, st583⟩ := X566.specialBackS hx (y := (⟨"java/lang/String", "<init>", "([C)V"⟩ : MethodName)) rfl hown (mvT hZ (hw _ (List.mem_of_getElem? (i := 8) rfl))) (mvT hZ (hw _ (List.mem_of_getElem? (i := 9) rfl))) (mvT hZ (hw _ (List.mem_of_getElem? (i := 10) rfl))) (by decide) (backOfCH (W := 1) (vm0 := s.vm) (i1_0 l Z aw hw [] b553 b566 k566 h566 n0 Z574 f571 f572 f573 gn554 f582 ne567) hZ (hw _ (List.mem_of_getElem? (i := 10) rfl)) (hw _ (List.mem_of_getElem? (i := 6) rfl)) (by decide) (by decide) (own_EW hw) CH581 (allS ⟨sf577, f571.lt⟩ all0)) (g := (mkF m 11 #[.val (.int (0 : Int32)), .val (.int p1), .val (.int p2), .val (.int p3)] [(.ref b566), (.ref b553), (.ref b553)])) rfl (by rw [hml]; rfl) (Steps.refl _) (a := b553) (argsL := [(.ref b566)]) (rest := [(.ref b553)]) (lenOf pd_4 rfl) rfl (by show 2 * 0 + _ ≤ _; exact Nat.le_of_eq rfl) (hb hby d1_11) (fun _ _ => ⟨rfl, e566, (by decide : 2 + 4 ≤ _), (by decide : 4 + 8 ≤ _)⟩)
  dsimp only [Pt.U, Pt.locs, Pt.cells, Pt.slots] at Xq583 hSq583 gq583 l583 y583 z583 st583 hQ583 Rq583
  replace l583 := l583.symm; replace y583 := y583.symm; replace z583 := z583.symm; subst l583 y583 z583
  obtain ⟨X583, hS583, hZ583, hown583⟩ := rebS (vm0 := s.vm) hS0 (by rw [e566]; exact hk575 : _ ≤ T566.heap.size) Xq583 hSq583 gq583 hZ hown
  have hk583 : T583.heap.size ≤ T583.heap.size := Nat.le_refl _
  have sf584 := CHr.safe Rq583 f571.lt sf577
  have sf585 := CHr.safe Rq583 f582.lt sf578
  have CR586 := CHr.trans CR580 Rq583
  have CH587 := Rq583.1
  obtain ⟨t583, kb583, rfl, N583q, K583, f588, f589, f590, f591⟩ := hQ583
  have N583 := Fr.app N0 N583q
  have f592 := f582.keep K583 (ninS (Ne.symm ne567) nin0)
  have Z593 : n0 ≤ T583.heap.size := Nat.le_trans Z574 K583.1
  have K594 : Keep h0 T583.heap [] := Keep.trans K576 K583 (allS (Or.inr sz555) all0)
  obtain ⟨fs, hr, hrun, hended, hEW⟩ := Stand.leaveW X583 hS583 hk583 (v := some (.ref b553)) (fun h => by rw [Bd.returns] at h; cases h)
  refine ⟨_, _, pre0 _ ?_, hrun, hended, _, _, rfl, ?_, ?_, hEW.1, hEW.2.1, hEW.2.2.1, hEW.2.2.2.mono (by decide) (by decide)⟩
  ·
    show Steps p.tables e below (s₁.setTop (mkF m 0 #[.val (.int (0 : Int32)), .val (.int p1), .val (.int p2), .val (.int p3)] [])) _
    refine XS.iloadN X0.here hx rfl (hb hby d1_0) rfl ?_
    show Steps p.tables e below (s₁.setTop (mkF m 1 #[.val (.int (0 : Int32)), .val (.int p1), .val (.int p2), .val (.int p3)] [(.int (0 : Int32))])) _
    refine XS.ifNo X0.here hx rfl (hb hby d1_1) rfl ((if0 _ _).trans (teq rfl).2) ?_
    show Steps p.tables e below (s₁.setTop (mkF m 4 #[.val (.int (0 : Int32)), .val (.int p1), .val (.int p2), .val (.int p3)] [])) _
    refine st553 _ ?_
    show Steps p.tables e below (T553.setTop (mkF m 7 #[.val (.int (0 : Int32)), .val (.int p1), .val (.int p2), .val (.int p3)] [(.ref b553)])) _
    refine XS.dup X553.here hx rfl (hb hby d1_7) rfl rfl ?_
    show Steps p.tables e below (T553.setTop (mkF m 8 #[.val (.int (0 : Int32)), .val (.int p1), .val (.int p2), .val (.int p3)] [(.ref b553), (.ref b553)])) _
    refine XS.iconst X553.here hx rfl (hb hby d1_8) ?_
    show Steps p.tables e below (T553.setTop (mkF m 9 #[.val (.int (0 : Int32)), .val (.int p1), .val (.int p2), .val (.int p3)] [(.int (0 : Int32)), (.ref b553), (.ref b553)])) _
    refine st566 _ ?_
    show Steps p.tables e below (T566.setTop (mkF m 11 #[.val (.int (0 : Int32)), .val (.int p1), .val (.int p2), .val (.int p3)] [(.ref b566), (.ref b553), (.ref b553)])) _
    refine st583.trans ?_
    show Steps p.tables e below (T583.setTop (mkF m 14 #[.val (.int (0 : Int32)), .val (.int p1), .val (.int p2), .val (.int p3)] [(.ref b553)])) _
    exact retA X583 hx rfl rfl Bd.returns (hb hby d1_14) hr
  ·
    show Q_mk_0 Z p1 p2 p3 h0 n0 _ T583.heap _
    exact ⟨b553, t583, kb583, rfl, N583, K594, sz555, f588, f589, f590, f591⟩
  ·
    rw [hh]
    show CHr Z consts_1 s.vm h0 T583.vm T583.heap
    exact CHr.trans CR586 (CHv.at (vm0 := T583.vm) X583 hZ583 (own_EW hw) CH587)
theorem d7_0 : decode jdk_43_method_13_code 0 = .ok (.aload_n 0, 1) := by decide +kernel
theorem d7_1 : decode jdk_43_method_13_code 1 = .ok (.arraylength, 1) := by decide +kernel
theorem d7_2 : decode jdk_43_method_13_code 2 = .ok (.aload_n 1, 1) := by decide +kernel
theorem d7_3 : decode jdk_43_method_13_code 3 = .ok (.arraylength, 1) := by decide +kernel
theorem d7_4 : decode jdk_43_method_13_code 4 = .ok (.if_icmp .ne 30, 3) := by decide +kernel
theorem d7_34 : decode jdk_43_method_13_code 34 = .ok (.iconst 0, 1) := by decide +kernel
theorem d7_35 : decode jdk_43_method_13_code 35 = .ok (.ireturn, 1) := by decide +kernel
theorem pn_3 : plainName "java/lang/StringLatin1" = true := by first | (simp [plainName, overriddenIn]; done) | decide +kernel
theorem ef_le_n0 (m : MethodId) (a0 : Addr) (a1 : Addr) : entryFrame m #[(.ref a0), (.ref a1)] 3 = mkF m 0 #[.val (.ref a0), .val (.ref a1), .unset] [] := by first | (simp [entryFrame, mkF, argsToLocals, Value.category]; done) | rfl
def Q_le_n0 (Z : State) (a0 : Addr) (a1 : Addr) (k1 : ClassId) (k2 : ClassId) (h0 : Heap) (n0 : Nat) (v : Option Value) (h : Heap) (L : List Loc) : Prop := v = some (.int (0 : Int32)) ∧ Fr n0 L ∧ h = h0
set_option maxRecDepth 65536 in
set_option maxHeartbeats 40000000 in
theorem le_n0 (l : Launch) (Z : State) (aw : Array Value) (hw : ∀ d ∈ tables_1, d.before aw Z = true) (ws : List Jvm.Cond) (a0 : Addr) (a1 : Addr) (k1 : ClassId) (k2 : ClassId) (h0 : Heap) (n0 : Nat) (Z0 : n0 ≤ h0.size) (V_a0 : Arv Z h0 a0 k1 .byte (0 : Int32) [] (.int (0 : Int32))) (V_a1 : Arv Z h0 a1 k2 .byte (1 : Int32) [(.int (88 : Int32))] (.int (0 : Int32))) :
    MetFree l (⟨"java/lang/StringLatin1", "equals", "([B[B)Z"⟩ : MethodName) (head1 (Jvm.Cond.code (⟨"java/lang/StringLatin1", "equals", "([B[B)Z"⟩ : MethodName) jdk_43_method_13_code 3 (some .boolean) :: ws) ({ frames := 0, cells := 0, slots := 0, locals := 0 } : Room)) (fun a U => a = #[(.ref a0), (.ref a1)] ∧ Z.Warmed39 U.vm ∧ U.heap = h0) (fun _ _ _ _ _ => True) (fun _ U o U' => ∃ v L, o = .returned v ∧ Q_le_n0 Z a0 a1 k1 k2 h0 n0 v U'.heap L ∧ FrameEnd U o U' L ({ frames := 0, cells := 0, slots := 0, locals := 0 } : Room).cells ({ frames := 0, cells := 0, slots := 0, locals := 0 } : Room).slots) := by
  refine MetFree.of_bodySF (plainFor_of_name pn_3) hisR ?_
  intro p e s m args below meth c s₁ Bd hml0 hP hK
  obtain ⟨rfl, hZ, hh⟩ := hP
  have hx := Bd.exec
  have hby := Bd.bytes
  have hml : c.maxLocals = 3 := hml0
  have hown : s.vm.findClass "java/lang/StringLatin1" = some m.cls := findClass_of_methodNamed Bd.named
  have hnm := (name_of_methodNamed Bd.named Bd.method).1
  have X0 : Stand p l e ({ frames := 0, cells := 0, slots := 0, locals := 0 } : Room) s m #[(.ref a0), (.ref a1)] below meth c s₁ [] 0 0 := Stand.of_body Bd
  have e0 : s₁.heap = h0 := by rw [← hh, Bd.state]; rfl
  have N0 := Fr.nil n0
  have pre0 : ∀ t, Steps p.tables e below (s₁.setTop (mkF m 0 #[.val (.ref a0), .val (.ref a1), .unset] [])) t → Steps p.tables e below (s₁.setTop (entryFrame m #[(.ref a0), (.ref a1)] 3)) t := fun t k => castTop (ef_le_n0 m a0 a1) k
  obtain ⟨cl595, Ar595, q595, S595, N595, H595, G595⟩ := id V_a0
  obtain ⟨cl596, Ar596, q596, S596, N596, H596, G596⟩ := id V_a1
  obtain ⟨fs, hr, hrun, hended, hW, hsame⟩ := X0.leave (v := some (.int (0 : Int32))) (fun h => by rw [Bd.returns] at h; cases h)
  refine ⟨_, _, pre0 _ ?_, hrun, hended, _, _, rfl, ?_, ⟨_, rfl⟩, hW, hsame.mono (by decide) (by decide)⟩
  ·
    show Steps p.tables e below (s₁.setTop (mkF m 0 #[.val (.ref a0), .val (.ref a1), .unset] [])) _
    refine XS.aloadN X0.here hx rfl (hb hby d7_0) rfl rfl ?_
    show Steps p.tables e below (s₁.setTop (mkF m 1 #[.val (.ref a0), .val (.ref a1), .unset] [(.ref a0)])) _
    refine X0.arraylength hx (by rw [e0]; exact Ar595.1) (State.isArrayOf_alike hZ.alike Ar595.2.1) (g := (mkF m 1 #[.val (.ref a0), .val (.ref a1), .unset] [(.ref a0)])) rfl rfl (hb hby d7_1) _ ?_
    rw [len_of S595 N595]
    show Steps p.tables e below (s₁.setTop (mkF m 2 #[.val (.ref a0), .val (.ref a1), .unset] [(.int (0 : Int32))])) _
    refine XS.aloadN X0.here hx rfl (hb hby d7_2) rfl rfl ?_
    show Steps p.tables e below (s₁.setTop (mkF m 3 #[.val (.ref a0), .val (.ref a1), .unset] [(.ref a1), (.int (0 : Int32))])) _
    refine X0.arraylength hx (by rw [e0]; exact Ar596.1) (State.isArrayOf_alike hZ.alike Ar596.2.1) (g := (mkF m 3 #[.val (.ref a0), .val (.ref a1), .unset] [(.ref a1), (.int (0 : Int32))])) rfl rfl (hb hby d7_3) _ ?_
    rw [len_of S596 N596]
    show Steps p.tables e below (s₁.setTop (mkF m 4 #[.val (.ref a0), .val (.ref a1), .unset] [(.int (1 : Int32)), (.int (0 : Int32))])) _
    refine XS.icmpYes X0.here hx rfl (pc0 := 4) (pc' := 34) rfl (hb hby d7_4) rfl (feq (by decide)).2 (by decide) (by decide) ?_
    show Steps p.tables e below (s₁.setTop (mkF m 34 #[.val (.ref a0), .val (.ref a1), .unset] [])) _
    refine XS.iconst X0.here hx rfl (hb hby d7_34) ?_
    show Steps p.tables e below (s₁.setTop (mkF m 35 #[.val (.ref a0), .val (.ref a1), .unset] [(.int (0 : Int32))])) _
    exact retZ X0 hx Bd.returns (by decide) (hb hby d7_35) hr
  ·
    show Q_le_n0 Z a0 a1 k1 k2 h0 n0 _ s₁.heap _
    rw [e0]
    exact ⟨rfl, N0, rfl⟩
theorem d6_0 : decode jdk_42_method_66_code 0 = .ok (.aload_n 0, 1) := by decide +kernel
theorem d6_1 : decode jdk_42_method_66_code 1 = .ok (.aload_n 1, 1) := by decide +kernel
theorem d6_2 : decode jdk_42_method_66_code 2 = .ok (.if_acmp .ne 5, 3) := by decide +kernel
theorem d6_7 : decode jdk_42_method_66_code 7 = .ok (.aload_n 1, 1) := by decide +kernel
theorem d6_8 : decode jdk_42_method_66_code 8 = .ok (.instanceof 10, 3) := by decide +kernel
theorem d6_11 : decode jdk_42_method_66_code 11 = .ok (.ifCond .eq 43, 3) := by decide +kernel
theorem d6_14 : decode jdk_42_method_66_code 14 = .ok (.aload_n 1, 1) := by decide +kernel
theorem d6_15 : decode jdk_42_method_66_code 15 = .ok (.checkcast 10, 3) := by decide +kernel
theorem d6_18 : decode jdk_42_method_66_code 18 = .ok (.astore_n 2, 1) := by decide +kernel
theorem d6_19 : decode jdk_42_method_66_code 19 = .ok (.getstatic 38, 3) := by decide +kernel
theorem d6_22 : decode jdk_42_method_66_code 22 = .ok (.ifCond .eq 14, 3) := by decide +kernel
theorem d6_25 : decode jdk_42_method_66_code 25 = .ok (.aload_n 0, 1) := by decide +kernel
theorem d6_26 : decode jdk_42_method_66_code 26 = .ok (.getfield 15, 3) := by decide +kernel
theorem d6_29 : decode jdk_42_method_66_code 29 = .ok (.aload_n 2, 1) := by decide +kernel
theorem d6_30 : decode jdk_42_method_66_code 30 = .ok (.getfield 15, 3) := by decide +kernel
theorem d6_33 : decode jdk_42_method_66_code 33 = .ok (.if_icmp .ne 21, 3) := by decide +kernel
theorem d6_36 : decode jdk_42_method_66_code 36 = .ok (.aload_n 0, 1) := by decide +kernel
theorem d6_37 : decode jdk_42_method_66_code 37 = .ok (.getfield 9, 3) := by decide +kernel
theorem d6_40 : decode jdk_42_method_66_code 40 = .ok (.aload_n 2, 1) := by decide +kernel
theorem d6_41 : decode jdk_42_method_66_code 41 = .ok (.getfield 9, 3) := by decide +kernel
theorem pd_5 : parseMethodDescriptor "([B[B)Z" = some ⟨[(.array .byte), (.array .byte)], some .boolean⟩ := by decide +kernel
theorem d6_44 : decode jdk_42_method_66_code 44 = .ok (.invokestatic 541, 3) := by decide +kernel
theorem d6_47 : decode jdk_42_method_66_code 47 = .ok (.ifCond .eq 7, 3) := by decide +kernel
theorem d6_54 : decode jdk_42_method_66_code 54 = .ok (.iconst 0, 1) := by decide +kernel
theorem d6_55 : decode jdk_42_method_66_code 55 = .ok (.ireturn, 1) := by decide +kernel
theorem ef_eq_n0 (m : MethodId) (a0 : Addr) (a1 : Addr) : entryFrame m #[(.ref a0), (.ref a1)] 3 = mkF m 0 #[.val (.ref a0), .val (.ref a1), .unset] [] := by first | (simp [entryFrame, mkF, argsToLocals, Value.category]; done) | rfl
def Q_eq_n0 (Z : State) (a0 : Addr) (a1 : Addr) (t0 : Addr) (t1 : Addr) (k1 : ClassId) (k2 : ClassId) (zc : Int32) (h0 : Heap) (n0 : Nat) (v : Option Value) (h : Heap) (L : List Loc) : Prop := v = some (.int (0 : Int32)) ∧ Fr n0 L ∧ h = h0
set_option maxRecDepth 65536 in
set_option maxHeartbeats 40000000 in
theorem eq_n0 (l : Launch) (Z : State) (aw : Array Value) (hw : ∀ d ∈ tables_1, d.before aw Z = true) (ws : List Jvm.Cond) (a0 : Addr) (a1 : Addr) (t0 : Addr) (t1 : Addr) (k1 : ClassId) (k2 : ClassId) (zc : Int32) (h0 : Heap) (n0 : Nat) (Z0 : n0 ≤ h0.size) (E_a1 : Exa Z h0 a1 "java/lang/String") (F_a0_coder : Fld Z h0 a0 "java/lang/String" "coder" "B" (.int (0 : Int32))) (F_a0_value : Fld Z h0 a0 "java/lang/String" "value" "[B" (.ref t0)) (F_a1_coder : Fld Z h0 a1 "java/lang/String" "coder" "B" (.int (0 : Int32))) (F_a1_value : Fld Z h0 a1 "java/lang/String" "value" "[B" (.ref t1)) (V_t0 : Arv Z h0 t0 k1 .byte (0 : Int32) [] (.int (0 : Int32))) (V_t1 : Arv Z h0 t1 k2 .byte (1 : Int32) [(.int (88 : Int32))] (.int (0 : Int32))) (OLD : Old Z n0 h0) (O_COMPACT_STRINGS : Sta Z Z.heap "java/lang/String" "COMPACT_STRINGS" "Z" (.int zc)) (hzc : ¬ (zc = (0 : Int32))) (ne_a0_a1 : a0 ≠ a1) :
    MetFree l (⟨"java/lang/String", "equals", "(Ljava/lang/Object;)Z"⟩ : MethodName) (head1 (Jvm.Cond.code (⟨"java/lang/String", "equals", "(Ljava/lang/Object;)Z"⟩ : MethodName) jdk_42_method_66_code 3 (some .boolean) :: ws) ({ frames := 1, cells := 0, slots := 0, locals := 14 } : Room)) (fun a U => a = #[(.ref a0), (.ref a1)] ∧ Z.Warmed39 U.vm ∧ U.heap = h0) (fun _ _ _ _ _ => True) (fun _ U o U' => ∃ v L, o = .returned v ∧ Q_eq_n0 Z a0 a1 t0 t1 k1 k2 zc h0 n0 v U'.heap L ∧ FrameEnd U o U' L ({ frames := 1, cells := 0, slots := 0, locals := 14 } : Room).cells ({ frames := 1, cells := 0, slots := 0, locals := 14 } : Room).slots) := by
  refine MetFree.of_bodySF (plainFor_of_name pn_1) hisR ?_
  intro p e s m args below meth c s₁ Bd hml0 hP hK
  obtain ⟨rfl, hZ, hh⟩ := hP
  have hx := Bd.exec
  have hby := Bd.bytes
  have hml : c.maxLocals = 3 := hml0
  have hown : s.vm.findClass "java/lang/String" = some m.cls := findClass_of_methodNamed Bd.named
  have hnm := (name_of_methodNamed Bd.named Bd.method).1
  have X0 : Stand p l e ({ frames := 1, cells := 0, slots := 0, locals := 14 } : Room) s m #[(.ref a0), (.ref a1)] below meth c s₁ [] 0 0 := Stand.of_body Bd
  have e0 : s₁.heap = h0 := by rw [← hh, Bd.state]; rfl
  have N0 := Fr.nil n0
  have pre0 : ∀ t, Steps p.tables e below (s₁.setTop (mkF m 0 #[.val (.ref a0), .val (.ref a1), .unset] [])) t → Steps p.tables e below (s₁.setTop (entryFrame m #[(.ref a0), (.ref a1)] 3)) t := fun t k => castTop (ef_eq_n0 m a0 a1) k
  obtain ⟨T597, X597, e597, st597⟩ := instY X0 hx hZ hown (hw _ (List.mem_of_getElem? (i := 36) rfl)) e0 (Ins.self E_a1) (g := (mkF m 8 #[.val (.ref a0), .val (.ref a1), .unset] [(.ref a1)])) rfl rfl (hb hby d6_8)
  obtain ⟨T598, X598, e598, st598⟩ := castY X597 hx hZ hown (hw _ (List.mem_of_getElem? (i := 36) rfl)) e597 (Ins.self E_a1) (g := (mkF m 15 #[.val (.ref a0), .val (.ref a1), .unset] [(.ref a1)])) rfl rfl (hb hby d6_15)
  obtain ⟨T599, X599, e599, st599⟩ := getS2 X598 hx hZ hown (host := "") (Or.inl (hw _ (List.mem_of_getElem? (i := 37) rfl))) Via.refl e598 (Sta.ext OLD.2 O_COMPACT_STRINGS) (g := (mkF m 19 #[.val (.ref a0), .val (.ref a1), .val (.ref a1)] [])) rfl (hb hby d6_19)
  have c600 : ¬ (zc = (0 : Int32)) := by
    exact hzc
  obtain ⟨T601, X601, e601, st601⟩ := getF X599 hx hZ hown (host := "") (Or.inl (hw _ (List.mem_of_getElem? (i := 25) rfl))) Via.refl e599 F_a0_coder (g := (mkF m 26 #[.val (.ref a0), .val (.ref a1), .val (.ref a1)] [(.ref a0)])) rfl rfl (hb hby d6_26)
  obtain ⟨T602, X602, e602, st602⟩ := getF X601 hx hZ hown (host := "") (Or.inl (hw _ (List.mem_of_getElem? (i := 25) rfl))) Via.refl e601 F_a1_coder (g := (mkF m 30 #[.val (.ref a0), .val (.ref a1), .val (.ref a1)] [(.ref a1), (.int (0 : Int32))])) rfl rfl (hb hby d6_30)
  obtain ⟨T603, X603, e603, st603⟩ := getF X602 hx hZ hown (host := "") (Or.inl (hw _ (List.mem_of_getElem? (i := 24) rfl))) Via.refl e602 F_a0_value (g := (mkF m 37 #[.val (.ref a0), .val (.ref a1), .val (.ref a1)] [(.ref a0)])) rfl rfl (hb hby d6_37)
  obtain ⟨T604, X604, e604, st604⟩ := getF X603 hx hZ hown (host := "") (Or.inl (hw _ (List.mem_of_getElem? (i := 24) rfl))) Via.refl e603 F_a1_value (g := (mkF m 41 #[.val (.ref a0), .val (.ref a1), .val (.ref a1)] [(.ref a1), (.ref t0)])) rfl rfl (hb hby d6_41)
  obtain ⟨_, _, ⟨T605, L605, k605, n605⟩, -, X605, ⟨Lc605, hQ605, l605, y605, z605⟩, st605⟩ := Jvm.LawKit.callS X604 hx (y := (⟨"java/lang/StringLatin1", "equals", "([B[B)Z"⟩ : MethodName)) hown (mvT hZ (hw _ (List.mem_of_getElem? (i := 38) rfl))) (mvT hZ (hw _ (List.mem_of_getElem? (i := 39) rfl))) (mvT hZ (hw _ (List.mem_of_getElem? (i := 40) rfl))) (mvT hZ (hw _ (List.mem_of_getElem? (i := 41) rfl))) (by decide) (backOf (W := 0) (le_n0 l Z aw hw [] t0 t1 k1 k2 h0 n0 Z0 V_t0 V_t1) hZ (hw _ (List.mem_of_getElem? (i := 41) rfl)) (hw _ (List.mem_of_getElem? (i := 40) rfl)) (by decide) (by decide)) (g := (mkF m 44 #[.val (.ref a0), .val (.ref a1), .val (.ref a1)] [(.ref t1), (.ref t0)])) rfl (by rw [hml]; rfl) (argsL := [(.ref t0), (.ref t1)]) (rest := []) (lenOf pd_5 rfl) rfl (by show 2 * 0 + _ ≤ _; exact Nat.le_of_eq rfl) (hb hby d6_44) (fun _ _ => ⟨rfl, e604, (by decide : 0 + 0 ≤ _), (by decide : 0 + 0 ≤ _)⟩)
  dsimp only [Pt.U, Pt.locs, Pt.cells, Pt.slots] at X605 l605 y605 z605 st605 hQ605
  replace l605 := l605.symm; replace y605 := y605.symm; replace z605 := z605.symm; subst l605 y605 z605
  obtain ⟨rfl, N605q, e605⟩ := hQ605
  have N605 := Fr.app N0 N605q
  obtain ⟨fs, hr, hrun, hended, hW, hsame⟩ := X605.leave (v := some (.int (0 : Int32))) (fun h => by rw [Bd.returns] at h; cases h)
  refine ⟨_, _, pre0 _ ?_, hrun, hended, _, _, rfl, ?_, ⟨_, rfl⟩, hW, hsame.mono (by decide) (by decide)⟩
  ·
    show Steps p.tables e below (s₁.setTop (mkF m 0 #[.val (.ref a0), .val (.ref a1), .unset] [])) _
    refine XS.aloadN X0.here hx rfl (hb hby d6_0) rfl rfl ?_
    show Steps p.tables e below (s₁.setTop (mkF m 1 #[.val (.ref a0), .val (.ref a1), .unset] [(.ref a0)])) _
    refine XS.aloadN X0.here hx rfl (hb hby d6_1) rfl rfl ?_
    show Steps p.tables e below (s₁.setTop (mkF m 2 #[.val (.ref a0), .val (.ref a1), .unset] [(.ref a1), (.ref a0)])) _
    refine Jvm.RoadKit.acmp (g := (mkF m 2 #[.val (.ref a0), .val (.ref a1), .unset] [(.ref a1), (.ref a0)])) X0 hx rfl rfl rfl (pc0 := 2) (pc' := 7) (same := false) rfl (hb hby d6_2) rfl (decide_eq_false fun q => ne_a0_a1 (Value.ref.inj q)) (by decide) (by decide) ?_
    show Steps p.tables e below (s₁.setTop (mkF m 7 #[.val (.ref a0), .val (.ref a1), .unset] [])) _
    refine XS.aloadN X0.here hx rfl (hb hby d6_7) rfl rfl ?_
    show Steps p.tables e below (s₁.setTop (mkF m 8 #[.val (.ref a0), .val (.ref a1), .unset] [(.ref a1)])) _
    refine st597 _ ?_
    show Steps p.tables e below (T597.setTop (mkF m 11 #[.val (.ref a0), .val (.ref a1), .unset] [(.int (1 : Int32))])) _
    refine XS.ifNo X597.here hx rfl (hb hby d6_11) rfl ((if0 _ _).trans (feq (by decide)).1) ?_
    show Steps p.tables e below (T597.setTop (mkF m 14 #[.val (.ref a0), .val (.ref a1), .unset] [])) _
    refine XS.aloadN X597.here hx rfl (hb hby d6_14) rfl rfl ?_
    show Steps p.tables e below (T597.setTop (mkF m 15 #[.val (.ref a0), .val (.ref a1), .unset] [(.ref a1)])) _
    refine st598 _ ?_
    show Steps p.tables e below (T598.setTop (mkF m 18 #[.val (.ref a0), .val (.ref a1), .unset] [(.ref a1)])) _
    refine XS.astoreN X598.here hx rfl (hb hby d6_18) rfl rfl (l' := #[.val (.ref a0), .val (.ref a1), .val (.ref a1)]) rfl ?_
    show Steps p.tables e below (T598.setTop (mkF m 19 #[.val (.ref a0), .val (.ref a1), .val (.ref a1)] [])) _
    refine st599 _ ?_
    show Steps p.tables e below (T599.setTop (mkF m 22 #[.val (.ref a0), .val (.ref a1), .val (.ref a1)] [(.int zc)])) _
    refine XS.ifNo X599.here hx rfl (hb hby d6_22) rfl ((if0 _ _).trans (feq c600).1) ?_
    show Steps p.tables e below (T599.setTop (mkF m 25 #[.val (.ref a0), .val (.ref a1), .val (.ref a1)] [])) _
    refine XS.aloadN X599.here hx rfl (hb hby d6_25) rfl rfl ?_
    show Steps p.tables e below (T599.setTop (mkF m 26 #[.val (.ref a0), .val (.ref a1), .val (.ref a1)] [(.ref a0)])) _
    refine st601 _ ?_
    show Steps p.tables e below (T601.setTop (mkF m 29 #[.val (.ref a0), .val (.ref a1), .val (.ref a1)] [(.int (0 : Int32))])) _
    refine XS.aloadN X601.here hx rfl (hb hby d6_29) rfl rfl ?_
    show Steps p.tables e below (T601.setTop (mkF m 30 #[.val (.ref a0), .val (.ref a1), .val (.ref a1)] [(.ref a1), (.int (0 : Int32))])) _
    refine st602 _ ?_
    show Steps p.tables e below (T602.setTop (mkF m 33 #[.val (.ref a0), .val (.ref a1), .val (.ref a1)] [(.int (0 : Int32)), (.int (0 : Int32))])) _
    refine XS.icmpNo X602.here hx rfl (hb hby d6_33) rfl (teq rfl).2 ?_
    show Steps p.tables e below (T602.setTop (mkF m 36 #[.val (.ref a0), .val (.ref a1), .val (.ref a1)] [])) _
    refine XS.aloadN X602.here hx rfl (hb hby d6_36) rfl rfl ?_
    show Steps p.tables e below (T602.setTop (mkF m 37 #[.val (.ref a0), .val (.ref a1), .val (.ref a1)] [(.ref a0)])) _
    refine st603 _ ?_
    show Steps p.tables e below (T603.setTop (mkF m 40 #[.val (.ref a0), .val (.ref a1), .val (.ref a1)] [(.ref t0)])) _
    refine XS.aloadN X603.here hx rfl (hb hby d6_40) rfl rfl ?_
    show Steps p.tables e below (T603.setTop (mkF m 41 #[.val (.ref a0), .val (.ref a1), .val (.ref a1)] [(.ref a1), (.ref t0)])) _
    refine st604 _ ?_
    show Steps p.tables e below (T604.setTop (mkF m 44 #[.val (.ref a0), .val (.ref a1), .val (.ref a1)] [(.ref t1), (.ref t0)])) _
    refine st605 _ ?_
    show Steps p.tables e below (T605.setTop (mkF m 47 #[.val (.ref a0), .val (.ref a1), .val (.ref a1)] [(.int (0 : Int32))])) _
    refine XS.ifYes X605.here hx rfl (pc0 := 47) (pc' := 54) rfl (hb hby d6_47) rfl ((if0 _ _).trans (teq rfl).1) (by decide) (by decide) ?_
    show Steps p.tables e below (T605.setTop (mkF m 54 #[.val (.ref a0), .val (.ref a1), .val (.ref a1)] [])) _
    refine XS.iconst X605.here hx rfl (hb hby d6_54) ?_
    show Steps p.tables e below (T605.setTop (mkF m 55 #[.val (.ref a0), .val (.ref a1), .val (.ref a1)] [(.int (0 : Int32))])) _
    exact retZ X605 hx Bd.returns (by decide) (hb hby d6_55) hr
  ·
    show Q_eq_n0 Z a0 a1 t0 t1 k1 k2 zc h0 n0 _ T605.heap _
    rw [e605]
    exact ⟨rfl, N605, rfl⟩
theorem ef_le_n2 (m : MethodId) (a0 : Addr) (a1 : Addr) : entryFrame m #[(.ref a0), (.ref a1)] 3 = mkF m 0 #[.val (.ref a0), .val (.ref a1), .unset] [] := by first | (simp [entryFrame, mkF, argsToLocals, Value.category]; done) | rfl
def Q_le_n2 (Z : State) (a0 : Addr) (a1 : Addr) (k1 : ClassId) (k2 : ClassId) (w0 : Int32) (w1 : Int32) (h0 : Heap) (n0 : Nat) (v : Option Value) (h : Heap) (L : List Loc) : Prop := v = some (.int (0 : Int32)) ∧ Fr n0 L ∧ h = h0
set_option maxRecDepth 65536 in
set_option maxHeartbeats 40000000 in
theorem le_n2 (l : Launch) (Z : State) (aw : Array Value) (hw : ∀ d ∈ tables_1, d.before aw Z = true) (ws : List Jvm.Cond) (a0 : Addr) (a1 : Addr) (k1 : ClassId) (k2 : ClassId) (w0 : Int32) (w1 : Int32) (h0 : Heap) (n0 : Nat) (Z0 : n0 ≤ h0.size) (V_a0 : Arv Z h0 a0 k1 .byte (2 : Int32) [(.int w0), (.int w1)] (.int (0 : Int32))) (V_a1 : Arv Z h0 a1 k2 .byte (1 : Int32) [(.int (88 : Int32))] (.int (0 : Int32))) :
    MetFree l (⟨"java/lang/StringLatin1", "equals", "([B[B)Z"⟩ : MethodName) (head1 (Jvm.Cond.code (⟨"java/lang/StringLatin1", "equals", "([B[B)Z"⟩ : MethodName) jdk_43_method_13_code 3 (some .boolean) :: ws) ({ frames := 0, cells := 0, slots := 0, locals := 0 } : Room)) (fun a U => a = #[(.ref a0), (.ref a1)] ∧ Z.Warmed39 U.vm ∧ U.heap = h0) (fun _ _ _ _ _ => True) (fun _ U o U' => ∃ v L, o = .returned v ∧ Q_le_n2 Z a0 a1 k1 k2 w0 w1 h0 n0 v U'.heap L ∧ FrameEnd U o U' L ({ frames := 0, cells := 0, slots := 0, locals := 0 } : Room).cells ({ frames := 0, cells := 0, slots := 0, locals := 0 } : Room).slots) := by
  refine MetFree.of_bodySF (plainFor_of_name pn_3) hisR ?_
  intro p e s m args below meth c s₁ Bd hml0 hP hK
  obtain ⟨rfl, hZ, hh⟩ := hP
  have hx := Bd.exec
  have hby := Bd.bytes
  have hml : c.maxLocals = 3 := hml0
  have hown : s.vm.findClass "java/lang/StringLatin1" = some m.cls := findClass_of_methodNamed Bd.named
  have hnm := (name_of_methodNamed Bd.named Bd.method).1
  have X0 : Stand p l e ({ frames := 0, cells := 0, slots := 0, locals := 0 } : Room) s m #[(.ref a0), (.ref a1)] below meth c s₁ [] 0 0 := Stand.of_body Bd
  have e0 : s₁.heap = h0 := by rw [← hh, Bd.state]; rfl
  have N0 := Fr.nil n0
  have pre0 : ∀ t, Steps p.tables e below (s₁.setTop (mkF m 0 #[.val (.ref a0), .val (.ref a1), .unset] [])) t → Steps p.tables e below (s₁.setTop (entryFrame m #[(.ref a0), (.ref a1)] 3)) t := fun t k => castTop (ef_le_n2 m a0 a1) k
  obtain ⟨cl606, Ar606, q606, S606, N606, H606, G606⟩ := id V_a0
  obtain ⟨cl607, Ar607, q607, S607, N607, H607, G607⟩ := id V_a1
  obtain ⟨fs, hr, hrun, hended, hW, hsame⟩ := X0.leave (v := some (.int (0 : Int32))) (fun h => by rw [Bd.returns] at h; cases h)
  refine ⟨_, _, pre0 _ ?_, hrun, hended, _, _, rfl, ?_, ⟨_, rfl⟩, hW, hsame.mono (by decide) (by decide)⟩
  ·
    show Steps p.tables e below (s₁.setTop (mkF m 0 #[.val (.ref a0), .val (.ref a1), .unset] [])) _
    refine XS.aloadN X0.here hx rfl (hb hby d7_0) rfl rfl ?_
    show Steps p.tables e below (s₁.setTop (mkF m 1 #[.val (.ref a0), .val (.ref a1), .unset] [(.ref a0)])) _
    refine X0.arraylength hx (by rw [e0]; exact Ar606.1) (State.isArrayOf_alike hZ.alike Ar606.2.1) (g := (mkF m 1 #[.val (.ref a0), .val (.ref a1), .unset] [(.ref a0)])) rfl rfl (hb hby d7_1) _ ?_
    rw [len_of S606 N606]
    show Steps p.tables e below (s₁.setTop (mkF m 2 #[.val (.ref a0), .val (.ref a1), .unset] [(.int (2 : Int32))])) _
    refine XS.aloadN X0.here hx rfl (hb hby d7_2) rfl rfl ?_
    show Steps p.tables e below (s₁.setTop (mkF m 3 #[.val (.ref a0), .val (.ref a1), .unset] [(.ref a1), (.int (2 : Int32))])) _
    refine X0.arraylength hx (by rw [e0]; exact Ar607.1) (State.isArrayOf_alike hZ.alike Ar607.2.1) (g := (mkF m 3 #[.val (.ref a0), .val (.ref a1), .unset] [(.ref a1), (.int (2 : Int32))])) rfl rfl (hb hby d7_3) _ ?_
    rw [len_of S607 N607]
    show Steps p.tables e below (s₁.setTop (mkF m 4 #[.val (.ref a0), .val (.ref a1), .unset] [(.int (1 : Int32)), (.int (2 : Int32))])) _
    refine XS.icmpYes X0.here hx rfl (pc0 := 4) (pc' := 34) rfl (hb hby d7_4) rfl (feq (by decide)).2 (by decide) (by decide) ?_
    show Steps p.tables e below (s₁.setTop (mkF m 34 #[.val (.ref a0), .val (.ref a1), .unset] [])) _
    refine XS.iconst X0.here hx rfl (hb hby d7_34) ?_
    show Steps p.tables e below (s₁.setTop (mkF m 35 #[.val (.ref a0), .val (.ref a1), .unset] [(.int (0 : Int32))])) _
    exact retZ X0 hx Bd.returns (by decide) (hb hby d7_35) hr
  ·
    show Q_le_n2 Z a0 a1 k1 k2 w0 w1 h0 n0 _ s₁.heap _
    rw [e0]
    exact ⟨rfl, N0, rfl⟩
theorem ef_eq_n2 (m : MethodId) (a0 : Addr) (a1 : Addr) : entryFrame m #[(.ref a0), (.ref a1)] 3 = mkF m 0 #[.val (.ref a0), .val (.ref a1), .unset] [] := by first | (simp [entryFrame, mkF, argsToLocals, Value.category]; done) | rfl
def Q_eq_n2 (Z : State) (a0 : Addr) (a1 : Addr) (t0 : Addr) (t1 : Addr) (k1 : ClassId) (k2 : ClassId) (w0 : Int32) (w1 : Int32) (zc : Int32) (h0 : Heap) (n0 : Nat) (v : Option Value) (h : Heap) (L : List Loc) : Prop := v = some (.int (0 : Int32)) ∧ Fr n0 L ∧ h = h0
set_option maxRecDepth 65536 in
set_option maxHeartbeats 40000000 in
theorem eq_n2 (l : Launch) (Z : State) (aw : Array Value) (hw : ∀ d ∈ tables_1, d.before aw Z = true) (ws : List Jvm.Cond) (a0 : Addr) (a1 : Addr) (t0 : Addr) (t1 : Addr) (k1 : ClassId) (k2 : ClassId) (w0 : Int32) (w1 : Int32) (zc : Int32) (h0 : Heap) (n0 : Nat) (Z0 : n0 ≤ h0.size) (E_a1 : Exa Z h0 a1 "java/lang/String") (F_a0_coder : Fld Z h0 a0 "java/lang/String" "coder" "B" (.int (0 : Int32))) (F_a0_value : Fld Z h0 a0 "java/lang/String" "value" "[B" (.ref t0)) (F_a1_coder : Fld Z h0 a1 "java/lang/String" "coder" "B" (.int (0 : Int32))) (F_a1_value : Fld Z h0 a1 "java/lang/String" "value" "[B" (.ref t1)) (V_t0 : Arv Z h0 t0 k1 .byte (2 : Int32) [(.int w0), (.int w1)] (.int (0 : Int32))) (V_t1 : Arv Z h0 t1 k2 .byte (1 : Int32) [(.int (88 : Int32))] (.int (0 : Int32))) (OLD : Old Z n0 h0) (O_COMPACT_STRINGS : Sta Z Z.heap "java/lang/String" "COMPACT_STRINGS" "Z" (.int zc)) (hzc : ¬ (zc = (0 : Int32))) (ne_a0_a1 : a0 ≠ a1) :
    MetFree l (⟨"java/lang/String", "equals", "(Ljava/lang/Object;)Z"⟩ : MethodName) (head1 (Jvm.Cond.code (⟨"java/lang/String", "equals", "(Ljava/lang/Object;)Z"⟩ : MethodName) jdk_42_method_66_code 3 (some .boolean) :: ws) ({ frames := 1, cells := 0, slots := 0, locals := 14 } : Room)) (fun a U => a = #[(.ref a0), (.ref a1)] ∧ Z.Warmed39 U.vm ∧ U.heap = h0) (fun _ _ _ _ _ => True) (fun _ U o U' => ∃ v L, o = .returned v ∧ Q_eq_n2 Z a0 a1 t0 t1 k1 k2 w0 w1 zc h0 n0 v U'.heap L ∧ FrameEnd U o U' L ({ frames := 1, cells := 0, slots := 0, locals := 14 } : Room).cells ({ frames := 1, cells := 0, slots := 0, locals := 14 } : Room).slots) := by
  refine MetFree.of_bodySF (plainFor_of_name pn_1) hisR ?_
  intro p e s m args below meth c s₁ Bd hml0 hP hK
  obtain ⟨rfl, hZ, hh⟩ := hP
  have hx := Bd.exec
  have hby := Bd.bytes
  have hml : c.maxLocals = 3 := hml0
  have hown : s.vm.findClass "java/lang/String" = some m.cls := findClass_of_methodNamed Bd.named
  have hnm := (name_of_methodNamed Bd.named Bd.method).1
  have X0 : Stand p l e ({ frames := 1, cells := 0, slots := 0, locals := 14 } : Room) s m #[(.ref a0), (.ref a1)] below meth c s₁ [] 0 0 := Stand.of_body Bd
  have e0 : s₁.heap = h0 := by rw [← hh, Bd.state]; rfl
  have N0 := Fr.nil n0
  have pre0 : ∀ t, Steps p.tables e below (s₁.setTop (mkF m 0 #[.val (.ref a0), .val (.ref a1), .unset] [])) t → Steps p.tables e below (s₁.setTop (entryFrame m #[(.ref a0), (.ref a1)] 3)) t := fun t k => castTop (ef_eq_n2 m a0 a1) k
  obtain ⟨T608, X608, e608, st608⟩ := instY X0 hx hZ hown (hw _ (List.mem_of_getElem? (i := 36) rfl)) e0 (Ins.self E_a1) (g := (mkF m 8 #[.val (.ref a0), .val (.ref a1), .unset] [(.ref a1)])) rfl rfl (hb hby d6_8)
  obtain ⟨T609, X609, e609, st609⟩ := castY X608 hx hZ hown (hw _ (List.mem_of_getElem? (i := 36) rfl)) e608 (Ins.self E_a1) (g := (mkF m 15 #[.val (.ref a0), .val (.ref a1), .unset] [(.ref a1)])) rfl rfl (hb hby d6_15)
  obtain ⟨T610, X610, e610, st610⟩ := getS2 X609 hx hZ hown (host := "") (Or.inl (hw _ (List.mem_of_getElem? (i := 37) rfl))) Via.refl e609 (Sta.ext OLD.2 O_COMPACT_STRINGS) (g := (mkF m 19 #[.val (.ref a0), .val (.ref a1), .val (.ref a1)] [])) rfl (hb hby d6_19)
  have c611 : ¬ (zc = (0 : Int32)) := by
    exact hzc
  obtain ⟨T612, X612, e612, st612⟩ := getF X610 hx hZ hown (host := "") (Or.inl (hw _ (List.mem_of_getElem? (i := 25) rfl))) Via.refl e610 F_a0_coder (g := (mkF m 26 #[.val (.ref a0), .val (.ref a1), .val (.ref a1)] [(.ref a0)])) rfl rfl (hb hby d6_26)
  obtain ⟨T613, X613, e613, st613⟩ := getF X612 hx hZ hown (host := "") (Or.inl (hw _ (List.mem_of_getElem? (i := 25) rfl))) Via.refl e612 F_a1_coder (g := (mkF m 30 #[.val (.ref a0), .val (.ref a1), .val (.ref a1)] [(.ref a1), (.int (0 : Int32))])) rfl rfl (hb hby d6_30)
  obtain ⟨T614, X614, e614, st614⟩ := getF X613 hx hZ hown (host := "") (Or.inl (hw _ (List.mem_of_getElem? (i := 24) rfl))) Via.refl e613 F_a0_value (g := (mkF m 37 #[.val (.ref a0), .val (.ref a1), .val (.ref a1)] [(.ref a0)])) rfl rfl (hb hby d6_37)
  obtain ⟨T615, X615, e615, st615⟩ := getF X614 hx hZ hown (host := "") (Or.inl (hw _ (List.mem_of_getElem? (i := 24) rfl))) Via.refl e614 F_a1_value (g := (mkF m 41 #[.val (.ref a0), .val (.ref a1), .val (.ref a1)] [(.ref a1), (.ref t0)])) rfl rfl (hb hby d6_41)
  obtain ⟨_, _, ⟨T616, L616, k616, n616⟩, -, X616, ⟨Lc616, hQ616, l616, y616, z616⟩, st616⟩ := Jvm.LawKit.callS X615 hx (y := (⟨"java/lang/StringLatin1", "equals", "([B[B)Z"⟩ : MethodName)) hown (mvT hZ (hw _ (List.mem_of_getElem? (i := 38) rfl))) (mvT hZ (hw _ (List.mem_of_getElem? (i := 39) rfl))) (mvT hZ (hw _ (List.mem_of_getElem? (i := 40) rfl))) (mvT hZ (hw _ (List.mem_of_getElem? (i := 41) rfl))) (by decide) (backOf (W := 0) (le_n2 l Z aw hw [] t0 t1 k1 k2 w0 w1 h0 n0 Z0 V_t0 V_t1) hZ (hw _ (List.mem_of_getElem? (i := 41) rfl)) (hw _ (List.mem_of_getElem? (i := 40) rfl)) (by decide) (by decide)) (g := (mkF m 44 #[.val (.ref a0), .val (.ref a1), .val (.ref a1)] [(.ref t1), (.ref t0)])) rfl (by rw [hml]; rfl) (argsL := [(.ref t0), (.ref t1)]) (rest := []) (lenOf pd_5 rfl) rfl (by show 2 * 0 + _ ≤ _; exact Nat.le_of_eq rfl) (hb hby d6_44) (fun _ _ => ⟨rfl, e615, (by decide : 0 + 0 ≤ _), (by decide : 0 + 0 ≤ _)⟩)
  dsimp only [Pt.U, Pt.locs, Pt.cells, Pt.slots] at X616 l616 y616 z616 st616 hQ616
  replace l616 := l616.symm; replace y616 := y616.symm; replace z616 := z616.symm; subst l616 y616 z616
  obtain ⟨rfl, N616q, e616⟩ := hQ616
  have N616 := Fr.app N0 N616q
  obtain ⟨fs, hr, hrun, hended, hW, hsame⟩ := X616.leave (v := some (.int (0 : Int32))) (fun h => by rw [Bd.returns] at h; cases h)
  refine ⟨_, _, pre0 _ ?_, hrun, hended, _, _, rfl, ?_, ⟨_, rfl⟩, hW, hsame.mono (by decide) (by decide)⟩
  ·
    show Steps p.tables e below (s₁.setTop (mkF m 0 #[.val (.ref a0), .val (.ref a1), .unset] [])) _
    refine XS.aloadN X0.here hx rfl (hb hby d6_0) rfl rfl ?_
    show Steps p.tables e below (s₁.setTop (mkF m 1 #[.val (.ref a0), .val (.ref a1), .unset] [(.ref a0)])) _
    refine XS.aloadN X0.here hx rfl (hb hby d6_1) rfl rfl ?_
    show Steps p.tables e below (s₁.setTop (mkF m 2 #[.val (.ref a0), .val (.ref a1), .unset] [(.ref a1), (.ref a0)])) _
    refine Jvm.RoadKit.acmp (g := (mkF m 2 #[.val (.ref a0), .val (.ref a1), .unset] [(.ref a1), (.ref a0)])) X0 hx rfl rfl rfl (pc0 := 2) (pc' := 7) (same := false) rfl (hb hby d6_2) rfl (decide_eq_false fun q => ne_a0_a1 (Value.ref.inj q)) (by decide) (by decide) ?_
    show Steps p.tables e below (s₁.setTop (mkF m 7 #[.val (.ref a0), .val (.ref a1), .unset] [])) _
    refine XS.aloadN X0.here hx rfl (hb hby d6_7) rfl rfl ?_
    show Steps p.tables e below (s₁.setTop (mkF m 8 #[.val (.ref a0), .val (.ref a1), .unset] [(.ref a1)])) _
    refine st608 _ ?_
    show Steps p.tables e below (T608.setTop (mkF m 11 #[.val (.ref a0), .val (.ref a1), .unset] [(.int (1 : Int32))])) _
    refine XS.ifNo X608.here hx rfl (hb hby d6_11) rfl ((if0 _ _).trans (feq (by decide)).1) ?_
    show Steps p.tables e below (T608.setTop (mkF m 14 #[.val (.ref a0), .val (.ref a1), .unset] [])) _
    refine XS.aloadN X608.here hx rfl (hb hby d6_14) rfl rfl ?_
    show Steps p.tables e below (T608.setTop (mkF m 15 #[.val (.ref a0), .val (.ref a1), .unset] [(.ref a1)])) _
    refine st609 _ ?_
    show Steps p.tables e below (T609.setTop (mkF m 18 #[.val (.ref a0), .val (.ref a1), .unset] [(.ref a1)])) _
    refine XS.astoreN X609.here hx rfl (hb hby d6_18) rfl rfl (l' := #[.val (.ref a0), .val (.ref a1), .val (.ref a1)]) rfl ?_
    show Steps p.tables e below (T609.setTop (mkF m 19 #[.val (.ref a0), .val (.ref a1), .val (.ref a1)] [])) _
    refine st610 _ ?_
    show Steps p.tables e below (T610.setTop (mkF m 22 #[.val (.ref a0), .val (.ref a1), .val (.ref a1)] [(.int zc)])) _
    refine XS.ifNo X610.here hx rfl (hb hby d6_22) rfl ((if0 _ _).trans (feq c611).1) ?_
    show Steps p.tables e below (T610.setTop (mkF m 25 #[.val (.ref a0), .val (.ref a1), .val (.ref a1)] [])) _
    refine XS.aloadN X610.here hx rfl (hb hby d6_25) rfl rfl ?_
    show Steps p.tables e below (T610.setTop (mkF m 26 #[.val (.ref a0), .val (.ref a1), .val (.ref a1)] [(.ref a0)])) _
    refine st612 _ ?_
    show Steps p.tables e below (T612.setTop (mkF m 29 #[.val (.ref a0), .val (.ref a1), .val (.ref a1)] [(.int (0 : Int32))])) _
    refine XS.aloadN X612.here hx rfl (hb hby d6_29) rfl rfl ?_
    show Steps p.tables e below (T612.setTop (mkF m 30 #[.val (.ref a0), .val (.ref a1), .val (.ref a1)] [(.ref a1), (.int (0 : Int32))])) _
    refine st613 _ ?_
    show Steps p.tables e below (T613.setTop (mkF m 33 #[.val (.ref a0), .val (.ref a1), .val (.ref a1)] [(.int (0 : Int32)), (.int (0 : Int32))])) _
    refine XS.icmpNo X613.here hx rfl (hb hby d6_33) rfl (teq rfl).2 ?_
    show Steps p.tables e below (T613.setTop (mkF m 36 #[.val (.ref a0), .val (.ref a1), .val (.ref a1)] [])) _
    refine XS.aloadN X613.here hx rfl (hb hby d6_36) rfl rfl ?_
    show Steps p.tables e below (T613.setTop (mkF m 37 #[.val (.ref a0), .val (.ref a1), .val (.ref a1)] [(.ref a0)])) _
    refine st614 _ ?_
    show Steps p.tables e below (T614.setTop (mkF m 40 #[.val (.ref a0), .val (.ref a1), .val (.ref a1)] [(.ref t0)])) _
    refine XS.aloadN X614.here hx rfl (hb hby d6_40) rfl rfl ?_
    show Steps p.tables e below (T614.setTop (mkF m 41 #[.val (.ref a0), .val (.ref a1), .val (.ref a1)] [(.ref a1), (.ref t0)])) _
    refine st615 _ ?_
    show Steps p.tables e below (T615.setTop (mkF m 44 #[.val (.ref a0), .val (.ref a1), .val (.ref a1)] [(.ref t1), (.ref t0)])) _
    refine st616 _ ?_
    show Steps p.tables e below (T616.setTop (mkF m 47 #[.val (.ref a0), .val (.ref a1), .val (.ref a1)] [(.int (0 : Int32))])) _
    refine XS.ifYes X616.here hx rfl (pc0 := 47) (pc' := 54) rfl (hb hby d6_47) rfl ((if0 _ _).trans (teq rfl).1) (by decide) (by decide) ?_
    show Steps p.tables e below (T616.setTop (mkF m 54 #[.val (.ref a0), .val (.ref a1), .val (.ref a1)] [])) _
    refine XS.iconst X616.here hx rfl (hb hby d6_54) ?_
    show Steps p.tables e below (T616.setTop (mkF m 55 #[.val (.ref a0), .val (.ref a1), .val (.ref a1)] [(.int (0 : Int32))])) _
    exact retZ X616 hx Bd.returns (by decide) (hb hby d6_55) hr
  ·
    show Q_eq_n2 Z a0 a1 t0 t1 k1 k2 w0 w1 zc h0 n0 _ T616.heap _
    rw [e616]
    exact ⟨rfl, N616, rfl⟩
theorem ef_le_n3 (m : MethodId) (a0 : Addr) (a1 : Addr) : entryFrame m #[(.ref a0), (.ref a1)] 3 = mkF m 0 #[.val (.ref a0), .val (.ref a1), .unset] [] := by first | (simp [entryFrame, mkF, argsToLocals, Value.category]; done) | rfl
def Q_le_n3 (Z : State) (a0 : Addr) (a1 : Addr) (k1 : ClassId) (k2 : ClassId) (w0 : Int32) (w1 : Int32) (w2 : Int32) (h0 : Heap) (n0 : Nat) (v : Option Value) (h : Heap) (L : List Loc) : Prop := v = some (.int (0 : Int32)) ∧ Fr n0 L ∧ h = h0
set_option maxRecDepth 65536 in
set_option maxHeartbeats 40000000 in
theorem le_n3 (l : Launch) (Z : State) (aw : Array Value) (hw : ∀ d ∈ tables_1, d.before aw Z = true) (ws : List Jvm.Cond) (a0 : Addr) (a1 : Addr) (k1 : ClassId) (k2 : ClassId) (w0 : Int32) (w1 : Int32) (w2 : Int32) (h0 : Heap) (n0 : Nat) (Z0 : n0 ≤ h0.size) (V_a0 : Arv Z h0 a0 k1 .byte (3 : Int32) [(.int w0), (.int w1), (.int w2)] (.int (0 : Int32))) (V_a1 : Arv Z h0 a1 k2 .byte (1 : Int32) [(.int (88 : Int32))] (.int (0 : Int32))) :
    MetFree l (⟨"java/lang/StringLatin1", "equals", "([B[B)Z"⟩ : MethodName) (head1 (Jvm.Cond.code (⟨"java/lang/StringLatin1", "equals", "([B[B)Z"⟩ : MethodName) jdk_43_method_13_code 3 (some .boolean) :: ws) ({ frames := 0, cells := 0, slots := 0, locals := 0 } : Room)) (fun a U => a = #[(.ref a0), (.ref a1)] ∧ Z.Warmed39 U.vm ∧ U.heap = h0) (fun _ _ _ _ _ => True) (fun _ U o U' => ∃ v L, o = .returned v ∧ Q_le_n3 Z a0 a1 k1 k2 w0 w1 w2 h0 n0 v U'.heap L ∧ FrameEnd U o U' L ({ frames := 0, cells := 0, slots := 0, locals := 0 } : Room).cells ({ frames := 0, cells := 0, slots := 0, locals := 0 } : Room).slots) := by
  refine MetFree.of_bodySF (plainFor_of_name pn_3) hisR ?_
  intro p e s m args below meth c s₁ Bd hml0 hP hK
  obtain ⟨rfl, hZ, hh⟩ := hP
  have hx := Bd.exec
  have hby := Bd.bytes
  have hml : c.maxLocals = 3 := hml0
  have hown : s.vm.findClass "java/lang/StringLatin1" = some m.cls := findClass_of_methodNamed Bd.named
  have hnm := (name_of_methodNamed Bd.named Bd.method).1
  have X0 : Stand p l e ({ frames := 0, cells := 0, slots := 0, locals := 0 } : Room) s m #[(.ref a0), (.ref a1)] below meth c s₁ [] 0 0 := Stand.of_body Bd
  have e0 : s₁.heap = h0 := by rw [← hh, Bd.state]; rfl
  have N0 := Fr.nil n0
  have pre0 : ∀ t, Steps p.tables e below (s₁.setTop (mkF m 0 #[.val (.ref a0), .val (.ref a1), .unset] [])) t → Steps p.tables e below (s₁.setTop (entryFrame m #[(.ref a0), (.ref a1)] 3)) t := fun t k => castTop (ef_le_n3 m a0 a1) k
  obtain ⟨cl617, Ar617, q617, S617, N617, H617, G617⟩ := id V_a0
  obtain ⟨cl618, Ar618, q618, S618, N618, H618, G618⟩ := id V_a1
  obtain ⟨fs, hr, hrun, hended, hW, hsame⟩ := X0.leave (v := some (.int (0 : Int32))) (fun h => by rw [Bd.returns] at h; cases h)
  refine ⟨_, _, pre0 _ ?_, hrun, hended, _, _, rfl, ?_, ⟨_, rfl⟩, hW, hsame.mono (by decide) (by decide)⟩
  ·
    show Steps p.tables e below (s₁.setTop (mkF m 0 #[.val (.ref a0), .val (.ref a1), .unset] [])) _
    refine XS.aloadN X0.here hx rfl (hb hby d7_0) rfl rfl ?_
    show Steps p.tables e below (s₁.setTop (mkF m 1 #[.val (.ref a0), .val (.ref a1), .unset] [(.ref a0)])) _
    refine X0.arraylength hx (by rw [e0]; exact Ar617.1) (State.isArrayOf_alike hZ.alike Ar617.2.1) (g := (mkF m 1 #[.val (.ref a0), .val (.ref a1), .unset] [(.ref a0)])) rfl rfl (hb hby d7_1) _ ?_
    rw [len_of S617 N617]
    show Steps p.tables e below (s₁.setTop (mkF m 2 #[.val (.ref a0), .val (.ref a1), .unset] [(.int (3 : Int32))])) _
    refine XS.aloadN X0.here hx rfl (hb hby d7_2) rfl rfl ?_
    show Steps p.tables e below (s₁.setTop (mkF m 3 #[.val (.ref a0), .val (.ref a1), .unset] [(.ref a1), (.int (3 : Int32))])) _
    refine X0.arraylength hx (by rw [e0]; exact Ar618.1) (State.isArrayOf_alike hZ.alike Ar618.2.1) (g := (mkF m 3 #[.val (.ref a0), .val (.ref a1), .unset] [(.ref a1), (.int (3 : Int32))])) rfl rfl (hb hby d7_3) _ ?_
    rw [len_of S618 N618]
    show Steps p.tables e below (s₁.setTop (mkF m 4 #[.val (.ref a0), .val (.ref a1), .unset] [(.int (1 : Int32)), (.int (3 : Int32))])) _
    refine XS.icmpYes X0.here hx rfl (pc0 := 4) (pc' := 34) rfl (hb hby d7_4) rfl (feq (by decide)).2 (by decide) (by decide) ?_
    show Steps p.tables e below (s₁.setTop (mkF m 34 #[.val (.ref a0), .val (.ref a1), .unset] [])) _
    refine XS.iconst X0.here hx rfl (hb hby d7_34) ?_
    show Steps p.tables e below (s₁.setTop (mkF m 35 #[.val (.ref a0), .val (.ref a1), .unset] [(.int (0 : Int32))])) _
    exact retZ X0 hx Bd.returns (by decide) (hb hby d7_35) hr
  ·
    show Q_le_n3 Z a0 a1 k1 k2 w0 w1 w2 h0 n0 _ s₁.heap _
    rw [e0]
    exact ⟨rfl, N0, rfl⟩
theorem ef_eq_n3 (m : MethodId) (a0 : Addr) (a1 : Addr) : entryFrame m #[(.ref a0), (.ref a1)] 3 = mkF m 0 #[.val (.ref a0), .val (.ref a1), .unset] [] := by first | (simp [entryFrame, mkF, argsToLocals, Value.category]; done) | rfl
def Q_eq_n3 (Z : State) (a0 : Addr) (a1 : Addr) (t0 : Addr) (t1 : Addr) (k1 : ClassId) (k2 : ClassId) (w0 : Int32) (w1 : Int32) (w2 : Int32) (zc : Int32) (h0 : Heap) (n0 : Nat) (v : Option Value) (h : Heap) (L : List Loc) : Prop := v = some (.int (0 : Int32)) ∧ Fr n0 L ∧ h = h0
set_option maxRecDepth 65536 in
set_option maxHeartbeats 40000000 in
theorem eq_n3 (l : Launch) (Z : State) (aw : Array Value) (hw : ∀ d ∈ tables_1, d.before aw Z = true) (ws : List Jvm.Cond) (a0 : Addr) (a1 : Addr) (t0 : Addr) (t1 : Addr) (k1 : ClassId) (k2 : ClassId) (w0 : Int32) (w1 : Int32) (w2 : Int32) (zc : Int32) (h0 : Heap) (n0 : Nat) (Z0 : n0 ≤ h0.size) (E_a1 : Exa Z h0 a1 "java/lang/String") (F_a0_coder : Fld Z h0 a0 "java/lang/String" "coder" "B" (.int (0 : Int32))) (F_a0_value : Fld Z h0 a0 "java/lang/String" "value" "[B" (.ref t0)) (F_a1_coder : Fld Z h0 a1 "java/lang/String" "coder" "B" (.int (0 : Int32))) (F_a1_value : Fld Z h0 a1 "java/lang/String" "value" "[B" (.ref t1)) (V_t0 : Arv Z h0 t0 k1 .byte (3 : Int32) [(.int w0), (.int w1), (.int w2)] (.int (0 : Int32))) (V_t1 : Arv Z h0 t1 k2 .byte (1 : Int32) [(.int (88 : Int32))] (.int (0 : Int32))) (OLD : Old Z n0 h0) (O_COMPACT_STRINGS : Sta Z Z.heap "java/lang/String" "COMPACT_STRINGS" "Z" (.int zc)) (hzc : ¬ (zc = (0 : Int32))) (ne_a0_a1 : a0 ≠ a1) :
    MetFree l (⟨"java/lang/String", "equals", "(Ljava/lang/Object;)Z"⟩ : MethodName) (head1 (Jvm.Cond.code (⟨"java/lang/String", "equals", "(Ljava/lang/Object;)Z"⟩ : MethodName) jdk_42_method_66_code 3 (some .boolean) :: ws) ({ frames := 1, cells := 0, slots := 0, locals := 14 } : Room)) (fun a U => a = #[(.ref a0), (.ref a1)] ∧ Z.Warmed39 U.vm ∧ U.heap = h0) (fun _ _ _ _ _ => True) (fun _ U o U' => ∃ v L, o = .returned v ∧ Q_eq_n3 Z a0 a1 t0 t1 k1 k2 w0 w1 w2 zc h0 n0 v U'.heap L ∧ FrameEnd U o U' L ({ frames := 1, cells := 0, slots := 0, locals := 14 } : Room).cells ({ frames := 1, cells := 0, slots := 0, locals := 14 } : Room).slots) := by
  refine MetFree.of_bodySF (plainFor_of_name pn_1) hisR ?_
  intro p e s m args below meth c s₁ Bd hml0 hP hK
  obtain ⟨rfl, hZ, hh⟩ := hP
  have hx := Bd.exec
  have hby := Bd.bytes
  have hml : c.maxLocals = 3 := hml0
  have hown : s.vm.findClass "java/lang/String" = some m.cls := findClass_of_methodNamed Bd.named
  have hnm := (name_of_methodNamed Bd.named Bd.method).1
  have X0 : Stand p l e ({ frames := 1, cells := 0, slots := 0, locals := 14 } : Room) s m #[(.ref a0), (.ref a1)] below meth c s₁ [] 0 0 := Stand.of_body Bd
  have e0 : s₁.heap = h0 := by rw [← hh, Bd.state]; rfl
  have N0 := Fr.nil n0
  have pre0 : ∀ t, Steps p.tables e below (s₁.setTop (mkF m 0 #[.val (.ref a0), .val (.ref a1), .unset] [])) t → Steps p.tables e below (s₁.setTop (entryFrame m #[(.ref a0), (.ref a1)] 3)) t := fun t k => castTop (ef_eq_n3 m a0 a1) k
  obtain ⟨T619, X619, e619, st619⟩ := instY X0 hx hZ hown (hw _ (List.mem_of_getElem? (i := 36) rfl)) e0 (Ins.self E_a1) (g := (mkF m 8 #[.val (.ref a0), .val (.ref a1), .unset] [(.ref a1)])) rfl rfl (hb hby d6_8)
  obtain ⟨T620, X620, e620, st620⟩ := castY X619 hx hZ hown (hw _ (List.mem_of_getElem? (i := 36) rfl)) e619 (Ins.self E_a1) (g := (mkF m 15 #[.val (.ref a0), .val (.ref a1), .unset] [(.ref a1)])) rfl rfl (hb hby d6_15)
  obtain ⟨T621, X621, e621, st621⟩ := getS2 X620 hx hZ hown (host := "") (Or.inl (hw _ (List.mem_of_getElem? (i := 37) rfl))) Via.refl e620 (Sta.ext OLD.2 O_COMPACT_STRINGS) (g := (mkF m 19 #[.val (.ref a0), .val (.ref a1), .val (.ref a1)] [])) rfl (hb hby d6_19)
  have c622 : ¬ (zc = (0 : Int32)) := by
    exact hzc
  obtain ⟨T623, X623, e623, st623⟩ := getF X621 hx hZ hown (host := "") (Or.inl (hw _ (List.mem_of_getElem? (i := 25) rfl))) Via.refl e621 F_a0_coder (g := (mkF m 26 #[.val (.ref a0), .val (.ref a1), .val (.ref a1)] [(.ref a0)])) rfl rfl (hb hby d6_26)
  obtain ⟨T624, X624, e624, st624⟩ := getF X623 hx hZ hown (host := "") (Or.inl (hw _ (List.mem_of_getElem? (i := 25) rfl))) Via.refl e623 F_a1_coder (g := (mkF m 30 #[.val (.ref a0), .val (.ref a1), .val (.ref a1)] [(.ref a1), (.int (0 : Int32))])) rfl rfl (hb hby d6_30)
  obtain ⟨T625, X625, e625, st625⟩ := getF X624 hx hZ hown (host := "") (Or.inl (hw _ (List.mem_of_getElem? (i := 24) rfl))) Via.refl e624 F_a0_value (g := (mkF m 37 #[.val (.ref a0), .val (.ref a1), .val (.ref a1)] [(.ref a0)])) rfl rfl (hb hby d6_37)
  obtain ⟨T626, X626, e626, st626⟩ := getF X625 hx hZ hown (host := "") (Or.inl (hw _ (List.mem_of_getElem? (i := 24) rfl))) Via.refl e625 F_a1_value (g := (mkF m 41 #[.val (.ref a0), .val (.ref a1), .val (.ref a1)] [(.ref a1), (.ref t0)])) rfl rfl (hb hby d6_41)
  obtain ⟨_, _, ⟨T627, L627, k627, n627⟩, -, X627, ⟨Lc627, hQ627, l627, y627, z627⟩, st627⟩ := Jvm.LawKit.callS X626 hx (y := (⟨"java/lang/StringLatin1", "equals", "([B[B)Z"⟩ : MethodName)) hown (mvT hZ (hw _ (List.mem_of_getElem? (i := 38) rfl))) (mvT hZ (hw _ (List.mem_of_getElem? (i := 39) rfl))) (mvT hZ (hw _ (List.mem_of_getElem? (i := 40) rfl))) (mvT hZ (hw _ (List.mem_of_getElem? (i := 41) rfl))) (by decide) (backOf (W := 0) (le_n3 l Z aw hw [] t0 t1 k1 k2 w0 w1 w2 h0 n0 Z0 V_t0 V_t1) hZ (hw _ (List.mem_of_getElem? (i := 41) rfl)) (hw _ (List.mem_of_getElem? (i := 40) rfl)) (by decide) (by decide)) (g := (mkF m 44 #[.val (.ref a0), .val (.ref a1), .val (.ref a1)] [(.ref t1), (.ref t0)])) rfl (by rw [hml]; rfl) (argsL := [(.ref t0), (.ref t1)]) (rest := []) (lenOf pd_5 rfl) rfl (by show 2 * 0 + _ ≤ _; exact Nat.le_of_eq rfl) (hb hby d6_44) (fun _ _ => ⟨rfl, e626, (by decide : 0 + 0 ≤ _), (by decide : 0 + 0 ≤ _)⟩)
  dsimp only [Pt.U, Pt.locs, Pt.cells, Pt.slots] at X627 l627 y627 z627 st627 hQ627
  replace l627 := l627.symm; replace y627 := y627.symm; replace z627 := z627.symm; subst l627 y627 z627
  obtain ⟨rfl, N627q, e627⟩ := hQ627
  have N627 := Fr.app N0 N627q
  obtain ⟨fs, hr, hrun, hended, hW, hsame⟩ := X627.leave (v := some (.int (0 : Int32))) (fun h => by rw [Bd.returns] at h; cases h)
  refine ⟨_, _, pre0 _ ?_, hrun, hended, _, _, rfl, ?_, ⟨_, rfl⟩, hW, hsame.mono (by decide) (by decide)⟩
  ·
    show Steps p.tables e below (s₁.setTop (mkF m 0 #[.val (.ref a0), .val (.ref a1), .unset] [])) _
    refine XS.aloadN X0.here hx rfl (hb hby d6_0) rfl rfl ?_
    show Steps p.tables e below (s₁.setTop (mkF m 1 #[.val (.ref a0), .val (.ref a1), .unset] [(.ref a0)])) _
    refine XS.aloadN X0.here hx rfl (hb hby d6_1) rfl rfl ?_
    show Steps p.tables e below (s₁.setTop (mkF m 2 #[.val (.ref a0), .val (.ref a1), .unset] [(.ref a1), (.ref a0)])) _
    refine Jvm.RoadKit.acmp (g := (mkF m 2 #[.val (.ref a0), .val (.ref a1), .unset] [(.ref a1), (.ref a0)])) X0 hx rfl rfl rfl (pc0 := 2) (pc' := 7) (same := false) rfl (hb hby d6_2) rfl (decide_eq_false fun q => ne_a0_a1 (Value.ref.inj q)) (by decide) (by decide) ?_
    show Steps p.tables e below (s₁.setTop (mkF m 7 #[.val (.ref a0), .val (.ref a1), .unset] [])) _
    refine XS.aloadN X0.here hx rfl (hb hby d6_7) rfl rfl ?_
    show Steps p.tables e below (s₁.setTop (mkF m 8 #[.val (.ref a0), .val (.ref a1), .unset] [(.ref a1)])) _
    refine st619 _ ?_
    show Steps p.tables e below (T619.setTop (mkF m 11 #[.val (.ref a0), .val (.ref a1), .unset] [(.int (1 : Int32))])) _
    refine XS.ifNo X619.here hx rfl (hb hby d6_11) rfl ((if0 _ _).trans (feq (by decide)).1) ?_
    show Steps p.tables e below (T619.setTop (mkF m 14 #[.val (.ref a0), .val (.ref a1), .unset] [])) _
    refine XS.aloadN X619.here hx rfl (hb hby d6_14) rfl rfl ?_
    show Steps p.tables e below (T619.setTop (mkF m 15 #[.val (.ref a0), .val (.ref a1), .unset] [(.ref a1)])) _
    refine st620 _ ?_
    show Steps p.tables e below (T620.setTop (mkF m 18 #[.val (.ref a0), .val (.ref a1), .unset] [(.ref a1)])) _
    refine XS.astoreN X620.here hx rfl (hb hby d6_18) rfl rfl (l' := #[.val (.ref a0), .val (.ref a1), .val (.ref a1)]) rfl ?_
    show Steps p.tables e below (T620.setTop (mkF m 19 #[.val (.ref a0), .val (.ref a1), .val (.ref a1)] [])) _
    refine st621 _ ?_
    show Steps p.tables e below (T621.setTop (mkF m 22 #[.val (.ref a0), .val (.ref a1), .val (.ref a1)] [(.int zc)])) _
    refine XS.ifNo X621.here hx rfl (hb hby d6_22) rfl ((if0 _ _).trans (feq c622).1) ?_
    show Steps p.tables e below (T621.setTop (mkF m 25 #[.val (.ref a0), .val (.ref a1), .val (.ref a1)] [])) _
    refine XS.aloadN X621.here hx rfl (hb hby d6_25) rfl rfl ?_
    show Steps p.tables e below (T621.setTop (mkF m 26 #[.val (.ref a0), .val (.ref a1), .val (.ref a1)] [(.ref a0)])) _
    refine st623 _ ?_
    show Steps p.tables e below (T623.setTop (mkF m 29 #[.val (.ref a0), .val (.ref a1), .val (.ref a1)] [(.int (0 : Int32))])) _
    refine XS.aloadN X623.here hx rfl (hb hby d6_29) rfl rfl ?_
    show Steps p.tables e below (T623.setTop (mkF m 30 #[.val (.ref a0), .val (.ref a1), .val (.ref a1)] [(.ref a1), (.int (0 : Int32))])) _
    refine st624 _ ?_
    show Steps p.tables e below (T624.setTop (mkF m 33 #[.val (.ref a0), .val (.ref a1), .val (.ref a1)] [(.int (0 : Int32)), (.int (0 : Int32))])) _
    refine XS.icmpNo X624.here hx rfl (hb hby d6_33) rfl (teq rfl).2 ?_
    show Steps p.tables e below (T624.setTop (mkF m 36 #[.val (.ref a0), .val (.ref a1), .val (.ref a1)] [])) _
    refine XS.aloadN X624.here hx rfl (hb hby d6_36) rfl rfl ?_
    show Steps p.tables e below (T624.setTop (mkF m 37 #[.val (.ref a0), .val (.ref a1), .val (.ref a1)] [(.ref a0)])) _
    refine st625 _ ?_
    show Steps p.tables e below (T625.setTop (mkF m 40 #[.val (.ref a0), .val (.ref a1), .val (.ref a1)] [(.ref t0)])) _
    refine XS.aloadN X625.here hx rfl (hb hby d6_40) rfl rfl ?_
    show Steps p.tables e below (T625.setTop (mkF m 41 #[.val (.ref a0), .val (.ref a1), .val (.ref a1)] [(.ref a1), (.ref t0)])) _
    refine st626 _ ?_
    show Steps p.tables e below (T626.setTop (mkF m 44 #[.val (.ref a0), .val (.ref a1), .val (.ref a1)] [(.ref t1), (.ref t0)])) _
    refine st627 _ ?_
    show Steps p.tables e below (T627.setTop (mkF m 47 #[.val (.ref a0), .val (.ref a1), .val (.ref a1)] [(.int (0 : Int32))])) _
    refine XS.ifYes X627.here hx rfl (pc0 := 47) (pc' := 54) rfl (hb hby d6_47) rfl ((if0 _ _).trans (teq rfl).1) (by decide) (by decide) ?_
    show Steps p.tables e below (T627.setTop (mkF m 54 #[.val (.ref a0), .val (.ref a1), .val (.ref a1)] [])) _
    refine XS.iconst X627.here hx rfl (hb hby d6_54) ?_
    show Steps p.tables e below (T627.setTop (mkF m 55 #[.val (.ref a0), .val (.ref a1), .val (.ref a1)] [(.int (0 : Int32))])) _
    exact retZ X627 hx Bd.returns (by decide) (hb hby d6_55) hr
  ·
    show Q_eq_n3 Z a0 a1 t0 t1 k1 k2 w0 w1 w2 zc h0 n0 _ T627.heap _
    rw [e627]
    exact ⟨rfl, N627, rfl⟩
theorem d7_7 : decode jdk_43_method_13_code 7 = .ok (.iconst 0, 1) := by decide +kernel
theorem d7_8 : decode jdk_43_method_13_code 8 = .ok (.istore_n 2, 1) := by decide +kernel
theorem d7_9 : decode jdk_43_method_13_code 9 = .ok (.iload_n 2, 1) := by decide +kernel
theorem d7_10 : decode jdk_43_method_13_code 10 = .ok (.aload_n 0, 1) := by decide +kernel
theorem d7_11 : decode jdk_43_method_13_code 11 = .ok (.arraylength, 1) := by decide +kernel
theorem d7_12 : decode jdk_43_method_13_code 12 = .ok (.if_icmp .ge 20, 3) := by decide +kernel
theorem d7_15 : decode jdk_43_method_13_code 15 = .ok (.aload_n 0, 1) := by decide +kernel
theorem d7_16 : decode jdk_43_method_13_code 16 = .ok (.iload_n 2, 1) := by decide +kernel
theorem d7_17 : decode jdk_43_method_13_code 17 = .ok (.baload, 1) := by decide +kernel
theorem d7_18 : decode jdk_43_method_13_code 18 = .ok (.aload_n 1, 1) := by decide +kernel
theorem d7_19 : decode jdk_43_method_13_code 19 = .ok (.iload_n 2, 1) := by decide +kernel
theorem d7_20 : decode jdk_43_method_13_code 20 = .ok (.baload, 1) := by decide +kernel
theorem d7_21 : decode jdk_43_method_13_code 21 = .ok (.if_icmp .eq 5, 3) := by decide +kernel
theorem d7_26 : decode jdk_43_method_13_code 26 = .ok (.iinc 2 1, 3) := by decide +kernel
theorem d7_29 : decode jdk_43_method_13_code 29 = .ok (.goto (-20), 3) := by decide +kernel
theorem d7_32 : decode jdk_43_method_13_code 32 = .ok (.iconst 1, 1) := by decide +kernel
theorem d7_33 : decode jdk_43_method_13_code 33 = .ok (.ireturn, 1) := by decide +kernel
theorem ef_le_1a (m : MethodId) (a0 : Addr) (a1 : Addr) : entryFrame m #[(.ref a0), (.ref a1)] 3 = mkF m 0 #[.val (.ref a0), .val (.ref a1), .unset] [] := by first | (simp [entryFrame, mkF, argsToLocals, Value.category]; done) | rfl
def Q_le_1a (Z : State) (a0 : Addr) (a1 : Addr) (k1 : ClassId) (k2 : ClassId) (w0 : Int32) (h0 : Heap) (n0 : Nat) (v : Option Value) (h : Heap) (L : List Loc) : Prop := v = some (.int (1 : Int32)) ∧ Fr n0 L ∧ h = h0
set_option maxRecDepth 65536 in
set_option maxHeartbeats 40000000 in
theorem le_1a (l : Launch) (Z : State) (aw : Array Value) (hw : ∀ d ∈ tables_1, d.before aw Z = true) (ws : List Jvm.Cond) (a0 : Addr) (a1 : Addr) (k1 : ClassId) (k2 : ClassId) (w0 : Int32) (h0 : Heap) (n0 : Nat) (Z0 : n0 ≤ h0.size) (V_a0 : Arv Z h0 a0 k1 .byte (1 : Int32) [(.int w0)] (.int (0 : Int32))) (V_a1 : Arv Z h0 a1 k2 .byte (1 : Int32) [(.int (88 : Int32))] (.int (0 : Int32))) (hX8 : w0 = (88 : Int32)) :
    MetFree l (⟨"java/lang/StringLatin1", "equals", "([B[B)Z"⟩ : MethodName) (head1 (Jvm.Cond.code (⟨"java/lang/StringLatin1", "equals", "([B[B)Z"⟩ : MethodName) jdk_43_method_13_code 3 (some .boolean) :: ws) ({ frames := 0, cells := 0, slots := 0, locals := 0 } : Room)) (fun a U => a = #[(.ref a0), (.ref a1)] ∧ Z.Warmed39 U.vm ∧ U.heap = h0) (fun _ _ _ _ _ => True) (fun _ U o U' => ∃ v L, o = .returned v ∧ Q_le_1a Z a0 a1 k1 k2 w0 h0 n0 v U'.heap L ∧ FrameEnd U o U' L ({ frames := 0, cells := 0, slots := 0, locals := 0 } : Room).cells ({ frames := 0, cells := 0, slots := 0, locals := 0 } : Room).slots) := by
  refine MetFree.of_bodySF (plainFor_of_name pn_3) hisR ?_
  intro p e s m args below meth c s₁ Bd hml0 hP hK
  obtain ⟨rfl, hZ, hh⟩ := hP
  have hx := Bd.exec
  have hby := Bd.bytes
  have hml : c.maxLocals = 3 := hml0
  have hown : s.vm.findClass "java/lang/StringLatin1" = some m.cls := findClass_of_methodNamed Bd.named
  have hnm := (name_of_methodNamed Bd.named Bd.method).1
  have X0 : Stand p l e ({ frames := 0, cells := 0, slots := 0, locals := 0 } : Room) s m #[(.ref a0), (.ref a1)] below meth c s₁ [] 0 0 := Stand.of_body Bd
  have e0 : s₁.heap = h0 := by rw [← hh, Bd.state]; rfl
  have N0 := Fr.nil n0
  have pre0 : ∀ t, Steps p.tables e below (s₁.setTop (mkF m 0 #[.val (.ref a0), .val (.ref a1), .unset] [])) t → Steps p.tables e below (s₁.setTop (entryFrame m #[(.ref a0), (.ref a1)] 3)) t := fun t k => castTop (ef_le_1a m a0 a1) k
  obtain ⟨cl628, Ar628, q628, S628, N628, H628, G628⟩ := id V_a0
  obtain ⟨cl629, Ar629, q629, S629, N629, H629, G629⟩ := id V_a1
  obtain ⟨cl630, Ar630, q630, S630, N630, H630, G630⟩ := id V_a0
  obtain ⟨cl631, Ar631, q631, S631, N631, H631, G631⟩ := id V_a0
  have hin631 : ¬ ((0 : Int32) < 0 ∨ cl631.slots.size ≤ ((0 : Int32)).toNatClampNeg) := inb_of S631 ⟨by decide, by decide⟩
  have hat631 : cl631.slots[((0 : Int32)).toNatClampNeg]? = some (.int w0) := Has.at H631 hin631 rfl
  obtain ⟨cl632, Ar632, q632, S632, N632, H632, G632⟩ := id V_a1
  have hin632 : ¬ ((0 : Int32) < 0 ∨ cl632.slots.size ≤ ((0 : Int32)).toNatClampNeg) := inb_of S632 ⟨by decide, by decide⟩
  have hat632 : cl632.slots[((0 : Int32)).toNatClampNeg]? = some (.int (88 : Int32)) := Has.at H632 hin632 rfl
  have c633 : w0 = (88 : Int32) := by
    exact hX8
  obtain ⟨cl634, Ar634, q634, S634, N634, H634, G634⟩ := id V_a0
  obtain ⟨fs, hr, hrun, hended, hW, hsame⟩ := X0.leave (v := some (.int (1 : Int32))) (fun h => by rw [Bd.returns] at h; cases h)
  refine ⟨_, _, pre0 _ ?_, hrun, hended, _, _, rfl, ?_, ⟨_, rfl⟩, hW, hsame.mono (by decide) (by decide)⟩
  ·
    show Steps p.tables e below (s₁.setTop (mkF m 0 #[.val (.ref a0), .val (.ref a1), .unset] [])) _
    refine XS.aloadN X0.here hx rfl (hb hby d7_0) rfl rfl ?_
    show Steps p.tables e below (s₁.setTop (mkF m 1 #[.val (.ref a0), .val (.ref a1), .unset] [(.ref a0)])) _
    refine X0.arraylength hx (by rw [e0]; exact Ar628.1) (State.isArrayOf_alike hZ.alike Ar628.2.1) (g := (mkF m 1 #[.val (.ref a0), .val (.ref a1), .unset] [(.ref a0)])) rfl rfl (hb hby d7_1) _ ?_
    rw [len_of S628 N628]
    show Steps p.tables e below (s₁.setTop (mkF m 2 #[.val (.ref a0), .val (.ref a1), .unset] [(.int (1 : Int32))])) _
    refine XS.aloadN X0.here hx rfl (hb hby d7_2) rfl rfl ?_
    show Steps p.tables e below (s₁.setTop (mkF m 3 #[.val (.ref a0), .val (.ref a1), .unset] [(.ref a1), (.int (1 : Int32))])) _
    refine X0.arraylength hx (by rw [e0]; exact Ar629.1) (State.isArrayOf_alike hZ.alike Ar629.2.1) (g := (mkF m 3 #[.val (.ref a0), .val (.ref a1), .unset] [(.ref a1), (.int (1 : Int32))])) rfl rfl (hb hby d7_3) _ ?_
    rw [len_of S629 N629]
    show Steps p.tables e below (s₁.setTop (mkF m 4 #[.val (.ref a0), .val (.ref a1), .unset] [(.int (1 : Int32)), (.int (1 : Int32))])) _
    refine XS.icmpNo X0.here hx rfl (hb hby d7_4) rfl (teq rfl).2 ?_
    show Steps p.tables e below (s₁.setTop (mkF m 7 #[.val (.ref a0), .val (.ref a1), .unset] [])) _
    refine XS.iconst X0.here hx rfl (hb hby d7_7) ?_
    show Steps p.tables e below (s₁.setTop (mkF m 8 #[.val (.ref a0), .val (.ref a1), .unset] [(.int (0 : Int32))])) _
    refine XS.istoreN X0.here hx rfl (hb hby d7_8) rfl (l' := #[.val (.ref a0), .val (.ref a1), .val (.int (0 : Int32))]) rfl ?_
    show Steps p.tables e below (s₁.setTop (mkF m 9 #[.val (.ref a0), .val (.ref a1), .val (.int (0 : Int32))] [])) _
    refine XS.iloadN X0.here hx rfl (hb hby d7_9) rfl ?_
    show Steps p.tables e below (s₁.setTop (mkF m 10 #[.val (.ref a0), .val (.ref a1), .val (.int (0 : Int32))] [(.int (0 : Int32))])) _
    refine XS.aloadN X0.here hx rfl (hb hby d7_10) rfl rfl ?_
    show Steps p.tables e below (s₁.setTop (mkF m 11 #[.val (.ref a0), .val (.ref a1), .val (.int (0 : Int32))] [(.ref a0), (.int (0 : Int32))])) _
    refine X0.arraylength hx (by rw [e0]; exact Ar630.1) (State.isArrayOf_alike hZ.alike Ar630.2.1) (g := (mkF m 11 #[.val (.ref a0), .val (.ref a1), .val (.int (0 : Int32))] [(.ref a0), (.int (0 : Int32))])) rfl rfl (hb hby d7_11) _ ?_
    rw [len_of S630 N630]
    show Steps p.tables e below (s₁.setTop (mkF m 12 #[.val (.ref a0), .val (.ref a1), .val (.int (0 : Int32))] [(.int (1 : Int32)), (.int (0 : Int32))])) _
    refine XS.icmpNo X0.here hx rfl (hb hby d7_12) rfl (tlt (by decide)).2.1 ?_
    show Steps p.tables e below (s₁.setTop (mkF m 15 #[.val (.ref a0), .val (.ref a1), .val (.int (0 : Int32))] [])) _
    refine XS.aloadN X0.here hx rfl (hb hby d7_15) rfl rfl ?_
    show Steps p.tables e below (s₁.setTop (mkF m 16 #[.val (.ref a0), .val (.ref a1), .val (.int (0 : Int32))] [(.ref a0)])) _
    refine XS.iloadN X0.here hx rfl (hb hby d7_16) rfl ?_
    show Steps p.tables e below (s₁.setTop (mkF m 17 #[.val (.ref a0), .val (.ref a1), .val (.int (0 : Int32))] [(.int (0 : Int32)), (.ref a0)])) _
    refine X0.baloadBytes hx (j := (0 : Int32)) (v := (.int w0)) (by rw [e0]; exact Ar631.1) (State.isArrayOf_alike hZ.alike Ar631.2.1) Ar631.2.2 hin631 hat631 (g := (mkF m 17 #[.val (.ref a0), .val (.ref a1), .val (.int (0 : Int32))] [(.int (0 : Int32)), (.ref a0)])) rfl rfl (hb hby d7_17) _ ?_
    show Steps p.tables e below (s₁.setTop (mkF m 18 #[.val (.ref a0), .val (.ref a1), .val (.int (0 : Int32))] [(.int w0)])) _
    refine XS.aloadN X0.here hx rfl (hb hby d7_18) rfl rfl ?_
    show Steps p.tables e below (s₁.setTop (mkF m 19 #[.val (.ref a0), .val (.ref a1), .val (.int (0 : Int32))] [(.ref a1), (.int w0)])) _
    refine XS.iloadN X0.here hx rfl (hb hby d7_19) rfl ?_
    show Steps p.tables e below (s₁.setTop (mkF m 20 #[.val (.ref a0), .val (.ref a1), .val (.int (0 : Int32))] [(.int (0 : Int32)), (.ref a1), (.int w0)])) _
    refine X0.baloadBytes hx (j := (0 : Int32)) (v := (.int (88 : Int32))) (by rw [e0]; exact Ar632.1) (State.isArrayOf_alike hZ.alike Ar632.2.1) Ar632.2.2 hin632 hat632 (g := (mkF m 20 #[.val (.ref a0), .val (.ref a1), .val (.int (0 : Int32))] [(.int (0 : Int32)), (.ref a1), (.int w0)])) rfl rfl (hb hby d7_20) _ ?_
    show Steps p.tables e below (s₁.setTop (mkF m 21 #[.val (.ref a0), .val (.ref a1), .val (.int (0 : Int32))] [(.int (88 : Int32)), (.int w0)])) _
    refine XS.icmpYes X0.here hx rfl (pc0 := 21) (pc' := 26) rfl (hb hby d7_21) rfl (teq c633).1 (by decide) (by decide) ?_
    show Steps p.tables e below (s₁.setTop (mkF m 26 #[.val (.ref a0), .val (.ref a1), .val (.int (0 : Int32))] [])) _
    refine XS.iinc X0.here hx rfl (hb hby d7_26) rfl (l' := #[.val (.ref a0), .val (.ref a1), .val (.int (1 : Int32))]) rfl ?_
    show Steps p.tables e below (s₁.setTop (mkF m 29 #[.val (.ref a0), .val (.ref a1), .val (.int (1 : Int32))] [])) _
    refine XS.goto X0.here hx rfl (pc0 := 29) (pc' := 9) rfl (hb hby d7_29) (by decide) (by decide) ?_
    show Steps p.tables e below (s₁.setTop (mkF m 9 #[.val (.ref a0), .val (.ref a1), .val (.int (1 : Int32))] [])) _
    refine XS.iloadN X0.here hx rfl (hb hby d7_9) rfl ?_
    show Steps p.tables e below (s₁.setTop (mkF m 10 #[.val (.ref a0), .val (.ref a1), .val (.int (1 : Int32))] [(.int (1 : Int32))])) _
    refine XS.aloadN X0.here hx rfl (hb hby d7_10) rfl rfl ?_
    show Steps p.tables e below (s₁.setTop (mkF m 11 #[.val (.ref a0), .val (.ref a1), .val (.int (1 : Int32))] [(.ref a0), (.int (1 : Int32))])) _
    refine X0.arraylength hx (by rw [e0]; exact Ar634.1) (State.isArrayOf_alike hZ.alike Ar634.2.1) (g := (mkF m 11 #[.val (.ref a0), .val (.ref a1), .val (.int (1 : Int32))] [(.ref a0), (.int (1 : Int32))])) rfl rfl (hb hby d7_11) _ ?_
    rw [len_of S634 N634]
    show Steps p.tables e below (s₁.setTop (mkF m 12 #[.val (.ref a0), .val (.ref a1), .val (.int (1 : Int32))] [(.int (1 : Int32)), (.int (1 : Int32))])) _
    refine XS.icmpYes X0.here hx rfl (pc0 := 12) (pc' := 32) rfl (hb hby d7_12) rfl (flt (by decide)).2.1 (by decide) (by decide) ?_
    show Steps p.tables e below (s₁.setTop (mkF m 32 #[.val (.ref a0), .val (.ref a1), .val (.int (1 : Int32))] [])) _
    refine XS.iconst X0.here hx rfl (hb hby d7_32) ?_
    show Steps p.tables e below (s₁.setTop (mkF m 33 #[.val (.ref a0), .val (.ref a1), .val (.int (1 : Int32))] [(.int (1 : Int32))])) _
    exact retZ X0 hx Bd.returns (by decide) (hb hby d7_33) hr
  ·
    show Q_le_1a Z a0 a1 k1 k2 w0 h0 n0 _ s₁.heap _
    rw [e0]
    exact ⟨rfl, N0, rfl⟩
theorem d6_5 : decode jdk_42_method_66_code 5 = .ok (.iconst 1, 1) := by decide +kernel
theorem d6_6 : decode jdk_42_method_66_code 6 = .ok (.ireturn, 1) := by decide +kernel
theorem d6_50 : decode jdk_42_method_66_code 50 = .ok (.iconst 1, 1) := by decide +kernel
theorem d6_51 : decode jdk_42_method_66_code 51 = .ok (.goto 4, 3) := by decide +kernel
theorem ef_eq_1a (m : MethodId) (a0 : Addr) (a1 : Addr) : entryFrame m #[(.ref a0), (.ref a1)] 3 = mkF m 0 #[.val (.ref a0), .val (.ref a1), .unset] [] := by first | (simp [entryFrame, mkF, argsToLocals, Value.category]; done) | rfl
def Q_eq_1a (Z : State) (a0 : Addr) (a1 : Addr) (t0 : Addr) (t1 : Addr) (k1 : ClassId) (k2 : ClassId) (w0 : Int32) (zc : Int32) (h0 : Heap) (n0 : Nat) (v : Option Value) (h : Heap) (L : List Loc) : Prop := v = some (.int (1 : Int32)) ∧ Fr n0 L ∧ h = h0
set_option maxRecDepth 65536 in
set_option maxHeartbeats 40000000 in
theorem eq_1a (l : Launch) (Z : State) (aw : Array Value) (hw : ∀ d ∈ tables_1, d.before aw Z = true) (ws : List Jvm.Cond) (a0 : Addr) (a1 : Addr) (t0 : Addr) (t1 : Addr) (k1 : ClassId) (k2 : ClassId) (w0 : Int32) (zc : Int32) (h0 : Heap) (n0 : Nat) (Z0 : n0 ≤ h0.size) (E_a1 : Exa Z h0 a1 "java/lang/String") (F_a0_coder : Fld Z h0 a0 "java/lang/String" "coder" "B" (.int (0 : Int32))) (F_a0_value : Fld Z h0 a0 "java/lang/String" "value" "[B" (.ref t0)) (F_a1_coder : Fld Z h0 a1 "java/lang/String" "coder" "B" (.int (0 : Int32))) (F_a1_value : Fld Z h0 a1 "java/lang/String" "value" "[B" (.ref t1)) (V_t0 : Arv Z h0 t0 k1 .byte (1 : Int32) [(.int w0)] (.int (0 : Int32))) (V_t1 : Arv Z h0 t1 k2 .byte (1 : Int32) [(.int (88 : Int32))] (.int (0 : Int32))) (OLD : Old Z n0 h0) (O_COMPACT_STRINGS : Sta Z Z.heap "java/lang/String" "COMPACT_STRINGS" "Z" (.int zc)) (hzc : ¬ (zc = (0 : Int32))) (hX8 : w0 = (88 : Int32)) :
    MetFree l (⟨"java/lang/String", "equals", "(Ljava/lang/Object;)Z"⟩ : MethodName) (head1 (Jvm.Cond.code (⟨"java/lang/String", "equals", "(Ljava/lang/Object;)Z"⟩ : MethodName) jdk_42_method_66_code 3 (some .boolean) :: ws) ({ frames := 1, cells := 0, slots := 0, locals := 14 } : Room)) (fun a U => a = #[(.ref a0), (.ref a1)] ∧ Z.Warmed39 U.vm ∧ U.heap = h0) (fun _ _ _ _ _ => True) (fun _ U o U' => ∃ v L, o = .returned v ∧ Q_eq_1a Z a0 a1 t0 t1 k1 k2 w0 zc h0 n0 v U'.heap L ∧ FrameEnd U o U' L ({ frames := 1, cells := 0, slots := 0, locals := 14 } : Room).cells ({ frames := 1, cells := 0, slots := 0, locals := 14 } : Room).slots) := by
  refine MetFree.of_bodySF (plainFor_of_name pn_1) hisR ?_
  intro p e s m args below meth c s₁ Bd hml0 hP hK
  obtain ⟨rfl, hZ, hh⟩ := hP
  have hx := Bd.exec
  have hby := Bd.bytes
  have hml : c.maxLocals = 3 := hml0
  have hown : s.vm.findClass "java/lang/String" = some m.cls := findClass_of_methodNamed Bd.named
  have hnm := (name_of_methodNamed Bd.named Bd.method).1
  have X0 : Stand p l e ({ frames := 1, cells := 0, slots := 0, locals := 14 } : Room) s m #[(.ref a0), (.ref a1)] below meth c s₁ [] 0 0 := Stand.of_body Bd
  have e0 : s₁.heap = h0 := by rw [← hh, Bd.state]; rfl
  have N0 := Fr.nil n0
  have pre0 : ∀ t, Steps p.tables e below (s₁.setTop (mkF m 0 #[.val (.ref a0), .val (.ref a1), .unset] [])) t → Steps p.tables e below (s₁.setTop (entryFrame m #[(.ref a0), (.ref a1)] 3)) t := fun t k => castTop (ef_eq_1a m a0 a1) k
  have pre636 : ∀ t, Steps p.tables e below (s₁.setTop (mkF m 2 #[.val (.ref a0), .val (.ref a1), .unset] [(.ref a1), (.ref a0)])) t → Steps p.tables e below (s₁.setTop (entryFrame m #[(.ref a0), (.ref a1)] 3)) t := fun t k => by
    refine pre0 t ?_
    show Steps p.tables e below (s₁.setTop (mkF m 0 #[.val (.ref a0), .val (.ref a1), .unset] [])) _
    refine XS.aloadN X0.here hx rfl (hb hby d6_0) rfl rfl ?_
    show Steps p.tables e below (s₁.setTop (mkF m 1 #[.val (.ref a0), .val (.ref a1), .unset] [(.ref a0)])) _
    refine XS.aloadN X0.here hx rfl (hb hby d6_1) rfl rfl ?_
    exact k
  by_cases c635 : a0 = a1
  ·
    obtain ⟨fs, hr, hrun, hended, hW, hsame⟩ := X0.leave (v := some (.int (1 : Int32))) (fun h => by rw [Bd.returns] at h; cases h)
    refine ⟨_, _, pre636 _ ?_, hrun, hended, _, _, rfl, ?_, ⟨_, rfl⟩, hW, hsame.mono (by decide) (by decide)⟩
    ·
      show Steps p.tables e below (s₁.setTop (mkF m 2 #[.val (.ref a0), .val (.ref a1), .unset] [(.ref a1), (.ref a0)])) _
      refine Jvm.RoadKit.acmp (g := (mkF m 2 #[.val (.ref a0), .val (.ref a1), .unset] [(.ref a1), (.ref a0)])) X0 hx rfl rfl rfl (pc0 := 2) (pc' := 5) (same := true) rfl (hb hby d6_2) rfl (decide_eq_true (congrArg Value.ref c635)) (by decide) (by decide) ?_
      show Steps p.tables e below (s₁.setTop (mkF m 5 #[.val (.ref a0), .val (.ref a1), .unset] [])) _
      refine XS.iconst X0.here hx rfl (hb hby d6_5) ?_
      show Steps p.tables e below (s₁.setTop (mkF m 6 #[.val (.ref a0), .val (.ref a1), .unset] [(.int (1 : Int32))])) _
      exact retZ X0 hx Bd.returns (by decide) (hb hby d6_6) hr
    ·
      show Q_eq_1a Z a0 a1 t0 t1 k1 k2 w0 zc h0 n0 _ s₁.heap _
      rw [e0]
      exact ⟨rfl, N0, rfl⟩
  ·
    obtain ⟨T637, X637, e637, st637⟩ := instY X0 hx hZ hown (hw _ (List.mem_of_getElem? (i := 36) rfl)) e0 (Ins.self E_a1) (g := (mkF m 8 #[.val (.ref a0), .val (.ref a1), .unset] [(.ref a1)])) rfl rfl (hb hby d6_8)
    obtain ⟨T638, X638, e638, st638⟩ := castY X637 hx hZ hown (hw _ (List.mem_of_getElem? (i := 36) rfl)) e637 (Ins.self E_a1) (g := (mkF m 15 #[.val (.ref a0), .val (.ref a1), .unset] [(.ref a1)])) rfl rfl (hb hby d6_15)
    obtain ⟨T639, X639, e639, st639⟩ := getS2 X638 hx hZ hown (host := "") (Or.inl (hw _ (List.mem_of_getElem? (i := 37) rfl))) Via.refl e638 (Sta.ext OLD.2 O_COMPACT_STRINGS) (g := (mkF m 19 #[.val (.ref a0), .val (.ref a1), .val (.ref a1)] [])) rfl (hb hby d6_19)
    have c640 : ¬ (zc = (0 : Int32)) := by
      exact hzc
    obtain ⟨T641, X641, e641, st641⟩ := getF X639 hx hZ hown (host := "") (Or.inl (hw _ (List.mem_of_getElem? (i := 25) rfl))) Via.refl e639 F_a0_coder (g := (mkF m 26 #[.val (.ref a0), .val (.ref a1), .val (.ref a1)] [(.ref a0)])) rfl rfl (hb hby d6_26)
    obtain ⟨T642, X642, e642, st642⟩ := getF X641 hx hZ hown (host := "") (Or.inl (hw _ (List.mem_of_getElem? (i := 25) rfl))) Via.refl e641 F_a1_coder (g := (mkF m 30 #[.val (.ref a0), .val (.ref a1), .val (.ref a1)] [(.ref a1), (.int (0 : Int32))])) rfl rfl (hb hby d6_30)
    obtain ⟨T643, X643, e643, st643⟩ := getF X642 hx hZ hown (host := "") (Or.inl (hw _ (List.mem_of_getElem? (i := 24) rfl))) Via.refl e642 F_a0_value (g := (mkF m 37 #[.val (.ref a0), .val (.ref a1), .val (.ref a1)] [(.ref a0)])) rfl rfl (hb hby d6_37)
    obtain ⟨T644, X644, e644, st644⟩ := getF X643 hx hZ hown (host := "") (Or.inl (hw _ (List.mem_of_getElem? (i := 24) rfl))) Via.refl e643 F_a1_value (g := (mkF m 41 #[.val (.ref a0), .val (.ref a1), .val (.ref a1)] [(.ref a1), (.ref t0)])) rfl rfl (hb hby d6_41)
    obtain ⟨_, _, ⟨T645, L645, k645, n645⟩, -, X645, ⟨Lc645, hQ645, l645, y645, z645⟩, st645⟩ := Jvm.LawKit.callS X644 hx (y := (⟨"java/lang/StringLatin1", "equals", "([B[B)Z"⟩ : MethodName)) hown (mvT hZ (hw _ (List.mem_of_getElem? (i := 38) rfl))) (mvT hZ (hw _ (List.mem_of_getElem? (i := 39) rfl))) (mvT hZ (hw _ (List.mem_of_getElem? (i := 40) rfl))) (mvT hZ (hw _ (List.mem_of_getElem? (i := 41) rfl))) (by decide) (backOf (W := 0) (le_1a l Z aw hw [] t0 t1 k1 k2 w0 h0 n0 Z0 V_t0 V_t1 hX8) hZ (hw _ (List.mem_of_getElem? (i := 41) rfl)) (hw _ (List.mem_of_getElem? (i := 40) rfl)) (by decide) (by decide)) (g := (mkF m 44 #[.val (.ref a0), .val (.ref a1), .val (.ref a1)] [(.ref t1), (.ref t0)])) rfl (by rw [hml]; rfl) (argsL := [(.ref t0), (.ref t1)]) (rest := []) (lenOf pd_5 rfl) rfl (by show 2 * 0 + _ ≤ _; exact Nat.le_of_eq rfl) (hb hby d6_44) (fun _ _ => ⟨rfl, e644, (by decide : 0 + 0 ≤ _), (by decide : 0 + 0 ≤ _)⟩)
    dsimp only [Pt.U, Pt.locs, Pt.cells, Pt.slots] at X645 l645 y645 z645 st645 hQ645
    replace l645 := l645.symm; replace y645 := y645.symm; replace z645 := z645.symm; subst l645 y645 z645
    obtain ⟨rfl, N645q, e645⟩ := hQ645
    have N645 := Fr.app N0 N645q
    obtain ⟨fs, hr, hrun, hended, hW, hsame⟩ := X645.leave (v := some (.int (1 : Int32))) (fun h => by rw [Bd.returns] at h; cases h)
    refine ⟨_, _, pre636 _ ?_, hrun, hended, _, _, rfl, ?_, ⟨_, rfl⟩, hW, hsame.mono (by decide) (by decide)⟩
    ·
      show Steps p.tables e below (s₁.setTop (mkF m 2 #[.val (.ref a0), .val (.ref a1), .unset] [(.ref a1), (.ref a0)])) _
      refine Jvm.RoadKit.acmp (g := (mkF m 2 #[.val (.ref a0), .val (.ref a1), .unset] [(.ref a1), (.ref a0)])) X0 hx rfl rfl rfl (pc0 := 2) (pc' := 7) (same := false) rfl (hb hby d6_2) rfl (decide_eq_false fun q => c635 (Value.ref.inj q)) (by decide) (by decide) ?_
      show Steps p.tables e below (s₁.setTop (mkF m 7 #[.val (.ref a0), .val (.ref a1), .unset] [])) _
      refine XS.aloadN X0.here hx rfl (hb hby d6_7) rfl rfl ?_
      show Steps p.tables e below (s₁.setTop (mkF m 8 #[.val (.ref a0), .val (.ref a1), .unset] [(.ref a1)])) _
      refine st637 _ ?_
      show Steps p.tables e below (T637.setTop (mkF m 11 #[.val (.ref a0), .val (.ref a1), .unset] [(.int (1 : Int32))])) _
      refine XS.ifNo X637.here hx rfl (hb hby d6_11) rfl ((if0 _ _).trans (feq (by decide)).1) ?_
      show Steps p.tables e below (T637.setTop (mkF m 14 #[.val (.ref a0), .val (.ref a1), .unset] [])) _
      refine XS.aloadN X637.here hx rfl (hb hby d6_14) rfl rfl ?_
      show Steps p.tables e below (T637.setTop (mkF m 15 #[.val (.ref a0), .val (.ref a1), .unset] [(.ref a1)])) _
      refine st638 _ ?_
      show Steps p.tables e below (T638.setTop (mkF m 18 #[.val (.ref a0), .val (.ref a1), .unset] [(.ref a1)])) _
      refine XS.astoreN X638.here hx rfl (hb hby d6_18) rfl rfl (l' := #[.val (.ref a0), .val (.ref a1), .val (.ref a1)]) rfl ?_
      show Steps p.tables e below (T638.setTop (mkF m 19 #[.val (.ref a0), .val (.ref a1), .val (.ref a1)] [])) _
      refine st639 _ ?_
      show Steps p.tables e below (T639.setTop (mkF m 22 #[.val (.ref a0), .val (.ref a1), .val (.ref a1)] [(.int zc)])) _
      refine XS.ifNo X639.here hx rfl (hb hby d6_22) rfl ((if0 _ _).trans (feq c640).1) ?_
      show Steps p.tables e below (T639.setTop (mkF m 25 #[.val (.ref a0), .val (.ref a1), .val (.ref a1)] [])) _
      refine XS.aloadN X639.here hx rfl (hb hby d6_25) rfl rfl ?_
      show Steps p.tables e below (T639.setTop (mkF m 26 #[.val (.ref a0), .val (.ref a1), .val (.ref a1)] [(.ref a0)])) _
      refine st641 _ ?_
      show Steps p.tables e below (T641.setTop (mkF m 29 #[.val (.ref a0), .val (.ref a1), .val (.ref a1)] [(.int (0 : Int32))])) _
      refine XS.aloadN X641.here hx rfl (hb hby d6_29) rfl rfl ?_
      show Steps p.tables e below (T641.setTop (mkF m 30 #[.val (.ref a0), .val (.ref a1), .val (.ref a1)] [(.ref a1), (.int (0 : Int32))])) _
      refine st642 _ ?_
      show Steps p.tables e below (T642.setTop (mkF m 33 #[.val (.ref a0), .val (.ref a1), .val (.ref a1)] [(.int (0 : Int32)), (.int (0 : Int32))])) _
      refine XS.icmpNo X642.here hx rfl (hb hby d6_33) rfl (teq rfl).2 ?_
      show Steps p.tables e below (T642.setTop (mkF m 36 #[.val (.ref a0), .val (.ref a1), .val (.ref a1)] [])) _
      refine XS.aloadN X642.here hx rfl (hb hby d6_36) rfl rfl ?_
      show Steps p.tables e below (T642.setTop (mkF m 37 #[.val (.ref a0), .val (.ref a1), .val (.ref a1)] [(.ref a0)])) _
      refine st643 _ ?_
      show Steps p.tables e below (T643.setTop (mkF m 40 #[.val (.ref a0), .val (.ref a1), .val (.ref a1)] [(.ref t0)])) _
      refine XS.aloadN X643.here hx rfl (hb hby d6_40) rfl rfl ?_
      show Steps p.tables e below (T643.setTop (mkF m 41 #[.val (.ref a0), .val (.ref a1), .val (.ref a1)] [(.ref a1), (.ref t0)])) _
      refine st644 _ ?_
      show Steps p.tables e below (T644.setTop (mkF m 44 #[.val (.ref a0), .val (.ref a1), .val (.ref a1)] [(.ref t1), (.ref t0)])) _
      refine st645 _ ?_
      show Steps p.tables e below (T645.setTop (mkF m 47 #[.val (.ref a0), .val (.ref a1), .val (.ref a1)] [(.int (1 : Int32))])) _
      refine XS.ifNo X645.here hx rfl (hb hby d6_47) rfl ((if0 _ _).trans (feq (by decide)).1) ?_
      show Steps p.tables e below (T645.setTop (mkF m 50 #[.val (.ref a0), .val (.ref a1), .val (.ref a1)] [])) _
      refine XS.iconst X645.here hx rfl (hb hby d6_50) ?_
      show Steps p.tables e below (T645.setTop (mkF m 51 #[.val (.ref a0), .val (.ref a1), .val (.ref a1)] [(.int (1 : Int32))])) _
      refine XS.goto X645.here hx rfl (pc0 := 51) (pc' := 55) rfl (hb hby d6_51) (by decide) (by decide) ?_
      show Steps p.tables e below (T645.setTop (mkF m 55 #[.val (.ref a0), .val (.ref a1), .val (.ref a1)] [(.int (1 : Int32))])) _
      exact retZ X645 hx Bd.returns (by decide) (hb hby d6_55) hr
    ·
      show Q_eq_1a Z a0 a1 t0 t1 k1 k2 w0 zc h0 n0 _ T645.heap _
      rw [e645]
      exact ⟨rfl, N645, rfl⟩
theorem d7_24 : decode jdk_43_method_13_code 24 = .ok (.iconst 0, 1) := by decide +kernel
theorem d7_25 : decode jdk_43_method_13_code 25 = .ok (.ireturn, 1) := by decide +kernel
theorem ef_le_1b (m : MethodId) (a0 : Addr) (a1 : Addr) : entryFrame m #[(.ref a0), (.ref a1)] 3 = mkF m 0 #[.val (.ref a0), .val (.ref a1), .unset] [] := by first | (simp [entryFrame, mkF, argsToLocals, Value.category]; done) | rfl
def Q_le_1b (Z : State) (a0 : Addr) (a1 : Addr) (k1 : ClassId) (k2 : ClassId) (w0 : Int32) (h0 : Heap) (n0 : Nat) (v : Option Value) (h : Heap) (L : List Loc) : Prop := v = some (.int (0 : Int32)) ∧ Fr n0 L ∧ h = h0
set_option maxRecDepth 65536 in
set_option maxHeartbeats 40000000 in
theorem le_1b (l : Launch) (Z : State) (aw : Array Value) (hw : ∀ d ∈ tables_1, d.before aw Z = true) (ws : List Jvm.Cond) (a0 : Addr) (a1 : Addr) (k1 : ClassId) (k2 : ClassId) (w0 : Int32) (h0 : Heap) (n0 : Nat) (Z0 : n0 ≤ h0.size) (V_a0 : Arv Z h0 a0 k1 .byte (1 : Int32) [(.int w0)] (.int (0 : Int32))) (V_a1 : Arv Z h0 a1 k2 .byte (1 : Int32) [(.int (88 : Int32))] (.int (0 : Int32))) (hX8 : ¬ (w0 = (88 : Int32))) :
    MetFree l (⟨"java/lang/StringLatin1", "equals", "([B[B)Z"⟩ : MethodName) (head1 (Jvm.Cond.code (⟨"java/lang/StringLatin1", "equals", "([B[B)Z"⟩ : MethodName) jdk_43_method_13_code 3 (some .boolean) :: ws) ({ frames := 0, cells := 0, slots := 0, locals := 0 } : Room)) (fun a U => a = #[(.ref a0), (.ref a1)] ∧ Z.Warmed39 U.vm ∧ U.heap = h0) (fun _ _ _ _ _ => True) (fun _ U o U' => ∃ v L, o = .returned v ∧ Q_le_1b Z a0 a1 k1 k2 w0 h0 n0 v U'.heap L ∧ FrameEnd U o U' L ({ frames := 0, cells := 0, slots := 0, locals := 0 } : Room).cells ({ frames := 0, cells := 0, slots := 0, locals := 0 } : Room).slots) := by
  refine MetFree.of_bodySF (plainFor_of_name pn_3) hisR ?_
  intro p e s m args below meth c s₁ Bd hml0 hP hK
  obtain ⟨rfl, hZ, hh⟩ := hP
  have hx := Bd.exec
  have hby := Bd.bytes
  have hml : c.maxLocals = 3 := hml0
  have hown : s.vm.findClass "java/lang/StringLatin1" = some m.cls := findClass_of_methodNamed Bd.named
  have hnm := (name_of_methodNamed Bd.named Bd.method).1
  have X0 : Stand p l e ({ frames := 0, cells := 0, slots := 0, locals := 0 } : Room) s m #[(.ref a0), (.ref a1)] below meth c s₁ [] 0 0 := Stand.of_body Bd
  have e0 : s₁.heap = h0 := by rw [← hh, Bd.state]; rfl
  have N0 := Fr.nil n0
  have pre0 : ∀ t, Steps p.tables e below (s₁.setTop (mkF m 0 #[.val (.ref a0), .val (.ref a1), .unset] [])) t → Steps p.tables e below (s₁.setTop (entryFrame m #[(.ref a0), (.ref a1)] 3)) t := fun t k => castTop (ef_le_1b m a0 a1) k
  obtain ⟨cl646, Ar646, q646, S646, N646, H646, G646⟩ := id V_a0
  obtain ⟨cl647, Ar647, q647, S647, N647, H647, G647⟩ := id V_a1
  obtain ⟨cl648, Ar648, q648, S648, N648, H648, G648⟩ := id V_a0
  obtain ⟨cl649, Ar649, q649, S649, N649, H649, G649⟩ := id V_a0
  have hin649 : ¬ ((0 : Int32) < 0 ∨ cl649.slots.size ≤ ((0 : Int32)).toNatClampNeg) := inb_of S649 ⟨by decide, by decide⟩
  have hat649 : cl649.slots[((0 : Int32)).toNatClampNeg]? = some (.int w0) := Has.at H649 hin649 rfl
  obtain ⟨cl650, Ar650, q650, S650, N650, H650, G650⟩ := id V_a1
  have hin650 : ¬ ((0 : Int32) < 0 ∨ cl650.slots.size ≤ ((0 : Int32)).toNatClampNeg) := inb_of S650 ⟨by decide, by decide⟩
  have hat650 : cl650.slots[((0 : Int32)).toNatClampNeg]? = some (.int (88 : Int32)) := Has.at H650 hin650 rfl
  have c651 : ¬ (w0 = (88 : Int32)) := by
    exact hX8
  obtain ⟨fs, hr, hrun, hended, hW, hsame⟩ := X0.leave (v := some (.int (0 : Int32))) (fun h => by rw [Bd.returns] at h; cases h)
  refine ⟨_, _, pre0 _ ?_, hrun, hended, _, _, rfl, ?_, ⟨_, rfl⟩, hW, hsame.mono (by decide) (by decide)⟩
  ·
    show Steps p.tables e below (s₁.setTop (mkF m 0 #[.val (.ref a0), .val (.ref a1), .unset] [])) _
    refine XS.aloadN X0.here hx rfl (hb hby d7_0) rfl rfl ?_
    show Steps p.tables e below (s₁.setTop (mkF m 1 #[.val (.ref a0), .val (.ref a1), .unset] [(.ref a0)])) _
    refine X0.arraylength hx (by rw [e0]; exact Ar646.1) (State.isArrayOf_alike hZ.alike Ar646.2.1) (g := (mkF m 1 #[.val (.ref a0), .val (.ref a1), .unset] [(.ref a0)])) rfl rfl (hb hby d7_1) _ ?_
    rw [len_of S646 N646]
    show Steps p.tables e below (s₁.setTop (mkF m 2 #[.val (.ref a0), .val (.ref a1), .unset] [(.int (1 : Int32))])) _
    refine XS.aloadN X0.here hx rfl (hb hby d7_2) rfl rfl ?_
    show Steps p.tables e below (s₁.setTop (mkF m 3 #[.val (.ref a0), .val (.ref a1), .unset] [(.ref a1), (.int (1 : Int32))])) _
    refine X0.arraylength hx (by rw [e0]; exact Ar647.1) (State.isArrayOf_alike hZ.alike Ar647.2.1) (g := (mkF m 3 #[.val (.ref a0), .val (.ref a1), .unset] [(.ref a1), (.int (1 : Int32))])) rfl rfl (hb hby d7_3) _ ?_
    rw [len_of S647 N647]
    show Steps p.tables e below (s₁.setTop (mkF m 4 #[.val (.ref a0), .val (.ref a1), .unset] [(.int (1 : Int32)), (.int (1 : Int32))])) _
    refine XS.icmpNo X0.here hx rfl (hb hby d7_4) rfl (teq rfl).2 ?_
    show Steps p.tables e below (s₁.setTop (mkF m 7 #[.val (.ref a0), .val (.ref a1), .unset] [])) _
    refine XS.iconst X0.here hx rfl (hb hby d7_7) ?_
    show Steps p.tables e below (s₁.setTop (mkF m 8 #[.val (.ref a0), .val (.ref a1), .unset] [(.int (0 : Int32))])) _
    refine XS.istoreN X0.here hx rfl (hb hby d7_8) rfl (l' := #[.val (.ref a0), .val (.ref a1), .val (.int (0 : Int32))]) rfl ?_
    show Steps p.tables e below (s₁.setTop (mkF m 9 #[.val (.ref a0), .val (.ref a1), .val (.int (0 : Int32))] [])) _
    refine XS.iloadN X0.here hx rfl (hb hby d7_9) rfl ?_
    show Steps p.tables e below (s₁.setTop (mkF m 10 #[.val (.ref a0), .val (.ref a1), .val (.int (0 : Int32))] [(.int (0 : Int32))])) _
    refine XS.aloadN X0.here hx rfl (hb hby d7_10) rfl rfl ?_
    show Steps p.tables e below (s₁.setTop (mkF m 11 #[.val (.ref a0), .val (.ref a1), .val (.int (0 : Int32))] [(.ref a0), (.int (0 : Int32))])) _
    refine X0.arraylength hx (by rw [e0]; exact Ar648.1) (State.isArrayOf_alike hZ.alike Ar648.2.1) (g := (mkF m 11 #[.val (.ref a0), .val (.ref a1), .val (.int (0 : Int32))] [(.ref a0), (.int (0 : Int32))])) rfl rfl (hb hby d7_11) _ ?_
    rw [len_of S648 N648]
    show Steps p.tables e below (s₁.setTop (mkF m 12 #[.val (.ref a0), .val (.ref a1), .val (.int (0 : Int32))] [(.int (1 : Int32)), (.int (0 : Int32))])) _
    refine XS.icmpNo X0.here hx rfl (hb hby d7_12) rfl (tlt (by decide)).2.1 ?_
    show Steps p.tables e below (s₁.setTop (mkF m 15 #[.val (.ref a0), .val (.ref a1), .val (.int (0 : Int32))] [])) _
    refine XS.aloadN X0.here hx rfl (hb hby d7_15) rfl rfl ?_
    show Steps p.tables e below (s₁.setTop (mkF m 16 #[.val (.ref a0), .val (.ref a1), .val (.int (0 : Int32))] [(.ref a0)])) _
    refine XS.iloadN X0.here hx rfl (hb hby d7_16) rfl ?_
    show Steps p.tables e below (s₁.setTop (mkF m 17 #[.val (.ref a0), .val (.ref a1), .val (.int (0 : Int32))] [(.int (0 : Int32)), (.ref a0)])) _
    refine X0.baloadBytes hx (j := (0 : Int32)) (v := (.int w0)) (by rw [e0]; exact Ar649.1) (State.isArrayOf_alike hZ.alike Ar649.2.1) Ar649.2.2 hin649 hat649 (g := (mkF m 17 #[.val (.ref a0), .val (.ref a1), .val (.int (0 : Int32))] [(.int (0 : Int32)), (.ref a0)])) rfl rfl (hb hby d7_17) _ ?_
    show Steps p.tables e below (s₁.setTop (mkF m 18 #[.val (.ref a0), .val (.ref a1), .val (.int (0 : Int32))] [(.int w0)])) _
    refine XS.aloadN X0.here hx rfl (hb hby d7_18) rfl rfl ?_
    show Steps p.tables e below (s₁.setTop (mkF m 19 #[.val (.ref a0), .val (.ref a1), .val (.int (0 : Int32))] [(.ref a1), (.int w0)])) _
    refine XS.iloadN X0.here hx rfl (hb hby d7_19) rfl ?_
    show Steps p.tables e below (s₁.setTop (mkF m 20 #[.val (.ref a0), .val (.ref a1), .val (.int (0 : Int32))] [(.int (0 : Int32)), (.ref a1), (.int w0)])) _
    refine X0.baloadBytes hx (j := (0 : Int32)) (v := (.int (88 : Int32))) (by rw [e0]; exact Ar650.1) (State.isArrayOf_alike hZ.alike Ar650.2.1) Ar650.2.2 hin650 hat650 (g := (mkF m 20 #[.val (.ref a0), .val (.ref a1), .val (.int (0 : Int32))] [(.int (0 : Int32)), (.ref a1), (.int w0)])) rfl rfl (hb hby d7_20) _ ?_
    show Steps p.tables e below (s₁.setTop (mkF m 21 #[.val (.ref a0), .val (.ref a1), .val (.int (0 : Int32))] [(.int (88 : Int32)), (.int w0)])) _
    refine XS.icmpNo X0.here hx rfl (hb hby d7_21) rfl (feq c651).1 ?_
    show Steps p.tables e below (s₁.setTop (mkF m 24 #[.val (.ref a0), .val (.ref a1), .val (.int (0 : Int32))] [])) _
    refine XS.iconst X0.here hx rfl (hb hby d7_24) ?_
    show Steps p.tables e below (s₁.setTop (mkF m 25 #[.val (.ref a0), .val (.ref a1), .val (.int (0 : Int32))] [(.int (0 : Int32))])) _
    exact retZ X0 hx Bd.returns (by decide) (hb hby d7_25) hr
  ·
    show Q_le_1b Z a0 a1 k1 k2 w0 h0 n0 _ s₁.heap _
    rw [e0]
    exact ⟨rfl, N0, rfl⟩
theorem ef_eq_1b (m : MethodId) (a0 : Addr) (a1 : Addr) : entryFrame m #[(.ref a0), (.ref a1)] 3 = mkF m 0 #[.val (.ref a0), .val (.ref a1), .unset] [] := by first | (simp [entryFrame, mkF, argsToLocals, Value.category]; done) | rfl
def Q_eq_1b (Z : State) (a0 : Addr) (a1 : Addr) (t0 : Addr) (t1 : Addr) (k1 : ClassId) (k2 : ClassId) (w0 : Int32) (zc : Int32) (h0 : Heap) (n0 : Nat) (v : Option Value) (h : Heap) (L : List Loc) : Prop := v = some (.int (0 : Int32)) ∧ Fr n0 L ∧ h = h0
set_option maxRecDepth 65536 in
set_option maxHeartbeats 40000000 in
theorem eq_1b (l : Launch) (Z : State) (aw : Array Value) (hw : ∀ d ∈ tables_1, d.before aw Z = true) (ws : List Jvm.Cond) (a0 : Addr) (a1 : Addr) (t0 : Addr) (t1 : Addr) (k1 : ClassId) (k2 : ClassId) (w0 : Int32) (zc : Int32) (h0 : Heap) (n0 : Nat) (Z0 : n0 ≤ h0.size) (E_a1 : Exa Z h0 a1 "java/lang/String") (F_a0_coder : Fld Z h0 a0 "java/lang/String" "coder" "B" (.int (0 : Int32))) (F_a0_value : Fld Z h0 a0 "java/lang/String" "value" "[B" (.ref t0)) (F_a1_coder : Fld Z h0 a1 "java/lang/String" "coder" "B" (.int (0 : Int32))) (F_a1_value : Fld Z h0 a1 "java/lang/String" "value" "[B" (.ref t1)) (V_t0 : Arv Z h0 t0 k1 .byte (1 : Int32) [(.int w0)] (.int (0 : Int32))) (V_t1 : Arv Z h0 t1 k2 .byte (1 : Int32) [(.int (88 : Int32))] (.int (0 : Int32))) (OLD : Old Z n0 h0) (O_COMPACT_STRINGS : Sta Z Z.heap "java/lang/String" "COMPACT_STRINGS" "Z" (.int zc)) (hzc : ¬ (zc = (0 : Int32))) (hX8 : ¬ (w0 = (88 : Int32))) (ne_a0_a1 : a0 ≠ a1) :
    MetFree l (⟨"java/lang/String", "equals", "(Ljava/lang/Object;)Z"⟩ : MethodName) (head1 (Jvm.Cond.code (⟨"java/lang/String", "equals", "(Ljava/lang/Object;)Z"⟩ : MethodName) jdk_42_method_66_code 3 (some .boolean) :: ws) ({ frames := 1, cells := 0, slots := 0, locals := 14 } : Room)) (fun a U => a = #[(.ref a0), (.ref a1)] ∧ Z.Warmed39 U.vm ∧ U.heap = h0) (fun _ _ _ _ _ => True) (fun _ U o U' => ∃ v L, o = .returned v ∧ Q_eq_1b Z a0 a1 t0 t1 k1 k2 w0 zc h0 n0 v U'.heap L ∧ FrameEnd U o U' L ({ frames := 1, cells := 0, slots := 0, locals := 14 } : Room).cells ({ frames := 1, cells := 0, slots := 0, locals := 14 } : Room).slots) := by
  refine MetFree.of_bodySF (plainFor_of_name pn_1) hisR ?_
  intro p e s m args below meth c s₁ Bd hml0 hP hK
  obtain ⟨rfl, hZ, hh⟩ := hP
  have hx := Bd.exec
  have hby := Bd.bytes
  have hml : c.maxLocals = 3 := hml0
  have hown : s.vm.findClass "java/lang/String" = some m.cls := findClass_of_methodNamed Bd.named
  have hnm := (name_of_methodNamed Bd.named Bd.method).1
  have X0 : Stand p l e ({ frames := 1, cells := 0, slots := 0, locals := 14 } : Room) s m #[(.ref a0), (.ref a1)] below meth c s₁ [] 0 0 := Stand.of_body Bd
  have e0 : s₁.heap = h0 := by rw [← hh, Bd.state]; rfl
  have N0 := Fr.nil n0
  have pre0 : ∀ t, Steps p.tables e below (s₁.setTop (mkF m 0 #[.val (.ref a0), .val (.ref a1), .unset] [])) t → Steps p.tables e below (s₁.setTop (entryFrame m #[(.ref a0), (.ref a1)] 3)) t := fun t k => castTop (ef_eq_1b m a0 a1) k
  obtain ⟨T652, X652, e652, st652⟩ := instY X0 hx hZ hown (hw _ (List.mem_of_getElem? (i := 36) rfl)) e0 (Ins.self E_a1) (g := (mkF m 8 #[.val (.ref a0), .val (.ref a1), .unset] [(.ref a1)])) rfl rfl (hb hby d6_8)
  obtain ⟨T653, X653, e653, st653⟩ := castY X652 hx hZ hown (hw _ (List.mem_of_getElem? (i := 36) rfl)) e652 (Ins.self E_a1) (g := (mkF m 15 #[.val (.ref a0), .val (.ref a1), .unset] [(.ref a1)])) rfl rfl (hb hby d6_15)
  obtain ⟨T654, X654, e654, st654⟩ := getS2 X653 hx hZ hown (host := "") (Or.inl (hw _ (List.mem_of_getElem? (i := 37) rfl))) Via.refl e653 (Sta.ext OLD.2 O_COMPACT_STRINGS) (g := (mkF m 19 #[.val (.ref a0), .val (.ref a1), .val (.ref a1)] [])) rfl (hb hby d6_19)
  have c655 : ¬ (zc = (0 : Int32)) := by
    exact hzc
  obtain ⟨T656, X656, e656, st656⟩ := getF X654 hx hZ hown (host := "") (Or.inl (hw _ (List.mem_of_getElem? (i := 25) rfl))) Via.refl e654 F_a0_coder (g := (mkF m 26 #[.val (.ref a0), .val (.ref a1), .val (.ref a1)] [(.ref a0)])) rfl rfl (hb hby d6_26)
  obtain ⟨T657, X657, e657, st657⟩ := getF X656 hx hZ hown (host := "") (Or.inl (hw _ (List.mem_of_getElem? (i := 25) rfl))) Via.refl e656 F_a1_coder (g := (mkF m 30 #[.val (.ref a0), .val (.ref a1), .val (.ref a1)] [(.ref a1), (.int (0 : Int32))])) rfl rfl (hb hby d6_30)
  obtain ⟨T658, X658, e658, st658⟩ := getF X657 hx hZ hown (host := "") (Or.inl (hw _ (List.mem_of_getElem? (i := 24) rfl))) Via.refl e657 F_a0_value (g := (mkF m 37 #[.val (.ref a0), .val (.ref a1), .val (.ref a1)] [(.ref a0)])) rfl rfl (hb hby d6_37)
  obtain ⟨T659, X659, e659, st659⟩ := getF X658 hx hZ hown (host := "") (Or.inl (hw _ (List.mem_of_getElem? (i := 24) rfl))) Via.refl e658 F_a1_value (g := (mkF m 41 #[.val (.ref a0), .val (.ref a1), .val (.ref a1)] [(.ref a1), (.ref t0)])) rfl rfl (hb hby d6_41)
  obtain ⟨_, _, ⟨T660, L660, k660, n660⟩, -, X660, ⟨Lc660, hQ660, l660, y660, z660⟩, st660⟩ := Jvm.LawKit.callS X659 hx (y := (⟨"java/lang/StringLatin1", "equals", "([B[B)Z"⟩ : MethodName)) hown (mvT hZ (hw _ (List.mem_of_getElem? (i := 38) rfl))) (mvT hZ (hw _ (List.mem_of_getElem? (i := 39) rfl))) (mvT hZ (hw _ (List.mem_of_getElem? (i := 40) rfl))) (mvT hZ (hw _ (List.mem_of_getElem? (i := 41) rfl))) (by decide) (backOf (W := 0) (le_1b l Z aw hw [] t0 t1 k1 k2 w0 h0 n0 Z0 V_t0 V_t1 hX8) hZ (hw _ (List.mem_of_getElem? (i := 41) rfl)) (hw _ (List.mem_of_getElem? (i := 40) rfl)) (by decide) (by decide)) (g := (mkF m 44 #[.val (.ref a0), .val (.ref a1), .val (.ref a1)] [(.ref t1), (.ref t0)])) rfl (by rw [hml]; rfl) (argsL := [(.ref t0), (.ref t1)]) (rest := []) (lenOf pd_5 rfl) rfl (by show 2 * 0 + _ ≤ _; exact Nat.le_of_eq rfl) (hb hby d6_44) (fun _ _ => ⟨rfl, e659, (by decide : 0 + 0 ≤ _), (by decide : 0 + 0 ≤ _)⟩)
  dsimp only [Pt.U, Pt.locs, Pt.cells, Pt.slots] at X660 l660 y660 z660 st660 hQ660
  replace l660 := l660.symm; replace y660 := y660.symm; replace z660 := z660.symm; subst l660 y660 z660
  obtain ⟨rfl, N660q, e660⟩ := hQ660
  have N660 := Fr.app N0 N660q
  obtain ⟨fs, hr, hrun, hended, hW, hsame⟩ := X660.leave (v := some (.int (0 : Int32))) (fun h => by rw [Bd.returns] at h; cases h)
  refine ⟨_, _, pre0 _ ?_, hrun, hended, _, _, rfl, ?_, ⟨_, rfl⟩, hW, hsame.mono (by decide) (by decide)⟩
  ·
    show Steps p.tables e below (s₁.setTop (mkF m 0 #[.val (.ref a0), .val (.ref a1), .unset] [])) _
    refine XS.aloadN X0.here hx rfl (hb hby d6_0) rfl rfl ?_
    show Steps p.tables e below (s₁.setTop (mkF m 1 #[.val (.ref a0), .val (.ref a1), .unset] [(.ref a0)])) _
    refine XS.aloadN X0.here hx rfl (hb hby d6_1) rfl rfl ?_
    show Steps p.tables e below (s₁.setTop (mkF m 2 #[.val (.ref a0), .val (.ref a1), .unset] [(.ref a1), (.ref a0)])) _
    refine Jvm.RoadKit.acmp (g := (mkF m 2 #[.val (.ref a0), .val (.ref a1), .unset] [(.ref a1), (.ref a0)])) X0 hx rfl rfl rfl (pc0 := 2) (pc' := 7) (same := false) rfl (hb hby d6_2) rfl (decide_eq_false fun q => ne_a0_a1 (Value.ref.inj q)) (by decide) (by decide) ?_
    show Steps p.tables e below (s₁.setTop (mkF m 7 #[.val (.ref a0), .val (.ref a1), .unset] [])) _
    refine XS.aloadN X0.here hx rfl (hb hby d6_7) rfl rfl ?_
    show Steps p.tables e below (s₁.setTop (mkF m 8 #[.val (.ref a0), .val (.ref a1), .unset] [(.ref a1)])) _
    refine st652 _ ?_
    show Steps p.tables e below (T652.setTop (mkF m 11 #[.val (.ref a0), .val (.ref a1), .unset] [(.int (1 : Int32))])) _
    refine XS.ifNo X652.here hx rfl (hb hby d6_11) rfl ((if0 _ _).trans (feq (by decide)).1) ?_
    show Steps p.tables e below (T652.setTop (mkF m 14 #[.val (.ref a0), .val (.ref a1), .unset] [])) _
    refine XS.aloadN X652.here hx rfl (hb hby d6_14) rfl rfl ?_
    show Steps p.tables e below (T652.setTop (mkF m 15 #[.val (.ref a0), .val (.ref a1), .unset] [(.ref a1)])) _
    refine st653 _ ?_
    show Steps p.tables e below (T653.setTop (mkF m 18 #[.val (.ref a0), .val (.ref a1), .unset] [(.ref a1)])) _
    refine XS.astoreN X653.here hx rfl (hb hby d6_18) rfl rfl (l' := #[.val (.ref a0), .val (.ref a1), .val (.ref a1)]) rfl ?_
    show Steps p.tables e below (T653.setTop (mkF m 19 #[.val (.ref a0), .val (.ref a1), .val (.ref a1)] [])) _
    refine st654 _ ?_
    show Steps p.tables e below (T654.setTop (mkF m 22 #[.val (.ref a0), .val (.ref a1), .val (.ref a1)] [(.int zc)])) _
    refine XS.ifNo X654.here hx rfl (hb hby d6_22) rfl ((if0 _ _).trans (feq c655).1) ?_
    show Steps p.tables e below (T654.setTop (mkF m 25 #[.val (.ref a0), .val (.ref a1), .val (.ref a1)] [])) _
    refine XS.aloadN X654.here hx rfl (hb hby d6_25) rfl rfl ?_
    show Steps p.tables e below (T654.setTop (mkF m 26 #[.val (.ref a0), .val (.ref a1), .val (.ref a1)] [(.ref a0)])) _
    refine st656 _ ?_
    show Steps p.tables e below (T656.setTop (mkF m 29 #[.val (.ref a0), .val (.ref a1), .val (.ref a1)] [(.int (0 : Int32))])) _
    refine XS.aloadN X656.here hx rfl (hb hby d6_29) rfl rfl ?_
    show Steps p.tables e below (T656.setTop (mkF m 30 #[.val (.ref a0), .val (.ref a1), .val (.ref a1)] [(.ref a1), (.int (0 : Int32))])) _
    refine st657 _ ?_
    show Steps p.tables e below (T657.setTop (mkF m 33 #[.val (.ref a0), .val (.ref a1), .val (.ref a1)] [(.int (0 : Int32)), (.int (0 : Int32))])) _
    refine XS.icmpNo X657.here hx rfl (hb hby d6_33) rfl (teq rfl).2 ?_
    show Steps p.tables e below (T657.setTop (mkF m 36 #[.val (.ref a0), .val (.ref a1), .val (.ref a1)] [])) _
    refine XS.aloadN X657.here hx rfl (hb hby d6_36) rfl rfl ?_
    show Steps p.tables e below (T657.setTop (mkF m 37 #[.val (.ref a0), .val (.ref a1), .val (.ref a1)] [(.ref a0)])) _
    refine st658 _ ?_
    show Steps p.tables e below (T658.setTop (mkF m 40 #[.val (.ref a0), .val (.ref a1), .val (.ref a1)] [(.ref t0)])) _
    refine XS.aloadN X658.here hx rfl (hb hby d6_40) rfl rfl ?_
    show Steps p.tables e below (T658.setTop (mkF m 41 #[.val (.ref a0), .val (.ref a1), .val (.ref a1)] [(.ref a1), (.ref t0)])) _
    refine st659 _ ?_
    show Steps p.tables e below (T659.setTop (mkF m 44 #[.val (.ref a0), .val (.ref a1), .val (.ref a1)] [(.ref t1), (.ref t0)])) _
    refine st660 _ ?_
    show Steps p.tables e below (T660.setTop (mkF m 47 #[.val (.ref a0), .val (.ref a1), .val (.ref a1)] [(.int (0 : Int32))])) _
    refine XS.ifYes X660.here hx rfl (pc0 := 47) (pc' := 54) rfl (hb hby d6_47) rfl ((if0 _ _).trans (teq rfl).1) (by decide) (by decide) ?_
    show Steps p.tables e below (T660.setTop (mkF m 54 #[.val (.ref a0), .val (.ref a1), .val (.ref a1)] [])) _
    refine XS.iconst X660.here hx rfl (hb hby d6_54) ?_
    show Steps p.tables e below (T660.setTop (mkF m 55 #[.val (.ref a0), .val (.ref a1), .val (.ref a1)] [(.int (0 : Int32))])) _
    exact retZ X660 hx Bd.returns (by decide) (hb hby d6_55) hr
  ·
    show Q_eq_1b Z a0 a1 t0 t1 k1 k2 w0 zc h0 n0 _ T660.heap _
    rw [e660]
    exact ⟨rfl, N660, rfl⟩
theorem ef_le_x (m : MethodId) (a0 : Addr) (a1 : Addr) : entryFrame m #[(.ref a0), (.ref a1)] 3 = mkF m 0 #[.val (.ref a0), .val (.ref a1), .unset] [] := by first | (simp [entryFrame, mkF, argsToLocals, Value.category]; done) | rfl
def Q_le_x (Z : State) (a0 : Addr) (a1 : Addr) (k1 : ClassId) (k2 : ClassId) (h0 : Heap) (n0 : Nat) (v : Option Value) (h : Heap) (L : List Loc) : Prop := v = some (.int (1 : Int32)) ∧ Fr n0 L ∧ h = h0
set_option maxRecDepth 65536 in
set_option maxHeartbeats 40000000 in
theorem le_x (l : Launch) (Z : State) (aw : Array Value) (hw : ∀ d ∈ tables_1, d.before aw Z = true) (ws : List Jvm.Cond) (a0 : Addr) (a1 : Addr) (k1 : ClassId) (k2 : ClassId) (h0 : Heap) (n0 : Nat) (Z0 : n0 ≤ h0.size) (V_a0 : Arv Z h0 a0 k1 .byte (8 : Int32) [(.int (116 : Int32)), (.int (101 : Int32)), (.int (120 : Int32)), (.int (116 : Int32)), (.int (47 : Int32)), (.int (120 : Int32)), (.int (109 : Int32)), (.int (108 : Int32))] (.int (0 : Int32))) (V_a1 : Arv Z h0 a1 k2 .byte (8 : Int32) [(.int (116 : Int32)), (.int (101 : Int32)), (.int (120 : Int32)), (.int (116 : Int32)), (.int (47 : Int32)), (.int (120 : Int32)), (.int (109 : Int32)), (.int (108 : Int32))] (.int (0 : Int32))) :
    MetFree l (⟨"java/lang/StringLatin1", "equals", "([B[B)Z"⟩ : MethodName) (head1 (Jvm.Cond.code (⟨"java/lang/StringLatin1", "equals", "([B[B)Z"⟩ : MethodName) jdk_43_method_13_code 3 (some .boolean) :: ws) ({ frames := 0, cells := 0, slots := 0, locals := 0 } : Room)) (fun a U => a = #[(.ref a0), (.ref a1)] ∧ Z.Warmed39 U.vm ∧ U.heap = h0) (fun _ _ _ _ _ => True) (fun _ U o U' => ∃ v L, o = .returned v ∧ Q_le_x Z a0 a1 k1 k2 h0 n0 v U'.heap L ∧ FrameEnd U o U' L ({ frames := 0, cells := 0, slots := 0, locals := 0 } : Room).cells ({ frames := 0, cells := 0, slots := 0, locals := 0 } : Room).slots) := by
  refine MetFree.of_bodySF (plainFor_of_name pn_3) hisR ?_
  intro p e s m args below meth c s₁ Bd hml0 hP hK
  obtain ⟨rfl, hZ, hh⟩ := hP
  have hx := Bd.exec
  have hby := Bd.bytes
  have hml : c.maxLocals = 3 := hml0
  have hown : s.vm.findClass "java/lang/StringLatin1" = some m.cls := findClass_of_methodNamed Bd.named
  have hnm := (name_of_methodNamed Bd.named Bd.method).1
  have X0 : Stand p l e ({ frames := 0, cells := 0, slots := 0, locals := 0 } : Room) s m #[(.ref a0), (.ref a1)] below meth c s₁ [] 0 0 := Stand.of_body Bd
  have e0 : s₁.heap = h0 := by rw [← hh, Bd.state]; rfl
  have N0 := Fr.nil n0
  have pre0 : ∀ t, Steps p.tables e below (s₁.setTop (mkF m 0 #[.val (.ref a0), .val (.ref a1), .unset] [])) t → Steps p.tables e below (s₁.setTop (entryFrame m #[(.ref a0), (.ref a1)] 3)) t := fun t k => castTop (ef_le_x m a0 a1) k
  obtain ⟨cl661, Ar661, q661, S661, N661, H661, G661⟩ := id V_a0
  obtain ⟨cl662, Ar662, q662, S662, N662, H662, G662⟩ := id V_a1
  obtain ⟨cl663, Ar663, q663, S663, N663, H663, G663⟩ := id V_a0
  obtain ⟨cl664, Ar664, q664, S664, N664, H664, G664⟩ := id V_a0
  have hin664 : ¬ ((0 : Int32) < 0 ∨ cl664.slots.size ≤ ((0 : Int32)).toNatClampNeg) := inb_of S664 ⟨by decide, by decide⟩
  have hat664 : cl664.slots[((0 : Int32)).toNatClampNeg]? = some (.int (116 : Int32)) := Has.at H664 hin664 rfl
  obtain ⟨cl665, Ar665, q665, S665, N665, H665, G665⟩ := id V_a1
  have hin665 : ¬ ((0 : Int32) < 0 ∨ cl665.slots.size ≤ ((0 : Int32)).toNatClampNeg) := inb_of S665 ⟨by decide, by decide⟩
  have hat665 : cl665.slots[((0 : Int32)).toNatClampNeg]? = some (.int (116 : Int32)) := Has.at H665 hin665 rfl
  obtain ⟨cl666, Ar666, q666, S666, N666, H666, G666⟩ := id V_a0
  obtain ⟨cl667, Ar667, q667, S667, N667, H667, G667⟩ := id V_a0
  have hin667 : ¬ ((1 : Int32) < 0 ∨ cl667.slots.size ≤ ((1 : Int32)).toNatClampNeg) := inb_of S667 ⟨by decide, by decide⟩
  have hat667 : cl667.slots[((1 : Int32)).toNatClampNeg]? = some (.int (101 : Int32)) := Has.at H667 hin667 rfl
  obtain ⟨cl668, Ar668, q668, S668, N668, H668, G668⟩ := id V_a1
  have hin668 : ¬ ((1 : Int32) < 0 ∨ cl668.slots.size ≤ ((1 : Int32)).toNatClampNeg) := inb_of S668 ⟨by decide, by decide⟩
  have hat668 : cl668.slots[((1 : Int32)).toNatClampNeg]? = some (.int (101 : Int32)) := Has.at H668 hin668 rfl
  obtain ⟨cl669, Ar669, q669, S669, N669, H669, G669⟩ := id V_a0
  obtain ⟨cl670, Ar670, q670, S670, N670, H670, G670⟩ := id V_a0
  have hin670 : ¬ ((2 : Int32) < 0 ∨ cl670.slots.size ≤ ((2 : Int32)).toNatClampNeg) := inb_of S670 ⟨by decide, by decide⟩
  have hat670 : cl670.slots[((2 : Int32)).toNatClampNeg]? = some (.int (120 : Int32)) := Has.at H670 hin670 rfl
  obtain ⟨cl671, Ar671, q671, S671, N671, H671, G671⟩ := id V_a1
  have hin671 : ¬ ((2 : Int32) < 0 ∨ cl671.slots.size ≤ ((2 : Int32)).toNatClampNeg) := inb_of S671 ⟨by decide, by decide⟩
  have hat671 : cl671.slots[((2 : Int32)).toNatClampNeg]? = some (.int (120 : Int32)) := Has.at H671 hin671 rfl
  obtain ⟨cl672, Ar672, q672, S672, N672, H672, G672⟩ := id V_a0
  obtain ⟨cl673, Ar673, q673, S673, N673, H673, G673⟩ := id V_a0
  have hin673 : ¬ ((3 : Int32) < 0 ∨ cl673.slots.size ≤ ((3 : Int32)).toNatClampNeg) := inb_of S673 ⟨by decide, by decide⟩
  have hat673 : cl673.slots[((3 : Int32)).toNatClampNeg]? = some (.int (116 : Int32)) := Has.at H673 hin673 rfl
  obtain ⟨cl674, Ar674, q674, S674, N674, H674, G674⟩ := id V_a1
  have hin674 : ¬ ((3 : Int32) < 0 ∨ cl674.slots.size ≤ ((3 : Int32)).toNatClampNeg) := inb_of S674 ⟨by decide, by decide⟩
  have hat674 : cl674.slots[((3 : Int32)).toNatClampNeg]? = some (.int (116 : Int32)) := Has.at H674 hin674 rfl
  obtain ⟨cl675, Ar675, q675, S675, N675, H675, G675⟩ := id V_a0
  obtain ⟨cl676, Ar676, q676, S676, N676, H676, G676⟩ := id V_a0
  have hin676 : ¬ ((4 : Int32) < 0 ∨ cl676.slots.size ≤ ((4 : Int32)).toNatClampNeg) := inb_of S676 ⟨by decide, by decide⟩
  have hat676 : cl676.slots[((4 : Int32)).toNatClampNeg]? = some (.int (47 : Int32)) := Has.at H676 hin676 rfl
  obtain ⟨cl677, Ar677, q677, S677, N677, H677, G677⟩ := id V_a1
  have hin677 : ¬ ((4 : Int32) < 0 ∨ cl677.slots.size ≤ ((4 : Int32)).toNatClampNeg) := inb_of S677 ⟨by decide, by decide⟩
  have hat677 : cl677.slots[((4 : Int32)).toNatClampNeg]? = some (.int (47 : Int32)) := Has.at H677 hin677 rfl
  obtain ⟨cl678, Ar678, q678, S678, N678, H678, G678⟩ := id V_a0
  obtain ⟨cl679, Ar679, q679, S679, N679, H679, G679⟩ := id V_a0
  have hin679 : ¬ ((5 : Int32) < 0 ∨ cl679.slots.size ≤ ((5 : Int32)).toNatClampNeg) := inb_of S679 ⟨by decide, by decide⟩
  have hat679 : cl679.slots[((5 : Int32)).toNatClampNeg]? = some (.int (120 : Int32)) := Has.at H679 hin679 rfl
  obtain ⟨cl680, Ar680, q680, S680, N680, H680, G680⟩ := id V_a1
  have hin680 : ¬ ((5 : Int32) < 0 ∨ cl680.slots.size ≤ ((5 : Int32)).toNatClampNeg) := inb_of S680 ⟨by decide, by decide⟩
  have hat680 : cl680.slots[((5 : Int32)).toNatClampNeg]? = some (.int (120 : Int32)) := Has.at H680 hin680 rfl
  obtain ⟨cl681, Ar681, q681, S681, N681, H681, G681⟩ := id V_a0
  obtain ⟨cl682, Ar682, q682, S682, N682, H682, G682⟩ := id V_a0
  have hin682 : ¬ ((6 : Int32) < 0 ∨ cl682.slots.size ≤ ((6 : Int32)).toNatClampNeg) := inb_of S682 ⟨by decide, by decide⟩
  have hat682 : cl682.slots[((6 : Int32)).toNatClampNeg]? = some (.int (109 : Int32)) := Has.at H682 hin682 rfl
  obtain ⟨cl683, Ar683, q683, S683, N683, H683, G683⟩ := id V_a1
  have hin683 : ¬ ((6 : Int32) < 0 ∨ cl683.slots.size ≤ ((6 : Int32)).toNatClampNeg) := inb_of S683 ⟨by decide, by decide⟩
  have hat683 : cl683.slots[((6 : Int32)).toNatClampNeg]? = some (.int (109 : Int32)) := Has.at H683 hin683 rfl
  obtain ⟨cl684, Ar684, q684, S684, N684, H684, G684⟩ := id V_a0
  obtain ⟨cl685, Ar685, q685, S685, N685, H685, G685⟩ := id V_a0
  have hin685 : ¬ ((7 : Int32) < 0 ∨ cl685.slots.size ≤ ((7 : Int32)).toNatClampNeg) := inb_of S685 ⟨by decide, by decide⟩
  have hat685 : cl685.slots[((7 : Int32)).toNatClampNeg]? = some (.int (108 : Int32)) := Has.at H685 hin685 rfl
  obtain ⟨cl686, Ar686, q686, S686, N686, H686, G686⟩ := id V_a1
  have hin686 : ¬ ((7 : Int32) < 0 ∨ cl686.slots.size ≤ ((7 : Int32)).toNatClampNeg) := inb_of S686 ⟨by decide, by decide⟩
  have hat686 : cl686.slots[((7 : Int32)).toNatClampNeg]? = some (.int (108 : Int32)) := Has.at H686 hin686 rfl
  obtain ⟨cl687, Ar687, q687, S687, N687, H687, G687⟩ := id V_a0
  obtain ⟨fs, hr, hrun, hended, hW, hsame⟩ := X0.leave (v := some (.int (1 : Int32))) (fun h => by rw [Bd.returns] at h; cases h)
  refine ⟨_, _, pre0 _ ?_, hrun, hended, _, _, rfl, ?_, ⟨_, rfl⟩, hW, hsame.mono (by decide) (by decide)⟩
  ·
    show Steps p.tables e below (s₁.setTop (mkF m 0 #[.val (.ref a0), .val (.ref a1), .unset] [])) _
    refine XS.aloadN X0.here hx rfl (hb hby d7_0) rfl rfl ?_
    show Steps p.tables e below (s₁.setTop (mkF m 1 #[.val (.ref a0), .val (.ref a1), .unset] [(.ref a0)])) _
    refine X0.arraylength hx (by rw [e0]; exact Ar661.1) (State.isArrayOf_alike hZ.alike Ar661.2.1) (g := (mkF m 1 #[.val (.ref a0), .val (.ref a1), .unset] [(.ref a0)])) rfl rfl (hb hby d7_1) _ ?_
    rw [len_of S661 N661]
    show Steps p.tables e below (s₁.setTop (mkF m 2 #[.val (.ref a0), .val (.ref a1), .unset] [(.int (8 : Int32))])) _
    refine XS.aloadN X0.here hx rfl (hb hby d7_2) rfl rfl ?_
    show Steps p.tables e below (s₁.setTop (mkF m 3 #[.val (.ref a0), .val (.ref a1), .unset] [(.ref a1), (.int (8 : Int32))])) _
    refine X0.arraylength hx (by rw [e0]; exact Ar662.1) (State.isArrayOf_alike hZ.alike Ar662.2.1) (g := (mkF m 3 #[.val (.ref a0), .val (.ref a1), .unset] [(.ref a1), (.int (8 : Int32))])) rfl rfl (hb hby d7_3) _ ?_
    rw [len_of S662 N662]
    show Steps p.tables e below (s₁.setTop (mkF m 4 #[.val (.ref a0), .val (.ref a1), .unset] [(.int (8 : Int32)), (.int (8 : Int32))])) _
    refine XS.icmpNo X0.here hx rfl (hb hby d7_4) rfl (teq rfl).2 ?_
    show Steps p.tables e below (s₁.setTop (mkF m 7 #[.val (.ref a0), .val (.ref a1), .unset] [])) _
    refine XS.iconst X0.here hx rfl (hb hby d7_7) ?_
    show Steps p.tables e below (s₁.setTop (mkF m 8 #[.val (.ref a0), .val (.ref a1), .unset] [(.int (0 : Int32))])) _
    refine XS.istoreN X0.here hx rfl (hb hby d7_8) rfl (l' := #[.val (.ref a0), .val (.ref a1), .val (.int (0 : Int32))]) rfl ?_
    show Steps p.tables e below (s₁.setTop (mkF m 9 #[.val (.ref a0), .val (.ref a1), .val (.int (0 : Int32))] [])) _
    refine XS.iloadN X0.here hx rfl (hb hby d7_9) rfl ?_
    show Steps p.tables e below (s₁.setTop (mkF m 10 #[.val (.ref a0), .val (.ref a1), .val (.int (0 : Int32))] [(.int (0 : Int32))])) _
    refine XS.aloadN X0.here hx rfl (hb hby d7_10) rfl rfl ?_
    show Steps p.tables e below (s₁.setTop (mkF m 11 #[.val (.ref a0), .val (.ref a1), .val (.int (0 : Int32))] [(.ref a0), (.int (0 : Int32))])) _
    refine X0.arraylength hx (by rw [e0]; exact Ar663.1) (State.isArrayOf_alike hZ.alike Ar663.2.1) (g := (mkF m 11 #[.val (.ref a0), .val (.ref a1), .val (.int (0 : Int32))] [(.ref a0), (.int (0 : Int32))])) rfl rfl (hb hby d7_11) _ ?_
    rw [len_of S663 N663]
    show Steps p.tables e below (s₁.setTop (mkF m 12 #[.val (.ref a0), .val (.ref a1), .val (.int (0 : Int32))] [(.int (8 : Int32)), (.int (0 : Int32))])) _
    refine XS.icmpNo X0.here hx rfl (hb hby d7_12) rfl (tlt (by decide)).2.1 ?_
    show Steps p.tables e below (s₁.setTop (mkF m 15 #[.val (.ref a0), .val (.ref a1), .val (.int (0 : Int32))] [])) _
    refine XS.aloadN X0.here hx rfl (hb hby d7_15) rfl rfl ?_
    show Steps p.tables e below (s₁.setTop (mkF m 16 #[.val (.ref a0), .val (.ref a1), .val (.int (0 : Int32))] [(.ref a0)])) _
    refine XS.iloadN X0.here hx rfl (hb hby d7_16) rfl ?_
    show Steps p.tables e below (s₁.setTop (mkF m 17 #[.val (.ref a0), .val (.ref a1), .val (.int (0 : Int32))] [(.int (0 : Int32)), (.ref a0)])) _
    refine X0.baloadBytes hx (j := (0 : Int32)) (v := (.int (116 : Int32))) (by rw [e0]; exact Ar664.1) (State.isArrayOf_alike hZ.alike Ar664.2.1) Ar664.2.2 hin664 hat664 (g := (mkF m 17 #[.val (.ref a0), .val (.ref a1), .val (.int (0 : Int32))] [(.int (0 : Int32)), (.ref a0)])) rfl rfl (hb hby d7_17) _ ?_
    show Steps p.tables e below (s₁.setTop (mkF m 18 #[.val (.ref a0), .val (.ref a1), .val (.int (0 : Int32))] [(.int (116 : Int32))])) _
    refine XS.aloadN X0.here hx rfl (hb hby d7_18) rfl rfl ?_
    show Steps p.tables e below (s₁.setTop (mkF m 19 #[.val (.ref a0), .val (.ref a1), .val (.int (0 : Int32))] [(.ref a1), (.int (116 : Int32))])) _
    refine XS.iloadN X0.here hx rfl (hb hby d7_19) rfl ?_
    show Steps p.tables e below (s₁.setTop (mkF m 20 #[.val (.ref a0), .val (.ref a1), .val (.int (0 : Int32))] [(.int (0 : Int32)), (.ref a1), (.int (116 : Int32))])) _
    refine X0.baloadBytes hx (j := (0 : Int32)) (v := (.int (116 : Int32))) (by rw [e0]; exact Ar665.1) (State.isArrayOf_alike hZ.alike Ar665.2.1) Ar665.2.2 hin665 hat665 (g := (mkF m 20 #[.val (.ref a0), .val (.ref a1), .val (.int (0 : Int32))] [(.int (0 : Int32)), (.ref a1), (.int (116 : Int32))])) rfl rfl (hb hby d7_20) _ ?_
    show Steps p.tables e below (s₁.setTop (mkF m 21 #[.val (.ref a0), .val (.ref a1), .val (.int (0 : Int32))] [(.int (116 : Int32)), (.int (116 : Int32))])) _
    refine XS.icmpYes X0.here hx rfl (pc0 := 21) (pc' := 26) rfl (hb hby d7_21) rfl (teq rfl).1 (by decide) (by decide) ?_
    show Steps p.tables e below (s₁.setTop (mkF m 26 #[.val (.ref a0), .val (.ref a1), .val (.int (0 : Int32))] [])) _
    refine XS.iinc X0.here hx rfl (hb hby d7_26) rfl (l' := #[.val (.ref a0), .val (.ref a1), .val (.int (1 : Int32))]) rfl ?_
    show Steps p.tables e below (s₁.setTop (mkF m 29 #[.val (.ref a0), .val (.ref a1), .val (.int (1 : Int32))] [])) _
    refine XS.goto X0.here hx rfl (pc0 := 29) (pc' := 9) rfl (hb hby d7_29) (by decide) (by decide) ?_
    show Steps p.tables e below (s₁.setTop (mkF m 9 #[.val (.ref a0), .val (.ref a1), .val (.int (1 : Int32))] [])) _
    refine XS.iloadN X0.here hx rfl (hb hby d7_9) rfl ?_
    show Steps p.tables e below (s₁.setTop (mkF m 10 #[.val (.ref a0), .val (.ref a1), .val (.int (1 : Int32))] [(.int (1 : Int32))])) _
    refine XS.aloadN X0.here hx rfl (hb hby d7_10) rfl rfl ?_
    show Steps p.tables e below (s₁.setTop (mkF m 11 #[.val (.ref a0), .val (.ref a1), .val (.int (1 : Int32))] [(.ref a0), (.int (1 : Int32))])) _
    refine X0.arraylength hx (by rw [e0]; exact Ar666.1) (State.isArrayOf_alike hZ.alike Ar666.2.1) (g := (mkF m 11 #[.val (.ref a0), .val (.ref a1), .val (.int (1 : Int32))] [(.ref a0), (.int (1 : Int32))])) rfl rfl (hb hby d7_11) _ ?_
    rw [len_of S666 N666]
    show Steps p.tables e below (s₁.setTop (mkF m 12 #[.val (.ref a0), .val (.ref a1), .val (.int (1 : Int32))] [(.int (8 : Int32)), (.int (1 : Int32))])) _
    refine XS.icmpNo X0.here hx rfl (hb hby d7_12) rfl (tlt (by decide)).2.1 ?_
    show Steps p.tables e below (s₁.setTop (mkF m 15 #[.val (.ref a0), .val (.ref a1), .val (.int (1 : Int32))] [])) _
    refine XS.aloadN X0.here hx rfl (hb hby d7_15) rfl rfl ?_
    show Steps p.tables e below (s₁.setTop (mkF m 16 #[.val (.ref a0), .val (.ref a1), .val (.int (1 : Int32))] [(.ref a0)])) _
    refine XS.iloadN X0.here hx rfl (hb hby d7_16) rfl ?_
    show Steps p.tables e below (s₁.setTop (mkF m 17 #[.val (.ref a0), .val (.ref a1), .val (.int (1 : Int32))] [(.int (1 : Int32)), (.ref a0)])) _
    refine X0.baloadBytes hx (j := (1 : Int32)) (v := (.int (101 : Int32))) (by rw [e0]; exact Ar667.1) (State.isArrayOf_alike hZ.alike Ar667.2.1) Ar667.2.2 hin667 hat667 (g := (mkF m 17 #[.val (.ref a0), .val (.ref a1), .val (.int (1 : Int32))] [(.int (1 : Int32)), (.ref a0)])) rfl rfl (hb hby d7_17) _ ?_
    show Steps p.tables e below (s₁.setTop (mkF m 18 #[.val (.ref a0), .val (.ref a1), .val (.int (1 : Int32))] [(.int (101 : Int32))])) _
    refine XS.aloadN X0.here hx rfl (hb hby d7_18) rfl rfl ?_
    show Steps p.tables e below (s₁.setTop (mkF m 19 #[.val (.ref a0), .val (.ref a1), .val (.int (1 : Int32))] [(.ref a1), (.int (101 : Int32))])) _
    refine XS.iloadN X0.here hx rfl (hb hby d7_19) rfl ?_
    show Steps p.tables e below (s₁.setTop (mkF m 20 #[.val (.ref a0), .val (.ref a1), .val (.int (1 : Int32))] [(.int (1 : Int32)), (.ref a1), (.int (101 : Int32))])) _
    refine X0.baloadBytes hx (j := (1 : Int32)) (v := (.int (101 : Int32))) (by rw [e0]; exact Ar668.1) (State.isArrayOf_alike hZ.alike Ar668.2.1) Ar668.2.2 hin668 hat668 (g := (mkF m 20 #[.val (.ref a0), .val (.ref a1), .val (.int (1 : Int32))] [(.int (1 : Int32)), (.ref a1), (.int (101 : Int32))])) rfl rfl (hb hby d7_20) _ ?_
    show Steps p.tables e below (s₁.setTop (mkF m 21 #[.val (.ref a0), .val (.ref a1), .val (.int (1 : Int32))] [(.int (101 : Int32)), (.int (101 : Int32))])) _
    refine XS.icmpYes X0.here hx rfl (pc0 := 21) (pc' := 26) rfl (hb hby d7_21) rfl (teq rfl).1 (by decide) (by decide) ?_
    show Steps p.tables e below (s₁.setTop (mkF m 26 #[.val (.ref a0), .val (.ref a1), .val (.int (1 : Int32))] [])) _
    refine XS.iinc X0.here hx rfl (hb hby d7_26) rfl (l' := #[.val (.ref a0), .val (.ref a1), .val (.int (2 : Int32))]) rfl ?_
    show Steps p.tables e below (s₁.setTop (mkF m 29 #[.val (.ref a0), .val (.ref a1), .val (.int (2 : Int32))] [])) _
    refine XS.goto X0.here hx rfl (pc0 := 29) (pc' := 9) rfl (hb hby d7_29) (by decide) (by decide) ?_
    show Steps p.tables e below (s₁.setTop (mkF m 9 #[.val (.ref a0), .val (.ref a1), .val (.int (2 : Int32))] [])) _
    refine XS.iloadN X0.here hx rfl (hb hby d7_9) rfl ?_
    show Steps p.tables e below (s₁.setTop (mkF m 10 #[.val (.ref a0), .val (.ref a1), .val (.int (2 : Int32))] [(.int (2 : Int32))])) _
    refine XS.aloadN X0.here hx rfl (hb hby d7_10) rfl rfl ?_
    show Steps p.tables e below (s₁.setTop (mkF m 11 #[.val (.ref a0), .val (.ref a1), .val (.int (2 : Int32))] [(.ref a0), (.int (2 : Int32))])) _
    refine X0.arraylength hx (by rw [e0]; exact Ar669.1) (State.isArrayOf_alike hZ.alike Ar669.2.1) (g := (mkF m 11 #[.val (.ref a0), .val (.ref a1), .val (.int (2 : Int32))] [(.ref a0), (.int (2 : Int32))])) rfl rfl (hb hby d7_11) _ ?_
    rw [len_of S669 N669]
    show Steps p.tables e below (s₁.setTop (mkF m 12 #[.val (.ref a0), .val (.ref a1), .val (.int (2 : Int32))] [(.int (8 : Int32)), (.int (2 : Int32))])) _
    refine XS.icmpNo X0.here hx rfl (hb hby d7_12) rfl (tlt (by decide)).2.1 ?_
    show Steps p.tables e below (s₁.setTop (mkF m 15 #[.val (.ref a0), .val (.ref a1), .val (.int (2 : Int32))] [])) _
    refine XS.aloadN X0.here hx rfl (hb hby d7_15) rfl rfl ?_
    show Steps p.tables e below (s₁.setTop (mkF m 16 #[.val (.ref a0), .val (.ref a1), .val (.int (2 : Int32))] [(.ref a0)])) _
    refine XS.iloadN X0.here hx rfl (hb hby d7_16) rfl ?_
    show Steps p.tables e below (s₁.setTop (mkF m 17 #[.val (.ref a0), .val (.ref a1), .val (.int (2 : Int32))] [(.int (2 : Int32)), (.ref a0)])) _
    refine X0.baloadBytes hx (j := (2 : Int32)) (v := (.int (120 : Int32))) (by rw [e0]; exact Ar670.1) (State.isArrayOf_alike hZ.alike Ar670.2.1) Ar670.2.2 hin670 hat670 (g := (mkF m 17 #[.val (.ref a0), .val (.ref a1), .val (.int (2 : Int32))] [(.int (2 : Int32)), (.ref a0)])) rfl rfl (hb hby d7_17) _ ?_
    show Steps p.tables e below (s₁.setTop (mkF m 18 #[.val (.ref a0), .val (.ref a1), .val (.int (2 : Int32))] [(.int (120 : Int32))])) _
    refine XS.aloadN X0.here hx rfl (hb hby d7_18) rfl rfl ?_
    show Steps p.tables e below (s₁.setTop (mkF m 19 #[.val (.ref a0), .val (.ref a1), .val (.int (2 : Int32))] [(.ref a1), (.int (120 : Int32))])) _
    refine XS.iloadN X0.here hx rfl (hb hby d7_19) rfl ?_
    show Steps p.tables e below (s₁.setTop (mkF m 20 #[.val (.ref a0), .val (.ref a1), .val (.int (2 : Int32))] [(.int (2 : Int32)), (.ref a1), (.int (120 : Int32))])) _
    refine X0.baloadBytes hx (j := (2 : Int32)) (v := (.int (120 : Int32))) (by rw [e0]; exact Ar671.1) (State.isArrayOf_alike hZ.alike Ar671.2.1) Ar671.2.2 hin671 hat671 (g := (mkF m 20 #[.val (.ref a0), .val (.ref a1), .val (.int (2 : Int32))] [(.int (2 : Int32)), (.ref a1), (.int (120 : Int32))])) rfl rfl (hb hby d7_20) _ ?_
    show Steps p.tables e below (s₁.setTop (mkF m 21 #[.val (.ref a0), .val (.ref a1), .val (.int (2 : Int32))] [(.int (120 : Int32)), (.int (120 : Int32))])) _
    refine XS.icmpYes X0.here hx rfl (pc0 := 21) (pc' := 26) rfl (hb hby d7_21) rfl (teq rfl).1 (by decide) (by decide) ?_
    show Steps p.tables e below (s₁.setTop (mkF m 26 #[.val (.ref a0), .val (.ref a1), .val (.int (2 : Int32))] [])) _
    refine XS.iinc X0.here hx rfl (hb hby d7_26) rfl (l' := #[.val (.ref a0), .val (.ref a1), .val (.int (3 : Int32))]) rfl ?_
    show Steps p.tables e below (s₁.setTop (mkF m 29 #[.val (.ref a0), .val (.ref a1), .val (.int (3 : Int32))] [])) _
    refine XS.goto X0.here hx rfl (pc0 := 29) (pc' := 9) rfl (hb hby d7_29) (by decide) (by decide) ?_
    show Steps p.tables e below (s₁.setTop (mkF m 9 #[.val (.ref a0), .val (.ref a1), .val (.int (3 : Int32))] [])) _
    refine XS.iloadN X0.here hx rfl (hb hby d7_9) rfl ?_
    show Steps p.tables e below (s₁.setTop (mkF m 10 #[.val (.ref a0), .val (.ref a1), .val (.int (3 : Int32))] [(.int (3 : Int32))])) _
    refine XS.aloadN X0.here hx rfl (hb hby d7_10) rfl rfl ?_
    show Steps p.tables e below (s₁.setTop (mkF m 11 #[.val (.ref a0), .val (.ref a1), .val (.int (3 : Int32))] [(.ref a0), (.int (3 : Int32))])) _
    refine X0.arraylength hx (by rw [e0]; exact Ar672.1) (State.isArrayOf_alike hZ.alike Ar672.2.1) (g := (mkF m 11 #[.val (.ref a0), .val (.ref a1), .val (.int (3 : Int32))] [(.ref a0), (.int (3 : Int32))])) rfl rfl (hb hby d7_11) _ ?_
    rw [len_of S672 N672]
    show Steps p.tables e below (s₁.setTop (mkF m 12 #[.val (.ref a0), .val (.ref a1), .val (.int (3 : Int32))] [(.int (8 : Int32)), (.int (3 : Int32))])) _
    refine XS.icmpNo X0.here hx rfl (hb hby d7_12) rfl (tlt (by decide)).2.1 ?_
    show Steps p.tables e below (s₁.setTop (mkF m 15 #[.val (.ref a0), .val (.ref a1), .val (.int (3 : Int32))] [])) _
    refine XS.aloadN X0.here hx rfl (hb hby d7_15) rfl rfl ?_
    show Steps p.tables e below (s₁.setTop (mkF m 16 #[.val (.ref a0), .val (.ref a1), .val (.int (3 : Int32))] [(.ref a0)])) _
    refine XS.iloadN X0.here hx rfl (hb hby d7_16) rfl ?_
    show Steps p.tables e below (s₁.setTop (mkF m 17 #[.val (.ref a0), .val (.ref a1), .val (.int (3 : Int32))] [(.int (3 : Int32)), (.ref a0)])) _
    refine X0.baloadBytes hx (j := (3 : Int32)) (v := (.int (116 : Int32))) (by rw [e0]; exact Ar673.1) (State.isArrayOf_alike hZ.alike Ar673.2.1) Ar673.2.2 hin673 hat673 (g := (mkF m 17 #[.val (.ref a0), .val (.ref a1), .val (.int (3 : Int32))] [(.int (3 : Int32)), (.ref a0)])) rfl rfl (hb hby d7_17) _ ?_
    show Steps p.tables e below (s₁.setTop (mkF m 18 #[.val (.ref a0), .val (.ref a1), .val (.int (3 : Int32))] [(.int (116 : Int32))])) _
    refine XS.aloadN X0.here hx rfl (hb hby d7_18) rfl rfl ?_
    show Steps p.tables e below (s₁.setTop (mkF m 19 #[.val (.ref a0), .val (.ref a1), .val (.int (3 : Int32))] [(.ref a1), (.int (116 : Int32))])) _
    refine XS.iloadN X0.here hx rfl (hb hby d7_19) rfl ?_
    show Steps p.tables e below (s₁.setTop (mkF m 20 #[.val (.ref a0), .val (.ref a1), .val (.int (3 : Int32))] [(.int (3 : Int32)), (.ref a1), (.int (116 : Int32))])) _
    refine X0.baloadBytes hx (j := (3 : Int32)) (v := (.int (116 : Int32))) (by rw [e0]; exact Ar674.1) (State.isArrayOf_alike hZ.alike Ar674.2.1) Ar674.2.2 hin674 hat674 (g := (mkF m 20 #[.val (.ref a0), .val (.ref a1), .val (.int (3 : Int32))] [(.int (3 : Int32)), (.ref a1), (.int (116 : Int32))])) rfl rfl (hb hby d7_20) _ ?_
    show Steps p.tables e below (s₁.setTop (mkF m 21 #[.val (.ref a0), .val (.ref a1), .val (.int (3 : Int32))] [(.int (116 : Int32)), (.int (116 : Int32))])) _
    refine XS.icmpYes X0.here hx rfl (pc0 := 21) (pc' := 26) rfl (hb hby d7_21) rfl (teq rfl).1 (by decide) (by decide) ?_
    show Steps p.tables e below (s₁.setTop (mkF m 26 #[.val (.ref a0), .val (.ref a1), .val (.int (3 : Int32))] [])) _
    refine XS.iinc X0.here hx rfl (hb hby d7_26) rfl (l' := #[.val (.ref a0), .val (.ref a1), .val (.int (4 : Int32))]) rfl ?_
    show Steps p.tables e below (s₁.setTop (mkF m 29 #[.val (.ref a0), .val (.ref a1), .val (.int (4 : Int32))] [])) _
    refine XS.goto X0.here hx rfl (pc0 := 29) (pc' := 9) rfl (hb hby d7_29) (by decide) (by decide) ?_
    show Steps p.tables e below (s₁.setTop (mkF m 9 #[.val (.ref a0), .val (.ref a1), .val (.int (4 : Int32))] [])) _
    refine XS.iloadN X0.here hx rfl (hb hby d7_9) rfl ?_
    show Steps p.tables e below (s₁.setTop (mkF m 10 #[.val (.ref a0), .val (.ref a1), .val (.int (4 : Int32))] [(.int (4 : Int32))])) _
    refine XS.aloadN X0.here hx rfl (hb hby d7_10) rfl rfl ?_
    show Steps p.tables e below (s₁.setTop (mkF m 11 #[.val (.ref a0), .val (.ref a1), .val (.int (4 : Int32))] [(.ref a0), (.int (4 : Int32))])) _
    refine X0.arraylength hx (by rw [e0]; exact Ar675.1) (State.isArrayOf_alike hZ.alike Ar675.2.1) (g := (mkF m 11 #[.val (.ref a0), .val (.ref a1), .val (.int (4 : Int32))] [(.ref a0), (.int (4 : Int32))])) rfl rfl (hb hby d7_11) _ ?_
    rw [len_of S675 N675]
    show Steps p.tables e below (s₁.setTop (mkF m 12 #[.val (.ref a0), .val (.ref a1), .val (.int (4 : Int32))] [(.int (8 : Int32)), (.int (4 : Int32))])) _
    refine XS.icmpNo X0.here hx rfl (hb hby d7_12) rfl (tlt (by decide)).2.1 ?_
    show Steps p.tables e below (s₁.setTop (mkF m 15 #[.val (.ref a0), .val (.ref a1), .val (.int (4 : Int32))] [])) _
    refine XS.aloadN X0.here hx rfl (hb hby d7_15) rfl rfl ?_
    show Steps p.tables e below (s₁.setTop (mkF m 16 #[.val (.ref a0), .val (.ref a1), .val (.int (4 : Int32))] [(.ref a0)])) _
    refine XS.iloadN X0.here hx rfl (hb hby d7_16) rfl ?_
    show Steps p.tables e below (s₁.setTop (mkF m 17 #[.val (.ref a0), .val (.ref a1), .val (.int (4 : Int32))] [(.int (4 : Int32)), (.ref a0)])) _
    refine X0.baloadBytes hx (j := (4 : Int32)) (v := (.int (47 : Int32))) (by rw [e0]; exact Ar676.1) (State.isArrayOf_alike hZ.alike Ar676.2.1) Ar676.2.2 hin676 hat676 (g := (mkF m 17 #[.val (.ref a0), .val (.ref a1), .val (.int (4 : Int32))] [(.int (4 : Int32)), (.ref a0)])) rfl rfl (hb hby d7_17) _ ?_
    show Steps p.tables e below (s₁.setTop (mkF m 18 #[.val (.ref a0), .val (.ref a1), .val (.int (4 : Int32))] [(.int (47 : Int32))])) _
    refine XS.aloadN X0.here hx rfl (hb hby d7_18) rfl rfl ?_
    show Steps p.tables e below (s₁.setTop (mkF m 19 #[.val (.ref a0), .val (.ref a1), .val (.int (4 : Int32))] [(.ref a1), (.int (47 : Int32))])) _
    refine XS.iloadN X0.here hx rfl (hb hby d7_19) rfl ?_
    show Steps p.tables e below (s₁.setTop (mkF m 20 #[.val (.ref a0), .val (.ref a1), .val (.int (4 : Int32))] [(.int (4 : Int32)), (.ref a1), (.int (47 : Int32))])) _
    refine X0.baloadBytes hx (j := (4 : Int32)) (v := (.int (47 : Int32))) (by rw [e0]; exact Ar677.1) (State.isArrayOf_alike hZ.alike Ar677.2.1) Ar677.2.2 hin677 hat677 (g := (mkF m 20 #[.val (.ref a0), .val (.ref a1), .val (.int (4 : Int32))] [(.int (4 : Int32)), (.ref a1), (.int (47 : Int32))])) rfl rfl (hb hby d7_20) _ ?_
    show Steps p.tables e below (s₁.setTop (mkF m 21 #[.val (.ref a0), .val (.ref a1), .val (.int (4 : Int32))] [(.int (47 : Int32)), (.int (47 : Int32))])) _
    refine XS.icmpYes X0.here hx rfl (pc0 := 21) (pc' := 26) rfl (hb hby d7_21) rfl (teq rfl).1 (by decide) (by decide) ?_
    show Steps p.tables e below (s₁.setTop (mkF m 26 #[.val (.ref a0), .val (.ref a1), .val (.int (4 : Int32))] [])) _
    refine XS.iinc X0.here hx rfl (hb hby d7_26) rfl (l' := #[.val (.ref a0), .val (.ref a1), .val (.int (5 : Int32))]) rfl ?_
    show Steps p.tables e below (s₁.setTop (mkF m 29 #[.val (.ref a0), .val (.ref a1), .val (.int (5 : Int32))] [])) _
    refine XS.goto X0.here hx rfl (pc0 := 29) (pc' := 9) rfl (hb hby d7_29) (by decide) (by decide) ?_
    show Steps p.tables e below (s₁.setTop (mkF m 9 #[.val (.ref a0), .val (.ref a1), .val (.int (5 : Int32))] [])) _
    refine XS.iloadN X0.here hx rfl (hb hby d7_9) rfl ?_
    show Steps p.tables e below (s₁.setTop (mkF m 10 #[.val (.ref a0), .val (.ref a1), .val (.int (5 : Int32))] [(.int (5 : Int32))])) _
    refine XS.aloadN X0.here hx rfl (hb hby d7_10) rfl rfl ?_
    show Steps p.tables e below (s₁.setTop (mkF m 11 #[.val (.ref a0), .val (.ref a1), .val (.int (5 : Int32))] [(.ref a0), (.int (5 : Int32))])) _
    refine X0.arraylength hx (by rw [e0]; exact Ar678.1) (State.isArrayOf_alike hZ.alike Ar678.2.1) (g := (mkF m 11 #[.val (.ref a0), .val (.ref a1), .val (.int (5 : Int32))] [(.ref a0), (.int (5 : Int32))])) rfl rfl (hb hby d7_11) _ ?_
    rw [len_of S678 N678]
    show Steps p.tables e below (s₁.setTop (mkF m 12 #[.val (.ref a0), .val (.ref a1), .val (.int (5 : Int32))] [(.int (8 : Int32)), (.int (5 : Int32))])) _
    refine XS.icmpNo X0.here hx rfl (hb hby d7_12) rfl (tlt (by decide)).2.1 ?_
    show Steps p.tables e below (s₁.setTop (mkF m 15 #[.val (.ref a0), .val (.ref a1), .val (.int (5 : Int32))] [])) _
    refine XS.aloadN X0.here hx rfl (hb hby d7_15) rfl rfl ?_
    show Steps p.tables e below (s₁.setTop (mkF m 16 #[.val (.ref a0), .val (.ref a1), .val (.int (5 : Int32))] [(.ref a0)])) _
    refine XS.iloadN X0.here hx rfl (hb hby d7_16) rfl ?_
    show Steps p.tables e below (s₁.setTop (mkF m 17 #[.val (.ref a0), .val (.ref a1), .val (.int (5 : Int32))] [(.int (5 : Int32)), (.ref a0)])) _
    refine X0.baloadBytes hx (j := (5 : Int32)) (v := (.int (120 : Int32))) (by rw [e0]; exact Ar679.1) (State.isArrayOf_alike hZ.alike Ar679.2.1) Ar679.2.2 hin679 hat679 (g := (mkF m 17 #[.val (.ref a0), .val (.ref a1), .val (.int (5 : Int32))] [(.int (5 : Int32)), (.ref a0)])) rfl rfl (hb hby d7_17) _ ?_
    show Steps p.tables e below (s₁.setTop (mkF m 18 #[.val (.ref a0), .val (.ref a1), .val (.int (5 : Int32))] [(.int (120 : Int32))])) _
    refine XS.aloadN X0.here hx rfl (hb hby d7_18) rfl rfl ?_
    show Steps p.tables e below (s₁.setTop (mkF m 19 #[.val (.ref a0), .val (.ref a1), .val (.int (5 : Int32))] [(.ref a1), (.int (120 : Int32))])) _
    refine XS.iloadN X0.here hx rfl (hb hby d7_19) rfl ?_
    show Steps p.tables e below (s₁.setTop (mkF m 20 #[.val (.ref a0), .val (.ref a1), .val (.int (5 : Int32))] [(.int (5 : Int32)), (.ref a1), (.int (120 : Int32))])) _
    refine X0.baloadBytes hx (j := (5 : Int32)) (v := (.int (120 : Int32))) (by rw [e0]; exact Ar680.1) (State.isArrayOf_alike hZ.alike Ar680.2.1) Ar680.2.2 hin680 hat680 (g := (mkF m 20 #[.val (.ref a0), .val (.ref a1), .val (.int (5 : Int32))] [(.int (5 : Int32)), (.ref a1), (.int (120 : Int32))])) rfl rfl (hb hby d7_20) _ ?_
    show Steps p.tables e below (s₁.setTop (mkF m 21 #[.val (.ref a0), .val (.ref a1), .val (.int (5 : Int32))] [(.int (120 : Int32)), (.int (120 : Int32))])) _
    refine XS.icmpYes X0.here hx rfl (pc0 := 21) (pc' := 26) rfl (hb hby d7_21) rfl (teq rfl).1 (by decide) (by decide) ?_
    show Steps p.tables e below (s₁.setTop (mkF m 26 #[.val (.ref a0), .val (.ref a1), .val (.int (5 : Int32))] [])) _
    refine XS.iinc X0.here hx rfl (hb hby d7_26) rfl (l' := #[.val (.ref a0), .val (.ref a1), .val (.int (6 : Int32))]) rfl ?_
    show Steps p.tables e below (s₁.setTop (mkF m 29 #[.val (.ref a0), .val (.ref a1), .val (.int (6 : Int32))] [])) _
    refine XS.goto X0.here hx rfl (pc0 := 29) (pc' := 9) rfl (hb hby d7_29) (by decide) (by decide) ?_
    show Steps p.tables e below (s₁.setTop (mkF m 9 #[.val (.ref a0), .val (.ref a1), .val (.int (6 : Int32))] [])) _
    refine XS.iloadN X0.here hx rfl (hb hby d7_9) rfl ?_
    show Steps p.tables e below (s₁.setTop (mkF m 10 #[.val (.ref a0), .val (.ref a1), .val (.int (6 : Int32))] [(.int (6 : Int32))])) _
    refine XS.aloadN X0.here hx rfl (hb hby d7_10) rfl rfl ?_
    show Steps p.tables e below (s₁.setTop (mkF m 11 #[.val (.ref a0), .val (.ref a1), .val (.int (6 : Int32))] [(.ref a0), (.int (6 : Int32))])) _
    refine X0.arraylength hx (by rw [e0]; exact Ar681.1) (State.isArrayOf_alike hZ.alike Ar681.2.1) (g := (mkF m 11 #[.val (.ref a0), .val (.ref a1), .val (.int (6 : Int32))] [(.ref a0), (.int (6 : Int32))])) rfl rfl (hb hby d7_11) _ ?_
    rw [len_of S681 N681]
    show Steps p.tables e below (s₁.setTop (mkF m 12 #[.val (.ref a0), .val (.ref a1), .val (.int (6 : Int32))] [(.int (8 : Int32)), (.int (6 : Int32))])) _
    refine XS.icmpNo X0.here hx rfl (hb hby d7_12) rfl (tlt (by decide)).2.1 ?_
    show Steps p.tables e below (s₁.setTop (mkF m 15 #[.val (.ref a0), .val (.ref a1), .val (.int (6 : Int32))] [])) _
    refine XS.aloadN X0.here hx rfl (hb hby d7_15) rfl rfl ?_
    show Steps p.tables e below (s₁.setTop (mkF m 16 #[.val (.ref a0), .val (.ref a1), .val (.int (6 : Int32))] [(.ref a0)])) _
    refine XS.iloadN X0.here hx rfl (hb hby d7_16) rfl ?_
    show Steps p.tables e below (s₁.setTop (mkF m 17 #[.val (.ref a0), .val (.ref a1), .val (.int (6 : Int32))] [(.int (6 : Int32)), (.ref a0)])) _
    refine X0.baloadBytes hx (j := (6 : Int32)) (v := (.int (109 : Int32))) (by rw [e0]; exact Ar682.1) (State.isArrayOf_alike hZ.alike Ar682.2.1) Ar682.2.2 hin682 hat682 (g := (mkF m 17 #[.val (.ref a0), .val (.ref a1), .val (.int (6 : Int32))] [(.int (6 : Int32)), (.ref a0)])) rfl rfl (hb hby d7_17) _ ?_
    show Steps p.tables e below (s₁.setTop (mkF m 18 #[.val (.ref a0), .val (.ref a1), .val (.int (6 : Int32))] [(.int (109 : Int32))])) _
    refine XS.aloadN X0.here hx rfl (hb hby d7_18) rfl rfl ?_
    show Steps p.tables e below (s₁.setTop (mkF m 19 #[.val (.ref a0), .val (.ref a1), .val (.int (6 : Int32))] [(.ref a1), (.int (109 : Int32))])) _
    refine XS.iloadN X0.here hx rfl (hb hby d7_19) rfl ?_
    show Steps p.tables e below (s₁.setTop (mkF m 20 #[.val (.ref a0), .val (.ref a1), .val (.int (6 : Int32))] [(.int (6 : Int32)), (.ref a1), (.int (109 : Int32))])) _
    refine X0.baloadBytes hx (j := (6 : Int32)) (v := (.int (109 : Int32))) (by rw [e0]; exact Ar683.1) (State.isArrayOf_alike hZ.alike Ar683.2.1) Ar683.2.2 hin683 hat683 (g := (mkF m 20 #[.val (.ref a0), .val (.ref a1), .val (.int (6 : Int32))] [(.int (6 : Int32)), (.ref a1), (.int (109 : Int32))])) rfl rfl (hb hby d7_20) _ ?_
    show Steps p.tables e below (s₁.setTop (mkF m 21 #[.val (.ref a0), .val (.ref a1), .val (.int (6 : Int32))] [(.int (109 : Int32)), (.int (109 : Int32))])) _
    refine XS.icmpYes X0.here hx rfl (pc0 := 21) (pc' := 26) rfl (hb hby d7_21) rfl (teq rfl).1 (by decide) (by decide) ?_
    show Steps p.tables e below (s₁.setTop (mkF m 26 #[.val (.ref a0), .val (.ref a1), .val (.int (6 : Int32))] [])) _
    refine XS.iinc X0.here hx rfl (hb hby d7_26) rfl (l' := #[.val (.ref a0), .val (.ref a1), .val (.int (7 : Int32))]) rfl ?_
    show Steps p.tables e below (s₁.setTop (mkF m 29 #[.val (.ref a0), .val (.ref a1), .val (.int (7 : Int32))] [])) _
    refine XS.goto X0.here hx rfl (pc0 := 29) (pc' := 9) rfl (hb hby d7_29) (by decide) (by decide) ?_
    show Steps p.tables e below (s₁.setTop (mkF m 9 #[.val (.ref a0), .val (.ref a1), .val (.int (7 : Int32))] [])) _
    refine XS.iloadN X0.here hx rfl (hb hby d7_9) rfl ?_
    show Steps p.tables e below (s₁.setTop (mkF m 10 #[.val (.ref a0), .val (.ref a1), .val (.int (7 : Int32))] [(.int (7 : Int32))])) _
    refine XS.aloadN X0.here hx rfl (hb hby d7_10) rfl rfl ?_
    show Steps p.tables e below (s₁.setTop (mkF m 11 #[.val (.ref a0), .val (.ref a1), .val (.int (7 : Int32))] [(.ref a0), (.int (7 : Int32))])) _
    refine X0.arraylength hx (by rw [e0]; exact Ar684.1) (State.isArrayOf_alike hZ.alike Ar684.2.1) (g := (mkF m 11 #[.val (.ref a0), .val (.ref a1), .val (.int (7 : Int32))] [(.ref a0), (.int (7 : Int32))])) rfl rfl (hb hby d7_11) _ ?_
    rw [len_of S684 N684]
    show Steps p.tables e below (s₁.setTop (mkF m 12 #[.val (.ref a0), .val (.ref a1), .val (.int (7 : Int32))] [(.int (8 : Int32)), (.int (7 : Int32))])) _
    refine XS.icmpNo X0.here hx rfl (hb hby d7_12) rfl (tlt (by decide)).2.1 ?_
    show Steps p.tables e below (s₁.setTop (mkF m 15 #[.val (.ref a0), .val (.ref a1), .val (.int (7 : Int32))] [])) _
    refine XS.aloadN X0.here hx rfl (hb hby d7_15) rfl rfl ?_
    show Steps p.tables e below (s₁.setTop (mkF m 16 #[.val (.ref a0), .val (.ref a1), .val (.int (7 : Int32))] [(.ref a0)])) _
    refine XS.iloadN X0.here hx rfl (hb hby d7_16) rfl ?_
    show Steps p.tables e below (s₁.setTop (mkF m 17 #[.val (.ref a0), .val (.ref a1), .val (.int (7 : Int32))] [(.int (7 : Int32)), (.ref a0)])) _
    refine X0.baloadBytes hx (j := (7 : Int32)) (v := (.int (108 : Int32))) (by rw [e0]; exact Ar685.1) (State.isArrayOf_alike hZ.alike Ar685.2.1) Ar685.2.2 hin685 hat685 (g := (mkF m 17 #[.val (.ref a0), .val (.ref a1), .val (.int (7 : Int32))] [(.int (7 : Int32)), (.ref a0)])) rfl rfl (hb hby d7_17) _ ?_
    show Steps p.tables e below (s₁.setTop (mkF m 18 #[.val (.ref a0), .val (.ref a1), .val (.int (7 : Int32))] [(.int (108 : Int32))])) _
    refine XS.aloadN X0.here hx rfl (hb hby d7_18) rfl rfl ?_
    show Steps p.tables e below (s₁.setTop (mkF m 19 #[.val (.ref a0), .val (.ref a1), .val (.int (7 : Int32))] [(.ref a1), (.int (108 : Int32))])) _
    refine XS.iloadN X0.here hx rfl (hb hby d7_19) rfl ?_
    show Steps p.tables e below (s₁.setTop (mkF m 20 #[.val (.ref a0), .val (.ref a1), .val (.int (7 : Int32))] [(.int (7 : Int32)), (.ref a1), (.int (108 : Int32))])) _
    refine X0.baloadBytes hx (j := (7 : Int32)) (v := (.int (108 : Int32))) (by rw [e0]; exact Ar686.1) (State.isArrayOf_alike hZ.alike Ar686.2.1) Ar686.2.2 hin686 hat686 (g := (mkF m 20 #[.val (.ref a0), .val (.ref a1), .val (.int (7 : Int32))] [(.int (7 : Int32)), (.ref a1), (.int (108 : Int32))])) rfl rfl (hb hby d7_20) _ ?_
    show Steps p.tables e below (s₁.setTop (mkF m 21 #[.val (.ref a0), .val (.ref a1), .val (.int (7 : Int32))] [(.int (108 : Int32)), (.int (108 : Int32))])) _
    refine XS.icmpYes X0.here hx rfl (pc0 := 21) (pc' := 26) rfl (hb hby d7_21) rfl (teq rfl).1 (by decide) (by decide) ?_
    show Steps p.tables e below (s₁.setTop (mkF m 26 #[.val (.ref a0), .val (.ref a1), .val (.int (7 : Int32))] [])) _
    refine XS.iinc X0.here hx rfl (hb hby d7_26) rfl (l' := #[.val (.ref a0), .val (.ref a1), .val (.int (8 : Int32))]) rfl ?_
    show Steps p.tables e below (s₁.setTop (mkF m 29 #[.val (.ref a0), .val (.ref a1), .val (.int (8 : Int32))] [])) _
    refine XS.goto X0.here hx rfl (pc0 := 29) (pc' := 9) rfl (hb hby d7_29) (by decide) (by decide) ?_
    show Steps p.tables e below (s₁.setTop (mkF m 9 #[.val (.ref a0), .val (.ref a1), .val (.int (8 : Int32))] [])) _
    refine XS.iloadN X0.here hx rfl (hb hby d7_9) rfl ?_
    show Steps p.tables e below (s₁.setTop (mkF m 10 #[.val (.ref a0), .val (.ref a1), .val (.int (8 : Int32))] [(.int (8 : Int32))])) _
    refine XS.aloadN X0.here hx rfl (hb hby d7_10) rfl rfl ?_
    show Steps p.tables e below (s₁.setTop (mkF m 11 #[.val (.ref a0), .val (.ref a1), .val (.int (8 : Int32))] [(.ref a0), (.int (8 : Int32))])) _
    refine X0.arraylength hx (by rw [e0]; exact Ar687.1) (State.isArrayOf_alike hZ.alike Ar687.2.1) (g := (mkF m 11 #[.val (.ref a0), .val (.ref a1), .val (.int (8 : Int32))] [(.ref a0), (.int (8 : Int32))])) rfl rfl (hb hby d7_11) _ ?_
    rw [len_of S687 N687]
    show Steps p.tables e below (s₁.setTop (mkF m 12 #[.val (.ref a0), .val (.ref a1), .val (.int (8 : Int32))] [(.int (8 : Int32)), (.int (8 : Int32))])) _
    refine XS.icmpYes X0.here hx rfl (pc0 := 12) (pc' := 32) rfl (hb hby d7_12) rfl (flt (by decide)).2.1 (by decide) (by decide) ?_
    show Steps p.tables e below (s₁.setTop (mkF m 32 #[.val (.ref a0), .val (.ref a1), .val (.int (8 : Int32))] [])) _
    refine XS.iconst X0.here hx rfl (hb hby d7_32) ?_
    show Steps p.tables e below (s₁.setTop (mkF m 33 #[.val (.ref a0), .val (.ref a1), .val (.int (8 : Int32))] [(.int (1 : Int32))])) _
    exact retZ X0 hx Bd.returns (by decide) (hb hby d7_33) hr
  ·
    show Q_le_x Z a0 a1 k1 k2 h0 n0 _ s₁.heap _
    rw [e0]
    exact ⟨rfl, N0, rfl⟩
theorem ef_eq_x (m : MethodId) (a0 : Addr) (a1 : Addr) : entryFrame m #[(.ref a0), (.ref a1)] 3 = mkF m 0 #[.val (.ref a0), .val (.ref a1), .unset] [] := by first | (simp [entryFrame, mkF, argsToLocals, Value.category]; done) | rfl
def Q_eq_x (Z : State) (a0 : Addr) (a1 : Addr) (t0 : Addr) (t1 : Addr) (k1 : ClassId) (k2 : ClassId) (zc : Int32) (h0 : Heap) (n0 : Nat) (v : Option Value) (h : Heap) (L : List Loc) : Prop := v = some (.int (1 : Int32)) ∧ Fr n0 L ∧ h = h0
set_option maxRecDepth 65536 in
set_option maxHeartbeats 40000000 in
theorem eq_x (l : Launch) (Z : State) (aw : Array Value) (hw : ∀ d ∈ tables_1, d.before aw Z = true) (ws : List Jvm.Cond) (a0 : Addr) (a1 : Addr) (t0 : Addr) (t1 : Addr) (k1 : ClassId) (k2 : ClassId) (zc : Int32) (h0 : Heap) (n0 : Nat) (Z0 : n0 ≤ h0.size) (E_a1 : Exa Z h0 a1 "java/lang/String") (F_a0_coder : Fld Z h0 a0 "java/lang/String" "coder" "B" (.int (0 : Int32))) (F_a0_value : Fld Z h0 a0 "java/lang/String" "value" "[B" (.ref t0)) (F_a1_coder : Fld Z h0 a1 "java/lang/String" "coder" "B" (.int (0 : Int32))) (F_a1_value : Fld Z h0 a1 "java/lang/String" "value" "[B" (.ref t1)) (V_t0 : Arv Z h0 t0 k1 .byte (8 : Int32) [(.int (116 : Int32)), (.int (101 : Int32)), (.int (120 : Int32)), (.int (116 : Int32)), (.int (47 : Int32)), (.int (120 : Int32)), (.int (109 : Int32)), (.int (108 : Int32))] (.int (0 : Int32))) (V_t1 : Arv Z h0 t1 k2 .byte (8 : Int32) [(.int (116 : Int32)), (.int (101 : Int32)), (.int (120 : Int32)), (.int (116 : Int32)), (.int (47 : Int32)), (.int (120 : Int32)), (.int (109 : Int32)), (.int (108 : Int32))] (.int (0 : Int32))) (OLD : Old Z n0 h0) (O_COMPACT_STRINGS : Sta Z Z.heap "java/lang/String" "COMPACT_STRINGS" "Z" (.int zc)) (hzc : ¬ (zc = (0 : Int32))) :
    MetFree l (⟨"java/lang/String", "equals", "(Ljava/lang/Object;)Z"⟩ : MethodName) (head1 (Jvm.Cond.code (⟨"java/lang/String", "equals", "(Ljava/lang/Object;)Z"⟩ : MethodName) jdk_42_method_66_code 3 (some .boolean) :: ws) ({ frames := 1, cells := 0, slots := 0, locals := 14 } : Room)) (fun a U => a = #[(.ref a0), (.ref a1)] ∧ Z.Warmed39 U.vm ∧ U.heap = h0) (fun _ _ _ _ _ => True) (fun _ U o U' => ∃ v L, o = .returned v ∧ Q_eq_x Z a0 a1 t0 t1 k1 k2 zc h0 n0 v U'.heap L ∧ FrameEnd U o U' L ({ frames := 1, cells := 0, slots := 0, locals := 14 } : Room).cells ({ frames := 1, cells := 0, slots := 0, locals := 14 } : Room).slots) := by
  refine MetFree.of_bodySF (plainFor_of_name pn_1) hisR ?_
  intro p e s m args below meth c s₁ Bd hml0 hP hK
  obtain ⟨rfl, hZ, hh⟩ := hP
  have hx := Bd.exec
  have hby := Bd.bytes
  have hml : c.maxLocals = 3 := hml0
  have hown : s.vm.findClass "java/lang/String" = some m.cls := findClass_of_methodNamed Bd.named
  have hnm := (name_of_methodNamed Bd.named Bd.method).1
  have X0 : Stand p l e ({ frames := 1, cells := 0, slots := 0, locals := 14 } : Room) s m #[(.ref a0), (.ref a1)] below meth c s₁ [] 0 0 := Stand.of_body Bd
  have e0 : s₁.heap = h0 := by rw [← hh, Bd.state]; rfl
  have N0 := Fr.nil n0
  have pre0 : ∀ t, Steps p.tables e below (s₁.setTop (mkF m 0 #[.val (.ref a0), .val (.ref a1), .unset] [])) t → Steps p.tables e below (s₁.setTop (entryFrame m #[(.ref a0), (.ref a1)] 3)) t := fun t k => castTop (ef_eq_x m a0 a1) k
  have pre689 : ∀ t, Steps p.tables e below (s₁.setTop (mkF m 2 #[.val (.ref a0), .val (.ref a1), .unset] [(.ref a1), (.ref a0)])) t → Steps p.tables e below (s₁.setTop (entryFrame m #[(.ref a0), (.ref a1)] 3)) t := fun t k => by
    refine pre0 t ?_
    show Steps p.tables e below (s₁.setTop (mkF m 0 #[.val (.ref a0), .val (.ref a1), .unset] [])) _
    refine XS.aloadN X0.here hx rfl (hb hby d6_0) rfl rfl ?_
    show Steps p.tables e below (s₁.setTop (mkF m 1 #[.val (.ref a0), .val (.ref a1), .unset] [(.ref a0)])) _
    refine XS.aloadN X0.here hx rfl (hb hby d6_1) rfl rfl ?_
    exact k
  by_cases c688 : a0 = a1
  ·
    obtain ⟨fs, hr, hrun, hended, hW, hsame⟩ := X0.leave (v := some (.int (1 : Int32))) (fun h => by rw [Bd.returns] at h; cases h)
    refine ⟨_, _, pre689 _ ?_, hrun, hended, _, _, rfl, ?_, ⟨_, rfl⟩, hW, hsame.mono (by decide) (by decide)⟩
    ·
      show Steps p.tables e below (s₁.setTop (mkF m 2 #[.val (.ref a0), .val (.ref a1), .unset] [(.ref a1), (.ref a0)])) _
      refine Jvm.RoadKit.acmp (g := (mkF m 2 #[.val (.ref a0), .val (.ref a1), .unset] [(.ref a1), (.ref a0)])) X0 hx rfl rfl rfl (pc0 := 2) (pc' := 5) (same := true) rfl (hb hby d6_2) rfl (decide_eq_true (congrArg Value.ref c688)) (by decide) (by decide) ?_
      show Steps p.tables e below (s₁.setTop (mkF m 5 #[.val (.ref a0), .val (.ref a1), .unset] [])) _
      refine XS.iconst X0.here hx rfl (hb hby d6_5) ?_
      show Steps p.tables e below (s₁.setTop (mkF m 6 #[.val (.ref a0), .val (.ref a1), .unset] [(.int (1 : Int32))])) _
      exact retZ X0 hx Bd.returns (by decide) (hb hby d6_6) hr
    ·
      show Q_eq_x Z a0 a1 t0 t1 k1 k2 zc h0 n0 _ s₁.heap _
      rw [e0]
      exact ⟨rfl, N0, rfl⟩
  ·
    obtain ⟨T690, X690, e690, st690⟩ := instY X0 hx hZ hown (hw _ (List.mem_of_getElem? (i := 36) rfl)) e0 (Ins.self E_a1) (g := (mkF m 8 #[.val (.ref a0), .val (.ref a1), .unset] [(.ref a1)])) rfl rfl (hb hby d6_8)
    obtain ⟨T691, X691, e691, st691⟩ := castY X690 hx hZ hown (hw _ (List.mem_of_getElem? (i := 36) rfl)) e690 (Ins.self E_a1) (g := (mkF m 15 #[.val (.ref a0), .val (.ref a1), .unset] [(.ref a1)])) rfl rfl (hb hby d6_15)
    obtain ⟨T692, X692, e692, st692⟩ := getS2 X691 hx hZ hown (host := "") (Or.inl (hw _ (List.mem_of_getElem? (i := 37) rfl))) Via.refl e691 (Sta.ext OLD.2 O_COMPACT_STRINGS) (g := (mkF m 19 #[.val (.ref a0), .val (.ref a1), .val (.ref a1)] [])) rfl (hb hby d6_19)
    have c693 : ¬ (zc = (0 : Int32)) := by
      exact hzc
    obtain ⟨T694, X694, e694, st694⟩ := getF X692 hx hZ hown (host := "") (Or.inl (hw _ (List.mem_of_getElem? (i := 25) rfl))) Via.refl e692 F_a0_coder (g := (mkF m 26 #[.val (.ref a0), .val (.ref a1), .val (.ref a1)] [(.ref a0)])) rfl rfl (hb hby d6_26)
    obtain ⟨T695, X695, e695, st695⟩ := getF X694 hx hZ hown (host := "") (Or.inl (hw _ (List.mem_of_getElem? (i := 25) rfl))) Via.refl e694 F_a1_coder (g := (mkF m 30 #[.val (.ref a0), .val (.ref a1), .val (.ref a1)] [(.ref a1), (.int (0 : Int32))])) rfl rfl (hb hby d6_30)
    obtain ⟨T696, X696, e696, st696⟩ := getF X695 hx hZ hown (host := "") (Or.inl (hw _ (List.mem_of_getElem? (i := 24) rfl))) Via.refl e695 F_a0_value (g := (mkF m 37 #[.val (.ref a0), .val (.ref a1), .val (.ref a1)] [(.ref a0)])) rfl rfl (hb hby d6_37)
    obtain ⟨T697, X697, e697, st697⟩ := getF X696 hx hZ hown (host := "") (Or.inl (hw _ (List.mem_of_getElem? (i := 24) rfl))) Via.refl e696 F_a1_value (g := (mkF m 41 #[.val (.ref a0), .val (.ref a1), .val (.ref a1)] [(.ref a1), (.ref t0)])) rfl rfl (hb hby d6_41)
    obtain ⟨_, _, ⟨T698, L698, k698, n698⟩, -, X698, ⟨Lc698, hQ698, l698, y698, z698⟩, st698⟩ := Jvm.LawKit.callS X697 hx (y := (⟨"java/lang/StringLatin1", "equals", "([B[B)Z"⟩ : MethodName)) hown (mvT hZ (hw _ (List.mem_of_getElem? (i := 38) rfl))) (mvT hZ (hw _ (List.mem_of_getElem? (i := 39) rfl))) (mvT hZ (hw _ (List.mem_of_getElem? (i := 40) rfl))) (mvT hZ (hw _ (List.mem_of_getElem? (i := 41) rfl))) (by decide) (backOf (W := 0) (le_x l Z aw hw [] t0 t1 k1 k2 h0 n0 Z0 V_t0 V_t1) hZ (hw _ (List.mem_of_getElem? (i := 41) rfl)) (hw _ (List.mem_of_getElem? (i := 40) rfl)) (by decide) (by decide)) (g := (mkF m 44 #[.val (.ref a0), .val (.ref a1), .val (.ref a1)] [(.ref t1), (.ref t0)])) rfl (by rw [hml]; rfl) (argsL := [(.ref t0), (.ref t1)]) (rest := []) (lenOf pd_5 rfl) rfl (by show 2 * 0 + _ ≤ _; exact Nat.le_of_eq rfl) (hb hby d6_44) (fun _ _ => ⟨rfl, e697, (by decide : 0 + 0 ≤ _), (by decide : 0 + 0 ≤ _)⟩)
    dsimp only [Pt.U, Pt.locs, Pt.cells, Pt.slots] at X698 l698 y698 z698 st698 hQ698
    replace l698 := l698.symm; replace y698 := y698.symm; replace z698 := z698.symm; subst l698 y698 z698
    obtain ⟨rfl, N698q, e698⟩ := hQ698
    have N698 := Fr.app N0 N698q
    obtain ⟨fs, hr, hrun, hended, hW, hsame⟩ := X698.leave (v := some (.int (1 : Int32))) (fun h => by rw [Bd.returns] at h; cases h)
    refine ⟨_, _, pre689 _ ?_, hrun, hended, _, _, rfl, ?_, ⟨_, rfl⟩, hW, hsame.mono (by decide) (by decide)⟩
    ·
      show Steps p.tables e below (s₁.setTop (mkF m 2 #[.val (.ref a0), .val (.ref a1), .unset] [(.ref a1), (.ref a0)])) _
      refine Jvm.RoadKit.acmp (g := (mkF m 2 #[.val (.ref a0), .val (.ref a1), .unset] [(.ref a1), (.ref a0)])) X0 hx rfl rfl rfl (pc0 := 2) (pc' := 7) (same := false) rfl (hb hby d6_2) rfl (decide_eq_false fun q => c688 (Value.ref.inj q)) (by decide) (by decide) ?_
      show Steps p.tables e below (s₁.setTop (mkF m 7 #[.val (.ref a0), .val (.ref a1), .unset] [])) _
      refine XS.aloadN X0.here hx rfl (hb hby d6_7) rfl rfl ?_
      show Steps p.tables e below (s₁.setTop (mkF m 8 #[.val (.ref a0), .val (.ref a1), .unset] [(.ref a1)])) _
      refine st690 _ ?_
      show Steps p.tables e below (T690.setTop (mkF m 11 #[.val (.ref a0), .val (.ref a1), .unset] [(.int (1 : Int32))])) _
      refine XS.ifNo X690.here hx rfl (hb hby d6_11) rfl ((if0 _ _).trans (feq (by decide)).1) ?_
      show Steps p.tables e below (T690.setTop (mkF m 14 #[.val (.ref a0), .val (.ref a1), .unset] [])) _
      refine XS.aloadN X690.here hx rfl (hb hby d6_14) rfl rfl ?_
      show Steps p.tables e below (T690.setTop (mkF m 15 #[.val (.ref a0), .val (.ref a1), .unset] [(.ref a1)])) _
      refine st691 _ ?_
      show Steps p.tables e below (T691.setTop (mkF m 18 #[.val (.ref a0), .val (.ref a1), .unset] [(.ref a1)])) _
      refine XS.astoreN X691.here hx rfl (hb hby d6_18) rfl rfl (l' := #[.val (.ref a0), .val (.ref a1), .val (.ref a1)]) rfl ?_
      show Steps p.tables e below (T691.setTop (mkF m 19 #[.val (.ref a0), .val (.ref a1), .val (.ref a1)] [])) _
      refine st692 _ ?_
      show Steps p.tables e below (T692.setTop (mkF m 22 #[.val (.ref a0), .val (.ref a1), .val (.ref a1)] [(.int zc)])) _
      refine XS.ifNo X692.here hx rfl (hb hby d6_22) rfl ((if0 _ _).trans (feq c693).1) ?_
      show Steps p.tables e below (T692.setTop (mkF m 25 #[.val (.ref a0), .val (.ref a1), .val (.ref a1)] [])) _
      refine XS.aloadN X692.here hx rfl (hb hby d6_25) rfl rfl ?_
      show Steps p.tables e below (T692.setTop (mkF m 26 #[.val (.ref a0), .val (.ref a1), .val (.ref a1)] [(.ref a0)])) _
      refine st694 _ ?_
      show Steps p.tables e below (T694.setTop (mkF m 29 #[.val (.ref a0), .val (.ref a1), .val (.ref a1)] [(.int (0 : Int32))])) _
      refine XS.aloadN X694.here hx rfl (hb hby d6_29) rfl rfl ?_
      show Steps p.tables e below (T694.setTop (mkF m 30 #[.val (.ref a0), .val (.ref a1), .val (.ref a1)] [(.ref a1), (.int (0 : Int32))])) _
      refine st695 _ ?_
      show Steps p.tables e below (T695.setTop (mkF m 33 #[.val (.ref a0), .val (.ref a1), .val (.ref a1)] [(.int (0 : Int32)), (.int (0 : Int32))])) _
      refine XS.icmpNo X695.here hx rfl (hb hby d6_33) rfl (teq rfl).2 ?_
      show Steps p.tables e below (T695.setTop (mkF m 36 #[.val (.ref a0), .val (.ref a1), .val (.ref a1)] [])) _
      refine XS.aloadN X695.here hx rfl (hb hby d6_36) rfl rfl ?_
      show Steps p.tables e below (T695.setTop (mkF m 37 #[.val (.ref a0), .val (.ref a1), .val (.ref a1)] [(.ref a0)])) _
      refine st696 _ ?_
      show Steps p.tables e below (T696.setTop (mkF m 40 #[.val (.ref a0), .val (.ref a1), .val (.ref a1)] [(.ref t0)])) _
      refine XS.aloadN X696.here hx rfl (hb hby d6_40) rfl rfl ?_
      show Steps p.tables e below (T696.setTop (mkF m 41 #[.val (.ref a0), .val (.ref a1), .val (.ref a1)] [(.ref a1), (.ref t0)])) _
      refine st697 _ ?_
      show Steps p.tables e below (T697.setTop (mkF m 44 #[.val (.ref a0), .val (.ref a1), .val (.ref a1)] [(.ref t1), (.ref t0)])) _
      refine st698 _ ?_
      show Steps p.tables e below (T698.setTop (mkF m 47 #[.val (.ref a0), .val (.ref a1), .val (.ref a1)] [(.int (1 : Int32))])) _
      refine XS.ifNo X698.here hx rfl (hb hby d6_47) rfl ((if0 _ _).trans (feq (by decide)).1) ?_
      show Steps p.tables e below (T698.setTop (mkF m 50 #[.val (.ref a0), .val (.ref a1), .val (.ref a1)] [])) _
      refine XS.iconst X698.here hx rfl (hb hby d6_50) ?_
      show Steps p.tables e below (T698.setTop (mkF m 51 #[.val (.ref a0), .val (.ref a1), .val (.ref a1)] [(.int (1 : Int32))])) _
      refine XS.goto X698.here hx rfl (pc0 := 51) (pc' := 55) rfl (hb hby d6_51) (by decide) (by decide) ?_
      show Steps p.tables e below (T698.setTop (mkF m 55 #[.val (.ref a0), .val (.ref a1), .val (.ref a1)] [(.int (1 : Int32))])) _
      exact retZ X698 hx Bd.returns (by decide) (hb hby d6_55) hr
    ·
      show Q_eq_x Z a0 a1 t0 t1 k1 k2 zc h0 n0 _ T698.heap _
      rw [e698]
      exact ⟨rfl, N698, rfl⟩
theorem ef_le_o (m : MethodId) (a0 : Addr) (a1 : Addr) : entryFrame m #[(.ref a0), (.ref a1)] 3 = mkF m 0 #[.val (.ref a0), .val (.ref a1), .unset] [] := by first | (simp [entryFrame, mkF, argsToLocals, Value.category]; done) | rfl
def Q_le_o (Z : State) (a0 : Addr) (a1 : Addr) (k1 : ClassId) (k2 : ClassId) (h0 : Heap) (n0 : Nat) (v : Option Value) (h : Heap) (L : List Loc) : Prop := v = some (.int (1 : Int32)) ∧ Fr n0 L ∧ h = h0
set_option maxRecDepth 65536 in
set_option maxHeartbeats 40000000 in
theorem le_o (l : Launch) (Z : State) (aw : Array Value) (hw : ∀ d ∈ tables_1, d.before aw Z = true) (ws : List Jvm.Cond) (a0 : Addr) (a1 : Addr) (k1 : ClassId) (k2 : ClassId) (h0 : Heap) (n0 : Nat) (Z0 : n0 ≤ h0.size) (V_a0 : Arv Z h0 a0 k1 .byte (24 : Int32) [(.int (97 : Int32)), (.int (112 : Int32)), (.int (112 : Int32)), (.int (108 : Int32)), (.int (105 : Int32)), (.int (99 : Int32)), (.int (97 : Int32)), (.int (116 : Int32)), (.int (105 : Int32)), (.int (111 : Int32)), (.int (110 : Int32)), (.int (47 : Int32)), (.int (111 : Int32)), (.int (99 : Int32)), (.int (116 : Int32)), (.int (101 : Int32)), (.int (116 : Int32)), (.int (45 : Int32)), (.int (115 : Int32)), (.int (116 : Int32)), (.int (114 : Int32)), (.int (101 : Int32)), (.int (97 : Int32)), (.int (109 : Int32))] (.int (0 : Int32))) (V_a1 : Arv Z h0 a1 k2 .byte (24 : Int32) [(.int (97 : Int32)), (.int (112 : Int32)), (.int (112 : Int32)), (.int (108 : Int32)), (.int (105 : Int32)), (.int (99 : Int32)), (.int (97 : Int32)), (.int (116 : Int32)), (.int (105 : Int32)), (.int (111 : Int32)), (.int (110 : Int32)), (.int (47 : Int32)), (.int (111 : Int32)), (.int (99 : Int32)), (.int (116 : Int32)), (.int (101 : Int32)), (.int (116 : Int32)), (.int (45 : Int32)), (.int (115 : Int32)), (.int (116 : Int32)), (.int (114 : Int32)), (.int (101 : Int32)), (.int (97 : Int32)), (.int (109 : Int32))] (.int (0 : Int32))) :
    MetFree l (⟨"java/lang/StringLatin1", "equals", "([B[B)Z"⟩ : MethodName) (head1 (Jvm.Cond.code (⟨"java/lang/StringLatin1", "equals", "([B[B)Z"⟩ : MethodName) jdk_43_method_13_code 3 (some .boolean) :: ws) ({ frames := 0, cells := 0, slots := 0, locals := 0 } : Room)) (fun a U => a = #[(.ref a0), (.ref a1)] ∧ Z.Warmed39 U.vm ∧ U.heap = h0) (fun _ _ _ _ _ => True) (fun _ U o U' => ∃ v L, o = .returned v ∧ Q_le_o Z a0 a1 k1 k2 h0 n0 v U'.heap L ∧ FrameEnd U o U' L ({ frames := 0, cells := 0, slots := 0, locals := 0 } : Room).cells ({ frames := 0, cells := 0, slots := 0, locals := 0 } : Room).slots) := by
  refine MetFree.of_bodySF (plainFor_of_name pn_3) hisR ?_
  intro p e s m args below meth c s₁ Bd hml0 hP hK
  obtain ⟨rfl, hZ, hh⟩ := hP
  have hx := Bd.exec
  have hby := Bd.bytes
  have hml : c.maxLocals = 3 := hml0
  have hown : s.vm.findClass "java/lang/StringLatin1" = some m.cls := findClass_of_methodNamed Bd.named
  have hnm := (name_of_methodNamed Bd.named Bd.method).1
  have X0 : Stand p l e ({ frames := 0, cells := 0, slots := 0, locals := 0 } : Room) s m #[(.ref a0), (.ref a1)] below meth c s₁ [] 0 0 := Stand.of_body Bd
  have e0 : s₁.heap = h0 := by rw [← hh, Bd.state]; rfl
  have N0 := Fr.nil n0
  have pre0 : ∀ t, Steps p.tables e below (s₁.setTop (mkF m 0 #[.val (.ref a0), .val (.ref a1), .unset] [])) t → Steps p.tables e below (s₁.setTop (entryFrame m #[(.ref a0), (.ref a1)] 3)) t := fun t k => castTop (ef_le_o m a0 a1) k
  obtain ⟨cl699, Ar699, q699, S699, N699, H699, G699⟩ := id V_a0
  obtain ⟨cl700, Ar700, q700, S700, N700, H700, G700⟩ := id V_a1
  obtain ⟨cl701, Ar701, q701, S701, N701, H701, G701⟩ := id V_a0
  obtain ⟨cl702, Ar702, q702, S702, N702, H702, G702⟩ := id V_a0
  have hin702 : ¬ ((0 : Int32) < 0 ∨ cl702.slots.size ≤ ((0 : Int32)).toNatClampNeg) := inb_of S702 ⟨by decide, by decide⟩
  have hat702 : cl702.slots[((0 : Int32)).toNatClampNeg]? = some (.int (97 : Int32)) := Has.at H702 hin702 rfl
  obtain ⟨cl703, Ar703, q703, S703, N703, H703, G703⟩ := id V_a1
  have hin703 : ¬ ((0 : Int32) < 0 ∨ cl703.slots.size ≤ ((0 : Int32)).toNatClampNeg) := inb_of S703 ⟨by decide, by decide⟩
  have hat703 : cl703.slots[((0 : Int32)).toNatClampNeg]? = some (.int (97 : Int32)) := Has.at H703 hin703 rfl
  obtain ⟨cl704, Ar704, q704, S704, N704, H704, G704⟩ := id V_a0
  obtain ⟨cl705, Ar705, q705, S705, N705, H705, G705⟩ := id V_a0
  have hin705 : ¬ ((1 : Int32) < 0 ∨ cl705.slots.size ≤ ((1 : Int32)).toNatClampNeg) := inb_of S705 ⟨by decide, by decide⟩
  have hat705 : cl705.slots[((1 : Int32)).toNatClampNeg]? = some (.int (112 : Int32)) := Has.at H705 hin705 rfl
  obtain ⟨cl706, Ar706, q706, S706, N706, H706, G706⟩ := id V_a1
  have hin706 : ¬ ((1 : Int32) < 0 ∨ cl706.slots.size ≤ ((1 : Int32)).toNatClampNeg) := inb_of S706 ⟨by decide, by decide⟩
  have hat706 : cl706.slots[((1 : Int32)).toNatClampNeg]? = some (.int (112 : Int32)) := Has.at H706 hin706 rfl
  obtain ⟨cl707, Ar707, q707, S707, N707, H707, G707⟩ := id V_a0
  obtain ⟨cl708, Ar708, q708, S708, N708, H708, G708⟩ := id V_a0
  have hin708 : ¬ ((2 : Int32) < 0 ∨ cl708.slots.size ≤ ((2 : Int32)).toNatClampNeg) := inb_of S708 ⟨by decide, by decide⟩
  have hat708 : cl708.slots[((2 : Int32)).toNatClampNeg]? = some (.int (112 : Int32)) := Has.at H708 hin708 rfl
  obtain ⟨cl709, Ar709, q709, S709, N709, H709, G709⟩ := id V_a1
  have hin709 : ¬ ((2 : Int32) < 0 ∨ cl709.slots.size ≤ ((2 : Int32)).toNatClampNeg) := inb_of S709 ⟨by decide, by decide⟩
  have hat709 : cl709.slots[((2 : Int32)).toNatClampNeg]? = some (.int (112 : Int32)) := Has.at H709 hin709 rfl
  obtain ⟨cl710, Ar710, q710, S710, N710, H710, G710⟩ := id V_a0
  obtain ⟨cl711, Ar711, q711, S711, N711, H711, G711⟩ := id V_a0
  have hin711 : ¬ ((3 : Int32) < 0 ∨ cl711.slots.size ≤ ((3 : Int32)).toNatClampNeg) := inb_of S711 ⟨by decide, by decide⟩
  have hat711 : cl711.slots[((3 : Int32)).toNatClampNeg]? = some (.int (108 : Int32)) := Has.at H711 hin711 rfl
  obtain ⟨cl712, Ar712, q712, S712, N712, H712, G712⟩ := id V_a1
  have hin712 : ¬ ((3 : Int32) < 0 ∨ cl712.slots.size ≤ ((3 : Int32)).toNatClampNeg) := inb_of S712 ⟨by decide, by decide⟩
  have hat712 : cl712.slots[((3 : Int32)).toNatClampNeg]? = some (.int (108 : Int32)) := Has.at H712 hin712 rfl
  obtain ⟨cl713, Ar713, q713, S713, N713, H713, G713⟩ := id V_a0
  obtain ⟨cl714, Ar714, q714, S714, N714, H714, G714⟩ := id V_a0
  have hin714 : ¬ ((4 : Int32) < 0 ∨ cl714.slots.size ≤ ((4 : Int32)).toNatClampNeg) := inb_of S714 ⟨by decide, by decide⟩
  have hat714 : cl714.slots[((4 : Int32)).toNatClampNeg]? = some (.int (105 : Int32)) := Has.at H714 hin714 rfl
  obtain ⟨cl715, Ar715, q715, S715, N715, H715, G715⟩ := id V_a1
  have hin715 : ¬ ((4 : Int32) < 0 ∨ cl715.slots.size ≤ ((4 : Int32)).toNatClampNeg) := inb_of S715 ⟨by decide, by decide⟩
  have hat715 : cl715.slots[((4 : Int32)).toNatClampNeg]? = some (.int (105 : Int32)) := Has.at H715 hin715 rfl
  obtain ⟨cl716, Ar716, q716, S716, N716, H716, G716⟩ := id V_a0
  obtain ⟨cl717, Ar717, q717, S717, N717, H717, G717⟩ := id V_a0
  have hin717 : ¬ ((5 : Int32) < 0 ∨ cl717.slots.size ≤ ((5 : Int32)).toNatClampNeg) := inb_of S717 ⟨by decide, by decide⟩
  have hat717 : cl717.slots[((5 : Int32)).toNatClampNeg]? = some (.int (99 : Int32)) := Has.at H717 hin717 rfl
  obtain ⟨cl718, Ar718, q718, S718, N718, H718, G718⟩ := id V_a1
  have hin718 : ¬ ((5 : Int32) < 0 ∨ cl718.slots.size ≤ ((5 : Int32)).toNatClampNeg) := inb_of S718 ⟨by decide, by decide⟩
  have hat718 : cl718.slots[((5 : Int32)).toNatClampNeg]? = some (.int (99 : Int32)) := Has.at H718 hin718 rfl
  obtain ⟨cl719, Ar719, q719, S719, N719, H719, G719⟩ := id V_a0
  obtain ⟨cl720, Ar720, q720, S720, N720, H720, G720⟩ := id V_a0
  have hin720 : ¬ ((6 : Int32) < 0 ∨ cl720.slots.size ≤ ((6 : Int32)).toNatClampNeg) := inb_of S720 ⟨by decide, by decide⟩
  have hat720 : cl720.slots[((6 : Int32)).toNatClampNeg]? = some (.int (97 : Int32)) := Has.at H720 hin720 rfl
  obtain ⟨cl721, Ar721, q721, S721, N721, H721, G721⟩ := id V_a1
  have hin721 : ¬ ((6 : Int32) < 0 ∨ cl721.slots.size ≤ ((6 : Int32)).toNatClampNeg) := inb_of S721 ⟨by decide, by decide⟩
  have hat721 : cl721.slots[((6 : Int32)).toNatClampNeg]? = some (.int (97 : Int32)) := Has.at H721 hin721 rfl
  obtain ⟨cl722, Ar722, q722, S722, N722, H722, G722⟩ := id V_a0
  obtain ⟨cl723, Ar723, q723, S723, N723, H723, G723⟩ := id V_a0
  have hin723 : ¬ ((7 : Int32) < 0 ∨ cl723.slots.size ≤ ((7 : Int32)).toNatClampNeg) := inb_of S723 ⟨by decide, by decide⟩
  have hat723 : cl723.slots[((7 : Int32)).toNatClampNeg]? = some (.int (116 : Int32)) := Has.at H723 hin723 rfl
  obtain ⟨cl724, Ar724, q724, S724, N724, H724, G724⟩ := id V_a1
  have hin724 : ¬ ((7 : Int32) < 0 ∨ cl724.slots.size ≤ ((7 : Int32)).toNatClampNeg) := inb_of S724 ⟨by decide, by decide⟩
  have hat724 : cl724.slots[((7 : Int32)).toNatClampNeg]? = some (.int (116 : Int32)) := Has.at H724 hin724 rfl
  obtain ⟨cl725, Ar725, q725, S725, N725, H725, G725⟩ := id V_a0
  obtain ⟨cl726, Ar726, q726, S726, N726, H726, G726⟩ := id V_a0
  have hin726 : ¬ ((8 : Int32) < 0 ∨ cl726.slots.size ≤ ((8 : Int32)).toNatClampNeg) := inb_of S726 ⟨by decide, by decide⟩
  have hat726 : cl726.slots[((8 : Int32)).toNatClampNeg]? = some (.int (105 : Int32)) := Has.at H726 hin726 rfl
  obtain ⟨cl727, Ar727, q727, S727, N727, H727, G727⟩ := id V_a1
  have hin727 : ¬ ((8 : Int32) < 0 ∨ cl727.slots.size ≤ ((8 : Int32)).toNatClampNeg) := inb_of S727 ⟨by decide, by decide⟩
  have hat727 : cl727.slots[((8 : Int32)).toNatClampNeg]? = some (.int (105 : Int32)) := Has.at H727 hin727 rfl
  obtain ⟨cl728, Ar728, q728, S728, N728, H728, G728⟩ := id V_a0
  obtain ⟨cl729, Ar729, q729, S729, N729, H729, G729⟩ := id V_a0
  have hin729 : ¬ ((9 : Int32) < 0 ∨ cl729.slots.size ≤ ((9 : Int32)).toNatClampNeg) := inb_of S729 ⟨by decide, by decide⟩
  have hat729 : cl729.slots[((9 : Int32)).toNatClampNeg]? = some (.int (111 : Int32)) := Has.at H729 hin729 rfl
  obtain ⟨cl730, Ar730, q730, S730, N730, H730, G730⟩ := id V_a1
  have hin730 : ¬ ((9 : Int32) < 0 ∨ cl730.slots.size ≤ ((9 : Int32)).toNatClampNeg) := inb_of S730 ⟨by decide, by decide⟩
  have hat730 : cl730.slots[((9 : Int32)).toNatClampNeg]? = some (.int (111 : Int32)) := Has.at H730 hin730 rfl
  obtain ⟨cl731, Ar731, q731, S731, N731, H731, G731⟩ := id V_a0
  obtain ⟨cl732, Ar732, q732, S732, N732, H732, G732⟩ := id V_a0
  have hin732 : ¬ ((10 : Int32) < 0 ∨ cl732.slots.size ≤ ((10 : Int32)).toNatClampNeg) := inb_of S732 ⟨by decide, by decide⟩
  have hat732 : cl732.slots[((10 : Int32)).toNatClampNeg]? = some (.int (110 : Int32)) := Has.at H732 hin732 rfl
  obtain ⟨cl733, Ar733, q733, S733, N733, H733, G733⟩ := id V_a1
  have hin733 : ¬ ((10 : Int32) < 0 ∨ cl733.slots.size ≤ ((10 : Int32)).toNatClampNeg) := inb_of S733 ⟨by decide, by decide⟩
  have hat733 : cl733.slots[((10 : Int32)).toNatClampNeg]? = some (.int (110 : Int32)) := Has.at H733 hin733 rfl
  obtain ⟨cl734, Ar734, q734, S734, N734, H734, G734⟩ := id V_a0
  obtain ⟨cl735, Ar735, q735, S735, N735, H735, G735⟩ := id V_a0
  have hin735 : ¬ ((11 : Int32) < 0 ∨ cl735.slots.size ≤ ((11 : Int32)).toNatClampNeg) := inb_of S735 ⟨by decide, by decide⟩
  have hat735 : cl735.slots[((11 : Int32)).toNatClampNeg]? = some (.int (47 : Int32)) := Has.at H735 hin735 rfl
  obtain ⟨cl736, Ar736, q736, S736, N736, H736, G736⟩ := id V_a1
  have hin736 : ¬ ((11 : Int32) < 0 ∨ cl736.slots.size ≤ ((11 : Int32)).toNatClampNeg) := inb_of S736 ⟨by decide, by decide⟩
  have hat736 : cl736.slots[((11 : Int32)).toNatClampNeg]? = some (.int (47 : Int32)) := Has.at H736 hin736 rfl
  obtain ⟨cl737, Ar737, q737, S737, N737, H737, G737⟩ := id V_a0
  obtain ⟨cl738, Ar738, q738, S738, N738, H738, G738⟩ := id V_a0
  have hin738 : ¬ ((12 : Int32) < 0 ∨ cl738.slots.size ≤ ((12 : Int32)).toNatClampNeg) := inb_of S738 ⟨by decide, by decide⟩
  have hat738 : cl738.slots[((12 : Int32)).toNatClampNeg]? = some (.int (111 : Int32)) := Has.at H738 hin738 rfl
  obtain ⟨cl739, Ar739, q739, S739, N739, H739, G739⟩ := id V_a1
  have hin739 : ¬ ((12 : Int32) < 0 ∨ cl739.slots.size ≤ ((12 : Int32)).toNatClampNeg) := inb_of S739 ⟨by decide, by decide⟩
  have hat739 : cl739.slots[((12 : Int32)).toNatClampNeg]? = some (.int (111 : Int32)) := Has.at H739 hin739 rfl
  obtain ⟨cl740, Ar740, q740, S740, N740, H740, G740⟩ := id V_a0
  obtain ⟨cl741, Ar741, q741, S741, N741, H741, G741⟩ := id V_a0
  have hin741 : ¬ ((13 : Int32) < 0 ∨ cl741.slots.size ≤ ((13 : Int32)).toNatClampNeg) := inb_of S741 ⟨by decide, by decide⟩
  have hat741 : cl741.slots[((13 : Int32)).toNatClampNeg]? = some (.int (99 : Int32)) := Has.at H741 hin741 rfl
  obtain ⟨cl742, Ar742, q742, S742, N742, H742, G742⟩ := id V_a1
  have hin742 : ¬ ((13 : Int32) < 0 ∨ cl742.slots.size ≤ ((13 : Int32)).toNatClampNeg) := inb_of S742 ⟨by decide, by decide⟩
  have hat742 : cl742.slots[((13 : Int32)).toNatClampNeg]? = some (.int (99 : Int32)) := Has.at H742 hin742 rfl
  obtain ⟨cl743, Ar743, q743, S743, N743, H743, G743⟩ := id V_a0
  obtain ⟨cl744, Ar744, q744, S744, N744, H744, G744⟩ := id V_a0
  have hin744 : ¬ ((14 : Int32) < 0 ∨ cl744.slots.size ≤ ((14 : Int32)).toNatClampNeg) := inb_of S744 ⟨by decide, by decide⟩
  have hat744 : cl744.slots[((14 : Int32)).toNatClampNeg]? = some (.int (116 : Int32)) := Has.at H744 hin744 rfl
  obtain ⟨cl745, Ar745, q745, S745, N745, H745, G745⟩ := id V_a1
  have hin745 : ¬ ((14 : Int32) < 0 ∨ cl745.slots.size ≤ ((14 : Int32)).toNatClampNeg) := inb_of S745 ⟨by decide, by decide⟩
  have hat745 : cl745.slots[((14 : Int32)).toNatClampNeg]? = some (.int (116 : Int32)) := Has.at H745 hin745 rfl
  obtain ⟨cl746, Ar746, q746, S746, N746, H746, G746⟩ := id V_a0
  obtain ⟨cl747, Ar747, q747, S747, N747, H747, G747⟩ := id V_a0
  have hin747 : ¬ ((15 : Int32) < 0 ∨ cl747.slots.size ≤ ((15 : Int32)).toNatClampNeg) := inb_of S747 ⟨by decide, by decide⟩
  have hat747 : cl747.slots[((15 : Int32)).toNatClampNeg]? = some (.int (101 : Int32)) := Has.at H747 hin747 rfl
  obtain ⟨cl748, Ar748, q748, S748, N748, H748, G748⟩ := id V_a1
  have hin748 : ¬ ((15 : Int32) < 0 ∨ cl748.slots.size ≤ ((15 : Int32)).toNatClampNeg) := inb_of S748 ⟨by decide, by decide⟩
  have hat748 : cl748.slots[((15 : Int32)).toNatClampNeg]? = some (.int (101 : Int32)) := Has.at H748 hin748 rfl
  obtain ⟨cl749, Ar749, q749, S749, N749, H749, G749⟩ := id V_a0
  obtain ⟨cl750, Ar750, q750, S750, N750, H750, G750⟩ := id V_a0
  have hin750 : ¬ ((16 : Int32) < 0 ∨ cl750.slots.size ≤ ((16 : Int32)).toNatClampNeg) := inb_of S750 ⟨by decide, by decide⟩
  have hat750 : cl750.slots[((16 : Int32)).toNatClampNeg]? = some (.int (116 : Int32)) := Has.at H750 hin750 rfl
  obtain ⟨cl751, Ar751, q751, S751, N751, H751, G751⟩ := id V_a1
  have hin751 : ¬ ((16 : Int32) < 0 ∨ cl751.slots.size ≤ ((16 : Int32)).toNatClampNeg) := inb_of S751 ⟨by decide, by decide⟩
  have hat751 : cl751.slots[((16 : Int32)).toNatClampNeg]? = some (.int (116 : Int32)) := Has.at H751 hin751 rfl
  obtain ⟨cl752, Ar752, q752, S752, N752, H752, G752⟩ := id V_a0
  obtain ⟨cl753, Ar753, q753, S753, N753, H753, G753⟩ := id V_a0
  have hin753 : ¬ ((17 : Int32) < 0 ∨ cl753.slots.size ≤ ((17 : Int32)).toNatClampNeg) := inb_of S753 ⟨by decide, by decide⟩
  have hat753 : cl753.slots[((17 : Int32)).toNatClampNeg]? = some (.int (45 : Int32)) := Has.at H753 hin753 rfl
  obtain ⟨cl754, Ar754, q754, S754, N754, H754, G754⟩ := id V_a1
  have hin754 : ¬ ((17 : Int32) < 0 ∨ cl754.slots.size ≤ ((17 : Int32)).toNatClampNeg) := inb_of S754 ⟨by decide, by decide⟩
  have hat754 : cl754.slots[((17 : Int32)).toNatClampNeg]? = some (.int (45 : Int32)) := Has.at H754 hin754 rfl
  obtain ⟨cl755, Ar755, q755, S755, N755, H755, G755⟩ := id V_a0
  obtain ⟨cl756, Ar756, q756, S756, N756, H756, G756⟩ := id V_a0
  have hin756 : ¬ ((18 : Int32) < 0 ∨ cl756.slots.size ≤ ((18 : Int32)).toNatClampNeg) := inb_of S756 ⟨by decide, by decide⟩
  have hat756 : cl756.slots[((18 : Int32)).toNatClampNeg]? = some (.int (115 : Int32)) := Has.at H756 hin756 rfl
  obtain ⟨cl757, Ar757, q757, S757, N757, H757, G757⟩ := id V_a1
  have hin757 : ¬ ((18 : Int32) < 0 ∨ cl757.slots.size ≤ ((18 : Int32)).toNatClampNeg) := inb_of S757 ⟨by decide, by decide⟩
  have hat757 : cl757.slots[((18 : Int32)).toNatClampNeg]? = some (.int (115 : Int32)) := Has.at H757 hin757 rfl
  obtain ⟨cl758, Ar758, q758, S758, N758, H758, G758⟩ := id V_a0
  obtain ⟨cl759, Ar759, q759, S759, N759, H759, G759⟩ := id V_a0
  have hin759 : ¬ ((19 : Int32) < 0 ∨ cl759.slots.size ≤ ((19 : Int32)).toNatClampNeg) := inb_of S759 ⟨by decide, by decide⟩
  have hat759 : cl759.slots[((19 : Int32)).toNatClampNeg]? = some (.int (116 : Int32)) := Has.at H759 hin759 rfl
  obtain ⟨cl760, Ar760, q760, S760, N760, H760, G760⟩ := id V_a1
  have hin760 : ¬ ((19 : Int32) < 0 ∨ cl760.slots.size ≤ ((19 : Int32)).toNatClampNeg) := inb_of S760 ⟨by decide, by decide⟩
  have hat760 : cl760.slots[((19 : Int32)).toNatClampNeg]? = some (.int (116 : Int32)) := Has.at H760 hin760 rfl
  obtain ⟨cl761, Ar761, q761, S761, N761, H761, G761⟩ := id V_a0
  obtain ⟨cl762, Ar762, q762, S762, N762, H762, G762⟩ := id V_a0
  have hin762 : ¬ ((20 : Int32) < 0 ∨ cl762.slots.size ≤ ((20 : Int32)).toNatClampNeg) := inb_of S762 ⟨by decide, by decide⟩
  have hat762 : cl762.slots[((20 : Int32)).toNatClampNeg]? = some (.int (114 : Int32)) := Has.at H762 hin762 rfl
  obtain ⟨cl763, Ar763, q763, S763, N763, H763, G763⟩ := id V_a1
  have hin763 : ¬ ((20 : Int32) < 0 ∨ cl763.slots.size ≤ ((20 : Int32)).toNatClampNeg) := inb_of S763 ⟨by decide, by decide⟩
  have hat763 : cl763.slots[((20 : Int32)).toNatClampNeg]? = some (.int (114 : Int32)) := Has.at H763 hin763 rfl
  obtain ⟨cl764, Ar764, q764, S764, N764, H764, G764⟩ := id V_a0
  obtain ⟨cl765, Ar765, q765, S765, N765, H765, G765⟩ := id V_a0
  have hin765 : ¬ ((21 : Int32) < 0 ∨ cl765.slots.size ≤ ((21 : Int32)).toNatClampNeg) := inb_of S765 ⟨by decide, by decide⟩
  have hat765 : cl765.slots[((21 : Int32)).toNatClampNeg]? = some (.int (101 : Int32)) := Has.at H765 hin765 rfl
  obtain ⟨cl766, Ar766, q766, S766, N766, H766, G766⟩ := id V_a1
  have hin766 : ¬ ((21 : Int32) < 0 ∨ cl766.slots.size ≤ ((21 : Int32)).toNatClampNeg) := inb_of S766 ⟨by decide, by decide⟩
  have hat766 : cl766.slots[((21 : Int32)).toNatClampNeg]? = some (.int (101 : Int32)) := Has.at H766 hin766 rfl
  obtain ⟨cl767, Ar767, q767, S767, N767, H767, G767⟩ := id V_a0
  obtain ⟨cl768, Ar768, q768, S768, N768, H768, G768⟩ := id V_a0
  have hin768 : ¬ ((22 : Int32) < 0 ∨ cl768.slots.size ≤ ((22 : Int32)).toNatClampNeg) := inb_of S768 ⟨by decide, by decide⟩
  have hat768 : cl768.slots[((22 : Int32)).toNatClampNeg]? = some (.int (97 : Int32)) := Has.at H768 hin768 rfl
  obtain ⟨cl769, Ar769, q769, S769, N769, H769, G769⟩ := id V_a1
  have hin769 : ¬ ((22 : Int32) < 0 ∨ cl769.slots.size ≤ ((22 : Int32)).toNatClampNeg) := inb_of S769 ⟨by decide, by decide⟩
  have hat769 : cl769.slots[((22 : Int32)).toNatClampNeg]? = some (.int (97 : Int32)) := Has.at H769 hin769 rfl
  obtain ⟨cl770, Ar770, q770, S770, N770, H770, G770⟩ := id V_a0
  obtain ⟨cl771, Ar771, q771, S771, N771, H771, G771⟩ := id V_a0
  have hin771 : ¬ ((23 : Int32) < 0 ∨ cl771.slots.size ≤ ((23 : Int32)).toNatClampNeg) := inb_of S771 ⟨by decide, by decide⟩
  have hat771 : cl771.slots[((23 : Int32)).toNatClampNeg]? = some (.int (109 : Int32)) := Has.at H771 hin771 rfl
  obtain ⟨cl772, Ar772, q772, S772, N772, H772, G772⟩ := id V_a1
  have hin772 : ¬ ((23 : Int32) < 0 ∨ cl772.slots.size ≤ ((23 : Int32)).toNatClampNeg) := inb_of S772 ⟨by decide, by decide⟩
  have hat772 : cl772.slots[((23 : Int32)).toNatClampNeg]? = some (.int (109 : Int32)) := Has.at H772 hin772 rfl
  obtain ⟨cl773, Ar773, q773, S773, N773, H773, G773⟩ := id V_a0
  obtain ⟨fs, hr, hrun, hended, hW, hsame⟩ := X0.leave (v := some (.int (1 : Int32))) (fun h => by rw [Bd.returns] at h; cases h)
  refine ⟨_, _, pre0 _ ?_, hrun, hended, _, _, rfl, ?_, ⟨_, rfl⟩, hW, hsame.mono (by decide) (by decide)⟩
  ·
    show Steps p.tables e below (s₁.setTop (mkF m 0 #[.val (.ref a0), .val (.ref a1), .unset] [])) _
    refine XS.aloadN X0.here hx rfl (hb hby d7_0) rfl rfl ?_
    show Steps p.tables e below (s₁.setTop (mkF m 1 #[.val (.ref a0), .val (.ref a1), .unset] [(.ref a0)])) _
    refine X0.arraylength hx (by rw [e0]; exact Ar699.1) (State.isArrayOf_alike hZ.alike Ar699.2.1) (g := (mkF m 1 #[.val (.ref a0), .val (.ref a1), .unset] [(.ref a0)])) rfl rfl (hb hby d7_1) _ ?_
    rw [len_of S699 N699]
    show Steps p.tables e below (s₁.setTop (mkF m 2 #[.val (.ref a0), .val (.ref a1), .unset] [(.int (24 : Int32))])) _
    refine XS.aloadN X0.here hx rfl (hb hby d7_2) rfl rfl ?_
    show Steps p.tables e below (s₁.setTop (mkF m 3 #[.val (.ref a0), .val (.ref a1), .unset] [(.ref a1), (.int (24 : Int32))])) _
    refine X0.arraylength hx (by rw [e0]; exact Ar700.1) (State.isArrayOf_alike hZ.alike Ar700.2.1) (g := (mkF m 3 #[.val (.ref a0), .val (.ref a1), .unset] [(.ref a1), (.int (24 : Int32))])) rfl rfl (hb hby d7_3) _ ?_
    rw [len_of S700 N700]
    show Steps p.tables e below (s₁.setTop (mkF m 4 #[.val (.ref a0), .val (.ref a1), .unset] [(.int (24 : Int32)), (.int (24 : Int32))])) _
    refine XS.icmpNo X0.here hx rfl (hb hby d7_4) rfl (teq rfl).2 ?_
    show Steps p.tables e below (s₁.setTop (mkF m 7 #[.val (.ref a0), .val (.ref a1), .unset] [])) _
    refine XS.iconst X0.here hx rfl (hb hby d7_7) ?_
    show Steps p.tables e below (s₁.setTop (mkF m 8 #[.val (.ref a0), .val (.ref a1), .unset] [(.int (0 : Int32))])) _
    refine XS.istoreN X0.here hx rfl (hb hby d7_8) rfl (l' := #[.val (.ref a0), .val (.ref a1), .val (.int (0 : Int32))]) rfl ?_
    show Steps p.tables e below (s₁.setTop (mkF m 9 #[.val (.ref a0), .val (.ref a1), .val (.int (0 : Int32))] [])) _
    refine XS.iloadN X0.here hx rfl (hb hby d7_9) rfl ?_
    show Steps p.tables e below (s₁.setTop (mkF m 10 #[.val (.ref a0), .val (.ref a1), .val (.int (0 : Int32))] [(.int (0 : Int32))])) _
    refine XS.aloadN X0.here hx rfl (hb hby d7_10) rfl rfl ?_
    show Steps p.tables e below (s₁.setTop (mkF m 11 #[.val (.ref a0), .val (.ref a1), .val (.int (0 : Int32))] [(.ref a0), (.int (0 : Int32))])) _
    refine X0.arraylength hx (by rw [e0]; exact Ar701.1) (State.isArrayOf_alike hZ.alike Ar701.2.1) (g := (mkF m 11 #[.val (.ref a0), .val (.ref a1), .val (.int (0 : Int32))] [(.ref a0), (.int (0 : Int32))])) rfl rfl (hb hby d7_11) _ ?_
    rw [len_of S701 N701]
    show Steps p.tables e below (s₁.setTop (mkF m 12 #[.val (.ref a0), .val (.ref a1), .val (.int (0 : Int32))] [(.int (24 : Int32)), (.int (0 : Int32))])) _
    refine XS.icmpNo X0.here hx rfl (hb hby d7_12) rfl (tlt (by decide)).2.1 ?_
    show Steps p.tables e below (s₁.setTop (mkF m 15 #[.val (.ref a0), .val (.ref a1), .val (.int (0 : Int32))] [])) _
    refine XS.aloadN X0.here hx rfl (hb hby d7_15) rfl rfl ?_
    show Steps p.tables e below (s₁.setTop (mkF m 16 #[.val (.ref a0), .val (.ref a1), .val (.int (0 : Int32))] [(.ref a0)])) _
    refine XS.iloadN X0.here hx rfl (hb hby d7_16) rfl ?_
    show Steps p.tables e below (s₁.setTop (mkF m 17 #[.val (.ref a0), .val (.ref a1), .val (.int (0 : Int32))] [(.int (0 : Int32)), (.ref a0)])) _
    refine X0.baloadBytes hx (j := (0 : Int32)) (v := (.int (97 : Int32))) (by rw [e0]; exact Ar702.1) (State.isArrayOf_alike hZ.alike Ar702.2.1) Ar702.2.2 hin702 hat702 (g := (mkF m 17 #[.val (.ref a0), .val (.ref a1), .val (.int (0 : Int32))] [(.int (0 : Int32)), (.ref a0)])) rfl rfl (hb hby d7_17) _ ?_
    show Steps p.tables e below (s₁.setTop (mkF m 18 #[.val (.ref a0), .val (.ref a1), .val (.int (0 : Int32))] [(.int (97 : Int32))])) _
    refine XS.aloadN X0.here hx rfl (hb hby d7_18) rfl rfl ?_
    show Steps p.tables e below (s₁.setTop (mkF m 19 #[.val (.ref a0), .val (.ref a1), .val (.int (0 : Int32))] [(.ref a1), (.int (97 : Int32))])) _
    refine XS.iloadN X0.here hx rfl (hb hby d7_19) rfl ?_
    show Steps p.tables e below (s₁.setTop (mkF m 20 #[.val (.ref a0), .val (.ref a1), .val (.int (0 : Int32))] [(.int (0 : Int32)), (.ref a1), (.int (97 : Int32))])) _
    refine X0.baloadBytes hx (j := (0 : Int32)) (v := (.int (97 : Int32))) (by rw [e0]; exact Ar703.1) (State.isArrayOf_alike hZ.alike Ar703.2.1) Ar703.2.2 hin703 hat703 (g := (mkF m 20 #[.val (.ref a0), .val (.ref a1), .val (.int (0 : Int32))] [(.int (0 : Int32)), (.ref a1), (.int (97 : Int32))])) rfl rfl (hb hby d7_20) _ ?_
    show Steps p.tables e below (s₁.setTop (mkF m 21 #[.val (.ref a0), .val (.ref a1), .val (.int (0 : Int32))] [(.int (97 : Int32)), (.int (97 : Int32))])) _
    refine XS.icmpYes X0.here hx rfl (pc0 := 21) (pc' := 26) rfl (hb hby d7_21) rfl (teq rfl).1 (by decide) (by decide) ?_
    show Steps p.tables e below (s₁.setTop (mkF m 26 #[.val (.ref a0), .val (.ref a1), .val (.int (0 : Int32))] [])) _
    refine XS.iinc X0.here hx rfl (hb hby d7_26) rfl (l' := #[.val (.ref a0), .val (.ref a1), .val (.int (1 : Int32))]) rfl ?_
    show Steps p.tables e below (s₁.setTop (mkF m 29 #[.val (.ref a0), .val (.ref a1), .val (.int (1 : Int32))] [])) _
    refine XS.goto X0.here hx rfl (pc0 := 29) (pc' := 9) rfl (hb hby d7_29) (by decide) (by decide) ?_
    show Steps p.tables e below (s₁.setTop (mkF m 9 #[.val (.ref a0), .val (.ref a1), .val (.int (1 : Int32))] [])) _
    refine XS.iloadN X0.here hx rfl (hb hby d7_9) rfl ?_
    show Steps p.tables e below (s₁.setTop (mkF m 10 #[.val (.ref a0), .val (.ref a1), .val (.int (1 : Int32))] [(.int (1 : Int32))])) _
    refine XS.aloadN X0.here hx rfl (hb hby d7_10) rfl rfl ?_
    show Steps p.tables e below (s₁.setTop (mkF m 11 #[.val (.ref a0), .val (.ref a1), .val (.int (1 : Int32))] [(.ref a0), (.int (1 : Int32))])) _
    refine X0.arraylength hx (by rw [e0]; exact Ar704.1) (State.isArrayOf_alike hZ.alike Ar704.2.1) (g := (mkF m 11 #[.val (.ref a0), .val (.ref a1), .val (.int (1 : Int32))] [(.ref a0), (.int (1 : Int32))])) rfl rfl (hb hby d7_11) _ ?_
    rw [len_of S704 N704]
    show Steps p.tables e below (s₁.setTop (mkF m 12 #[.val (.ref a0), .val (.ref a1), .val (.int (1 : Int32))] [(.int (24 : Int32)), (.int (1 : Int32))])) _
    refine XS.icmpNo X0.here hx rfl (hb hby d7_12) rfl (tlt (by decide)).2.1 ?_
    show Steps p.tables e below (s₁.setTop (mkF m 15 #[.val (.ref a0), .val (.ref a1), .val (.int (1 : Int32))] [])) _
    refine XS.aloadN X0.here hx rfl (hb hby d7_15) rfl rfl ?_
    show Steps p.tables e below (s₁.setTop (mkF m 16 #[.val (.ref a0), .val (.ref a1), .val (.int (1 : Int32))] [(.ref a0)])) _
    refine XS.iloadN X0.here hx rfl (hb hby d7_16) rfl ?_
    show Steps p.tables e below (s₁.setTop (mkF m 17 #[.val (.ref a0), .val (.ref a1), .val (.int (1 : Int32))] [(.int (1 : Int32)), (.ref a0)])) _
    refine X0.baloadBytes hx (j := (1 : Int32)) (v := (.int (112 : Int32))) (by rw [e0]; exact Ar705.1) (State.isArrayOf_alike hZ.alike Ar705.2.1) Ar705.2.2 hin705 hat705 (g := (mkF m 17 #[.val (.ref a0), .val (.ref a1), .val (.int (1 : Int32))] [(.int (1 : Int32)), (.ref a0)])) rfl rfl (hb hby d7_17) _ ?_
    show Steps p.tables e below (s₁.setTop (mkF m 18 #[.val (.ref a0), .val (.ref a1), .val (.int (1 : Int32))] [(.int (112 : Int32))])) _
    refine XS.aloadN X0.here hx rfl (hb hby d7_18) rfl rfl ?_
    show Steps p.tables e below (s₁.setTop (mkF m 19 #[.val (.ref a0), .val (.ref a1), .val (.int (1 : Int32))] [(.ref a1), (.int (112 : Int32))])) _
    refine XS.iloadN X0.here hx rfl (hb hby d7_19) rfl ?_
    show Steps p.tables e below (s₁.setTop (mkF m 20 #[.val (.ref a0), .val (.ref a1), .val (.int (1 : Int32))] [(.int (1 : Int32)), (.ref a1), (.int (112 : Int32))])) _
    refine X0.baloadBytes hx (j := (1 : Int32)) (v := (.int (112 : Int32))) (by rw [e0]; exact Ar706.1) (State.isArrayOf_alike hZ.alike Ar706.2.1) Ar706.2.2 hin706 hat706 (g := (mkF m 20 #[.val (.ref a0), .val (.ref a1), .val (.int (1 : Int32))] [(.int (1 : Int32)), (.ref a1), (.int (112 : Int32))])) rfl rfl (hb hby d7_20) _ ?_
    show Steps p.tables e below (s₁.setTop (mkF m 21 #[.val (.ref a0), .val (.ref a1), .val (.int (1 : Int32))] [(.int (112 : Int32)), (.int (112 : Int32))])) _
    refine XS.icmpYes X0.here hx rfl (pc0 := 21) (pc' := 26) rfl (hb hby d7_21) rfl (teq rfl).1 (by decide) (by decide) ?_
    show Steps p.tables e below (s₁.setTop (mkF m 26 #[.val (.ref a0), .val (.ref a1), .val (.int (1 : Int32))] [])) _
    refine XS.iinc X0.here hx rfl (hb hby d7_26) rfl (l' := #[.val (.ref a0), .val (.ref a1), .val (.int (2 : Int32))]) rfl ?_
    show Steps p.tables e below (s₁.setTop (mkF m 29 #[.val (.ref a0), .val (.ref a1), .val (.int (2 : Int32))] [])) _
    refine XS.goto X0.here hx rfl (pc0 := 29) (pc' := 9) rfl (hb hby d7_29) (by decide) (by decide) ?_
    show Steps p.tables e below (s₁.setTop (mkF m 9 #[.val (.ref a0), .val (.ref a1), .val (.int (2 : Int32))] [])) _
    refine XS.iloadN X0.here hx rfl (hb hby d7_9) rfl ?_
    show Steps p.tables e below (s₁.setTop (mkF m 10 #[.val (.ref a0), .val (.ref a1), .val (.int (2 : Int32))] [(.int (2 : Int32))])) _
    refine XS.aloadN X0.here hx rfl (hb hby d7_10) rfl rfl ?_
    show Steps p.tables e below (s₁.setTop (mkF m 11 #[.val (.ref a0), .val (.ref a1), .val (.int (2 : Int32))] [(.ref a0), (.int (2 : Int32))])) _
    refine X0.arraylength hx (by rw [e0]; exact Ar707.1) (State.isArrayOf_alike hZ.alike Ar707.2.1) (g := (mkF m 11 #[.val (.ref a0), .val (.ref a1), .val (.int (2 : Int32))] [(.ref a0), (.int (2 : Int32))])) rfl rfl (hb hby d7_11) _ ?_
    rw [len_of S707 N707]
    show Steps p.tables e below (s₁.setTop (mkF m 12 #[.val (.ref a0), .val (.ref a1), .val (.int (2 : Int32))] [(.int (24 : Int32)), (.int (2 : Int32))])) _
    refine XS.icmpNo X0.here hx rfl (hb hby d7_12) rfl (tlt (by decide)).2.1 ?_
    show Steps p.tables e below (s₁.setTop (mkF m 15 #[.val (.ref a0), .val (.ref a1), .val (.int (2 : Int32))] [])) _
    refine XS.aloadN X0.here hx rfl (hb hby d7_15) rfl rfl ?_
    show Steps p.tables e below (s₁.setTop (mkF m 16 #[.val (.ref a0), .val (.ref a1), .val (.int (2 : Int32))] [(.ref a0)])) _
    refine XS.iloadN X0.here hx rfl (hb hby d7_16) rfl ?_
    show Steps p.tables e below (s₁.setTop (mkF m 17 #[.val (.ref a0), .val (.ref a1), .val (.int (2 : Int32))] [(.int (2 : Int32)), (.ref a0)])) _
    refine X0.baloadBytes hx (j := (2 : Int32)) (v := (.int (112 : Int32))) (by rw [e0]; exact Ar708.1) (State.isArrayOf_alike hZ.alike Ar708.2.1) Ar708.2.2 hin708 hat708 (g := (mkF m 17 #[.val (.ref a0), .val (.ref a1), .val (.int (2 : Int32))] [(.int (2 : Int32)), (.ref a0)])) rfl rfl (hb hby d7_17) _ ?_
    show Steps p.tables e below (s₁.setTop (mkF m 18 #[.val (.ref a0), .val (.ref a1), .val (.int (2 : Int32))] [(.int (112 : Int32))])) _
    refine XS.aloadN X0.here hx rfl (hb hby d7_18) rfl rfl ?_
    show Steps p.tables e below (s₁.setTop (mkF m 19 #[.val (.ref a0), .val (.ref a1), .val (.int (2 : Int32))] [(.ref a1), (.int (112 : Int32))])) _
    refine XS.iloadN X0.here hx rfl (hb hby d7_19) rfl ?_
    show Steps p.tables e below (s₁.setTop (mkF m 20 #[.val (.ref a0), .val (.ref a1), .val (.int (2 : Int32))] [(.int (2 : Int32)), (.ref a1), (.int (112 : Int32))])) _
    refine X0.baloadBytes hx (j := (2 : Int32)) (v := (.int (112 : Int32))) (by rw [e0]; exact Ar709.1) (State.isArrayOf_alike hZ.alike Ar709.2.1) Ar709.2.2 hin709 hat709 (g := (mkF m 20 #[.val (.ref a0), .val (.ref a1), .val (.int (2 : Int32))] [(.int (2 : Int32)), (.ref a1), (.int (112 : Int32))])) rfl rfl (hb hby d7_20) _ ?_
    show Steps p.tables e below (s₁.setTop (mkF m 21 #[.val (.ref a0), .val (.ref a1), .val (.int (2 : Int32))] [(.int (112 : Int32)), (.int (112 : Int32))])) _
    refine XS.icmpYes X0.here hx rfl (pc0 := 21) (pc' := 26) rfl (hb hby d7_21) rfl (teq rfl).1 (by decide) (by decide) ?_
    show Steps p.tables e below (s₁.setTop (mkF m 26 #[.val (.ref a0), .val (.ref a1), .val (.int (2 : Int32))] [])) _
    refine XS.iinc X0.here hx rfl (hb hby d7_26) rfl (l' := #[.val (.ref a0), .val (.ref a1), .val (.int (3 : Int32))]) rfl ?_
    show Steps p.tables e below (s₁.setTop (mkF m 29 #[.val (.ref a0), .val (.ref a1), .val (.int (3 : Int32))] [])) _
    refine XS.goto X0.here hx rfl (pc0 := 29) (pc' := 9) rfl (hb hby d7_29) (by decide) (by decide) ?_
    show Steps p.tables e below (s₁.setTop (mkF m 9 #[.val (.ref a0), .val (.ref a1), .val (.int (3 : Int32))] [])) _
    refine XS.iloadN X0.here hx rfl (hb hby d7_9) rfl ?_
    show Steps p.tables e below (s₁.setTop (mkF m 10 #[.val (.ref a0), .val (.ref a1), .val (.int (3 : Int32))] [(.int (3 : Int32))])) _
    refine XS.aloadN X0.here hx rfl (hb hby d7_10) rfl rfl ?_
    show Steps p.tables e below (s₁.setTop (mkF m 11 #[.val (.ref a0), .val (.ref a1), .val (.int (3 : Int32))] [(.ref a0), (.int (3 : Int32))])) _
    refine X0.arraylength hx (by rw [e0]; exact Ar710.1) (State.isArrayOf_alike hZ.alike Ar710.2.1) (g := (mkF m 11 #[.val (.ref a0), .val (.ref a1), .val (.int (3 : Int32))] [(.ref a0), (.int (3 : Int32))])) rfl rfl (hb hby d7_11) _ ?_
    rw [len_of S710 N710]
    show Steps p.tables e below (s₁.setTop (mkF m 12 #[.val (.ref a0), .val (.ref a1), .val (.int (3 : Int32))] [(.int (24 : Int32)), (.int (3 : Int32))])) _
    refine XS.icmpNo X0.here hx rfl (hb hby d7_12) rfl (tlt (by decide)).2.1 ?_
    show Steps p.tables e below (s₁.setTop (mkF m 15 #[.val (.ref a0), .val (.ref a1), .val (.int (3 : Int32))] [])) _
    refine XS.aloadN X0.here hx rfl (hb hby d7_15) rfl rfl ?_
    show Steps p.tables e below (s₁.setTop (mkF m 16 #[.val (.ref a0), .val (.ref a1), .val (.int (3 : Int32))] [(.ref a0)])) _
    refine XS.iloadN X0.here hx rfl (hb hby d7_16) rfl ?_
    show Steps p.tables e below (s₁.setTop (mkF m 17 #[.val (.ref a0), .val (.ref a1), .val (.int (3 : Int32))] [(.int (3 : Int32)), (.ref a0)])) _
    refine X0.baloadBytes hx (j := (3 : Int32)) (v := (.int (108 : Int32))) (by rw [e0]; exact Ar711.1) (State.isArrayOf_alike hZ.alike Ar711.2.1) Ar711.2.2 hin711 hat711 (g := (mkF m 17 #[.val (.ref a0), .val (.ref a1), .val (.int (3 : Int32))] [(.int (3 : Int32)), (.ref a0)])) rfl rfl (hb hby d7_17) _ ?_
    show Steps p.tables e below (s₁.setTop (mkF m 18 #[.val (.ref a0), .val (.ref a1), .val (.int (3 : Int32))] [(.int (108 : Int32))])) _
    refine XS.aloadN X0.here hx rfl (hb hby d7_18) rfl rfl ?_
    show Steps p.tables e below (s₁.setTop (mkF m 19 #[.val (.ref a0), .val (.ref a1), .val (.int (3 : Int32))] [(.ref a1), (.int (108 : Int32))])) _
    refine XS.iloadN X0.here hx rfl (hb hby d7_19) rfl ?_
    show Steps p.tables e below (s₁.setTop (mkF m 20 #[.val (.ref a0), .val (.ref a1), .val (.int (3 : Int32))] [(.int (3 : Int32)), (.ref a1), (.int (108 : Int32))])) _
    refine X0.baloadBytes hx (j := (3 : Int32)) (v := (.int (108 : Int32))) (by rw [e0]; exact Ar712.1) (State.isArrayOf_alike hZ.alike Ar712.2.1) Ar712.2.2 hin712 hat712 (g := (mkF m 20 #[.val (.ref a0), .val (.ref a1), .val (.int (3 : Int32))] [(.int (3 : Int32)), (.ref a1), (.int (108 : Int32))])) rfl rfl (hb hby d7_20) _ ?_
    show Steps p.tables e below (s₁.setTop (mkF m 21 #[.val (.ref a0), .val (.ref a1), .val (.int (3 : Int32))] [(.int (108 : Int32)), (.int (108 : Int32))])) _
    refine XS.icmpYes X0.here hx rfl (pc0 := 21) (pc' := 26) rfl (hb hby d7_21) rfl (teq rfl).1 (by decide) (by decide) ?_
    show Steps p.tables e below (s₁.setTop (mkF m 26 #[.val (.ref a0), .val (.ref a1), .val (.int (3 : Int32))] [])) _
    refine XS.iinc X0.here hx rfl (hb hby d7_26) rfl (l' := #[.val (.ref a0), .val (.ref a1), .val (.int (4 : Int32))]) rfl ?_
    show Steps p.tables e below (s₁.setTop (mkF m 29 #[.val (.ref a0), .val (.ref a1), .val (.int (4 : Int32))] [])) _
    refine XS.goto X0.here hx rfl (pc0 := 29) (pc' := 9) rfl (hb hby d7_29) (by decide) (by decide) ?_
    show Steps p.tables e below (s₁.setTop (mkF m 9 #[.val (.ref a0), .val (.ref a1), .val (.int (4 : Int32))] [])) _
    refine XS.iloadN X0.here hx rfl (hb hby d7_9) rfl ?_
    show Steps p.tables e below (s₁.setTop (mkF m 10 #[.val (.ref a0), .val (.ref a1), .val (.int (4 : Int32))] [(.int (4 : Int32))])) _
    refine XS.aloadN X0.here hx rfl (hb hby d7_10) rfl rfl ?_
    show Steps p.tables e below (s₁.setTop (mkF m 11 #[.val (.ref a0), .val (.ref a1), .val (.int (4 : Int32))] [(.ref a0), (.int (4 : Int32))])) _
    refine X0.arraylength hx (by rw [e0]; exact Ar713.1) (State.isArrayOf_alike hZ.alike Ar713.2.1) (g := (mkF m 11 #[.val (.ref a0), .val (.ref a1), .val (.int (4 : Int32))] [(.ref a0), (.int (4 : Int32))])) rfl rfl (hb hby d7_11) _ ?_
    rw [len_of S713 N713]
    show Steps p.tables e below (s₁.setTop (mkF m 12 #[.val (.ref a0), .val (.ref a1), .val (.int (4 : Int32))] [(.int (24 : Int32)), (.int (4 : Int32))])) _
    refine XS.icmpNo X0.here hx rfl (hb hby d7_12) rfl (tlt (by decide)).2.1 ?_
    show Steps p.tables e below (s₁.setTop (mkF m 15 #[.val (.ref a0), .val (.ref a1), .val (.int (4 : Int32))] [])) _
    refine XS.aloadN X0.here hx rfl (hb hby d7_15) rfl rfl ?_
    show Steps p.tables e below (s₁.setTop (mkF m 16 #[.val (.ref a0), .val (.ref a1), .val (.int (4 : Int32))] [(.ref a0)])) _
    refine XS.iloadN X0.here hx rfl (hb hby d7_16) rfl ?_
    show Steps p.tables e below (s₁.setTop (mkF m 17 #[.val (.ref a0), .val (.ref a1), .val (.int (4 : Int32))] [(.int (4 : Int32)), (.ref a0)])) _
    refine X0.baloadBytes hx (j := (4 : Int32)) (v := (.int (105 : Int32))) (by rw [e0]; exact Ar714.1) (State.isArrayOf_alike hZ.alike Ar714.2.1) Ar714.2.2 hin714 hat714 (g := (mkF m 17 #[.val (.ref a0), .val (.ref a1), .val (.int (4 : Int32))] [(.int (4 : Int32)), (.ref a0)])) rfl rfl (hb hby d7_17) _ ?_
    show Steps p.tables e below (s₁.setTop (mkF m 18 #[.val (.ref a0), .val (.ref a1), .val (.int (4 : Int32))] [(.int (105 : Int32))])) _
    refine XS.aloadN X0.here hx rfl (hb hby d7_18) rfl rfl ?_
    show Steps p.tables e below (s₁.setTop (mkF m 19 #[.val (.ref a0), .val (.ref a1), .val (.int (4 : Int32))] [(.ref a1), (.int (105 : Int32))])) _
    refine XS.iloadN X0.here hx rfl (hb hby d7_19) rfl ?_
    show Steps p.tables e below (s₁.setTop (mkF m 20 #[.val (.ref a0), .val (.ref a1), .val (.int (4 : Int32))] [(.int (4 : Int32)), (.ref a1), (.int (105 : Int32))])) _
    refine X0.baloadBytes hx (j := (4 : Int32)) (v := (.int (105 : Int32))) (by rw [e0]; exact Ar715.1) (State.isArrayOf_alike hZ.alike Ar715.2.1) Ar715.2.2 hin715 hat715 (g := (mkF m 20 #[.val (.ref a0), .val (.ref a1), .val (.int (4 : Int32))] [(.int (4 : Int32)), (.ref a1), (.int (105 : Int32))])) rfl rfl (hb hby d7_20) _ ?_
    show Steps p.tables e below (s₁.setTop (mkF m 21 #[.val (.ref a0), .val (.ref a1), .val (.int (4 : Int32))] [(.int (105 : Int32)), (.int (105 : Int32))])) _
    refine XS.icmpYes X0.here hx rfl (pc0 := 21) (pc' := 26) rfl (hb hby d7_21) rfl (teq rfl).1 (by decide) (by decide) ?_
    show Steps p.tables e below (s₁.setTop (mkF m 26 #[.val (.ref a0), .val (.ref a1), .val (.int (4 : Int32))] [])) _
    refine XS.iinc X0.here hx rfl (hb hby d7_26) rfl (l' := #[.val (.ref a0), .val (.ref a1), .val (.int (5 : Int32))]) rfl ?_
    show Steps p.tables e below (s₁.setTop (mkF m 29 #[.val (.ref a0), .val (.ref a1), .val (.int (5 : Int32))] [])) _
    refine XS.goto X0.here hx rfl (pc0 := 29) (pc' := 9) rfl (hb hby d7_29) (by decide) (by decide) ?_
    show Steps p.tables e below (s₁.setTop (mkF m 9 #[.val (.ref a0), .val (.ref a1), .val (.int (5 : Int32))] [])) _
    refine XS.iloadN X0.here hx rfl (hb hby d7_9) rfl ?_
    show Steps p.tables e below (s₁.setTop (mkF m 10 #[.val (.ref a0), .val (.ref a1), .val (.int (5 : Int32))] [(.int (5 : Int32))])) _
    refine XS.aloadN X0.here hx rfl (hb hby d7_10) rfl rfl ?_
    show Steps p.tables e below (s₁.setTop (mkF m 11 #[.val (.ref a0), .val (.ref a1), .val (.int (5 : Int32))] [(.ref a0), (.int (5 : Int32))])) _
    refine X0.arraylength hx (by rw [e0]; exact Ar716.1) (State.isArrayOf_alike hZ.alike Ar716.2.1) (g := (mkF m 11 #[.val (.ref a0), .val (.ref a1), .val (.int (5 : Int32))] [(.ref a0), (.int (5 : Int32))])) rfl rfl (hb hby d7_11) _ ?_
    rw [len_of S716 N716]
    show Steps p.tables e below (s₁.setTop (mkF m 12 #[.val (.ref a0), .val (.ref a1), .val (.int (5 : Int32))] [(.int (24 : Int32)), (.int (5 : Int32))])) _
    refine XS.icmpNo X0.here hx rfl (hb hby d7_12) rfl (tlt (by decide)).2.1 ?_
    show Steps p.tables e below (s₁.setTop (mkF m 15 #[.val (.ref a0), .val (.ref a1), .val (.int (5 : Int32))] [])) _
    refine XS.aloadN X0.here hx rfl (hb hby d7_15) rfl rfl ?_
    show Steps p.tables e below (s₁.setTop (mkF m 16 #[.val (.ref a0), .val (.ref a1), .val (.int (5 : Int32))] [(.ref a0)])) _
    refine XS.iloadN X0.here hx rfl (hb hby d7_16) rfl ?_
    show Steps p.tables e below (s₁.setTop (mkF m 17 #[.val (.ref a0), .val (.ref a1), .val (.int (5 : Int32))] [(.int (5 : Int32)), (.ref a0)])) _
    refine X0.baloadBytes hx (j := (5 : Int32)) (v := (.int (99 : Int32))) (by rw [e0]; exact Ar717.1) (State.isArrayOf_alike hZ.alike Ar717.2.1) Ar717.2.2 hin717 hat717 (g := (mkF m 17 #[.val (.ref a0), .val (.ref a1), .val (.int (5 : Int32))] [(.int (5 : Int32)), (.ref a0)])) rfl rfl (hb hby d7_17) _ ?_
    show Steps p.tables e below (s₁.setTop (mkF m 18 #[.val (.ref a0), .val (.ref a1), .val (.int (5 : Int32))] [(.int (99 : Int32))])) _
    refine XS.aloadN X0.here hx rfl (hb hby d7_18) rfl rfl ?_
    show Steps p.tables e below (s₁.setTop (mkF m 19 #[.val (.ref a0), .val (.ref a1), .val (.int (5 : Int32))] [(.ref a1), (.int (99 : Int32))])) _
    refine XS.iloadN X0.here hx rfl (hb hby d7_19) rfl ?_
    show Steps p.tables e below (s₁.setTop (mkF m 20 #[.val (.ref a0), .val (.ref a1), .val (.int (5 : Int32))] [(.int (5 : Int32)), (.ref a1), (.int (99 : Int32))])) _
    refine X0.baloadBytes hx (j := (5 : Int32)) (v := (.int (99 : Int32))) (by rw [e0]; exact Ar718.1) (State.isArrayOf_alike hZ.alike Ar718.2.1) Ar718.2.2 hin718 hat718 (g := (mkF m 20 #[.val (.ref a0), .val (.ref a1), .val (.int (5 : Int32))] [(.int (5 : Int32)), (.ref a1), (.int (99 : Int32))])) rfl rfl (hb hby d7_20) _ ?_
    show Steps p.tables e below (s₁.setTop (mkF m 21 #[.val (.ref a0), .val (.ref a1), .val (.int (5 : Int32))] [(.int (99 : Int32)), (.int (99 : Int32))])) _
    refine XS.icmpYes X0.here hx rfl (pc0 := 21) (pc' := 26) rfl (hb hby d7_21) rfl (teq rfl).1 (by decide) (by decide) ?_
    show Steps p.tables e below (s₁.setTop (mkF m 26 #[.val (.ref a0), .val (.ref a1), .val (.int (5 : Int32))] [])) _
    refine XS.iinc X0.here hx rfl (hb hby d7_26) rfl (l' := #[.val (.ref a0), .val (.ref a1), .val (.int (6 : Int32))]) rfl ?_
    show Steps p.tables e below (s₁.setTop (mkF m 29 #[.val (.ref a0), .val (.ref a1), .val (.int (6 : Int32))] [])) _
    refine XS.goto X0.here hx rfl (pc0 := 29) (pc' := 9) rfl (hb hby d7_29) (by decide) (by decide) ?_
    show Steps p.tables e below (s₁.setTop (mkF m 9 #[.val (.ref a0), .val (.ref a1), .val (.int (6 : Int32))] [])) _
    refine XS.iloadN X0.here hx rfl (hb hby d7_9) rfl ?_
    show Steps p.tables e below (s₁.setTop (mkF m 10 #[.val (.ref a0), .val (.ref a1), .val (.int (6 : Int32))] [(.int (6 : Int32))])) _
    refine XS.aloadN X0.here hx rfl (hb hby d7_10) rfl rfl ?_
    show Steps p.tables e below (s₁.setTop (mkF m 11 #[.val (.ref a0), .val (.ref a1), .val (.int (6 : Int32))] [(.ref a0), (.int (6 : Int32))])) _
    refine X0.arraylength hx (by rw [e0]; exact Ar719.1) (State.isArrayOf_alike hZ.alike Ar719.2.1) (g := (mkF m 11 #[.val (.ref a0), .val (.ref a1), .val (.int (6 : Int32))] [(.ref a0), (.int (6 : Int32))])) rfl rfl (hb hby d7_11) _ ?_
    rw [len_of S719 N719]
    show Steps p.tables e below (s₁.setTop (mkF m 12 #[.val (.ref a0), .val (.ref a1), .val (.int (6 : Int32))] [(.int (24 : Int32)), (.int (6 : Int32))])) _
    refine XS.icmpNo X0.here hx rfl (hb hby d7_12) rfl (tlt (by decide)).2.1 ?_
    show Steps p.tables e below (s₁.setTop (mkF m 15 #[.val (.ref a0), .val (.ref a1), .val (.int (6 : Int32))] [])) _
    refine XS.aloadN X0.here hx rfl (hb hby d7_15) rfl rfl ?_
    show Steps p.tables e below (s₁.setTop (mkF m 16 #[.val (.ref a0), .val (.ref a1), .val (.int (6 : Int32))] [(.ref a0)])) _
    refine XS.iloadN X0.here hx rfl (hb hby d7_16) rfl ?_
    show Steps p.tables e below (s₁.setTop (mkF m 17 #[.val (.ref a0), .val (.ref a1), .val (.int (6 : Int32))] [(.int (6 : Int32)), (.ref a0)])) _
    refine X0.baloadBytes hx (j := (6 : Int32)) (v := (.int (97 : Int32))) (by rw [e0]; exact Ar720.1) (State.isArrayOf_alike hZ.alike Ar720.2.1) Ar720.2.2 hin720 hat720 (g := (mkF m 17 #[.val (.ref a0), .val (.ref a1), .val (.int (6 : Int32))] [(.int (6 : Int32)), (.ref a0)])) rfl rfl (hb hby d7_17) _ ?_
    show Steps p.tables e below (s₁.setTop (mkF m 18 #[.val (.ref a0), .val (.ref a1), .val (.int (6 : Int32))] [(.int (97 : Int32))])) _
    refine XS.aloadN X0.here hx rfl (hb hby d7_18) rfl rfl ?_
    show Steps p.tables e below (s₁.setTop (mkF m 19 #[.val (.ref a0), .val (.ref a1), .val (.int (6 : Int32))] [(.ref a1), (.int (97 : Int32))])) _
    refine XS.iloadN X0.here hx rfl (hb hby d7_19) rfl ?_
    show Steps p.tables e below (s₁.setTop (mkF m 20 #[.val (.ref a0), .val (.ref a1), .val (.int (6 : Int32))] [(.int (6 : Int32)), (.ref a1), (.int (97 : Int32))])) _
    refine X0.baloadBytes hx (j := (6 : Int32)) (v := (.int (97 : Int32))) (by rw [e0]; exact Ar721.1) (State.isArrayOf_alike hZ.alike Ar721.2.1) Ar721.2.2 hin721 hat721 (g := (mkF m 20 #[.val (.ref a0), .val (.ref a1), .val (.int (6 : Int32))] [(.int (6 : Int32)), (.ref a1), (.int (97 : Int32))])) rfl rfl (hb hby d7_20) _ ?_
    show Steps p.tables e below (s₁.setTop (mkF m 21 #[.val (.ref a0), .val (.ref a1), .val (.int (6 : Int32))] [(.int (97 : Int32)), (.int (97 : Int32))])) _
    refine XS.icmpYes X0.here hx rfl (pc0 := 21) (pc' := 26) rfl (hb hby d7_21) rfl (teq rfl).1 (by decide) (by decide) ?_
    show Steps p.tables e below (s₁.setTop (mkF m 26 #[.val (.ref a0), .val (.ref a1), .val (.int (6 : Int32))] [])) _
    refine XS.iinc X0.here hx rfl (hb hby d7_26) rfl (l' := #[.val (.ref a0), .val (.ref a1), .val (.int (7 : Int32))]) rfl ?_
    show Steps p.tables e below (s₁.setTop (mkF m 29 #[.val (.ref a0), .val (.ref a1), .val (.int (7 : Int32))] [])) _
    refine XS.goto X0.here hx rfl (pc0 := 29) (pc' := 9) rfl (hb hby d7_29) (by decide) (by decide) ?_
    show Steps p.tables e below (s₁.setTop (mkF m 9 #[.val (.ref a0), .val (.ref a1), .val (.int (7 : Int32))] [])) _
    refine XS.iloadN X0.here hx rfl (hb hby d7_9) rfl ?_
    show Steps p.tables e below (s₁.setTop (mkF m 10 #[.val (.ref a0), .val (.ref a1), .val (.int (7 : Int32))] [(.int (7 : Int32))])) _
    refine XS.aloadN X0.here hx rfl (hb hby d7_10) rfl rfl ?_
    show Steps p.tables e below (s₁.setTop (mkF m 11 #[.val (.ref a0), .val (.ref a1), .val (.int (7 : Int32))] [(.ref a0), (.int (7 : Int32))])) _
    refine X0.arraylength hx (by rw [e0]; exact Ar722.1) (State.isArrayOf_alike hZ.alike Ar722.2.1) (g := (mkF m 11 #[.val (.ref a0), .val (.ref a1), .val (.int (7 : Int32))] [(.ref a0), (.int (7 : Int32))])) rfl rfl (hb hby d7_11) _ ?_
    rw [len_of S722 N722]
    show Steps p.tables e below (s₁.setTop (mkF m 12 #[.val (.ref a0), .val (.ref a1), .val (.int (7 : Int32))] [(.int (24 : Int32)), (.int (7 : Int32))])) _
    refine XS.icmpNo X0.here hx rfl (hb hby d7_12) rfl (tlt (by decide)).2.1 ?_
    show Steps p.tables e below (s₁.setTop (mkF m 15 #[.val (.ref a0), .val (.ref a1), .val (.int (7 : Int32))] [])) _
    refine XS.aloadN X0.here hx rfl (hb hby d7_15) rfl rfl ?_
    show Steps p.tables e below (s₁.setTop (mkF m 16 #[.val (.ref a0), .val (.ref a1), .val (.int (7 : Int32))] [(.ref a0)])) _
    refine XS.iloadN X0.here hx rfl (hb hby d7_16) rfl ?_
    show Steps p.tables e below (s₁.setTop (mkF m 17 #[.val (.ref a0), .val (.ref a1), .val (.int (7 : Int32))] [(.int (7 : Int32)), (.ref a0)])) _
    refine X0.baloadBytes hx (j := (7 : Int32)) (v := (.int (116 : Int32))) (by rw [e0]; exact Ar723.1) (State.isArrayOf_alike hZ.alike Ar723.2.1) Ar723.2.2 hin723 hat723 (g := (mkF m 17 #[.val (.ref a0), .val (.ref a1), .val (.int (7 : Int32))] [(.int (7 : Int32)), (.ref a0)])) rfl rfl (hb hby d7_17) _ ?_
    show Steps p.tables e below (s₁.setTop (mkF m 18 #[.val (.ref a0), .val (.ref a1), .val (.int (7 : Int32))] [(.int (116 : Int32))])) _
    refine XS.aloadN X0.here hx rfl (hb hby d7_18) rfl rfl ?_
    show Steps p.tables e below (s₁.setTop (mkF m 19 #[.val (.ref a0), .val (.ref a1), .val (.int (7 : Int32))] [(.ref a1), (.int (116 : Int32))])) _
    refine XS.iloadN X0.here hx rfl (hb hby d7_19) rfl ?_
    show Steps p.tables e below (s₁.setTop (mkF m 20 #[.val (.ref a0), .val (.ref a1), .val (.int (7 : Int32))] [(.int (7 : Int32)), (.ref a1), (.int (116 : Int32))])) _
    refine X0.baloadBytes hx (j := (7 : Int32)) (v := (.int (116 : Int32))) (by rw [e0]; exact Ar724.1) (State.isArrayOf_alike hZ.alike Ar724.2.1) Ar724.2.2 hin724 hat724 (g := (mkF m 20 #[.val (.ref a0), .val (.ref a1), .val (.int (7 : Int32))] [(.int (7 : Int32)), (.ref a1), (.int (116 : Int32))])) rfl rfl (hb hby d7_20) _ ?_
    show Steps p.tables e below (s₁.setTop (mkF m 21 #[.val (.ref a0), .val (.ref a1), .val (.int (7 : Int32))] [(.int (116 : Int32)), (.int (116 : Int32))])) _
    refine XS.icmpYes X0.here hx rfl (pc0 := 21) (pc' := 26) rfl (hb hby d7_21) rfl (teq rfl).1 (by decide) (by decide) ?_
    show Steps p.tables e below (s₁.setTop (mkF m 26 #[.val (.ref a0), .val (.ref a1), .val (.int (7 : Int32))] [])) _
    refine XS.iinc X0.here hx rfl (hb hby d7_26) rfl (l' := #[.val (.ref a0), .val (.ref a1), .val (.int (8 : Int32))]) rfl ?_
    show Steps p.tables e below (s₁.setTop (mkF m 29 #[.val (.ref a0), .val (.ref a1), .val (.int (8 : Int32))] [])) _
    refine XS.goto X0.here hx rfl (pc0 := 29) (pc' := 9) rfl (hb hby d7_29) (by decide) (by decide) ?_
    show Steps p.tables e below (s₁.setTop (mkF m 9 #[.val (.ref a0), .val (.ref a1), .val (.int (8 : Int32))] [])) _
    refine XS.iloadN X0.here hx rfl (hb hby d7_9) rfl ?_
    show Steps p.tables e below (s₁.setTop (mkF m 10 #[.val (.ref a0), .val (.ref a1), .val (.int (8 : Int32))] [(.int (8 : Int32))])) _
    refine XS.aloadN X0.here hx rfl (hb hby d7_10) rfl rfl ?_
    show Steps p.tables e below (s₁.setTop (mkF m 11 #[.val (.ref a0), .val (.ref a1), .val (.int (8 : Int32))] [(.ref a0), (.int (8 : Int32))])) _
    refine X0.arraylength hx (by rw [e0]; exact Ar725.1) (State.isArrayOf_alike hZ.alike Ar725.2.1) (g := (mkF m 11 #[.val (.ref a0), .val (.ref a1), .val (.int (8 : Int32))] [(.ref a0), (.int (8 : Int32))])) rfl rfl (hb hby d7_11) _ ?_
    rw [len_of S725 N725]
    show Steps p.tables e below (s₁.setTop (mkF m 12 #[.val (.ref a0), .val (.ref a1), .val (.int (8 : Int32))] [(.int (24 : Int32)), (.int (8 : Int32))])) _
    refine XS.icmpNo X0.here hx rfl (hb hby d7_12) rfl (tlt (by decide)).2.1 ?_
    show Steps p.tables e below (s₁.setTop (mkF m 15 #[.val (.ref a0), .val (.ref a1), .val (.int (8 : Int32))] [])) _
    refine XS.aloadN X0.here hx rfl (hb hby d7_15) rfl rfl ?_
    show Steps p.tables e below (s₁.setTop (mkF m 16 #[.val (.ref a0), .val (.ref a1), .val (.int (8 : Int32))] [(.ref a0)])) _
    refine XS.iloadN X0.here hx rfl (hb hby d7_16) rfl ?_
    show Steps p.tables e below (s₁.setTop (mkF m 17 #[.val (.ref a0), .val (.ref a1), .val (.int (8 : Int32))] [(.int (8 : Int32)), (.ref a0)])) _
    refine X0.baloadBytes hx (j := (8 : Int32)) (v := (.int (105 : Int32))) (by rw [e0]; exact Ar726.1) (State.isArrayOf_alike hZ.alike Ar726.2.1) Ar726.2.2 hin726 hat726 (g := (mkF m 17 #[.val (.ref a0), .val (.ref a1), .val (.int (8 : Int32))] [(.int (8 : Int32)), (.ref a0)])) rfl rfl (hb hby d7_17) _ ?_
    show Steps p.tables e below (s₁.setTop (mkF m 18 #[.val (.ref a0), .val (.ref a1), .val (.int (8 : Int32))] [(.int (105 : Int32))])) _
    refine XS.aloadN X0.here hx rfl (hb hby d7_18) rfl rfl ?_
    show Steps p.tables e below (s₁.setTop (mkF m 19 #[.val (.ref a0), .val (.ref a1), .val (.int (8 : Int32))] [(.ref a1), (.int (105 : Int32))])) _
    refine XS.iloadN X0.here hx rfl (hb hby d7_19) rfl ?_
    show Steps p.tables e below (s₁.setTop (mkF m 20 #[.val (.ref a0), .val (.ref a1), .val (.int (8 : Int32))] [(.int (8 : Int32)), (.ref a1), (.int (105 : Int32))])) _
    refine X0.baloadBytes hx (j := (8 : Int32)) (v := (.int (105 : Int32))) (by rw [e0]; exact Ar727.1) (State.isArrayOf_alike hZ.alike Ar727.2.1) Ar727.2.2 hin727 hat727 (g := (mkF m 20 #[.val (.ref a0), .val (.ref a1), .val (.int (8 : Int32))] [(.int (8 : Int32)), (.ref a1), (.int (105 : Int32))])) rfl rfl (hb hby d7_20) _ ?_
    show Steps p.tables e below (s₁.setTop (mkF m 21 #[.val (.ref a0), .val (.ref a1), .val (.int (8 : Int32))] [(.int (105 : Int32)), (.int (105 : Int32))])) _
    refine XS.icmpYes X0.here hx rfl (pc0 := 21) (pc' := 26) rfl (hb hby d7_21) rfl (teq rfl).1 (by decide) (by decide) ?_
    show Steps p.tables e below (s₁.setTop (mkF m 26 #[.val (.ref a0), .val (.ref a1), .val (.int (8 : Int32))] [])) _
    refine XS.iinc X0.here hx rfl (hb hby d7_26) rfl (l' := #[.val (.ref a0), .val (.ref a1), .val (.int (9 : Int32))]) rfl ?_
    show Steps p.tables e below (s₁.setTop (mkF m 29 #[.val (.ref a0), .val (.ref a1), .val (.int (9 : Int32))] [])) _
    refine XS.goto X0.here hx rfl (pc0 := 29) (pc' := 9) rfl (hb hby d7_29) (by decide) (by decide) ?_
    show Steps p.tables e below (s₁.setTop (mkF m 9 #[.val (.ref a0), .val (.ref a1), .val (.int (9 : Int32))] [])) _
    refine XS.iloadN X0.here hx rfl (hb hby d7_9) rfl ?_
    show Steps p.tables e below (s₁.setTop (mkF m 10 #[.val (.ref a0), .val (.ref a1), .val (.int (9 : Int32))] [(.int (9 : Int32))])) _
    refine XS.aloadN X0.here hx rfl (hb hby d7_10) rfl rfl ?_
    show Steps p.tables e below (s₁.setTop (mkF m 11 #[.val (.ref a0), .val (.ref a1), .val (.int (9 : Int32))] [(.ref a0), (.int (9 : Int32))])) _
    refine X0.arraylength hx (by rw [e0]; exact Ar728.1) (State.isArrayOf_alike hZ.alike Ar728.2.1) (g := (mkF m 11 #[.val (.ref a0), .val (.ref a1), .val (.int (9 : Int32))] [(.ref a0), (.int (9 : Int32))])) rfl rfl (hb hby d7_11) _ ?_
    rw [len_of S728 N728]
    show Steps p.tables e below (s₁.setTop (mkF m 12 #[.val (.ref a0), .val (.ref a1), .val (.int (9 : Int32))] [(.int (24 : Int32)), (.int (9 : Int32))])) _
    refine XS.icmpNo X0.here hx rfl (hb hby d7_12) rfl (tlt (by decide)).2.1 ?_
    show Steps p.tables e below (s₁.setTop (mkF m 15 #[.val (.ref a0), .val (.ref a1), .val (.int (9 : Int32))] [])) _
    refine XS.aloadN X0.here hx rfl (hb hby d7_15) rfl rfl ?_
    show Steps p.tables e below (s₁.setTop (mkF m 16 #[.val (.ref a0), .val (.ref a1), .val (.int (9 : Int32))] [(.ref a0)])) _
    refine XS.iloadN X0.here hx rfl (hb hby d7_16) rfl ?_
    show Steps p.tables e below (s₁.setTop (mkF m 17 #[.val (.ref a0), .val (.ref a1), .val (.int (9 : Int32))] [(.int (9 : Int32)), (.ref a0)])) _
    refine X0.baloadBytes hx (j := (9 : Int32)) (v := (.int (111 : Int32))) (by rw [e0]; exact Ar729.1) (State.isArrayOf_alike hZ.alike Ar729.2.1) Ar729.2.2 hin729 hat729 (g := (mkF m 17 #[.val (.ref a0), .val (.ref a1), .val (.int (9 : Int32))] [(.int (9 : Int32)), (.ref a0)])) rfl rfl (hb hby d7_17) _ ?_
    show Steps p.tables e below (s₁.setTop (mkF m 18 #[.val (.ref a0), .val (.ref a1), .val (.int (9 : Int32))] [(.int (111 : Int32))])) _
    refine XS.aloadN X0.here hx rfl (hb hby d7_18) rfl rfl ?_
    show Steps p.tables e below (s₁.setTop (mkF m 19 #[.val (.ref a0), .val (.ref a1), .val (.int (9 : Int32))] [(.ref a1), (.int (111 : Int32))])) _
    refine XS.iloadN X0.here hx rfl (hb hby d7_19) rfl ?_
    show Steps p.tables e below (s₁.setTop (mkF m 20 #[.val (.ref a0), .val (.ref a1), .val (.int (9 : Int32))] [(.int (9 : Int32)), (.ref a1), (.int (111 : Int32))])) _
    refine X0.baloadBytes hx (j := (9 : Int32)) (v := (.int (111 : Int32))) (by rw [e0]; exact Ar730.1) (State.isArrayOf_alike hZ.alike Ar730.2.1) Ar730.2.2 hin730 hat730 (g := (mkF m 20 #[.val (.ref a0), .val (.ref a1), .val (.int (9 : Int32))] [(.int (9 : Int32)), (.ref a1), (.int (111 : Int32))])) rfl rfl (hb hby d7_20) _ ?_
    show Steps p.tables e below (s₁.setTop (mkF m 21 #[.val (.ref a0), .val (.ref a1), .val (.int (9 : Int32))] [(.int (111 : Int32)), (.int (111 : Int32))])) _
    refine XS.icmpYes X0.here hx rfl (pc0 := 21) (pc' := 26) rfl (hb hby d7_21) rfl (teq rfl).1 (by decide) (by decide) ?_
    show Steps p.tables e below (s₁.setTop (mkF m 26 #[.val (.ref a0), .val (.ref a1), .val (.int (9 : Int32))] [])) _
    refine XS.iinc X0.here hx rfl (hb hby d7_26) rfl (l' := #[.val (.ref a0), .val (.ref a1), .val (.int (10 : Int32))]) rfl ?_
    show Steps p.tables e below (s₁.setTop (mkF m 29 #[.val (.ref a0), .val (.ref a1), .val (.int (10 : Int32))] [])) _
    refine XS.goto X0.here hx rfl (pc0 := 29) (pc' := 9) rfl (hb hby d7_29) (by decide) (by decide) ?_
    show Steps p.tables e below (s₁.setTop (mkF m 9 #[.val (.ref a0), .val (.ref a1), .val (.int (10 : Int32))] [])) _
    refine XS.iloadN X0.here hx rfl (hb hby d7_9) rfl ?_
    show Steps p.tables e below (s₁.setTop (mkF m 10 #[.val (.ref a0), .val (.ref a1), .val (.int (10 : Int32))] [(.int (10 : Int32))])) _
    refine XS.aloadN X0.here hx rfl (hb hby d7_10) rfl rfl ?_
    show Steps p.tables e below (s₁.setTop (mkF m 11 #[.val (.ref a0), .val (.ref a1), .val (.int (10 : Int32))] [(.ref a0), (.int (10 : Int32))])) _
    refine X0.arraylength hx (by rw [e0]; exact Ar731.1) (State.isArrayOf_alike hZ.alike Ar731.2.1) (g := (mkF m 11 #[.val (.ref a0), .val (.ref a1), .val (.int (10 : Int32))] [(.ref a0), (.int (10 : Int32))])) rfl rfl (hb hby d7_11) _ ?_
    rw [len_of S731 N731]
    show Steps p.tables e below (s₁.setTop (mkF m 12 #[.val (.ref a0), .val (.ref a1), .val (.int (10 : Int32))] [(.int (24 : Int32)), (.int (10 : Int32))])) _
    refine XS.icmpNo X0.here hx rfl (hb hby d7_12) rfl (tlt (by decide)).2.1 ?_
    show Steps p.tables e below (s₁.setTop (mkF m 15 #[.val (.ref a0), .val (.ref a1), .val (.int (10 : Int32))] [])) _
    refine XS.aloadN X0.here hx rfl (hb hby d7_15) rfl rfl ?_
    show Steps p.tables e below (s₁.setTop (mkF m 16 #[.val (.ref a0), .val (.ref a1), .val (.int (10 : Int32))] [(.ref a0)])) _
    refine XS.iloadN X0.here hx rfl (hb hby d7_16) rfl ?_
    show Steps p.tables e below (s₁.setTop (mkF m 17 #[.val (.ref a0), .val (.ref a1), .val (.int (10 : Int32))] [(.int (10 : Int32)), (.ref a0)])) _
    refine X0.baloadBytes hx (j := (10 : Int32)) (v := (.int (110 : Int32))) (by rw [e0]; exact Ar732.1) (State.isArrayOf_alike hZ.alike Ar732.2.1) Ar732.2.2 hin732 hat732 (g := (mkF m 17 #[.val (.ref a0), .val (.ref a1), .val (.int (10 : Int32))] [(.int (10 : Int32)), (.ref a0)])) rfl rfl (hb hby d7_17) _ ?_
    show Steps p.tables e below (s₁.setTop (mkF m 18 #[.val (.ref a0), .val (.ref a1), .val (.int (10 : Int32))] [(.int (110 : Int32))])) _
    refine XS.aloadN X0.here hx rfl (hb hby d7_18) rfl rfl ?_
    show Steps p.tables e below (s₁.setTop (mkF m 19 #[.val (.ref a0), .val (.ref a1), .val (.int (10 : Int32))] [(.ref a1), (.int (110 : Int32))])) _
    refine XS.iloadN X0.here hx rfl (hb hby d7_19) rfl ?_
    show Steps p.tables e below (s₁.setTop (mkF m 20 #[.val (.ref a0), .val (.ref a1), .val (.int (10 : Int32))] [(.int (10 : Int32)), (.ref a1), (.int (110 : Int32))])) _
    refine X0.baloadBytes hx (j := (10 : Int32)) (v := (.int (110 : Int32))) (by rw [e0]; exact Ar733.1) (State.isArrayOf_alike hZ.alike Ar733.2.1) Ar733.2.2 hin733 hat733 (g := (mkF m 20 #[.val (.ref a0), .val (.ref a1), .val (.int (10 : Int32))] [(.int (10 : Int32)), (.ref a1), (.int (110 : Int32))])) rfl rfl (hb hby d7_20) _ ?_
    show Steps p.tables e below (s₁.setTop (mkF m 21 #[.val (.ref a0), .val (.ref a1), .val (.int (10 : Int32))] [(.int (110 : Int32)), (.int (110 : Int32))])) _
    refine XS.icmpYes X0.here hx rfl (pc0 := 21) (pc' := 26) rfl (hb hby d7_21) rfl (teq rfl).1 (by decide) (by decide) ?_
    show Steps p.tables e below (s₁.setTop (mkF m 26 #[.val (.ref a0), .val (.ref a1), .val (.int (10 : Int32))] [])) _
    refine XS.iinc X0.here hx rfl (hb hby d7_26) rfl (l' := #[.val (.ref a0), .val (.ref a1), .val (.int (11 : Int32))]) rfl ?_
    show Steps p.tables e below (s₁.setTop (mkF m 29 #[.val (.ref a0), .val (.ref a1), .val (.int (11 : Int32))] [])) _
    refine XS.goto X0.here hx rfl (pc0 := 29) (pc' := 9) rfl (hb hby d7_29) (by decide) (by decide) ?_
    show Steps p.tables e below (s₁.setTop (mkF m 9 #[.val (.ref a0), .val (.ref a1), .val (.int (11 : Int32))] [])) _
    refine XS.iloadN X0.here hx rfl (hb hby d7_9) rfl ?_
    show Steps p.tables e below (s₁.setTop (mkF m 10 #[.val (.ref a0), .val (.ref a1), .val (.int (11 : Int32))] [(.int (11 : Int32))])) _
    refine XS.aloadN X0.here hx rfl (hb hby d7_10) rfl rfl ?_
    show Steps p.tables e below (s₁.setTop (mkF m 11 #[.val (.ref a0), .val (.ref a1), .val (.int (11 : Int32))] [(.ref a0), (.int (11 : Int32))])) _
    refine X0.arraylength hx (by rw [e0]; exact Ar734.1) (State.isArrayOf_alike hZ.alike Ar734.2.1) (g := (mkF m 11 #[.val (.ref a0), .val (.ref a1), .val (.int (11 : Int32))] [(.ref a0), (.int (11 : Int32))])) rfl rfl (hb hby d7_11) _ ?_
    rw [len_of S734 N734]
    show Steps p.tables e below (s₁.setTop (mkF m 12 #[.val (.ref a0), .val (.ref a1), .val (.int (11 : Int32))] [(.int (24 : Int32)), (.int (11 : Int32))])) _
    refine XS.icmpNo X0.here hx rfl (hb hby d7_12) rfl (tlt (by decide)).2.1 ?_
    show Steps p.tables e below (s₁.setTop (mkF m 15 #[.val (.ref a0), .val (.ref a1), .val (.int (11 : Int32))] [])) _
    refine XS.aloadN X0.here hx rfl (hb hby d7_15) rfl rfl ?_
    show Steps p.tables e below (s₁.setTop (mkF m 16 #[.val (.ref a0), .val (.ref a1), .val (.int (11 : Int32))] [(.ref a0)])) _
    refine XS.iloadN X0.here hx rfl (hb hby d7_16) rfl ?_
    show Steps p.tables e below (s₁.setTop (mkF m 17 #[.val (.ref a0), .val (.ref a1), .val (.int (11 : Int32))] [(.int (11 : Int32)), (.ref a0)])) _
    refine X0.baloadBytes hx (j := (11 : Int32)) (v := (.int (47 : Int32))) (by rw [e0]; exact Ar735.1) (State.isArrayOf_alike hZ.alike Ar735.2.1) Ar735.2.2 hin735 hat735 (g := (mkF m 17 #[.val (.ref a0), .val (.ref a1), .val (.int (11 : Int32))] [(.int (11 : Int32)), (.ref a0)])) rfl rfl (hb hby d7_17) _ ?_
    show Steps p.tables e below (s₁.setTop (mkF m 18 #[.val (.ref a0), .val (.ref a1), .val (.int (11 : Int32))] [(.int (47 : Int32))])) _
    refine XS.aloadN X0.here hx rfl (hb hby d7_18) rfl rfl ?_
    show Steps p.tables e below (s₁.setTop (mkF m 19 #[.val (.ref a0), .val (.ref a1), .val (.int (11 : Int32))] [(.ref a1), (.int (47 : Int32))])) _
    refine XS.iloadN X0.here hx rfl (hb hby d7_19) rfl ?_
    show Steps p.tables e below (s₁.setTop (mkF m 20 #[.val (.ref a0), .val (.ref a1), .val (.int (11 : Int32))] [(.int (11 : Int32)), (.ref a1), (.int (47 : Int32))])) _
    refine X0.baloadBytes hx (j := (11 : Int32)) (v := (.int (47 : Int32))) (by rw [e0]; exact Ar736.1) (State.isArrayOf_alike hZ.alike Ar736.2.1) Ar736.2.2 hin736 hat736 (g := (mkF m 20 #[.val (.ref a0), .val (.ref a1), .val (.int (11 : Int32))] [(.int (11 : Int32)), (.ref a1), (.int (47 : Int32))])) rfl rfl (hb hby d7_20) _ ?_
    show Steps p.tables e below (s₁.setTop (mkF m 21 #[.val (.ref a0), .val (.ref a1), .val (.int (11 : Int32))] [(.int (47 : Int32)), (.int (47 : Int32))])) _
    refine XS.icmpYes X0.here hx rfl (pc0 := 21) (pc' := 26) rfl (hb hby d7_21) rfl (teq rfl).1 (by decide) (by decide) ?_
    show Steps p.tables e below (s₁.setTop (mkF m 26 #[.val (.ref a0), .val (.ref a1), .val (.int (11 : Int32))] [])) _
    refine XS.iinc X0.here hx rfl (hb hby d7_26) rfl (l' := #[.val (.ref a0), .val (.ref a1), .val (.int (12 : Int32))]) rfl ?_
    show Steps p.tables e below (s₁.setTop (mkF m 29 #[.val (.ref a0), .val (.ref a1), .val (.int (12 : Int32))] [])) _
    refine XS.goto X0.here hx rfl (pc0 := 29) (pc' := 9) rfl (hb hby d7_29) (by decide) (by decide) ?_
    show Steps p.tables e below (s₁.setTop (mkF m 9 #[.val (.ref a0), .val (.ref a1), .val (.int (12 : Int32))] [])) _
    refine XS.iloadN X0.here hx rfl (hb hby d7_9) rfl ?_
    show Steps p.tables e below (s₁.setTop (mkF m 10 #[.val (.ref a0), .val (.ref a1), .val (.int (12 : Int32))] [(.int (12 : Int32))])) _
    refine XS.aloadN X0.here hx rfl (hb hby d7_10) rfl rfl ?_
    show Steps p.tables e below (s₁.setTop (mkF m 11 #[.val (.ref a0), .val (.ref a1), .val (.int (12 : Int32))] [(.ref a0), (.int (12 : Int32))])) _
    refine X0.arraylength hx (by rw [e0]; exact Ar737.1) (State.isArrayOf_alike hZ.alike Ar737.2.1) (g := (mkF m 11 #[.val (.ref a0), .val (.ref a1), .val (.int (12 : Int32))] [(.ref a0), (.int (12 : Int32))])) rfl rfl (hb hby d7_11) _ ?_
    rw [len_of S737 N737]
    show Steps p.tables e below (s₁.setTop (mkF m 12 #[.val (.ref a0), .val (.ref a1), .val (.int (12 : Int32))] [(.int (24 : Int32)), (.int (12 : Int32))])) _
    refine XS.icmpNo X0.here hx rfl (hb hby d7_12) rfl (tlt (by decide)).2.1 ?_
    show Steps p.tables e below (s₁.setTop (mkF m 15 #[.val (.ref a0), .val (.ref a1), .val (.int (12 : Int32))] [])) _
    refine XS.aloadN X0.here hx rfl (hb hby d7_15) rfl rfl ?_
    show Steps p.tables e below (s₁.setTop (mkF m 16 #[.val (.ref a0), .val (.ref a1), .val (.int (12 : Int32))] [(.ref a0)])) _
    refine XS.iloadN X0.here hx rfl (hb hby d7_16) rfl ?_
    show Steps p.tables e below (s₁.setTop (mkF m 17 #[.val (.ref a0), .val (.ref a1), .val (.int (12 : Int32))] [(.int (12 : Int32)), (.ref a0)])) _
    refine X0.baloadBytes hx (j := (12 : Int32)) (v := (.int (111 : Int32))) (by rw [e0]; exact Ar738.1) (State.isArrayOf_alike hZ.alike Ar738.2.1) Ar738.2.2 hin738 hat738 (g := (mkF m 17 #[.val (.ref a0), .val (.ref a1), .val (.int (12 : Int32))] [(.int (12 : Int32)), (.ref a0)])) rfl rfl (hb hby d7_17) _ ?_
    show Steps p.tables e below (s₁.setTop (mkF m 18 #[.val (.ref a0), .val (.ref a1), .val (.int (12 : Int32))] [(.int (111 : Int32))])) _
    refine XS.aloadN X0.here hx rfl (hb hby d7_18) rfl rfl ?_
    show Steps p.tables e below (s₁.setTop (mkF m 19 #[.val (.ref a0), .val (.ref a1), .val (.int (12 : Int32))] [(.ref a1), (.int (111 : Int32))])) _
    refine XS.iloadN X0.here hx rfl (hb hby d7_19) rfl ?_
    show Steps p.tables e below (s₁.setTop (mkF m 20 #[.val (.ref a0), .val (.ref a1), .val (.int (12 : Int32))] [(.int (12 : Int32)), (.ref a1), (.int (111 : Int32))])) _
    refine X0.baloadBytes hx (j := (12 : Int32)) (v := (.int (111 : Int32))) (by rw [e0]; exact Ar739.1) (State.isArrayOf_alike hZ.alike Ar739.2.1) Ar739.2.2 hin739 hat739 (g := (mkF m 20 #[.val (.ref a0), .val (.ref a1), .val (.int (12 : Int32))] [(.int (12 : Int32)), (.ref a1), (.int (111 : Int32))])) rfl rfl (hb hby d7_20) _ ?_
    show Steps p.tables e below (s₁.setTop (mkF m 21 #[.val (.ref a0), .val (.ref a1), .val (.int (12 : Int32))] [(.int (111 : Int32)), (.int (111 : Int32))])) _
    refine XS.icmpYes X0.here hx rfl (pc0 := 21) (pc' := 26) rfl (hb hby d7_21) rfl (teq rfl).1 (by decide) (by decide) ?_
    show Steps p.tables e below (s₁.setTop (mkF m 26 #[.val (.ref a0), .val (.ref a1), .val (.int (12 : Int32))] [])) _
    refine XS.iinc X0.here hx rfl (hb hby d7_26) rfl (l' := #[.val (.ref a0), .val (.ref a1), .val (.int (13 : Int32))]) rfl ?_
    show Steps p.tables e below (s₁.setTop (mkF m 29 #[.val (.ref a0), .val (.ref a1), .val (.int (13 : Int32))] [])) _
    refine XS.goto X0.here hx rfl (pc0 := 29) (pc' := 9) rfl (hb hby d7_29) (by decide) (by decide) ?_
    show Steps p.tables e below (s₁.setTop (mkF m 9 #[.val (.ref a0), .val (.ref a1), .val (.int (13 : Int32))] [])) _
    refine XS.iloadN X0.here hx rfl (hb hby d7_9) rfl ?_
    show Steps p.tables e below (s₁.setTop (mkF m 10 #[.val (.ref a0), .val (.ref a1), .val (.int (13 : Int32))] [(.int (13 : Int32))])) _
    refine XS.aloadN X0.here hx rfl (hb hby d7_10) rfl rfl ?_
    show Steps p.tables e below (s₁.setTop (mkF m 11 #[.val (.ref a0), .val (.ref a1), .val (.int (13 : Int32))] [(.ref a0), (.int (13 : Int32))])) _
    refine X0.arraylength hx (by rw [e0]; exact Ar740.1) (State.isArrayOf_alike hZ.alike Ar740.2.1) (g := (mkF m 11 #[.val (.ref a0), .val (.ref a1), .val (.int (13 : Int32))] [(.ref a0), (.int (13 : Int32))])) rfl rfl (hb hby d7_11) _ ?_
    rw [len_of S740 N740]
    show Steps p.tables e below (s₁.setTop (mkF m 12 #[.val (.ref a0), .val (.ref a1), .val (.int (13 : Int32))] [(.int (24 : Int32)), (.int (13 : Int32))])) _
    refine XS.icmpNo X0.here hx rfl (hb hby d7_12) rfl (tlt (by decide)).2.1 ?_
    show Steps p.tables e below (s₁.setTop (mkF m 15 #[.val (.ref a0), .val (.ref a1), .val (.int (13 : Int32))] [])) _
    refine XS.aloadN X0.here hx rfl (hb hby d7_15) rfl rfl ?_
    show Steps p.tables e below (s₁.setTop (mkF m 16 #[.val (.ref a0), .val (.ref a1), .val (.int (13 : Int32))] [(.ref a0)])) _
    refine XS.iloadN X0.here hx rfl (hb hby d7_16) rfl ?_
    show Steps p.tables e below (s₁.setTop (mkF m 17 #[.val (.ref a0), .val (.ref a1), .val (.int (13 : Int32))] [(.int (13 : Int32)), (.ref a0)])) _
    refine X0.baloadBytes hx (j := (13 : Int32)) (v := (.int (99 : Int32))) (by rw [e0]; exact Ar741.1) (State.isArrayOf_alike hZ.alike Ar741.2.1) Ar741.2.2 hin741 hat741 (g := (mkF m 17 #[.val (.ref a0), .val (.ref a1), .val (.int (13 : Int32))] [(.int (13 : Int32)), (.ref a0)])) rfl rfl (hb hby d7_17) _ ?_
    show Steps p.tables e below (s₁.setTop (mkF m 18 #[.val (.ref a0), .val (.ref a1), .val (.int (13 : Int32))] [(.int (99 : Int32))])) _
    refine XS.aloadN X0.here hx rfl (hb hby d7_18) rfl rfl ?_
    show Steps p.tables e below (s₁.setTop (mkF m 19 #[.val (.ref a0), .val (.ref a1), .val (.int (13 : Int32))] [(.ref a1), (.int (99 : Int32))])) _
    refine XS.iloadN X0.here hx rfl (hb hby d7_19) rfl ?_
    show Steps p.tables e below (s₁.setTop (mkF m 20 #[.val (.ref a0), .val (.ref a1), .val (.int (13 : Int32))] [(.int (13 : Int32)), (.ref a1), (.int (99 : Int32))])) _
    refine X0.baloadBytes hx (j := (13 : Int32)) (v := (.int (99 : Int32))) (by rw [e0]; exact Ar742.1) (State.isArrayOf_alike hZ.alike Ar742.2.1) Ar742.2.2 hin742 hat742 (g := (mkF m 20 #[.val (.ref a0), .val (.ref a1), .val (.int (13 : Int32))] [(.int (13 : Int32)), (.ref a1), (.int (99 : Int32))])) rfl rfl (hb hby d7_20) _ ?_
    show Steps p.tables e below (s₁.setTop (mkF m 21 #[.val (.ref a0), .val (.ref a1), .val (.int (13 : Int32))] [(.int (99 : Int32)), (.int (99 : Int32))])) _
    refine XS.icmpYes X0.here hx rfl (pc0 := 21) (pc' := 26) rfl (hb hby d7_21) rfl (teq rfl).1 (by decide) (by decide) ?_
    show Steps p.tables e below (s₁.setTop (mkF m 26 #[.val (.ref a0), .val (.ref a1), .val (.int (13 : Int32))] [])) _
    refine XS.iinc X0.here hx rfl (hb hby d7_26) rfl (l' := #[.val (.ref a0), .val (.ref a1), .val (.int (14 : Int32))]) rfl ?_
    show Steps p.tables e below (s₁.setTop (mkF m 29 #[.val (.ref a0), .val (.ref a1), .val (.int (14 : Int32))] [])) _
    refine XS.goto X0.here hx rfl (pc0 := 29) (pc' := 9) rfl (hb hby d7_29) (by decide) (by decide) ?_
    show Steps p.tables e below (s₁.setTop (mkF m 9 #[.val (.ref a0), .val (.ref a1), .val (.int (14 : Int32))] [])) _
    refine XS.iloadN X0.here hx rfl (hb hby d7_9) rfl ?_
    show Steps p.tables e below (s₁.setTop (mkF m 10 #[.val (.ref a0), .val (.ref a1), .val (.int (14 : Int32))] [(.int (14 : Int32))])) _
    refine XS.aloadN X0.here hx rfl (hb hby d7_10) rfl rfl ?_
    show Steps p.tables e below (s₁.setTop (mkF m 11 #[.val (.ref a0), .val (.ref a1), .val (.int (14 : Int32))] [(.ref a0), (.int (14 : Int32))])) _
    refine X0.arraylength hx (by rw [e0]; exact Ar743.1) (State.isArrayOf_alike hZ.alike Ar743.2.1) (g := (mkF m 11 #[.val (.ref a0), .val (.ref a1), .val (.int (14 : Int32))] [(.ref a0), (.int (14 : Int32))])) rfl rfl (hb hby d7_11) _ ?_
    rw [len_of S743 N743]
    show Steps p.tables e below (s₁.setTop (mkF m 12 #[.val (.ref a0), .val (.ref a1), .val (.int (14 : Int32))] [(.int (24 : Int32)), (.int (14 : Int32))])) _
    refine XS.icmpNo X0.here hx rfl (hb hby d7_12) rfl (tlt (by decide)).2.1 ?_
    show Steps p.tables e below (s₁.setTop (mkF m 15 #[.val (.ref a0), .val (.ref a1), .val (.int (14 : Int32))] [])) _
    refine XS.aloadN X0.here hx rfl (hb hby d7_15) rfl rfl ?_
    show Steps p.tables e below (s₁.setTop (mkF m 16 #[.val (.ref a0), .val (.ref a1), .val (.int (14 : Int32))] [(.ref a0)])) _
    refine XS.iloadN X0.here hx rfl (hb hby d7_16) rfl ?_
    show Steps p.tables e below (s₁.setTop (mkF m 17 #[.val (.ref a0), .val (.ref a1), .val (.int (14 : Int32))] [(.int (14 : Int32)), (.ref a0)])) _
    refine X0.baloadBytes hx (j := (14 : Int32)) (v := (.int (116 : Int32))) (by rw [e0]; exact Ar744.1) (State.isArrayOf_alike hZ.alike Ar744.2.1) Ar744.2.2 hin744 hat744 (g := (mkF m 17 #[.val (.ref a0), .val (.ref a1), .val (.int (14 : Int32))] [(.int (14 : Int32)), (.ref a0)])) rfl rfl (hb hby d7_17) _ ?_
    show Steps p.tables e below (s₁.setTop (mkF m 18 #[.val (.ref a0), .val (.ref a1), .val (.int (14 : Int32))] [(.int (116 : Int32))])) _
    refine XS.aloadN X0.here hx rfl (hb hby d7_18) rfl rfl ?_
    show Steps p.tables e below (s₁.setTop (mkF m 19 #[.val (.ref a0), .val (.ref a1), .val (.int (14 : Int32))] [(.ref a1), (.int (116 : Int32))])) _
    refine XS.iloadN X0.here hx rfl (hb hby d7_19) rfl ?_
    show Steps p.tables e below (s₁.setTop (mkF m 20 #[.val (.ref a0), .val (.ref a1), .val (.int (14 : Int32))] [(.int (14 : Int32)), (.ref a1), (.int (116 : Int32))])) _
    refine X0.baloadBytes hx (j := (14 : Int32)) (v := (.int (116 : Int32))) (by rw [e0]; exact Ar745.1) (State.isArrayOf_alike hZ.alike Ar745.2.1) Ar745.2.2 hin745 hat745 (g := (mkF m 20 #[.val (.ref a0), .val (.ref a1), .val (.int (14 : Int32))] [(.int (14 : Int32)), (.ref a1), (.int (116 : Int32))])) rfl rfl (hb hby d7_20) _ ?_
    show Steps p.tables e below (s₁.setTop (mkF m 21 #[.val (.ref a0), .val (.ref a1), .val (.int (14 : Int32))] [(.int (116 : Int32)), (.int (116 : Int32))])) _
    refine XS.icmpYes X0.here hx rfl (pc0 := 21) (pc' := 26) rfl (hb hby d7_21) rfl (teq rfl).1 (by decide) (by decide) ?_
    show Steps p.tables e below (s₁.setTop (mkF m 26 #[.val (.ref a0), .val (.ref a1), .val (.int (14 : Int32))] [])) _
    refine XS.iinc X0.here hx rfl (hb hby d7_26) rfl (l' := #[.val (.ref a0), .val (.ref a1), .val (.int (15 : Int32))]) rfl ?_
    show Steps p.tables e below (s₁.setTop (mkF m 29 #[.val (.ref a0), .val (.ref a1), .val (.int (15 : Int32))] [])) _
    refine XS.goto X0.here hx rfl (pc0 := 29) (pc' := 9) rfl (hb hby d7_29) (by decide) (by decide) ?_
    show Steps p.tables e below (s₁.setTop (mkF m 9 #[.val (.ref a0), .val (.ref a1), .val (.int (15 : Int32))] [])) _
    refine XS.iloadN X0.here hx rfl (hb hby d7_9) rfl ?_
    show Steps p.tables e below (s₁.setTop (mkF m 10 #[.val (.ref a0), .val (.ref a1), .val (.int (15 : Int32))] [(.int (15 : Int32))])) _
    refine XS.aloadN X0.here hx rfl (hb hby d7_10) rfl rfl ?_
    show Steps p.tables e below (s₁.setTop (mkF m 11 #[.val (.ref a0), .val (.ref a1), .val (.int (15 : Int32))] [(.ref a0), (.int (15 : Int32))])) _
    refine X0.arraylength hx (by rw [e0]; exact Ar746.1) (State.isArrayOf_alike hZ.alike Ar746.2.1) (g := (mkF m 11 #[.val (.ref a0), .val (.ref a1), .val (.int (15 : Int32))] [(.ref a0), (.int (15 : Int32))])) rfl rfl (hb hby d7_11) _ ?_
    rw [len_of S746 N746]
    show Steps p.tables e below (s₁.setTop (mkF m 12 #[.val (.ref a0), .val (.ref a1), .val (.int (15 : Int32))] [(.int (24 : Int32)), (.int (15 : Int32))])) _
    refine XS.icmpNo X0.here hx rfl (hb hby d7_12) rfl (tlt (by decide)).2.1 ?_
    show Steps p.tables e below (s₁.setTop (mkF m 15 #[.val (.ref a0), .val (.ref a1), .val (.int (15 : Int32))] [])) _
    refine XS.aloadN X0.here hx rfl (hb hby d7_15) rfl rfl ?_
    show Steps p.tables e below (s₁.setTop (mkF m 16 #[.val (.ref a0), .val (.ref a1), .val (.int (15 : Int32))] [(.ref a0)])) _
    refine XS.iloadN X0.here hx rfl (hb hby d7_16) rfl ?_
    show Steps p.tables e below (s₁.setTop (mkF m 17 #[.val (.ref a0), .val (.ref a1), .val (.int (15 : Int32))] [(.int (15 : Int32)), (.ref a0)])) _
    refine X0.baloadBytes hx (j := (15 : Int32)) (v := (.int (101 : Int32))) (by rw [e0]; exact Ar747.1) (State.isArrayOf_alike hZ.alike Ar747.2.1) Ar747.2.2 hin747 hat747 (g := (mkF m 17 #[.val (.ref a0), .val (.ref a1), .val (.int (15 : Int32))] [(.int (15 : Int32)), (.ref a0)])) rfl rfl (hb hby d7_17) _ ?_
    show Steps p.tables e below (s₁.setTop (mkF m 18 #[.val (.ref a0), .val (.ref a1), .val (.int (15 : Int32))] [(.int (101 : Int32))])) _
    refine XS.aloadN X0.here hx rfl (hb hby d7_18) rfl rfl ?_
    show Steps p.tables e below (s₁.setTop (mkF m 19 #[.val (.ref a0), .val (.ref a1), .val (.int (15 : Int32))] [(.ref a1), (.int (101 : Int32))])) _
    refine XS.iloadN X0.here hx rfl (hb hby d7_19) rfl ?_
    show Steps p.tables e below (s₁.setTop (mkF m 20 #[.val (.ref a0), .val (.ref a1), .val (.int (15 : Int32))] [(.int (15 : Int32)), (.ref a1), (.int (101 : Int32))])) _
    refine X0.baloadBytes hx (j := (15 : Int32)) (v := (.int (101 : Int32))) (by rw [e0]; exact Ar748.1) (State.isArrayOf_alike hZ.alike Ar748.2.1) Ar748.2.2 hin748 hat748 (g := (mkF m 20 #[.val (.ref a0), .val (.ref a1), .val (.int (15 : Int32))] [(.int (15 : Int32)), (.ref a1), (.int (101 : Int32))])) rfl rfl (hb hby d7_20) _ ?_
    show Steps p.tables e below (s₁.setTop (mkF m 21 #[.val (.ref a0), .val (.ref a1), .val (.int (15 : Int32))] [(.int (101 : Int32)), (.int (101 : Int32))])) _
    refine XS.icmpYes X0.here hx rfl (pc0 := 21) (pc' := 26) rfl (hb hby d7_21) rfl (teq rfl).1 (by decide) (by decide) ?_
    show Steps p.tables e below (s₁.setTop (mkF m 26 #[.val (.ref a0), .val (.ref a1), .val (.int (15 : Int32))] [])) _
    refine XS.iinc X0.here hx rfl (hb hby d7_26) rfl (l' := #[.val (.ref a0), .val (.ref a1), .val (.int (16 : Int32))]) rfl ?_
    show Steps p.tables e below (s₁.setTop (mkF m 29 #[.val (.ref a0), .val (.ref a1), .val (.int (16 : Int32))] [])) _
    refine XS.goto X0.here hx rfl (pc0 := 29) (pc' := 9) rfl (hb hby d7_29) (by decide) (by decide) ?_
    show Steps p.tables e below (s₁.setTop (mkF m 9 #[.val (.ref a0), .val (.ref a1), .val (.int (16 : Int32))] [])) _
    refine XS.iloadN X0.here hx rfl (hb hby d7_9) rfl ?_
    show Steps p.tables e below (s₁.setTop (mkF m 10 #[.val (.ref a0), .val (.ref a1), .val (.int (16 : Int32))] [(.int (16 : Int32))])) _
    refine XS.aloadN X0.here hx rfl (hb hby d7_10) rfl rfl ?_
    show Steps p.tables e below (s₁.setTop (mkF m 11 #[.val (.ref a0), .val (.ref a1), .val (.int (16 : Int32))] [(.ref a0), (.int (16 : Int32))])) _
    refine X0.arraylength hx (by rw [e0]; exact Ar749.1) (State.isArrayOf_alike hZ.alike Ar749.2.1) (g := (mkF m 11 #[.val (.ref a0), .val (.ref a1), .val (.int (16 : Int32))] [(.ref a0), (.int (16 : Int32))])) rfl rfl (hb hby d7_11) _ ?_
    rw [len_of S749 N749]
    show Steps p.tables e below (s₁.setTop (mkF m 12 #[.val (.ref a0), .val (.ref a1), .val (.int (16 : Int32))] [(.int (24 : Int32)), (.int (16 : Int32))])) _
    refine XS.icmpNo X0.here hx rfl (hb hby d7_12) rfl (tlt (by decide)).2.1 ?_
    show Steps p.tables e below (s₁.setTop (mkF m 15 #[.val (.ref a0), .val (.ref a1), .val (.int (16 : Int32))] [])) _
    refine XS.aloadN X0.here hx rfl (hb hby d7_15) rfl rfl ?_
    show Steps p.tables e below (s₁.setTop (mkF m 16 #[.val (.ref a0), .val (.ref a1), .val (.int (16 : Int32))] [(.ref a0)])) _
    refine XS.iloadN X0.here hx rfl (hb hby d7_16) rfl ?_
    show Steps p.tables e below (s₁.setTop (mkF m 17 #[.val (.ref a0), .val (.ref a1), .val (.int (16 : Int32))] [(.int (16 : Int32)), (.ref a0)])) _
    refine X0.baloadBytes hx (j := (16 : Int32)) (v := (.int (116 : Int32))) (by rw [e0]; exact Ar750.1) (State.isArrayOf_alike hZ.alike Ar750.2.1) Ar750.2.2 hin750 hat750 (g := (mkF m 17 #[.val (.ref a0), .val (.ref a1), .val (.int (16 : Int32))] [(.int (16 : Int32)), (.ref a0)])) rfl rfl (hb hby d7_17) _ ?_
    show Steps p.tables e below (s₁.setTop (mkF m 18 #[.val (.ref a0), .val (.ref a1), .val (.int (16 : Int32))] [(.int (116 : Int32))])) _
    refine XS.aloadN X0.here hx rfl (hb hby d7_18) rfl rfl ?_
    show Steps p.tables e below (s₁.setTop (mkF m 19 #[.val (.ref a0), .val (.ref a1), .val (.int (16 : Int32))] [(.ref a1), (.int (116 : Int32))])) _
    refine XS.iloadN X0.here hx rfl (hb hby d7_19) rfl ?_
    show Steps p.tables e below (s₁.setTop (mkF m 20 #[.val (.ref a0), .val (.ref a1), .val (.int (16 : Int32))] [(.int (16 : Int32)), (.ref a1), (.int (116 : Int32))])) _
    refine X0.baloadBytes hx (j := (16 : Int32)) (v := (.int (116 : Int32))) (by rw [e0]; exact Ar751.1) (State.isArrayOf_alike hZ.alike Ar751.2.1) Ar751.2.2 hin751 hat751 (g := (mkF m 20 #[.val (.ref a0), .val (.ref a1), .val (.int (16 : Int32))] [(.int (16 : Int32)), (.ref a1), (.int (116 : Int32))])) rfl rfl (hb hby d7_20) _ ?_
    show Steps p.tables e below (s₁.setTop (mkF m 21 #[.val (.ref a0), .val (.ref a1), .val (.int (16 : Int32))] [(.int (116 : Int32)), (.int (116 : Int32))])) _
    refine XS.icmpYes X0.here hx rfl (pc0 := 21) (pc' := 26) rfl (hb hby d7_21) rfl (teq rfl).1 (by decide) (by decide) ?_
    show Steps p.tables e below (s₁.setTop (mkF m 26 #[.val (.ref a0), .val (.ref a1), .val (.int (16 : Int32))] [])) _
    refine XS.iinc X0.here hx rfl (hb hby d7_26) rfl (l' := #[.val (.ref a0), .val (.ref a1), .val (.int (17 : Int32))]) rfl ?_
    show Steps p.tables e below (s₁.setTop (mkF m 29 #[.val (.ref a0), .val (.ref a1), .val (.int (17 : Int32))] [])) _
    refine XS.goto X0.here hx rfl (pc0 := 29) (pc' := 9) rfl (hb hby d7_29) (by decide) (by decide) ?_
    show Steps p.tables e below (s₁.setTop (mkF m 9 #[.val (.ref a0), .val (.ref a1), .val (.int (17 : Int32))] [])) _
    refine XS.iloadN X0.here hx rfl (hb hby d7_9) rfl ?_
    show Steps p.tables e below (s₁.setTop (mkF m 10 #[.val (.ref a0), .val (.ref a1), .val (.int (17 : Int32))] [(.int (17 : Int32))])) _
    refine XS.aloadN X0.here hx rfl (hb hby d7_10) rfl rfl ?_
    show Steps p.tables e below (s₁.setTop (mkF m 11 #[.val (.ref a0), .val (.ref a1), .val (.int (17 : Int32))] [(.ref a0), (.int (17 : Int32))])) _
    refine X0.arraylength hx (by rw [e0]; exact Ar752.1) (State.isArrayOf_alike hZ.alike Ar752.2.1) (g := (mkF m 11 #[.val (.ref a0), .val (.ref a1), .val (.int (17 : Int32))] [(.ref a0), (.int (17 : Int32))])) rfl rfl (hb hby d7_11) _ ?_
    rw [len_of S752 N752]
    show Steps p.tables e below (s₁.setTop (mkF m 12 #[.val (.ref a0), .val (.ref a1), .val (.int (17 : Int32))] [(.int (24 : Int32)), (.int (17 : Int32))])) _
    refine XS.icmpNo X0.here hx rfl (hb hby d7_12) rfl (tlt (by decide)).2.1 ?_
    show Steps p.tables e below (s₁.setTop (mkF m 15 #[.val (.ref a0), .val (.ref a1), .val (.int (17 : Int32))] [])) _
    refine XS.aloadN X0.here hx rfl (hb hby d7_15) rfl rfl ?_
    show Steps p.tables e below (s₁.setTop (mkF m 16 #[.val (.ref a0), .val (.ref a1), .val (.int (17 : Int32))] [(.ref a0)])) _
    refine XS.iloadN X0.here hx rfl (hb hby d7_16) rfl ?_
    show Steps p.tables e below (s₁.setTop (mkF m 17 #[.val (.ref a0), .val (.ref a1), .val (.int (17 : Int32))] [(.int (17 : Int32)), (.ref a0)])) _
    refine X0.baloadBytes hx (j := (17 : Int32)) (v := (.int (45 : Int32))) (by rw [e0]; exact Ar753.1) (State.isArrayOf_alike hZ.alike Ar753.2.1) Ar753.2.2 hin753 hat753 (g := (mkF m 17 #[.val (.ref a0), .val (.ref a1), .val (.int (17 : Int32))] [(.int (17 : Int32)), (.ref a0)])) rfl rfl (hb hby d7_17) _ ?_
    show Steps p.tables e below (s₁.setTop (mkF m 18 #[.val (.ref a0), .val (.ref a1), .val (.int (17 : Int32))] [(.int (45 : Int32))])) _
    refine XS.aloadN X0.here hx rfl (hb hby d7_18) rfl rfl ?_
    show Steps p.tables e below (s₁.setTop (mkF m 19 #[.val (.ref a0), .val (.ref a1), .val (.int (17 : Int32))] [(.ref a1), (.int (45 : Int32))])) _
    refine XS.iloadN X0.here hx rfl (hb hby d7_19) rfl ?_
    show Steps p.tables e below (s₁.setTop (mkF m 20 #[.val (.ref a0), .val (.ref a1), .val (.int (17 : Int32))] [(.int (17 : Int32)), (.ref a1), (.int (45 : Int32))])) _
    refine X0.baloadBytes hx (j := (17 : Int32)) (v := (.int (45 : Int32))) (by rw [e0]; exact Ar754.1) (State.isArrayOf_alike hZ.alike Ar754.2.1) Ar754.2.2 hin754 hat754 (g := (mkF m 20 #[.val (.ref a0), .val (.ref a1), .val (.int (17 : Int32))] [(.int (17 : Int32)), (.ref a1), (.int (45 : Int32))])) rfl rfl (hb hby d7_20) _ ?_
    show Steps p.tables e below (s₁.setTop (mkF m 21 #[.val (.ref a0), .val (.ref a1), .val (.int (17 : Int32))] [(.int (45 : Int32)), (.int (45 : Int32))])) _
    refine XS.icmpYes X0.here hx rfl (pc0 := 21) (pc' := 26) rfl (hb hby d7_21) rfl (teq rfl).1 (by decide) (by decide) ?_
    show Steps p.tables e below (s₁.setTop (mkF m 26 #[.val (.ref a0), .val (.ref a1), .val (.int (17 : Int32))] [])) _
    refine XS.iinc X0.here hx rfl (hb hby d7_26) rfl (l' := #[.val (.ref a0), .val (.ref a1), .val (.int (18 : Int32))]) rfl ?_
    show Steps p.tables e below (s₁.setTop (mkF m 29 #[.val (.ref a0), .val (.ref a1), .val (.int (18 : Int32))] [])) _
    refine XS.goto X0.here hx rfl (pc0 := 29) (pc' := 9) rfl (hb hby d7_29) (by decide) (by decide) ?_
    show Steps p.tables e below (s₁.setTop (mkF m 9 #[.val (.ref a0), .val (.ref a1), .val (.int (18 : Int32))] [])) _
    refine XS.iloadN X0.here hx rfl (hb hby d7_9) rfl ?_
    show Steps p.tables e below (s₁.setTop (mkF m 10 #[.val (.ref a0), .val (.ref a1), .val (.int (18 : Int32))] [(.int (18 : Int32))])) _
    refine XS.aloadN X0.here hx rfl (hb hby d7_10) rfl rfl ?_
    show Steps p.tables e below (s₁.setTop (mkF m 11 #[.val (.ref a0), .val (.ref a1), .val (.int (18 : Int32))] [(.ref a0), (.int (18 : Int32))])) _
    refine X0.arraylength hx (by rw [e0]; exact Ar755.1) (State.isArrayOf_alike hZ.alike Ar755.2.1) (g := (mkF m 11 #[.val (.ref a0), .val (.ref a1), .val (.int (18 : Int32))] [(.ref a0), (.int (18 : Int32))])) rfl rfl (hb hby d7_11) _ ?_
    rw [len_of S755 N755]
    show Steps p.tables e below (s₁.setTop (mkF m 12 #[.val (.ref a0), .val (.ref a1), .val (.int (18 : Int32))] [(.int (24 : Int32)), (.int (18 : Int32))])) _
    refine XS.icmpNo X0.here hx rfl (hb hby d7_12) rfl (tlt (by decide)).2.1 ?_
    show Steps p.tables e below (s₁.setTop (mkF m 15 #[.val (.ref a0), .val (.ref a1), .val (.int (18 : Int32))] [])) _
    refine XS.aloadN X0.here hx rfl (hb hby d7_15) rfl rfl ?_
    show Steps p.tables e below (s₁.setTop (mkF m 16 #[.val (.ref a0), .val (.ref a1), .val (.int (18 : Int32))] [(.ref a0)])) _
    refine XS.iloadN X0.here hx rfl (hb hby d7_16) rfl ?_
    show Steps p.tables e below (s₁.setTop (mkF m 17 #[.val (.ref a0), .val (.ref a1), .val (.int (18 : Int32))] [(.int (18 : Int32)), (.ref a0)])) _
    refine X0.baloadBytes hx (j := (18 : Int32)) (v := (.int (115 : Int32))) (by rw [e0]; exact Ar756.1) (State.isArrayOf_alike hZ.alike Ar756.2.1) Ar756.2.2 hin756 hat756 (g := (mkF m 17 #[.val (.ref a0), .val (.ref a1), .val (.int (18 : Int32))] [(.int (18 : Int32)), (.ref a0)])) rfl rfl (hb hby d7_17) _ ?_
    show Steps p.tables e below (s₁.setTop (mkF m 18 #[.val (.ref a0), .val (.ref a1), .val (.int (18 : Int32))] [(.int (115 : Int32))])) _
    refine XS.aloadN X0.here hx rfl (hb hby d7_18) rfl rfl ?_
    show Steps p.tables e below (s₁.setTop (mkF m 19 #[.val (.ref a0), .val (.ref a1), .val (.int (18 : Int32))] [(.ref a1), (.int (115 : Int32))])) _
    refine XS.iloadN X0.here hx rfl (hb hby d7_19) rfl ?_
    show Steps p.tables e below (s₁.setTop (mkF m 20 #[.val (.ref a0), .val (.ref a1), .val (.int (18 : Int32))] [(.int (18 : Int32)), (.ref a1), (.int (115 : Int32))])) _
    refine X0.baloadBytes hx (j := (18 : Int32)) (v := (.int (115 : Int32))) (by rw [e0]; exact Ar757.1) (State.isArrayOf_alike hZ.alike Ar757.2.1) Ar757.2.2 hin757 hat757 (g := (mkF m 20 #[.val (.ref a0), .val (.ref a1), .val (.int (18 : Int32))] [(.int (18 : Int32)), (.ref a1), (.int (115 : Int32))])) rfl rfl (hb hby d7_20) _ ?_
    show Steps p.tables e below (s₁.setTop (mkF m 21 #[.val (.ref a0), .val (.ref a1), .val (.int (18 : Int32))] [(.int (115 : Int32)), (.int (115 : Int32))])) _
    refine XS.icmpYes X0.here hx rfl (pc0 := 21) (pc' := 26) rfl (hb hby d7_21) rfl (teq rfl).1 (by decide) (by decide) ?_
    show Steps p.tables e below (s₁.setTop (mkF m 26 #[.val (.ref a0), .val (.ref a1), .val (.int (18 : Int32))] [])) _
    refine XS.iinc X0.here hx rfl (hb hby d7_26) rfl (l' := #[.val (.ref a0), .val (.ref a1), .val (.int (19 : Int32))]) rfl ?_
    show Steps p.tables e below (s₁.setTop (mkF m 29 #[.val (.ref a0), .val (.ref a1), .val (.int (19 : Int32))] [])) _
    refine XS.goto X0.here hx rfl (pc0 := 29) (pc' := 9) rfl (hb hby d7_29) (by decide) (by decide) ?_
    show Steps p.tables e below (s₁.setTop (mkF m 9 #[.val (.ref a0), .val (.ref a1), .val (.int (19 : Int32))] [])) _
    refine XS.iloadN X0.here hx rfl (hb hby d7_9) rfl ?_
    show Steps p.tables e below (s₁.setTop (mkF m 10 #[.val (.ref a0), .val (.ref a1), .val (.int (19 : Int32))] [(.int (19 : Int32))])) _
    refine XS.aloadN X0.here hx rfl (hb hby d7_10) rfl rfl ?_
    show Steps p.tables e below (s₁.setTop (mkF m 11 #[.val (.ref a0), .val (.ref a1), .val (.int (19 : Int32))] [(.ref a0), (.int (19 : Int32))])) _
    refine X0.arraylength hx (by rw [e0]; exact Ar758.1) (State.isArrayOf_alike hZ.alike Ar758.2.1) (g := (mkF m 11 #[.val (.ref a0), .val (.ref a1), .val (.int (19 : Int32))] [(.ref a0), (.int (19 : Int32))])) rfl rfl (hb hby d7_11) _ ?_
    rw [len_of S758 N758]
    show Steps p.tables e below (s₁.setTop (mkF m 12 #[.val (.ref a0), .val (.ref a1), .val (.int (19 : Int32))] [(.int (24 : Int32)), (.int (19 : Int32))])) _
    refine XS.icmpNo X0.here hx rfl (hb hby d7_12) rfl (tlt (by decide)).2.1 ?_
    show Steps p.tables e below (s₁.setTop (mkF m 15 #[.val (.ref a0), .val (.ref a1), .val (.int (19 : Int32))] [])) _
    refine XS.aloadN X0.here hx rfl (hb hby d7_15) rfl rfl ?_
    show Steps p.tables e below (s₁.setTop (mkF m 16 #[.val (.ref a0), .val (.ref a1), .val (.int (19 : Int32))] [(.ref a0)])) _
    refine XS.iloadN X0.here hx rfl (hb hby d7_16) rfl ?_
    show Steps p.tables e below (s₁.setTop (mkF m 17 #[.val (.ref a0), .val (.ref a1), .val (.int (19 : Int32))] [(.int (19 : Int32)), (.ref a0)])) _
    refine X0.baloadBytes hx (j := (19 : Int32)) (v := (.int (116 : Int32))) (by rw [e0]; exact Ar759.1) (State.isArrayOf_alike hZ.alike Ar759.2.1) Ar759.2.2 hin759 hat759 (g := (mkF m 17 #[.val (.ref a0), .val (.ref a1), .val (.int (19 : Int32))] [(.int (19 : Int32)), (.ref a0)])) rfl rfl (hb hby d7_17) _ ?_
    show Steps p.tables e below (s₁.setTop (mkF m 18 #[.val (.ref a0), .val (.ref a1), .val (.int (19 : Int32))] [(.int (116 : Int32))])) _
    refine XS.aloadN X0.here hx rfl (hb hby d7_18) rfl rfl ?_
    show Steps p.tables e below (s₁.setTop (mkF m 19 #[.val (.ref a0), .val (.ref a1), .val (.int (19 : Int32))] [(.ref a1), (.int (116 : Int32))])) _
    refine XS.iloadN X0.here hx rfl (hb hby d7_19) rfl ?_
    show Steps p.tables e below (s₁.setTop (mkF m 20 #[.val (.ref a0), .val (.ref a1), .val (.int (19 : Int32))] [(.int (19 : Int32)), (.ref a1), (.int (116 : Int32))])) _
    refine X0.baloadBytes hx (j := (19 : Int32)) (v := (.int (116 : Int32))) (by rw [e0]; exact Ar760.1) (State.isArrayOf_alike hZ.alike Ar760.2.1) Ar760.2.2 hin760 hat760 (g := (mkF m 20 #[.val (.ref a0), .val (.ref a1), .val (.int (19 : Int32))] [(.int (19 : Int32)), (.ref a1), (.int (116 : Int32))])) rfl rfl (hb hby d7_20) _ ?_
    show Steps p.tables e below (s₁.setTop (mkF m 21 #[.val (.ref a0), .val (.ref a1), .val (.int (19 : Int32))] [(.int (116 : Int32)), (.int (116 : Int32))])) _
    refine XS.icmpYes X0.here hx rfl (pc0 := 21) (pc' := 26) rfl (hb hby d7_21) rfl (teq rfl).1 (by decide) (by decide) ?_
    show Steps p.tables e below (s₁.setTop (mkF m 26 #[.val (.ref a0), .val (.ref a1), .val (.int (19 : Int32))] [])) _
    refine XS.iinc X0.here hx rfl (hb hby d7_26) rfl (l' := #[.val (.ref a0), .val (.ref a1), .val (.int (20 : Int32))]) rfl ?_
    show Steps p.tables e below (s₁.setTop (mkF m 29 #[.val (.ref a0), .val (.ref a1), .val (.int (20 : Int32))] [])) _
    refine XS.goto X0.here hx rfl (pc0 := 29) (pc' := 9) rfl (hb hby d7_29) (by decide) (by decide) ?_
    show Steps p.tables e below (s₁.setTop (mkF m 9 #[.val (.ref a0), .val (.ref a1), .val (.int (20 : Int32))] [])) _
    refine XS.iloadN X0.here hx rfl (hb hby d7_9) rfl ?_
    show Steps p.tables e below (s₁.setTop (mkF m 10 #[.val (.ref a0), .val (.ref a1), .val (.int (20 : Int32))] [(.int (20 : Int32))])) _
    refine XS.aloadN X0.here hx rfl (hb hby d7_10) rfl rfl ?_
    show Steps p.tables e below (s₁.setTop (mkF m 11 #[.val (.ref a0), .val (.ref a1), .val (.int (20 : Int32))] [(.ref a0), (.int (20 : Int32))])) _
    refine X0.arraylength hx (by rw [e0]; exact Ar761.1) (State.isArrayOf_alike hZ.alike Ar761.2.1) (g := (mkF m 11 #[.val (.ref a0), .val (.ref a1), .val (.int (20 : Int32))] [(.ref a0), (.int (20 : Int32))])) rfl rfl (hb hby d7_11) _ ?_
    rw [len_of S761 N761]
    show Steps p.tables e below (s₁.setTop (mkF m 12 #[.val (.ref a0), .val (.ref a1), .val (.int (20 : Int32))] [(.int (24 : Int32)), (.int (20 : Int32))])) _
    refine XS.icmpNo X0.here hx rfl (hb hby d7_12) rfl (tlt (by decide)).2.1 ?_
    show Steps p.tables e below (s₁.setTop (mkF m 15 #[.val (.ref a0), .val (.ref a1), .val (.int (20 : Int32))] [])) _
    refine XS.aloadN X0.here hx rfl (hb hby d7_15) rfl rfl ?_
    show Steps p.tables e below (s₁.setTop (mkF m 16 #[.val (.ref a0), .val (.ref a1), .val (.int (20 : Int32))] [(.ref a0)])) _
    refine XS.iloadN X0.here hx rfl (hb hby d7_16) rfl ?_
    show Steps p.tables e below (s₁.setTop (mkF m 17 #[.val (.ref a0), .val (.ref a1), .val (.int (20 : Int32))] [(.int (20 : Int32)), (.ref a0)])) _
    refine X0.baloadBytes hx (j := (20 : Int32)) (v := (.int (114 : Int32))) (by rw [e0]; exact Ar762.1) (State.isArrayOf_alike hZ.alike Ar762.2.1) Ar762.2.2 hin762 hat762 (g := (mkF m 17 #[.val (.ref a0), .val (.ref a1), .val (.int (20 : Int32))] [(.int (20 : Int32)), (.ref a0)])) rfl rfl (hb hby d7_17) _ ?_
    show Steps p.tables e below (s₁.setTop (mkF m 18 #[.val (.ref a0), .val (.ref a1), .val (.int (20 : Int32))] [(.int (114 : Int32))])) _
    refine XS.aloadN X0.here hx rfl (hb hby d7_18) rfl rfl ?_
    show Steps p.tables e below (s₁.setTop (mkF m 19 #[.val (.ref a0), .val (.ref a1), .val (.int (20 : Int32))] [(.ref a1), (.int (114 : Int32))])) _
    refine XS.iloadN X0.here hx rfl (hb hby d7_19) rfl ?_
    show Steps p.tables e below (s₁.setTop (mkF m 20 #[.val (.ref a0), .val (.ref a1), .val (.int (20 : Int32))] [(.int (20 : Int32)), (.ref a1), (.int (114 : Int32))])) _
    refine X0.baloadBytes hx (j := (20 : Int32)) (v := (.int (114 : Int32))) (by rw [e0]; exact Ar763.1) (State.isArrayOf_alike hZ.alike Ar763.2.1) Ar763.2.2 hin763 hat763 (g := (mkF m 20 #[.val (.ref a0), .val (.ref a1), .val (.int (20 : Int32))] [(.int (20 : Int32)), (.ref a1), (.int (114 : Int32))])) rfl rfl (hb hby d7_20) _ ?_
    show Steps p.tables e below (s₁.setTop (mkF m 21 #[.val (.ref a0), .val (.ref a1), .val (.int (20 : Int32))] [(.int (114 : Int32)), (.int (114 : Int32))])) _
    refine XS.icmpYes X0.here hx rfl (pc0 := 21) (pc' := 26) rfl (hb hby d7_21) rfl (teq rfl).1 (by decide) (by decide) ?_
    show Steps p.tables e below (s₁.setTop (mkF m 26 #[.val (.ref a0), .val (.ref a1), .val (.int (20 : Int32))] [])) _
    refine XS.iinc X0.here hx rfl (hb hby d7_26) rfl (l' := #[.val (.ref a0), .val (.ref a1), .val (.int (21 : Int32))]) rfl ?_
    show Steps p.tables e below (s₁.setTop (mkF m 29 #[.val (.ref a0), .val (.ref a1), .val (.int (21 : Int32))] [])) _
    refine XS.goto X0.here hx rfl (pc0 := 29) (pc' := 9) rfl (hb hby d7_29) (by decide) (by decide) ?_
    show Steps p.tables e below (s₁.setTop (mkF m 9 #[.val (.ref a0), .val (.ref a1), .val (.int (21 : Int32))] [])) _
    refine XS.iloadN X0.here hx rfl (hb hby d7_9) rfl ?_
    show Steps p.tables e below (s₁.setTop (mkF m 10 #[.val (.ref a0), .val (.ref a1), .val (.int (21 : Int32))] [(.int (21 : Int32))])) _
    refine XS.aloadN X0.here hx rfl (hb hby d7_10) rfl rfl ?_
    show Steps p.tables e below (s₁.setTop (mkF m 11 #[.val (.ref a0), .val (.ref a1), .val (.int (21 : Int32))] [(.ref a0), (.int (21 : Int32))])) _
    refine X0.arraylength hx (by rw [e0]; exact Ar764.1) (State.isArrayOf_alike hZ.alike Ar764.2.1) (g := (mkF m 11 #[.val (.ref a0), .val (.ref a1), .val (.int (21 : Int32))] [(.ref a0), (.int (21 : Int32))])) rfl rfl (hb hby d7_11) _ ?_
    rw [len_of S764 N764]
    show Steps p.tables e below (s₁.setTop (mkF m 12 #[.val (.ref a0), .val (.ref a1), .val (.int (21 : Int32))] [(.int (24 : Int32)), (.int (21 : Int32))])) _
    refine XS.icmpNo X0.here hx rfl (hb hby d7_12) rfl (tlt (by decide)).2.1 ?_
    show Steps p.tables e below (s₁.setTop (mkF m 15 #[.val (.ref a0), .val (.ref a1), .val (.int (21 : Int32))] [])) _
    refine XS.aloadN X0.here hx rfl (hb hby d7_15) rfl rfl ?_
    show Steps p.tables e below (s₁.setTop (mkF m 16 #[.val (.ref a0), .val (.ref a1), .val (.int (21 : Int32))] [(.ref a0)])) _
    refine XS.iloadN X0.here hx rfl (hb hby d7_16) rfl ?_
    show Steps p.tables e below (s₁.setTop (mkF m 17 #[.val (.ref a0), .val (.ref a1), .val (.int (21 : Int32))] [(.int (21 : Int32)), (.ref a0)])) _
    refine X0.baloadBytes hx (j := (21 : Int32)) (v := (.int (101 : Int32))) (by rw [e0]; exact Ar765.1) (State.isArrayOf_alike hZ.alike Ar765.2.1) Ar765.2.2 hin765 hat765 (g := (mkF m 17 #[.val (.ref a0), .val (.ref a1), .val (.int (21 : Int32))] [(.int (21 : Int32)), (.ref a0)])) rfl rfl (hb hby d7_17) _ ?_
    show Steps p.tables e below (s₁.setTop (mkF m 18 #[.val (.ref a0), .val (.ref a1), .val (.int (21 : Int32))] [(.int (101 : Int32))])) _
    refine XS.aloadN X0.here hx rfl (hb hby d7_18) rfl rfl ?_
    show Steps p.tables e below (s₁.setTop (mkF m 19 #[.val (.ref a0), .val (.ref a1), .val (.int (21 : Int32))] [(.ref a1), (.int (101 : Int32))])) _
    refine XS.iloadN X0.here hx rfl (hb hby d7_19) rfl ?_
    show Steps p.tables e below (s₁.setTop (mkF m 20 #[.val (.ref a0), .val (.ref a1), .val (.int (21 : Int32))] [(.int (21 : Int32)), (.ref a1), (.int (101 : Int32))])) _
    refine X0.baloadBytes hx (j := (21 : Int32)) (v := (.int (101 : Int32))) (by rw [e0]; exact Ar766.1) (State.isArrayOf_alike hZ.alike Ar766.2.1) Ar766.2.2 hin766 hat766 (g := (mkF m 20 #[.val (.ref a0), .val (.ref a1), .val (.int (21 : Int32))] [(.int (21 : Int32)), (.ref a1), (.int (101 : Int32))])) rfl rfl (hb hby d7_20) _ ?_
    show Steps p.tables e below (s₁.setTop (mkF m 21 #[.val (.ref a0), .val (.ref a1), .val (.int (21 : Int32))] [(.int (101 : Int32)), (.int (101 : Int32))])) _
    refine XS.icmpYes X0.here hx rfl (pc0 := 21) (pc' := 26) rfl (hb hby d7_21) rfl (teq rfl).1 (by decide) (by decide) ?_
    show Steps p.tables e below (s₁.setTop (mkF m 26 #[.val (.ref a0), .val (.ref a1), .val (.int (21 : Int32))] [])) _
    refine XS.iinc X0.here hx rfl (hb hby d7_26) rfl (l' := #[.val (.ref a0), .val (.ref a1), .val (.int (22 : Int32))]) rfl ?_
    show Steps p.tables e below (s₁.setTop (mkF m 29 #[.val (.ref a0), .val (.ref a1), .val (.int (22 : Int32))] [])) _
    refine XS.goto X0.here hx rfl (pc0 := 29) (pc' := 9) rfl (hb hby d7_29) (by decide) (by decide) ?_
    show Steps p.tables e below (s₁.setTop (mkF m 9 #[.val (.ref a0), .val (.ref a1), .val (.int (22 : Int32))] [])) _
    refine XS.iloadN X0.here hx rfl (hb hby d7_9) rfl ?_
    show Steps p.tables e below (s₁.setTop (mkF m 10 #[.val (.ref a0), .val (.ref a1), .val (.int (22 : Int32))] [(.int (22 : Int32))])) _
    refine XS.aloadN X0.here hx rfl (hb hby d7_10) rfl rfl ?_
    show Steps p.tables e below (s₁.setTop (mkF m 11 #[.val (.ref a0), .val (.ref a1), .val (.int (22 : Int32))] [(.ref a0), (.int (22 : Int32))])) _
    refine X0.arraylength hx (by rw [e0]; exact Ar767.1) (State.isArrayOf_alike hZ.alike Ar767.2.1) (g := (mkF m 11 #[.val (.ref a0), .val (.ref a1), .val (.int (22 : Int32))] [(.ref a0), (.int (22 : Int32))])) rfl rfl (hb hby d7_11) _ ?_
    rw [len_of S767 N767]
    show Steps p.tables e below (s₁.setTop (mkF m 12 #[.val (.ref a0), .val (.ref a1), .val (.int (22 : Int32))] [(.int (24 : Int32)), (.int (22 : Int32))])) _
    refine XS.icmpNo X0.here hx rfl (hb hby d7_12) rfl (tlt (by decide)).2.1 ?_
    show Steps p.tables e below (s₁.setTop (mkF m 15 #[.val (.ref a0), .val (.ref a1), .val (.int (22 : Int32))] [])) _
    refine XS.aloadN X0.here hx rfl (hb hby d7_15) rfl rfl ?_
    show Steps p.tables e below (s₁.setTop (mkF m 16 #[.val (.ref a0), .val (.ref a1), .val (.int (22 : Int32))] [(.ref a0)])) _
    refine XS.iloadN X0.here hx rfl (hb hby d7_16) rfl ?_
    show Steps p.tables e below (s₁.setTop (mkF m 17 #[.val (.ref a0), .val (.ref a1), .val (.int (22 : Int32))] [(.int (22 : Int32)), (.ref a0)])) _
    refine X0.baloadBytes hx (j := (22 : Int32)) (v := (.int (97 : Int32))) (by rw [e0]; exact Ar768.1) (State.isArrayOf_alike hZ.alike Ar768.2.1) Ar768.2.2 hin768 hat768 (g := (mkF m 17 #[.val (.ref a0), .val (.ref a1), .val (.int (22 : Int32))] [(.int (22 : Int32)), (.ref a0)])) rfl rfl (hb hby d7_17) _ ?_
    show Steps p.tables e below (s₁.setTop (mkF m 18 #[.val (.ref a0), .val (.ref a1), .val (.int (22 : Int32))] [(.int (97 : Int32))])) _
    refine XS.aloadN X0.here hx rfl (hb hby d7_18) rfl rfl ?_
    show Steps p.tables e below (s₁.setTop (mkF m 19 #[.val (.ref a0), .val (.ref a1), .val (.int (22 : Int32))] [(.ref a1), (.int (97 : Int32))])) _
    refine XS.iloadN X0.here hx rfl (hb hby d7_19) rfl ?_
    show Steps p.tables e below (s₁.setTop (mkF m 20 #[.val (.ref a0), .val (.ref a1), .val (.int (22 : Int32))] [(.int (22 : Int32)), (.ref a1), (.int (97 : Int32))])) _
    refine X0.baloadBytes hx (j := (22 : Int32)) (v := (.int (97 : Int32))) (by rw [e0]; exact Ar769.1) (State.isArrayOf_alike hZ.alike Ar769.2.1) Ar769.2.2 hin769 hat769 (g := (mkF m 20 #[.val (.ref a0), .val (.ref a1), .val (.int (22 : Int32))] [(.int (22 : Int32)), (.ref a1), (.int (97 : Int32))])) rfl rfl (hb hby d7_20) _ ?_
    show Steps p.tables e below (s₁.setTop (mkF m 21 #[.val (.ref a0), .val (.ref a1), .val (.int (22 : Int32))] [(.int (97 : Int32)), (.int (97 : Int32))])) _
    refine XS.icmpYes X0.here hx rfl (pc0 := 21) (pc' := 26) rfl (hb hby d7_21) rfl (teq rfl).1 (by decide) (by decide) ?_
    show Steps p.tables e below (s₁.setTop (mkF m 26 #[.val (.ref a0), .val (.ref a1), .val (.int (22 : Int32))] [])) _
    refine XS.iinc X0.here hx rfl (hb hby d7_26) rfl (l' := #[.val (.ref a0), .val (.ref a1), .val (.int (23 : Int32))]) rfl ?_
    show Steps p.tables e below (s₁.setTop (mkF m 29 #[.val (.ref a0), .val (.ref a1), .val (.int (23 : Int32))] [])) _
    refine XS.goto X0.here hx rfl (pc0 := 29) (pc' := 9) rfl (hb hby d7_29) (by decide) (by decide) ?_
    show Steps p.tables e below (s₁.setTop (mkF m 9 #[.val (.ref a0), .val (.ref a1), .val (.int (23 : Int32))] [])) _
    refine XS.iloadN X0.here hx rfl (hb hby d7_9) rfl ?_
    show Steps p.tables e below (s₁.setTop (mkF m 10 #[.val (.ref a0), .val (.ref a1), .val (.int (23 : Int32))] [(.int (23 : Int32))])) _
    refine XS.aloadN X0.here hx rfl (hb hby d7_10) rfl rfl ?_
    show Steps p.tables e below (s₁.setTop (mkF m 11 #[.val (.ref a0), .val (.ref a1), .val (.int (23 : Int32))] [(.ref a0), (.int (23 : Int32))])) _
    refine X0.arraylength hx (by rw [e0]; exact Ar770.1) (State.isArrayOf_alike hZ.alike Ar770.2.1) (g := (mkF m 11 #[.val (.ref a0), .val (.ref a1), .val (.int (23 : Int32))] [(.ref a0), (.int (23 : Int32))])) rfl rfl (hb hby d7_11) _ ?_
    rw [len_of S770 N770]
    show Steps p.tables e below (s₁.setTop (mkF m 12 #[.val (.ref a0), .val (.ref a1), .val (.int (23 : Int32))] [(.int (24 : Int32)), (.int (23 : Int32))])) _
    refine XS.icmpNo X0.here hx rfl (hb hby d7_12) rfl (tlt (by decide)).2.1 ?_
    show Steps p.tables e below (s₁.setTop (mkF m 15 #[.val (.ref a0), .val (.ref a1), .val (.int (23 : Int32))] [])) _
    refine XS.aloadN X0.here hx rfl (hb hby d7_15) rfl rfl ?_
    show Steps p.tables e below (s₁.setTop (mkF m 16 #[.val (.ref a0), .val (.ref a1), .val (.int (23 : Int32))] [(.ref a0)])) _
    refine XS.iloadN X0.here hx rfl (hb hby d7_16) rfl ?_
    show Steps p.tables e below (s₁.setTop (mkF m 17 #[.val (.ref a0), .val (.ref a1), .val (.int (23 : Int32))] [(.int (23 : Int32)), (.ref a0)])) _
    refine X0.baloadBytes hx (j := (23 : Int32)) (v := (.int (109 : Int32))) (by rw [e0]; exact Ar771.1) (State.isArrayOf_alike hZ.alike Ar771.2.1) Ar771.2.2 hin771 hat771 (g := (mkF m 17 #[.val (.ref a0), .val (.ref a1), .val (.int (23 : Int32))] [(.int (23 : Int32)), (.ref a0)])) rfl rfl (hb hby d7_17) _ ?_
    show Steps p.tables e below (s₁.setTop (mkF m 18 #[.val (.ref a0), .val (.ref a1), .val (.int (23 : Int32))] [(.int (109 : Int32))])) _
    refine XS.aloadN X0.here hx rfl (hb hby d7_18) rfl rfl ?_
    show Steps p.tables e below (s₁.setTop (mkF m 19 #[.val (.ref a0), .val (.ref a1), .val (.int (23 : Int32))] [(.ref a1), (.int (109 : Int32))])) _
    refine XS.iloadN X0.here hx rfl (hb hby d7_19) rfl ?_
    show Steps p.tables e below (s₁.setTop (mkF m 20 #[.val (.ref a0), .val (.ref a1), .val (.int (23 : Int32))] [(.int (23 : Int32)), (.ref a1), (.int (109 : Int32))])) _
    refine X0.baloadBytes hx (j := (23 : Int32)) (v := (.int (109 : Int32))) (by rw [e0]; exact Ar772.1) (State.isArrayOf_alike hZ.alike Ar772.2.1) Ar772.2.2 hin772 hat772 (g := (mkF m 20 #[.val (.ref a0), .val (.ref a1), .val (.int (23 : Int32))] [(.int (23 : Int32)), (.ref a1), (.int (109 : Int32))])) rfl rfl (hb hby d7_20) _ ?_
    show Steps p.tables e below (s₁.setTop (mkF m 21 #[.val (.ref a0), .val (.ref a1), .val (.int (23 : Int32))] [(.int (109 : Int32)), (.int (109 : Int32))])) _
    refine XS.icmpYes X0.here hx rfl (pc0 := 21) (pc' := 26) rfl (hb hby d7_21) rfl (teq rfl).1 (by decide) (by decide) ?_
    show Steps p.tables e below (s₁.setTop (mkF m 26 #[.val (.ref a0), .val (.ref a1), .val (.int (23 : Int32))] [])) _
    refine XS.iinc X0.here hx rfl (hb hby d7_26) rfl (l' := #[.val (.ref a0), .val (.ref a1), .val (.int (24 : Int32))]) rfl ?_
    show Steps p.tables e below (s₁.setTop (mkF m 29 #[.val (.ref a0), .val (.ref a1), .val (.int (24 : Int32))] [])) _
    refine XS.goto X0.here hx rfl (pc0 := 29) (pc' := 9) rfl (hb hby d7_29) (by decide) (by decide) ?_
    show Steps p.tables e below (s₁.setTop (mkF m 9 #[.val (.ref a0), .val (.ref a1), .val (.int (24 : Int32))] [])) _
    refine XS.iloadN X0.here hx rfl (hb hby d7_9) rfl ?_
    show Steps p.tables e below (s₁.setTop (mkF m 10 #[.val (.ref a0), .val (.ref a1), .val (.int (24 : Int32))] [(.int (24 : Int32))])) _
    refine XS.aloadN X0.here hx rfl (hb hby d7_10) rfl rfl ?_
    show Steps p.tables e below (s₁.setTop (mkF m 11 #[.val (.ref a0), .val (.ref a1), .val (.int (24 : Int32))] [(.ref a0), (.int (24 : Int32))])) _
    refine X0.arraylength hx (by rw [e0]; exact Ar773.1) (State.isArrayOf_alike hZ.alike Ar773.2.1) (g := (mkF m 11 #[.val (.ref a0), .val (.ref a1), .val (.int (24 : Int32))] [(.ref a0), (.int (24 : Int32))])) rfl rfl (hb hby d7_11) _ ?_
    rw [len_of S773 N773]
    show Steps p.tables e below (s₁.setTop (mkF m 12 #[.val (.ref a0), .val (.ref a1), .val (.int (24 : Int32))] [(.int (24 : Int32)), (.int (24 : Int32))])) _
    refine XS.icmpYes X0.here hx rfl (pc0 := 12) (pc' := 32) rfl (hb hby d7_12) rfl (flt (by decide)).2.1 (by decide) (by decide) ?_
    show Steps p.tables e below (s₁.setTop (mkF m 32 #[.val (.ref a0), .val (.ref a1), .val (.int (24 : Int32))] [])) _
    refine XS.iconst X0.here hx rfl (hb hby d7_32) ?_
    show Steps p.tables e below (s₁.setTop (mkF m 33 #[.val (.ref a0), .val (.ref a1), .val (.int (24 : Int32))] [(.int (1 : Int32))])) _
    exact retZ X0 hx Bd.returns (by decide) (hb hby d7_33) hr
  ·
    show Q_le_o Z a0 a1 k1 k2 h0 n0 _ s₁.heap _
    rw [e0]
    exact ⟨rfl, N0, rfl⟩
theorem ef_eq_o (m : MethodId) (a0 : Addr) (a1 : Addr) : entryFrame m #[(.ref a0), (.ref a1)] 3 = mkF m 0 #[.val (.ref a0), .val (.ref a1), .unset] [] := by first | (simp [entryFrame, mkF, argsToLocals, Value.category]; done) | rfl
def Q_eq_o (Z : State) (a0 : Addr) (a1 : Addr) (t0 : Addr) (t1 : Addr) (k1 : ClassId) (k2 : ClassId) (zc : Int32) (h0 : Heap) (n0 : Nat) (v : Option Value) (h : Heap) (L : List Loc) : Prop := v = some (.int (1 : Int32)) ∧ Fr n0 L ∧ h = h0
set_option maxRecDepth 65536 in
set_option maxHeartbeats 40000000 in
theorem eq_o (l : Launch) (Z : State) (aw : Array Value) (hw : ∀ d ∈ tables_1, d.before aw Z = true) (ws : List Jvm.Cond) (a0 : Addr) (a1 : Addr) (t0 : Addr) (t1 : Addr) (k1 : ClassId) (k2 : ClassId) (zc : Int32) (h0 : Heap) (n0 : Nat) (Z0 : n0 ≤ h0.size) (E_a1 : Exa Z h0 a1 "java/lang/String") (F_a0_coder : Fld Z h0 a0 "java/lang/String" "coder" "B" (.int (0 : Int32))) (F_a0_value : Fld Z h0 a0 "java/lang/String" "value" "[B" (.ref t0)) (F_a1_coder : Fld Z h0 a1 "java/lang/String" "coder" "B" (.int (0 : Int32))) (F_a1_value : Fld Z h0 a1 "java/lang/String" "value" "[B" (.ref t1)) (V_t0 : Arv Z h0 t0 k1 .byte (24 : Int32) [(.int (97 : Int32)), (.int (112 : Int32)), (.int (112 : Int32)), (.int (108 : Int32)), (.int (105 : Int32)), (.int (99 : Int32)), (.int (97 : Int32)), (.int (116 : Int32)), (.int (105 : Int32)), (.int (111 : Int32)), (.int (110 : Int32)), (.int (47 : Int32)), (.int (111 : Int32)), (.int (99 : Int32)), (.int (116 : Int32)), (.int (101 : Int32)), (.int (116 : Int32)), (.int (45 : Int32)), (.int (115 : Int32)), (.int (116 : Int32)), (.int (114 : Int32)), (.int (101 : Int32)), (.int (97 : Int32)), (.int (109 : Int32))] (.int (0 : Int32))) (V_t1 : Arv Z h0 t1 k2 .byte (24 : Int32) [(.int (97 : Int32)), (.int (112 : Int32)), (.int (112 : Int32)), (.int (108 : Int32)), (.int (105 : Int32)), (.int (99 : Int32)), (.int (97 : Int32)), (.int (116 : Int32)), (.int (105 : Int32)), (.int (111 : Int32)), (.int (110 : Int32)), (.int (47 : Int32)), (.int (111 : Int32)), (.int (99 : Int32)), (.int (116 : Int32)), (.int (101 : Int32)), (.int (116 : Int32)), (.int (45 : Int32)), (.int (115 : Int32)), (.int (116 : Int32)), (.int (114 : Int32)), (.int (101 : Int32)), (.int (97 : Int32)), (.int (109 : Int32))] (.int (0 : Int32))) (OLD : Old Z n0 h0) (O_COMPACT_STRINGS : Sta Z Z.heap "java/lang/String" "COMPACT_STRINGS" "Z" (.int zc)) (hzc : ¬ (zc = (0 : Int32))) :
    MetFree l (⟨"java/lang/String", "equals", "(Ljava/lang/Object;)Z"⟩ : MethodName) (head1 (Jvm.Cond.code (⟨"java/lang/String", "equals", "(Ljava/lang/Object;)Z"⟩ : MethodName) jdk_42_method_66_code 3 (some .boolean) :: ws) ({ frames := 1, cells := 0, slots := 0, locals := 14 } : Room)) (fun a U => a = #[(.ref a0), (.ref a1)] ∧ Z.Warmed39 U.vm ∧ U.heap = h0) (fun _ _ _ _ _ => True) (fun _ U o U' => ∃ v L, o = .returned v ∧ Q_eq_o Z a0 a1 t0 t1 k1 k2 zc h0 n0 v U'.heap L ∧ FrameEnd U o U' L ({ frames := 1, cells := 0, slots := 0, locals := 14 } : Room).cells ({ frames := 1, cells := 0, slots := 0, locals := 14 } : Room).slots) := by
  refine MetFree.of_bodySF (plainFor_of_name pn_1) hisR ?_
  intro p e s m args below meth c s₁ Bd hml0 hP hK
  obtain ⟨rfl, hZ, hh⟩ := hP
  have hx := Bd.exec
  have hby := Bd.bytes
  have hml : c.maxLocals = 3 := hml0
  have hown : s.vm.findClass "java/lang/String" = some m.cls := findClass_of_methodNamed Bd.named
  have hnm := (name_of_methodNamed Bd.named Bd.method).1
  have X0 : Stand p l e ({ frames := 1, cells := 0, slots := 0, locals := 14 } : Room) s m #[(.ref a0), (.ref a1)] below meth c s₁ [] 0 0 := Stand.of_body Bd
  have e0 : s₁.heap = h0 := by rw [← hh, Bd.state]; rfl
  have N0 := Fr.nil n0
  have pre0 : ∀ t, Steps p.tables e below (s₁.setTop (mkF m 0 #[.val (.ref a0), .val (.ref a1), .unset] [])) t → Steps p.tables e below (s₁.setTop (entryFrame m #[(.ref a0), (.ref a1)] 3)) t := fun t k => castTop (ef_eq_o m a0 a1) k
  have pre775 : ∀ t, Steps p.tables e below (s₁.setTop (mkF m 2 #[.val (.ref a0), .val (.ref a1), .unset] [(.ref a1), (.ref a0)])) t → Steps p.tables e below (s₁.setTop (entryFrame m #[(.ref a0), (.ref a1)] 3)) t := fun t k => by
    refine pre0 t ?_
    show Steps p.tables e below (s₁.setTop (mkF m 0 #[.val (.ref a0), .val (.ref a1), .unset] [])) _
    refine XS.aloadN X0.here hx rfl (hb hby d6_0) rfl rfl ?_
    show Steps p.tables e below (s₁.setTop (mkF m 1 #[.val (.ref a0), .val (.ref a1), .unset] [(.ref a0)])) _
    refine XS.aloadN X0.here hx rfl (hb hby d6_1) rfl rfl ?_
    exact k
  by_cases c774 : a0 = a1
  ·
    obtain ⟨fs, hr, hrun, hended, hW, hsame⟩ := X0.leave (v := some (.int (1 : Int32))) (fun h => by rw [Bd.returns] at h; cases h)
    refine ⟨_, _, pre775 _ ?_, hrun, hended, _, _, rfl, ?_, ⟨_, rfl⟩, hW, hsame.mono (by decide) (by decide)⟩
    ·
      show Steps p.tables e below (s₁.setTop (mkF m 2 #[.val (.ref a0), .val (.ref a1), .unset] [(.ref a1), (.ref a0)])) _
      refine Jvm.RoadKit.acmp (g := (mkF m 2 #[.val (.ref a0), .val (.ref a1), .unset] [(.ref a1), (.ref a0)])) X0 hx rfl rfl rfl (pc0 := 2) (pc' := 5) (same := true) rfl (hb hby d6_2) rfl (decide_eq_true (congrArg Value.ref c774)) (by decide) (by decide) ?_
      show Steps p.tables e below (s₁.setTop (mkF m 5 #[.val (.ref a0), .val (.ref a1), .unset] [])) _
      refine XS.iconst X0.here hx rfl (hb hby d6_5) ?_
      show Steps p.tables e below (s₁.setTop (mkF m 6 #[.val (.ref a0), .val (.ref a1), .unset] [(.int (1 : Int32))])) _
      exact retZ X0 hx Bd.returns (by decide) (hb hby d6_6) hr
    ·
      show Q_eq_o Z a0 a1 t0 t1 k1 k2 zc h0 n0 _ s₁.heap _
      rw [e0]
      exact ⟨rfl, N0, rfl⟩
  ·
    obtain ⟨T776, X776, e776, st776⟩ := instY X0 hx hZ hown (hw _ (List.mem_of_getElem? (i := 36) rfl)) e0 (Ins.self E_a1) (g := (mkF m 8 #[.val (.ref a0), .val (.ref a1), .unset] [(.ref a1)])) rfl rfl (hb hby d6_8)
    obtain ⟨T777, X777, e777, st777⟩ := castY X776 hx hZ hown (hw _ (List.mem_of_getElem? (i := 36) rfl)) e776 (Ins.self E_a1) (g := (mkF m 15 #[.val (.ref a0), .val (.ref a1), .unset] [(.ref a1)])) rfl rfl (hb hby d6_15)
    obtain ⟨T778, X778, e778, st778⟩ := getS2 X777 hx hZ hown (host := "") (Or.inl (hw _ (List.mem_of_getElem? (i := 37) rfl))) Via.refl e777 (Sta.ext OLD.2 O_COMPACT_STRINGS) (g := (mkF m 19 #[.val (.ref a0), .val (.ref a1), .val (.ref a1)] [])) rfl (hb hby d6_19)
    have c779 : ¬ (zc = (0 : Int32)) := by
      exact hzc
    obtain ⟨T780, X780, e780, st780⟩ := getF X778 hx hZ hown (host := "") (Or.inl (hw _ (List.mem_of_getElem? (i := 25) rfl))) Via.refl e778 F_a0_coder (g := (mkF m 26 #[.val (.ref a0), .val (.ref a1), .val (.ref a1)] [(.ref a0)])) rfl rfl (hb hby d6_26)
    obtain ⟨T781, X781, e781, st781⟩ := getF X780 hx hZ hown (host := "") (Or.inl (hw _ (List.mem_of_getElem? (i := 25) rfl))) Via.refl e780 F_a1_coder (g := (mkF m 30 #[.val (.ref a0), .val (.ref a1), .val (.ref a1)] [(.ref a1), (.int (0 : Int32))])) rfl rfl (hb hby d6_30)
    obtain ⟨T782, X782, e782, st782⟩ := getF X781 hx hZ hown (host := "") (Or.inl (hw _ (List.mem_of_getElem? (i := 24) rfl))) Via.refl e781 F_a0_value (g := (mkF m 37 #[.val (.ref a0), .val (.ref a1), .val (.ref a1)] [(.ref a0)])) rfl rfl (hb hby d6_37)
    obtain ⟨T783, X783, e783, st783⟩ := getF X782 hx hZ hown (host := "") (Or.inl (hw _ (List.mem_of_getElem? (i := 24) rfl))) Via.refl e782 F_a1_value (g := (mkF m 41 #[.val (.ref a0), .val (.ref a1), .val (.ref a1)] [(.ref a1), (.ref t0)])) rfl rfl (hb hby d6_41)
    obtain ⟨_, _, ⟨T784, L784, k784, n784⟩, -, X784, ⟨Lc784, hQ784, l784, y784, z784⟩, st784⟩ := Jvm.LawKit.callS X783 hx (y := (⟨"java/lang/StringLatin1", "equals", "([B[B)Z"⟩ : MethodName)) hown (mvT hZ (hw _ (List.mem_of_getElem? (i := 38) rfl))) (mvT hZ (hw _ (List.mem_of_getElem? (i := 39) rfl))) (mvT hZ (hw _ (List.mem_of_getElem? (i := 40) rfl))) (mvT hZ (hw _ (List.mem_of_getElem? (i := 41) rfl))) (by decide) (backOf (W := 0) (le_o l Z aw hw [] t0 t1 k1 k2 h0 n0 Z0 V_t0 V_t1) hZ (hw _ (List.mem_of_getElem? (i := 41) rfl)) (hw _ (List.mem_of_getElem? (i := 40) rfl)) (by decide) (by decide)) (g := (mkF m 44 #[.val (.ref a0), .val (.ref a1), .val (.ref a1)] [(.ref t1), (.ref t0)])) rfl (by rw [hml]; rfl) (argsL := [(.ref t0), (.ref t1)]) (rest := []) (lenOf pd_5 rfl) rfl (by show 2 * 0 + _ ≤ _; exact Nat.le_of_eq rfl) (hb hby d6_44) (fun _ _ => ⟨rfl, e783, (by decide : 0 + 0 ≤ _), (by decide : 0 + 0 ≤ _)⟩)
    dsimp only [Pt.U, Pt.locs, Pt.cells, Pt.slots] at X784 l784 y784 z784 st784 hQ784
    replace l784 := l784.symm; replace y784 := y784.symm; replace z784 := z784.symm; subst l784 y784 z784
    obtain ⟨rfl, N784q, e784⟩ := hQ784
    have N784 := Fr.app N0 N784q
    obtain ⟨fs, hr, hrun, hended, hW, hsame⟩ := X784.leave (v := some (.int (1 : Int32))) (fun h => by rw [Bd.returns] at h; cases h)
    refine ⟨_, _, pre775 _ ?_, hrun, hended, _, _, rfl, ?_, ⟨_, rfl⟩, hW, hsame.mono (by decide) (by decide)⟩
    ·
      show Steps p.tables e below (s₁.setTop (mkF m 2 #[.val (.ref a0), .val (.ref a1), .unset] [(.ref a1), (.ref a0)])) _
      refine Jvm.RoadKit.acmp (g := (mkF m 2 #[.val (.ref a0), .val (.ref a1), .unset] [(.ref a1), (.ref a0)])) X0 hx rfl rfl rfl (pc0 := 2) (pc' := 7) (same := false) rfl (hb hby d6_2) rfl (decide_eq_false fun q => c774 (Value.ref.inj q)) (by decide) (by decide) ?_
      show Steps p.tables e below (s₁.setTop (mkF m 7 #[.val (.ref a0), .val (.ref a1), .unset] [])) _
      refine XS.aloadN X0.here hx rfl (hb hby d6_7) rfl rfl ?_
      show Steps p.tables e below (s₁.setTop (mkF m 8 #[.val (.ref a0), .val (.ref a1), .unset] [(.ref a1)])) _
      refine st776 _ ?_
      show Steps p.tables e below (T776.setTop (mkF m 11 #[.val (.ref a0), .val (.ref a1), .unset] [(.int (1 : Int32))])) _
      refine XS.ifNo X776.here hx rfl (hb hby d6_11) rfl ((if0 _ _).trans (feq (by decide)).1) ?_
      show Steps p.tables e below (T776.setTop (mkF m 14 #[.val (.ref a0), .val (.ref a1), .unset] [])) _
      refine XS.aloadN X776.here hx rfl (hb hby d6_14) rfl rfl ?_
      show Steps p.tables e below (T776.setTop (mkF m 15 #[.val (.ref a0), .val (.ref a1), .unset] [(.ref a1)])) _
      refine st777 _ ?_
      show Steps p.tables e below (T777.setTop (mkF m 18 #[.val (.ref a0), .val (.ref a1), .unset] [(.ref a1)])) _
      refine XS.astoreN X777.here hx rfl (hb hby d6_18) rfl rfl (l' := #[.val (.ref a0), .val (.ref a1), .val (.ref a1)]) rfl ?_
      show Steps p.tables e below (T777.setTop (mkF m 19 #[.val (.ref a0), .val (.ref a1), .val (.ref a1)] [])) _
      refine st778 _ ?_
      show Steps p.tables e below (T778.setTop (mkF m 22 #[.val (.ref a0), .val (.ref a1), .val (.ref a1)] [(.int zc)])) _
      refine XS.ifNo X778.here hx rfl (hb hby d6_22) rfl ((if0 _ _).trans (feq c779).1) ?_
      show Steps p.tables e below (T778.setTop (mkF m 25 #[.val (.ref a0), .val (.ref a1), .val (.ref a1)] [])) _
      refine XS.aloadN X778.here hx rfl (hb hby d6_25) rfl rfl ?_
      show Steps p.tables e below (T778.setTop (mkF m 26 #[.val (.ref a0), .val (.ref a1), .val (.ref a1)] [(.ref a0)])) _
      refine st780 _ ?_
      show Steps p.tables e below (T780.setTop (mkF m 29 #[.val (.ref a0), .val (.ref a1), .val (.ref a1)] [(.int (0 : Int32))])) _
      refine XS.aloadN X780.here hx rfl (hb hby d6_29) rfl rfl ?_
      show Steps p.tables e below (T780.setTop (mkF m 30 #[.val (.ref a0), .val (.ref a1), .val (.ref a1)] [(.ref a1), (.int (0 : Int32))])) _
      refine st781 _ ?_
      show Steps p.tables e below (T781.setTop (mkF m 33 #[.val (.ref a0), .val (.ref a1), .val (.ref a1)] [(.int (0 : Int32)), (.int (0 : Int32))])) _
      refine XS.icmpNo X781.here hx rfl (hb hby d6_33) rfl (teq rfl).2 ?_
      show Steps p.tables e below (T781.setTop (mkF m 36 #[.val (.ref a0), .val (.ref a1), .val (.ref a1)] [])) _
      refine XS.aloadN X781.here hx rfl (hb hby d6_36) rfl rfl ?_
      show Steps p.tables e below (T781.setTop (mkF m 37 #[.val (.ref a0), .val (.ref a1), .val (.ref a1)] [(.ref a0)])) _
      refine st782 _ ?_
      show Steps p.tables e below (T782.setTop (mkF m 40 #[.val (.ref a0), .val (.ref a1), .val (.ref a1)] [(.ref t0)])) _
      refine XS.aloadN X782.here hx rfl (hb hby d6_40) rfl rfl ?_
      show Steps p.tables e below (T782.setTop (mkF m 41 #[.val (.ref a0), .val (.ref a1), .val (.ref a1)] [(.ref a1), (.ref t0)])) _
      refine st783 _ ?_
      show Steps p.tables e below (T783.setTop (mkF m 44 #[.val (.ref a0), .val (.ref a1), .val (.ref a1)] [(.ref t1), (.ref t0)])) _
      refine st784 _ ?_
      show Steps p.tables e below (T784.setTop (mkF m 47 #[.val (.ref a0), .val (.ref a1), .val (.ref a1)] [(.int (1 : Int32))])) _
      refine XS.ifNo X784.here hx rfl (hb hby d6_47) rfl ((if0 _ _).trans (feq (by decide)).1) ?_
      show Steps p.tables e below (T784.setTop (mkF m 50 #[.val (.ref a0), .val (.ref a1), .val (.ref a1)] [])) _
      refine XS.iconst X784.here hx rfl (hb hby d6_50) ?_
      show Steps p.tables e below (T784.setTop (mkF m 51 #[.val (.ref a0), .val (.ref a1), .val (.ref a1)] [(.int (1 : Int32))])) _
      refine XS.goto X784.here hx rfl (pc0 := 51) (pc' := 55) rfl (hb hby d6_51) (by decide) (by decide) ?_
      show Steps p.tables e below (T784.setTop (mkF m 55 #[.val (.ref a0), .val (.ref a1), .val (.ref a1)] [(.int (1 : Int32))])) _
      exact retZ X784 hx Bd.returns (by decide) (hb hby d6_55) hr
    ·
      show Q_eq_o Z a0 a1 t0 t1 k1 k2 zc h0 n0 _ T784.heap _
      rw [e784]
      exact ⟨rfl, N784, rfl⟩
theorem d9_0 : decode jdk_42_method_152_code 0 = .ok (.getstatic 38, 3) := by decide +kernel
theorem d9_3 : decode jdk_42_method_152_code 3 = .ok (.ifCond .eq 10, 3) := by decide +kernel
theorem d9_6 : decode jdk_42_method_152_code 6 = .ok (.aload_n 0, 1) := by decide +kernel
theorem d9_7 : decode jdk_42_method_152_code 7 = .ok (.getfield 15, 3) := by decide +kernel
theorem d9_10 : decode jdk_42_method_152_code 10 = .ok (.goto 4, 3) := by decide +kernel
theorem d9_14 : decode jdk_42_method_152_code 14 = .ok (.ireturn, 1) := by decide +kernel
theorem ef_rm9 (m : MethodId) (a0 : Addr) : entryFrame m #[(.ref a0)] 1 = mkF m 0 #[.val (.ref a0)] [] := by first | (simp [entryFrame, mkF, argsToLocals, Value.category]; done) | rfl
def Q_rm9 (Z : State) (a0 : Addr) (zc : Int32) (h0 : Heap) (n0 : Nat) (v : Option Value) (h : Heap) (L : List Loc) : Prop := v = some (.int (0 : Int32)) ∧ Fr n0 L ∧ h = h0
set_option maxRecDepth 65536 in
set_option maxHeartbeats 40000000 in
theorem rm9 (l : Launch) (Z : State) (aw : Array Value) (hw : ∀ d ∈ tables_1, d.before aw Z = true) (ws : List Jvm.Cond) (a0 : Addr) (zc : Int32) (h0 : Heap) (n0 : Nat) (Z0 : n0 ≤ h0.size) (F_a0_coder : Fld Z h0 a0 "java/lang/String" "coder" "B" (.int (0 : Int32))) (OLD : Old Z n0 h0) (O_COMPACT_STRINGS : Sta Z Z.heap "java/lang/String" "COMPACT_STRINGS" "Z" (.int zc)) (hzc : ¬ (zc = (0 : Int32))) :
    MetFree l (⟨"java/lang/String", "coder", "()B"⟩ : MethodName) (head1 (Jvm.Cond.code (⟨"java/lang/String", "coder", "()B"⟩ : MethodName) jdk_42_method_152_code 1 (some .byte) :: ws) ({ frames := 0, cells := 0, slots := 0, locals := 0 } : Room)) (fun a U => a = #[(.ref a0)] ∧ Z.Warmed39 U.vm ∧ U.heap = h0) (fun _ _ _ _ _ => True) (fun _ U o U' => ∃ v L, o = .returned v ∧ Q_rm9 Z a0 zc h0 n0 v U'.heap L ∧ FrameEnd U o U' L ({ frames := 0, cells := 0, slots := 0, locals := 0 } : Room).cells ({ frames := 0, cells := 0, slots := 0, locals := 0 } : Room).slots) := by
  refine MetFree.of_bodySF (plainFor_of_name pn_1) hisR ?_
  intro p e s m args below meth c s₁ Bd hml0 hP hK
  obtain ⟨rfl, hZ, hh⟩ := hP
  have hx := Bd.exec
  have hby := Bd.bytes
  have hml : c.maxLocals = 1 := hml0
  have hown : s.vm.findClass "java/lang/String" = some m.cls := findClass_of_methodNamed Bd.named
  have hnm := (name_of_methodNamed Bd.named Bd.method).1
  have X0 : Stand p l e ({ frames := 0, cells := 0, slots := 0, locals := 0 } : Room) s m #[(.ref a0)] below meth c s₁ [] 0 0 := Stand.of_body Bd
  have e0 : s₁.heap = h0 := by rw [← hh, Bd.state]; rfl
  have N0 := Fr.nil n0
  have pre0 : ∀ t, Steps p.tables e below (s₁.setTop (mkF m 0 #[.val (.ref a0)] [])) t → Steps p.tables e below (s₁.setTop (entryFrame m #[(.ref a0)] 1)) t := fun t k => castTop (ef_rm9 m a0) k
  obtain ⟨T785, X785, e785, st785⟩ := getS2 X0 hx hZ hown (host := "") (Or.inl (hw _ (List.mem_of_getElem? (i := 37) rfl))) Via.refl e0 (Sta.ext OLD.2 O_COMPACT_STRINGS) (g := (mkF m 0 #[.val (.ref a0)] [])) rfl (hb hby d9_0)
  have c786 : ¬ (zc = (0 : Int32)) := by
    exact hzc
  obtain ⟨T787, X787, e787, st787⟩ := getF X785 hx hZ hown (host := "") (Or.inl (hw _ (List.mem_of_getElem? (i := 25) rfl))) Via.refl e785 F_a0_coder (g := (mkF m 7 #[.val (.ref a0)] [(.ref a0)])) rfl rfl (hb hby d9_7)
  obtain ⟨fs, hr, hrun, hended, hW, hsame⟩ := X787.leave (v := some (.int (0 : Int32))) (fun h => by rw [Bd.returns] at h; cases h)
  refine ⟨_, _, pre0 _ ?_, hrun, hended, _, _, rfl, ?_, ⟨_, rfl⟩, hW, hsame.mono (by decide) (by decide)⟩
  ·
    show Steps p.tables e below (s₁.setTop (mkF m 0 #[.val (.ref a0)] [])) _
    refine st785 _ ?_
    show Steps p.tables e below (T785.setTop (mkF m 3 #[.val (.ref a0)] [(.int zc)])) _
    refine XS.ifNo X785.here hx rfl (hb hby d9_3) rfl ((if0 _ _).trans (feq c786).1) ?_
    show Steps p.tables e below (T785.setTop (mkF m 6 #[.val (.ref a0)] [])) _
    refine XS.aloadN X785.here hx rfl (hb hby d9_6) rfl rfl ?_
    show Steps p.tables e below (T785.setTop (mkF m 7 #[.val (.ref a0)] [(.ref a0)])) _
    refine st787 _ ?_
    show Steps p.tables e below (T787.setTop (mkF m 10 #[.val (.ref a0)] [(.int (0 : Int32))])) _
    refine XS.goto X787.here hx rfl (pc0 := 10) (pc' := 14) rfl (hb hby d9_10) (by decide) (by decide) ?_
    show Steps p.tables e below (T787.setTop (mkF m 14 #[.val (.ref a0)] [(.int (0 : Int32))])) _
    exact retN X787 hx (t := .byte) Bd.returns (by simp) (hb hby d9_14) hr
  ·
    show Q_rm9 Z a0 zc h0 n0 _ T787.heap _
    rw [e787]
    exact ⟨rfl, N0, rfl⟩
theorem d8_0 : decode jdk_42_method_54_code 0 = .ok (.aload_n 0, 1) := by decide +kernel
theorem d8_1 : decode jdk_42_method_54_code 1 = .ok (.getfield 9, 3) := by decide +kernel
theorem d8_4 : decode jdk_42_method_54_code 4 = .ok (.arraylength, 1) := by decide +kernel
theorem d8_5 : decode jdk_42_method_54_code 5 = .ok (.aload_n 0, 1) := by decide +kernel
theorem pd_6 : parseMethodDescriptor "()B" = some ⟨[], some .byte⟩ := by decide +kernel
theorem d8_6 : decode jdk_42_method_54_code 6 = .ok (.invokevirtual 335, 3) := by decide +kernel
theorem d8_9 : decode jdk_42_method_54_code 9 = .ok (.ishr, 1) := by decide +kernel
theorem d8_10 : decode jdk_42_method_54_code 10 = .ok (.ireturn, 1) := by decide +kernel
theorem ef_len_0 (m : MethodId) (a0 : Addr) : entryFrame m #[(.ref a0)] 1 = mkF m 0 #[.val (.ref a0)] [] := by first | (simp [entryFrame, mkF, argsToLocals, Value.category]; done) | rfl
def Q_len_0 (Z : State) (a0 : Addr) (t : Addr) (k1 : ClassId) (zc : Int32) (h0 : Heap) (n0 : Nat) (v : Option Value) (h : Heap) (L : List Loc) : Prop := v = some (.int (0 : Int32)) ∧ Fr n0 L ∧ h = h0
set_option maxRecDepth 65536 in
set_option maxHeartbeats 40000000 in
theorem len_0 (l : Launch) (Z : State) (aw : Array Value) (hw : ∀ d ∈ tables_1, d.before aw Z = true) (ws : List Jvm.Cond) (a0 : Addr) (t : Addr) (k1 : ClassId) (zc : Int32) (h0 : Heap) (n0 : Nat) (Z0 : n0 ≤ h0.size) (E_a0 : Exa Z h0 a0 "java/lang/String") (F_a0_coder : Fld Z h0 a0 "java/lang/String" "coder" "B" (.int (0 : Int32))) (F_a0_value : Fld Z h0 a0 "java/lang/String" "value" "[B" (.ref t)) (V_t : Arv Z h0 t k1 .byte (0 : Int32) [] (.int (0 : Int32))) (OLD : Old Z n0 h0) (O_COMPACT_STRINGS : Sta Z Z.heap "java/lang/String" "COMPACT_STRINGS" "Z" (.int zc)) (hzc : ¬ (zc = (0 : Int32))) :
    MetFree l (⟨"java/lang/String", "length", "()I"⟩ : MethodName) (head1 (Jvm.Cond.code (⟨"java/lang/String", "length", "()I"⟩ : MethodName) jdk_42_method_54_code 1 (some .int) :: ws) ({ frames := 1, cells := 0, slots := 0, locals := 13 } : Room)) (fun a U => a = #[(.ref a0)] ∧ Z.Warmed39 U.vm ∧ U.heap = h0) (fun _ _ _ _ _ => True) (fun _ U o U' => ∃ v L, o = .returned v ∧ Q_len_0 Z a0 t k1 zc h0 n0 v U'.heap L ∧ FrameEnd U o U' L ({ frames := 1, cells := 0, slots := 0, locals := 13 } : Room).cells ({ frames := 1, cells := 0, slots := 0, locals := 13 } : Room).slots) := by
  refine MetFree.of_bodySF (plainFor_of_name pn_1) hisR ?_
  intro p e s m args below meth c s₁ Bd hml0 hP hK
  obtain ⟨rfl, hZ, hh⟩ := hP
  have hx := Bd.exec
  have hby := Bd.bytes
  have hml : c.maxLocals = 1 := hml0
  have hown : s.vm.findClass "java/lang/String" = some m.cls := findClass_of_methodNamed Bd.named
  have hnm := (name_of_methodNamed Bd.named Bd.method).1
  have X0 : Stand p l e ({ frames := 1, cells := 0, slots := 0, locals := 13 } : Room) s m #[(.ref a0)] below meth c s₁ [] 0 0 := Stand.of_body Bd
  have e0 : s₁.heap = h0 := by rw [← hh, Bd.state]; rfl
  have N0 := Fr.nil n0
  have pre0 : ∀ t, Steps p.tables e below (s₁.setTop (mkF m 0 #[.val (.ref a0)] [])) t → Steps p.tables e below (s₁.setTop (entryFrame m #[(.ref a0)] 1)) t := fun t k => castTop (ef_len_0 m a0) k
  obtain ⟨T788, X788, e788, st788⟩ := getF X0 hx hZ hown (host := "") (Or.inl (hw _ (List.mem_of_getElem? (i := 24) rfl))) Via.refl e0 F_a0_value (g := (mkF m 1 #[.val (.ref a0)] [(.ref a0)])) rfl rfl (hb hby d8_1)
  obtain ⟨cl789, Ar789, q789, S789, N789, H789, G789⟩ := id V_t
  obtain ⟨cq790, kq790, q790a, q790b, q790c⟩ := isOf hZ e788 E_a0
  obtain ⟨_, _, ⟨T790, L790, k790, n790⟩, -, X790, ⟨Lc790, hQ790, l790, y790, z790⟩, st790⟩ := X788.virtualBack hx (y := (⟨"java/lang/String", "coder", "()B"⟩ : MethodName)) (z := (⟨"java/lang/String", "coder", "()B"⟩ : MethodName)) hown (mvT hZ (hw _ (List.mem_of_getElem? (i := 48) rfl))) (mvT hZ (hw _ (List.mem_of_getElem? (i := 49) rfl))) (notFace_of_selects (args := #[]) (mvT hZ (hw _ (List.mem_of_getElem? (i := 51) rfl)))) (mvT hZ (hw _ (List.mem_of_getElem? (i := 51) rfl))) (mvT hZ (hw _ (List.mem_of_getElem? (i := 50) rfl))) (by decide) (backOf (W := 1) (rm9 l Z aw hw [] a0 zc h0 n0 Z0 F_a0_coder OLD O_COMPACT_STRINGS hzc) hZ (hw _ (List.mem_of_getElem? (i := 52) rfl)) (hw _ (List.mem_of_getElem? (i := 6) rfl)) (by decide) (by decide)) q790a q790c (g := (mkF m 6 #[.val (.ref a0)] [(.ref a0), (.int (0 : Int32))])) rfl (by rw [hml]; rfl) (Steps.refl _) (argsL := []) (rest := [(.int (0 : Int32))]) (lenOf pd_6 rfl) rfl (by show 2 * 0 + _ ≤ _; exact Nat.le_of_eq rfl) (hb hby d8_6) (fun _ _ => ⟨rfl, e788, (by decide : 0 + 0 ≤ _), (by decide : 0 + 0 ≤ _)⟩)
  dsimp only [Pt.U, Pt.locs, Pt.cells, Pt.slots] at X790 l790 y790 z790 st790 hQ790
  replace l790 := l790.symm; replace y790 := y790.symm; replace z790 := z790.symm; subst l790 y790 z790
  obtain ⟨rfl, N790q, e790⟩ := hQ790
  have N790 := Fr.app N0 N790q
  obtain ⟨fs, hr, hrun, hended, hW, hsame⟩ := X790.leave (v := some (.int (0 : Int32))) (fun h => by rw [Bd.returns] at h; cases h)
  refine ⟨_, _, pre0 _ ?_, hrun, hended, _, _, rfl, ?_, ⟨_, rfl⟩, hW, hsame.mono (by decide) (by decide)⟩
  ·
    show Steps p.tables e below (s₁.setTop (mkF m 0 #[.val (.ref a0)] [])) _
    refine XS.aloadN X0.here hx rfl (hb hby d8_0) rfl rfl ?_
    show Steps p.tables e below (s₁.setTop (mkF m 1 #[.val (.ref a0)] [(.ref a0)])) _
    refine st788 _ ?_
    show Steps p.tables e below (T788.setTop (mkF m 4 #[.val (.ref a0)] [(.ref t)])) _
    refine X788.arraylength hx (by rw [e788]; exact Ar789.1) (State.isArrayOf_alike hZ.alike Ar789.2.1) (g := (mkF m 4 #[.val (.ref a0)] [(.ref t)])) rfl rfl (hb hby d8_4) _ ?_
    rw [len_of S789 N789]
    show Steps p.tables e below (T788.setTop (mkF m 5 #[.val (.ref a0)] [(.int (0 : Int32))])) _
    refine XS.aloadN X788.here hx rfl (hb hby d8_5) rfl rfl ?_
    show Steps p.tables e below (T788.setTop (mkF m 6 #[.val (.ref a0)] [(.ref a0), (.int (0 : Int32))])) _
    refine st790.trans ?_
    show Steps p.tables e below (T790.setTop (mkF m 9 #[.val (.ref a0)] [(.int (0 : Int32)), (.int (0 : Int32))])) _
    refine XS.ishr X790.here hx rfl (hb hby d8_9) rfl ?_
    show Steps p.tables e below (T790.setTop (mkF m 10 #[.val (.ref a0)] [(.int (0 : Int32))])) _
    exact retI X790 hx Bd.returns (hb hby d8_10) hr
  ·
    show Q_len_0 Z a0 t k1 zc h0 n0 _ T790.heap _
    rw [e790]
    exact ⟨rfl, N790, rfl⟩
theorem ef_len_1 (m : MethodId) (a0 : Addr) : entryFrame m #[(.ref a0)] 1 = mkF m 0 #[.val (.ref a0)] [] := by first | (simp [entryFrame, mkF, argsToLocals, Value.category]; done) | rfl
def Q_len_1 (Z : State) (a0 : Addr) (t : Addr) (k1 : ClassId) (w0 : Int32) (zc : Int32) (h0 : Heap) (n0 : Nat) (v : Option Value) (h : Heap) (L : List Loc) : Prop := v = some (.int (1 : Int32)) ∧ Fr n0 L ∧ h = h0
set_option maxRecDepth 65536 in
set_option maxHeartbeats 40000000 in
theorem len_1 (l : Launch) (Z : State) (aw : Array Value) (hw : ∀ d ∈ tables_1, d.before aw Z = true) (ws : List Jvm.Cond) (a0 : Addr) (t : Addr) (k1 : ClassId) (w0 : Int32) (zc : Int32) (h0 : Heap) (n0 : Nat) (Z0 : n0 ≤ h0.size) (E_a0 : Exa Z h0 a0 "java/lang/String") (F_a0_coder : Fld Z h0 a0 "java/lang/String" "coder" "B" (.int (0 : Int32))) (F_a0_value : Fld Z h0 a0 "java/lang/String" "value" "[B" (.ref t)) (V_t : Arv Z h0 t k1 .byte (1 : Int32) [(.int w0)] (.int (0 : Int32))) (OLD : Old Z n0 h0) (O_COMPACT_STRINGS : Sta Z Z.heap "java/lang/String" "COMPACT_STRINGS" "Z" (.int zc)) (hzc : ¬ (zc = (0 : Int32))) :
    MetFree l (⟨"java/lang/String", "length", "()I"⟩ : MethodName) (head1 (Jvm.Cond.code (⟨"java/lang/String", "length", "()I"⟩ : MethodName) jdk_42_method_54_code 1 (some .int) :: ws) ({ frames := 1, cells := 0, slots := 0, locals := 13 } : Room)) (fun a U => a = #[(.ref a0)] ∧ Z.Warmed39 U.vm ∧ U.heap = h0) (fun _ _ _ _ _ => True) (fun _ U o U' => ∃ v L, o = .returned v ∧ Q_len_1 Z a0 t k1 w0 zc h0 n0 v U'.heap L ∧ FrameEnd U o U' L ({ frames := 1, cells := 0, slots := 0, locals := 13 } : Room).cells ({ frames := 1, cells := 0, slots := 0, locals := 13 } : Room).slots) := by
  refine MetFree.of_bodySF (plainFor_of_name pn_1) hisR ?_
  intro p e s m args below meth c s₁ Bd hml0 hP hK
  obtain ⟨rfl, hZ, hh⟩ := hP
  have hx := Bd.exec
  have hby := Bd.bytes
  have hml : c.maxLocals = 1 := hml0
  have hown : s.vm.findClass "java/lang/String" = some m.cls := findClass_of_methodNamed Bd.named
  have hnm := (name_of_methodNamed Bd.named Bd.method).1
  have X0 : Stand p l e ({ frames := 1, cells := 0, slots := 0, locals := 13 } : Room) s m #[(.ref a0)] below meth c s₁ [] 0 0 := Stand.of_body Bd
  have e0 : s₁.heap = h0 := by rw [← hh, Bd.state]; rfl
  have N0 := Fr.nil n0
  have pre0 : ∀ t, Steps p.tables e below (s₁.setTop (mkF m 0 #[.val (.ref a0)] [])) t → Steps p.tables e below (s₁.setTop (entryFrame m #[(.ref a0)] 1)) t := fun t k => castTop (ef_len_1 m a0) k
  obtain ⟨T791, X791, e791, st791⟩ := getF X0 hx hZ hown (host := "") (Or.inl (hw _ (List.mem_of_getElem? (i := 24) rfl))) Via.refl e0 F_a0_value (g := (mkF m 1 #[.val (.ref a0)] [(.ref a0)])) rfl rfl (hb hby d8_1)
  obtain ⟨cl792, Ar792, q792, S792, N792, H792, G792⟩ := id V_t
  obtain ⟨cq793, kq793, q793a, q793b, q793c⟩ := isOf hZ e791 E_a0
  obtain ⟨_, _, ⟨T793, L793, k793, n793⟩, -, X793, ⟨Lc793, hQ793, l793, y793, z793⟩, st793⟩ := X791.virtualBack hx (y := (⟨"java/lang/String", "coder", "()B"⟩ : MethodName)) (z := (⟨"java/lang/String", "coder", "()B"⟩ : MethodName)) hown (mvT hZ (hw _ (List.mem_of_getElem? (i := 48) rfl))) (mvT hZ (hw _ (List.mem_of_getElem? (i := 49) rfl))) (notFace_of_selects (args := #[]) (mvT hZ (hw _ (List.mem_of_getElem? (i := 51) rfl)))) (mvT hZ (hw _ (List.mem_of_getElem? (i := 51) rfl))) (mvT hZ (hw _ (List.mem_of_getElem? (i := 50) rfl))) (by decide) (backOf (W := 1) (rm9 l Z aw hw [] a0 zc h0 n0 Z0 F_a0_coder OLD O_COMPACT_STRINGS hzc) hZ (hw _ (List.mem_of_getElem? (i := 52) rfl)) (hw _ (List.mem_of_getElem? (i := 6) rfl)) (by decide) (by decide)) q793a q793c (g := (mkF m 6 #[.val (.ref a0)] [(.ref a0), (.int (1 : Int32))])) rfl (by rw [hml]; rfl) (Steps.refl _) (argsL := []) (rest := [(.int (1 : Int32))]) (lenOf pd_6 rfl) rfl (by show 2 * 0 + _ ≤ _; exact Nat.le_of_eq rfl) (hb hby d8_6) (fun _ _ => ⟨rfl, e791, (by decide : 0 + 0 ≤ _), (by decide : 0 + 0 ≤ _)⟩)
  dsimp only [Pt.U, Pt.locs, Pt.cells, Pt.slots] at X793 l793 y793 z793 st793 hQ793
  replace l793 := l793.symm; replace y793 := y793.symm; replace z793 := z793.symm; subst l793 y793 z793
  obtain ⟨rfl, N793q, e793⟩ := hQ793
  have N793 := Fr.app N0 N793q
  obtain ⟨fs, hr, hrun, hended, hW, hsame⟩ := X793.leave (v := some (.int (1 : Int32))) (fun h => by rw [Bd.returns] at h; cases h)
  refine ⟨_, _, pre0 _ ?_, hrun, hended, _, _, rfl, ?_, ⟨_, rfl⟩, hW, hsame.mono (by decide) (by decide)⟩
  ·
    show Steps p.tables e below (s₁.setTop (mkF m 0 #[.val (.ref a0)] [])) _
    refine XS.aloadN X0.here hx rfl (hb hby d8_0) rfl rfl ?_
    show Steps p.tables e below (s₁.setTop (mkF m 1 #[.val (.ref a0)] [(.ref a0)])) _
    refine st791 _ ?_
    show Steps p.tables e below (T791.setTop (mkF m 4 #[.val (.ref a0)] [(.ref t)])) _
    refine X791.arraylength hx (by rw [e791]; exact Ar792.1) (State.isArrayOf_alike hZ.alike Ar792.2.1) (g := (mkF m 4 #[.val (.ref a0)] [(.ref t)])) rfl rfl (hb hby d8_4) _ ?_
    rw [len_of S792 N792]
    show Steps p.tables e below (T791.setTop (mkF m 5 #[.val (.ref a0)] [(.int (1 : Int32))])) _
    refine XS.aloadN X791.here hx rfl (hb hby d8_5) rfl rfl ?_
    show Steps p.tables e below (T791.setTop (mkF m 6 #[.val (.ref a0)] [(.ref a0), (.int (1 : Int32))])) _
    refine st793.trans ?_
    show Steps p.tables e below (T793.setTop (mkF m 9 #[.val (.ref a0)] [(.int (0 : Int32)), (.int (1 : Int32))])) _
    refine XS.ishr X793.here hx rfl (hb hby d8_9) rfl ?_
    show Steps p.tables e below (T793.setTop (mkF m 10 #[.val (.ref a0)] [(.int (1 : Int32))])) _
    exact retI X793 hx Bd.returns (hb hby d8_10) hr
  ·
    show Q_len_1 Z a0 t k1 w0 zc h0 n0 _ T793.heap _
    rw [e793]
    exact ⟨rfl, N793, rfl⟩
theorem ef_len_2 (m : MethodId) (a0 : Addr) : entryFrame m #[(.ref a0)] 1 = mkF m 0 #[.val (.ref a0)] [] := by first | (simp [entryFrame, mkF, argsToLocals, Value.category]; done) | rfl
def Q_len_2 (Z : State) (a0 : Addr) (t : Addr) (k1 : ClassId) (w0 : Int32) (w1 : Int32) (zc : Int32) (h0 : Heap) (n0 : Nat) (v : Option Value) (h : Heap) (L : List Loc) : Prop := v = some (.int (2 : Int32)) ∧ Fr n0 L ∧ h = h0
set_option maxRecDepth 65536 in
set_option maxHeartbeats 40000000 in
theorem len_2 (l : Launch) (Z : State) (aw : Array Value) (hw : ∀ d ∈ tables_1, d.before aw Z = true) (ws : List Jvm.Cond) (a0 : Addr) (t : Addr) (k1 : ClassId) (w0 : Int32) (w1 : Int32) (zc : Int32) (h0 : Heap) (n0 : Nat) (Z0 : n0 ≤ h0.size) (E_a0 : Exa Z h0 a0 "java/lang/String") (F_a0_coder : Fld Z h0 a0 "java/lang/String" "coder" "B" (.int (0 : Int32))) (F_a0_value : Fld Z h0 a0 "java/lang/String" "value" "[B" (.ref t)) (V_t : Arv Z h0 t k1 .byte (2 : Int32) [(.int w0), (.int w1)] (.int (0 : Int32))) (OLD : Old Z n0 h0) (O_COMPACT_STRINGS : Sta Z Z.heap "java/lang/String" "COMPACT_STRINGS" "Z" (.int zc)) (hzc : ¬ (zc = (0 : Int32))) :
    MetFree l (⟨"java/lang/String", "length", "()I"⟩ : MethodName) (head1 (Jvm.Cond.code (⟨"java/lang/String", "length", "()I"⟩ : MethodName) jdk_42_method_54_code 1 (some .int) :: ws) ({ frames := 1, cells := 0, slots := 0, locals := 13 } : Room)) (fun a U => a = #[(.ref a0)] ∧ Z.Warmed39 U.vm ∧ U.heap = h0) (fun _ _ _ _ _ => True) (fun _ U o U' => ∃ v L, o = .returned v ∧ Q_len_2 Z a0 t k1 w0 w1 zc h0 n0 v U'.heap L ∧ FrameEnd U o U' L ({ frames := 1, cells := 0, slots := 0, locals := 13 } : Room).cells ({ frames := 1, cells := 0, slots := 0, locals := 13 } : Room).slots) := by
  refine MetFree.of_bodySF (plainFor_of_name pn_1) hisR ?_
  intro p e s m args below meth c s₁ Bd hml0 hP hK
  obtain ⟨rfl, hZ, hh⟩ := hP
  have hx := Bd.exec
  have hby := Bd.bytes
  have hml : c.maxLocals = 1 := hml0
  have hown : s.vm.findClass "java/lang/String" = some m.cls := findClass_of_methodNamed Bd.named
  have hnm := (name_of_methodNamed Bd.named Bd.method).1
  have X0 : Stand p l e ({ frames := 1, cells := 0, slots := 0, locals := 13 } : Room) s m #[(.ref a0)] below meth c s₁ [] 0 0 := Stand.of_body Bd
  have e0 : s₁.heap = h0 := by rw [← hh, Bd.state]; rfl
  have N0 := Fr.nil n0
  have pre0 : ∀ t, Steps p.tables e below (s₁.setTop (mkF m 0 #[.val (.ref a0)] [])) t → Steps p.tables e below (s₁.setTop (entryFrame m #[(.ref a0)] 1)) t := fun t k => castTop (ef_len_2 m a0) k
  obtain ⟨T794, X794, e794, st794⟩ := getF X0 hx hZ hown (host := "") (Or.inl (hw _ (List.mem_of_getElem? (i := 24) rfl))) Via.refl e0 F_a0_value (g := (mkF m 1 #[.val (.ref a0)] [(.ref a0)])) rfl rfl (hb hby d8_1)
  obtain ⟨cl795, Ar795, q795, S795, N795, H795, G795⟩ := id V_t
  obtain ⟨cq796, kq796, q796a, q796b, q796c⟩ := isOf hZ e794 E_a0
  obtain ⟨_, _, ⟨T796, L796, k796, n796⟩, -, X796, ⟨Lc796, hQ796, l796, y796, z796⟩, st796⟩ := X794.virtualBack hx (y := (⟨"java/lang/String", "coder", "()B"⟩ : MethodName)) (z := (⟨"java/lang/String", "coder", "()B"⟩ : MethodName)) hown (mvT hZ (hw _ (List.mem_of_getElem? (i := 48) rfl))) (mvT hZ (hw _ (List.mem_of_getElem? (i := 49) rfl))) (notFace_of_selects (args := #[]) (mvT hZ (hw _ (List.mem_of_getElem? (i := 51) rfl)))) (mvT hZ (hw _ (List.mem_of_getElem? (i := 51) rfl))) (mvT hZ (hw _ (List.mem_of_getElem? (i := 50) rfl))) (by decide) (backOf (W := 1) (rm9 l Z aw hw [] a0 zc h0 n0 Z0 F_a0_coder OLD O_COMPACT_STRINGS hzc) hZ (hw _ (List.mem_of_getElem? (i := 52) rfl)) (hw _ (List.mem_of_getElem? (i := 6) rfl)) (by decide) (by decide)) q796a q796c (g := (mkF m 6 #[.val (.ref a0)] [(.ref a0), (.int (2 : Int32))])) rfl (by rw [hml]; rfl) (Steps.refl _) (argsL := []) (rest := [(.int (2 : Int32))]) (lenOf pd_6 rfl) rfl (by show 2 * 0 + _ ≤ _; exact Nat.le_of_eq rfl) (hb hby d8_6) (fun _ _ => ⟨rfl, e794, (by decide : 0 + 0 ≤ _), (by decide : 0 + 0 ≤ _)⟩)
  dsimp only [Pt.U, Pt.locs, Pt.cells, Pt.slots] at X796 l796 y796 z796 st796 hQ796
  replace l796 := l796.symm; replace y796 := y796.symm; replace z796 := z796.symm; subst l796 y796 z796
  obtain ⟨rfl, N796q, e796⟩ := hQ796
  have N796 := Fr.app N0 N796q
  obtain ⟨fs, hr, hrun, hended, hW, hsame⟩ := X796.leave (v := some (.int (2 : Int32))) (fun h => by rw [Bd.returns] at h; cases h)
  refine ⟨_, _, pre0 _ ?_, hrun, hended, _, _, rfl, ?_, ⟨_, rfl⟩, hW, hsame.mono (by decide) (by decide)⟩
  ·
    show Steps p.tables e below (s₁.setTop (mkF m 0 #[.val (.ref a0)] [])) _
    refine XS.aloadN X0.here hx rfl (hb hby d8_0) rfl rfl ?_
    show Steps p.tables e below (s₁.setTop (mkF m 1 #[.val (.ref a0)] [(.ref a0)])) _
    refine st794 _ ?_
    show Steps p.tables e below (T794.setTop (mkF m 4 #[.val (.ref a0)] [(.ref t)])) _
    refine X794.arraylength hx (by rw [e794]; exact Ar795.1) (State.isArrayOf_alike hZ.alike Ar795.2.1) (g := (mkF m 4 #[.val (.ref a0)] [(.ref t)])) rfl rfl (hb hby d8_4) _ ?_
    rw [len_of S795 N795]
    show Steps p.tables e below (T794.setTop (mkF m 5 #[.val (.ref a0)] [(.int (2 : Int32))])) _
    refine XS.aloadN X794.here hx rfl (hb hby d8_5) rfl rfl ?_
    show Steps p.tables e below (T794.setTop (mkF m 6 #[.val (.ref a0)] [(.ref a0), (.int (2 : Int32))])) _
    refine st796.trans ?_
    show Steps p.tables e below (T796.setTop (mkF m 9 #[.val (.ref a0)] [(.int (0 : Int32)), (.int (2 : Int32))])) _
    refine XS.ishr X796.here hx rfl (hb hby d8_9) rfl ?_
    show Steps p.tables e below (T796.setTop (mkF m 10 #[.val (.ref a0)] [(.int (2 : Int32))])) _
    exact retI X796 hx Bd.returns (hb hby d8_10) hr
  ·
    show Q_len_2 Z a0 t k1 w0 w1 zc h0 n0 _ T796.heap _
    rw [e796]
    exact ⟨rfl, N796, rfl⟩
theorem ef_len_3 (m : MethodId) (a0 : Addr) : entryFrame m #[(.ref a0)] 1 = mkF m 0 #[.val (.ref a0)] [] := by first | (simp [entryFrame, mkF, argsToLocals, Value.category]; done) | rfl
def Q_len_3 (Z : State) (a0 : Addr) (t : Addr) (k1 : ClassId) (w0 : Int32) (w1 : Int32) (w2 : Int32) (zc : Int32) (h0 : Heap) (n0 : Nat) (v : Option Value) (h : Heap) (L : List Loc) : Prop := v = some (.int (3 : Int32)) ∧ Fr n0 L ∧ h = h0
set_option maxRecDepth 65536 in
set_option maxHeartbeats 40000000 in
theorem len_3 (l : Launch) (Z : State) (aw : Array Value) (hw : ∀ d ∈ tables_1, d.before aw Z = true) (ws : List Jvm.Cond) (a0 : Addr) (t : Addr) (k1 : ClassId) (w0 : Int32) (w1 : Int32) (w2 : Int32) (zc : Int32) (h0 : Heap) (n0 : Nat) (Z0 : n0 ≤ h0.size) (E_a0 : Exa Z h0 a0 "java/lang/String") (F_a0_coder : Fld Z h0 a0 "java/lang/String" "coder" "B" (.int (0 : Int32))) (F_a0_value : Fld Z h0 a0 "java/lang/String" "value" "[B" (.ref t)) (V_t : Arv Z h0 t k1 .byte (3 : Int32) [(.int w0), (.int w1), (.int w2)] (.int (0 : Int32))) (OLD : Old Z n0 h0) (O_COMPACT_STRINGS : Sta Z Z.heap "java/lang/String" "COMPACT_STRINGS" "Z" (.int zc)) (hzc : ¬ (zc = (0 : Int32))) :
    MetFree l (⟨"java/lang/String", "length", "()I"⟩ : MethodName) (head1 (Jvm.Cond.code (⟨"java/lang/String", "length", "()I"⟩ : MethodName) jdk_42_method_54_code 1 (some .int) :: ws) ({ frames := 1, cells := 0, slots := 0, locals := 13 } : Room)) (fun a U => a = #[(.ref a0)] ∧ Z.Warmed39 U.vm ∧ U.heap = h0) (fun _ _ _ _ _ => True) (fun _ U o U' => ∃ v L, o = .returned v ∧ Q_len_3 Z a0 t k1 w0 w1 w2 zc h0 n0 v U'.heap L ∧ FrameEnd U o U' L ({ frames := 1, cells := 0, slots := 0, locals := 13 } : Room).cells ({ frames := 1, cells := 0, slots := 0, locals := 13 } : Room).slots) := by
  refine MetFree.of_bodySF (plainFor_of_name pn_1) hisR ?_
  intro p e s m args below meth c s₁ Bd hml0 hP hK
  obtain ⟨rfl, hZ, hh⟩ := hP
  have hx := Bd.exec
  have hby := Bd.bytes
  have hml : c.maxLocals = 1 := hml0
  have hown : s.vm.findClass "java/lang/String" = some m.cls := findClass_of_methodNamed Bd.named
  have hnm := (name_of_methodNamed Bd.named Bd.method).1
  have X0 : Stand p l e ({ frames := 1, cells := 0, slots := 0, locals := 13 } : Room) s m #[(.ref a0)] below meth c s₁ [] 0 0 := Stand.of_body Bd
  have e0 : s₁.heap = h0 := by rw [← hh, Bd.state]; rfl
  have N0 := Fr.nil n0
  have pre0 : ∀ t, Steps p.tables e below (s₁.setTop (mkF m 0 #[.val (.ref a0)] [])) t → Steps p.tables e below (s₁.setTop (entryFrame m #[(.ref a0)] 1)) t := fun t k => castTop (ef_len_3 m a0) k
  obtain ⟨T797, X797, e797, st797⟩ := getF X0 hx hZ hown (host := "") (Or.inl (hw _ (List.mem_of_getElem? (i := 24) rfl))) Via.refl e0 F_a0_value (g := (mkF m 1 #[.val (.ref a0)] [(.ref a0)])) rfl rfl (hb hby d8_1)
  obtain ⟨cl798, Ar798, q798, S798, N798, H798, G798⟩ := id V_t
  obtain ⟨cq799, kq799, q799a, q799b, q799c⟩ := isOf hZ e797 E_a0
  obtain ⟨_, _, ⟨T799, L799, k799, n799⟩, -, X799, ⟨Lc799, hQ799, l799, y799, z799⟩, st799⟩ := X797.virtualBack hx (y := (⟨"java/lang/String", "coder", "()B"⟩ : MethodName)) (z := (⟨"java/lang/String", "coder", "()B"⟩ : MethodName)) hown (mvT hZ (hw _ (List.mem_of_getElem? (i := 48) rfl))) (mvT hZ (hw _ (List.mem_of_getElem? (i := 49) rfl))) (notFace_of_selects (args := #[]) (mvT hZ (hw _ (List.mem_of_getElem? (i := 51) rfl)))) (mvT hZ (hw _ (List.mem_of_getElem? (i := 51) rfl))) (mvT hZ (hw _ (List.mem_of_getElem? (i := 50) rfl))) (by decide) (backOf (W := 1) (rm9 l Z aw hw [] a0 zc h0 n0 Z0 F_a0_coder OLD O_COMPACT_STRINGS hzc) hZ (hw _ (List.mem_of_getElem? (i := 52) rfl)) (hw _ (List.mem_of_getElem? (i := 6) rfl)) (by decide) (by decide)) q799a q799c (g := (mkF m 6 #[.val (.ref a0)] [(.ref a0), (.int (3 : Int32))])) rfl (by rw [hml]; rfl) (Steps.refl _) (argsL := []) (rest := [(.int (3 : Int32))]) (lenOf pd_6 rfl) rfl (by show 2 * 0 + _ ≤ _; exact Nat.le_of_eq rfl) (hb hby d8_6) (fun _ _ => ⟨rfl, e797, (by decide : 0 + 0 ≤ _), (by decide : 0 + 0 ≤ _)⟩)
  dsimp only [Pt.U, Pt.locs, Pt.cells, Pt.slots] at X799 l799 y799 z799 st799 hQ799
  replace l799 := l799.symm; replace y799 := y799.symm; replace z799 := z799.symm; subst l799 y799 z799
  obtain ⟨rfl, N799q, e799⟩ := hQ799
  have N799 := Fr.app N0 N799q
  obtain ⟨fs, hr, hrun, hended, hW, hsame⟩ := X799.leave (v := some (.int (3 : Int32))) (fun h => by rw [Bd.returns] at h; cases h)
  refine ⟨_, _, pre0 _ ?_, hrun, hended, _, _, rfl, ?_, ⟨_, rfl⟩, hW, hsame.mono (by decide) (by decide)⟩
  ·
    show Steps p.tables e below (s₁.setTop (mkF m 0 #[.val (.ref a0)] [])) _
    refine XS.aloadN X0.here hx rfl (hb hby d8_0) rfl rfl ?_
    show Steps p.tables e below (s₁.setTop (mkF m 1 #[.val (.ref a0)] [(.ref a0)])) _
    refine st797 _ ?_
    show Steps p.tables e below (T797.setTop (mkF m 4 #[.val (.ref a0)] [(.ref t)])) _
    refine X797.arraylength hx (by rw [e797]; exact Ar798.1) (State.isArrayOf_alike hZ.alike Ar798.2.1) (g := (mkF m 4 #[.val (.ref a0)] [(.ref t)])) rfl rfl (hb hby d8_4) _ ?_
    rw [len_of S798 N798]
    show Steps p.tables e below (T797.setTop (mkF m 5 #[.val (.ref a0)] [(.int (3 : Int32))])) _
    refine XS.aloadN X797.here hx rfl (hb hby d8_5) rfl rfl ?_
    show Steps p.tables e below (T797.setTop (mkF m 6 #[.val (.ref a0)] [(.ref a0), (.int (3 : Int32))])) _
    refine st799.trans ?_
    show Steps p.tables e below (T799.setTop (mkF m 9 #[.val (.ref a0)] [(.int (0 : Int32)), (.int (3 : Int32))])) _
    refine XS.ishr X799.here hx rfl (hb hby d8_9) rfl ?_
    show Steps p.tables e below (T799.setTop (mkF m 10 #[.val (.ref a0)] [(.int (3 : Int32))])) _
    exact retI X799 hx Bd.returns (hb hby d8_10) hr
  ·
    show Q_len_3 Z a0 t k1 w0 w1 w2 zc h0 n0 _ T799.heap _
    rw [e799]
    exact ⟨rfl, N799, rfl⟩
theorem d17_0 : decode jdk_41_method_11_code 0 = .ok (.iload_n 0, 1) := by decide +kernel
theorem d17_1 : decode jdk_41_method_11_code 1 = .ok (.ifCond .lt 8, 3) := by decide +kernel
theorem d17_4 : decode jdk_41_method_11_code 4 = .ok (.iload_n 0, 1) := by decide +kernel
theorem d17_5 : decode jdk_41_method_11_code 5 = .ok (.iload_n 1, 1) := by decide +kernel
theorem d17_6 : decode jdk_41_method_11_code 6 = .ok (.if_icmp .lt 10, 3) := by decide +kernel
theorem d17_16 : decode jdk_41_method_11_code 16 = .ok (.iload_n 0, 1) := by decide +kernel
theorem d17_17 : decode jdk_41_method_11_code 17 = .ok (.ireturn, 1) := by decide +kernel
theorem pn_4 : plainName "jdk/internal/util/Preconditions" = true := by first | (simp [plainName, overriddenIn]; done) | decide +kernel
theorem ef_rm17 (m : MethodId) (fv : Value) (hfv : fv.isRef = true) : entryFrame m #[(.int (0 : Int32)), (.int (1 : Int32)), fv] 3 = mkF m 0 #[.val (.int (0 : Int32)), .val (.int (1 : Int32)), .val fv] [] := by rcases ref_cases hfv with rfl | ⟨_, rfl⟩ <;> first | (simp [entryFrame, mkF, argsToLocals, Value.category]; done) | rfl
def Q_rm17 (Z : State) (fv : Value) (h0 : Heap) (n0 : Nat) (v : Option Value) (h : Heap) (L : List Loc) : Prop := v = some (.int (0 : Int32)) ∧ Fr n0 L ∧ h = h0
set_option maxRecDepth 65536 in
set_option maxHeartbeats 40000000 in
theorem rm17 (l : Launch) (Z : State) (aw : Array Value) (hw : ∀ d ∈ tables_1, d.before aw Z = true) (ws : List Jvm.Cond) (fv : Value) (h0 : Heap) (n0 : Nat) (Z0 : n0 ≤ h0.size) (hfv : fv.isRef = true) :
    MetFree l (⟨"jdk/internal/util/Preconditions", "checkIndex", "(IILjava/util/function/BiFunction;)I"⟩ : MethodName) (head1 (Jvm.Cond.code (⟨"jdk/internal/util/Preconditions", "checkIndex", "(IILjava/util/function/BiFunction;)I"⟩ : MethodName) jdk_41_method_11_code 3 (some .int) :: ws) ({ frames := 0, cells := 0, slots := 0, locals := 0 } : Room)) (fun a U => a = #[(.int (0 : Int32)), (.int (1 : Int32)), fv] ∧ Z.Warmed39 U.vm ∧ U.heap = h0) (fun _ _ _ _ _ => True) (fun _ U o U' => ∃ v L, o = .returned v ∧ Q_rm17 Z fv h0 n0 v U'.heap L ∧ FrameEnd U o U' L ({ frames := 0, cells := 0, slots := 0, locals := 0 } : Room).cells ({ frames := 0, cells := 0, slots := 0, locals := 0 } : Room).slots) := by
  refine MetFree.of_bodySF (plainFor_of_name pn_4) hisR ?_
  intro p e s m args below meth c s₁ Bd hml0 hP hK
  obtain ⟨rfl, hZ, hh⟩ := hP
  have hx := Bd.exec
  have hby := Bd.bytes
  have hml : c.maxLocals = 3 := hml0
  have hown : s.vm.findClass "jdk/internal/util/Preconditions" = some m.cls := findClass_of_methodNamed Bd.named
  have hnm := (name_of_methodNamed Bd.named Bd.method).1
  have X0 : Stand p l e ({ frames := 0, cells := 0, slots := 0, locals := 0 } : Room) s m #[(.int (0 : Int32)), (.int (1 : Int32)), fv] below meth c s₁ [] 0 0 := Stand.of_body Bd
  have e0 : s₁.heap = h0 := by rw [← hh, Bd.state]; rfl
  have N0 := Fr.nil n0
  have pre0 : ∀ t, Steps p.tables e below (s₁.setTop (mkF m 0 #[.val (.int (0 : Int32)), .val (.int (1 : Int32)), .val fv] [])) t → Steps p.tables e below (s₁.setTop (entryFrame m #[(.int (0 : Int32)), (.int (1 : Int32)), fv] 3)) t := fun t k => castTop (ef_rm17 m fv hfv) k
  obtain ⟨fs, hr, hrun, hended, hW, hsame⟩ := X0.leave (v := some (.int (0 : Int32))) (fun h => by rw [Bd.returns] at h; cases h)
  refine ⟨_, _, pre0 _ ?_, hrun, hended, _, _, rfl, ?_, ⟨_, rfl⟩, hW, hsame.mono (by decide) (by decide)⟩
  ·
    show Steps p.tables e below (s₁.setTop (mkF m 0 #[.val (.int (0 : Int32)), .val (.int (1 : Int32)), .val fv] [])) _
    refine XS.iloadN X0.here hx rfl (hb hby d17_0) rfl ?_
    show Steps p.tables e below (s₁.setTop (mkF m 1 #[.val (.int (0 : Int32)), .val (.int (1 : Int32)), .val fv] [(.int (0 : Int32))])) _
    refine XS.ifNo X0.here hx rfl (hb hby d17_1) rfl ((if0 _ _).trans (flt (by decide)).1) ?_
    show Steps p.tables e below (s₁.setTop (mkF m 4 #[.val (.int (0 : Int32)), .val (.int (1 : Int32)), .val fv] [])) _
    refine XS.iloadN X0.here hx rfl (hb hby d17_4) rfl ?_
    show Steps p.tables e below (s₁.setTop (mkF m 5 #[.val (.int (0 : Int32)), .val (.int (1 : Int32)), .val fv] [(.int (0 : Int32))])) _
    refine XS.iloadN X0.here hx rfl (hb hby d17_5) rfl ?_
    show Steps p.tables e below (s₁.setTop (mkF m 6 #[.val (.int (0 : Int32)), .val (.int (1 : Int32)), .val fv] [(.int (1 : Int32)), (.int (0 : Int32))])) _
    refine XS.icmpYes X0.here hx rfl (pc0 := 6) (pc' := 16) rfl (hb hby d17_6) rfl (tlt (by decide)).1 (by decide) (by decide) ?_
    show Steps p.tables e below (s₁.setTop (mkF m 16 #[.val (.int (0 : Int32)), .val (.int (1 : Int32)), .val fv] [])) _
    refine XS.iloadN X0.here hx rfl (hb hby d17_16) rfl ?_
    show Steps p.tables e below (s₁.setTop (mkF m 17 #[.val (.int (0 : Int32)), .val (.int (1 : Int32)), .val fv] [(.int (0 : Int32))])) _
    exact retI X0 hx Bd.returns (hb hby d17_17) hr
  ·
    show Q_rm17 Z fv h0 n0 _ s₁.heap _
    rw [e0]
    exact ⟨rfl, N0, rfl⟩
theorem d16_0 : decode jdk_42_method_155_code 0 = .ok (.iload_n 0, 1) := by decide +kernel
theorem d16_1 : decode jdk_42_method_155_code 1 = .ok (.iload_n 1, 1) := by decide +kernel
theorem d16_2 : decode jdk_42_method_155_code 2 = .ok (.getstatic 1053, 3) := by decide +kernel
theorem pd_7 : parseMethodDescriptor "(IILjava/util/function/BiFunction;)I" = some ⟨[.int, .int, (.object "java/util/function/BiFunction")], some .int⟩ := by decide +kernel
theorem d16_5 : decode jdk_42_method_155_code 5 = .ok (.invokestatic 1059, 3) := by decide +kernel
theorem d16_8 : decode jdk_42_method_155_code 8 = .ok (.pop, 1) := by decide +kernel
theorem d16_9 : decode jdk_42_method_155_code 9 = .ok (.return_, 1) := by decide +kernel
theorem ef_rm16 (m : MethodId)  : entryFrame m #[(.int (0 : Int32)), (.int (1 : Int32))] 2 = mkF m 0 #[.val (.int (0 : Int32)), .val (.int (1 : Int32))] [] := by first | (simp [entryFrame, mkF, argsToLocals, Value.category]; done) | rfl
def Q_rm16 (Z : State) (fv : Value) (h0 : Heap) (n0 : Nat) (v : Option Value) (h : Heap) (L : List Loc) : Prop := v = none ∧ Fr n0 L ∧ h = h0
set_option maxRecDepth 65536 in
set_option maxHeartbeats 40000000 in
theorem rm16 (l : Launch) (Z : State) (aw : Array Value) (hw : ∀ d ∈ tables_1, d.before aw Z = true) (ws : List Jvm.Cond) (fv : Value) (h0 : Heap) (n0 : Nat) (Z0 : n0 ≤ h0.size) (OLD : Old Z n0 h0) (O_SIOOBE_FORMATTER : Sta Z Z.heap "jdk/internal/util/Preconditions" "SIOOBE_FORMATTER" "Ljava/util/function/BiFunction;" fv) (hfv : fv.isRef = true) :
    MetFree l (⟨"java/lang/String", "checkIndex", "(II)V"⟩ : MethodName) (head1 (Jvm.Cond.code (⟨"java/lang/String", "checkIndex", "(II)V"⟩ : MethodName) jdk_42_method_155_code 2 none :: ws) ({ frames := 1, cells := 0, slots := 0, locals := 14 } : Room)) (fun a U => a = #[(.int (0 : Int32)), (.int (1 : Int32))] ∧ Z.Warmed39 U.vm ∧ U.heap = h0) (fun _ _ _ _ _ => True) (fun _ U o U' => ∃ v L, o = .returned v ∧ Q_rm16 Z fv h0 n0 v U'.heap L ∧ FrameEnd U o U' L ({ frames := 1, cells := 0, slots := 0, locals := 14 } : Room).cells ({ frames := 1, cells := 0, slots := 0, locals := 14 } : Room).slots) := by
  refine MetFree.of_bodySF (plainFor_of_name pn_1) hisR ?_
  intro p e s m args below meth c s₁ Bd hml0 hP hK
  obtain ⟨rfl, hZ, hh⟩ := hP
  have hx := Bd.exec
  have hby := Bd.bytes
  have hml : c.maxLocals = 2 := hml0
  have hown : s.vm.findClass "java/lang/String" = some m.cls := findClass_of_methodNamed Bd.named
  have hnm := (name_of_methodNamed Bd.named Bd.method).1
  have X0 : Stand p l e ({ frames := 1, cells := 0, slots := 0, locals := 14 } : Room) s m #[(.int (0 : Int32)), (.int (1 : Int32))] below meth c s₁ [] 0 0 := Stand.of_body Bd
  have e0 : s₁.heap = h0 := by rw [← hh, Bd.state]; rfl
  have N0 := Fr.nil n0
  have pre0 : ∀ t, Steps p.tables e below (s₁.setTop (mkF m 0 #[.val (.int (0 : Int32)), .val (.int (1 : Int32))] [])) t → Steps p.tables e below (s₁.setTop (entryFrame m #[(.int (0 : Int32)), (.int (1 : Int32))] 2)) t := fun t k => castTop (ef_rm16 m ) k
  obtain ⟨T800, X800, e800, st800⟩ := getS2 X0 hx hZ hown (host := "") (Or.inl (hw _ (List.mem_of_getElem? (i := 82) rfl))) Via.refl e0 (Sta.ext OLD.2 O_SIOOBE_FORMATTER) (g := (mkF m 2 #[.val (.int (0 : Int32)), .val (.int (1 : Int32))] [(.int (1 : Int32)), (.int (0 : Int32))])) rfl (hb hby d16_2)
  obtain ⟨_, _, ⟨T801, L801, k801, n801⟩, -, X801, ⟨Lc801, hQ801, l801, y801, z801⟩, st801⟩ := Jvm.LawKit.callS X800 hx (y := (⟨"jdk/internal/util/Preconditions", "checkIndex", "(IILjava/util/function/BiFunction;)I"⟩ : MethodName)) hown (mvT hZ (hw _ (List.mem_of_getElem? (i := 84) rfl))) (mvT hZ (hw _ (List.mem_of_getElem? (i := 85) rfl))) (mvT hZ (hw _ (List.mem_of_getElem? (i := 83) rfl))) (mvT hZ (hw _ (List.mem_of_getElem? (i := 86) rfl))) (by decide) (backOf (W := 0) (rm17 l Z aw hw [] fv h0 n0 Z0 hfv) hZ (hw _ (List.mem_of_getElem? (i := 86) rfl)) (hw _ (List.mem_of_getElem? (i := 83) rfl)) (by decide) (by decide)) (g := (mkF m 5 #[.val (.int (0 : Int32)), .val (.int (1 : Int32))] [fv, (.int (1 : Int32)), (.int (0 : Int32))])) rfl (by rw [hml]; rfl) (argsL := [(.int (0 : Int32)), (.int (1 : Int32)), fv]) (rest := []) (lenOf pd_7 rfl) rfl (by show 2 * 0 + _ ≤ _; exact Nat.le_of_eq rfl) (hb hby d16_5) (fun _ _ => ⟨rfl, e800, (by decide : 0 + 0 ≤ _), (by decide : 0 + 0 ≤ _)⟩)
  dsimp only [Pt.U, Pt.locs, Pt.cells, Pt.slots] at X801 l801 y801 z801 st801 hQ801
  replace l801 := l801.symm; replace y801 := y801.symm; replace z801 := z801.symm; subst l801 y801 z801
  obtain ⟨rfl, N801q, e801⟩ := hQ801
  have N801 := Fr.app N0 N801q
  obtain ⟨fs, hr, hrun, hended, hW, hsame⟩ := X801.leave (v := none) (fun _ => rfl)
  refine ⟨_, _, pre0 _ ?_, hrun, hended, _, _, rfl, ?_, ⟨_, rfl⟩, hW, hsame.mono (by decide) (by decide)⟩
  ·
    show Steps p.tables e below (s₁.setTop (mkF m 0 #[.val (.int (0 : Int32)), .val (.int (1 : Int32))] [])) _
    refine XS.iloadN X0.here hx rfl (hb hby d16_0) rfl ?_
    show Steps p.tables e below (s₁.setTop (mkF m 1 #[.val (.int (0 : Int32)), .val (.int (1 : Int32))] [(.int (0 : Int32))])) _
    refine XS.iloadN X0.here hx rfl (hb hby d16_1) rfl ?_
    show Steps p.tables e below (s₁.setTop (mkF m 2 #[.val (.int (0 : Int32)), .val (.int (1 : Int32))] [(.int (1 : Int32)), (.int (0 : Int32))])) _
    refine st800 _ ?_
    show Steps p.tables e below (T800.setTop (mkF m 5 #[.val (.int (0 : Int32)), .val (.int (1 : Int32))] [fv, (.int (1 : Int32)), (.int (0 : Int32))])) _
    refine st801 _ ?_
    show Steps p.tables e below (T801.setTop (mkF m 8 #[.val (.int (0 : Int32)), .val (.int (1 : Int32))] [(.int (0 : Int32))])) _
    refine XS.pop X801.here hx rfl (hb hby d16_8) rfl rfl ?_
    show Steps p.tables e below (T801.setTop (mkF m 9 #[.val (.int (0 : Int32)), .val (.int (1 : Int32))] [])) _
    exact X801.returnOut hx Bd.returns (hb hby d16_9) hr
  ·
    show Q_rm16 Z fv h0 n0 _ T801.heap _
    rw [e801]
    exact ⟨rfl, N801, rfl⟩
theorem d15_0 : decode jdk_43_method_2_code 0 = .ok (.iload_n 1, 1) := by decide +kernel
theorem d15_1 : decode jdk_43_method_2_code 1 = .ok (.aload_n 0, 1) := by decide +kernel
theorem d15_2 : decode jdk_43_method_2_code 2 = .ok (.arraylength, 1) := by decide +kernel
theorem pd_8 : parseMethodDescriptor "(II)V" = some ⟨[.int, .int], none⟩ := by decide +kernel
theorem d15_3 : decode jdk_43_method_2_code 3 = .ok (.invokestatic 9, 3) := by decide +kernel
theorem d15_6 : decode jdk_43_method_2_code 6 = .ok (.aload_n 0, 1) := by decide +kernel
theorem d15_7 : decode jdk_43_method_2_code 7 = .ok (.iload_n 1, 1) := by decide +kernel
theorem d15_8 : decode jdk_43_method_2_code 8 = .ok (.baload, 1) := by decide +kernel
theorem d15_9 : decode jdk_43_method_2_code 9 = .ok (.sipush 255, 3) := by decide +kernel
theorem d15_12 : decode jdk_43_method_2_code 12 = .ok (.iand, 1) := by decide +kernel
theorem d15_13 : decode jdk_43_method_2_code 13 = .ok (.i2c, 1) := by decide +kernel
theorem d15_14 : decode jdk_43_method_2_code 14 = .ok (.ireturn, 1) := by decide +kernel
theorem ef_rm15 (m : MethodId) (a0 : Addr) : entryFrame m #[(.ref a0), (.int (0 : Int32))] 2 = mkF m 0 #[.val (.ref a0), .val (.int (0 : Int32))] [] := by first | (simp [entryFrame, mkF, argsToLocals, Value.category]; done) | rfl
def Q_rm15 (Z : State) (a0 : Addr) (k1 : ClassId) (w0 : Int32) (fv : Value) (h0 : Heap) (n0 : Nat) (v : Option Value) (h : Heap) (L : List Loc) : Prop := v = some (.int (nar .char (((w0 &&& (255 : Int32)).toUInt32.toUInt16.toUInt32.toInt32)))) ∧ Fr n0 L ∧ h = h0
set_option maxRecDepth 65536 in
set_option maxHeartbeats 40000000 in
theorem rm15 (l : Launch) (Z : State) (aw : Array Value) (hw : ∀ d ∈ tables_1, d.before aw Z = true) (ws : List Jvm.Cond) (a0 : Addr) (k1 : ClassId) (w0 : Int32) (fv : Value) (h0 : Heap) (n0 : Nat) (Z0 : n0 ≤ h0.size) (V_a0 : Arv Z h0 a0 k1 .byte (1 : Int32) [(.int w0)] (.int (0 : Int32))) (OLD : Old Z n0 h0) (O_SIOOBE_FORMATTER : Sta Z Z.heap "jdk/internal/util/Preconditions" "SIOOBE_FORMATTER" "Ljava/util/function/BiFunction;" fv) (hfv : fv.isRef = true) :
    MetFree l (⟨"java/lang/StringLatin1", "charAt", "([BI)C"⟩ : MethodName) (head1 (Jvm.Cond.code (⟨"java/lang/StringLatin1", "charAt", "([BI)C"⟩ : MethodName) jdk_43_method_2_code 2 (some .char) :: ws) ({ frames := 2, cells := 0, slots := 0, locals := 27 } : Room)) (fun a U => a = #[(.ref a0), (.int (0 : Int32))] ∧ Z.Warmed39 U.vm ∧ U.heap = h0) (fun _ _ _ _ _ => True) (fun _ U o U' => ∃ v L, o = .returned v ∧ Q_rm15 Z a0 k1 w0 fv h0 n0 v U'.heap L ∧ FrameEnd U o U' L ({ frames := 2, cells := 0, slots := 0, locals := 27 } : Room).cells ({ frames := 2, cells := 0, slots := 0, locals := 27 } : Room).slots) := by
  refine MetFree.of_bodySF (plainFor_of_name pn_3) hisR ?_
  intro p e s m args below meth c s₁ Bd hml0 hP hK
  obtain ⟨rfl, hZ, hh⟩ := hP
  have hx := Bd.exec
  have hby := Bd.bytes
  have hml : c.maxLocals = 2 := hml0
  have hown : s.vm.findClass "java/lang/StringLatin1" = some m.cls := findClass_of_methodNamed Bd.named
  have hnm := (name_of_methodNamed Bd.named Bd.method).1
  have X0 : Stand p l e ({ frames := 2, cells := 0, slots := 0, locals := 27 } : Room) s m #[(.ref a0), (.int (0 : Int32))] below meth c s₁ [] 0 0 := Stand.of_body Bd
  have e0 : s₁.heap = h0 := by rw [← hh, Bd.state]; rfl
  have N0 := Fr.nil n0
  have pre0 : ∀ t, Steps p.tables e below (s₁.setTop (mkF m 0 #[.val (.ref a0), .val (.int (0 : Int32))] [])) t → Steps p.tables e below (s₁.setTop (entryFrame m #[(.ref a0), (.int (0 : Int32))] 2)) t := fun t k => castTop (ef_rm15 m a0) k
  obtain ⟨cl802, Ar802, q802, S802, N802, H802, G802⟩ := id V_a0
  obtain ⟨_, _, ⟨T803, L803, k803, n803⟩, -, X803, ⟨Lc803, hQ803, l803, y803, z803⟩, st803⟩ := Jvm.LawKit.callS X0 hx (y := (⟨"java/lang/String", "checkIndex", "(II)V"⟩ : MethodName)) hown (mvT hZ (hw _ (List.mem_of_getElem? (i := 79) rfl))) (mvT hZ (hw _ (List.mem_of_getElem? (i := 80) rfl))) (mvT hZ (hw _ (List.mem_of_getElem? (i := 6) rfl))) (mvT hZ (hw _ (List.mem_of_getElem? (i := 81) rfl))) (by decide) (backOf (W := 0) (rm16 l Z aw hw [] fv h0 n0 Z0 OLD O_SIOOBE_FORMATTER hfv) hZ (hw _ (List.mem_of_getElem? (i := 81) rfl)) (hw _ (List.mem_of_getElem? (i := 6) rfl)) (by decide) (by decide)) (g := (mkF m 3 #[.val (.ref a0), .val (.int (0 : Int32))] [(.int (1 : Int32)), (.int (0 : Int32))])) rfl (by rw [hml]; rfl) (argsL := [(.int (0 : Int32)), (.int (1 : Int32))]) (rest := []) (lenOf pd_8 rfl) rfl (by show 2 * 0 + _ ≤ _; exact Nat.le_of_eq rfl) (hb hby d15_3) (fun _ _ => ⟨rfl, e0, (by decide : 0 + 0 ≤ _), (by decide : 0 + 0 ≤ _)⟩)
  dsimp only [Pt.U, Pt.locs, Pt.cells, Pt.slots] at X803 l803 y803 z803 st803 hQ803
  replace l803 := l803.symm; replace y803 := y803.symm; replace z803 := z803.symm; subst l803 y803 z803
  obtain ⟨rfl, N803q, e803⟩ := hQ803
  have N803 := Fr.app N0 N803q
  obtain ⟨cl804, Ar804, q804, S804, N804, H804, G804⟩ := id V_a0
  have hin804 : ¬ ((0 : Int32) < 0 ∨ cl804.slots.size ≤ ((0 : Int32)).toNatClampNeg) := inb_of S804 ⟨by decide, by decide⟩
  have hat804 : cl804.slots[((0 : Int32)).toNatClampNeg]? = some (.int w0) := Has.at H804 hin804 rfl
  obtain ⟨fs, hr, hrun, hended, hW, hsame⟩ := X803.leave (v := some (.int (nar .char ((w0 &&& (255 : Int32)).toUInt32.toUInt16.toUInt32.toInt32)))) (fun h => by rw [Bd.returns] at h; cases h)
  refine ⟨_, _, pre0 _ ?_, hrun, hended, _, _, rfl, ?_, ⟨_, rfl⟩, hW, hsame.mono (by decide) (by decide)⟩
  ·
    show Steps p.tables e below (s₁.setTop (mkF m 0 #[.val (.ref a0), .val (.int (0 : Int32))] [])) _
    refine XS.iloadN X0.here hx rfl (hb hby d15_0) rfl ?_
    show Steps p.tables e below (s₁.setTop (mkF m 1 #[.val (.ref a0), .val (.int (0 : Int32))] [(.int (0 : Int32))])) _
    refine XS.aloadN X0.here hx rfl (hb hby d15_1) rfl rfl ?_
    show Steps p.tables e below (s₁.setTop (mkF m 2 #[.val (.ref a0), .val (.int (0 : Int32))] [(.ref a0), (.int (0 : Int32))])) _
    refine X0.arraylength hx (by rw [e0]; exact Ar802.1) (State.isArrayOf_alike hZ.alike Ar802.2.1) (g := (mkF m 2 #[.val (.ref a0), .val (.int (0 : Int32))] [(.ref a0), (.int (0 : Int32))])) rfl rfl (hb hby d15_2) _ ?_
    rw [len_of S802 N802]
    show Steps p.tables e below (s₁.setTop (mkF m 3 #[.val (.ref a0), .val (.int (0 : Int32))] [(.int (1 : Int32)), (.int (0 : Int32))])) _
    refine st803 _ ?_
    show Steps p.tables e below (T803.setTop (mkF m 6 #[.val (.ref a0), .val (.int (0 : Int32))] [])) _
    refine XS.aloadN X803.here hx rfl (hb hby d15_6) rfl rfl ?_
    show Steps p.tables e below (T803.setTop (mkF m 7 #[.val (.ref a0), .val (.int (0 : Int32))] [(.ref a0)])) _
    refine XS.iloadN X803.here hx rfl (hb hby d15_7) rfl ?_
    show Steps p.tables e below (T803.setTop (mkF m 8 #[.val (.ref a0), .val (.int (0 : Int32))] [(.int (0 : Int32)), (.ref a0)])) _
    refine X803.baloadBytes hx (j := (0 : Int32)) (v := (.int w0)) (by rw [e803]; exact Ar804.1) (State.isArrayOf_alike hZ.alike Ar804.2.1) Ar804.2.2 hin804 hat804 (g := (mkF m 8 #[.val (.ref a0), .val (.int (0 : Int32))] [(.int (0 : Int32)), (.ref a0)])) rfl rfl (hb hby d15_8) _ ?_
    show Steps p.tables e below (T803.setTop (mkF m 9 #[.val (.ref a0), .val (.int (0 : Int32))] [(.int w0)])) _
    refine XS.sipush X803.here hx rfl (hb hby d15_9) ?_
    show Steps p.tables e below (T803.setTop (mkF m 12 #[.val (.ref a0), .val (.int (0 : Int32))] [(.int (255 : Int32)), (.int w0)])) _
    refine XS.iand X803.here hx rfl (hb hby d15_12) rfl ?_
    show Steps p.tables e below (T803.setTop (mkF m 13 #[.val (.ref a0), .val (.int (0 : Int32))] [(.int (w0 &&& (255 : Int32)))])) _
    refine XS.i2c X803.here hx rfl (hb hby d15_13) rfl ?_
    show Steps p.tables e below (T803.setTop (mkF m 14 #[.val (.ref a0), .val (.int (0 : Int32))] [(.int ((w0 &&& (255 : Int32)).toUInt32.toUInt16.toUInt32.toInt32))])) _
    exact retN X803 hx (t := .char) Bd.returns (by simp) (hb hby d15_14) hr
  ·
    show Q_rm15 Z a0 k1 w0 fv h0 n0 _ T803.heap _
    rw [e803]
    exact ⟨(by simp only []), N803, rfl⟩
theorem d14_0 : decode jdk_42_method_154_code 0 = .ok (.getstatic 38, 3) := by decide +kernel
theorem d14_3 : decode jdk_42_method_154_code 3 = .ok (.ifCond .eq 14, 3) := by decide +kernel
theorem d14_6 : decode jdk_42_method_154_code 6 = .ok (.aload_n 0, 1) := by decide +kernel
theorem d14_7 : decode jdk_42_method_154_code 7 = .ok (.getfield 15, 3) := by decide +kernel
theorem d14_10 : decode jdk_42_method_154_code 10 = .ok (.ifCond .ne 7, 3) := by decide +kernel
theorem d14_13 : decode jdk_42_method_154_code 13 = .ok (.iconst 1, 1) := by decide +kernel
theorem d14_14 : decode jdk_42_method_154_code 14 = .ok (.goto 4, 3) := by decide +kernel
theorem d14_18 : decode jdk_42_method_154_code 18 = .ok (.ireturn, 1) := by decide +kernel
theorem ef_rm14 (m : MethodId) (a0 : Addr) : entryFrame m #[(.ref a0)] 1 = mkF m 0 #[.val (.ref a0)] [] := by first | (simp [entryFrame, mkF, argsToLocals, Value.category]; done) | rfl
def Q_rm14 (Z : State) (a0 : Addr) (zc : Int32) (h0 : Heap) (n0 : Nat) (v : Option Value) (h : Heap) (L : List Loc) : Prop := v = some (.int (1 : Int32)) ∧ Fr n0 L ∧ h = h0
set_option maxRecDepth 65536 in
set_option maxHeartbeats 40000000 in
theorem rm14 (l : Launch) (Z : State) (aw : Array Value) (hw : ∀ d ∈ tables_1, d.before aw Z = true) (ws : List Jvm.Cond) (a0 : Addr) (zc : Int32) (h0 : Heap) (n0 : Nat) (Z0 : n0 ≤ h0.size) (F_a0_coder : Fld Z h0 a0 "java/lang/String" "coder" "B" (.int (0 : Int32))) (OLD : Old Z n0 h0) (O_COMPACT_STRINGS : Sta Z Z.heap "java/lang/String" "COMPACT_STRINGS" "Z" (.int zc)) (hzc : ¬ (zc = (0 : Int32))) :
    MetFree l (⟨"java/lang/String", "isLatin1", "()Z"⟩ : MethodName) (head1 (Jvm.Cond.code (⟨"java/lang/String", "isLatin1", "()Z"⟩ : MethodName) jdk_42_method_154_code 1 (some .boolean) :: ws) ({ frames := 0, cells := 0, slots := 0, locals := 0 } : Room)) (fun a U => a = #[(.ref a0)] ∧ Z.Warmed39 U.vm ∧ U.heap = h0) (fun _ _ _ _ _ => True) (fun _ U o U' => ∃ v L, o = .returned v ∧ Q_rm14 Z a0 zc h0 n0 v U'.heap L ∧ FrameEnd U o U' L ({ frames := 0, cells := 0, slots := 0, locals := 0 } : Room).cells ({ frames := 0, cells := 0, slots := 0, locals := 0 } : Room).slots) := by
  refine MetFree.of_bodySF (plainFor_of_name pn_1) hisR ?_
  intro p e s m args below meth c s₁ Bd hml0 hP hK
  obtain ⟨rfl, hZ, hh⟩ := hP
  have hx := Bd.exec
  have hby := Bd.bytes
  have hml : c.maxLocals = 1 := hml0
  have hown : s.vm.findClass "java/lang/String" = some m.cls := findClass_of_methodNamed Bd.named
  have hnm := (name_of_methodNamed Bd.named Bd.method).1
  have X0 : Stand p l e ({ frames := 0, cells := 0, slots := 0, locals := 0 } : Room) s m #[(.ref a0)] below meth c s₁ [] 0 0 := Stand.of_body Bd
  have e0 : s₁.heap = h0 := by rw [← hh, Bd.state]; rfl
  have N0 := Fr.nil n0
  have pre0 : ∀ t, Steps p.tables e below (s₁.setTop (mkF m 0 #[.val (.ref a0)] [])) t → Steps p.tables e below (s₁.setTop (entryFrame m #[(.ref a0)] 1)) t := fun t k => castTop (ef_rm14 m a0) k
  obtain ⟨T805, X805, e805, st805⟩ := getS2 X0 hx hZ hown (host := "") (Or.inl (hw _ (List.mem_of_getElem? (i := 37) rfl))) Via.refl e0 (Sta.ext OLD.2 O_COMPACT_STRINGS) (g := (mkF m 0 #[.val (.ref a0)] [])) rfl (hb hby d14_0)
  have c806 : ¬ (zc = (0 : Int32)) := by
    exact hzc
  obtain ⟨T807, X807, e807, st807⟩ := getF X805 hx hZ hown (host := "") (Or.inl (hw _ (List.mem_of_getElem? (i := 25) rfl))) Via.refl e805 F_a0_coder (g := (mkF m 7 #[.val (.ref a0)] [(.ref a0)])) rfl rfl (hb hby d14_7)
  obtain ⟨fs, hr, hrun, hended, hW, hsame⟩ := X807.leave (v := some (.int (1 : Int32))) (fun h => by rw [Bd.returns] at h; cases h)
  refine ⟨_, _, pre0 _ ?_, hrun, hended, _, _, rfl, ?_, ⟨_, rfl⟩, hW, hsame.mono (by decide) (by decide)⟩
  ·
    show Steps p.tables e below (s₁.setTop (mkF m 0 #[.val (.ref a0)] [])) _
    refine st805 _ ?_
    show Steps p.tables e below (T805.setTop (mkF m 3 #[.val (.ref a0)] [(.int zc)])) _
    refine XS.ifNo X805.here hx rfl (hb hby d14_3) rfl ((if0 _ _).trans (feq c806).1) ?_
    show Steps p.tables e below (T805.setTop (mkF m 6 #[.val (.ref a0)] [])) _
    refine XS.aloadN X805.here hx rfl (hb hby d14_6) rfl rfl ?_
    show Steps p.tables e below (T805.setTop (mkF m 7 #[.val (.ref a0)] [(.ref a0)])) _
    refine st807 _ ?_
    show Steps p.tables e below (T807.setTop (mkF m 10 #[.val (.ref a0)] [(.int (0 : Int32))])) _
    refine XS.ifNo X807.here hx rfl (hb hby d14_10) rfl ((if0 _ _).trans (teq rfl).2) ?_
    show Steps p.tables e below (T807.setTop (mkF m 13 #[.val (.ref a0)] [])) _
    refine XS.iconst X807.here hx rfl (hb hby d14_13) ?_
    show Steps p.tables e below (T807.setTop (mkF m 14 #[.val (.ref a0)] [(.int (1 : Int32))])) _
    refine XS.goto X807.here hx rfl (pc0 := 14) (pc' := 18) rfl (hb hby d14_14) (by decide) (by decide) ?_
    show Steps p.tables e below (T807.setTop (mkF m 18 #[.val (.ref a0)] [(.int (1 : Int32))])) _
    exact retZ X807 hx Bd.returns (by decide) (hb hby d14_18) hr
  ·
    show Q_rm14 Z a0 zc h0 n0 _ T807.heap _
    rw [e807]
    exact ⟨rfl, N0, rfl⟩
theorem d13_0 : decode jdk_42_method_56_code 0 = .ok (.aload_n 0, 1) := by decide +kernel
theorem pd_9 : parseMethodDescriptor "()Z" = some ⟨[], some .boolean⟩ := by decide +kernel
theorem d13_1 : decode jdk_42_method_56_code 1 = .ok (.invokevirtual 492, 3) := by decide +kernel
theorem d13_4 : decode jdk_42_method_56_code 4 = .ok (.ifCond .eq 12, 3) := by decide +kernel
theorem d13_7 : decode jdk_42_method_56_code 7 = .ok (.aload_n 0, 1) := by decide +kernel
theorem d13_8 : decode jdk_42_method_56_code 8 = .ok (.getfield 9, 3) := by decide +kernel
theorem d13_11 : decode jdk_42_method_56_code 11 = .ok (.iload_n 1, 1) := by decide +kernel
theorem pd_10 : parseMethodDescriptor "([BI)C" = some ⟨[(.array .byte), .int], some .char⟩ := by decide +kernel
theorem d13_12 : decode jdk_42_method_56_code 12 = .ok (.invokestatic 495, 3) := by decide +kernel
theorem d13_15 : decode jdk_42_method_56_code 15 = .ok (.ireturn, 1) := by decide +kernel
theorem ef_rm13 (m : MethodId) (a0 : Addr) : entryFrame m #[(.ref a0), (.int (0 : Int32))] 2 = mkF m 0 #[.val (.ref a0), .val (.int (0 : Int32))] [] := by first | (simp [entryFrame, mkF, argsToLocals, Value.category]; done) | rfl
def Q_rm13 (Z : State) (a0 : Addr) (t : Addr) (k1 : ClassId) (w0 : Int32) (zc : Int32) (fv : Value) (h0 : Heap) (n0 : Nat) (v : Option Value) (h : Heap) (L : List Loc) : Prop := v = some (.int (nar .char (nar .char (((w0 &&& (255 : Int32)).toUInt32.toUInt16.toUInt32.toInt32))))) ∧ Fr n0 L ∧ h = h0
set_option maxRecDepth 65536 in
set_option maxHeartbeats 40000000 in
theorem rm13 (l : Launch) (Z : State) (aw : Array Value) (hw : ∀ d ∈ tables_1, d.before aw Z = true) (ws : List Jvm.Cond) (a0 : Addr) (t : Addr) (k1 : ClassId) (w0 : Int32) (zc : Int32) (fv : Value) (h0 : Heap) (n0 : Nat) (Z0 : n0 ≤ h0.size) (E_a0 : Exa Z h0 a0 "java/lang/String") (F_a0_coder : Fld Z h0 a0 "java/lang/String" "coder" "B" (.int (0 : Int32))) (F_a0_value : Fld Z h0 a0 "java/lang/String" "value" "[B" (.ref t)) (V_t : Arv Z h0 t k1 .byte (1 : Int32) [(.int w0)] (.int (0 : Int32))) (OLD : Old Z n0 h0) (O_COMPACT_STRINGS : Sta Z Z.heap "java/lang/String" "COMPACT_STRINGS" "Z" (.int zc)) (hzc : ¬ (zc = (0 : Int32))) (O_SIOOBE_FORMATTER : Sta Z Z.heap "jdk/internal/util/Preconditions" "SIOOBE_FORMATTER" "Ljava/util/function/BiFunction;" fv) (hfv : fv.isRef = true) :
    MetFree l (⟨"java/lang/String", "charAt", "(I)C"⟩ : MethodName) (head1 (Jvm.Cond.code (⟨"java/lang/String", "charAt", "(I)C"⟩ : MethodName) jdk_42_method_56_code 2 (some .char) :: ws) ({ frames := 3, cells := 0, slots := 0, locals := 40 } : Room)) (fun a U => a = #[(.ref a0), (.int (0 : Int32))] ∧ Z.Warmed39 U.vm ∧ U.heap = h0) (fun _ _ _ _ _ => True) (fun _ U o U' => ∃ v L, o = .returned v ∧ Q_rm13 Z a0 t k1 w0 zc fv h0 n0 v U'.heap L ∧ FrameEnd U o U' L ({ frames := 3, cells := 0, slots := 0, locals := 40 } : Room).cells ({ frames := 3, cells := 0, slots := 0, locals := 40 } : Room).slots) := by
  refine MetFree.of_bodySF (plainFor_of_name pn_1) hisR ?_
  intro p e s m args below meth c s₁ Bd hml0 hP hK
  obtain ⟨rfl, hZ, hh⟩ := hP
  have hx := Bd.exec
  have hby := Bd.bytes
  have hml : c.maxLocals = 2 := hml0
  have hown : s.vm.findClass "java/lang/String" = some m.cls := findClass_of_methodNamed Bd.named
  have hnm := (name_of_methodNamed Bd.named Bd.method).1
  have X0 : Stand p l e ({ frames := 3, cells := 0, slots := 0, locals := 40 } : Room) s m #[(.ref a0), (.int (0 : Int32))] below meth c s₁ [] 0 0 := Stand.of_body Bd
  have e0 : s₁.heap = h0 := by rw [← hh, Bd.state]; rfl
  have N0 := Fr.nil n0
  have pre0 : ∀ t, Steps p.tables e below (s₁.setTop (mkF m 0 #[.val (.ref a0), .val (.int (0 : Int32))] [])) t → Steps p.tables e below (s₁.setTop (entryFrame m #[(.ref a0), (.int (0 : Int32))] 2)) t := fun t k => castTop (ef_rm13 m a0) k
  obtain ⟨cq808, kq808, q808a, q808b, q808c⟩ := isOf hZ e0 E_a0
  obtain ⟨_, _, ⟨T808, L808, k808, n808⟩, -, X808, ⟨Lc808, hQ808, l808, y808, z808⟩, st808⟩ := X0.virtualBack hx (y := (⟨"java/lang/String", "isLatin1", "()Z"⟩ : MethodName)) (z := (⟨"java/lang/String", "isLatin1", "()Z"⟩ : MethodName)) hown (mvT hZ (hw _ (List.mem_of_getElem? (i := 71) rfl))) (mvT hZ (hw _ (List.mem_of_getElem? (i := 72) rfl))) (notFace_of_selects (args := #[]) (mvT hZ (hw _ (List.mem_of_getElem? (i := 74) rfl)))) (mvT hZ (hw _ (List.mem_of_getElem? (i := 74) rfl))) (mvT hZ (hw _ (List.mem_of_getElem? (i := 73) rfl))) (by decide) (backOf (W := 0) (rm14 l Z aw hw [] a0 zc h0 n0 Z0 F_a0_coder OLD O_COMPACT_STRINGS hzc) hZ (hw _ (List.mem_of_getElem? (i := 75) rfl)) (hw _ (List.mem_of_getElem? (i := 6) rfl)) (by decide) (by decide)) q808a q808c (g := (mkF m 1 #[.val (.ref a0), .val (.int (0 : Int32))] [(.ref a0)])) rfl (by rw [hml]; rfl) (Steps.refl _) (argsL := []) (rest := []) (lenOf pd_9 rfl) rfl (by show 2 * 0 + _ ≤ _; exact Nat.le_of_eq rfl) (hb hby d13_1) (fun _ _ => ⟨rfl, e0, (by decide : 0 + 0 ≤ _), (by decide : 0 + 0 ≤ _)⟩)
  dsimp only [Pt.U, Pt.locs, Pt.cells, Pt.slots] at X808 l808 y808 z808 st808 hQ808
  replace l808 := l808.symm; replace y808 := y808.symm; replace z808 := z808.symm; subst l808 y808 z808
  obtain ⟨rfl, N808q, e808⟩ := hQ808
  have N808 := Fr.app N0 N808q
  obtain ⟨T809, X809, e809, st809⟩ := getF X808 hx hZ hown (host := "") (Or.inl (hw _ (List.mem_of_getElem? (i := 24) rfl))) Via.refl e808 F_a0_value (g := (mkF m 8 #[.val (.ref a0), .val (.int (0 : Int32))] [(.ref a0)])) rfl rfl (hb hby d13_8)
  obtain ⟨_, _, ⟨T810, L810, k810, n810⟩, -, X810, ⟨Lc810, hQ810, l810, y810, z810⟩, st810⟩ := Jvm.LawKit.callS X809 hx (y := (⟨"java/lang/StringLatin1", "charAt", "([BI)C"⟩ : MethodName)) hown (mvT hZ (hw _ (List.mem_of_getElem? (i := 76) rfl))) (mvT hZ (hw _ (List.mem_of_getElem? (i := 77) rfl))) (mvT hZ (hw _ (List.mem_of_getElem? (i := 40) rfl))) (mvT hZ (hw _ (List.mem_of_getElem? (i := 78) rfl))) (by decide) (backOf (W := 0) (rm15 l Z aw hw [] t k1 w0 fv h0 n0 Z0 V_t OLD O_SIOOBE_FORMATTER hfv) hZ (hw _ (List.mem_of_getElem? (i := 78) rfl)) (hw _ (List.mem_of_getElem? (i := 40) rfl)) (by decide) (by decide)) (g := (mkF m 12 #[.val (.ref a0), .val (.int (0 : Int32))] [(.int (0 : Int32)), (.ref t)])) rfl (by rw [hml]; rfl) (argsL := [(.ref t), (.int (0 : Int32))]) (rest := []) (lenOf pd_10 rfl) rfl (by show 2 * 0 + _ ≤ _; exact Nat.le_of_eq rfl) (hb hby d13_12) (fun _ _ => ⟨rfl, e809, (by decide : 0 + 0 ≤ _), (by decide : 0 + 0 ≤ _)⟩)
  dsimp only [Pt.U, Pt.locs, Pt.cells, Pt.slots] at X810 l810 y810 z810 st810 hQ810
  replace l810 := l810.symm; replace y810 := y810.symm; replace z810 := z810.symm; subst l810 y810 z810
  obtain ⟨rfl, N810q, e810⟩ := hQ810
  have N810 := Fr.app N808 N810q
  obtain ⟨fs, hr, hrun, hended, hW, hsame⟩ := X810.leave (v := some (.int (nar .char (nar .char (((w0 &&& (255 : Int32)).toUInt32.toUInt16.toUInt32.toInt32)))))) (fun h => by rw [Bd.returns] at h; cases h)
  refine ⟨_, _, pre0 _ ?_, hrun, hended, _, _, rfl, ?_, ⟨_, rfl⟩, hW, hsame.mono (by decide) (by decide)⟩
  ·
    show Steps p.tables e below (s₁.setTop (mkF m 0 #[.val (.ref a0), .val (.int (0 : Int32))] [])) _
    refine XS.aloadN X0.here hx rfl (hb hby d13_0) rfl rfl ?_
    show Steps p.tables e below (s₁.setTop (mkF m 1 #[.val (.ref a0), .val (.int (0 : Int32))] [(.ref a0)])) _
    refine st808.trans ?_
    show Steps p.tables e below (T808.setTop (mkF m 4 #[.val (.ref a0), .val (.int (0 : Int32))] [(.int (1 : Int32))])) _
    refine XS.ifNo X808.here hx rfl (hb hby d13_4) rfl ((if0 _ _).trans (feq (by decide)).1) ?_
    show Steps p.tables e below (T808.setTop (mkF m 7 #[.val (.ref a0), .val (.int (0 : Int32))] [])) _
    refine XS.aloadN X808.here hx rfl (hb hby d13_7) rfl rfl ?_
    show Steps p.tables e below (T808.setTop (mkF m 8 #[.val (.ref a0), .val (.int (0 : Int32))] [(.ref a0)])) _
    refine st809 _ ?_
    show Steps p.tables e below (T809.setTop (mkF m 11 #[.val (.ref a0), .val (.int (0 : Int32))] [(.ref t)])) _
    refine XS.iloadN X809.here hx rfl (hb hby d13_11) rfl ?_
    show Steps p.tables e below (T809.setTop (mkF m 12 #[.val (.ref a0), .val (.int (0 : Int32))] [(.int (0 : Int32)), (.ref t)])) _
    refine st810 _ ?_
    show Steps p.tables e below (T810.setTop (mkF m 15 #[.val (.ref a0), .val (.int (0 : Int32))] [(.int (nar .char (((w0 &&& (255 : Int32)).toUInt32.toUInt16.toUInt32.toInt32))))])) _
    exact retN X810 hx (t := .char) Bd.returns (by simp) (hb hby d13_15) hr
  ·
    show Q_rm13 Z a0 t k1 w0 zc fv h0 n0 _ T810.heap _
    rw [e810]
    exact ⟨rfl, N810, rfl⟩
theorem d5_0 : decode prog_21_method_6_code 0 = .ok (.aload_n 0, 1) := by decide +kernel
theorem d5_1 : decode prog_21_method_6_code 1 = .ok (.ldc 79, 2) := by decide +kernel
theorem pd_11 : parseMethodDescriptor "(Ljava/lang/Object;)Z" = some ⟨[(.object "java/lang/Object")], some .boolean⟩ := by decide +kernel
theorem d5_3 : decode prog_21_method_6_code 3 = .ok (.invokevirtual 81, 3) := by decide +kernel
theorem d5_6 : decode prog_21_method_6_code 6 = .ok (.ifCond .eq 8, 3) := by decide +kernel
theorem d5_14 : decode prog_21_method_6_code 14 = .ok (.ldc 89, 2) := by decide +kernel
theorem d5_16 : decode prog_21_method_6_code 16 = .ok (.areturn, 1) := by decide +kernel
theorem pn_5 : plainName "com/example/reliquary/reliquary/Datastream" = true := by first | (simp [plainName, overriddenIn]; done) | decide +kernel
theorem ef_dm_0 (m : MethodId) (a0 : Addr) : entryFrame m #[(.ref a0)] 1 = mkF m 0 #[.val (.ref a0)] [] := by first | (simp [entryFrame, mkF, argsToLocals, Value.category]; done) | rfl
def Q_dm_0 (Z : State) (a0 : Addr) (t : Addr) (k1 : ClassId) (zc : Int32) (h0 : Heap) (n0 : Nat) (v : Option Value) (h : Heap) (L : List Loc) : Prop := ∃ rr : Addr, ∃ t2 : Addr, ∃ k2 : ClassId, v = some (.ref rr) ∧ Fr n0 L ∧ Keep h0 h [] ∧ Exa Z h rr "java/lang/String" ∧ Fld Z h rr "java/lang/String" "coder" "B" (.int (0 : Int32)) ∧ Fld Z h rr "java/lang/String" "value" "[B" (.ref t2) ∧ Arv Z h t2 k2 .byte (24 : Int32) [(.int (97 : Int32)), (.int (112 : Int32)), (.int (112 : Int32)), (.int (108 : Int32)), (.int (105 : Int32)), (.int (99 : Int32)), (.int (97 : Int32)), (.int (116 : Int32)), (.int (105 : Int32)), (.int (111 : Int32)), (.int (110 : Int32)), (.int (47 : Int32)), (.int (111 : Int32)), (.int (99 : Int32)), (.int (116 : Int32)), (.int (101 : Int32)), (.int (116 : Int32)), (.int (45 : Int32)), (.int (115 : Int32)), (.int (116 : Int32)), (.int (114 : Int32)), (.int (101 : Int32)), (.int (97 : Int32)), (.int (109 : Int32))] (.int (0 : Int32))
set_option maxRecDepth 65536 in
set_option maxHeartbeats 40000000 in
theorem dm_0 (l : Launch) (Z : State) (aw : Array Value) (hw : ∀ d ∈ tables_1, d.before aw Z = true) (ws : List Jvm.Cond) (a0 : Addr) (t : Addr) (k1 : ClassId) (zc : Int32) (h0 : Heap) (n0 : Nat) (Z0 : n0 ≤ h0.size) (E_a0 : Exa Z h0 a0 "java/lang/String") (F_a0_coder : Fld Z h0 a0 "java/lang/String" "coder" "B" (.int (0 : Int32))) (F_a0_value : Fld Z h0 a0 "java/lang/String" "value" "[B" (.ref t)) (V_t : Arv Z h0 t k1 .byte (0 : Int32) [] (.int (0 : Int32))) (OLD : Old Z n0 h0) (O_COMPACT_STRINGS : Sta Z Z.heap "java/lang/String" "COMPACT_STRINGS" "Z" (.int zc)) (hzc : ¬ (zc = (0 : Int32))) :
    MetFree l (⟨"com/example/reliquary/reliquary/Datastream", "defaultMimeType", "(Ljava/lang/String;)Ljava/lang/String;"⟩ : MethodName) (head1 (Jvm.Cond.code (⟨"com/example/reliquary/reliquary/Datastream", "defaultMimeType", "(Ljava/lang/String;)Ljava/lang/String;"⟩ : MethodName) prog_21_method_6_code 1 (some (.object "java/lang/String")) :: ws) ({ frames := 2, cells := 4, slots := 108, locals := 28 } : Room)) (fun a U => a = #[(.ref a0)] ∧ Z.Warmed39 U.vm ∧ U.heap = h0 ∧ CHv Z consts_1 U.vm h0 ∧ ∀ x ∈ ([] : List Addr), Safe Z consts_1 U.vm h0 x) (fun _ _ _ _ _ => True) (fun _ U o U' => ∃ v L, o = .returned v ∧ Q_dm_0 Z a0 t k1 zc h0 n0 v U'.heap L ∧ CHr Z consts_1 U.vm U.heap U'.vm U'.heap ∧ ReturnedEndW U o U' L ({ frames := 2, cells := 4, slots := 108, locals := 28 } : Room).cells ({ frames := 2, cells := 4, slots := 108, locals := 28 } : Room).slots) := by
  refine MetFree.of_bodySF (plainFor_of_name pn_5) hisR ?_
  intro p e s m args below meth c s₁ Bd hml0 hP hK
  obtain ⟨rfl, hZ, hh, CH0, hSF⟩ := hP
  have hx := Bd.exec
  have hby := Bd.bytes
  have hml : c.maxLocals = 1 := hml0
  have hown : s.vm.findClass "com/example/reliquary/reliquary/Datastream" = some m.cls := findClass_of_methodNamed Bd.named
  have hnm := (name_of_methodNamed Bd.named Bd.method).1
  have X0 : Stand p l e ({ frames := 2, cells := 4, slots := 108, locals := 28 } : Room) s m #[(.ref a0)] below meth c s₁ [] 0 0 := Stand.of_body Bd
  have e0 : s₁.heap = h0 := by rw [← hh, Bd.state]; rfl
  have N0 := Fr.nil n0
  have pre0 : ∀ t, Steps p.tables e below (s₁.setTop (mkF m 0 #[.val (.ref a0)] [])) t → Steps p.tables e below (s₁.setTop (entryFrame m #[(.ref a0)] 1)) t := fun t k => castTop (ef_dm_0 m a0) k
  have KC0 : Keep h0 h0 [] := Keep.refl h0 []
  have hS0 : s.Since s.vm h0.size := (State.WarmedH.refl s).since _
  have hk0 : h0.size ≤ h0.size := Nat.le_refl _
  have CR0 : CHr Z consts_1 s.vm h0 s.vm h0 := CHr.refl CH0
  obtain ⟨a811, T811, h811, k811, b811, kb811, X811, e811, E811, hS811, hk811, hZ811, hown811, fE811, fC811, fV811, fA811, -, -, R811, Li811, Df811, st811⟩ := ldcCH (vm0 := s.vm) X0 hx hZ hown (hw _ (List.mem_of_getElem? (i := 30) rfl)) (own_wS hw) e0 hS0 hk0 (own_EW hw) (List.mem_of_getElem? (i := 0) rfl) CH0 (vs := [(.int (88 : Int32))]) (z := (1 : Int32)) ⟨by decide, by decide⟩ (by decide) (by decide) (g := (mkF m 1 #[.val (.ref a0)] [(.ref a0)])) rfl (hb hby d5_1) (n := 4) (by decide) (by decide) (by decide) (by decide)
  have CR812 := CHr.trans CR0 R811
  have CH813 := R811.1
  have f814 := E_a0.ext E811
  have f815 := F_a0_coder.ext E811
  have f816 := F_a0_value.ext E811
  have f817 := V_t.ext E811
  have Z818 : n0 ≤ h811.size := Nat.le_trans Z0 E811.1
  have K819 : Keep h0 h811 [] := Keep.ext KC0 E811
  have O820 := Old.ext OLD E811
  have ne821 : a0 ≠ a811 := own_neS f816 fV811 f817 fA811 (by decide)
  obtain ⟨cq822, kq822, q822a, q822b, q822c⟩ := isOf hZ811 e811 f814
  obtain ⟨_, _, ⟨T822, L822, k822, n822⟩, -, X822, ⟨Lc822, hQ822, l822, y822, z822⟩, st822⟩ := X811.virtualBack hx (y := (⟨"java/lang/String", "equals", "(Ljava/lang/Object;)Z"⟩ : MethodName)) (z := (⟨"java/lang/String", "equals", "(Ljava/lang/Object;)Z"⟩ : MethodName)) hown811 (mvT hZ811 (hw _ (List.mem_of_getElem? (i := 31) rfl))) (mvT hZ811 (hw _ (List.mem_of_getElem? (i := 32) rfl))) (notFace_of_selects (args := #[]) (mvT hZ811 (hw _ (List.mem_of_getElem? (i := 34) rfl)))) (mvT hZ811 (hw _ (List.mem_of_getElem? (i := 34) rfl))) (mvT hZ811 (hw _ (List.mem_of_getElem? (i := 33) rfl))) (by decide) (backOf (W := 0) (eq_n0 l Z aw hw [] a0 a811 t b811 k1 kb811 zc h811 n0 Z818 fE811 f815 f816 fC811 fV811 f817 fA811 O820 O_COMPACT_STRINGS hzc ne821) hZ811 (hw _ (List.mem_of_getElem? (i := 35) rfl)) (hw _ (List.mem_of_getElem? (i := 6) rfl)) (by decide) (by decide)) q822a q822c (g := (mkF m 3 #[.val (.ref a0)] [(.ref a811), (.ref a0)])) rfl (by rw [hml]; rfl) (Steps.refl _) (argsL := [(.ref a811)]) (rest := []) (lenOf pd_11 rfl) rfl (by show 2 * 0 + _ ≤ _; exact Nat.le_of_eq rfl) (hb hby d5_3) (fun _ _ => ⟨rfl, e811, (by decide : 2 + 0 ≤ _), (by decide : 8 + 0 ≤ _)⟩)
  dsimp only [Pt.U, Pt.locs, Pt.cells, Pt.slots] at X822 l822 y822 z822 st822 hQ822
  replace l822 := l822.symm; replace y822 := y822.symm; replace z822 := z822.symm; subst l822 y822 z822
  obtain ⟨rfl, N822q, e822⟩ := hQ822
  have N822 := Fr.app N0 N822q
  obtain ⟨a823, T823, h823, k823, b823, kb823, X823, e823, E823, hS823, hk823, hZ823, hown823, fE823, fC823, fV823, fA823, -, -, R823, Li823, Df823, st823⟩ := ldcCH (vm0 := T811.vm) X822 hx hZ811 hown811 (hw _ (List.mem_of_getElem? (i := 42) rfl)) (own_wS hw) e822 hS811 hk811 (own_EW hw) (List.mem_of_getElem? (i := 2) rfl) CH813 (vs := [(.int (97 : Int32)), (.int (112 : Int32)), (.int (112 : Int32)), (.int (108 : Int32)), (.int (105 : Int32)), (.int (99 : Int32)), (.int (97 : Int32)), (.int (116 : Int32)), (.int (105 : Int32)), (.int (111 : Int32)), (.int (110 : Int32)), (.int (47 : Int32)), (.int (111 : Int32)), (.int (99 : Int32)), (.int (116 : Int32)), (.int (101 : Int32)), (.int (116 : Int32)), (.int (45 : Int32)), (.int (115 : Int32)), (.int (116 : Int32)), (.int (114 : Int32)), (.int (101 : Int32)), (.int (97 : Int32)), (.int (109 : Int32))]) (z := (24 : Int32)) ⟨by decide, by decide⟩ (by decide) (by decide) (g := (mkF m 14 #[.val (.ref a0)] [])) rfl (hb hby d5_14) (n := 96) (by decide) (by decide) (by decide) (by decide)
  have CR824 := CHr.trans CR812 R823
  have CH825 := R823.1
  have f826 := f814.ext E823
  have f827 := f815.ext E823
  have f828 := f816.ext E823
  have f829 := f817.ext E823
  have f830 := fE811.ext E823
  have f831 := fC811.ext E823
  have f832 := fV811.ext E823
  have f833 := fA811.ext E823
  have Z834 : n0 ≤ h823.size := Nat.le_trans Z818 E823.1
  have K835 : Keep h0 h823 [] := Keep.ext K819 E823
  have O836 := Old.ext O820 E823
  obtain ⟨fs, hr, hrun, hended, hEW⟩ := Stand.leaveW X823 hS823 (by rw [e823]; exact hk823) (v := some (.ref a823)) (fun h => by rw [Bd.returns] at h; cases h)
  refine ⟨_, _, pre0 _ ?_, hrun, hended, _, _, rfl, ?_, ?_, hEW.1, hEW.2.1, hEW.2.2.1, hEW.2.2.2.mono (by decide) (by decide)⟩
  ·
    show Steps p.tables e below (s₁.setTop (mkF m 0 #[.val (.ref a0)] [])) _
    refine XS.aloadN X0.here hx rfl (hb hby d5_0) rfl rfl ?_
    show Steps p.tables e below (s₁.setTop (mkF m 1 #[.val (.ref a0)] [(.ref a0)])) _
    refine st811 _ ?_
    show Steps p.tables e below (T811.setTop (mkF m 3 #[.val (.ref a0)] [(.ref a811), (.ref a0)])) _
    refine st822.trans ?_
    show Steps p.tables e below (T822.setTop (mkF m 6 #[.val (.ref a0)] [(.int (0 : Int32))])) _
    refine XS.ifYes X822.here hx rfl (pc0 := 6) (pc' := 14) rfl (hb hby d5_6) rfl ((if0 _ _).trans (teq rfl).1) (by decide) (by decide) ?_
    show Steps p.tables e below (T822.setTop (mkF m 14 #[.val (.ref a0)] [])) _
    refine st823 _ ?_
    show Steps p.tables e below (T823.setTop (mkF m 16 #[.val (.ref a0)] [(.ref a823)])) _
    exact retA X823 hx rfl rfl Bd.returns (hb hby d5_16) hr
  ·
    show Q_dm_0 Z a0 t k1 zc h0 n0 _ T823.heap _
    rw [e823]
    exact ⟨a823, b823, kb823, rfl, N822, K835, fE823, fC823, fV823, fA823⟩
  ·
    rw [hh]
    show CHr Z consts_1 s.vm h0 T823.vm T823.heap
    rw [e823]
    exact CHr.trans CR824 (CHv.at (vm0 := T823.vm) X823 hZ823 (own_EW hw) CH825)
theorem ef_dm_2 (m : MethodId) (a0 : Addr) : entryFrame m #[(.ref a0)] 1 = mkF m 0 #[.val (.ref a0)] [] := by first | (simp [entryFrame, mkF, argsToLocals, Value.category]; done) | rfl
def Q_dm_2 (Z : State) (a0 : Addr) (t : Addr) (k1 : ClassId) (w0 : Int32) (w1 : Int32) (zc : Int32) (h0 : Heap) (n0 : Nat) (v : Option Value) (h : Heap) (L : List Loc) : Prop := ∃ rr : Addr, ∃ t2 : Addr, ∃ k2 : ClassId, v = some (.ref rr) ∧ Fr n0 L ∧ Keep h0 h [] ∧ Exa Z h rr "java/lang/String" ∧ Fld Z h rr "java/lang/String" "coder" "B" (.int (0 : Int32)) ∧ Fld Z h rr "java/lang/String" "value" "[B" (.ref t2) ∧ Arv Z h t2 k2 .byte (24 : Int32) [(.int (97 : Int32)), (.int (112 : Int32)), (.int (112 : Int32)), (.int (108 : Int32)), (.int (105 : Int32)), (.int (99 : Int32)), (.int (97 : Int32)), (.int (116 : Int32)), (.int (105 : Int32)), (.int (111 : Int32)), (.int (110 : Int32)), (.int (47 : Int32)), (.int (111 : Int32)), (.int (99 : Int32)), (.int (116 : Int32)), (.int (101 : Int32)), (.int (116 : Int32)), (.int (45 : Int32)), (.int (115 : Int32)), (.int (116 : Int32)), (.int (114 : Int32)), (.int (101 : Int32)), (.int (97 : Int32)), (.int (109 : Int32))] (.int (0 : Int32))
set_option maxRecDepth 65536 in
set_option maxHeartbeats 40000000 in
theorem dm_2 (l : Launch) (Z : State) (aw : Array Value) (hw : ∀ d ∈ tables_1, d.before aw Z = true) (ws : List Jvm.Cond) (a0 : Addr) (t : Addr) (k1 : ClassId) (w0 : Int32) (w1 : Int32) (zc : Int32) (h0 : Heap) (n0 : Nat) (Z0 : n0 ≤ h0.size) (E_a0 : Exa Z h0 a0 "java/lang/String") (F_a0_coder : Fld Z h0 a0 "java/lang/String" "coder" "B" (.int (0 : Int32))) (F_a0_value : Fld Z h0 a0 "java/lang/String" "value" "[B" (.ref t)) (V_t : Arv Z h0 t k1 .byte (2 : Int32) [(.int w0), (.int w1)] (.int (0 : Int32))) (OLD : Old Z n0 h0) (O_COMPACT_STRINGS : Sta Z Z.heap "java/lang/String" "COMPACT_STRINGS" "Z" (.int zc)) (hzc : ¬ (zc = (0 : Int32))) :
    MetFree l (⟨"com/example/reliquary/reliquary/Datastream", "defaultMimeType", "(Ljava/lang/String;)Ljava/lang/String;"⟩ : MethodName) (head1 (Jvm.Cond.code (⟨"com/example/reliquary/reliquary/Datastream", "defaultMimeType", "(Ljava/lang/String;)Ljava/lang/String;"⟩ : MethodName) prog_21_method_6_code 1 (some (.object "java/lang/String")) :: ws) ({ frames := 2, cells := 4, slots := 108, locals := 28 } : Room)) (fun a U => a = #[(.ref a0)] ∧ Z.Warmed39 U.vm ∧ U.heap = h0 ∧ CHv Z consts_1 U.vm h0 ∧ ∀ x ∈ ([] : List Addr), Safe Z consts_1 U.vm h0 x) (fun _ _ _ _ _ => True) (fun _ U o U' => ∃ v L, o = .returned v ∧ Q_dm_2 Z a0 t k1 w0 w1 zc h0 n0 v U'.heap L ∧ CHr Z consts_1 U.vm U.heap U'.vm U'.heap ∧ ReturnedEndW U o U' L ({ frames := 2, cells := 4, slots := 108, locals := 28 } : Room).cells ({ frames := 2, cells := 4, slots := 108, locals := 28 } : Room).slots) := by
  refine MetFree.of_bodySF (plainFor_of_name pn_5) hisR ?_
  intro p e s m args below meth c s₁ Bd hml0 hP hK
  obtain ⟨rfl, hZ, hh, CH0, hSF⟩ := hP
  have hx := Bd.exec
  have hby := Bd.bytes
  have hml : c.maxLocals = 1 := hml0
  have hown : s.vm.findClass "com/example/reliquary/reliquary/Datastream" = some m.cls := findClass_of_methodNamed Bd.named
  have hnm := (name_of_methodNamed Bd.named Bd.method).1
  have X0 : Stand p l e ({ frames := 2, cells := 4, slots := 108, locals := 28 } : Room) s m #[(.ref a0)] below meth c s₁ [] 0 0 := Stand.of_body Bd
  have e0 : s₁.heap = h0 := by rw [← hh, Bd.state]; rfl
  have N0 := Fr.nil n0
  have pre0 : ∀ t, Steps p.tables e below (s₁.setTop (mkF m 0 #[.val (.ref a0)] [])) t → Steps p.tables e below (s₁.setTop (entryFrame m #[(.ref a0)] 1)) t := fun t k => castTop (ef_dm_2 m a0) k
  have KC0 : Keep h0 h0 [] := Keep.refl h0 []
  have hS0 : s.Since s.vm h0.size := (State.WarmedH.refl s).since _
  have hk0 : h0.size ≤ h0.size := Nat.le_refl _
  have CR0 : CHr Z consts_1 s.vm h0 s.vm h0 := CHr.refl CH0
  obtain ⟨a837, T837, h837, k837, b837, kb837, X837, e837, E837, hS837, hk837, hZ837, hown837, fE837, fC837, fV837, fA837, -, -, R837, Li837, Df837, st837⟩ := ldcCH (vm0 := s.vm) X0 hx hZ hown (hw _ (List.mem_of_getElem? (i := 30) rfl)) (own_wS hw) e0 hS0 hk0 (own_EW hw) (List.mem_of_getElem? (i := 0) rfl) CH0 (vs := [(.int (88 : Int32))]) (z := (1 : Int32)) ⟨by decide, by decide⟩ (by decide) (by decide) (g := (mkF m 1 #[.val (.ref a0)] [(.ref a0)])) rfl (hb hby d5_1) (n := 4) (by decide) (by decide) (by decide) (by decide)
  have CR838 := CHr.trans CR0 R837
  have CH839 := R837.1
  have f840 := E_a0.ext E837
  have f841 := F_a0_coder.ext E837
  have f842 := F_a0_value.ext E837
  have f843 := V_t.ext E837
  have Z844 : n0 ≤ h837.size := Nat.le_trans Z0 E837.1
  have K845 : Keep h0 h837 [] := Keep.ext KC0 E837
  have O846 := Old.ext OLD E837
  have ne847 : a0 ≠ a837 := own_neS f842 fV837 f843 fA837 (by decide)
  obtain ⟨cq848, kq848, q848a, q848b, q848c⟩ := isOf hZ837 e837 f840
  obtain ⟨_, _, ⟨T848, L848, k848, n848⟩, -, X848, ⟨Lc848, hQ848, l848, y848, z848⟩, st848⟩ := X837.virtualBack hx (y := (⟨"java/lang/String", "equals", "(Ljava/lang/Object;)Z"⟩ : MethodName)) (z := (⟨"java/lang/String", "equals", "(Ljava/lang/Object;)Z"⟩ : MethodName)) hown837 (mvT hZ837 (hw _ (List.mem_of_getElem? (i := 31) rfl))) (mvT hZ837 (hw _ (List.mem_of_getElem? (i := 32) rfl))) (notFace_of_selects (args := #[]) (mvT hZ837 (hw _ (List.mem_of_getElem? (i := 34) rfl)))) (mvT hZ837 (hw _ (List.mem_of_getElem? (i := 34) rfl))) (mvT hZ837 (hw _ (List.mem_of_getElem? (i := 33) rfl))) (by decide) (backOf (W := 0) (eq_n2 l Z aw hw [] a0 a837 t b837 k1 kb837 w0 w1 zc h837 n0 Z844 fE837 f841 f842 fC837 fV837 f843 fA837 O846 O_COMPACT_STRINGS hzc ne847) hZ837 (hw _ (List.mem_of_getElem? (i := 35) rfl)) (hw _ (List.mem_of_getElem? (i := 6) rfl)) (by decide) (by decide)) q848a q848c (g := (mkF m 3 #[.val (.ref a0)] [(.ref a837), (.ref a0)])) rfl (by rw [hml]; rfl) (Steps.refl _) (argsL := [(.ref a837)]) (rest := []) (lenOf pd_11 rfl) rfl (by show 2 * 0 + _ ≤ _; exact Nat.le_of_eq rfl) (hb hby d5_3) (fun _ _ => ⟨rfl, e837, (by decide : 2 + 0 ≤ _), (by decide : 8 + 0 ≤ _)⟩)
  dsimp only [Pt.U, Pt.locs, Pt.cells, Pt.slots] at X848 l848 y848 z848 st848 hQ848
  replace l848 := l848.symm; replace y848 := y848.symm; replace z848 := z848.symm; subst l848 y848 z848
  obtain ⟨rfl, N848q, e848⟩ := hQ848
  have N848 := Fr.app N0 N848q
  obtain ⟨a849, T849, h849, k849, b849, kb849, X849, e849, E849, hS849, hk849, hZ849, hown849, fE849, fC849, fV849, fA849, -, -, R849, Li849, Df849, st849⟩ := ldcCH (vm0 := T837.vm) X848 hx hZ837 hown837 (hw _ (List.mem_of_getElem? (i := 42) rfl)) (own_wS hw) e848 hS837 hk837 (own_EW hw) (List.mem_of_getElem? (i := 2) rfl) CH839 (vs := [(.int (97 : Int32)), (.int (112 : Int32)), (.int (112 : Int32)), (.int (108 : Int32)), (.int (105 : Int32)), (.int (99 : Int32)), (.int (97 : Int32)), (.int (116 : Int32)), (.int (105 : Int32)), (.int (111 : Int32)), (.int (110 : Int32)), (.int (47 : Int32)), (.int (111 : Int32)), (.int (99 : Int32)), (.int (116 : Int32)), (.int (101 : Int32)), (.int (116 : Int32)), (.int (45 : Int32)), (.int (115 : Int32)), (.int (116 : Int32)), (.int (114 : Int32)), (.int (101 : Int32)), (.int (97 : Int32)), (.int (109 : Int32))]) (z := (24 : Int32)) ⟨by decide, by decide⟩ (by decide) (by decide) (g := (mkF m 14 #[.val (.ref a0)] [])) rfl (hb hby d5_14) (n := 96) (by decide) (by decide) (by decide) (by decide)
  have CR850 := CHr.trans CR838 R849
  have CH851 := R849.1
  have f852 := f840.ext E849
  have f853 := f841.ext E849
  have f854 := f842.ext E849
  have f855 := f843.ext E849
  have f856 := fE837.ext E849
  have f857 := fC837.ext E849
  have f858 := fV837.ext E849
  have f859 := fA837.ext E849
  have Z860 : n0 ≤ h849.size := Nat.le_trans Z844 E849.1
  have K861 : Keep h0 h849 [] := Keep.ext K845 E849
  have O862 := Old.ext O846 E849
  obtain ⟨fs, hr, hrun, hended, hEW⟩ := Stand.leaveW X849 hS849 (by rw [e849]; exact hk849) (v := some (.ref a849)) (fun h => by rw [Bd.returns] at h; cases h)
  refine ⟨_, _, pre0 _ ?_, hrun, hended, _, _, rfl, ?_, ?_, hEW.1, hEW.2.1, hEW.2.2.1, hEW.2.2.2.mono (by decide) (by decide)⟩
  ·
    show Steps p.tables e below (s₁.setTop (mkF m 0 #[.val (.ref a0)] [])) _
    refine XS.aloadN X0.here hx rfl (hb hby d5_0) rfl rfl ?_
    show Steps p.tables e below (s₁.setTop (mkF m 1 #[.val (.ref a0)] [(.ref a0)])) _
    refine st837 _ ?_
    show Steps p.tables e below (T837.setTop (mkF m 3 #[.val (.ref a0)] [(.ref a837), (.ref a0)])) _
    refine st848.trans ?_
    show Steps p.tables e below (T848.setTop (mkF m 6 #[.val (.ref a0)] [(.int (0 : Int32))])) _
    refine XS.ifYes X848.here hx rfl (pc0 := 6) (pc' := 14) rfl (hb hby d5_6) rfl ((if0 _ _).trans (teq rfl).1) (by decide) (by decide) ?_
    show Steps p.tables e below (T848.setTop (mkF m 14 #[.val (.ref a0)] [])) _
    refine st849 _ ?_
    show Steps p.tables e below (T849.setTop (mkF m 16 #[.val (.ref a0)] [(.ref a849)])) _
    exact retA X849 hx rfl rfl Bd.returns (hb hby d5_16) hr
  ·
    show Q_dm_2 Z a0 t k1 w0 w1 zc h0 n0 _ T849.heap _
    rw [e849]
    exact ⟨a849, b849, kb849, rfl, N848, K861, fE849, fC849, fV849, fA849⟩
  ·
    rw [hh]
    show CHr Z consts_1 s.vm h0 T849.vm T849.heap
    rw [e849]
    exact CHr.trans CR850 (CHv.at (vm0 := T849.vm) X849 hZ849 (own_EW hw) CH851)
theorem ef_dm_3 (m : MethodId) (a0 : Addr) : entryFrame m #[(.ref a0)] 1 = mkF m 0 #[.val (.ref a0)] [] := by first | (simp [entryFrame, mkF, argsToLocals, Value.category]; done) | rfl
def Q_dm_3 (Z : State) (a0 : Addr) (t : Addr) (k1 : ClassId) (w0 : Int32) (w1 : Int32) (w2 : Int32) (zc : Int32) (h0 : Heap) (n0 : Nat) (v : Option Value) (h : Heap) (L : List Loc) : Prop := ∃ rr : Addr, ∃ t2 : Addr, ∃ k2 : ClassId, v = some (.ref rr) ∧ Fr n0 L ∧ Keep h0 h [] ∧ Exa Z h rr "java/lang/String" ∧ Fld Z h rr "java/lang/String" "coder" "B" (.int (0 : Int32)) ∧ Fld Z h rr "java/lang/String" "value" "[B" (.ref t2) ∧ Arv Z h t2 k2 .byte (24 : Int32) [(.int (97 : Int32)), (.int (112 : Int32)), (.int (112 : Int32)), (.int (108 : Int32)), (.int (105 : Int32)), (.int (99 : Int32)), (.int (97 : Int32)), (.int (116 : Int32)), (.int (105 : Int32)), (.int (111 : Int32)), (.int (110 : Int32)), (.int (47 : Int32)), (.int (111 : Int32)), (.int (99 : Int32)), (.int (116 : Int32)), (.int (101 : Int32)), (.int (116 : Int32)), (.int (45 : Int32)), (.int (115 : Int32)), (.int (116 : Int32)), (.int (114 : Int32)), (.int (101 : Int32)), (.int (97 : Int32)), (.int (109 : Int32))] (.int (0 : Int32))
set_option maxRecDepth 65536 in
set_option maxHeartbeats 40000000 in
theorem dm_3 (l : Launch) (Z : State) (aw : Array Value) (hw : ∀ d ∈ tables_1, d.before aw Z = true) (ws : List Jvm.Cond) (a0 : Addr) (t : Addr) (k1 : ClassId) (w0 : Int32) (w1 : Int32) (w2 : Int32) (zc : Int32) (h0 : Heap) (n0 : Nat) (Z0 : n0 ≤ h0.size) (E_a0 : Exa Z h0 a0 "java/lang/String") (F_a0_coder : Fld Z h0 a0 "java/lang/String" "coder" "B" (.int (0 : Int32))) (F_a0_value : Fld Z h0 a0 "java/lang/String" "value" "[B" (.ref t)) (V_t : Arv Z h0 t k1 .byte (3 : Int32) [(.int w0), (.int w1), (.int w2)] (.int (0 : Int32))) (OLD : Old Z n0 h0) (O_COMPACT_STRINGS : Sta Z Z.heap "java/lang/String" "COMPACT_STRINGS" "Z" (.int zc)) (hzc : ¬ (zc = (0 : Int32))) :
    MetFree l (⟨"com/example/reliquary/reliquary/Datastream", "defaultMimeType", "(Ljava/lang/String;)Ljava/lang/String;"⟩ : MethodName) (head1 (Jvm.Cond.code (⟨"com/example/reliquary/reliquary/Datastream", "defaultMimeType", "(Ljava/lang/String;)Ljava/lang/String;"⟩ : MethodName) prog_21_method_6_code 1 (some (.object "java/lang/String")) :: ws) ({ frames := 2, cells := 4, slots := 108, locals := 28 } : Room)) (fun a U => a = #[(.ref a0)] ∧ Z.Warmed39 U.vm ∧ U.heap = h0 ∧ CHv Z consts_1 U.vm h0 ∧ ∀ x ∈ ([] : List Addr), Safe Z consts_1 U.vm h0 x) (fun _ _ _ _ _ => True) (fun _ U o U' => ∃ v L, o = .returned v ∧ Q_dm_3 Z a0 t k1 w0 w1 w2 zc h0 n0 v U'.heap L ∧ CHr Z consts_1 U.vm U.heap U'.vm U'.heap ∧ ReturnedEndW U o U' L ({ frames := 2, cells := 4, slots := 108, locals := 28 } : Room).cells ({ frames := 2, cells := 4, slots := 108, locals := 28 } : Room).slots) := by
  refine MetFree.of_bodySF (plainFor_of_name pn_5) hisR ?_
  intro p e s m args below meth c s₁ Bd hml0 hP hK
  obtain ⟨rfl, hZ, hh, CH0, hSF⟩ := hP
  have hx := Bd.exec
  have hby := Bd.bytes
  have hml : c.maxLocals = 1 := hml0
  have hown : s.vm.findClass "com/example/reliquary/reliquary/Datastream" = some m.cls := findClass_of_methodNamed Bd.named
  have hnm := (name_of_methodNamed Bd.named Bd.method).1
  have X0 : Stand p l e ({ frames := 2, cells := 4, slots := 108, locals := 28 } : Room) s m #[(.ref a0)] below meth c s₁ [] 0 0 := Stand.of_body Bd
  have e0 : s₁.heap = h0 := by rw [← hh, Bd.state]; rfl
  have N0 := Fr.nil n0
  have pre0 : ∀ t, Steps p.tables e below (s₁.setTop (mkF m 0 #[.val (.ref a0)] [])) t → Steps p.tables e below (s₁.setTop (entryFrame m #[(.ref a0)] 1)) t := fun t k => castTop (ef_dm_3 m a0) k
  have KC0 : Keep h0 h0 [] := Keep.refl h0 []
  have hS0 : s.Since s.vm h0.size := (State.WarmedH.refl s).since _
  have hk0 : h0.size ≤ h0.size := Nat.le_refl _
  have CR0 : CHr Z consts_1 s.vm h0 s.vm h0 := CHr.refl CH0
  obtain ⟨a863, T863, h863, k863, b863, kb863, X863, e863, E863, hS863, hk863, hZ863, hown863, fE863, fC863, fV863, fA863, -, -, R863, Li863, Df863, st863⟩ := ldcCH (vm0 := s.vm) X0 hx hZ hown (hw _ (List.mem_of_getElem? (i := 30) rfl)) (own_wS hw) e0 hS0 hk0 (own_EW hw) (List.mem_of_getElem? (i := 0) rfl) CH0 (vs := [(.int (88 : Int32))]) (z := (1 : Int32)) ⟨by decide, by decide⟩ (by decide) (by decide) (g := (mkF m 1 #[.val (.ref a0)] [(.ref a0)])) rfl (hb hby d5_1) (n := 4) (by decide) (by decide) (by decide) (by decide)
  have CR864 := CHr.trans CR0 R863
  have CH865 := R863.1
  have f866 := E_a0.ext E863
  have f867 := F_a0_coder.ext E863
  have f868 := F_a0_value.ext E863
  have f869 := V_t.ext E863
  have Z870 : n0 ≤ h863.size := Nat.le_trans Z0 E863.1
  have K871 : Keep h0 h863 [] := Keep.ext KC0 E863
  have O872 := Old.ext OLD E863
  have ne873 : a0 ≠ a863 := own_neS f868 fV863 f869 fA863 (by decide)
  obtain ⟨cq874, kq874, q874a, q874b, q874c⟩ := isOf hZ863 e863 f866
  obtain ⟨_, _, ⟨T874, L874, k874, n874⟩, -, X874, ⟨Lc874, hQ874, l874, y874, z874⟩, st874⟩ := X863.virtualBack hx (y := (⟨"java/lang/String", "equals", "(Ljava/lang/Object;)Z"⟩ : MethodName)) (z := (⟨"java/lang/String", "equals", "(Ljava/lang/Object;)Z"⟩ : MethodName)) hown863 (mvT hZ863 (hw _ (List.mem_of_getElem? (i := 31) rfl))) (mvT hZ863 (hw _ (List.mem_of_getElem? (i := 32) rfl))) (notFace_of_selects (args := #[]) (mvT hZ863 (hw _ (List.mem_of_getElem? (i := 34) rfl)))) (mvT hZ863 (hw _ (List.mem_of_getElem? (i := 34) rfl))) (mvT hZ863 (hw _ (List.mem_of_getElem? (i := 33) rfl))) (by decide) (backOf (W := 0) (eq_n3 l Z aw hw [] a0 a863 t b863 k1 kb863 w0 w1 w2 zc h863 n0 Z870 fE863 f867 f868 fC863 fV863 f869 fA863 O872 O_COMPACT_STRINGS hzc ne873) hZ863 (hw _ (List.mem_of_getElem? (i := 35) rfl)) (hw _ (List.mem_of_getElem? (i := 6) rfl)) (by decide) (by decide)) q874a q874c (g := (mkF m 3 #[.val (.ref a0)] [(.ref a863), (.ref a0)])) rfl (by rw [hml]; rfl) (Steps.refl _) (argsL := [(.ref a863)]) (rest := []) (lenOf pd_11 rfl) rfl (by show 2 * 0 + _ ≤ _; exact Nat.le_of_eq rfl) (hb hby d5_3) (fun _ _ => ⟨rfl, e863, (by decide : 2 + 0 ≤ _), (by decide : 8 + 0 ≤ _)⟩)
  dsimp only [Pt.U, Pt.locs, Pt.cells, Pt.slots] at X874 l874 y874 z874 st874 hQ874
  replace l874 := l874.symm; replace y874 := y874.symm; replace z874 := z874.symm; subst l874 y874 z874
  obtain ⟨rfl, N874q, e874⟩ := hQ874
  have N874 := Fr.app N0 N874q
  obtain ⟨a875, T875, h875, k875, b875, kb875, X875, e875, E875, hS875, hk875, hZ875, hown875, fE875, fC875, fV875, fA875, -, -, R875, Li875, Df875, st875⟩ := ldcCH (vm0 := T863.vm) X874 hx hZ863 hown863 (hw _ (List.mem_of_getElem? (i := 42) rfl)) (own_wS hw) e874 hS863 hk863 (own_EW hw) (List.mem_of_getElem? (i := 2) rfl) CH865 (vs := [(.int (97 : Int32)), (.int (112 : Int32)), (.int (112 : Int32)), (.int (108 : Int32)), (.int (105 : Int32)), (.int (99 : Int32)), (.int (97 : Int32)), (.int (116 : Int32)), (.int (105 : Int32)), (.int (111 : Int32)), (.int (110 : Int32)), (.int (47 : Int32)), (.int (111 : Int32)), (.int (99 : Int32)), (.int (116 : Int32)), (.int (101 : Int32)), (.int (116 : Int32)), (.int (45 : Int32)), (.int (115 : Int32)), (.int (116 : Int32)), (.int (114 : Int32)), (.int (101 : Int32)), (.int (97 : Int32)), (.int (109 : Int32))]) (z := (24 : Int32)) ⟨by decide, by decide⟩ (by decide) (by decide) (g := (mkF m 14 #[.val (.ref a0)] [])) rfl (hb hby d5_14) (n := 96) (by decide) (by decide) (by decide) (by decide)
  have CR876 := CHr.trans CR864 R875
  have CH877 := R875.1
  have f878 := f866.ext E875
  have f879 := f867.ext E875
  have f880 := f868.ext E875
  have f881 := f869.ext E875
  have f882 := fE863.ext E875
  have f883 := fC863.ext E875
  have f884 := fV863.ext E875
  have f885 := fA863.ext E875
  have Z886 : n0 ≤ h875.size := Nat.le_trans Z870 E875.1
  have K887 : Keep h0 h875 [] := Keep.ext K871 E875
  have O888 := Old.ext O872 E875
  obtain ⟨fs, hr, hrun, hended, hEW⟩ := Stand.leaveW X875 hS875 (by rw [e875]; exact hk875) (v := some (.ref a875)) (fun h => by rw [Bd.returns] at h; cases h)
  refine ⟨_, _, pre0 _ ?_, hrun, hended, _, _, rfl, ?_, ?_, hEW.1, hEW.2.1, hEW.2.2.1, hEW.2.2.2.mono (by decide) (by decide)⟩
  ·
    show Steps p.tables e below (s₁.setTop (mkF m 0 #[.val (.ref a0)] [])) _
    refine XS.aloadN X0.here hx rfl (hb hby d5_0) rfl rfl ?_
    show Steps p.tables e below (s₁.setTop (mkF m 1 #[.val (.ref a0)] [(.ref a0)])) _
    refine st863 _ ?_
    show Steps p.tables e below (T863.setTop (mkF m 3 #[.val (.ref a0)] [(.ref a863), (.ref a0)])) _
    refine st874.trans ?_
    show Steps p.tables e below (T874.setTop (mkF m 6 #[.val (.ref a0)] [(.int (0 : Int32))])) _
    refine XS.ifYes X874.here hx rfl (pc0 := 6) (pc' := 14) rfl (hb hby d5_6) rfl ((if0 _ _).trans (teq rfl).1) (by decide) (by decide) ?_
    show Steps p.tables e below (T874.setTop (mkF m 14 #[.val (.ref a0)] [])) _
    refine st875 _ ?_
    show Steps p.tables e below (T875.setTop (mkF m 16 #[.val (.ref a0)] [(.ref a875)])) _
    exact retA X875 hx rfl rfl Bd.returns (hb hby d5_16) hr
  ·
    show Q_dm_3 Z a0 t k1 w0 w1 w2 zc h0 n0 _ T875.heap _
    rw [e875]
    exact ⟨a875, b875, kb875, rfl, N874, K887, fE875, fC875, fV875, fA875⟩
  ·
    rw [hh]
    show CHr Z consts_1 s.vm h0 T875.vm T875.heap
    rw [e875]
    exact CHr.trans CR876 (CHv.at (vm0 := T875.vm) X875 hZ875 (own_EW hw) CH877)
theorem d5_9 : decode prog_21_method_6_code 9 = .ok (.ldc 87, 2) := by decide +kernel
theorem d5_11 : decode prog_21_method_6_code 11 = .ok (.goto 5, 3) := by decide +kernel
theorem ef_dm_1a (m : MethodId) (a0 : Addr) : entryFrame m #[(.ref a0)] 1 = mkF m 0 #[.val (.ref a0)] [] := by first | (simp [entryFrame, mkF, argsToLocals, Value.category]; done) | rfl
def Q_dm_1a (Z : State) (a0 : Addr) (t : Addr) (k1 : ClassId) (w0 : Int32) (zc : Int32) (h0 : Heap) (n0 : Nat) (v : Option Value) (h : Heap) (L : List Loc) : Prop := ∃ rr : Addr, ∃ t2 : Addr, ∃ k2 : ClassId, v = some (.ref rr) ∧ Fr n0 L ∧ Keep h0 h [] ∧ Exa Z h rr "java/lang/String" ∧ Fld Z h rr "java/lang/String" "coder" "B" (.int (0 : Int32)) ∧ Fld Z h rr "java/lang/String" "value" "[B" (.ref t2) ∧ Arv Z h t2 k2 .byte (8 : Int32) [(.int (116 : Int32)), (.int (101 : Int32)), (.int (120 : Int32)), (.int (116 : Int32)), (.int (47 : Int32)), (.int (120 : Int32)), (.int (109 : Int32)), (.int (108 : Int32))] (.int (0 : Int32))
set_option maxRecDepth 65536 in
set_option maxHeartbeats 40000000 in
theorem dm_1a (l : Launch) (Z : State) (aw : Array Value) (hw : ∀ d ∈ tables_1, d.before aw Z = true) (ws : List Jvm.Cond) (a0 : Addr) (t : Addr) (k1 : ClassId) (w0 : Int32) (zc : Int32) (h0 : Heap) (n0 : Nat) (Z0 : n0 ≤ h0.size) (E_a0 : Exa Z h0 a0 "java/lang/String") (F_a0_coder : Fld Z h0 a0 "java/lang/String" "coder" "B" (.int (0 : Int32))) (F_a0_value : Fld Z h0 a0 "java/lang/String" "value" "[B" (.ref t)) (V_t : Arv Z h0 t k1 .byte (1 : Int32) [(.int w0)] (.int (0 : Int32))) (OLD : Old Z n0 h0) (O_COMPACT_STRINGS : Sta Z Z.heap "java/lang/String" "COMPACT_STRINGS" "Z" (.int zc)) (hzc : ¬ (zc = (0 : Int32))) (hX8 : w0 = (88 : Int32)) :
    MetFree l (⟨"com/example/reliquary/reliquary/Datastream", "defaultMimeType", "(Ljava/lang/String;)Ljava/lang/String;"⟩ : MethodName) (head1 (Jvm.Cond.code (⟨"com/example/reliquary/reliquary/Datastream", "defaultMimeType", "(Ljava/lang/String;)Ljava/lang/String;"⟩ : MethodName) prog_21_method_6_code 1 (some (.object "java/lang/String")) :: ws) ({ frames := 2, cells := 4, slots := 44, locals := 28 } : Room)) (fun a U => a = #[(.ref a0)] ∧ Z.Warmed39 U.vm ∧ U.heap = h0 ∧ CHv Z consts_1 U.vm h0 ∧ ∀ x ∈ ([] : List Addr), Safe Z consts_1 U.vm h0 x) (fun _ _ _ _ _ => True) (fun _ U o U' => ∃ v L, o = .returned v ∧ Q_dm_1a Z a0 t k1 w0 zc h0 n0 v U'.heap L ∧ CHr Z consts_1 U.vm U.heap U'.vm U'.heap ∧ ReturnedEndW U o U' L ({ frames := 2, cells := 4, slots := 44, locals := 28 } : Room).cells ({ frames := 2, cells := 4, slots := 44, locals := 28 } : Room).slots) := by
  refine MetFree.of_bodySF (plainFor_of_name pn_5) hisR ?_
  intro p e s m args below meth c s₁ Bd hml0 hP hK
  obtain ⟨rfl, hZ, hh, CH0, hSF⟩ := hP
  have hx := Bd.exec
  have hby := Bd.bytes
  have hml : c.maxLocals = 1 := hml0
  have hown : s.vm.findClass "com/example/reliquary/reliquary/Datastream" = some m.cls := findClass_of_methodNamed Bd.named
  have hnm := (name_of_methodNamed Bd.named Bd.method).1
  have X0 : Stand p l e ({ frames := 2, cells := 4, slots := 44, locals := 28 } : Room) s m #[(.ref a0)] below meth c s₁ [] 0 0 := Stand.of_body Bd
  have e0 : s₁.heap = h0 := by rw [← hh, Bd.state]; rfl
  have N0 := Fr.nil n0
  have pre0 : ∀ t, Steps p.tables e below (s₁.setTop (mkF m 0 #[.val (.ref a0)] [])) t → Steps p.tables e below (s₁.setTop (entryFrame m #[(.ref a0)] 1)) t := fun t k => castTop (ef_dm_1a m a0) k
  have KC0 : Keep h0 h0 [] := Keep.refl h0 []
  have hS0 : s.Since s.vm h0.size := (State.WarmedH.refl s).since _
  have hk0 : h0.size ≤ h0.size := Nat.le_refl _
  have CR0 : CHr Z consts_1 s.vm h0 s.vm h0 := CHr.refl CH0
  obtain ⟨a889, T889, h889, k889, b889, kb889, X889, e889, E889, hS889, hk889, hZ889, hown889, fE889, fC889, fV889, fA889, -, -, R889, Li889, Df889, st889⟩ := ldcCH (vm0 := s.vm) X0 hx hZ hown (hw _ (List.mem_of_getElem? (i := 30) rfl)) (own_wS hw) e0 hS0 hk0 (own_EW hw) (List.mem_of_getElem? (i := 0) rfl) CH0 (vs := [(.int (88 : Int32))]) (z := (1 : Int32)) ⟨by decide, by decide⟩ (by decide) (by decide) (g := (mkF m 1 #[.val (.ref a0)] [(.ref a0)])) rfl (hb hby d5_1) (n := 4) (by decide) (by decide) (by decide) (by decide)
  have CR890 := CHr.trans CR0 R889
  have CH891 := R889.1
  have f892 := E_a0.ext E889
  have f893 := F_a0_coder.ext E889
  have f894 := F_a0_value.ext E889
  have f895 := V_t.ext E889
  have Z896 : n0 ≤ h889.size := Nat.le_trans Z0 E889.1
  have K897 : Keep h0 h889 [] := Keep.ext KC0 E889
  have O898 := Old.ext OLD E889
  obtain ⟨cq900, kq900, q900a, q900b, q900c⟩ := isOf hZ889 e889 f892
  obtain ⟨_, _, ⟨T900, L900, k900, n900⟩, -, X900, ⟨Lc900, hQ900, l900, y900, z900⟩, st900⟩ := X889.virtualBack hx (y := (⟨"java/lang/String", "equals", "(Ljava/lang/Object;)Z"⟩ : MethodName)) (z := (⟨"java/lang/String", "equals", "(Ljava/lang/Object;)Z"⟩ : MethodName)) hown889 (mvT hZ889 (hw _ (List.mem_of_getElem? (i := 31) rfl))) (mvT hZ889 (hw _ (List.mem_of_getElem? (i := 32) rfl))) (notFace_of_selects (args := #[]) (mvT hZ889 (hw _ (List.mem_of_getElem? (i := 34) rfl)))) (mvT hZ889 (hw _ (List.mem_of_getElem? (i := 34) rfl))) (mvT hZ889 (hw _ (List.mem_of_getElem? (i := 33) rfl))) (by decide) (backOf (W := 0) (eq_1a l Z aw hw [] a0 a889 t b889 k1 kb889 w0 zc h889 n0 Z896 fE889 f893 f894 fC889 fV889 f895 fA889 O898 O_COMPACT_STRINGS hzc hX8) hZ889 (hw _ (List.mem_of_getElem? (i := 35) rfl)) (hw _ (List.mem_of_getElem? (i := 6) rfl)) (by decide) (by decide)) q900a q900c (g := (mkF m 3 #[.val (.ref a0)] [(.ref a889), (.ref a0)])) rfl (by rw [hml]; rfl) (Steps.refl _) (argsL := [(.ref a889)]) (rest := []) (lenOf pd_11 rfl) rfl (by show 2 * 0 + _ ≤ _; exact Nat.le_of_eq rfl) (hb hby d5_3) (fun _ _ => ⟨rfl, e889, (by decide : 2 + 0 ≤ _), (by decide : 8 + 0 ≤ _)⟩)
  dsimp only [Pt.U, Pt.locs, Pt.cells, Pt.slots] at X900 l900 y900 z900 st900 hQ900
  replace l900 := l900.symm; replace y900 := y900.symm; replace z900 := z900.symm; subst l900 y900 z900
  obtain ⟨rfl, N900q, e900⟩ := hQ900
  have N900 := Fr.app N0 N900q
  obtain ⟨a901, T901, h901, k901, b901, kb901, X901, e901, E901, hS901, hk901, hZ901, hown901, fE901, fC901, fV901, fA901, -, -, R901, Li901, Df901, st901⟩ := ldcCH (vm0 := T889.vm) X900 hx hZ889 hown889 (hw _ (List.mem_of_getElem? (i := 65) rfl)) (own_wS hw) e900 hS889 hk889 (own_EW hw) (List.mem_of_getElem? (i := 1) rfl) CH891 (vs := [(.int (116 : Int32)), (.int (101 : Int32)), (.int (120 : Int32)), (.int (116 : Int32)), (.int (47 : Int32)), (.int (120 : Int32)), (.int (109 : Int32)), (.int (108 : Int32))]) (z := (8 : Int32)) ⟨by decide, by decide⟩ (by decide) (by decide) (g := (mkF m 9 #[.val (.ref a0)] [])) rfl (hb hby d5_9) (n := 32) (by decide) (by decide) (by decide) (by decide)
  have CR902 := CHr.trans CR890 R901
  have CH903 := R901.1
  have f904 := f892.ext E901
  have f905 := f893.ext E901
  have f906 := f894.ext E901
  have f907 := f895.ext E901
  have f908 := fE889.ext E901
  have f909 := fC889.ext E901
  have f910 := fV889.ext E901
  have f911 := fA889.ext E901
  have Z912 : n0 ≤ h901.size := Nat.le_trans Z896 E901.1
  have K913 : Keep h0 h901 [] := Keep.ext K897 E901
  have O914 := Old.ext O898 E901
  obtain ⟨fs, hr, hrun, hended, hEW⟩ := Stand.leaveW X901 hS901 (by rw [e901]; exact hk901) (v := some (.ref a901)) (fun h => by rw [Bd.returns] at h; cases h)
  refine ⟨_, _, pre0 _ ?_, hrun, hended, _, _, rfl, ?_, ?_, hEW.1, hEW.2.1, hEW.2.2.1, hEW.2.2.2.mono (by decide) (by decide)⟩
  ·
    show Steps p.tables e below (s₁.setTop (mkF m 0 #[.val (.ref a0)] [])) _
    refine XS.aloadN X0.here hx rfl (hb hby d5_0) rfl rfl ?_
    show Steps p.tables e below (s₁.setTop (mkF m 1 #[.val (.ref a0)] [(.ref a0)])) _
    refine st889 _ ?_
    show Steps p.tables e below (T889.setTop (mkF m 3 #[.val (.ref a0)] [(.ref a889), (.ref a0)])) _
    refine st900.trans ?_
    show Steps p.tables e below (T900.setTop (mkF m 6 #[.val (.ref a0)] [(.int (1 : Int32))])) _
    refine XS.ifNo X900.here hx rfl (hb hby d5_6) rfl ((if0 _ _).trans (feq (by decide)).1) ?_
    show Steps p.tables e below (T900.setTop (mkF m 9 #[.val (.ref a0)] [])) _
    refine st901 _ ?_
    show Steps p.tables e below (T901.setTop (mkF m 11 #[.val (.ref a0)] [(.ref a901)])) _
    refine XS.goto X901.here hx rfl (pc0 := 11) (pc' := 16) rfl (hb hby d5_11) (by decide) (by decide) ?_
    show Steps p.tables e below (T901.setTop (mkF m 16 #[.val (.ref a0)] [(.ref a901)])) _
    exact retA X901 hx rfl rfl Bd.returns (hb hby d5_16) hr
  ·
    show Q_dm_1a Z a0 t k1 w0 zc h0 n0 _ T901.heap _
    rw [e901]
    exact ⟨a901, b901, kb901, rfl, N900, K913, fE901, fC901, fV901, fA901⟩
  ·
    rw [hh]
    show CHr Z consts_1 s.vm h0 T901.vm T901.heap
    rw [e901]
    exact CHr.trans CR902 (CHv.at (vm0 := T901.vm) X901 hZ901 (own_EW hw) CH903)
theorem ef_dm_1b (m : MethodId) (a0 : Addr) : entryFrame m #[(.ref a0)] 1 = mkF m 0 #[.val (.ref a0)] [] := by first | (simp [entryFrame, mkF, argsToLocals, Value.category]; done) | rfl
def Q_dm_1b (Z : State) (a0 : Addr) (t : Addr) (k1 : ClassId) (w0 : Int32) (zc : Int32) (h0 : Heap) (n0 : Nat) (v : Option Value) (h : Heap) (L : List Loc) : Prop := ∃ rr : Addr, ∃ t2 : Addr, ∃ k2 : ClassId, v = some (.ref rr) ∧ Fr n0 L ∧ Keep h0 h [] ∧ Exa Z h rr "java/lang/String" ∧ Fld Z h rr "java/lang/String" "coder" "B" (.int (0 : Int32)) ∧ Fld Z h rr "java/lang/String" "value" "[B" (.ref t2) ∧ Arv Z h t2 k2 .byte (24 : Int32) [(.int (97 : Int32)), (.int (112 : Int32)), (.int (112 : Int32)), (.int (108 : Int32)), (.int (105 : Int32)), (.int (99 : Int32)), (.int (97 : Int32)), (.int (116 : Int32)), (.int (105 : Int32)), (.int (111 : Int32)), (.int (110 : Int32)), (.int (47 : Int32)), (.int (111 : Int32)), (.int (99 : Int32)), (.int (116 : Int32)), (.int (101 : Int32)), (.int (116 : Int32)), (.int (45 : Int32)), (.int (115 : Int32)), (.int (116 : Int32)), (.int (114 : Int32)), (.int (101 : Int32)), (.int (97 : Int32)), (.int (109 : Int32))] (.int (0 : Int32))
set_option maxRecDepth 65536 in
set_option maxHeartbeats 40000000 in
theorem dm_1b (l : Launch) (Z : State) (aw : Array Value) (hw : ∀ d ∈ tables_1, d.before aw Z = true) (ws : List Jvm.Cond) (a0 : Addr) (t : Addr) (k1 : ClassId) (w0 : Int32) (zc : Int32) (h0 : Heap) (n0 : Nat) (Z0 : n0 ≤ h0.size) (E_a0 : Exa Z h0 a0 "java/lang/String") (F_a0_coder : Fld Z h0 a0 "java/lang/String" "coder" "B" (.int (0 : Int32))) (F_a0_value : Fld Z h0 a0 "java/lang/String" "value" "[B" (.ref t)) (V_t : Arv Z h0 t k1 .byte (1 : Int32) [(.int w0)] (.int (0 : Int32))) (OLD : Old Z n0 h0) (O_COMPACT_STRINGS : Sta Z Z.heap "java/lang/String" "COMPACT_STRINGS" "Z" (.int zc)) (hzc : ¬ (zc = (0 : Int32))) (hX8 : ¬ (w0 = (88 : Int32))) :
    MetFree l (⟨"com/example/reliquary/reliquary/Datastream", "defaultMimeType", "(Ljava/lang/String;)Ljava/lang/String;"⟩ : MethodName) (head1 (Jvm.Cond.code (⟨"com/example/reliquary/reliquary/Datastream", "defaultMimeType", "(Ljava/lang/String;)Ljava/lang/String;"⟩ : MethodName) prog_21_method_6_code 1 (some (.object "java/lang/String")) :: ws) ({ frames := 2, cells := 4, slots := 108, locals := 28 } : Room)) (fun a U => a = #[(.ref a0)] ∧ Z.Warmed39 U.vm ∧ U.heap = h0 ∧ CHv Z consts_1 U.vm h0 ∧ ∀ x ∈ ([] : List Addr), Safe Z consts_1 U.vm h0 x) (fun _ _ _ _ _ => True) (fun _ U o U' => ∃ v L, o = .returned v ∧ Q_dm_1b Z a0 t k1 w0 zc h0 n0 v U'.heap L ∧ CHr Z consts_1 U.vm U.heap U'.vm U'.heap ∧ ReturnedEndW U o U' L ({ frames := 2, cells := 4, slots := 108, locals := 28 } : Room).cells ({ frames := 2, cells := 4, slots := 108, locals := 28 } : Room).slots) := by
  refine MetFree.of_bodySF (plainFor_of_name pn_5) hisR ?_
  intro p e s m args below meth c s₁ Bd hml0 hP hK
  obtain ⟨rfl, hZ, hh, CH0, hSF⟩ := hP
  have hx := Bd.exec
  have hby := Bd.bytes
  have hml : c.maxLocals = 1 := hml0
  have hown : s.vm.findClass "com/example/reliquary/reliquary/Datastream" = some m.cls := findClass_of_methodNamed Bd.named
  have hnm := (name_of_methodNamed Bd.named Bd.method).1
  have X0 : Stand p l e ({ frames := 2, cells := 4, slots := 108, locals := 28 } : Room) s m #[(.ref a0)] below meth c s₁ [] 0 0 := Stand.of_body Bd
  have e0 : s₁.heap = h0 := by rw [← hh, Bd.state]; rfl
  have N0 := Fr.nil n0
  have pre0 : ∀ t, Steps p.tables e below (s₁.setTop (mkF m 0 #[.val (.ref a0)] [])) t → Steps p.tables e below (s₁.setTop (entryFrame m #[(.ref a0)] 1)) t := fun t k => castTop (ef_dm_1b m a0) k
  have KC0 : Keep h0 h0 [] := Keep.refl h0 []
  have hS0 : s.Since s.vm h0.size := (State.WarmedH.refl s).since _
  have hk0 : h0.size ≤ h0.size := Nat.le_refl _
  have CR0 : CHr Z consts_1 s.vm h0 s.vm h0 := CHr.refl CH0
  obtain ⟨a915, T915, h915, k915, b915, kb915, X915, e915, E915, hS915, hk915, hZ915, hown915, fE915, fC915, fV915, fA915, -, -, R915, Li915, Df915, st915⟩ := ldcCH (vm0 := s.vm) X0 hx hZ hown (hw _ (List.mem_of_getElem? (i := 30) rfl)) (own_wS hw) e0 hS0 hk0 (own_EW hw) (List.mem_of_getElem? (i := 0) rfl) CH0 (vs := [(.int (88 : Int32))]) (z := (1 : Int32)) ⟨by decide, by decide⟩ (by decide) (by decide) (g := (mkF m 1 #[.val (.ref a0)] [(.ref a0)])) rfl (hb hby d5_1) (n := 4) (by decide) (by decide) (by decide) (by decide)
  have CR916 := CHr.trans CR0 R915
  have CH917 := R915.1
  have f918 := E_a0.ext E915
  have f919 := F_a0_coder.ext E915
  have f920 := F_a0_value.ext E915
  have f921 := V_t.ext E915
  have Z922 : n0 ≤ h915.size := Nat.le_trans Z0 E915.1
  have K923 : Keep h0 h915 [] := Keep.ext KC0 E915
  have O924 := Old.ext OLD E915
  have ne925 : a0 ≠ a915 := own_neC f920 fV915 f921 fA915 (fun q => hX8 (Value.int.inj q))
  obtain ⟨cq926, kq926, q926a, q926b, q926c⟩ := isOf hZ915 e915 f918
  obtain ⟨_, _, ⟨T926, L926, k926, n926⟩, -, X926, ⟨Lc926, hQ926, l926, y926, z926⟩, st926⟩ := X915.virtualBack hx (y := (⟨"java/lang/String", "equals", "(Ljava/lang/Object;)Z"⟩ : MethodName)) (z := (⟨"java/lang/String", "equals", "(Ljava/lang/Object;)Z"⟩ : MethodName)) hown915 (mvT hZ915 (hw _ (List.mem_of_getElem? (i := 31) rfl))) (mvT hZ915 (hw _ (List.mem_of_getElem? (i := 32) rfl))) (notFace_of_selects (args := #[]) (mvT hZ915 (hw _ (List.mem_of_getElem? (i := 34) rfl)))) (mvT hZ915 (hw _ (List.mem_of_getElem? (i := 34) rfl))) (mvT hZ915 (hw _ (List.mem_of_getElem? (i := 33) rfl))) (by decide) (backOf (W := 0) (eq_1b l Z aw hw [] a0 a915 t b915 k1 kb915 w0 zc h915 n0 Z922 fE915 f919 f920 fC915 fV915 f921 fA915 O924 O_COMPACT_STRINGS hzc hX8 ne925) hZ915 (hw _ (List.mem_of_getElem? (i := 35) rfl)) (hw _ (List.mem_of_getElem? (i := 6) rfl)) (by decide) (by decide)) q926a q926c (g := (mkF m 3 #[.val (.ref a0)] [(.ref a915), (.ref a0)])) rfl (by rw [hml]; rfl) (Steps.refl _) (argsL := [(.ref a915)]) (rest := []) (lenOf pd_11 rfl) rfl (by show 2 * 0 + _ ≤ _; exact Nat.le_of_eq rfl) (hb hby d5_3) (fun _ _ => ⟨rfl, e915, (by decide : 2 + 0 ≤ _), (by decide : 8 + 0 ≤ _)⟩)
  dsimp only [Pt.U, Pt.locs, Pt.cells, Pt.slots] at X926 l926 y926 z926 st926 hQ926
  replace l926 := l926.symm; replace y926 := y926.symm; replace z926 := z926.symm; subst l926 y926 z926
  obtain ⟨rfl, N926q, e926⟩ := hQ926
  have N926 := Fr.app N0 N926q
  obtain ⟨a927, T927, h927, k927, b927, kb927, X927, e927, E927, hS927, hk927, hZ927, hown927, fE927, fC927, fV927, fA927, -, -, R927, Li927, Df927, st927⟩ := ldcCH (vm0 := T915.vm) X926 hx hZ915 hown915 (hw _ (List.mem_of_getElem? (i := 42) rfl)) (own_wS hw) e926 hS915 hk915 (own_EW hw) (List.mem_of_getElem? (i := 2) rfl) CH917 (vs := [(.int (97 : Int32)), (.int (112 : Int32)), (.int (112 : Int32)), (.int (108 : Int32)), (.int (105 : Int32)), (.int (99 : Int32)), (.int (97 : Int32)), (.int (116 : Int32)), (.int (105 : Int32)), (.int (111 : Int32)), (.int (110 : Int32)), (.int (47 : Int32)), (.int (111 : Int32)), (.int (99 : Int32)), (.int (116 : Int32)), (.int (101 : Int32)), (.int (116 : Int32)), (.int (45 : Int32)), (.int (115 : Int32)), (.int (116 : Int32)), (.int (114 : Int32)), (.int (101 : Int32)), (.int (97 : Int32)), (.int (109 : Int32))]) (z := (24 : Int32)) ⟨by decide, by decide⟩ (by decide) (by decide) (g := (mkF m 14 #[.val (.ref a0)] [])) rfl (hb hby d5_14) (n := 96) (by decide) (by decide) (by decide) (by decide)
  have CR928 := CHr.trans CR916 R927
  have CH929 := R927.1
  have f930 := f918.ext E927
  have f931 := f919.ext E927
  have f932 := f920.ext E927
  have f933 := f921.ext E927
  have f934 := fE915.ext E927
  have f935 := fC915.ext E927
  have f936 := fV915.ext E927
  have f937 := fA915.ext E927
  have Z938 : n0 ≤ h927.size := Nat.le_trans Z922 E927.1
  have K939 : Keep h0 h927 [] := Keep.ext K923 E927
  have O940 := Old.ext O924 E927
  obtain ⟨fs, hr, hrun, hended, hEW⟩ := Stand.leaveW X927 hS927 (by rw [e927]; exact hk927) (v := some (.ref a927)) (fun h => by rw [Bd.returns] at h; cases h)
  refine ⟨_, _, pre0 _ ?_, hrun, hended, _, _, rfl, ?_, ?_, hEW.1, hEW.2.1, hEW.2.2.1, hEW.2.2.2.mono (by decide) (by decide)⟩
  ·
    show Steps p.tables e below (s₁.setTop (mkF m 0 #[.val (.ref a0)] [])) _
    refine XS.aloadN X0.here hx rfl (hb hby d5_0) rfl rfl ?_
    show Steps p.tables e below (s₁.setTop (mkF m 1 #[.val (.ref a0)] [(.ref a0)])) _
    refine st915 _ ?_
    show Steps p.tables e below (T915.setTop (mkF m 3 #[.val (.ref a0)] [(.ref a915), (.ref a0)])) _
    refine st926.trans ?_
    show Steps p.tables e below (T926.setTop (mkF m 6 #[.val (.ref a0)] [(.int (0 : Int32))])) _
    refine XS.ifYes X926.here hx rfl (pc0 := 6) (pc' := 14) rfl (hb hby d5_6) rfl ((if0 _ _).trans (teq rfl).1) (by decide) (by decide) ?_
    show Steps p.tables e below (T926.setTop (mkF m 14 #[.val (.ref a0)] [])) _
    refine st927 _ ?_
    show Steps p.tables e below (T927.setTop (mkF m 16 #[.val (.ref a0)] [(.ref a927)])) _
    exact retA X927 hx rfl rfl Bd.returns (hb hby d5_16) hr
  ·
    show Q_dm_1b Z a0 t k1 w0 zc h0 n0 _ T927.heap _
    rw [e927]
    exact ⟨a927, b927, kb927, rfl, N926, K939, fE927, fC927, fV927, fA927⟩
  ·
    rw [hh]
    show CHr Z consts_1 s.vm h0 T927.vm T927.heap
    rw [e927]
    exact CHr.trans CR928 (CHv.at (vm0 := T927.vm) X927 hZ927 (own_EW hw) CH929)
theorem own_and3 (p : Int32) : p &&& 3 = 0 ∨ p &&& 3 = 1 ∨ p &&& 3 = 2 ∨ p &&& 3 = 3 := by
  have h := c_and p 3 (by decide)
  simp only [← Int32.toInt_inj, Int32.reduceToInt] at *
  omega
theorem own_c {x p : Int32} (h : x = ((p &&& (255 : Int32)).toUInt32.toUInt16.toUInt32.toInt32)) : 0 ≤ x.toInt ∧ x.toInt ≤ 255 := by
  have m := c_mask p 255 8 (by decide) (by decide)
  have c1 := c_i2c (p &&& (255 : Int32))
  rw [h]
  omega
theorem own_c0 {x p q : Int32} (h : x = (if (q &&& (1 : Int32)) = (0 : Int32) then ((p &&& (255 : Int32)).toUInt32.toUInt16.toUInt32.toInt32) else (88 : Int32))) : 0 ≤ x.toInt ∧ x.toInt ≤ 255 := by
  split at h
  · exact own_c h
  · rw [h]; decide
theorem pd_12 : parseMethodDescriptor "(ICCC)Ljava/lang/String;" = some ⟨[.int, .char, .char, .char], some (.object "java/lang/String")⟩ := by decide +kernel
theorem pd_13 : parseMethodDescriptor "(Ljava/lang/String;)Ljava/lang/String;" = some ⟨[(.object "java/lang/String")], some (.object "java/lang/String")⟩ := by decide +kernel
theorem pd_14 : parseMethodDescriptor "()I" = some ⟨[], some .int⟩ := by decide +kernel
theorem pd_15 : parseMethodDescriptor "(I)C" = some ⟨[.int], some .char⟩ := by decide +kernel
theorem ef_rm0 (m : MethodId) (p0 : Int32) (p1 : Int32) (p2 : Int32) (p3 : Int32) (p4 : Int32) : entryFrame m #[(.int p0), (.int p1), (.int p2), (.int p3), (.int p4)] maxLocals = mkF m 0 #[.val (.int p0), .val (.int p1), .val (.int p2), .val (.int p3), .val (.int p4), .unset, .unset, .unset, .unset, .unset, .unset, .unset] [] := by first | (simp [entryFrame, mkF, argsToLocals, Value.category, maxLocals]; done) | rfl
def Q_rm0 (Z : State) (p0 : Int32) (p1 : Int32) (p2 : Int32) (p3 : Int32) (p4 : Int32) (zc : Int32) (fv : Value) (h0 : Heap) (n0 : Nat) (v : Option Value) (h : Heap) (L : List Loc) : Prop := v = some (.int (1 : Int32)) ∧ Fr n0 L
set_option maxRecDepth 65536 in
set_option maxHeartbeats 40000000 in
theorem rm0 (l : Launch) (Z : State) (aw : Array Value) (hw : ∀ d ∈ tables_1, d.before aw Z = true) (ws : List Jvm.Cond) (p0 : Int32) (p1 : Int32) (p2 : Int32) (p3 : Int32) (p4 : Int32) (zc : Int32) (fv : Value) (h0 : Heap) (n0 : Nat) (Z0 : n0 ≤ h0.size) (OLD : Old Z n0 h0) (O_COMPACT_STRINGS : Sta Z Z.heap "java/lang/String" "COMPACT_STRINGS" "Z" (.int zc)) (hzc : ¬ (zc = (0 : Int32))) (O_SIOOBE_FORMATTER : Sta Z Z.heap "jdk/internal/util/Preconditions" "SIOOBE_FORMATTER" "Ljava/util/function/BiFunction;" fv) (hfv : fv.isRef = true) :
    MetFree l x (head1 (Jvm.Cond.code x code maxLocals ret :: ws) room_1) (fun a U => a = #[(.int p0), (.int p1), (.int p2), (.int p3), (.int p4)] ∧ Z.Warmed39 U.vm ∧ U.heap = h0 ∧ CHv Z consts_1 U.vm h0 ∧ ∀ x ∈ ([] : List Addr), Safe Z consts_1 U.vm h0 x) (fun _ _ _ _ _ => True) (fun _ U o U' => ∃ v L, o = .returned v ∧ Q_rm0 Z p0 p1 p2 p3 p4 zc fv h0 n0 v U'.heap L ∧ CHr Z consts_1 U.vm U.heap U'.vm U'.heap ∧ ReturnedEndW U o U' L room_1.cells room_1.slots) := by
  refine MetFree.of_bodySF (plainFor_of_name pn_2) hisR ?_
  intro p e s m args below meth c s₁ Bd hml0 hP hK
  obtain ⟨rfl, hZ, hh, CH0, hSF⟩ := hP
  have hx := Bd.exec
  have hby := Bd.bytes
  have hml : c.maxLocals = 12 := hml0
  have hown : s.vm.findClass "com/example/reliquary/reliquary/DatastreamDefaultMimeTypePinLaw" = some m.cls := findClass_of_methodNamed Bd.named
  have hnm := (name_of_methodNamed Bd.named Bd.method).1
  have X0 : Stand p l e room_1 s m #[(.int p0), (.int p1), (.int p2), (.int p3), (.int p4)] below meth c s₁ [] 0 0 := Stand.of_body Bd
  have e0 : s₁.heap = h0 := by rw [← hh, Bd.state]; rfl
  have N0 := Fr.nil n0
  have pre0 : ∀ t, Steps p.tables e below (s₁.setTop (mkF m 0 #[.val (.int p0), .val (.int p1), .val (.int p2), .val (.int p3), .val (.int p4), .unset, .unset, .unset, .unset, .unset, .unset, .unset] [])) t → Steps p.tables e below (s₁.setTop (entryFrame m #[(.int p0), (.int p1), (.int p2), (.int p3), (.int p4)] maxLocals)) t := fun t k => castTop (ef_rm0 m p0 p1 p2 p3 p4) k
  have hS0 : s.Since s.vm h0.size := (State.WarmedH.refl s).since _
  have hk0 : h0.size ≤ h0.size := Nat.le_refl _
  have CR0 : CHr Z consts_1 s.vm h0 s.vm h0 := CHr.refl CH0
  obtain ⟨x942, hx942⟩ : ∃ z_ : Int32, z_ = (if (p4 &&& (1 : Int32)) = (0 : Int32) then ((p1 &&& (255 : Int32)).toUInt32.toUInt16.toUInt32.toInt32) else (88 : Int32)) := ⟨_, rfl⟩
  have pre943 : ∀ t, Steps p.tables e below (s₁.setTop (mkF m 18 #[.val (.int p0), .val (.int p1), .val (.int p2), .val (.int p3), .val (.int p4), .unset, .unset, .unset, .unset, .unset, .unset, .unset] [(.int x942)])) t → Steps p.tables e below (s₁.setTop (entryFrame m #[(.int p0), (.int p1), (.int p2), (.int p3), (.int p4)] maxLocals)) t := fun t k => by
    refine pre0 t ?_
    show Steps p.tables e below (s₁.setTop (mkF m 0 #[.val (.int p0), .val (.int p1), .val (.int p2), .val (.int p3), .val (.int p4), .unset, .unset, .unset, .unset, .unset, .unset, .unset] [])) _
    refine XS.iload X0.here hx rfl (hb hby at_0) rfl ?_
    show Steps p.tables e below (s₁.setTop (mkF m 2 #[.val (.int p0), .val (.int p1), .val (.int p2), .val (.int p3), .val (.int p4), .unset, .unset, .unset, .unset, .unset, .unset, .unset] [(.int p4)])) _
    refine XS.iconst X0.here hx rfl (hb hby at_2) ?_
    show Steps p.tables e below (s₁.setTop (mkF m 3 #[.val (.int p0), .val (.int p1), .val (.int p2), .val (.int p3), .val (.int p4), .unset, .unset, .unset, .unset, .unset, .unset, .unset] [(.int (1 : Int32)), (.int p4)])) _
    refine XS.iand X0.here hx rfl (hb hby at_3) rfl ?_
    by_cases c941 : (p4 &&& (1 : Int32)) = (0 : Int32)
    ·
      show Steps p.tables e below (s₁.setTop (mkF m 4 #[.val (.int p0), .val (.int p1), .val (.int p2), .val (.int p3), .val (.int p4), .unset, .unset, .unset, .unset, .unset, .unset, .unset] [(.int (p4 &&& (1 : Int32)))])) _
      refine XS.ifYes X0.here hx rfl (pc0 := 4) (pc' := 12) rfl (hb hby at_4) rfl ((if0 _ _).trans (teq c941).1) (by decide) (by decide) ?_
      show Steps p.tables e below (s₁.setTop (mkF m 12 #[.val (.int p0), .val (.int p1), .val (.int p2), .val (.int p3), .val (.int p4), .unset, .unset, .unset, .unset, .unset, .unset, .unset] [])) _
      refine XS.iloadN X0.here hx rfl (hb hby at_12) rfl ?_
      show Steps p.tables e below (s₁.setTop (mkF m 13 #[.val (.int p0), .val (.int p1), .val (.int p2), .val (.int p3), .val (.int p4), .unset, .unset, .unset, .unset, .unset, .unset, .unset] [(.int p1)])) _
      refine XS.sipush X0.here hx rfl (hb hby at_13) ?_
      show Steps p.tables e below (s₁.setTop (mkF m 16 #[.val (.int p0), .val (.int p1), .val (.int p2), .val (.int p3), .val (.int p4), .unset, .unset, .unset, .unset, .unset, .unset, .unset] [(.int (255 : Int32)), (.int p1)])) _
      refine XS.iand X0.here hx rfl (hb hby at_16) rfl ?_
      show Steps p.tables e below (s₁.setTop (mkF m 17 #[.val (.int p0), .val (.int p1), .val (.int p2), .val (.int p3), .val (.int p4), .unset, .unset, .unset, .unset, .unset, .unset, .unset] [(.int (p1 &&& (255 : Int32)))])) _
      refine XS.i2c X0.here hx rfl (hb hby at_17) rfl ?_
      rw [show x942 = ((p1 &&& (255 : Int32)).toUInt32.toUInt16.toUInt32.toInt32) from hx942.trans (by simp only [if_pos c941])] at k
      exact k
    ·
      show Steps p.tables e below (s₁.setTop (mkF m 4 #[.val (.int p0), .val (.int p1), .val (.int p2), .val (.int p3), .val (.int p4), .unset, .unset, .unset, .unset, .unset, .unset, .unset] [(.int (p4 &&& (1 : Int32)))])) _
      refine XS.ifNo X0.here hx rfl (hb hby at_4) rfl ((if0 _ _).trans (feq c941).1) ?_
      show Steps p.tables e below (s₁.setTop (mkF m 7 #[.val (.int p0), .val (.int p1), .val (.int p2), .val (.int p3), .val (.int p4), .unset, .unset, .unset, .unset, .unset, .unset, .unset] [])) _
      refine XS.bipush X0.here hx rfl (hb hby at_7) ?_
      show Steps p.tables e below (s₁.setTop (mkF m 9 #[.val (.int p0), .val (.int p1), .val (.int p2), .val (.int p3), .val (.int p4), .unset, .unset, .unset, .unset, .unset, .unset, .unset] [(.int (88 : Int32))])) _
      refine XS.goto X0.here hx rfl (pc0 := 9) (pc' := 18) rfl (hb hby at_9) (by decide) (by decide) ?_
      rw [show x942 = (88 : Int32) from hx942.trans (by simp only [if_neg c941])] at k
      exact k
  obtain ⟨x944, hx944⟩ : ∃ z_ : Int32, z_ = ((p2 &&& (255 : Int32)).toUInt32.toUInt16.toUInt32.toInt32) := ⟨_, rfl⟩
  have pre945 : ∀ t, Steps p.tables e below (s₁.setTop (mkF m 28 #[.val (.int p0), .val (.int p1), .val (.int p2), .val (.int p3), .val (.int p4), .val (.int x942), .val (.int x944), .unset, .unset, .unset, .unset, .unset] [])) t → Steps p.tables e below (s₁.setTop (entryFrame m #[(.int p0), (.int p1), (.int p2), (.int p3), (.int p4)] maxLocals)) t := fun t k => by
    refine pre943 t ?_
    show Steps p.tables e below (s₁.setTop (mkF m 18 #[.val (.int p0), .val (.int p1), .val (.int p2), .val (.int p3), .val (.int p4), .unset, .unset, .unset, .unset, .unset, .unset, .unset] [(.int x942)])) _
    refine XS.istore X0.here hx rfl (hb hby at_18) rfl (l' := #[.val (.int p0), .val (.int p1), .val (.int p2), .val (.int p3), .val (.int p4), .val (.int x942), .unset, .unset, .unset, .unset, .unset, .unset]) rfl ?_
    show Steps p.tables e below (s₁.setTop (mkF m 20 #[.val (.int p0), .val (.int p1), .val (.int p2), .val (.int p3), .val (.int p4), .val (.int x942), .unset, .unset, .unset, .unset, .unset, .unset] [])) _
    refine XS.iloadN X0.here hx rfl (hb hby at_20) rfl ?_
    show Steps p.tables e below (s₁.setTop (mkF m 21 #[.val (.int p0), .val (.int p1), .val (.int p2), .val (.int p3), .val (.int p4), .val (.int x942), .unset, .unset, .unset, .unset, .unset, .unset] [(.int p2)])) _
    refine XS.sipush X0.here hx rfl (hb hby at_21) ?_
    show Steps p.tables e below (s₁.setTop (mkF m 24 #[.val (.int p0), .val (.int p1), .val (.int p2), .val (.int p3), .val (.int p4), .val (.int x942), .unset, .unset, .unset, .unset, .unset, .unset] [(.int (255 : Int32)), (.int p2)])) _
    refine XS.iand X0.here hx rfl (hb hby at_24) rfl ?_
    show Steps p.tables e below (s₁.setTop (mkF m 25 #[.val (.int p0), .val (.int p1), .val (.int p2), .val (.int p3), .val (.int p4), .val (.int x942), .unset, .unset, .unset, .unset, .unset, .unset] [(.int (p2 &&& (255 : Int32)))])) _
    refine XS.i2c X0.here hx rfl (hb hby at_25) rfl ?_
    show Steps p.tables e below (s₁.setTop (mkF m 26 #[.val (.int p0), .val (.int p1), .val (.int p2), .val (.int p3), .val (.int p4), .val (.int x942), .unset, .unset, .unset, .unset, .unset, .unset] [(.int ((p2 &&& (255 : Int32)).toUInt32.toUInt16.toUInt32.toInt32))])) _
    refine XS.istore X0.here hx rfl (hb hby at_26) rfl (l' := #[.val (.int p0), .val (.int p1), .val (.int p2), .val (.int p3), .val (.int p4), .val (.int x942), .val (.int ((p2 &&& (255 : Int32)).toUInt32.toUInt16.toUInt32.toInt32)), .unset, .unset, .unset, .unset, .unset]) rfl ?_
    subst hx944
    exact k
  obtain ⟨x946, hx946⟩ : ∃ z_ : Int32, z_ = ((p3 &&& (255 : Int32)).toUInt32.toUInt16.toUInt32.toInt32) := ⟨_, rfl⟩
  have pre947 : ∀ t, Steps p.tables e below (s₁.setTop (mkF m 36 #[.val (.int p0), .val (.int p1), .val (.int p2), .val (.int p3), .val (.int p4), .val (.int x942), .val (.int x944), .val (.int x946), .unset, .unset, .unset, .unset] [])) t → Steps p.tables e below (s₁.setTop (entryFrame m #[(.int p0), (.int p1), (.int p2), (.int p3), (.int p4)] maxLocals)) t := fun t k => by
    refine pre945 t ?_
    show Steps p.tables e below (s₁.setTop (mkF m 28 #[.val (.int p0), .val (.int p1), .val (.int p2), .val (.int p3), .val (.int p4), .val (.int x942), .val (.int x944), .unset, .unset, .unset, .unset, .unset] [])) _
    refine XS.iloadN X0.here hx rfl (hb hby at_28) rfl ?_
    show Steps p.tables e below (s₁.setTop (mkF m 29 #[.val (.int p0), .val (.int p1), .val (.int p2), .val (.int p3), .val (.int p4), .val (.int x942), .val (.int x944), .unset, .unset, .unset, .unset, .unset] [(.int p3)])) _
    refine XS.sipush X0.here hx rfl (hb hby at_29) ?_
    show Steps p.tables e below (s₁.setTop (mkF m 32 #[.val (.int p0), .val (.int p1), .val (.int p2), .val (.int p3), .val (.int p4), .val (.int x942), .val (.int x944), .unset, .unset, .unset, .unset, .unset] [(.int (255 : Int32)), (.int p3)])) _
    refine XS.iand X0.here hx rfl (hb hby at_32) rfl ?_
    show Steps p.tables e below (s₁.setTop (mkF m 33 #[.val (.int p0), .val (.int p1), .val (.int p2), .val (.int p3), .val (.int p4), .val (.int x942), .val (.int x944), .unset, .unset, .unset, .unset, .unset] [(.int (p3 &&& (255 : Int32)))])) _
    refine XS.i2c X0.here hx rfl (hb hby at_33) rfl ?_
    show Steps p.tables e below (s₁.setTop (mkF m 34 #[.val (.int p0), .val (.int p1), .val (.int p2), .val (.int p3), .val (.int p4), .val (.int x942), .val (.int x944), .unset, .unset, .unset, .unset, .unset] [(.int ((p3 &&& (255 : Int32)).toUInt32.toUInt16.toUInt32.toInt32))])) _
    refine XS.istore X0.here hx rfl (hb hby at_34) rfl (l' := #[.val (.int p0), .val (.int p1), .val (.int p2), .val (.int p3), .val (.int p4), .val (.int x942), .val (.int x944), .val (.int ((p3 &&& (255 : Int32)).toUInt32.toUInt16.toUInt32.toInt32)), .unset, .unset, .unset, .unset]) rfl ?_
    subst hx946
    exact k
  obtain ⟨x948, hx948⟩ : ∃ z_ : Int32, z_ = (p0 &&& (3 : Int32)) := ⟨_, rfl⟩
  have pre949 : ∀ t, Steps p.tables e below (s₁.setTop (mkF m 41 #[.val (.int p0), .val (.int p1), .val (.int p2), .val (.int p3), .val (.int p4), .val (.int x942), .val (.int x944), .val (.int x946), .val (.int x948), .unset, .unset, .unset] [])) t → Steps p.tables e below (s₁.setTop (entryFrame m #[(.int p0), (.int p1), (.int p2), (.int p3), (.int p4)] maxLocals)) t := fun t k => by
    refine pre947 t ?_
    show Steps p.tables e below (s₁.setTop (mkF m 36 #[.val (.int p0), .val (.int p1), .val (.int p2), .val (.int p3), .val (.int p4), .val (.int x942), .val (.int x944), .val (.int x946), .unset, .unset, .unset, .unset] [])) _
    refine XS.iloadN X0.here hx rfl (hb hby at_36) rfl ?_
    show Steps p.tables e below (s₁.setTop (mkF m 37 #[.val (.int p0), .val (.int p1), .val (.int p2), .val (.int p3), .val (.int p4), .val (.int x942), .val (.int x944), .val (.int x946), .unset, .unset, .unset, .unset] [(.int p0)])) _
    refine XS.iconst X0.here hx rfl (hb hby at_37) ?_
    show Steps p.tables e below (s₁.setTop (mkF m 38 #[.val (.int p0), .val (.int p1), .val (.int p2), .val (.int p3), .val (.int p4), .val (.int x942), .val (.int x944), .val (.int x946), .unset, .unset, .unset, .unset] [(.int (3 : Int32)), (.int p0)])) _
    refine XS.iand X0.here hx rfl (hb hby at_38) rfl ?_
    show Steps p.tables e below (s₁.setTop (mkF m 39 #[.val (.int p0), .val (.int p1), .val (.int p2), .val (.int p3), .val (.int p4), .val (.int x942), .val (.int x944), .val (.int x946), .unset, .unset, .unset, .unset] [(.int (p0 &&& (3 : Int32)))])) _
    refine XS.istore X0.here hx rfl (hb hby at_39) rfl (l' := #[.val (.int p0), .val (.int p1), .val (.int p2), .val (.int p3), .val (.int p4), .val (.int x942), .val (.int x944), .val (.int x946), .val (.int (p0 &&& (3 : Int32))), .unset, .unset, .unset]) rfl ?_
    subst hx948
    exact k
  rcases own_and3 p0 with q | q | q | q
  ·
    obtain rfl : x948 = (0 : Int32) := hx948.trans q
    obtain ⟨_, _, ⟨T950, L950, k950, n950⟩, -, Xq950, hSq950, gq950, ⟨Lc950, hQ950, l950, y950, z950, Rq950⟩, st950⟩ := callSS X0 hx (y := (⟨"com/example/reliquary/reliquary/DatastreamDefaultMimeTypePinLaw", "make", "(ICCC)Ljava/lang/String;"⟩ : MethodName)) hown (mvT hZ (hw _ (List.mem_of_getElem? (i := 0) rfl))) (mvT hZ (hw _ (List.mem_of_getElem? (i := 1) rfl))) (mvT hZ (hw _ (List.mem_of_getElem? (i := 2) rfl))) (mvT hZ (hw _ (List.mem_of_getElem? (i := 3) rfl))) (by decide) (backOfCH (W := 0) (vm0 := s.vm) (mk_0 l Z aw hw [] x942 x944 x946 h0 n0 Z0) hZ (hw _ (List.mem_of_getElem? (i := 3) rfl)) (hw _ (List.mem_of_getElem? (i := 2) rfl)) (by decide) (by decide) (own_EW hw) CH0 all0) (g := (mkF m 49 #[.val (.int p0), .val (.int p1), .val (.int p2), .val (.int p3), .val (.int p4), .val (.int x942), .val (.int x944), .val (.int x946), .val (.int (0 : Int32)), .unset, .unset, .unset] [(.int x946), (.int x944), (.int x942), (.int (0 : Int32))])) rfl (by rw [hml]; rfl) (argsL := [(.int (0 : Int32)), (.int x942), (.int x944), (.int x946)]) (rest := []) (lenOf pd_12 rfl) rfl (by show 2 * 0 + _ ≤ _; exact Nat.le_of_eq rfl) (hb hby at_49) (fun _ _ => ⟨rfl, e0, (by decide : 0 + 6 ≤ _), (by decide : 0 + 12 ≤ _)⟩)
    dsimp only [Pt.U, Pt.locs, Pt.cells, Pt.slots] at Xq950 hSq950 gq950 l950 y950 z950 st950 hQ950 Rq950
    replace l950 := l950.symm; replace y950 := y950.symm; replace z950 := z950.symm; subst l950 y950 z950
    obtain ⟨X950, hS950, hZ950, hown950⟩ := rebS (vm0 := s.vm) hS0 (by rw [e0]; exact hk0 : _ ≤ s₁.heap.size) Xq950 hSq950 gq950 hZ hown
    have hk950 : T950.heap.size ≤ T950.heap.size := Nat.le_refl _
    have CR951 := CHr.trans CR0 Rq950
    have CH952 := Rq950.1
    obtain ⟨r950, t950, kb950, rfl, N950q, K950, sz950, f953, f954, f955, f956⟩ := hQ950
    have N950 := Fr.app N0 N950q
    have gn957 : n0 ≤ r950 := Nat.le_trans Z0 sz950
    have Z958 : n0 ≤ T950.heap.size := Nat.le_trans Z0 K950.1
    have O959 := Old.keep OLD K950 all0
    obtain ⟨_, _, ⟨T960, L960, k960, n960⟩, -, Xq960, hSq960, gq960, ⟨Lc960, hQ960, l960, y960, z960, Rq960⟩, st960⟩ := callSS X950 hx (y := (⟨"com/example/reliquary/reliquary/Datastream", "defaultMimeType", "(Ljava/lang/String;)Ljava/lang/String;"⟩ : MethodName)) hown950 (mvT hZ950 (hw _ (List.mem_of_getElem? (i := 26) rfl))) (mvT hZ950 (hw _ (List.mem_of_getElem? (i := 27) rfl))) (mvT hZ950 (hw _ (List.mem_of_getElem? (i := 28) rfl))) (mvT hZ950 (hw _ (List.mem_of_getElem? (i := 29) rfl))) (by decide) (backOfCH (W := 0) (vm0 := T950.vm) (dm_0 l Z aw hw [] r950 t950 kb950 zc T950.heap n0 Z958 f953 f954 f955 f956 O959 O_COMPACT_STRINGS hzc) hZ950 (hw _ (List.mem_of_getElem? (i := 29) rfl)) (hw _ (List.mem_of_getElem? (i := 28) rfl)) (by decide) (by decide) (own_EW hw) CH952 all0) (g := (mkF m 56 #[.val (.int p0), .val (.int p1), .val (.int p2), .val (.int p3), .val (.int p4), .val (.int x942), .val (.int x944), .val (.int x946), .val (.int (0 : Int32)), .val (.ref r950), .unset, .unset] [(.ref r950)])) rfl (by rw [hml]; rfl) (argsL := [(.ref r950)]) (rest := []) (lenOf pd_13 rfl) rfl (by show 2 * 0 + _ ≤ _; exact Nat.le_of_eq rfl) (hb hby at_56) (fun _ _ => ⟨rfl, rfl, (by decide : 6 + 4 ≤ _), (by decide : 12 + 108 ≤ _)⟩)
    dsimp only [Pt.U, Pt.locs, Pt.cells, Pt.slots] at Xq960 hSq960 gq960 l960 y960 z960 st960 hQ960 Rq960
    replace l960 := l960.symm; replace y960 := y960.symm; replace z960 := z960.symm; subst l960 y960 z960
    obtain ⟨X960, hS960, hZ960, hown960⟩ := rebS hS950 hk950 Xq960 hSq960 gq960 hZ950 hown950
    have hk960 : T960.heap.size ≤ T960.heap.size := Nat.le_refl _
    have CR961 := CHr.trans CR951 Rq960
    have CH962 := Rq960.1
    obtain ⟨rr960, t2960, k2960, rfl, N960q, K960, f963, f964, f965, f966⟩ := hQ960
    have N960 := Fr.app N950 N960q
    have f967 := f953.keep K960
    have f968 := f954.keep K960 nin0
    have f969 := f955.keep K960 nin0
    have f970 := f956.keep K960 nin0
    have Z971 : n0 ≤ T960.heap.size := Nat.le_trans Z958 K960.1
    have O972 := Old.keep O959 K960 all0
    obtain ⟨cq973, kq973, q973a, q973b, q973c⟩ := isOf hZ960 rfl f967
    obtain ⟨_, _, ⟨T973, L973, k973, n973⟩, -, X973, ⟨Lc973, hQ973, l973, y973, z973⟩, st973⟩ := X960.virtualBack hx (y := (⟨"java/lang/String", "length", "()I"⟩ : MethodName)) (z := (⟨"java/lang/String", "length", "()I"⟩ : MethodName)) hown960 (mvT hZ960 (hw _ (List.mem_of_getElem? (i := 43) rfl))) (mvT hZ960 (hw _ (List.mem_of_getElem? (i := 44) rfl))) (notFace_of_selects (args := #[]) (mvT hZ960 (hw _ (List.mem_of_getElem? (i := 46) rfl)))) (mvT hZ960 (hw _ (List.mem_of_getElem? (i := 46) rfl))) (mvT hZ960 (hw _ (List.mem_of_getElem? (i := 45) rfl))) (by decide) (backOf (W := 0) (len_0 l Z aw hw [] r950 t950 kb950 zc T960.heap n0 Z971 f967 f968 f969 f970 O972 O_COMPACT_STRINGS hzc) hZ960 (hw _ (List.mem_of_getElem? (i := 47) rfl)) (hw _ (List.mem_of_getElem? (i := 6) rfl)) (by decide) (by decide)) q973a q973c (g := (mkF m 63 #[.val (.int p0), .val (.int p1), .val (.int p2), .val (.int p3), .val (.int p4), .val (.int x942), .val (.int x944), .val (.int x946), .val (.int (0 : Int32)), .val (.ref r950), .val (.ref rr960), .unset] [(.ref r950)])) rfl (by rw [hml]; rfl) (Steps.refl _) (argsL := []) (rest := []) (lenOf pd_14 rfl) rfl (by show 2 * 0 + _ ≤ _; exact Nat.le_of_eq rfl) (hb hby at_63) (fun _ _ => ⟨rfl, rfl, (by decide : 10 + 0 ≤ _), (by decide : 120 + 0 ≤ _)⟩)
    dsimp only [Pt.U, Pt.locs, Pt.cells, Pt.slots] at X973 l973 y973 z973 st973 hQ973
    replace l973 := l973.symm; replace y973 := y973.symm; replace z973 := z973.symm; subst l973 y973 z973
    obtain ⟨rfl, N973q, e973⟩ := hQ973
    have N973 := Fr.app N960 N973q
    obtain ⟨a974, T974, h974, k974, b974, kb974, X974, e974, E974, hS974, hk974, hZ974, hown974, fE974, fC974, fV974, fA974, -, -, R974, Li974, Df974, st974⟩ := ldcCH (vm0 := T960.vm) X973 hx hZ960 hown960 (hw _ (List.mem_of_getElem? (i := 53) rfl)) (own_wS hw) e973 hS960 hk960 (own_EW hw) (List.mem_of_getElem? (i := 4) rfl) CH962 (vs := [(.int (97 : Int32)), (.int (112 : Int32)), (.int (112 : Int32)), (.int (108 : Int32)), (.int (105 : Int32)), (.int (99 : Int32)), (.int (97 : Int32)), (.int (116 : Int32)), (.int (105 : Int32)), (.int (111 : Int32)), (.int (110 : Int32)), (.int (47 : Int32)), (.int (111 : Int32)), (.int (99 : Int32)), (.int (116 : Int32)), (.int (101 : Int32)), (.int (116 : Int32)), (.int (45 : Int32)), (.int (115 : Int32)), (.int (116 : Int32)), (.int (114 : Int32)), (.int (101 : Int32)), (.int (97 : Int32)), (.int (109 : Int32))]) (z := (24 : Int32)) ⟨by decide, by decide⟩ (by decide) (by decide) (g := (mkF m 101 #[.val (.int p0), .val (.int p1), .val (.int p2), .val (.int p3), .val (.int p4), .val (.int x942), .val (.int x944), .val (.int x946), .val (.int (0 : Int32)), .val (.ref r950), .val (.ref rr960), .val (.int (0 : Int32))] [])) rfl (hb hby at_101) (n := 96) (by decide) (by decide) (by decide) (by decide)
    have CR975 := CHr.trans CR961 R974
    have CH976 := R974.1
    have f977 := f967.ext E974
    have f978 := f968.ext E974
    have f979 := f969.ext E974
    have f980 := f970.ext E974
    have f981 := f963.ext E974
    have f982 := f964.ext E974
    have f983 := f965.ext E974
    have f984 := f966.ext E974
    have Z985 : n0 ≤ h974.size := Nat.le_trans Z971 E974.1
    have O986 := Old.ext O972 E974
    obtain ⟨cq987, kq987, q987a, q987b, q987c⟩ := isOf hZ974 e974 fE974
    obtain ⟨_, _, ⟨T987, L987, k987, n987⟩, -, X987, ⟨Lc987, hQ987, l987, y987, z987⟩, st987⟩ := X974.virtualBack hx (y := (⟨"java/lang/String", "equals", "(Ljava/lang/Object;)Z"⟩ : MethodName)) (z := (⟨"java/lang/String", "equals", "(Ljava/lang/Object;)Z"⟩ : MethodName)) hown974 (mvT hZ974 (hw _ (List.mem_of_getElem? (i := 54) rfl))) (mvT hZ974 (hw _ (List.mem_of_getElem? (i := 32) rfl))) (notFace_of_selects (args := #[]) (mvT hZ974 (hw _ (List.mem_of_getElem? (i := 34) rfl)))) (mvT hZ974 (hw _ (List.mem_of_getElem? (i := 34) rfl))) (mvT hZ974 (hw _ (List.mem_of_getElem? (i := 33) rfl))) (by decide) (backOf (W := 0) (eq_o l Z aw hw [] a974 rr960 b974 t2960 kb974 k2960 zc h974 n0 Z985 f981 fC974 fV974 f982 f983 fA974 f984 O986 O_COMPACT_STRINGS hzc) hZ974 (hw _ (List.mem_of_getElem? (i := 35) rfl)) (hw _ (List.mem_of_getElem? (i := 6) rfl)) (by decide) (by decide)) q987a q987c (g := (mkF m 105 #[.val (.int p0), .val (.int p1), .val (.int p2), .val (.int p3), .val (.int p4), .val (.int x942), .val (.int x944), .val (.int x946), .val (.int (0 : Int32)), .val (.ref r950), .val (.ref rr960), .val (.int (0 : Int32))] [(.ref rr960), (.ref a974)])) rfl (by rw [hml]; rfl) (Steps.refl _) (argsL := [(.ref rr960)]) (rest := []) (lenOf pd_11 rfl) rfl (by show 2 * 0 + _ ≤ _; exact Nat.le_of_eq rfl) (hb hby at_105) (fun _ _ => ⟨rfl, e974, (by decide : 12 + 0 ≤ _), (by decide : 220 + 0 ≤ _)⟩)
    dsimp only [Pt.U, Pt.locs, Pt.cells, Pt.slots] at X987 l987 y987 z987 st987 hQ987
    replace l987 := l987.symm; replace y987 := y987.symm; replace z987 := z987.symm; subst l987 y987 z987
    obtain ⟨rfl, N987q, e987⟩ := hQ987
    have N987 := Fr.app N973 N987q
    obtain ⟨fs, hr, hrun, hended, hEW⟩ := Stand.leaveW X987 hS974 (by rw [e987]; exact hk974) (v := some (.int (1 : Int32))) (fun h => by rw [Bd.returns] at h; cases h)
    refine ⟨_, _, pre949 _ ?_, hrun, hended, _, _, rfl, ?_, ?_, hEW.1, hEW.2.1, hEW.2.2.1, hEW.2.2.2.mono (by decide) (by decide)⟩
    ·
      show Steps p.tables e below (s₁.setTop (mkF m 41 #[.val (.int p0), .val (.int p1), .val (.int p2), .val (.int p3), .val (.int p4), .val (.int x942), .val (.int x944), .val (.int x946), .val (.int (0 : Int32)), .unset, .unset, .unset] [])) _
      refine XS.iload X0.here hx rfl (hb hby at_41) rfl ?_
      show Steps p.tables e below (s₁.setTop (mkF m 43 #[.val (.int p0), .val (.int p1), .val (.int p2), .val (.int p3), .val (.int p4), .val (.int x942), .val (.int x944), .val (.int x946), .val (.int (0 : Int32)), .unset, .unset, .unset] [(.int (0 : Int32))])) _
      refine XS.iload X0.here hx rfl (hb hby at_43) rfl ?_
      show Steps p.tables e below (s₁.setTop (mkF m 45 #[.val (.int p0), .val (.int p1), .val (.int p2), .val (.int p3), .val (.int p4), .val (.int x942), .val (.int x944), .val (.int x946), .val (.int (0 : Int32)), .unset, .unset, .unset] [(.int x942), (.int (0 : Int32))])) _
      refine XS.iload X0.here hx rfl (hb hby at_45) rfl ?_
      show Steps p.tables e below (s₁.setTop (mkF m 47 #[.val (.int p0), .val (.int p1), .val (.int p2), .val (.int p3), .val (.int p4), .val (.int x942), .val (.int x944), .val (.int x946), .val (.int (0 : Int32)), .unset, .unset, .unset] [(.int x944), (.int x942), (.int (0 : Int32))])) _
      refine XS.iload X0.here hx rfl (hb hby at_47) rfl ?_
      show Steps p.tables e below (s₁.setTop (mkF m 49 #[.val (.int p0), .val (.int p1), .val (.int p2), .val (.int p3), .val (.int p4), .val (.int x942), .val (.int x944), .val (.int x946), .val (.int (0 : Int32)), .unset, .unset, .unset] [(.int x946), (.int x944), (.int x942), (.int (0 : Int32))])) _
      refine st950.trans ?_
      show Steps p.tables e below (T950.setTop (mkF m 52 #[.val (.int p0), .val (.int p1), .val (.int p2), .val (.int p3), .val (.int p4), .val (.int x942), .val (.int x944), .val (.int x946), .val (.int (0 : Int32)), .unset, .unset, .unset] [(.ref r950)])) _
      refine XS.astore X950.here hx rfl (hb hby at_52) rfl rfl (l' := #[.val (.int p0), .val (.int p1), .val (.int p2), .val (.int p3), .val (.int p4), .val (.int x942), .val (.int x944), .val (.int x946), .val (.int (0 : Int32)), .val (.ref r950), .unset, .unset]) rfl ?_
      show Steps p.tables e below (T950.setTop (mkF m 54 #[.val (.int p0), .val (.int p1), .val (.int p2), .val (.int p3), .val (.int p4), .val (.int x942), .val (.int x944), .val (.int x946), .val (.int (0 : Int32)), .val (.ref r950), .unset, .unset] [])) _
      refine XS.aload X950.here hx rfl (hb hby at_54) rfl rfl ?_
      show Steps p.tables e below (T950.setTop (mkF m 56 #[.val (.int p0), .val (.int p1), .val (.int p2), .val (.int p3), .val (.int p4), .val (.int x942), .val (.int x944), .val (.int x946), .val (.int (0 : Int32)), .val (.ref r950), .unset, .unset] [(.ref r950)])) _
      refine st960.trans ?_
      show Steps p.tables e below (T960.setTop (mkF m 59 #[.val (.int p0), .val (.int p1), .val (.int p2), .val (.int p3), .val (.int p4), .val (.int x942), .val (.int x944), .val (.int x946), .val (.int (0 : Int32)), .val (.ref r950), .unset, .unset] [(.ref rr960)])) _
      refine XS.astore X960.here hx rfl (hb hby at_59) rfl rfl (l' := #[.val (.int p0), .val (.int p1), .val (.int p2), .val (.int p3), .val (.int p4), .val (.int x942), .val (.int x944), .val (.int x946), .val (.int (0 : Int32)), .val (.ref r950), .val (.ref rr960), .unset]) rfl ?_
      show Steps p.tables e below (T960.setTop (mkF m 61 #[.val (.int p0), .val (.int p1), .val (.int p2), .val (.int p3), .val (.int p4), .val (.int x942), .val (.int x944), .val (.int x946), .val (.int (0 : Int32)), .val (.ref r950), .val (.ref rr960), .unset] [])) _
      refine XS.aload X960.here hx rfl (hb hby at_61) rfl rfl ?_
      show Steps p.tables e below (T960.setTop (mkF m 63 #[.val (.int p0), .val (.int p1), .val (.int p2), .val (.int p3), .val (.int p4), .val (.int x942), .val (.int x944), .val (.int x946), .val (.int (0 : Int32)), .val (.ref r950), .val (.ref rr960), .unset] [(.ref r950)])) _
      refine st973.trans ?_
      show Steps p.tables e below (T973.setTop (mkF m 66 #[.val (.int p0), .val (.int p1), .val (.int p2), .val (.int p3), .val (.int p4), .val (.int x942), .val (.int x944), .val (.int x946), .val (.int (0 : Int32)), .val (.ref r950), .val (.ref rr960), .unset] [(.int (0 : Int32))])) _
      refine XS.iconst X973.here hx rfl (hb hby at_66) ?_
      show Steps p.tables e below (T973.setTop (mkF m 67 #[.val (.int p0), .val (.int p1), .val (.int p2), .val (.int p3), .val (.int p4), .val (.int x942), .val (.int x944), .val (.int x946), .val (.int (0 : Int32)), .val (.ref r950), .val (.ref rr960), .unset] [(.int (1 : Int32)), (.int (0 : Int32))])) _
      refine XS.icmpYes X973.here hx rfl (pc0 := 67) (pc' := 85) rfl (hb hby at_67) rfl (feq (by decide)).2 (by decide) (by decide) ?_
      show Steps p.tables e below (T973.setTop (mkF m 85 #[.val (.int p0), .val (.int p1), .val (.int p2), .val (.int p3), .val (.int p4), .val (.int x942), .val (.int x944), .val (.int x946), .val (.int (0 : Int32)), .val (.ref r950), .val (.ref rr960), .unset] [])) _
      refine XS.iconst X973.here hx rfl (hb hby at_85) ?_
      show Steps p.tables e below (T973.setTop (mkF m 86 #[.val (.int p0), .val (.int p1), .val (.int p2), .val (.int p3), .val (.int p4), .val (.int x942), .val (.int x944), .val (.int x946), .val (.int (0 : Int32)), .val (.ref r950), .val (.ref rr960), .unset] [(.int (0 : Int32))])) _
      refine XS.istore X973.here hx rfl (hb hby at_86) rfl (l' := #[.val (.int p0), .val (.int p1), .val (.int p2), .val (.int p3), .val (.int p4), .val (.int x942), .val (.int x944), .val (.int x946), .val (.int (0 : Int32)), .val (.ref r950), .val (.ref rr960), .val (.int (0 : Int32))]) rfl ?_
      show Steps p.tables e below (T973.setTop (mkF m 88 #[.val (.int p0), .val (.int p1), .val (.int p2), .val (.int p3), .val (.int p4), .val (.int x942), .val (.int x944), .val (.int x946), .val (.int (0 : Int32)), .val (.ref r950), .val (.ref rr960), .val (.int (0 : Int32))] [])) _
      refine XS.iload X973.here hx rfl (hb hby at_88) rfl ?_
      show Steps p.tables e below (T973.setTop (mkF m 90 #[.val (.int p0), .val (.int p1), .val (.int p2), .val (.int p3), .val (.int p4), .val (.int x942), .val (.int x944), .val (.int x946), .val (.int (0 : Int32)), .val (.ref r950), .val (.ref rr960), .val (.int (0 : Int32))] [(.int (0 : Int32))])) _
      refine XS.ifYes X973.here hx rfl (pc0 := 90) (pc' := 101) rfl (hb hby at_90) rfl ((if0 _ _).trans (teq rfl).1) (by decide) (by decide) ?_
      show Steps p.tables e below (T973.setTop (mkF m 101 #[.val (.int p0), .val (.int p1), .val (.int p2), .val (.int p3), .val (.int p4), .val (.int x942), .val (.int x944), .val (.int x946), .val (.int (0 : Int32)), .val (.ref r950), .val (.ref rr960), .val (.int (0 : Int32))] [])) _
      refine st974 _ ?_
      show Steps p.tables e below (T974.setTop (mkF m 103 #[.val (.int p0), .val (.int p1), .val (.int p2), .val (.int p3), .val (.int p4), .val (.int x942), .val (.int x944), .val (.int x946), .val (.int (0 : Int32)), .val (.ref r950), .val (.ref rr960), .val (.int (0 : Int32))] [(.ref a974)])) _
      refine XS.aload X974.here hx rfl (hb hby at_103) rfl rfl ?_
      show Steps p.tables e below (T974.setTop (mkF m 105 #[.val (.int p0), .val (.int p1), .val (.int p2), .val (.int p3), .val (.int p4), .val (.int x942), .val (.int x944), .val (.int x946), .val (.int (0 : Int32)), .val (.ref r950), .val (.ref rr960), .val (.int (0 : Int32))] [(.ref rr960), (.ref a974)])) _
      refine st987.trans ?_
      show Steps p.tables e below (T987.setTop (mkF m 108 #[.val (.int p0), .val (.int p1), .val (.int p2), .val (.int p3), .val (.int p4), .val (.int x942), .val (.int x944), .val (.int x946), .val (.int (0 : Int32)), .val (.ref r950), .val (.ref rr960), .val (.int (0 : Int32))] [(.int (1 : Int32))])) _
      exact retZ X987 hx Bd.returns (by decide) (hb hby at_108) hr
    ·
      show Q_rm0 Z p0 p1 p2 p3 p4 zc fv h0 n0 _ T987.heap _
      rw [e987]
      exact ⟨rfl, N987⟩
    ·
      rw [hh]
      show CHr Z consts_1 s.vm h0 T987.vm T987.heap
      rw [e987]
      exact CHr.trans CR975 (CHv.at (vm0 := T974.vm) X987 hZ974 (own_EW hw) CH976)
  ·
    obtain rfl : x948 = (1 : Int32) := hx948.trans q
    obtain ⟨_, _, ⟨T988, L988, k988, n988⟩, -, X988, ⟨Lc988, hQ988, l988, y988, z988⟩, st988⟩ := Jvm.LawKit.callS X0 hx (y := (⟨"com/example/reliquary/reliquary/DatastreamDefaultMimeTypePinLaw", "make", "(ICCC)Ljava/lang/String;"⟩ : MethodName)) hown (mvT hZ (hw _ (List.mem_of_getElem? (i := 0) rfl))) (mvT hZ (hw _ (List.mem_of_getElem? (i := 1) rfl))) (mvT hZ (hw _ (List.mem_of_getElem? (i := 2) rfl))) (mvT hZ (hw _ (List.mem_of_getElem? (i := 3) rfl))) (by decide) (backOf (W := 0) (mk_1 l Z aw hw [] x942 x944 x946 zc h0 n0 Z0 OLD O_COMPACT_STRINGS hzc (own_c0 hx942)) hZ (hw _ (List.mem_of_getElem? (i := 3) rfl)) (hw _ (List.mem_of_getElem? (i := 2) rfl)) (by decide) (by decide)) (g := (mkF m 49 #[.val (.int p0), .val (.int p1), .val (.int p2), .val (.int p3), .val (.int p4), .val (.int x942), .val (.int x944), .val (.int x946), .val (.int (1 : Int32)), .unset, .unset, .unset] [(.int x946), (.int x944), (.int x942), (.int (1 : Int32))])) rfl (by rw [hml]; rfl) (argsL := [(.int (1 : Int32)), (.int x942), (.int x944), (.int x946)]) (rest := []) (lenOf pd_12 rfl) rfl (by show 2 * 0 + _ ≤ _; exact Nat.le_of_eq rfl) (hb hby at_49) (fun _ _ => ⟨rfl, e0, (by decide : 0 + 3 ≤ _), (by decide : 0 + 6 ≤ _)⟩)
    dsimp only [Pt.U, Pt.locs, Pt.cells, Pt.slots] at X988 l988 y988 z988 st988 hQ988
    replace l988 := l988.symm; replace y988 := y988.symm; replace z988 := z988.symm; subst l988 y988 z988
    obtain ⟨r988, t988, kb988, w0988, rfl, N988q, K988, sz988, f989, f990, f991, f992, f993⟩ := hQ988
    have N988 := Fr.app N0 N988q
    have gn994 : n0 ≤ r988 := Nat.le_trans Z0 sz988
    have Z995 : n0 ≤ T988.heap.size := Nat.le_trans Z0 K988.1
    have O996 := Old.keep OLD K988 all0
    have hs997 : ∀ x ∈ ([] : List Addr), Safe Z consts_1 s.vm h0 x := all0
    have sf998 := Safe.keep K988 hs997 CH0 (Safe.new sz988)
    have R999 := CHr.keep K988 hs997 CH0
    have CR1000 := CHr.trans CR0 R999
    have CH1001 := R999.1
    have hk1002 := Nat.le_trans hk0 K988.1
    by_cases hX8 : w0988 = (88 : Int32)
    ·
      obtain ⟨_, _, ⟨T1003, L1003, k1003, n1003⟩, -, Xq1003, hSq1003, gq1003, ⟨Lc1003, hQ1003, l1003, y1003, z1003, Rq1003⟩, st1003⟩ := callSS X988 hx (y := (⟨"com/example/reliquary/reliquary/Datastream", "defaultMimeType", "(Ljava/lang/String;)Ljava/lang/String;"⟩ : MethodName)) hown (mvT hZ (hw _ (List.mem_of_getElem? (i := 26) rfl))) (mvT hZ (hw _ (List.mem_of_getElem? (i := 27) rfl))) (mvT hZ (hw _ (List.mem_of_getElem? (i := 28) rfl))) (mvT hZ (hw _ (List.mem_of_getElem? (i := 29) rfl))) (by decide) (backOfCH (W := 0) (vm0 := s.vm) (dm_1a l Z aw hw [] r988 t988 kb988 w0988 zc T988.heap n0 Z995 f989 f990 f991 f992 O996 O_COMPACT_STRINGS hzc hX8) hZ (hw _ (List.mem_of_getElem? (i := 29) rfl)) (hw _ (List.mem_of_getElem? (i := 28) rfl)) (by decide) (by decide) (own_EW hw) CH1001 all0) (g := (mkF m 56 #[.val (.int p0), .val (.int p1), .val (.int p2), .val (.int p3), .val (.int p4), .val (.int x942), .val (.int x944), .val (.int x946), .val (.int (1 : Int32)), .val (.ref r988), .unset, .unset] [(.ref r988)])) rfl (by rw [hml]; rfl) (argsL := [(.ref r988)]) (rest := []) (lenOf pd_13 rfl) rfl (by show 2 * 0 + _ ≤ _; exact Nat.le_of_eq rfl) (hb hby at_56) (fun _ _ => ⟨rfl, rfl, (by decide : 3 + 4 ≤ _), (by decide : 6 + 44 ≤ _)⟩)
      dsimp only [Pt.U, Pt.locs, Pt.cells, Pt.slots] at Xq1003 hSq1003 gq1003 l1003 y1003 z1003 st1003 hQ1003 Rq1003
      replace l1003 := l1003.symm; replace y1003 := y1003.symm; replace z1003 := z1003.symm; subst l1003 y1003 z1003
      obtain ⟨X1003, hS1003, hZ1003, hown1003⟩ := rebS (vm0 := s.vm) hS0 hk1002 Xq1003 hSq1003 gq1003 hZ hown
      have hk1003 : T1003.heap.size ≤ T1003.heap.size := Nat.le_refl _
      have sf1004 := CHr.safe Rq1003 f989.lt sf998
      have CR1005 := CHr.trans CR1000 Rq1003
      have CH1006 := Rq1003.1
      obtain ⟨rr1003, t21003, k21003, rfl, N1003q, K1003, f1007, f1008, f1009, f1010⟩ := hQ1003
      have N1003 := Fr.app N988 N1003q
      have f1011 := f989.keep K1003
      have f1012 := f990.keep K1003 nin0
      have f1013 := f991.keep K1003 nin0
      have f1014 := f992.keep K1003 nin0
      have Z1015 : n0 ≤ T1003.heap.size := Nat.le_trans Z995 K1003.1
      have O1016 := Old.keep O996 K1003 all0
      obtain ⟨cq1017, kq1017, q1017a, q1017b, q1017c⟩ := isOf hZ1003 rfl f1011
      obtain ⟨_, _, ⟨T1017, L1017, k1017, n1017⟩, -, X1017, ⟨Lc1017, hQ1017, l1017, y1017, z1017⟩, st1017⟩ := X1003.virtualBack hx (y := (⟨"java/lang/String", "length", "()I"⟩ : MethodName)) (z := (⟨"java/lang/String", "length", "()I"⟩ : MethodName)) hown1003 (mvT hZ1003 (hw _ (List.mem_of_getElem? (i := 43) rfl))) (mvT hZ1003 (hw _ (List.mem_of_getElem? (i := 44) rfl))) (notFace_of_selects (args := #[]) (mvT hZ1003 (hw _ (List.mem_of_getElem? (i := 46) rfl)))) (mvT hZ1003 (hw _ (List.mem_of_getElem? (i := 46) rfl))) (mvT hZ1003 (hw _ (List.mem_of_getElem? (i := 45) rfl))) (by decide) (backOf (W := 0) (len_1 l Z aw hw [] r988 t988 kb988 w0988 zc T1003.heap n0 Z1015 f1011 f1012 f1013 f1014 O1016 O_COMPACT_STRINGS hzc) hZ1003 (hw _ (List.mem_of_getElem? (i := 47) rfl)) (hw _ (List.mem_of_getElem? (i := 6) rfl)) (by decide) (by decide)) q1017a q1017c (g := (mkF m 63 #[.val (.int p0), .val (.int p1), .val (.int p2), .val (.int p3), .val (.int p4), .val (.int x942), .val (.int x944), .val (.int x946), .val (.int (1 : Int32)), .val (.ref r988), .val (.ref rr1003), .unset] [(.ref r988)])) rfl (by rw [hml]; rfl) (Steps.refl _) (argsL := []) (rest := []) (lenOf pd_14 rfl) rfl (by show 2 * 0 + _ ≤ _; exact Nat.le_of_eq rfl) (hb hby at_63) (fun _ _ => ⟨rfl, rfl, (by decide : 7 + 0 ≤ _), (by decide : 50 + 0 ≤ _)⟩)
      dsimp only [Pt.U, Pt.locs, Pt.cells, Pt.slots] at X1017 l1017 y1017 z1017 st1017 hQ1017
      replace l1017 := l1017.symm; replace y1017 := y1017.symm; replace z1017 := z1017.symm; subst l1017 y1017 z1017
      obtain ⟨rfl, N1017q, e1017⟩ := hQ1017
      have N1017 := Fr.app N1003 N1017q
      obtain ⟨cq1018, kq1018, q1018a, q1018b, q1018c⟩ := isOf hZ1003 e1017 f1011
      obtain ⟨_, _, ⟨T1018, L1018, k1018, n1018⟩, -, X1018, ⟨Lc1018, hQ1018, l1018, y1018, z1018⟩, st1018⟩ := X1017.virtualBack hx (y := (⟨"java/lang/String", "charAt", "(I)C"⟩ : MethodName)) (z := (⟨"java/lang/String", "charAt", "(I)C"⟩ : MethodName)) hown1003 (mvT hZ1003 (hw _ (List.mem_of_getElem? (i := 66) rfl))) (mvT hZ1003 (hw _ (List.mem_of_getElem? (i := 67) rfl))) (notFace_of_selects (args := #[]) (mvT hZ1003 (hw _ (List.mem_of_getElem? (i := 69) rfl)))) (mvT hZ1003 (hw _ (List.mem_of_getElem? (i := 69) rfl))) (mvT hZ1003 (hw _ (List.mem_of_getElem? (i := 68) rfl))) (by decide) (backOf (W := 0) (rm13 l Z aw hw [] r988 t988 kb988 w0988 zc fv T1003.heap n0 Z1015 f1011 f1012 f1013 f1014 O1016 O_COMPACT_STRINGS hzc O_SIOOBE_FORMATTER hfv) hZ1003 (hw _ (List.mem_of_getElem? (i := 70) rfl)) (hw _ (List.mem_of_getElem? (i := 6) rfl)) (by decide) (by decide)) q1018a q1018c (g := (mkF m 73 #[.val (.int p0), .val (.int p1), .val (.int p2), .val (.int p3), .val (.int p4), .val (.int x942), .val (.int x944), .val (.int x946), .val (.int (1 : Int32)), .val (.ref r988), .val (.ref rr1003), .unset] [(.int (0 : Int32)), (.ref r988)])) rfl (by rw [hml]; rfl) (Steps.refl _) (argsL := [(.int (0 : Int32))]) (rest := []) (lenOf pd_15 rfl) rfl (by show 2 * 0 + _ ≤ _; exact Nat.le_of_eq rfl) (hb hby at_73) (fun _ _ => ⟨rfl, e1017, (by decide : 7 + 0 ≤ _), (by decide : 50 + 0 ≤ _)⟩)
      dsimp only [Pt.U, Pt.locs, Pt.cells, Pt.slots] at X1018 l1018 y1018 z1018 st1018 hQ1018
      replace l1018 := l1018.symm; replace y1018 := y1018.symm; replace z1018 := z1018.symm; subst l1018 y1018 z1018
      obtain ⟨rfl, N1018q, e1018⟩ := hQ1018
      have N1018 := Fr.app N1017 N1018q
      have c1019 : (nar .char (nar .char (((w0988 &&& (255 : Int32)).toUInt32.toUInt16.toUInt32.toInt32)))) = (88 : Int32) := by
        exact (own_ch f993).mpr hX8
      obtain ⟨a1020, T1020, h1020, k1020, b1020, kb1020, X1020, e1020, E1020, hS1020, hk1020, hZ1020, hown1020, fE1020, fC1020, fV1020, fA1020, -, -, R1020, Li1020, Df1020, st1020⟩ := ldcCH (vm0 := T1003.vm) X1018 hx hZ1003 hown1003 (hw _ (List.mem_of_getElem? (i := 87) rfl)) (own_wS hw) e1018 hS1003 hk1003 (own_EW hw) (List.mem_of_getElem? (i := 3) rfl) CH1006 (vs := [(.int (116 : Int32)), (.int (101 : Int32)), (.int (120 : Int32)), (.int (116 : Int32)), (.int (47 : Int32)), (.int (120 : Int32)), (.int (109 : Int32)), (.int (108 : Int32))]) (z := (8 : Int32)) ⟨by decide, by decide⟩ (by decide) (by decide) (g := (mkF m 93 #[.val (.int p0), .val (.int p1), .val (.int p2), .val (.int p3), .val (.int p4), .val (.int x942), .val (.int x944), .val (.int x946), .val (.int (1 : Int32)), .val (.ref r988), .val (.ref rr1003), .val (.int (1 : Int32))] [])) rfl (hb hby at_93) (n := 32) (by decide) (by decide) (by decide) (by decide)
      have sf1021 := CHr.safe R1020 f1011.lt sf1004
      have CR1022 := CHr.trans CR1005 R1020
      have CH1023 := R1020.1
      have f1024 := f1011.ext E1020
      have f1025 := f1012.ext E1020
      have f1026 := f1013.ext E1020
      have f1027 := f1014.ext E1020
      have f1028 := f1007.ext E1020
      have f1029 := f1008.ext E1020
      have f1030 := f1009.ext E1020
      have f1031 := f1010.ext E1020
      have Z1032 : n0 ≤ h1020.size := Nat.le_trans Z1015 E1020.1
      have O1033 := Old.ext O1016 E1020
      have ne1034 := (Df1020 _ sf1021).1
      have ne1035 := (Df1020 _ sf1021).2
      obtain ⟨cq1036, kq1036, q1036a, q1036b, q1036c⟩ := isOf hZ1020 e1020 fE1020
      obtain ⟨_, _, ⟨T1036, L1036, k1036, n1036⟩, -, X1036, ⟨Lc1036, hQ1036, l1036, y1036, z1036⟩, st1036⟩ := X1020.virtualBack hx (y := (⟨"java/lang/String", "equals", "(Ljava/lang/Object;)Z"⟩ : MethodName)) (z := (⟨"java/lang/String", "equals", "(Ljava/lang/Object;)Z"⟩ : MethodName)) hown1020 (mvT hZ1020 (hw _ (List.mem_of_getElem? (i := 54) rfl))) (mvT hZ1020 (hw _ (List.mem_of_getElem? (i := 32) rfl))) (notFace_of_selects (args := #[]) (mvT hZ1020 (hw _ (List.mem_of_getElem? (i := 34) rfl)))) (mvT hZ1020 (hw _ (List.mem_of_getElem? (i := 34) rfl))) (mvT hZ1020 (hw _ (List.mem_of_getElem? (i := 33) rfl))) (by decide) (backOf (W := 0) (eq_x l Z aw hw [] a1020 rr1003 b1020 t21003 kb1020 k21003 zc h1020 n0 Z1032 f1028 fC1020 fV1020 f1029 f1030 fA1020 f1031 O1033 O_COMPACT_STRINGS hzc) hZ1020 (hw _ (List.mem_of_getElem? (i := 35) rfl)) (hw _ (List.mem_of_getElem? (i := 6) rfl)) (by decide) (by decide)) q1036a q1036c (g := (mkF m 97 #[.val (.int p0), .val (.int p1), .val (.int p2), .val (.int p3), .val (.int p4), .val (.int x942), .val (.int x944), .val (.int x946), .val (.int (1 : Int32)), .val (.ref r988), .val (.ref rr1003), .val (.int (1 : Int32))] [(.ref rr1003), (.ref a1020)])) rfl (by rw [hml]; rfl) (Steps.refl _) (argsL := [(.ref rr1003)]) (rest := []) (lenOf pd_11 rfl) rfl (by show 2 * 0 + _ ≤ _; exact Nat.le_of_eq rfl) (hb hby at_97) (fun _ _ => ⟨rfl, e1020, (by decide : 9 + 0 ≤ _), (by decide : 86 + 0 ≤ _)⟩)
      dsimp only [Pt.U, Pt.locs, Pt.cells, Pt.slots] at X1036 l1036 y1036 z1036 st1036 hQ1036
      replace l1036 := l1036.symm; replace y1036 := y1036.symm; replace z1036 := z1036.symm; subst l1036 y1036 z1036
      obtain ⟨rfl, N1036q, e1036⟩ := hQ1036
      have N1036 := Fr.app N1018 N1036q
      obtain ⟨fs, hr, hrun, hended, hEW⟩ := Stand.leaveW X1036 hS1020 (by rw [e1036]; exact hk1020) (v := some (.int (1 : Int32))) (fun h => by rw [Bd.returns] at h; cases h)
      refine ⟨_, _, pre949 _ ?_, hrun, hended, _, _, rfl, ?_, ?_, hEW.1, hEW.2.1, hEW.2.2.1, hEW.2.2.2.mono (by decide) (by decide)⟩
      ·
        show Steps p.tables e below (s₁.setTop (mkF m 41 #[.val (.int p0), .val (.int p1), .val (.int p2), .val (.int p3), .val (.int p4), .val (.int x942), .val (.int x944), .val (.int x946), .val (.int (1 : Int32)), .unset, .unset, .unset] [])) _
        refine XS.iload X0.here hx rfl (hb hby at_41) rfl ?_
        show Steps p.tables e below (s₁.setTop (mkF m 43 #[.val (.int p0), .val (.int p1), .val (.int p2), .val (.int p3), .val (.int p4), .val (.int x942), .val (.int x944), .val (.int x946), .val (.int (1 : Int32)), .unset, .unset, .unset] [(.int (1 : Int32))])) _
        refine XS.iload X0.here hx rfl (hb hby at_43) rfl ?_
        show Steps p.tables e below (s₁.setTop (mkF m 45 #[.val (.int p0), .val (.int p1), .val (.int p2), .val (.int p3), .val (.int p4), .val (.int x942), .val (.int x944), .val (.int x946), .val (.int (1 : Int32)), .unset, .unset, .unset] [(.int x942), (.int (1 : Int32))])) _
        refine XS.iload X0.here hx rfl (hb hby at_45) rfl ?_
        show Steps p.tables e below (s₁.setTop (mkF m 47 #[.val (.int p0), .val (.int p1), .val (.int p2), .val (.int p3), .val (.int p4), .val (.int x942), .val (.int x944), .val (.int x946), .val (.int (1 : Int32)), .unset, .unset, .unset] [(.int x944), (.int x942), (.int (1 : Int32))])) _
        refine XS.iload X0.here hx rfl (hb hby at_47) rfl ?_
        show Steps p.tables e below (s₁.setTop (mkF m 49 #[.val (.int p0), .val (.int p1), .val (.int p2), .val (.int p3), .val (.int p4), .val (.int x942), .val (.int x944), .val (.int x946), .val (.int (1 : Int32)), .unset, .unset, .unset] [(.int x946), (.int x944), (.int x942), (.int (1 : Int32))])) _
        refine st988 _ ?_
        show Steps p.tables e below (T988.setTop (mkF m 52 #[.val (.int p0), .val (.int p1), .val (.int p2), .val (.int p3), .val (.int p4), .val (.int x942), .val (.int x944), .val (.int x946), .val (.int (1 : Int32)), .unset, .unset, .unset] [(.ref r988)])) _
        refine XS.astore X988.here hx rfl (hb hby at_52) rfl rfl (l' := #[.val (.int p0), .val (.int p1), .val (.int p2), .val (.int p3), .val (.int p4), .val (.int x942), .val (.int x944), .val (.int x946), .val (.int (1 : Int32)), .val (.ref r988), .unset, .unset]) rfl ?_
        show Steps p.tables e below (T988.setTop (mkF m 54 #[.val (.int p0), .val (.int p1), .val (.int p2), .val (.int p3), .val (.int p4), .val (.int x942), .val (.int x944), .val (.int x946), .val (.int (1 : Int32)), .val (.ref r988), .unset, .unset] [])) _
        refine XS.aload X988.here hx rfl (hb hby at_54) rfl rfl ?_
        show Steps p.tables e below (T988.setTop (mkF m 56 #[.val (.int p0), .val (.int p1), .val (.int p2), .val (.int p3), .val (.int p4), .val (.int x942), .val (.int x944), .val (.int x946), .val (.int (1 : Int32)), .val (.ref r988), .unset, .unset] [(.ref r988)])) _
        refine st1003.trans ?_
        show Steps p.tables e below (T1003.setTop (mkF m 59 #[.val (.int p0), .val (.int p1), .val (.int p2), .val (.int p3), .val (.int p4), .val (.int x942), .val (.int x944), .val (.int x946), .val (.int (1 : Int32)), .val (.ref r988), .unset, .unset] [(.ref rr1003)])) _
        refine XS.astore X1003.here hx rfl (hb hby at_59) rfl rfl (l' := #[.val (.int p0), .val (.int p1), .val (.int p2), .val (.int p3), .val (.int p4), .val (.int x942), .val (.int x944), .val (.int x946), .val (.int (1 : Int32)), .val (.ref r988), .val (.ref rr1003), .unset]) rfl ?_
        show Steps p.tables e below (T1003.setTop (mkF m 61 #[.val (.int p0), .val (.int p1), .val (.int p2), .val (.int p3), .val (.int p4), .val (.int x942), .val (.int x944), .val (.int x946), .val (.int (1 : Int32)), .val (.ref r988), .val (.ref rr1003), .unset] [])) _
        refine XS.aload X1003.here hx rfl (hb hby at_61) rfl rfl ?_
        show Steps p.tables e below (T1003.setTop (mkF m 63 #[.val (.int p0), .val (.int p1), .val (.int p2), .val (.int p3), .val (.int p4), .val (.int x942), .val (.int x944), .val (.int x946), .val (.int (1 : Int32)), .val (.ref r988), .val (.ref rr1003), .unset] [(.ref r988)])) _
        refine st1017.trans ?_
        show Steps p.tables e below (T1017.setTop (mkF m 66 #[.val (.int p0), .val (.int p1), .val (.int p2), .val (.int p3), .val (.int p4), .val (.int x942), .val (.int x944), .val (.int x946), .val (.int (1 : Int32)), .val (.ref r988), .val (.ref rr1003), .unset] [(.int (1 : Int32))])) _
        refine XS.iconst X1017.here hx rfl (hb hby at_66) ?_
        show Steps p.tables e below (T1017.setTop (mkF m 67 #[.val (.int p0), .val (.int p1), .val (.int p2), .val (.int p3), .val (.int p4), .val (.int x942), .val (.int x944), .val (.int x946), .val (.int (1 : Int32)), .val (.ref r988), .val (.ref rr1003), .unset] [(.int (1 : Int32)), (.int (1 : Int32))])) _
        refine XS.icmpNo X1017.here hx rfl (hb hby at_67) rfl (teq rfl).2 ?_
        show Steps p.tables e below (T1017.setTop (mkF m 70 #[.val (.int p0), .val (.int p1), .val (.int p2), .val (.int p3), .val (.int p4), .val (.int x942), .val (.int x944), .val (.int x946), .val (.int (1 : Int32)), .val (.ref r988), .val (.ref rr1003), .unset] [])) _
        refine XS.aload X1017.here hx rfl (hb hby at_70) rfl rfl ?_
        show Steps p.tables e below (T1017.setTop (mkF m 72 #[.val (.int p0), .val (.int p1), .val (.int p2), .val (.int p3), .val (.int p4), .val (.int x942), .val (.int x944), .val (.int x946), .val (.int (1 : Int32)), .val (.ref r988), .val (.ref rr1003), .unset] [(.ref r988)])) _
        refine XS.iconst X1017.here hx rfl (hb hby at_72) ?_
        show Steps p.tables e below (T1017.setTop (mkF m 73 #[.val (.int p0), .val (.int p1), .val (.int p2), .val (.int p3), .val (.int p4), .val (.int x942), .val (.int x944), .val (.int x946), .val (.int (1 : Int32)), .val (.ref r988), .val (.ref rr1003), .unset] [(.int (0 : Int32)), (.ref r988)])) _
        refine st1018.trans ?_
        show Steps p.tables e below (T1018.setTop (mkF m 76 #[.val (.int p0), .val (.int p1), .val (.int p2), .val (.int p3), .val (.int p4), .val (.int x942), .val (.int x944), .val (.int x946), .val (.int (1 : Int32)), .val (.ref r988), .val (.ref rr1003), .unset] [(.int (nar .char (nar .char (((w0988 &&& (255 : Int32)).toUInt32.toUInt16.toUInt32.toInt32)))))])) _
        refine XS.bipush X1018.here hx rfl (hb hby at_76) ?_
        show Steps p.tables e below (T1018.setTop (mkF m 78 #[.val (.int p0), .val (.int p1), .val (.int p2), .val (.int p3), .val (.int p4), .val (.int x942), .val (.int x944), .val (.int x946), .val (.int (1 : Int32)), .val (.ref r988), .val (.ref rr1003), .unset] [(.int (88 : Int32)), (.int (nar .char (nar .char (((w0988 &&& (255 : Int32)).toUInt32.toUInt16.toUInt32.toInt32)))))])) _
        refine XS.icmpNo X1018.here hx rfl (hb hby at_78) rfl (teq c1019).2 ?_
        show Steps p.tables e below (T1018.setTop (mkF m 81 #[.val (.int p0), .val (.int p1), .val (.int p2), .val (.int p3), .val (.int p4), .val (.int x942), .val (.int x944), .val (.int x946), .val (.int (1 : Int32)), .val (.ref r988), .val (.ref rr1003), .unset] [])) _
        refine XS.iconst X1018.here hx rfl (hb hby at_81) ?_
        show Steps p.tables e below (T1018.setTop (mkF m 82 #[.val (.int p0), .val (.int p1), .val (.int p2), .val (.int p3), .val (.int p4), .val (.int x942), .val (.int x944), .val (.int x946), .val (.int (1 : Int32)), .val (.ref r988), .val (.ref rr1003), .unset] [(.int (1 : Int32))])) _
        refine XS.goto X1018.here hx rfl (pc0 := 82) (pc' := 86) rfl (hb hby at_82) (by decide) (by decide) ?_
        show Steps p.tables e below (T1018.setTop (mkF m 86 #[.val (.int p0), .val (.int p1), .val (.int p2), .val (.int p3), .val (.int p4), .val (.int x942), .val (.int x944), .val (.int x946), .val (.int (1 : Int32)), .val (.ref r988), .val (.ref rr1003), .unset] [(.int (1 : Int32))])) _
        refine XS.istore X1018.here hx rfl (hb hby at_86) rfl (l' := #[.val (.int p0), .val (.int p1), .val (.int p2), .val (.int p3), .val (.int p4), .val (.int x942), .val (.int x944), .val (.int x946), .val (.int (1 : Int32)), .val (.ref r988), .val (.ref rr1003), .val (.int (1 : Int32))]) rfl ?_
        show Steps p.tables e below (T1018.setTop (mkF m 88 #[.val (.int p0), .val (.int p1), .val (.int p2), .val (.int p3), .val (.int p4), .val (.int x942), .val (.int x944), .val (.int x946), .val (.int (1 : Int32)), .val (.ref r988), .val (.ref rr1003), .val (.int (1 : Int32))] [])) _
        refine XS.iload X1018.here hx rfl (hb hby at_88) rfl ?_
        show Steps p.tables e below (T1018.setTop (mkF m 90 #[.val (.int p0), .val (.int p1), .val (.int p2), .val (.int p3), .val (.int p4), .val (.int x942), .val (.int x944), .val (.int x946), .val (.int (1 : Int32)), .val (.ref r988), .val (.ref rr1003), .val (.int (1 : Int32))] [(.int (1 : Int32))])) _
        refine XS.ifNo X1018.here hx rfl (hb hby at_90) rfl ((if0 _ _).trans (feq (by decide)).1) ?_
        show Steps p.tables e below (T1018.setTop (mkF m 93 #[.val (.int p0), .val (.int p1), .val (.int p2), .val (.int p3), .val (.int p4), .val (.int x942), .val (.int x944), .val (.int x946), .val (.int (1 : Int32)), .val (.ref r988), .val (.ref rr1003), .val (.int (1 : Int32))] [])) _
        refine st1020 _ ?_
        show Steps p.tables e below (T1020.setTop (mkF m 95 #[.val (.int p0), .val (.int p1), .val (.int p2), .val (.int p3), .val (.int p4), .val (.int x942), .val (.int x944), .val (.int x946), .val (.int (1 : Int32)), .val (.ref r988), .val (.ref rr1003), .val (.int (1 : Int32))] [(.ref a1020)])) _
        refine XS.aload X1020.here hx rfl (hb hby at_95) rfl rfl ?_
        show Steps p.tables e below (T1020.setTop (mkF m 97 #[.val (.int p0), .val (.int p1), .val (.int p2), .val (.int p3), .val (.int p4), .val (.int x942), .val (.int x944), .val (.int x946), .val (.int (1 : Int32)), .val (.ref r988), .val (.ref rr1003), .val (.int (1 : Int32))] [(.ref rr1003), (.ref a1020)])) _
        refine st1036.trans ?_
        show Steps p.tables e below (T1036.setTop (mkF m 100 #[.val (.int p0), .val (.int p1), .val (.int p2), .val (.int p3), .val (.int p4), .val (.int x942), .val (.int x944), .val (.int x946), .val (.int (1 : Int32)), .val (.ref r988), .val (.ref rr1003), .val (.int (1 : Int32))] [(.int (1 : Int32))])) _
        exact retZ X1036 hx Bd.returns (by decide) (hb hby at_100) hr
      ·
        show Q_rm0 Z p0 p1 p2 p3 p4 zc fv h0 n0 _ T1036.heap _
        rw [e1036]
        exact ⟨rfl, N1036⟩
      ·
        rw [hh]
        show CHr Z consts_1 s.vm h0 T1036.vm T1036.heap
        rw [e1036]
        exact CHr.trans CR1022 (CHv.at (vm0 := T1020.vm) X1036 hZ1020 (own_EW hw) CH1023)
    ·
      obtain ⟨_, _, ⟨T1037, L1037, k1037, n1037⟩, -, Xq1037, hSq1037, gq1037, ⟨Lc1037, hQ1037, l1037, y1037, z1037, Rq1037⟩, st1037⟩ := callSS X988 hx (y := (⟨"com/example/reliquary/reliquary/Datastream", "defaultMimeType", "(Ljava/lang/String;)Ljava/lang/String;"⟩ : MethodName)) hown (mvT hZ (hw _ (List.mem_of_getElem? (i := 26) rfl))) (mvT hZ (hw _ (List.mem_of_getElem? (i := 27) rfl))) (mvT hZ (hw _ (List.mem_of_getElem? (i := 28) rfl))) (mvT hZ (hw _ (List.mem_of_getElem? (i := 29) rfl))) (by decide) (backOfCH (W := 0) (vm0 := s.vm) (dm_1b l Z aw hw [] r988 t988 kb988 w0988 zc T988.heap n0 Z995 f989 f990 f991 f992 O996 O_COMPACT_STRINGS hzc hX8) hZ (hw _ (List.mem_of_getElem? (i := 29) rfl)) (hw _ (List.mem_of_getElem? (i := 28) rfl)) (by decide) (by decide) (own_EW hw) CH1001 all0) (g := (mkF m 56 #[.val (.int p0), .val (.int p1), .val (.int p2), .val (.int p3), .val (.int p4), .val (.int x942), .val (.int x944), .val (.int x946), .val (.int (1 : Int32)), .val (.ref r988), .unset, .unset] [(.ref r988)])) rfl (by rw [hml]; rfl) (argsL := [(.ref r988)]) (rest := []) (lenOf pd_13 rfl) rfl (by show 2 * 0 + _ ≤ _; exact Nat.le_of_eq rfl) (hb hby at_56) (fun _ _ => ⟨rfl, rfl, (by decide : 3 + 4 ≤ _), (by decide : 6 + 108 ≤ _)⟩)
      dsimp only [Pt.U, Pt.locs, Pt.cells, Pt.slots] at Xq1037 hSq1037 gq1037 l1037 y1037 z1037 st1037 hQ1037 Rq1037
      replace l1037 := l1037.symm; replace y1037 := y1037.symm; replace z1037 := z1037.symm; subst l1037 y1037 z1037
      obtain ⟨X1037, hS1037, hZ1037, hown1037⟩ := rebS (vm0 := s.vm) hS0 hk1002 Xq1037 hSq1037 gq1037 hZ hown
      have hk1037 : T1037.heap.size ≤ T1037.heap.size := Nat.le_refl _
      have sf1038 := CHr.safe Rq1037 f989.lt sf998
      have CR1039 := CHr.trans CR1000 Rq1037
      have CH1040 := Rq1037.1
      obtain ⟨rr1037, t21037, k21037, rfl, N1037q, K1037, f1041, f1042, f1043, f1044⟩ := hQ1037
      have N1037 := Fr.app N988 N1037q
      have f1045 := f989.keep K1037
      have f1046 := f990.keep K1037 nin0
      have f1047 := f991.keep K1037 nin0
      have f1048 := f992.keep K1037 nin0
      have Z1049 : n0 ≤ T1037.heap.size := Nat.le_trans Z995 K1037.1
      have O1050 := Old.keep O996 K1037 all0
      obtain ⟨cq1051, kq1051, q1051a, q1051b, q1051c⟩ := isOf hZ1037 rfl f1045
      obtain ⟨_, _, ⟨T1051, L1051, k1051, n1051⟩, -, X1051, ⟨Lc1051, hQ1051, l1051, y1051, z1051⟩, st1051⟩ := X1037.virtualBack hx (y := (⟨"java/lang/String", "length", "()I"⟩ : MethodName)) (z := (⟨"java/lang/String", "length", "()I"⟩ : MethodName)) hown1037 (mvT hZ1037 (hw _ (List.mem_of_getElem? (i := 43) rfl))) (mvT hZ1037 (hw _ (List.mem_of_getElem? (i := 44) rfl))) (notFace_of_selects (args := #[]) (mvT hZ1037 (hw _ (List.mem_of_getElem? (i := 46) rfl)))) (mvT hZ1037 (hw _ (List.mem_of_getElem? (i := 46) rfl))) (mvT hZ1037 (hw _ (List.mem_of_getElem? (i := 45) rfl))) (by decide) (backOf (W := 0) (len_1 l Z aw hw [] r988 t988 kb988 w0988 zc T1037.heap n0 Z1049 f1045 f1046 f1047 f1048 O1050 O_COMPACT_STRINGS hzc) hZ1037 (hw _ (List.mem_of_getElem? (i := 47) rfl)) (hw _ (List.mem_of_getElem? (i := 6) rfl)) (by decide) (by decide)) q1051a q1051c (g := (mkF m 63 #[.val (.int p0), .val (.int p1), .val (.int p2), .val (.int p3), .val (.int p4), .val (.int x942), .val (.int x944), .val (.int x946), .val (.int (1 : Int32)), .val (.ref r988), .val (.ref rr1037), .unset] [(.ref r988)])) rfl (by rw [hml]; rfl) (Steps.refl _) (argsL := []) (rest := []) (lenOf pd_14 rfl) rfl (by show 2 * 0 + _ ≤ _; exact Nat.le_of_eq rfl) (hb hby at_63) (fun _ _ => ⟨rfl, rfl, (by decide : 7 + 0 ≤ _), (by decide : 114 + 0 ≤ _)⟩)
      dsimp only [Pt.U, Pt.locs, Pt.cells, Pt.slots] at X1051 l1051 y1051 z1051 st1051 hQ1051
      replace l1051 := l1051.symm; replace y1051 := y1051.symm; replace z1051 := z1051.symm; subst l1051 y1051 z1051
      obtain ⟨rfl, N1051q, e1051⟩ := hQ1051
      have N1051 := Fr.app N1037 N1051q
      obtain ⟨cq1052, kq1052, q1052a, q1052b, q1052c⟩ := isOf hZ1037 e1051 f1045
      obtain ⟨_, _, ⟨T1052, L1052, k1052, n1052⟩, -, X1052, ⟨Lc1052, hQ1052, l1052, y1052, z1052⟩, st1052⟩ := X1051.virtualBack hx (y := (⟨"java/lang/String", "charAt", "(I)C"⟩ : MethodName)) (z := (⟨"java/lang/String", "charAt", "(I)C"⟩ : MethodName)) hown1037 (mvT hZ1037 (hw _ (List.mem_of_getElem? (i := 66) rfl))) (mvT hZ1037 (hw _ (List.mem_of_getElem? (i := 67) rfl))) (notFace_of_selects (args := #[]) (mvT hZ1037 (hw _ (List.mem_of_getElem? (i := 69) rfl)))) (mvT hZ1037 (hw _ (List.mem_of_getElem? (i := 69) rfl))) (mvT hZ1037 (hw _ (List.mem_of_getElem? (i := 68) rfl))) (by decide) (backOf (W := 0) (rm13 l Z aw hw [] r988 t988 kb988 w0988 zc fv T1037.heap n0 Z1049 f1045 f1046 f1047 f1048 O1050 O_COMPACT_STRINGS hzc O_SIOOBE_FORMATTER hfv) hZ1037 (hw _ (List.mem_of_getElem? (i := 70) rfl)) (hw _ (List.mem_of_getElem? (i := 6) rfl)) (by decide) (by decide)) q1052a q1052c (g := (mkF m 73 #[.val (.int p0), .val (.int p1), .val (.int p2), .val (.int p3), .val (.int p4), .val (.int x942), .val (.int x944), .val (.int x946), .val (.int (1 : Int32)), .val (.ref r988), .val (.ref rr1037), .unset] [(.int (0 : Int32)), (.ref r988)])) rfl (by rw [hml]; rfl) (Steps.refl _) (argsL := [(.int (0 : Int32))]) (rest := []) (lenOf pd_15 rfl) rfl (by show 2 * 0 + _ ≤ _; exact Nat.le_of_eq rfl) (hb hby at_73) (fun _ _ => ⟨rfl, e1051, (by decide : 7 + 0 ≤ _), (by decide : 114 + 0 ≤ _)⟩)
      dsimp only [Pt.U, Pt.locs, Pt.cells, Pt.slots] at X1052 l1052 y1052 z1052 st1052 hQ1052
      replace l1052 := l1052.symm; replace y1052 := y1052.symm; replace z1052 := z1052.symm; subst l1052 y1052 z1052
      obtain ⟨rfl, N1052q, e1052⟩ := hQ1052
      have N1052 := Fr.app N1051 N1052q
      have c1053 : ¬ ((nar .char (nar .char (((w0988 &&& (255 : Int32)).toUInt32.toUInt16.toUInt32.toInt32)))) = (88 : Int32)) := by
        exact fun q => hX8 ((own_ch f993).mp q)
      obtain ⟨a1054, T1054, h1054, k1054, b1054, kb1054, X1054, e1054, E1054, hS1054, hk1054, hZ1054, hown1054, fE1054, fC1054, fV1054, fA1054, -, -, R1054, Li1054, Df1054, st1054⟩ := ldcCH (vm0 := T1037.vm) X1052 hx hZ1037 hown1037 (hw _ (List.mem_of_getElem? (i := 53) rfl)) (own_wS hw) e1052 hS1037 hk1037 (own_EW hw) (List.mem_of_getElem? (i := 4) rfl) CH1040 (vs := [(.int (97 : Int32)), (.int (112 : Int32)), (.int (112 : Int32)), (.int (108 : Int32)), (.int (105 : Int32)), (.int (99 : Int32)), (.int (97 : Int32)), (.int (116 : Int32)), (.int (105 : Int32)), (.int (111 : Int32)), (.int (110 : Int32)), (.int (47 : Int32)), (.int (111 : Int32)), (.int (99 : Int32)), (.int (116 : Int32)), (.int (101 : Int32)), (.int (116 : Int32)), (.int (45 : Int32)), (.int (115 : Int32)), (.int (116 : Int32)), (.int (114 : Int32)), (.int (101 : Int32)), (.int (97 : Int32)), (.int (109 : Int32))]) (z := (24 : Int32)) ⟨by decide, by decide⟩ (by decide) (by decide) (g := (mkF m 101 #[.val (.int p0), .val (.int p1), .val (.int p2), .val (.int p3), .val (.int p4), .val (.int x942), .val (.int x944), .val (.int x946), .val (.int (1 : Int32)), .val (.ref r988), .val (.ref rr1037), .val (.int (0 : Int32))] [])) rfl (hb hby at_101) (n := 96) (by decide) (by decide) (by decide) (by decide)
      have sf1055 := CHr.safe R1054 f1045.lt sf1038
      have CR1056 := CHr.trans CR1039 R1054
      have CH1057 := R1054.1
      have f1058 := f1045.ext E1054
      have f1059 := f1046.ext E1054
      have f1060 := f1047.ext E1054
      have f1061 := f1048.ext E1054
      have f1062 := f1041.ext E1054
      have f1063 := f1042.ext E1054
      have f1064 := f1043.ext E1054
      have f1065 := f1044.ext E1054
      have Z1066 : n0 ≤ h1054.size := Nat.le_trans Z1049 E1054.1
      have O1067 := Old.ext O1050 E1054
      have ne1068 := (Df1054 _ sf1055).1
      have ne1069 := (Df1054 _ sf1055).2
      obtain ⟨cq1070, kq1070, q1070a, q1070b, q1070c⟩ := isOf hZ1054 e1054 fE1054
      obtain ⟨_, _, ⟨T1070, L1070, k1070, n1070⟩, -, X1070, ⟨Lc1070, hQ1070, l1070, y1070, z1070⟩, st1070⟩ := X1054.virtualBack hx (y := (⟨"java/lang/String", "equals", "(Ljava/lang/Object;)Z"⟩ : MethodName)) (z := (⟨"java/lang/String", "equals", "(Ljava/lang/Object;)Z"⟩ : MethodName)) hown1054 (mvT hZ1054 (hw _ (List.mem_of_getElem? (i := 54) rfl))) (mvT hZ1054 (hw _ (List.mem_of_getElem? (i := 32) rfl))) (notFace_of_selects (args := #[]) (mvT hZ1054 (hw _ (List.mem_of_getElem? (i := 34) rfl)))) (mvT hZ1054 (hw _ (List.mem_of_getElem? (i := 34) rfl))) (mvT hZ1054 (hw _ (List.mem_of_getElem? (i := 33) rfl))) (by decide) (backOf (W := 0) (eq_o l Z aw hw [] a1054 rr1037 b1054 t21037 kb1054 k21037 zc h1054 n0 Z1066 f1062 fC1054 fV1054 f1063 f1064 fA1054 f1065 O1067 O_COMPACT_STRINGS hzc) hZ1054 (hw _ (List.mem_of_getElem? (i := 35) rfl)) (hw _ (List.mem_of_getElem? (i := 6) rfl)) (by decide) (by decide)) q1070a q1070c (g := (mkF m 105 #[.val (.int p0), .val (.int p1), .val (.int p2), .val (.int p3), .val (.int p4), .val (.int x942), .val (.int x944), .val (.int x946), .val (.int (1 : Int32)), .val (.ref r988), .val (.ref rr1037), .val (.int (0 : Int32))] [(.ref rr1037), (.ref a1054)])) rfl (by rw [hml]; rfl) (Steps.refl _) (argsL := [(.ref rr1037)]) (rest := []) (lenOf pd_11 rfl) rfl (by show 2 * 0 + _ ≤ _; exact Nat.le_of_eq rfl) (hb hby at_105) (fun _ _ => ⟨rfl, e1054, (by decide : 9 + 0 ≤ _), (by decide : 214 + 0 ≤ _)⟩)
      dsimp only [Pt.U, Pt.locs, Pt.cells, Pt.slots] at X1070 l1070 y1070 z1070 st1070 hQ1070
      replace l1070 := l1070.symm; replace y1070 := y1070.symm; replace z1070 := z1070.symm; subst l1070 y1070 z1070
      obtain ⟨rfl, N1070q, e1070⟩ := hQ1070
      have N1070 := Fr.app N1052 N1070q
      obtain ⟨fs, hr, hrun, hended, hEW⟩ := Stand.leaveW X1070 hS1054 (by rw [e1070]; exact hk1054) (v := some (.int (1 : Int32))) (fun h => by rw [Bd.returns] at h; cases h)
      refine ⟨_, _, pre949 _ ?_, hrun, hended, _, _, rfl, ?_, ?_, hEW.1, hEW.2.1, hEW.2.2.1, hEW.2.2.2.mono (by decide) (by decide)⟩
      ·
        show Steps p.tables e below (s₁.setTop (mkF m 41 #[.val (.int p0), .val (.int p1), .val (.int p2), .val (.int p3), .val (.int p4), .val (.int x942), .val (.int x944), .val (.int x946), .val (.int (1 : Int32)), .unset, .unset, .unset] [])) _
        refine XS.iload X0.here hx rfl (hb hby at_41) rfl ?_
        show Steps p.tables e below (s₁.setTop (mkF m 43 #[.val (.int p0), .val (.int p1), .val (.int p2), .val (.int p3), .val (.int p4), .val (.int x942), .val (.int x944), .val (.int x946), .val (.int (1 : Int32)), .unset, .unset, .unset] [(.int (1 : Int32))])) _
        refine XS.iload X0.here hx rfl (hb hby at_43) rfl ?_
        show Steps p.tables e below (s₁.setTop (mkF m 45 #[.val (.int p0), .val (.int p1), .val (.int p2), .val (.int p3), .val (.int p4), .val (.int x942), .val (.int x944), .val (.int x946), .val (.int (1 : Int32)), .unset, .unset, .unset] [(.int x942), (.int (1 : Int32))])) _
        refine XS.iload X0.here hx rfl (hb hby at_45) rfl ?_
        show Steps p.tables e below (s₁.setTop (mkF m 47 #[.val (.int p0), .val (.int p1), .val (.int p2), .val (.int p3), .val (.int p4), .val (.int x942), .val (.int x944), .val (.int x946), .val (.int (1 : Int32)), .unset, .unset, .unset] [(.int x944), (.int x942), (.int (1 : Int32))])) _
        refine XS.iload X0.here hx rfl (hb hby at_47) rfl ?_
        show Steps p.tables e below (s₁.setTop (mkF m 49 #[.val (.int p0), .val (.int p1), .val (.int p2), .val (.int p3), .val (.int p4), .val (.int x942), .val (.int x944), .val (.int x946), .val (.int (1 : Int32)), .unset, .unset, .unset] [(.int x946), (.int x944), (.int x942), (.int (1 : Int32))])) _
        refine st988 _ ?_
        show Steps p.tables e below (T988.setTop (mkF m 52 #[.val (.int p0), .val (.int p1), .val (.int p2), .val (.int p3), .val (.int p4), .val (.int x942), .val (.int x944), .val (.int x946), .val (.int (1 : Int32)), .unset, .unset, .unset] [(.ref r988)])) _
        refine XS.astore X988.here hx rfl (hb hby at_52) rfl rfl (l' := #[.val (.int p0), .val (.int p1), .val (.int p2), .val (.int p3), .val (.int p4), .val (.int x942), .val (.int x944), .val (.int x946), .val (.int (1 : Int32)), .val (.ref r988), .unset, .unset]) rfl ?_
        show Steps p.tables e below (T988.setTop (mkF m 54 #[.val (.int p0), .val (.int p1), .val (.int p2), .val (.int p3), .val (.int p4), .val (.int x942), .val (.int x944), .val (.int x946), .val (.int (1 : Int32)), .val (.ref r988), .unset, .unset] [])) _
        refine XS.aload X988.here hx rfl (hb hby at_54) rfl rfl ?_
        show Steps p.tables e below (T988.setTop (mkF m 56 #[.val (.int p0), .val (.int p1), .val (.int p2), .val (.int p3), .val (.int p4), .val (.int x942), .val (.int x944), .val (.int x946), .val (.int (1 : Int32)), .val (.ref r988), .unset, .unset] [(.ref r988)])) _
        refine st1037.trans ?_
        show Steps p.tables e below (T1037.setTop (mkF m 59 #[.val (.int p0), .val (.int p1), .val (.int p2), .val (.int p3), .val (.int p4), .val (.int x942), .val (.int x944), .val (.int x946), .val (.int (1 : Int32)), .val (.ref r988), .unset, .unset] [(.ref rr1037)])) _
        refine XS.astore X1037.here hx rfl (hb hby at_59) rfl rfl (l' := #[.val (.int p0), .val (.int p1), .val (.int p2), .val (.int p3), .val (.int p4), .val (.int x942), .val (.int x944), .val (.int x946), .val (.int (1 : Int32)), .val (.ref r988), .val (.ref rr1037), .unset]) rfl ?_
        show Steps p.tables e below (T1037.setTop (mkF m 61 #[.val (.int p0), .val (.int p1), .val (.int p2), .val (.int p3), .val (.int p4), .val (.int x942), .val (.int x944), .val (.int x946), .val (.int (1 : Int32)), .val (.ref r988), .val (.ref rr1037), .unset] [])) _
        refine XS.aload X1037.here hx rfl (hb hby at_61) rfl rfl ?_
        show Steps p.tables e below (T1037.setTop (mkF m 63 #[.val (.int p0), .val (.int p1), .val (.int p2), .val (.int p3), .val (.int p4), .val (.int x942), .val (.int x944), .val (.int x946), .val (.int (1 : Int32)), .val (.ref r988), .val (.ref rr1037), .unset] [(.ref r988)])) _
        refine st1051.trans ?_
        show Steps p.tables e below (T1051.setTop (mkF m 66 #[.val (.int p0), .val (.int p1), .val (.int p2), .val (.int p3), .val (.int p4), .val (.int x942), .val (.int x944), .val (.int x946), .val (.int (1 : Int32)), .val (.ref r988), .val (.ref rr1037), .unset] [(.int (1 : Int32))])) _
        refine XS.iconst X1051.here hx rfl (hb hby at_66) ?_
        show Steps p.tables e below (T1051.setTop (mkF m 67 #[.val (.int p0), .val (.int p1), .val (.int p2), .val (.int p3), .val (.int p4), .val (.int x942), .val (.int x944), .val (.int x946), .val (.int (1 : Int32)), .val (.ref r988), .val (.ref rr1037), .unset] [(.int (1 : Int32)), (.int (1 : Int32))])) _
        refine XS.icmpNo X1051.here hx rfl (hb hby at_67) rfl (teq rfl).2 ?_
        show Steps p.tables e below (T1051.setTop (mkF m 70 #[.val (.int p0), .val (.int p1), .val (.int p2), .val (.int p3), .val (.int p4), .val (.int x942), .val (.int x944), .val (.int x946), .val (.int (1 : Int32)), .val (.ref r988), .val (.ref rr1037), .unset] [])) _
        refine XS.aload X1051.here hx rfl (hb hby at_70) rfl rfl ?_
        show Steps p.tables e below (T1051.setTop (mkF m 72 #[.val (.int p0), .val (.int p1), .val (.int p2), .val (.int p3), .val (.int p4), .val (.int x942), .val (.int x944), .val (.int x946), .val (.int (1 : Int32)), .val (.ref r988), .val (.ref rr1037), .unset] [(.ref r988)])) _
        refine XS.iconst X1051.here hx rfl (hb hby at_72) ?_
        show Steps p.tables e below (T1051.setTop (mkF m 73 #[.val (.int p0), .val (.int p1), .val (.int p2), .val (.int p3), .val (.int p4), .val (.int x942), .val (.int x944), .val (.int x946), .val (.int (1 : Int32)), .val (.ref r988), .val (.ref rr1037), .unset] [(.int (0 : Int32)), (.ref r988)])) _
        refine st1052.trans ?_
        show Steps p.tables e below (T1052.setTop (mkF m 76 #[.val (.int p0), .val (.int p1), .val (.int p2), .val (.int p3), .val (.int p4), .val (.int x942), .val (.int x944), .val (.int x946), .val (.int (1 : Int32)), .val (.ref r988), .val (.ref rr1037), .unset] [(.int (nar .char (nar .char (((w0988 &&& (255 : Int32)).toUInt32.toUInt16.toUInt32.toInt32)))))])) _
        refine XS.bipush X1052.here hx rfl (hb hby at_76) ?_
        show Steps p.tables e below (T1052.setTop (mkF m 78 #[.val (.int p0), .val (.int p1), .val (.int p2), .val (.int p3), .val (.int p4), .val (.int x942), .val (.int x944), .val (.int x946), .val (.int (1 : Int32)), .val (.ref r988), .val (.ref rr1037), .unset] [(.int (88 : Int32)), (.int (nar .char (nar .char (((w0988 &&& (255 : Int32)).toUInt32.toUInt16.toUInt32.toInt32)))))])) _
        refine XS.icmpYes X1052.here hx rfl (pc0 := 78) (pc' := 85) rfl (hb hby at_78) rfl (feq c1053).2 (by decide) (by decide) ?_
        show Steps p.tables e below (T1052.setTop (mkF m 85 #[.val (.int p0), .val (.int p1), .val (.int p2), .val (.int p3), .val (.int p4), .val (.int x942), .val (.int x944), .val (.int x946), .val (.int (1 : Int32)), .val (.ref r988), .val (.ref rr1037), .unset] [])) _
        refine XS.iconst X1052.here hx rfl (hb hby at_85) ?_
        show Steps p.tables e below (T1052.setTop (mkF m 86 #[.val (.int p0), .val (.int p1), .val (.int p2), .val (.int p3), .val (.int p4), .val (.int x942), .val (.int x944), .val (.int x946), .val (.int (1 : Int32)), .val (.ref r988), .val (.ref rr1037), .unset] [(.int (0 : Int32))])) _
        refine XS.istore X1052.here hx rfl (hb hby at_86) rfl (l' := #[.val (.int p0), .val (.int p1), .val (.int p2), .val (.int p3), .val (.int p4), .val (.int x942), .val (.int x944), .val (.int x946), .val (.int (1 : Int32)), .val (.ref r988), .val (.ref rr1037), .val (.int (0 : Int32))]) rfl ?_
        show Steps p.tables e below (T1052.setTop (mkF m 88 #[.val (.int p0), .val (.int p1), .val (.int p2), .val (.int p3), .val (.int p4), .val (.int x942), .val (.int x944), .val (.int x946), .val (.int (1 : Int32)), .val (.ref r988), .val (.ref rr1037), .val (.int (0 : Int32))] [])) _
        refine XS.iload X1052.here hx rfl (hb hby at_88) rfl ?_
        show Steps p.tables e below (T1052.setTop (mkF m 90 #[.val (.int p0), .val (.int p1), .val (.int p2), .val (.int p3), .val (.int p4), .val (.int x942), .val (.int x944), .val (.int x946), .val (.int (1 : Int32)), .val (.ref r988), .val (.ref rr1037), .val (.int (0 : Int32))] [(.int (0 : Int32))])) _
        refine XS.ifYes X1052.here hx rfl (pc0 := 90) (pc' := 101) rfl (hb hby at_90) rfl ((if0 _ _).trans (teq rfl).1) (by decide) (by decide) ?_
        show Steps p.tables e below (T1052.setTop (mkF m 101 #[.val (.int p0), .val (.int p1), .val (.int p2), .val (.int p3), .val (.int p4), .val (.int x942), .val (.int x944), .val (.int x946), .val (.int (1 : Int32)), .val (.ref r988), .val (.ref rr1037), .val (.int (0 : Int32))] [])) _
        refine st1054 _ ?_
        show Steps p.tables e below (T1054.setTop (mkF m 103 #[.val (.int p0), .val (.int p1), .val (.int p2), .val (.int p3), .val (.int p4), .val (.int x942), .val (.int x944), .val (.int x946), .val (.int (1 : Int32)), .val (.ref r988), .val (.ref rr1037), .val (.int (0 : Int32))] [(.ref a1054)])) _
        refine XS.aload X1054.here hx rfl (hb hby at_103) rfl rfl ?_
        show Steps p.tables e below (T1054.setTop (mkF m 105 #[.val (.int p0), .val (.int p1), .val (.int p2), .val (.int p3), .val (.int p4), .val (.int x942), .val (.int x944), .val (.int x946), .val (.int (1 : Int32)), .val (.ref r988), .val (.ref rr1037), .val (.int (0 : Int32))] [(.ref rr1037), (.ref a1054)])) _
        refine st1070.trans ?_
        show Steps p.tables e below (T1070.setTop (mkF m 108 #[.val (.int p0), .val (.int p1), .val (.int p2), .val (.int p3), .val (.int p4), .val (.int x942), .val (.int x944), .val (.int x946), .val (.int (1 : Int32)), .val (.ref r988), .val (.ref rr1037), .val (.int (0 : Int32))] [(.int (1 : Int32))])) _
        exact retZ X1070 hx Bd.returns (by decide) (hb hby at_108) hr
      ·
        show Q_rm0 Z p0 p1 p2 p3 p4 zc fv h0 n0 _ T1070.heap _
        rw [e1070]
        exact ⟨rfl, N1070⟩
      ·
        rw [hh]
        show CHr Z consts_1 s.vm h0 T1070.vm T1070.heap
        rw [e1070]
        exact CHr.trans CR1056 (CHv.at (vm0 := T1054.vm) X1070 hZ1054 (own_EW hw) CH1057)
  ·
    obtain rfl : x948 = (2 : Int32) := hx948.trans q
    obtain ⟨_, _, ⟨T1071, L1071, k1071, n1071⟩, -, X1071, ⟨Lc1071, hQ1071, l1071, y1071, z1071⟩, st1071⟩ := Jvm.LawKit.callS X0 hx (y := (⟨"com/example/reliquary/reliquary/DatastreamDefaultMimeTypePinLaw", "make", "(ICCC)Ljava/lang/String;"⟩ : MethodName)) hown (mvT hZ (hw _ (List.mem_of_getElem? (i := 0) rfl))) (mvT hZ (hw _ (List.mem_of_getElem? (i := 1) rfl))) (mvT hZ (hw _ (List.mem_of_getElem? (i := 2) rfl))) (mvT hZ (hw _ (List.mem_of_getElem? (i := 3) rfl))) (by decide) (backOf (W := 0) (mk_2 l Z aw hw [] x942 x944 x946 zc h0 n0 Z0 OLD O_COMPACT_STRINGS hzc (own_c0 hx942) (own_c hx944)) hZ (hw _ (List.mem_of_getElem? (i := 3) rfl)) (hw _ (List.mem_of_getElem? (i := 2) rfl)) (by decide) (by decide)) (g := (mkF m 49 #[.val (.int p0), .val (.int p1), .val (.int p2), .val (.int p3), .val (.int p4), .val (.int x942), .val (.int x944), .val (.int x946), .val (.int (2 : Int32)), .unset, .unset, .unset] [(.int x946), (.int x944), (.int x942), (.int (2 : Int32))])) rfl (by rw [hml]; rfl) (argsL := [(.int (2 : Int32)), (.int x942), (.int x944), (.int x946)]) (rest := []) (lenOf pd_12 rfl) rfl (by show 2 * 0 + _ ≤ _; exact Nat.le_of_eq rfl) (hb hby at_49) (fun _ _ => ⟨rfl, e0, (by decide : 0 + 3 ≤ _), (by decide : 0 + 8 ≤ _)⟩)
    dsimp only [Pt.U, Pt.locs, Pt.cells, Pt.slots] at X1071 l1071 y1071 z1071 st1071 hQ1071
    replace l1071 := l1071.symm; replace y1071 := y1071.symm; replace z1071 := z1071.symm; subst l1071 y1071 z1071
    obtain ⟨r1071, t1071, kb1071, w01071, w11071, rfl, N1071q, K1071, sz1071, f1072, f1073, f1074, f1075⟩ := hQ1071
    have N1071 := Fr.app N0 N1071q
    have gn1076 : n0 ≤ r1071 := Nat.le_trans Z0 sz1071
    have Z1077 : n0 ≤ T1071.heap.size := Nat.le_trans Z0 K1071.1
    have O1078 := Old.keep OLD K1071 all0
    have hs1079 : ∀ x ∈ ([] : List Addr), Safe Z consts_1 s.vm h0 x := all0
    have sf1080 := Safe.keep K1071 hs1079 CH0 (Safe.new sz1071)
    have R1081 := CHr.keep K1071 hs1079 CH0
    have CR1082 := CHr.trans CR0 R1081
    have CH1083 := R1081.1
    have hk1084 := Nat.le_trans hk0 K1071.1
    obtain ⟨_, _, ⟨T1085, L1085, k1085, n1085⟩, -, Xq1085, hSq1085, gq1085, ⟨Lc1085, hQ1085, l1085, y1085, z1085, Rq1085⟩, st1085⟩ := callSS X1071 hx (y := (⟨"com/example/reliquary/reliquary/Datastream", "defaultMimeType", "(Ljava/lang/String;)Ljava/lang/String;"⟩ : MethodName)) hown (mvT hZ (hw _ (List.mem_of_getElem? (i := 26) rfl))) (mvT hZ (hw _ (List.mem_of_getElem? (i := 27) rfl))) (mvT hZ (hw _ (List.mem_of_getElem? (i := 28) rfl))) (mvT hZ (hw _ (List.mem_of_getElem? (i := 29) rfl))) (by decide) (backOfCH (W := 0) (vm0 := s.vm) (dm_2 l Z aw hw [] r1071 t1071 kb1071 w01071 w11071 zc T1071.heap n0 Z1077 f1072 f1073 f1074 f1075 O1078 O_COMPACT_STRINGS hzc) hZ (hw _ (List.mem_of_getElem? (i := 29) rfl)) (hw _ (List.mem_of_getElem? (i := 28) rfl)) (by decide) (by decide) (own_EW hw) CH1083 all0) (g := (mkF m 56 #[.val (.int p0), .val (.int p1), .val (.int p2), .val (.int p3), .val (.int p4), .val (.int x942), .val (.int x944), .val (.int x946), .val (.int (2 : Int32)), .val (.ref r1071), .unset, .unset] [(.ref r1071)])) rfl (by rw [hml]; rfl) (argsL := [(.ref r1071)]) (rest := []) (lenOf pd_13 rfl) rfl (by show 2 * 0 + _ ≤ _; exact Nat.le_of_eq rfl) (hb hby at_56) (fun _ _ => ⟨rfl, rfl, (by decide : 3 + 4 ≤ _), (by decide : 8 + 108 ≤ _)⟩)
    dsimp only [Pt.U, Pt.locs, Pt.cells, Pt.slots] at Xq1085 hSq1085 gq1085 l1085 y1085 z1085 st1085 hQ1085 Rq1085
    replace l1085 := l1085.symm; replace y1085 := y1085.symm; replace z1085 := z1085.symm; subst l1085 y1085 z1085
    obtain ⟨X1085, hS1085, hZ1085, hown1085⟩ := rebS (vm0 := s.vm) hS0 hk1084 Xq1085 hSq1085 gq1085 hZ hown
    have hk1085 : T1085.heap.size ≤ T1085.heap.size := Nat.le_refl _
    have sf1086 := CHr.safe Rq1085 f1072.lt sf1080
    have CR1087 := CHr.trans CR1082 Rq1085
    have CH1088 := Rq1085.1
    obtain ⟨rr1085, t21085, k21085, rfl, N1085q, K1085, f1089, f1090, f1091, f1092⟩ := hQ1085
    have N1085 := Fr.app N1071 N1085q
    have f1093 := f1072.keep K1085
    have f1094 := f1073.keep K1085 nin0
    have f1095 := f1074.keep K1085 nin0
    have f1096 := f1075.keep K1085 nin0
    have Z1097 : n0 ≤ T1085.heap.size := Nat.le_trans Z1077 K1085.1
    have O1098 := Old.keep O1078 K1085 all0
    obtain ⟨cq1099, kq1099, q1099a, q1099b, q1099c⟩ := isOf hZ1085 rfl f1093
    obtain ⟨_, _, ⟨T1099, L1099, k1099, n1099⟩, -, X1099, ⟨Lc1099, hQ1099, l1099, y1099, z1099⟩, st1099⟩ := X1085.virtualBack hx (y := (⟨"java/lang/String", "length", "()I"⟩ : MethodName)) (z := (⟨"java/lang/String", "length", "()I"⟩ : MethodName)) hown1085 (mvT hZ1085 (hw _ (List.mem_of_getElem? (i := 43) rfl))) (mvT hZ1085 (hw _ (List.mem_of_getElem? (i := 44) rfl))) (notFace_of_selects (args := #[]) (mvT hZ1085 (hw _ (List.mem_of_getElem? (i := 46) rfl)))) (mvT hZ1085 (hw _ (List.mem_of_getElem? (i := 46) rfl))) (mvT hZ1085 (hw _ (List.mem_of_getElem? (i := 45) rfl))) (by decide) (backOf (W := 0) (len_2 l Z aw hw [] r1071 t1071 kb1071 w01071 w11071 zc T1085.heap n0 Z1097 f1093 f1094 f1095 f1096 O1098 O_COMPACT_STRINGS hzc) hZ1085 (hw _ (List.mem_of_getElem? (i := 47) rfl)) (hw _ (List.mem_of_getElem? (i := 6) rfl)) (by decide) (by decide)) q1099a q1099c (g := (mkF m 63 #[.val (.int p0), .val (.int p1), .val (.int p2), .val (.int p3), .val (.int p4), .val (.int x942), .val (.int x944), .val (.int x946), .val (.int (2 : Int32)), .val (.ref r1071), .val (.ref rr1085), .unset] [(.ref r1071)])) rfl (by rw [hml]; rfl) (Steps.refl _) (argsL := []) (rest := []) (lenOf pd_14 rfl) rfl (by show 2 * 0 + _ ≤ _; exact Nat.le_of_eq rfl) (hb hby at_63) (fun _ _ => ⟨rfl, rfl, (by decide : 7 + 0 ≤ _), (by decide : 116 + 0 ≤ _)⟩)
    dsimp only [Pt.U, Pt.locs, Pt.cells, Pt.slots] at X1099 l1099 y1099 z1099 st1099 hQ1099
    replace l1099 := l1099.symm; replace y1099 := y1099.symm; replace z1099 := z1099.symm; subst l1099 y1099 z1099
    obtain ⟨rfl, N1099q, e1099⟩ := hQ1099
    have N1099 := Fr.app N1085 N1099q
    obtain ⟨a1100, T1100, h1100, k1100, b1100, kb1100, X1100, e1100, E1100, hS1100, hk1100, hZ1100, hown1100, fE1100, fC1100, fV1100, fA1100, -, -, R1100, Li1100, Df1100, st1100⟩ := ldcCH (vm0 := T1085.vm) X1099 hx hZ1085 hown1085 (hw _ (List.mem_of_getElem? (i := 53) rfl)) (own_wS hw) e1099 hS1085 hk1085 (own_EW hw) (List.mem_of_getElem? (i := 4) rfl) CH1088 (vs := [(.int (97 : Int32)), (.int (112 : Int32)), (.int (112 : Int32)), (.int (108 : Int32)), (.int (105 : Int32)), (.int (99 : Int32)), (.int (97 : Int32)), (.int (116 : Int32)), (.int (105 : Int32)), (.int (111 : Int32)), (.int (110 : Int32)), (.int (47 : Int32)), (.int (111 : Int32)), (.int (99 : Int32)), (.int (116 : Int32)), (.int (101 : Int32)), (.int (116 : Int32)), (.int (45 : Int32)), (.int (115 : Int32)), (.int (116 : Int32)), (.int (114 : Int32)), (.int (101 : Int32)), (.int (97 : Int32)), (.int (109 : Int32))]) (z := (24 : Int32)) ⟨by decide, by decide⟩ (by decide) (by decide) (g := (mkF m 101 #[.val (.int p0), .val (.int p1), .val (.int p2), .val (.int p3), .val (.int p4), .val (.int x942), .val (.int x944), .val (.int x946), .val (.int (2 : Int32)), .val (.ref r1071), .val (.ref rr1085), .val (.int (0 : Int32))] [])) rfl (hb hby at_101) (n := 96) (by decide) (by decide) (by decide) (by decide)
    have sf1101 := CHr.safe R1100 f1093.lt sf1086
    have CR1102 := CHr.trans CR1087 R1100
    have CH1103 := R1100.1
    have f1104 := f1093.ext E1100
    have f1105 := f1094.ext E1100
    have f1106 := f1095.ext E1100
    have f1107 := f1096.ext E1100
    have f1108 := f1089.ext E1100
    have f1109 := f1090.ext E1100
    have f1110 := f1091.ext E1100
    have f1111 := f1092.ext E1100
    have Z1112 : n0 ≤ h1100.size := Nat.le_trans Z1097 E1100.1
    have O1113 := Old.ext O1098 E1100
    have ne1114 := (Df1100 _ sf1101).1
    have ne1115 := (Df1100 _ sf1101).2
    obtain ⟨cq1116, kq1116, q1116a, q1116b, q1116c⟩ := isOf hZ1100 e1100 fE1100
    obtain ⟨_, _, ⟨T1116, L1116, k1116, n1116⟩, -, X1116, ⟨Lc1116, hQ1116, l1116, y1116, z1116⟩, st1116⟩ := X1100.virtualBack hx (y := (⟨"java/lang/String", "equals", "(Ljava/lang/Object;)Z"⟩ : MethodName)) (z := (⟨"java/lang/String", "equals", "(Ljava/lang/Object;)Z"⟩ : MethodName)) hown1100 (mvT hZ1100 (hw _ (List.mem_of_getElem? (i := 54) rfl))) (mvT hZ1100 (hw _ (List.mem_of_getElem? (i := 32) rfl))) (notFace_of_selects (args := #[]) (mvT hZ1100 (hw _ (List.mem_of_getElem? (i := 34) rfl)))) (mvT hZ1100 (hw _ (List.mem_of_getElem? (i := 34) rfl))) (mvT hZ1100 (hw _ (List.mem_of_getElem? (i := 33) rfl))) (by decide) (backOf (W := 0) (eq_o l Z aw hw [] a1100 rr1085 b1100 t21085 kb1100 k21085 zc h1100 n0 Z1112 f1108 fC1100 fV1100 f1109 f1110 fA1100 f1111 O1113 O_COMPACT_STRINGS hzc) hZ1100 (hw _ (List.mem_of_getElem? (i := 35) rfl)) (hw _ (List.mem_of_getElem? (i := 6) rfl)) (by decide) (by decide)) q1116a q1116c (g := (mkF m 105 #[.val (.int p0), .val (.int p1), .val (.int p2), .val (.int p3), .val (.int p4), .val (.int x942), .val (.int x944), .val (.int x946), .val (.int (2 : Int32)), .val (.ref r1071), .val (.ref rr1085), .val (.int (0 : Int32))] [(.ref rr1085), (.ref a1100)])) rfl (by rw [hml]; rfl) (Steps.refl _) (argsL := [(.ref rr1085)]) (rest := []) (lenOf pd_11 rfl) rfl (by show 2 * 0 + _ ≤ _; exact Nat.le_of_eq rfl) (hb hby at_105) (fun _ _ => ⟨rfl, e1100, (by decide : 9 + 0 ≤ _), (by decide : 216 + 0 ≤ _)⟩)
    dsimp only [Pt.U, Pt.locs, Pt.cells, Pt.slots] at X1116 l1116 y1116 z1116 st1116 hQ1116
    replace l1116 := l1116.symm; replace y1116 := y1116.symm; replace z1116 := z1116.symm; subst l1116 y1116 z1116
    obtain ⟨rfl, N1116q, e1116⟩ := hQ1116
    have N1116 := Fr.app N1099 N1116q
    obtain ⟨fs, hr, hrun, hended, hEW⟩ := Stand.leaveW X1116 hS1100 (by rw [e1116]; exact hk1100) (v := some (.int (1 : Int32))) (fun h => by rw [Bd.returns] at h; cases h)
    refine ⟨_, _, pre949 _ ?_, hrun, hended, _, _, rfl, ?_, ?_, hEW.1, hEW.2.1, hEW.2.2.1, hEW.2.2.2.mono (by decide) (by decide)⟩
    ·
      show Steps p.tables e below (s₁.setTop (mkF m 41 #[.val (.int p0), .val (.int p1), .val (.int p2), .val (.int p3), .val (.int p4), .val (.int x942), .val (.int x944), .val (.int x946), .val (.int (2 : Int32)), .unset, .unset, .unset] [])) _
      refine XS.iload X0.here hx rfl (hb hby at_41) rfl ?_
      show Steps p.tables e below (s₁.setTop (mkF m 43 #[.val (.int p0), .val (.int p1), .val (.int p2), .val (.int p3), .val (.int p4), .val (.int x942), .val (.int x944), .val (.int x946), .val (.int (2 : Int32)), .unset, .unset, .unset] [(.int (2 : Int32))])) _
      refine XS.iload X0.here hx rfl (hb hby at_43) rfl ?_
      show Steps p.tables e below (s₁.setTop (mkF m 45 #[.val (.int p0), .val (.int p1), .val (.int p2), .val (.int p3), .val (.int p4), .val (.int x942), .val (.int x944), .val (.int x946), .val (.int (2 : Int32)), .unset, .unset, .unset] [(.int x942), (.int (2 : Int32))])) _
      refine XS.iload X0.here hx rfl (hb hby at_45) rfl ?_
      show Steps p.tables e below (s₁.setTop (mkF m 47 #[.val (.int p0), .val (.int p1), .val (.int p2), .val (.int p3), .val (.int p4), .val (.int x942), .val (.int x944), .val (.int x946), .val (.int (2 : Int32)), .unset, .unset, .unset] [(.int x944), (.int x942), (.int (2 : Int32))])) _
      refine XS.iload X0.here hx rfl (hb hby at_47) rfl ?_
      show Steps p.tables e below (s₁.setTop (mkF m 49 #[.val (.int p0), .val (.int p1), .val (.int p2), .val (.int p3), .val (.int p4), .val (.int x942), .val (.int x944), .val (.int x946), .val (.int (2 : Int32)), .unset, .unset, .unset] [(.int x946), (.int x944), (.int x942), (.int (2 : Int32))])) _
      refine st1071 _ ?_
      show Steps p.tables e below (T1071.setTop (mkF m 52 #[.val (.int p0), .val (.int p1), .val (.int p2), .val (.int p3), .val (.int p4), .val (.int x942), .val (.int x944), .val (.int x946), .val (.int (2 : Int32)), .unset, .unset, .unset] [(.ref r1071)])) _
      refine XS.astore X1071.here hx rfl (hb hby at_52) rfl rfl (l' := #[.val (.int p0), .val (.int p1), .val (.int p2), .val (.int p3), .val (.int p4), .val (.int x942), .val (.int x944), .val (.int x946), .val (.int (2 : Int32)), .val (.ref r1071), .unset, .unset]) rfl ?_
      show Steps p.tables e below (T1071.setTop (mkF m 54 #[.val (.int p0), .val (.int p1), .val (.int p2), .val (.int p3), .val (.int p4), .val (.int x942), .val (.int x944), .val (.int x946), .val (.int (2 : Int32)), .val (.ref r1071), .unset, .unset] [])) _
      refine XS.aload X1071.here hx rfl (hb hby at_54) rfl rfl ?_
      show Steps p.tables e below (T1071.setTop (mkF m 56 #[.val (.int p0), .val (.int p1), .val (.int p2), .val (.int p3), .val (.int p4), .val (.int x942), .val (.int x944), .val (.int x946), .val (.int (2 : Int32)), .val (.ref r1071), .unset, .unset] [(.ref r1071)])) _
      refine st1085.trans ?_
      show Steps p.tables e below (T1085.setTop (mkF m 59 #[.val (.int p0), .val (.int p1), .val (.int p2), .val (.int p3), .val (.int p4), .val (.int x942), .val (.int x944), .val (.int x946), .val (.int (2 : Int32)), .val (.ref r1071), .unset, .unset] [(.ref rr1085)])) _
      refine XS.astore X1085.here hx rfl (hb hby at_59) rfl rfl (l' := #[.val (.int p0), .val (.int p1), .val (.int p2), .val (.int p3), .val (.int p4), .val (.int x942), .val (.int x944), .val (.int x946), .val (.int (2 : Int32)), .val (.ref r1071), .val (.ref rr1085), .unset]) rfl ?_
      show Steps p.tables e below (T1085.setTop (mkF m 61 #[.val (.int p0), .val (.int p1), .val (.int p2), .val (.int p3), .val (.int p4), .val (.int x942), .val (.int x944), .val (.int x946), .val (.int (2 : Int32)), .val (.ref r1071), .val (.ref rr1085), .unset] [])) _
      refine XS.aload X1085.here hx rfl (hb hby at_61) rfl rfl ?_
      show Steps p.tables e below (T1085.setTop (mkF m 63 #[.val (.int p0), .val (.int p1), .val (.int p2), .val (.int p3), .val (.int p4), .val (.int x942), .val (.int x944), .val (.int x946), .val (.int (2 : Int32)), .val (.ref r1071), .val (.ref rr1085), .unset] [(.ref r1071)])) _
      refine st1099.trans ?_
      show Steps p.tables e below (T1099.setTop (mkF m 66 #[.val (.int p0), .val (.int p1), .val (.int p2), .val (.int p3), .val (.int p4), .val (.int x942), .val (.int x944), .val (.int x946), .val (.int (2 : Int32)), .val (.ref r1071), .val (.ref rr1085), .unset] [(.int (2 : Int32))])) _
      refine XS.iconst X1099.here hx rfl (hb hby at_66) ?_
      show Steps p.tables e below (T1099.setTop (mkF m 67 #[.val (.int p0), .val (.int p1), .val (.int p2), .val (.int p3), .val (.int p4), .val (.int x942), .val (.int x944), .val (.int x946), .val (.int (2 : Int32)), .val (.ref r1071), .val (.ref rr1085), .unset] [(.int (1 : Int32)), (.int (2 : Int32))])) _
      refine XS.icmpYes X1099.here hx rfl (pc0 := 67) (pc' := 85) rfl (hb hby at_67) rfl (feq (by decide)).2 (by decide) (by decide) ?_
      show Steps p.tables e below (T1099.setTop (mkF m 85 #[.val (.int p0), .val (.int p1), .val (.int p2), .val (.int p3), .val (.int p4), .val (.int x942), .val (.int x944), .val (.int x946), .val (.int (2 : Int32)), .val (.ref r1071), .val (.ref rr1085), .unset] [])) _
      refine XS.iconst X1099.here hx rfl (hb hby at_85) ?_
      show Steps p.tables e below (T1099.setTop (mkF m 86 #[.val (.int p0), .val (.int p1), .val (.int p2), .val (.int p3), .val (.int p4), .val (.int x942), .val (.int x944), .val (.int x946), .val (.int (2 : Int32)), .val (.ref r1071), .val (.ref rr1085), .unset] [(.int (0 : Int32))])) _
      refine XS.istore X1099.here hx rfl (hb hby at_86) rfl (l' := #[.val (.int p0), .val (.int p1), .val (.int p2), .val (.int p3), .val (.int p4), .val (.int x942), .val (.int x944), .val (.int x946), .val (.int (2 : Int32)), .val (.ref r1071), .val (.ref rr1085), .val (.int (0 : Int32))]) rfl ?_
      show Steps p.tables e below (T1099.setTop (mkF m 88 #[.val (.int p0), .val (.int p1), .val (.int p2), .val (.int p3), .val (.int p4), .val (.int x942), .val (.int x944), .val (.int x946), .val (.int (2 : Int32)), .val (.ref r1071), .val (.ref rr1085), .val (.int (0 : Int32))] [])) _
      refine XS.iload X1099.here hx rfl (hb hby at_88) rfl ?_
      show Steps p.tables e below (T1099.setTop (mkF m 90 #[.val (.int p0), .val (.int p1), .val (.int p2), .val (.int p3), .val (.int p4), .val (.int x942), .val (.int x944), .val (.int x946), .val (.int (2 : Int32)), .val (.ref r1071), .val (.ref rr1085), .val (.int (0 : Int32))] [(.int (0 : Int32))])) _
      refine XS.ifYes X1099.here hx rfl (pc0 := 90) (pc' := 101) rfl (hb hby at_90) rfl ((if0 _ _).trans (teq rfl).1) (by decide) (by decide) ?_
      show Steps p.tables e below (T1099.setTop (mkF m 101 #[.val (.int p0), .val (.int p1), .val (.int p2), .val (.int p3), .val (.int p4), .val (.int x942), .val (.int x944), .val (.int x946), .val (.int (2 : Int32)), .val (.ref r1071), .val (.ref rr1085), .val (.int (0 : Int32))] [])) _
      refine st1100 _ ?_
      show Steps p.tables e below (T1100.setTop (mkF m 103 #[.val (.int p0), .val (.int p1), .val (.int p2), .val (.int p3), .val (.int p4), .val (.int x942), .val (.int x944), .val (.int x946), .val (.int (2 : Int32)), .val (.ref r1071), .val (.ref rr1085), .val (.int (0 : Int32))] [(.ref a1100)])) _
      refine XS.aload X1100.here hx rfl (hb hby at_103) rfl rfl ?_
      show Steps p.tables e below (T1100.setTop (mkF m 105 #[.val (.int p0), .val (.int p1), .val (.int p2), .val (.int p3), .val (.int p4), .val (.int x942), .val (.int x944), .val (.int x946), .val (.int (2 : Int32)), .val (.ref r1071), .val (.ref rr1085), .val (.int (0 : Int32))] [(.ref rr1085), (.ref a1100)])) _
      refine st1116.trans ?_
      show Steps p.tables e below (T1116.setTop (mkF m 108 #[.val (.int p0), .val (.int p1), .val (.int p2), .val (.int p3), .val (.int p4), .val (.int x942), .val (.int x944), .val (.int x946), .val (.int (2 : Int32)), .val (.ref r1071), .val (.ref rr1085), .val (.int (0 : Int32))] [(.int (1 : Int32))])) _
      exact retZ X1116 hx Bd.returns (by decide) (hb hby at_108) hr
    ·
      show Q_rm0 Z p0 p1 p2 p3 p4 zc fv h0 n0 _ T1116.heap _
      rw [e1116]
      exact ⟨rfl, N1116⟩
    ·
      rw [hh]
      show CHr Z consts_1 s.vm h0 T1116.vm T1116.heap
      rw [e1116]
      exact CHr.trans CR1102 (CHv.at (vm0 := T1100.vm) X1116 hZ1100 (own_EW hw) CH1103)
  ·
    obtain rfl : x948 = (3 : Int32) := hx948.trans q
    obtain ⟨_, _, ⟨T1117, L1117, k1117, n1117⟩, -, X1117, ⟨Lc1117, hQ1117, l1117, y1117, z1117⟩, st1117⟩ := Jvm.LawKit.callS X0 hx (y := (⟨"com/example/reliquary/reliquary/DatastreamDefaultMimeTypePinLaw", "make", "(ICCC)Ljava/lang/String;"⟩ : MethodName)) hown (mvT hZ (hw _ (List.mem_of_getElem? (i := 0) rfl))) (mvT hZ (hw _ (List.mem_of_getElem? (i := 1) rfl))) (mvT hZ (hw _ (List.mem_of_getElem? (i := 2) rfl))) (mvT hZ (hw _ (List.mem_of_getElem? (i := 3) rfl))) (by decide) (backOf (W := 0) (mk_3 l Z aw hw [] x942 x944 x946 zc h0 n0 Z0 OLD O_COMPACT_STRINGS hzc (own_c0 hx942) (own_c hx944) (own_c hx946)) hZ (hw _ (List.mem_of_getElem? (i := 3) rfl)) (hw _ (List.mem_of_getElem? (i := 2) rfl)) (by decide) (by decide)) (g := (mkF m 49 #[.val (.int p0), .val (.int p1), .val (.int p2), .val (.int p3), .val (.int p4), .val (.int x942), .val (.int x944), .val (.int x946), .val (.int (3 : Int32)), .unset, .unset, .unset] [(.int x946), (.int x944), (.int x942), (.int (3 : Int32))])) rfl (by rw [hml]; rfl) (argsL := [(.int (3 : Int32)), (.int x942), (.int x944), (.int x946)]) (rest := []) (lenOf pd_12 rfl) rfl (by show 2 * 0 + _ ≤ _; exact Nat.le_of_eq rfl) (hb hby at_49) (fun _ _ => ⟨rfl, e0, (by decide : 0 + 3 ≤ _), (by decide : 0 + 10 ≤ _)⟩)
    dsimp only [Pt.U, Pt.locs, Pt.cells, Pt.slots] at X1117 l1117 y1117 z1117 st1117 hQ1117
    replace l1117 := l1117.symm; replace y1117 := y1117.symm; replace z1117 := z1117.symm; subst l1117 y1117 z1117
    obtain ⟨r1117, t1117, kb1117, w01117, w11117, w21117, rfl, N1117q, K1117, sz1117, f1118, f1119, f1120, f1121⟩ := hQ1117
    have N1117 := Fr.app N0 N1117q
    have gn1122 : n0 ≤ r1117 := Nat.le_trans Z0 sz1117
    have Z1123 : n0 ≤ T1117.heap.size := Nat.le_trans Z0 K1117.1
    have O1124 := Old.keep OLD K1117 all0
    have hs1125 : ∀ x ∈ ([] : List Addr), Safe Z consts_1 s.vm h0 x := all0
    have sf1126 := Safe.keep K1117 hs1125 CH0 (Safe.new sz1117)
    have R1127 := CHr.keep K1117 hs1125 CH0
    have CR1128 := CHr.trans CR0 R1127
    have CH1129 := R1127.1
    have hk1130 := Nat.le_trans hk0 K1117.1
    obtain ⟨_, _, ⟨T1131, L1131, k1131, n1131⟩, -, Xq1131, hSq1131, gq1131, ⟨Lc1131, hQ1131, l1131, y1131, z1131, Rq1131⟩, st1131⟩ := callSS X1117 hx (y := (⟨"com/example/reliquary/reliquary/Datastream", "defaultMimeType", "(Ljava/lang/String;)Ljava/lang/String;"⟩ : MethodName)) hown (mvT hZ (hw _ (List.mem_of_getElem? (i := 26) rfl))) (mvT hZ (hw _ (List.mem_of_getElem? (i := 27) rfl))) (mvT hZ (hw _ (List.mem_of_getElem? (i := 28) rfl))) (mvT hZ (hw _ (List.mem_of_getElem? (i := 29) rfl))) (by decide) (backOfCH (W := 0) (vm0 := s.vm) (dm_3 l Z aw hw [] r1117 t1117 kb1117 w01117 w11117 w21117 zc T1117.heap n0 Z1123 f1118 f1119 f1120 f1121 O1124 O_COMPACT_STRINGS hzc) hZ (hw _ (List.mem_of_getElem? (i := 29) rfl)) (hw _ (List.mem_of_getElem? (i := 28) rfl)) (by decide) (by decide) (own_EW hw) CH1129 all0) (g := (mkF m 56 #[.val (.int p0), .val (.int p1), .val (.int p2), .val (.int p3), .val (.int p4), .val (.int x942), .val (.int x944), .val (.int x946), .val (.int (3 : Int32)), .val (.ref r1117), .unset, .unset] [(.ref r1117)])) rfl (by rw [hml]; rfl) (argsL := [(.ref r1117)]) (rest := []) (lenOf pd_13 rfl) rfl (by show 2 * 0 + _ ≤ _; exact Nat.le_of_eq rfl) (hb hby at_56) (fun _ _ => ⟨rfl, rfl, (by decide : 3 + 4 ≤ _), (by decide : 10 + 108 ≤ _)⟩)
    dsimp only [Pt.U, Pt.locs, Pt.cells, Pt.slots] at Xq1131 hSq1131 gq1131 l1131 y1131 z1131 st1131 hQ1131 Rq1131
    replace l1131 := l1131.symm; replace y1131 := y1131.symm; replace z1131 := z1131.symm; subst l1131 y1131 z1131
    obtain ⟨X1131, hS1131, hZ1131, hown1131⟩ := rebS (vm0 := s.vm) hS0 hk1130 Xq1131 hSq1131 gq1131 hZ hown
    have hk1131 : T1131.heap.size ≤ T1131.heap.size := Nat.le_refl _
    have sf1132 := CHr.safe Rq1131 f1118.lt sf1126
    have CR1133 := CHr.trans CR1128 Rq1131
    have CH1134 := Rq1131.1
    obtain ⟨rr1131, t21131, k21131, rfl, N1131q, K1131, f1135, f1136, f1137, f1138⟩ := hQ1131
    have N1131 := Fr.app N1117 N1131q
    have f1139 := f1118.keep K1131
    have f1140 := f1119.keep K1131 nin0
    have f1141 := f1120.keep K1131 nin0
    have f1142 := f1121.keep K1131 nin0
    have Z1143 : n0 ≤ T1131.heap.size := Nat.le_trans Z1123 K1131.1
    have O1144 := Old.keep O1124 K1131 all0
    obtain ⟨cq1145, kq1145, q1145a, q1145b, q1145c⟩ := isOf hZ1131 rfl f1139
    obtain ⟨_, _, ⟨T1145, L1145, k1145, n1145⟩, -, X1145, ⟨Lc1145, hQ1145, l1145, y1145, z1145⟩, st1145⟩ := X1131.virtualBack hx (y := (⟨"java/lang/String", "length", "()I"⟩ : MethodName)) (z := (⟨"java/lang/String", "length", "()I"⟩ : MethodName)) hown1131 (mvT hZ1131 (hw _ (List.mem_of_getElem? (i := 43) rfl))) (mvT hZ1131 (hw _ (List.mem_of_getElem? (i := 44) rfl))) (notFace_of_selects (args := #[]) (mvT hZ1131 (hw _ (List.mem_of_getElem? (i := 46) rfl)))) (mvT hZ1131 (hw _ (List.mem_of_getElem? (i := 46) rfl))) (mvT hZ1131 (hw _ (List.mem_of_getElem? (i := 45) rfl))) (by decide) (backOf (W := 0) (len_3 l Z aw hw [] r1117 t1117 kb1117 w01117 w11117 w21117 zc T1131.heap n0 Z1143 f1139 f1140 f1141 f1142 O1144 O_COMPACT_STRINGS hzc) hZ1131 (hw _ (List.mem_of_getElem? (i := 47) rfl)) (hw _ (List.mem_of_getElem? (i := 6) rfl)) (by decide) (by decide)) q1145a q1145c (g := (mkF m 63 #[.val (.int p0), .val (.int p1), .val (.int p2), .val (.int p3), .val (.int p4), .val (.int x942), .val (.int x944), .val (.int x946), .val (.int (3 : Int32)), .val (.ref r1117), .val (.ref rr1131), .unset] [(.ref r1117)])) rfl (by rw [hml]; rfl) (Steps.refl _) (argsL := []) (rest := []) (lenOf pd_14 rfl) rfl (by show 2 * 0 + _ ≤ _; exact Nat.le_of_eq rfl) (hb hby at_63) (fun _ _ => ⟨rfl, rfl, (by decide : 7 + 0 ≤ _), (by decide : 118 + 0 ≤ _)⟩)
    dsimp only [Pt.U, Pt.locs, Pt.cells, Pt.slots] at X1145 l1145 y1145 z1145 st1145 hQ1145
    replace l1145 := l1145.symm; replace y1145 := y1145.symm; replace z1145 := z1145.symm; subst l1145 y1145 z1145
    obtain ⟨rfl, N1145q, e1145⟩ := hQ1145
    have N1145 := Fr.app N1131 N1145q
    obtain ⟨a1146, T1146, h1146, k1146, b1146, kb1146, X1146, e1146, E1146, hS1146, hk1146, hZ1146, hown1146, fE1146, fC1146, fV1146, fA1146, -, -, R1146, Li1146, Df1146, st1146⟩ := ldcCH (vm0 := T1131.vm) X1145 hx hZ1131 hown1131 (hw _ (List.mem_of_getElem? (i := 53) rfl)) (own_wS hw) e1145 hS1131 hk1131 (own_EW hw) (List.mem_of_getElem? (i := 4) rfl) CH1134 (vs := [(.int (97 : Int32)), (.int (112 : Int32)), (.int (112 : Int32)), (.int (108 : Int32)), (.int (105 : Int32)), (.int (99 : Int32)), (.int (97 : Int32)), (.int (116 : Int32)), (.int (105 : Int32)), (.int (111 : Int32)), (.int (110 : Int32)), (.int (47 : Int32)), (.int (111 : Int32)), (.int (99 : Int32)), (.int (116 : Int32)), (.int (101 : Int32)), (.int (116 : Int32)), (.int (45 : Int32)), (.int (115 : Int32)), (.int (116 : Int32)), (.int (114 : Int32)), (.int (101 : Int32)), (.int (97 : Int32)), (.int (109 : Int32))]) (z := (24 : Int32)) ⟨by decide, by decide⟩ (by decide) (by decide) (g := (mkF m 101 #[.val (.int p0), .val (.int p1), .val (.int p2), .val (.int p3), .val (.int p4), .val (.int x942), .val (.int x944), .val (.int x946), .val (.int (3 : Int32)), .val (.ref r1117), .val (.ref rr1131), .val (.int (0 : Int32))] [])) rfl (hb hby at_101) (n := 96) (by decide) (by decide) (by decide) (by decide)
    have sf1147 := CHr.safe R1146 f1139.lt sf1132
    have CR1148 := CHr.trans CR1133 R1146
    have CH1149 := R1146.1
    have f1150 := f1139.ext E1146
    have f1151 := f1140.ext E1146
    have f1152 := f1141.ext E1146
    have f1153 := f1142.ext E1146
    have f1154 := f1135.ext E1146
    have f1155 := f1136.ext E1146
    have f1156 := f1137.ext E1146
    have f1157 := f1138.ext E1146
    have Z1158 : n0 ≤ h1146.size := Nat.le_trans Z1143 E1146.1
    have O1159 := Old.ext O1144 E1146
    have ne1160 := (Df1146 _ sf1147).1
    have ne1161 := (Df1146 _ sf1147).2
    obtain ⟨cq1162, kq1162, q1162a, q1162b, q1162c⟩ := isOf hZ1146 e1146 fE1146
    obtain ⟨_, _, ⟨T1162, L1162, k1162, n1162⟩, -, X1162, ⟨Lc1162, hQ1162, l1162, y1162, z1162⟩, st1162⟩ := X1146.virtualBack hx (y := (⟨"java/lang/String", "equals", "(Ljava/lang/Object;)Z"⟩ : MethodName)) (z := (⟨"java/lang/String", "equals", "(Ljava/lang/Object;)Z"⟩ : MethodName)) hown1146 (mvT hZ1146 (hw _ (List.mem_of_getElem? (i := 54) rfl))) (mvT hZ1146 (hw _ (List.mem_of_getElem? (i := 32) rfl))) (notFace_of_selects (args := #[]) (mvT hZ1146 (hw _ (List.mem_of_getElem? (i := 34) rfl)))) (mvT hZ1146 (hw _ (List.mem_of_getElem? (i := 34) rfl))) (mvT hZ1146 (hw _ (List.mem_of_getElem? (i := 33) rfl))) (by decide) (backOf (W := 0) (eq_o l Z aw hw [] a1146 rr1131 b1146 t21131 kb1146 k21131 zc h1146 n0 Z1158 f1154 fC1146 fV1146 f1155 f1156 fA1146 f1157 O1159 O_COMPACT_STRINGS hzc) hZ1146 (hw _ (List.mem_of_getElem? (i := 35) rfl)) (hw _ (List.mem_of_getElem? (i := 6) rfl)) (by decide) (by decide)) q1162a q1162c (g := (mkF m 105 #[.val (.int p0), .val (.int p1), .val (.int p2), .val (.int p3), .val (.int p4), .val (.int x942), .val (.int x944), .val (.int x946), .val (.int (3 : Int32)), .val (.ref r1117), .val (.ref rr1131), .val (.int (0 : Int32))] [(.ref rr1131), (.ref a1146)])) rfl (by rw [hml]; rfl) (Steps.refl _) (argsL := [(.ref rr1131)]) (rest := []) (lenOf pd_11 rfl) rfl (by show 2 * 0 + _ ≤ _; exact Nat.le_of_eq rfl) (hb hby at_105) (fun _ _ => ⟨rfl, e1146, (by decide : 9 + 0 ≤ _), (by decide : 218 + 0 ≤ _)⟩)
    dsimp only [Pt.U, Pt.locs, Pt.cells, Pt.slots] at X1162 l1162 y1162 z1162 st1162 hQ1162
    replace l1162 := l1162.symm; replace y1162 := y1162.symm; replace z1162 := z1162.symm; subst l1162 y1162 z1162
    obtain ⟨rfl, N1162q, e1162⟩ := hQ1162
    have N1162 := Fr.app N1145 N1162q
    obtain ⟨fs, hr, hrun, hended, hEW⟩ := Stand.leaveW X1162 hS1146 (by rw [e1162]; exact hk1146) (v := some (.int (1 : Int32))) (fun h => by rw [Bd.returns] at h; cases h)
    refine ⟨_, _, pre949 _ ?_, hrun, hended, _, _, rfl, ?_, ?_, hEW.1, hEW.2.1, hEW.2.2.1, hEW.2.2.2.mono (by decide) (by decide)⟩
    ·
      show Steps p.tables e below (s₁.setTop (mkF m 41 #[.val (.int p0), .val (.int p1), .val (.int p2), .val (.int p3), .val (.int p4), .val (.int x942), .val (.int x944), .val (.int x946), .val (.int (3 : Int32)), .unset, .unset, .unset] [])) _
      refine XS.iload X0.here hx rfl (hb hby at_41) rfl ?_
      show Steps p.tables e below (s₁.setTop (mkF m 43 #[.val (.int p0), .val (.int p1), .val (.int p2), .val (.int p3), .val (.int p4), .val (.int x942), .val (.int x944), .val (.int x946), .val (.int (3 : Int32)), .unset, .unset, .unset] [(.int (3 : Int32))])) _
      refine XS.iload X0.here hx rfl (hb hby at_43) rfl ?_
      show Steps p.tables e below (s₁.setTop (mkF m 45 #[.val (.int p0), .val (.int p1), .val (.int p2), .val (.int p3), .val (.int p4), .val (.int x942), .val (.int x944), .val (.int x946), .val (.int (3 : Int32)), .unset, .unset, .unset] [(.int x942), (.int (3 : Int32))])) _
      refine XS.iload X0.here hx rfl (hb hby at_45) rfl ?_
      show Steps p.tables e below (s₁.setTop (mkF m 47 #[.val (.int p0), .val (.int p1), .val (.int p2), .val (.int p3), .val (.int p4), .val (.int x942), .val (.int x944), .val (.int x946), .val (.int (3 : Int32)), .unset, .unset, .unset] [(.int x944), (.int x942), (.int (3 : Int32))])) _
      refine XS.iload X0.here hx rfl (hb hby at_47) rfl ?_
      show Steps p.tables e below (s₁.setTop (mkF m 49 #[.val (.int p0), .val (.int p1), .val (.int p2), .val (.int p3), .val (.int p4), .val (.int x942), .val (.int x944), .val (.int x946), .val (.int (3 : Int32)), .unset, .unset, .unset] [(.int x946), (.int x944), (.int x942), (.int (3 : Int32))])) _
      refine st1117 _ ?_
      show Steps p.tables e below (T1117.setTop (mkF m 52 #[.val (.int p0), .val (.int p1), .val (.int p2), .val (.int p3), .val (.int p4), .val (.int x942), .val (.int x944), .val (.int x946), .val (.int (3 : Int32)), .unset, .unset, .unset] [(.ref r1117)])) _
      refine XS.astore X1117.here hx rfl (hb hby at_52) rfl rfl (l' := #[.val (.int p0), .val (.int p1), .val (.int p2), .val (.int p3), .val (.int p4), .val (.int x942), .val (.int x944), .val (.int x946), .val (.int (3 : Int32)), .val (.ref r1117), .unset, .unset]) rfl ?_
      show Steps p.tables e below (T1117.setTop (mkF m 54 #[.val (.int p0), .val (.int p1), .val (.int p2), .val (.int p3), .val (.int p4), .val (.int x942), .val (.int x944), .val (.int x946), .val (.int (3 : Int32)), .val (.ref r1117), .unset, .unset] [])) _
      refine XS.aload X1117.here hx rfl (hb hby at_54) rfl rfl ?_
      show Steps p.tables e below (T1117.setTop (mkF m 56 #[.val (.int p0), .val (.int p1), .val (.int p2), .val (.int p3), .val (.int p4), .val (.int x942), .val (.int x944), .val (.int x946), .val (.int (3 : Int32)), .val (.ref r1117), .unset, .unset] [(.ref r1117)])) _
      refine st1131.trans ?_
      show Steps p.tables e below (T1131.setTop (mkF m 59 #[.val (.int p0), .val (.int p1), .val (.int p2), .val (.int p3), .val (.int p4), .val (.int x942), .val (.int x944), .val (.int x946), .val (.int (3 : Int32)), .val (.ref r1117), .unset, .unset] [(.ref rr1131)])) _
      refine XS.astore X1131.here hx rfl (hb hby at_59) rfl rfl (l' := #[.val (.int p0), .val (.int p1), .val (.int p2), .val (.int p3), .val (.int p4), .val (.int x942), .val (.int x944), .val (.int x946), .val (.int (3 : Int32)), .val (.ref r1117), .val (.ref rr1131), .unset]) rfl ?_
      show Steps p.tables e below (T1131.setTop (mkF m 61 #[.val (.int p0), .val (.int p1), .val (.int p2), .val (.int p3), .val (.int p4), .val (.int x942), .val (.int x944), .val (.int x946), .val (.int (3 : Int32)), .val (.ref r1117), .val (.ref rr1131), .unset] [])) _
      refine XS.aload X1131.here hx rfl (hb hby at_61) rfl rfl ?_
      show Steps p.tables e below (T1131.setTop (mkF m 63 #[.val (.int p0), .val (.int p1), .val (.int p2), .val (.int p3), .val (.int p4), .val (.int x942), .val (.int x944), .val (.int x946), .val (.int (3 : Int32)), .val (.ref r1117), .val (.ref rr1131), .unset] [(.ref r1117)])) _
      refine st1145.trans ?_
      show Steps p.tables e below (T1145.setTop (mkF m 66 #[.val (.int p0), .val (.int p1), .val (.int p2), .val (.int p3), .val (.int p4), .val (.int x942), .val (.int x944), .val (.int x946), .val (.int (3 : Int32)), .val (.ref r1117), .val (.ref rr1131), .unset] [(.int (3 : Int32))])) _
      refine XS.iconst X1145.here hx rfl (hb hby at_66) ?_
      show Steps p.tables e below (T1145.setTop (mkF m 67 #[.val (.int p0), .val (.int p1), .val (.int p2), .val (.int p3), .val (.int p4), .val (.int x942), .val (.int x944), .val (.int x946), .val (.int (3 : Int32)), .val (.ref r1117), .val (.ref rr1131), .unset] [(.int (1 : Int32)), (.int (3 : Int32))])) _
      refine XS.icmpYes X1145.here hx rfl (pc0 := 67) (pc' := 85) rfl (hb hby at_67) rfl (feq (by decide)).2 (by decide) (by decide) ?_
      show Steps p.tables e below (T1145.setTop (mkF m 85 #[.val (.int p0), .val (.int p1), .val (.int p2), .val (.int p3), .val (.int p4), .val (.int x942), .val (.int x944), .val (.int x946), .val (.int (3 : Int32)), .val (.ref r1117), .val (.ref rr1131), .unset] [])) _
      refine XS.iconst X1145.here hx rfl (hb hby at_85) ?_
      show Steps p.tables e below (T1145.setTop (mkF m 86 #[.val (.int p0), .val (.int p1), .val (.int p2), .val (.int p3), .val (.int p4), .val (.int x942), .val (.int x944), .val (.int x946), .val (.int (3 : Int32)), .val (.ref r1117), .val (.ref rr1131), .unset] [(.int (0 : Int32))])) _
      refine XS.istore X1145.here hx rfl (hb hby at_86) rfl (l' := #[.val (.int p0), .val (.int p1), .val (.int p2), .val (.int p3), .val (.int p4), .val (.int x942), .val (.int x944), .val (.int x946), .val (.int (3 : Int32)), .val (.ref r1117), .val (.ref rr1131), .val (.int (0 : Int32))]) rfl ?_
      show Steps p.tables e below (T1145.setTop (mkF m 88 #[.val (.int p0), .val (.int p1), .val (.int p2), .val (.int p3), .val (.int p4), .val (.int x942), .val (.int x944), .val (.int x946), .val (.int (3 : Int32)), .val (.ref r1117), .val (.ref rr1131), .val (.int (0 : Int32))] [])) _
      refine XS.iload X1145.here hx rfl (hb hby at_88) rfl ?_
      show Steps p.tables e below (T1145.setTop (mkF m 90 #[.val (.int p0), .val (.int p1), .val (.int p2), .val (.int p3), .val (.int p4), .val (.int x942), .val (.int x944), .val (.int x946), .val (.int (3 : Int32)), .val (.ref r1117), .val (.ref rr1131), .val (.int (0 : Int32))] [(.int (0 : Int32))])) _
      refine XS.ifYes X1145.here hx rfl (pc0 := 90) (pc' := 101) rfl (hb hby at_90) rfl ((if0 _ _).trans (teq rfl).1) (by decide) (by decide) ?_
      show Steps p.tables e below (T1145.setTop (mkF m 101 #[.val (.int p0), .val (.int p1), .val (.int p2), .val (.int p3), .val (.int p4), .val (.int x942), .val (.int x944), .val (.int x946), .val (.int (3 : Int32)), .val (.ref r1117), .val (.ref rr1131), .val (.int (0 : Int32))] [])) _
      refine st1146 _ ?_
      show Steps p.tables e below (T1146.setTop (mkF m 103 #[.val (.int p0), .val (.int p1), .val (.int p2), .val (.int p3), .val (.int p4), .val (.int x942), .val (.int x944), .val (.int x946), .val (.int (3 : Int32)), .val (.ref r1117), .val (.ref rr1131), .val (.int (0 : Int32))] [(.ref a1146)])) _
      refine XS.aload X1146.here hx rfl (hb hby at_103) rfl rfl ?_
      show Steps p.tables e below (T1146.setTop (mkF m 105 #[.val (.int p0), .val (.int p1), .val (.int p2), .val (.int p3), .val (.int p4), .val (.int x942), .val (.int x944), .val (.int x946), .val (.int (3 : Int32)), .val (.ref r1117), .val (.ref rr1131), .val (.int (0 : Int32))] [(.ref rr1131), (.ref a1146)])) _
      refine st1162.trans ?_
      show Steps p.tables e below (T1162.setTop (mkF m 108 #[.val (.int p0), .val (.int p1), .val (.int p2), .val (.int p3), .val (.int p4), .val (.int x942), .val (.int x944), .val (.int x946), .val (.int (3 : Int32)), .val (.ref r1117), .val (.ref rr1131), .val (.int (0 : Int32))] [(.int (1 : Int32))])) _
      exact retZ X1162 hx Bd.returns (by decide) (hb hby at_108) hr
    ·
      show Q_rm0 Z p0 p1 p2 p3 p4 zc fv h0 n0 _ T1162.heap _
      rw [e1162]
      exact ⟨rfl, N1162⟩
    ·
      rw [hh]
      show CHr Z consts_1 s.vm h0 T1162.vm T1162.heap
      rw [e1162]
      exact CHr.trans CR1148 (CHv.at (vm0 := T1146.vm) X1162 hZ1146 (own_EW hw) CH1149)
set_option maxRecDepth 65536 in
set_option maxHeartbeats 40000000 in
theorem comes_1 {Post : Tables → Env → Array Value → State → Outcome → State → Prop} (hpost : ∀ tb e args s v u, (limb_1_1.after args s (.returned v) u = true ∧ limb_1_2.after args s (.returned v) u = true ∧ True) → ReturnedEndW s (.returned v) u (Jvm.fieldLocs frame_1_writes args s ++ Jvm.arrayLocs frame_1_arrays args s ++ Jvm.staticLocs frame_1_statics s) 32 6272 → Post tb e args s (.returned v) u) :
    ArmFor flags0 classFile x code maxLocals ret World_1 tables_1 room_1 Calls_1 rest_1 Pre_1 Post := by
  intro l hfl _ _ p e ha hc hk s m args below hf hA hF happ hP
  obtain ⟨hcalls, hrest, hpre⟩ := hP
  obtain ⟨-, -, -, hnamed, -, -, -, hat⟩ := (Spec.applies_iff hf).mp happ
  obtain ⟨hg, hn⟩ := and_e (Cond.before_iff.mp (show (Jvm.Cond.and given_1 narrow_1).before args s = true from hpre))
  obtain ⟨g1163, g1164⟩ := and_e hg
  obtain ⟨g1165, g1166⟩ := and_e g1164
  obtain ⟨g1167, g1168⟩ := and_e g1166
  obtain ⟨g1169, g1170⟩ := and_e g1168
  obtain ⟨g1171, g1172⟩ := and_e g1170
  obtain ⟨w0, w1, w2, w3, w4, rfl⟩ : ∃ w0 w1 w2 w3 w4 : Value, args = #[w0, w1, w2, w3, w4] := by
    have hs : args.size = 5 := by simpa [Cond.value, given_1] using g1163
    obtain ⟨L⟩ := args
    match L, hs with
    | [w0, w1, w2, w3, w4], _ => exact ⟨w0, w1, w2, w3, w4, rfl⟩
  have hw := fun d (hd : d ∈ tables_1) => atoms_spec (ws := Jvm.Cond.code x code maxLocals ret :: tables_1) hat d (List.mem_cons_of_mem _ hd)
  have hfit : Fit s := fun {y c} hc i hi => by
    obtain ⟨ha, rfl⟩ := Array.getElem?_eq_some_iff.mp hc
    have q := List.all_eq_true.mp ((Array.all_eq_true_iff_forall_mem.mp hF) _ (Array.getElem_mem ha)) i (List.mem_range.mpr hi)
    simpa [Array.getElem?_eq_getElem hi] using q
  obtain ⟨hsets, hown0⟩ := atoms_of _ (rest_1_c_eq ▸ (show rest_1_c.before _ s = true from hrest))
  have hr0 := Cond.before_iff.mp hown0
  obtain ⟨i0, ei0⟩ := is_v g1165
  obtain rfl : w0 = (.int i0) := Option.some.inj ei0
  obtain ⟨i1, ei1⟩ := is_v g1167
  obtain rfl : w1 = (.int i1) := Option.some.inj ei1
  obtain ⟨i2, ei2⟩ := is_v g1169
  obtain rfl : w2 = (.int i2) := Option.some.inj ei2
  obtain ⟨i3, ei3⟩ := is_v g1171
  obtain rfl : w3 = (.int i3) := Option.some.inj ei3
  obtain ⟨i4, ei4⟩ := is_v g1172
  obtain rfl : w4 = (.int i4) := Option.some.inj ei4
  have n5 := not_v (Cond.before_iff.mp (hsets _ (List.mem_of_getElem? (i := 2) rfl)))
  obtain ⟨i11, e10⟩ := is_v (Cond.before_iff.mp (hsets _ (List.mem_of_getElem? (i := 1) rfl)))
  have S12 : Sta s s.heap "java/lang/String" "COMPACT_STRINGS" "Z" (.int i11) := Sta.start e10 (Or.inl (hsets _ (List.mem_of_getElem? (i := 0) rfl)))
  obtain ⟨v13, e14, r15⟩ := isR_v (Cond.before_iff.mp (hsets _ (List.mem_of_getElem? (i := 8) rfl)))
  have S16 : Sta s s.heap "jdk/internal/util/Preconditions" "SIOOBE_FORMATTER" "Ljava/util/function/BiFunction;" v13 := Sta.start e14 (Or.inl (hsets _ (List.mem_of_getElem? (i := 7) rfl)))
  have c17 : ¬ (i11 = (0 : Int32)) := gotF (Cond.eq_ints e10 (Term.int_eval (0))) n5
  obtain ⟨n, o, h1, h2, h3, _, L, rfl, ⟨rfl, N⟩, hCR, hq⟩ := rm0 l s _ hw tables_1 i0 i1 i2 i3 i4 i11 v13 s.heap s.heap.size (Nat.le_refl _) (Old.start s) S12 c17 S16 r15 p e ha hc hk s m _ below hf ((Spec.applies_iff_loose hf).mp happ).1 ⟨rfl, State.Warmed39.refl s, rfl, CHv.start (own_EW hw) (fun p hp => hcalls.1 p hp) (hsets _ (List.mem_of_getElem? (i := 2) rfl)) (hw _ (List.mem_of_getElem? (i := 19) rfl)) (hw _ (List.mem_of_getElem? (i := 5) rfl)), fun _ q => nomatch q⟩ trivial
  refine ⟨n, _, h1, h2, h3, hpost _ _ _ _ _ _ ⟨Cond.after_iff.mpr rfl, Cond.after_iff.mpr (eq_i res_at (Term.int_eval (1)) rfl), trivial⟩ ⟨hq.1, hq.2.1, hq.2.2.1, (hq.2.2.2.sift fun y hy => Or.inr (N y hy)).mono (by decide) (by decide)⟩⟩
theorem main_1_1 : Claimed_1_1 := comes_1 fun _ _ _ _ _ _ h hF => ⟨h.1, hF⟩
theorem main_1_2 : Claimed_1_2 := comes_1 fun _ _ _ _ _ _ h hF => ⟨h.2.1, hF⟩
end Jvm.Pilot.@@N@@
namespace Jvm.Pilot.@@N@@
open Jvm Jvm.ClassFile Sem Op Lib Jvm.Free Jvm.Stand Jvm.Pilot.@@N@@.Jvm.D
/-! MADE BY PROGRAM (witnessworld.py) out of the Statement's table words and the real class files: 21 classes; the members and pool entries that the words name. The judged class is class 1, her method 1. -/
namespace start1
open Jvm.ClassFile
def u (s : String) : CpInfo := .utf8 (stringToUtf16 s)
/-- a pool by its gaps: so many unusable entries, then the entry; so many at the end -/
def gap : Nat → List CpInfo → List CpInfo
  | 0, r => r
  | n + 1, r => .unusable :: gap n r
def poolList (es : List (Nat × CpInfo)) (last : Nat) : List CpInfo := es.foldr (fun e r => gap e.1 (e.2 :: r)) (gap last [])
def pool (es : List (Nat × CpInfo)) (last : Nat) : Array CpInfo := ⟨poolList es last⟩
def fileOf (pool : Array CpInfo) (this : Nat) (attrs : Array Attribute := #[]) (ms : Array MethodInfo := #[]) (fl : Nat := 33) (sup : Nat := 0) (ifs : Array Nat := #[]) (fds : Array FieldInfo := #[]) : ClassFile where
  minorVersion := 0
  majorVersion := 65
  constantPool := pool
  accessFlags := fl
  thisClass := this
  superClass := sup
  interfaces := ifs
  fields := fds
  methods := ms
  attributes := attrs
def plain (name : String) (sup : Option ClassId) : Class where
  name := name
  kind := .ordinary
  loader := none
  accessFlags := 33
  super := sup
  interfaces := #[]
  cf := none
  fields := #[]
  methods := #[]
  instanceTypes := #[]
  staticTypes := #[]
  resolved := #[]
  callSites := []
  init := .initialized
  statics := none
  mirror := none

def pool0 : Array CpInfo := pool [(5, u "<init>"), (0, u "()V"), (1, .class_ 10), (1, u "java/lang/Object")] 113

def k0c0 : Code := { maxStack := 0, maxLocals := 1, code := object_method_1_code, exceptionTable := #[], attributes := #[] }
def k0m0 : Method := { name := "<init>", desc := "()V", sig := { parameters := [], returnType := none }, accessFlags := 1, code := some k0c0 }
/-- java/lang/Object -/
def k0 : Class := { plain "java/lang/Object" none with
  accessFlags := 33
  interfaces := #[]
  cf := some (fileOf pool0 8 #[] #[{ accessFlags := 1, nameIndex := 5, descriptorIndex := 6, attributes := #[] }] 33 0 #[] #[])
  fields := #[]
  methods := #[k0m0]
  instanceTypes := #[]
  staticTypes := #[]
  resolved := Array.replicate 124 none
  statics := none }

def pool1 : Array CpInfo := pool [(2, .class_ 4), (1, u "java/lang/Object"), (0, u "<init>"), (0, u "()V"), (0, .methodref 8 9), (0, .class_ 10), (0, .nameAndType 11 12), (0, u "com/example/reliquary/reliquary/DatastreamDefaultMimeTypePinLaw"), (0, u "make"), (0, u "(ICCC)Ljava/lang/String;"), (0, .methodref 14 15), (0, .class_ 16), (0, .nameAndType 17 18), (0, u "com/example/reliquary/reliquary/Datastream"), (0, u "defaultMimeType"), (0, u "(Ljava/lang/String;)Ljava/lang/String;"), (0, .methodref 20 21), (0, .class_ 22), (0, .nameAndType 23 24), (0, u "java/lang/String"), (0, u "length"), (0, u "()I"), (0, .methodref 20 26), (0, .nameAndType 27 28), (0, u "charAt"), (0, u "(I)C"), (0, .string 30), (0, u "text/xml"), (0, .methodref 20 32), (0, .nameAndType 33 34), (0, u "equals"), (0, u "(Ljava/lang/Object;)Z"), (0, .string 36), (0, u "application/octet-stream"), (0, .methodref 20 38), (0, .nameAndType 5 39), (0, u "([C)V"), (2, u "law"), (0, u "(IIIII)Z")] 3

def k1m0 : Method := { name := "<init>", desc := "()V", sig := { parameters := [], returnType := none }, accessFlags := 2, code := none }
def k1c1 : Code := { maxStack := 4, maxLocals := 12, code := code, exceptionTable := #[], attributes := #[] }
def k1m1 : Method := { name := "law", desc := "(IIIII)Z", sig := { parameters := [.int, .int, .int, .int, .int], returnType := some .boolean }, accessFlags := 9, code := some k1c1 }
def k1c2 : Code := { maxStack := 6, maxLocals := 4, code := method_3_code, exceptionTable := #[], attributes := #[] }
def k1m2 : Method := { name := "make", desc := "(ICCC)Ljava/lang/String;", sig := { parameters := [.int, .char, .char, .char], returnType := some (.object "java/lang/String") }, accessFlags := 10, code := some k1c2 }
/-- com/example/reliquary/reliquary/DatastreamDefaultMimeTypePinLaw -/
def k1 : Class := { plain "com/example/reliquary/reliquary/DatastreamDefaultMimeTypePinLaw" (some 0) with
  accessFlags := 49
  interfaces := #[]
  cf := some (fileOf pool1 8 #[] #[{ accessFlags := 2, nameIndex := 5, descriptorIndex := 6, attributes := #[] }, { accessFlags := 9, nameIndex := 42, descriptorIndex := 43, attributes := #[] }, { accessFlags := 10, nameIndex := 11, descriptorIndex := 12, attributes := #[] }] 49 2 #[] #[])
  fields := #[]
  methods := #[k1m0, k1m1, k1m2]
  instanceTypes := #[]
  staticTypes := #[]
  resolved := Array.replicate 47 none
  statics := none }

def pool2 : Array CpInfo := pool [(1, .class_ 2), (0, u "java/io/Serializable"), (0, .class_ 4), (0, u "java/lang/Object")] 2

/-- java/io/Serializable -/
def k2 : Class := { plain "java/io/Serializable" (some 0) with
  accessFlags := 1537
  interfaces := #[]
  cf := some (fileOf pool2 1 #[] #[] 1537 3 #[] #[])
  fields := #[]
  methods := #[]
  instanceTypes := #[]
  staticTypes := #[]
  resolved := Array.replicate 7 none
  statics := none }

def pool3 : Array CpInfo := pool [(1, .class_ 2), (0, u "java/lang/Comparable"), (0, .class_ 4), (0, u "java/lang/Object")] 7

/-- java/lang/Comparable -/
def k3 : Class := { plain "java/lang/Comparable" (some 0) with
  accessFlags := 1537
  interfaces := #[]
  cf := some (fileOf pool3 1 #[] #[] 1537 3 #[] #[])
  fields := #[]
  methods := #[]
  instanceTypes := #[]
  staticTypes := #[]
  resolved := Array.replicate 12 none
  statics := none }

def pool4 : Array CpInfo := pool [(2, .class_ 4), (1, u "java/lang/CharSequence"), (42, .class_ 48), (0, u "java/lang/CharSequence$1CodePointIterator"), (10, .class_ 60), (0, u "java/lang/CharSequence$1CharIterator"), (5, .class_ 67), (0, u "java/lang/Object")] 63

/-- java/lang/CharSequence -/
def k4 : Class := { plain "java/lang/CharSequence" (some 0) with
  accessFlags := 1537
  interfaces := #[]
  cf := some (fileOf pool4 2 #[.nestMembers #[47, 59]] #[] 1537 66 #[] #[])
  fields := #[]
  methods := #[]
  instanceTypes := #[]
  staticTypes := #[]
  resolved := Array.replicate 131 none
  statics := none }

def pool5 : Array CpInfo := pool [(1, .class_ 2), (0, u "java/lang/constant/Constable"), (0, .class_ 4), (0, u "java/lang/Object")] 6

/-- java/lang/constant/Constable -/
def k5 : Class := { plain "java/lang/constant/Constable" (some 0) with
  accessFlags := 1537
  interfaces := #[]
  cf := some (fileOf pool5 1 #[] #[] 1537 3 #[] #[])
  fields := #[]
  methods := #[]
  instanceTypes := #[]
  staticTypes := #[]
  resolved := Array.replicate 11 none
  statics := none }

def pool6 : Array CpInfo := pool [(1, .class_ 2), (0, u "java/lang/constant/ConstantDesc"), (0, .class_ 4), (0, u "java/lang/Object")] 32

/-- java/lang/constant/ConstantDesc -/
def k6 : Class := { plain "java/lang/constant/ConstantDesc" (some 0) with
  accessFlags := 1537
  interfaces := #[]
  cf := some (fileOf pool6 1 #[] #[] 1537 3 #[] #[])
  fields := #[]
  methods := #[]
  instanceTypes := #[]
  staticTypes := #[]
  resolved := Array.replicate 37 none
  statics := none }

def pool7 : Array CpInfo := pool [(1, .methodref 2 3), (0, .class_ 4), (0, .nameAndType 5 6), (0, u "java/lang/Object"), (0, u "<init>"), (0, u "()V"), (0, .string 8), (0, u ""), (0, .fieldref 10 11), (0, .class_ 12), (0, .nameAndType 13 14), (0, u "java/lang/String"), (0, u "value"), (0, u "[B"), (0, .fieldref 10 16), (0, .nameAndType 17 18), (0, u "coder"), (0, u "B"), (2, u "hash"), (0, u "I"), (2, u "hashIsZero"), (0, u "Z"), (0, .methodref 10 28), (0, .nameAndType 5 29), (0, u "([CIILjava/lang/Void;)V"), (8, .fieldref 10 39), (0, .nameAndType 40 26), (0, u "COMPACT_STRINGS"), (1, .class_ 44), (1, u "java/lang/StringUTF16"), (0, u "compress"), (1, .methodref 42 48), (0, .nameAndType 49 50), (0, u "coderFromArrayLen"), (0, u "([BI)B"), (56, .class_ 109), (1, u "java/lang/StringLatin1"), (32, u "()Z"), (34, .methodref 42 178), (0, .nameAndType 45 179), (0, u "([CII)[B"), (154, u "()I"), (0, .methodref 10 336), (0, .nameAndType 17 337), (0, u "()B"), (25, u "([BI)C"), (27, u "(II)V"), (35, u "(I)C"), (64, .methodref 10 493), (0, .nameAndType 494 142), (0, u "isLatin1"), (0, .methodref 107 496), (0, .nameAndType 497 363), (0, u "charAt"), (3, u "checkIndex"), (5, u "length"), (33, .methodref 107 542), (0, .nameAndType 543 544), (0, u "equals"), (0, u "([B[B)Z"), (28, u "(Ljava/lang/Object;)Z"), (1, .class_ 576), (0, u "java/lang/CharSequence"), (22, u "CASE_INSENSITIVE_ORDER"), (0, u "Ljava/util/Comparator;"), (409, u "([C)V"), (42, .fieldref 1054 1055), (0, .class_ 1056), (0, .nameAndType 1057 1058), (0, u "jdk/internal/util/Preconditions"), (0, u "SIOOBE_FORMATTER"), (0, u "Ljava/util/function/BiFunction;"), (0, .methodref 1054 1060), (0, .nameAndType 501 1061), (0, u "(IILjava/util/function/BiFunction;)I"), (39, u "serialPersistentFields"), (0, u "[Ljava/io/ObjectStreamField;"), (0, .class_ 1104), (0, u "java/lang/String$CaseInsensitiveComparator"), (1, .class_ 1107), (0, u "java/io/Serializable"), (0, .class_ 1109), (0, u "java/lang/Comparable"), (0, .class_ 1111), (0, u "java/lang/constant/Constable"), (0, .class_ 1113), (0, u "java/lang/constant/ConstantDesc"), (2, u "serialVersionUID"), (0, u "J"), (3, u "REPL"), (0, u "C"), (2, u "LATIN1"), (1, u "UTF16")] 323

def k7m0 : Method := { name := "<init>", desc := "()V", sig := { parameters := [], returnType := none }, accessFlags := 1, code := none }
def k7c1 : Code := { maxStack := 5, maxLocals := 2, code := jdk_42_method_3_code, exceptionTable := #[], attributes := #[] }
def k7m1 : Method := { name := "<init>", desc := "([C)V", sig := { parameters := [(.array .char)], returnType := none }, accessFlags := 1, code := some k7c1 }
def k7c2 : Code := { maxStack := 2, maxLocals := 1, code := jdk_42_method_54_code, exceptionTable := #[], attributes := #[] }
def k7m2 : Method := { name := "length", desc := "()I", sig := { parameters := [], returnType := some .int }, accessFlags := 1, code := some k7c2 }
def k7c3 : Code := { maxStack := 2, maxLocals := 2, code := jdk_42_method_56_code, exceptionTable := #[], attributes := #[] }
def k7m3 : Method := { name := "charAt", desc := "(I)C", sig := { parameters := [.int], returnType := some .char }, accessFlags := 1, code := some k7c3 }
def k7c4 : Code := { maxStack := 2, maxLocals := 3, code := jdk_42_method_66_code, exceptionTable := #[], attributes := #[] }
def k7m4 : Method := { name := "equals", desc := "(Ljava/lang/Object;)Z", sig := { parameters := [(.object "java/lang/Object")], returnType := some .boolean }, accessFlags := 1, code := some k7c4 }
def k7c5 : Code := { maxStack := 4, maxLocals := 6, code := jdk_42_method_149_code, exceptionTable := #[], attributes := #[] }
def k7m5 : Method := { name := "<init>", desc := "([CIILjava/lang/Void;)V", sig := { parameters := [(.array .char), .int, .int, (.object "java/lang/Void")], returnType := none }, accessFlags := 2, code := some k7c5 }
def k7c6 : Code := { maxStack := 1, maxLocals := 1, code := jdk_42_method_152_code, exceptionTable := #[], attributes := #[] }
def k7m6 : Method := { name := "coder", desc := "()B", sig := { parameters := [], returnType := some .byte }, accessFlags := 0, code := some k7c6 }
def k7c7 : Code := { maxStack := 1, maxLocals := 1, code := jdk_42_method_154_code, exceptionTable := #[], attributes := #[] }
def k7m7 : Method := { name := "isLatin1", desc := "()Z", sig := { parameters := [], returnType := some .boolean }, accessFlags := 0, code := some k7c7 }
def k7c8 : Code := { maxStack := 3, maxLocals := 2, code := jdk_42_method_155_code, exceptionTable := #[], attributes := #[] }
def k7m8 : Method := { name := "checkIndex", desc := "(II)V", sig := { parameters := [.int, .int], returnType := none }, accessFlags := 8, code := some k7c8 }
/-- java/lang/String -/
def k7 : Class := { plain "java/lang/String" (some 0) with
  accessFlags := 49
  interfaces := #[2, 3, 4, 5, 6]
  cf := some (fileOf pool7 10 #[.nestMembers #[1103]] #[{ accessFlags := 1, nameIndex := 5, descriptorIndex := 6, attributes := #[] }, { accessFlags := 1, nameIndex := 5, descriptorIndex := 1010, attributes := #[] }, { accessFlags := 1, nameIndex := 507, descriptorIndex := 334, attributes := #[] }, { accessFlags := 1, nameIndex := 497, descriptorIndex := 427, attributes := #[] }, { accessFlags := 1, nameIndex := 543, descriptorIndex := 573, attributes := #[] }, { accessFlags := 2, nameIndex := 5, descriptorIndex := 29, attributes := #[] }, { accessFlags := 0, nameIndex := 17, descriptorIndex := 337, attributes := #[] }, { accessFlags := 0, nameIndex := 494, descriptorIndex := 142, attributes := #[] }, { accessFlags := 8, nameIndex := 501, descriptorIndex := 391, attributes := #[] }] 49 2 #[1106, 1108, 575, 1110, 1112] #[{ accessFlags := 18, nameIndex := 13, descriptorIndex := 14, attributes := #[] }, { accessFlags := 18, nameIndex := 17, descriptorIndex := 18, attributes := #[] }, { accessFlags := 2, nameIndex := 21, descriptorIndex := 22, attributes := #[] }, { accessFlags := 2, nameIndex := 25, descriptorIndex := 26, attributes := #[] }, { accessFlags := 26, nameIndex := 1116, descriptorIndex := 1117, attributes := #[] }, { accessFlags := 24, nameIndex := 40, descriptorIndex := 26, attributes := #[] }, { accessFlags := 26, nameIndex := 1101, descriptorIndex := 1102, attributes := #[] }, { accessFlags := 26, nameIndex := 1121, descriptorIndex := 1122, attributes := #[] }, { accessFlags := 25, nameIndex := 599, descriptorIndex := 600, attributes := #[] }, { accessFlags := 24, nameIndex := 1125, descriptorIndex := 18, attributes := #[] }, { accessFlags := 24, nameIndex := 1127, descriptorIndex := 18, attributes := #[] }])
  fields := #[{ name := "value", type := (.array .byte), accessFlags := 18, slot := 0, constantValue := 0 }, { name := "coder", type := .byte, accessFlags := 18, slot := 1, constantValue := 0 }, { name := "hash", type := .int, accessFlags := 2, slot := 2, constantValue := 0 }, { name := "hashIsZero", type := .boolean, accessFlags := 2, slot := 3, constantValue := 0 }, { name := "serialVersionUID", type := .long, accessFlags := 26, slot := 0, constantValue := 0 }, { name := "COMPACT_STRINGS", type := .boolean, accessFlags := 24, slot := 1, constantValue := 0 }, { name := "serialPersistentFields", type := (.array (.object "java/io/ObjectStreamField")), accessFlags := 26, slot := 2, constantValue := 0 }, { name := "REPL", type := .char, accessFlags := 26, slot := 3, constantValue := 0 }, { name := "CASE_INSENSITIVE_ORDER", type := (.object "java/util/Comparator"), accessFlags := 25, slot := 4, constantValue := 0 }, { name := "LATIN1", type := .byte, accessFlags := 24, slot := 5, constantValue := 0 }, { name := "UTF16", type := .byte, accessFlags := 24, slot := 6, constantValue := 0 }]
  methods := #[k7m0, k7m1, k7m2, k7m3, k7m4, k7m5, k7m6, k7m7, k7m8]
  instanceTypes := #[(.array .byte), .byte, .int, .boolean]
  staticTypes := #[.long, .boolean, (.array (.object "java/io/ObjectStreamField")), .char, (.object "java/util/Comparator"), .byte, .byte]
  resolved := Array.replicate 1451 none
  statics := some 0 }

def pool8 : Array CpInfo := pool [(2, .class_ 4), (1, u "java/lang/Object"), (0, u "<init>"), (0, u "()V"), (0, .class_ 8), (0, u "java/lang/Record")] 13

def k8m0 : Method := { name := "<init>", desc := "()V", sig := { parameters := [], returnType := none }, accessFlags := 4, code := none }
/-- java/lang/Record -/
def k8 : Class := { plain "java/lang/Record" (some 0) with
  accessFlags := 1057
  interfaces := #[]
  cf := some (fileOf pool8 7 #[] #[{ accessFlags := 4, nameIndex := 5, descriptorIndex := 6, attributes := #[] }] 1057 2 #[] #[])
  fields := #[]
  methods := #[k8m0]
  instanceTypes := #[]
  staticTypes := #[]
  resolved := Array.replicate 22 none
  statics := none }

def pool9 : Array CpInfo := pool [(2, .class_ 4), (1, u "java/lang/Record"), (13, u "(Ljava/lang/String;)Ljava/lang/String;"), (8, .class_ 29), (1, u "com/example/reliquary/reliquary/Datastream"), (0, u "id"), (0, u "Ljava/lang/String;"), (2, u "controlGroup"), (2, u "state"), (2, u "versionable"), (0, u "Z"), (2, u "versions"), (0, u "Ljava/util/List;"), (8, u "(Ljava/lang/Object;)Z"), (17, u "INLINE_ONLY"), (0, u "Ljava/util/Set;"), (5, .string 80), (0, u "X"), (0, .methodref 82 83), (0, .class_ 84), (0, .nameAndType 85 54), (0, u "java/lang/String"), (0, u "equals"), (1, .string 88), (0, u "text/xml"), (0, .string 90), (0, u "application/octet-stream"), (55, u "CONTROL_GROUPS"), (19, u "STATES"), (2, u "INLINE_XML"), (1, u "MANAGED"), (10, u "defaultMimeType")] 40

def k9c0 : Code := { maxStack := 2, maxLocals := 1, code := prog_21_method_6_code, exceptionTable := #[], attributes := #[] }
def k9m0 : Method := { name := "defaultMimeType", desc := "(Ljava/lang/String;)Ljava/lang/String;", sig := { parameters := [(.object "java/lang/String")], returnType := some (.object "java/lang/String") }, accessFlags := 8, code := some k9c0 }
/-- com/example/reliquary/reliquary/Datastream -/
def k9 : Class := { plain "com/example/reliquary/reliquary/Datastream" (some 8) with
  accessFlags := 48
  interfaces := #[]
  cf := some (fileOf pool9 27 #[] #[{ accessFlags := 8, nameIndex := 182, descriptorIndex := 18, attributes := #[] }] 48 2 #[] #[{ accessFlags := 18, nameIndex := 30, descriptorIndex := 31, attributes := #[] }, { accessFlags := 18, nameIndex := 34, descriptorIndex := 31, attributes := #[] }, { accessFlags := 18, nameIndex := 37, descriptorIndex := 31, attributes := #[] }, { accessFlags := 18, nameIndex := 40, descriptorIndex := 41, attributes := #[] }, { accessFlags := 18, nameIndex := 44, descriptorIndex := 45, attributes := #[] }, { accessFlags := 24, nameIndex := 169, descriptorIndex := 31, attributes := #[] }, { accessFlags := 24, nameIndex := 171, descriptorIndex := 31, attributes := #[] }, { accessFlags := 24, nameIndex := 146, descriptorIndex := 73, attributes := #[] }, { accessFlags := 26, nameIndex := 72, descriptorIndex := 73, attributes := #[] }, { accessFlags := 24, nameIndex := 166, descriptorIndex := 73, attributes := #[] }])
  fields := #[{ name := "id", type := (.object "java/lang/String"), accessFlags := 18, slot := 0, constantValue := 0 }, { name := "controlGroup", type := (.object "java/lang/String"), accessFlags := 18, slot := 1, constantValue := 0 }, { name := "state", type := (.object "java/lang/String"), accessFlags := 18, slot := 2, constantValue := 0 }, { name := "versionable", type := .boolean, accessFlags := 18, slot := 3, constantValue := 0 }, { name := "versions", type := (.object "java/util/List"), accessFlags := 18, slot := 4, constantValue := 0 }, { name := "INLINE_XML", type := (.object "java/lang/String"), accessFlags := 24, slot := 0, constantValue := 0 }, { name := "MANAGED", type := (.object "java/lang/String"), accessFlags := 24, slot := 1, constantValue := 0 }, { name := "CONTROL_GROUPS", type := (.object "java/util/Set"), accessFlags := 24, slot := 2, constantValue := 0 }, { name := "INLINE_ONLY", type := (.object "java/util/Set"), accessFlags := 26, slot := 3, constantValue := 0 }, { name := "STATES", type := (.object "java/util/Set"), accessFlags := 24, slot := 4, constantValue := 0 }]
  methods := #[k9m0]
  instanceTypes := #[(.object "java/lang/String"), (.object "java/lang/String"), (.object "java/lang/String"), .boolean, (.object "java/util/List")]
  staticTypes := #[(.object "java/lang/String"), (.object "java/lang/String"), (.object "java/util/Set"), (.object "java/util/Set"), (.object "java/util/Set")]
  resolved := Array.replicate 223 none
  statics := none }

def pool10 : Array CpInfo := pool [(1, .class_ 2), (0, u "java/lang/String"), (1, .class_ 6), (1, u "java/lang/Object"), (0, u "<init>"), (0, u "()V"), (0, .methodref 1 10), (0, .nameAndType 11 12), (0, u "checkIndex"), (0, u "(II)V"), (1, .class_ 16), (1, u "java/lang/StringLatin1"), (36, u "([BI)C"), (67, u "$assertionsDisabled"), (0, u "Z"), (98, .class_ 223), (1, u "java/lang/StringLatin1$LinesSpliterator"), (28, u "charAt"), (28, u "equals"), (0, u "([B[B)Z"), (107, .class_ 391), (0, u "java/lang/StringLatin1$CharsSpliterator")] 3

def k10m0 : Method := { name := "<init>", desc := "()V", sig := { parameters := [], returnType := none }, accessFlags := 0, code := none }
def k10c1 : Code := { maxStack := 2, maxLocals := 2, code := jdk_43_method_2_code, exceptionTable := #[], attributes := #[] }
def k10m1 : Method := { name := "charAt", desc := "([BI)C", sig := { parameters := [(.array .byte), .int], returnType := some .char }, accessFlags := 9, code := some k10c1 }
def k10c2 : Code := { maxStack := 3, maxLocals := 3, code := jdk_43_method_13_code, exceptionTable := #[], attributes := #[] }
def k10m2 : Method := { name := "equals", desc := "([B[B)Z", sig := { parameters := [(.array .byte), (.array .byte)], returnType := some .boolean }, accessFlags := 9, code := some k10c2 }
/-- java/lang/StringLatin1 -/
def k10 : Class := { plain "java/lang/StringLatin1" (some 0) with
  accessFlags := 48
  interfaces := #[]
  cf := some (fileOf pool10 14 #[.nestMembers #[390, 221]] #[{ accessFlags := 0, nameIndex := 7, descriptorIndex := 8, attributes := #[] }, { accessFlags := 9, nameIndex := 252, descriptorIndex := 53, attributes := #[] }, { accessFlags := 9, nameIndex := 281, descriptorIndex := 282, attributes := #[] }] 48 4 #[] #[{ accessFlags := 4120, nameIndex := 121, descriptorIndex := 122, attributes := #[] }])
  fields := #[{ name := "$assertionsDisabled", type := .boolean, accessFlags := 4120, slot := 0, constantValue := 0 }]
  methods := #[k10m0, k10m1, k10m2]
  instanceTypes := #[]
  staticTypes := #[.boolean]
  resolved := Array.replicate 395 none
  statics := none }

def pool11 : Array CpInfo := pool [(6, .class_ 8), (1, u "java/lang/Object"), (0, u "<init>"), (0, u "()V"), (1, .class_ 14), (1, u "java/lang/StringUTF16"), (31, u "$assertionsDisabled"), (0, u "Z"), (13, u "HI_BYTE_SHIFT"), (0, u "I"), (2, u "LO_BYTE_SHIFT"), (49, .methodref 12 116), (0, .nameAndType 117 118), (0, u "compress"), (0, u "([CI[BII)I"), (3, u "([CII)[B"), (138, u "coderFromArrayLen"), (0, u "([BI)B"), (106, .class_ 371), (1, u "java/lang/StringUTF16$LinesSpliterator"), (58, u "MAX_LENGTH"), (196, .class_ 628), (0, u "java/lang/StringUTF16$CodePointsSpliterator"), (0, .class_ 630), (0, u "java/lang/StringUTF16$CharsSpliterator")] 4

def k11m0 : Method := { name := "<init>", desc := "()V", sig := { parameters := [], returnType := none }, accessFlags := 0, code := none }
def k11c1 : Code := { maxStack := 2, maxLocals := 2, code := jdk_52_method_15_code, exceptionTable := #[], attributes := #[] }
def k11m1 : Method := { name := "coderFromArrayLen", desc := "([BI)B", sig := { parameters := [(.array .byte), .int], returnType := some .byte }, accessFlags := 8, code := some k11c1 }
def k11c2 : Code := { maxStack := 5, maxLocals := 6, code := jdk_52_method_16_code, exceptionTable := #[], attributes := #[] }
def k11m2 : Method := { name := "compress", desc := "([CII)[B", sig := { parameters := [(.array .char), .int, .int], returnType := some (.array .byte) }, accessFlags := 9, code := some k11c2 }
def k11c3 : Code := { maxStack := 3, maxLocals := 7, code := jdk_52_method_21_code, exceptionTable := #[], attributes := #[] }
def k11m3 : Method := { name := "compress", desc := "([CI[BII)I", sig := { parameters := [(.array .char), .int, (.array .byte), .int, .int], returnType := some .int }, accessFlags := 9, code := some k11c3 }
/-- java/lang/StringUTF16 -/
def k11 : Class := { plain "java/lang/StringUTF16" (some 0) with
  accessFlags := 48
  interfaces := #[]
  cf := some (fileOf pool11 12 #[.nestMembers #[627, 629, 369]] #[{ accessFlags := 0, nameIndex := 9, descriptorIndex := 10, attributes := #[] }, { accessFlags := 8, nameIndex := 261, descriptorIndex := 262, attributes := #[] }, { accessFlags := 9, nameIndex := 117, descriptorIndex := 122, attributes := #[] }, { accessFlags := 9, nameIndex := 117, descriptorIndex := 118, attributes := #[] }] 48 6 #[] #[{ accessFlags := 26, nameIndex := 61, descriptorIndex := 62, attributes := #[] }, { accessFlags := 26, nameIndex := 65, descriptorIndex := 62, attributes := #[] }, { accessFlags := 24, nameIndex := 430, descriptorIndex := 62, attributes := #[] }, { accessFlags := 4120, nameIndex := 46, descriptorIndex := 47, attributes := #[] }])
  fields := #[{ name := "HI_BYTE_SHIFT", type := .int, accessFlags := 26, slot := 0, constantValue := 0 }, { name := "LO_BYTE_SHIFT", type := .int, accessFlags := 26, slot := 1, constantValue := 0 }, { name := "MAX_LENGTH", type := .int, accessFlags := 24, slot := 2, constantValue := 0 }, { name := "$assertionsDisabled", type := .boolean, accessFlags := 4120, slot := 3, constantValue := 0 }]
  methods := #[k11m0, k11m1, k11m2, k11m3]
  instanceTypes := #[]
  staticTypes := #[.int, .int, .int, .boolean]
  resolved := Array.replicate 635 none
  statics := none }

def pool12 : Array CpInfo := pool [(2, .class_ 4), (1, u "java/lang/Object"), (0, u "<init>"), (0, u "()V"), (17, .class_ 26), (1, u "jdk/internal/util/Preconditions"), (6, u "checkIndex"), (21, .class_ 56), (0, u "jdk/internal/util/Preconditions$4"), (57, .class_ 115), (0, u "jdk/internal/util/Preconditions$1"), (7, u "SIOOBE_FORMATTER"), (0, u "Ljava/util/function/BiFunction;"), (0, .class_ 126), (0, u "jdk/internal/util/Preconditions$2"), (3, u "AIOOBE_FORMATTER"), (0, .class_ 132), (0, u "jdk/internal/util/Preconditions$3"), (3, u "IOOBE_FORMATTER"), (41, u "(IILjava/util/function/BiFunction;)I")] 15

def k12m0 : Method := { name := "<init>", desc := "()V", sig := { parameters := [], returnType := none }, accessFlags := 1, code := none }
def k12c1 : Code := { maxStack := 3, maxLocals := 3, code := jdk_41_method_11_code, exceptionTable := #[], attributes := #[] }
def k12m1 : Method := { name := "checkIndex", desc := "(IILjava/util/function/BiFunction;)I", sig := { parameters := [.int, .int, (.object "java/util/function/BiFunction")], returnType := some .int }, accessFlags := 9, code := some k12c1 }
/-- jdk/internal/util/Preconditions -/
def k12 : Class := { plain "jdk/internal/util/Preconditions" (some 0) with
  accessFlags := 33
  interfaces := #[]
  cf := some (fileOf pool12 24 #[.nestMembers #[55, 131, 125, 114]] #[{ accessFlags := 1, nameIndex := 5, descriptorIndex := 6, attributes := #[] }, { accessFlags := 9, nameIndex := 33, descriptorIndex := 178, attributes := #[] }] 33 2 #[] #[{ accessFlags := 25, nameIndex := 123, descriptorIndex := 124, attributes := #[] }, { accessFlags := 25, nameIndex := 130, descriptorIndex := 124, attributes := #[] }, { accessFlags := 25, nameIndex := 136, descriptorIndex := 124, attributes := #[] }])
  fields := #[{ name := "SIOOBE_FORMATTER", type := (.object "java/util/function/BiFunction"), accessFlags := 25, slot := 0, constantValue := 0 }, { name := "AIOOBE_FORMATTER", type := (.object "java/util/function/BiFunction"), accessFlags := 25, slot := 1, constantValue := 0 }, { name := "IOOBE_FORMATTER", type := (.object "java/util/function/BiFunction"), accessFlags := 25, slot := 2, constantValue := 0 }]
  methods := #[k12m0, k12m1]
  instanceTypes := #[]
  staticTypes := #[(.object "java/util/function/BiFunction"), (.object "java/util/function/BiFunction"), (.object "java/util/function/BiFunction")]
  resolved := Array.replicate 194 none
  statics := some 1 }

def pool13 : Array CpInfo := pool [(9, u "<init>"), (6, .class_ 18), (1, u "java/lang/Object"), (0, u "()V"), (1, .class_ 23), (1, u "jdk/internal/util/ArraysSupport"), (0, u "LOG2_ARRAY_LONG_INDEX_SCALE"), (0, u "I"), (2, u "U"), (0, u "Ljdk/internal/misc/Unsafe;"), (8, u "BIG_ENDIAN"), (0, u "Z"), (8, u "LOG2_BYTE_BIT_SIZE"), (4, u "LOG2_ARRAY_INT_INDEX_SCALE"), (54, u "JLA"), (0, u "Ljdk/internal/access/JavaLangAccess;"), (11, u "LOG2_ARRAY_BOOLEAN_INDEX_SCALE"), (9, u "LOG2_ARRAY_BYTE_INDEX_SCALE"), (5, u "LOG2_ARRAY_CHAR_INDEX_SCALE"), (5, u "LOG2_ARRAY_SHORT_INDEX_SCALE"), (18, u "LOG2_ARRAY_FLOAT_INDEX_SCALE"), (24, u "LOG2_ARRAY_DOUBLE_INDEX_SCALE"), (89, u "T_BOOLEAN"), (2, u "T_CHAR"), (1, u "T_FLOAT"), (1, u "T_DOUBLE"), (1, u "T_BYTE"), (1, u "T_SHORT"), (1, u "T_INT"), (1, u "T_LONG"), (1, u "SOFT_MAX_ARRAY_LENGTH")] 83

def k13m0 : Method := { name := "<init>", desc := "()V", sig := { parameters := [], returnType := none }, accessFlags := 2, code := none }
/-- jdk/internal/util/ArraysSupport -/
def k13 : Class := { plain "jdk/internal/util/ArraysSupport" (some 0) with
  accessFlags := 33
  interfaces := #[]
  cf := some (fileOf pool13 21 #[] #[{ accessFlags := 2, nameIndex := 9, descriptorIndex := 19, attributes := #[] }] 33 16 #[] #[{ accessFlags := 24, nameIndex := 28, descriptorIndex := 29, attributes := #[] }, { accessFlags := 26, nameIndex := 38, descriptorIndex := 39, attributes := #[] }, { accessFlags := 25, nameIndex := 121, descriptorIndex := 25, attributes := #[] }, { accessFlags := 25, nameIndex := 131, descriptorIndex := 25, attributes := #[] }, { accessFlags := 25, nameIndex := 137, descriptorIndex := 25, attributes := #[] }, { accessFlags := 25, nameIndex := 143, descriptorIndex := 25, attributes := #[] }, { accessFlags := 25, nameIndex := 53, descriptorIndex := 25, attributes := #[] }, { accessFlags := 25, nameIndex := 24, descriptorIndex := 25, attributes := #[] }, { accessFlags := 25, nameIndex := 162, descriptorIndex := 25, attributes := #[] }, { accessFlags := 25, nameIndex := 187, descriptorIndex := 25, attributes := #[] }, { accessFlags := 26, nameIndex := 48, descriptorIndex := 25, attributes := #[] }, { accessFlags := 25, nameIndex := 277, descriptorIndex := 25, attributes := #[] }, { accessFlags := 25, nameIndex := 280, descriptorIndex := 25, attributes := #[] }, { accessFlags := 25, nameIndex := 282, descriptorIndex := 25, attributes := #[] }, { accessFlags := 25, nameIndex := 284, descriptorIndex := 25, attributes := #[] }, { accessFlags := 25, nameIndex := 286, descriptorIndex := 25, attributes := #[] }, { accessFlags := 25, nameIndex := 288, descriptorIndex := 25, attributes := #[] }, { accessFlags := 25, nameIndex := 290, descriptorIndex := 25, attributes := #[] }, { accessFlags := 25, nameIndex := 292, descriptorIndex := 25, attributes := #[] }, { accessFlags := 26, nameIndex := 108, descriptorIndex := 109, attributes := #[] }, { accessFlags := 25, nameIndex := 294, descriptorIndex := 25, attributes := #[] }])
  fields := #[{ name := "U", type := (.object "jdk/internal/misc/Unsafe"), accessFlags := 24, slot := 0, constantValue := 0 }, { name := "BIG_ENDIAN", type := .boolean, accessFlags := 26, slot := 1, constantValue := 0 }, { name := "LOG2_ARRAY_BOOLEAN_INDEX_SCALE", type := .int, accessFlags := 25, slot := 2, constantValue := 0 }, { name := "LOG2_ARRAY_BYTE_INDEX_SCALE", type := .int, accessFlags := 25, slot := 3, constantValue := 0 }, { name := "LOG2_ARRAY_CHAR_INDEX_SCALE", type := .int, accessFlags := 25, slot := 4, constantValue := 0 }, { name := "LOG2_ARRAY_SHORT_INDEX_SCALE", type := .int, accessFlags := 25, slot := 5, constantValue := 0 }, { name := "LOG2_ARRAY_INT_INDEX_SCALE", type := .int, accessFlags := 25, slot := 6, constantValue := 0 }, { name := "LOG2_ARRAY_LONG_INDEX_SCALE", type := .int, accessFlags := 25, slot := 7, constantValue := 0 }, { name := "LOG2_ARRAY_FLOAT_INDEX_SCALE", type := .int, accessFlags := 25, slot := 8, constantValue := 0 }, { name := "LOG2_ARRAY_DOUBLE_INDEX_SCALE", type := .int, accessFlags := 25, slot := 9, constantValue := 0 }, { name := "LOG2_BYTE_BIT_SIZE", type := .int, accessFlags := 26, slot := 10, constantValue := 0 }, { name := "T_BOOLEAN", type := .int, accessFlags := 25, slot := 11, constantValue := 0 }, { name := "T_CHAR", type := .int, accessFlags := 25, slot := 12, constantValue := 0 }, { name := "T_FLOAT", type := .int, accessFlags := 25, slot := 13, constantValue := 0 }, { name := "T_DOUBLE", type := .int, accessFlags := 25, slot := 14, constantValue := 0 }, { name := "T_BYTE", type := .int, accessFlags := 25, slot := 15, constantValue := 0 }, { name := "T_SHORT", type := .int, accessFlags := 25, slot := 16, constantValue := 0 }, { name := "T_INT", type := .int, accessFlags := 25, slot := 17, constantValue := 0 }, { name := "T_LONG", type := .int, accessFlags := 25, slot := 18, constantValue := 0 }, { name := "JLA", type := (.object "jdk/internal/access/JavaLangAccess"), accessFlags := 26, slot := 19, constantValue := 0 }, { name := "SOFT_MAX_ARRAY_LENGTH", type := .int, accessFlags := 25, slot := 20, constantValue := 0 }]
  methods := #[k13m0]
  instanceTypes := #[]
  staticTypes := #[(.object "jdk/internal/misc/Unsafe"), .boolean, .int, .int, .int, .int, .int, .int, .int, .int, .int, .int, .int, .int, .int, .int, .int, .int, .int, (.object "jdk/internal/access/JavaLangAccess"), .int]
  resolved := Array.replicate 378 none
  statics := none }

def pool14 : Array CpInfo := pool [(1, u "java/lang/Cloneable"), (0, .class_ 1), (0, u "java/lang/Object"), (0, .class_ 3)] 3

/-- java/lang/Cloneable -/
def k14 : Class := { plain "java/lang/Cloneable" (some 0) with
  accessFlags := 1537
  interfaces := #[]
  cf := some (fileOf pool14 2 #[] #[] 1537 4 #[] #[])
  fields := #[]
  methods := #[]
  instanceTypes := #[]
  staticTypes := #[]
  resolved := Array.replicate 8 none
  statics := none }

/-- the primitive byte -/
def k15 : Class := { plain "byte" none with kind := .primitive 'B', accessFlags := 0x411 }
/-- [B -/
def k16 : Class := { plain "[B" (some 0) with kind := .array 15 .byte, interfaces := #[14, 2], accessFlags := 1041 }

/-- the primitive char -/
def k17 : Class := { plain "char" none with kind := .primitive 'C', accessFlags := 0x411 }
/-- [C -/
def k18 : Class := { plain "[C" (some 0) with kind := .array 17 .char, interfaces := #[14, 2], accessFlags := 1041 }

/-- the primitive int -/
def k19 : Class := { plain "int" none with kind := .primitive 'I', accessFlags := 0x411 }
/-- [I -/
def k20 : Class := { plain "[I" (some 0) with kind := .array 19 .int, interfaces := #[14, 2], accessFlags := 1041 }

def heap : Heap := #[{ cls := 7, slots := #[.long 0, .int 1, .null, .int 0, .null, .int 0, .int 0], vm := .statics 7 },
  { cls := 12, slots := #[.null, .null, .null], vm := .statics 12 }]
def classes : Array Class := #[k0, k1, k2, k3, k4, k5, k6, k7, k8, k9, k10, k11, k12, k13, k14, k15, k16, k17, k18, k19, k20]
def interned : List (Array UInt16 × Addr) := []
def slotsUsed : Nat := 10
def theMethod : MethodId := ⟨1, 1⟩
def args0 : Array Value := #[.int 5, .int 6, .int 7, .int 8, .int 9]
def aboutOver (below : List Frame) : State where
  vm := { classes := classes, interned := interned.toArray }
  heap := heap
  slotsUsed := slotsUsed
  threads := #[{ frames := .invoking theMethod args0 :: below }]
def below0 : List Frame := [.native { method := ⟨0, 0⟩, args := #[] }]
def about1 : State := aboutOver below0
def p0 : Program := .bare "" "" ""
def e0 : Env := launch0.env 0 0 0
theorem w_frames : about1.frames = Frame.invoking theMethod args0 :: below0 := rfl
set_option maxRecDepth 65536 in
theorem w_args : argsFit about1.vm theMethod args0 = true := by decide +kernel
set_option maxRecDepth 65536 in
theorem w_heap : heapFits about1 = true := by decide +kernel
set_option maxRecDepth 65536 in
theorem w_runnable : about1.curStatus? = some .runnable := by decide +kernel
set_option maxRecDepth 65536 in
theorem w_alone : about1.alone = true := by decide +kernel
set_option maxRecDepth 65536 in
theorem w_named : about1.methodNamed? x = some theMethod := by decide +kernel
set_option maxRecDepth 65536 in
theorem w_hears : about1.hears theMethod below0 = true := by decide +kernel
set_option maxRecDepth 65536 in
theorem w_ripe : about1.ripe theMethod args0 below0 = true := by decide +kernel
theorem w_running : about1.status = .running := rfl
set_option maxRecDepth 65536 in
theorem w_room : about1.hasRoom e0.platform room_1 = true :=
  launch0.hasRoom_least _ room_1 (by decide +kernel) (by decide +kernel) (by decide +kernel) (by decide +kernel) (by decide +kernel) (by decide +kernel)
theorem allAtoms_all (ts : List Jvm.Cond) (a : Array Jvm.Value) (st : Jvm.State) : (allAtoms ts).before a st = ts.all (fun c => c.before a st) := by
  induction ts with
  | nil => rfl
  | cons c t ih =>
    show (Jvm.Cond.and c (allAtoms t)).before a st = _
    rw [Jvm.Cond.before_and, ih, List.all_cons]
def words1 : List Jvm.Cond := Jvm.Cond.code x code maxLocals ret :: tables_1
/-- a 'code' word, met by the world's own term for the bytes: nothing is compared byte by byte -/
theorem code_word {y : MethodName} {bytes : ByteArray} {mx : Nat} {rt : Option FieldType} {a : Array Value} {s : State} {m : MethodId} {meth : Method} {c : Code} (h1 : s.methodNamed? y = some m) (h2 : s.vm.method? m = some meth) (h3 : meth.code = some c) (h4 : c.code = bytes)
    (h5 : (c.maxLocals == mx && c.exceptionTable.isEmpty && decide (c.maxStack ≤ mostOperands) && decide (meth.sig.returnType = rt) && !meth.locks && decide (parseMethodDescriptor y.desc = some meth.sig)) = true) : (Jvm.Cond.code y bytes mx rt).before a s = true := by
  simp only [Bool.and_eq_true, beq_iff_eq, Bool.not_eq_true', decide_eq_true_eq] at h5
  obtain ⟨⟨⟨⟨⟨g1, g2⟩, g3⟩, g4⟩, g5⟩, g6⟩ := h5
  simp [Cond.before, Cond.holds, Cond.value, h1, h2, h3, h4, g1, g2, g3, g4, g5, g6]
def isCode : Jvm.Cond → Bool
  | .code _ _ _ _ => true
  | _ => false
theorem all_split {L : List Jvm.Cond} {P : Jvm.Cond → Bool} (h1 : L.all (fun c => isCode c || P c) = true) (h2 : ∀ c ∈ L.filter isCode, P c = true) : L.all P = true := by
  refine List.all_eq_true.mpr fun c hc => ?_
  have h := List.all_eq_true.mp h1 c hc
  rcases Bool.eq_false_or_eq_true (isCode c) with hi | hi
  · exact h2 c (List.mem_filter.mpr ⟨hc, hi⟩)
  · simpa [hi] using h
set_option maxRecDepth 65536 in
theorem w_c0 : (Jvm.Cond.code x code maxLocals ret).before args0 about1 = true := code_word (m := ⟨1, 1⟩) (meth := k1m1) (c := k1c1) (by decide +kernel) rfl rfl rfl (by decide +kernel)
set_option maxRecDepth 65536 in
theorem w_c1 : (Jvm.Cond.code ({ cls := "com/example/reliquary/reliquary/DatastreamDefaultMimeTypePinLaw", name := "make", desc := "(ICCC)Ljava/lang/String;" } : Jvm.MethodName) method_3_code (4 : Nat) (Option.some (Jvm.ClassFile.FieldType.object "java/lang/String"))).before args0 about1 = true := code_word (m := ⟨1, 2⟩) (meth := k1m2) (c := k1c2) (by decide +kernel) rfl rfl rfl (by decide +kernel)
set_option maxRecDepth 65536 in
theorem w_c2 : (Jvm.Cond.code ({ cls := "java/lang/String", name := "<init>", desc := "([C)V" } : Jvm.MethodName) jdk_42_method_3_code (2 : Nat) (Option.none : Option Jvm.ClassFile.FieldType)).before args0 about1 = true := code_word (m := ⟨7, 1⟩) (meth := k7m1) (c := k7c1) (by decide +kernel) rfl rfl rfl (by decide +kernel)
set_option maxRecDepth 65536 in
theorem w_c3 : (Jvm.Cond.code ({ cls := "java/lang/String", name := "<init>", desc := "([CIILjava/lang/Void;)V" } : Jvm.MethodName) jdk_42_method_149_code (6 : Nat) (Option.none : Option Jvm.ClassFile.FieldType)).before args0 about1 = true := code_word (m := ⟨7, 5⟩) (meth := k7m5) (c := k7c5) (by decide +kernel) rfl rfl rfl (by decide +kernel)
set_option maxRecDepth 65536 in
theorem w_c4 : (Jvm.Cond.code ({ cls := "java/lang/Object", name := "<init>", desc := "()V" } : Jvm.MethodName) object_method_1_code (1 : Nat) (Option.none : Option Jvm.ClassFile.FieldType)).before args0 about1 = true := code_word (m := ⟨0, 0⟩) (meth := k0m0) (c := k0c0) (by decide +kernel) rfl rfl rfl (by decide +kernel)
set_option maxRecDepth 65536 in
theorem w_c5 : (Jvm.Cond.code ({ cls := "com/example/reliquary/reliquary/Datastream", name := "defaultMimeType", desc := "(Ljava/lang/String;)Ljava/lang/String;" } : Jvm.MethodName) prog_21_method_6_code (1 : Nat) (Option.some (Jvm.ClassFile.FieldType.object "java/lang/String"))).before args0 about1 = true := code_word (m := ⟨9, 0⟩) (meth := k9m0) (c := k9c0) (by decide +kernel) rfl rfl rfl (by decide +kernel)
set_option maxRecDepth 65536 in
theorem w_c6 : (Jvm.Cond.code ({ cls := "java/lang/String", name := "equals", desc := "(Ljava/lang/Object;)Z" } : Jvm.MethodName) jdk_42_method_66_code (3 : Nat) (Option.some Jvm.ClassFile.FieldType.boolean)).before args0 about1 = true := code_word (m := ⟨7, 4⟩) (meth := k7m4) (c := k7c4) (by decide +kernel) rfl rfl rfl (by decide +kernel)
set_option maxRecDepth 65536 in
theorem w_c7 : (Jvm.Cond.code ({ cls := "java/lang/StringLatin1", name := "equals", desc := "([B[B)Z" } : Jvm.MethodName) jdk_43_method_13_code (3 : Nat) (Option.some Jvm.ClassFile.FieldType.boolean)).before args0 about1 = true := code_word (m := ⟨10, 2⟩) (meth := k10m2) (c := k10c2) (by decide +kernel) rfl rfl rfl (by decide +kernel)
set_option maxRecDepth 65536 in
theorem w_c8 : (Jvm.Cond.code ({ cls := "java/lang/String", name := "length", desc := "()I" } : Jvm.MethodName) jdk_42_method_54_code (1 : Nat) (Option.some Jvm.ClassFile.FieldType.int)).before args0 about1 = true := code_word (m := ⟨7, 2⟩) (meth := k7m2) (c := k7c2) (by decide +kernel) rfl rfl rfl (by decide +kernel)
set_option maxRecDepth 65536 in
theorem w_c9 : (Jvm.Cond.code ({ cls := "java/lang/String", name := "coder", desc := "()B" } : Jvm.MethodName) jdk_42_method_152_code (1 : Nat) (Option.some Jvm.ClassFile.FieldType.byte)).before args0 about1 = true := code_word (m := ⟨7, 6⟩) (meth := k7m6) (c := k7c6) (by decide +kernel) rfl rfl rfl (by decide +kernel)
set_option maxRecDepth 65536 in
theorem w_c10 : (Jvm.Cond.code ({ cls := "java/lang/StringUTF16", name := "compress", desc := "([CII)[B" } : Jvm.MethodName) jdk_52_method_16_code (6 : Nat) (Option.some (Jvm.ClassFile.FieldType.array Jvm.ClassFile.FieldType.byte))).before args0 about1 = true := code_word (m := ⟨11, 2⟩) (meth := k11m2) (c := k11c2) (by decide +kernel) rfl rfl rfl (by decide +kernel)
set_option maxRecDepth 65536 in
theorem w_c11 : (Jvm.Cond.code ({ cls := "java/lang/StringUTF16", name := "compress", desc := "([CI[BII)I" } : Jvm.MethodName) jdk_52_method_21_code (7 : Nat) (Option.some Jvm.ClassFile.FieldType.int)).before args0 about1 = true := code_word (m := ⟨11, 3⟩) (meth := k11m3) (c := k11c3) (by decide +kernel) rfl rfl rfl (by decide +kernel)
set_option maxRecDepth 65536 in
theorem w_c12 : (Jvm.Cond.code ({ cls := "java/lang/StringUTF16", name := "coderFromArrayLen", desc := "([BI)B" } : Jvm.MethodName) jdk_52_method_15_code (2 : Nat) (Option.some Jvm.ClassFile.FieldType.byte)).before args0 about1 = true := code_word (m := ⟨11, 1⟩) (meth := k11m1) (c := k11c1) (by decide +kernel) rfl rfl rfl (by decide +kernel)
set_option maxRecDepth 65536 in
theorem w_c13 : (Jvm.Cond.code ({ cls := "java/lang/String", name := "charAt", desc := "(I)C" } : Jvm.MethodName) jdk_42_method_56_code (2 : Nat) (Option.some Jvm.ClassFile.FieldType.char)).before args0 about1 = true := code_word (m := ⟨7, 3⟩) (meth := k7m3) (c := k7c3) (by decide +kernel) rfl rfl rfl (by decide +kernel)
set_option maxRecDepth 65536 in
theorem w_c14 : (Jvm.Cond.code ({ cls := "java/lang/String", name := "isLatin1", desc := "()Z" } : Jvm.MethodName) jdk_42_method_154_code (1 : Nat) (Option.some Jvm.ClassFile.FieldType.boolean)).before args0 about1 = true := code_word (m := ⟨7, 7⟩) (meth := k7m7) (c := k7c7) (by decide +kernel) rfl rfl rfl (by decide +kernel)
set_option maxRecDepth 65536 in
theorem w_c15 : (Jvm.Cond.code ({ cls := "java/lang/StringLatin1", name := "charAt", desc := "([BI)C" } : Jvm.MethodName) jdk_43_method_2_code (2 : Nat) (Option.some Jvm.ClassFile.FieldType.char)).before args0 about1 = true := code_word (m := ⟨10, 1⟩) (meth := k10m1) (c := k10c1) (by decide +kernel) rfl rfl rfl (by decide +kernel)
set_option maxRecDepth 65536 in
theorem w_c16 : (Jvm.Cond.code ({ cls := "java/lang/String", name := "checkIndex", desc := "(II)V" } : Jvm.MethodName) jdk_42_method_155_code (2 : Nat) (Option.none : Option Jvm.ClassFile.FieldType)).before args0 about1 = true := code_word (m := ⟨7, 8⟩) (meth := k7m8) (c := k7c8) (by decide +kernel) rfl rfl rfl (by decide +kernel)
set_option maxRecDepth 65536 in
theorem w_c17 : (Jvm.Cond.code ({ cls := "jdk/internal/util/Preconditions", name := "checkIndex", desc := "(IILjava/util/function/BiFunction;)I" } : Jvm.MethodName) jdk_41_method_11_code (3 : Nat) (Option.some Jvm.ClassFile.FieldType.int)).before args0 about1 = true := code_word (m := ⟨12, 1⟩) (meth := k12m1) (c := k12c1) (by decide +kernel) rfl rfl rfl (by decide +kernel)
def codes1 : List Jvm.Cond := [Jvm.Cond.code x code maxLocals ret, Jvm.Cond.code ({ cls := "com/example/reliquary/reliquary/DatastreamDefaultMimeTypePinLaw", name := "make", desc := "(ICCC)Ljava/lang/String;" } : Jvm.MethodName) method_3_code (4 : Nat) (Option.some (Jvm.ClassFile.FieldType.object "java/lang/String")), Jvm.Cond.code ({ cls := "java/lang/String", name := "<init>", desc := "([C)V" } : Jvm.MethodName) jdk_42_method_3_code (2 : Nat) (Option.none : Option Jvm.ClassFile.FieldType), Jvm.Cond.code ({ cls := "java/lang/String", name := "<init>", desc := "([CIILjava/lang/Void;)V" } : Jvm.MethodName) jdk_42_method_149_code (6 : Nat) (Option.none : Option Jvm.ClassFile.FieldType), Jvm.Cond.code ({ cls := "java/lang/Object", name := "<init>", desc := "()V" } : Jvm.MethodName) object_method_1_code (1 : Nat) (Option.none : Option Jvm.ClassFile.FieldType), Jvm.Cond.code ({ cls := "com/example/reliquary/reliquary/Datastream", name := "defaultMimeType", desc := "(Ljava/lang/String;)Ljava/lang/String;" } : Jvm.MethodName) prog_21_method_6_code (1 : Nat) (Option.some (Jvm.ClassFile.FieldType.object "java/lang/String")), Jvm.Cond.code ({ cls := "java/lang/String", name := "equals", desc := "(Ljava/lang/Object;)Z" } : Jvm.MethodName) jdk_42_method_66_code (3 : Nat) (Option.some Jvm.ClassFile.FieldType.boolean), Jvm.Cond.code ({ cls := "java/lang/StringLatin1", name := "equals", desc := "([B[B)Z" } : Jvm.MethodName) jdk_43_method_13_code (3 : Nat) (Option.some Jvm.ClassFile.FieldType.boolean), Jvm.Cond.code ({ cls := "java/lang/String", name := "length", desc := "()I" } : Jvm.MethodName) jdk_42_method_54_code (1 : Nat) (Option.some Jvm.ClassFile.FieldType.int), Jvm.Cond.code ({ cls := "java/lang/String", name := "coder", desc := "()B" } : Jvm.MethodName) jdk_42_method_152_code (1 : Nat) (Option.some Jvm.ClassFile.FieldType.byte), Jvm.Cond.code ({ cls := "java/lang/StringUTF16", name := "compress", desc := "([CII)[B" } : Jvm.MethodName) jdk_52_method_16_code (6 : Nat) (Option.some (Jvm.ClassFile.FieldType.array Jvm.ClassFile.FieldType.byte)), Jvm.Cond.code ({ cls := "java/lang/StringUTF16", name := "compress", desc := "([CI[BII)I" } : Jvm.MethodName) jdk_52_method_21_code (7 : Nat) (Option.some Jvm.ClassFile.FieldType.int), Jvm.Cond.code ({ cls := "java/lang/StringUTF16", name := "coderFromArrayLen", desc := "([BI)B" } : Jvm.MethodName) jdk_52_method_15_code (2 : Nat) (Option.some Jvm.ClassFile.FieldType.byte), Jvm.Cond.code ({ cls := "java/lang/String", name := "charAt", desc := "(I)C" } : Jvm.MethodName) jdk_42_method_56_code (2 : Nat) (Option.some Jvm.ClassFile.FieldType.char), Jvm.Cond.code ({ cls := "java/lang/String", name := "isLatin1", desc := "()Z" } : Jvm.MethodName) jdk_42_method_154_code (1 : Nat) (Option.some Jvm.ClassFile.FieldType.boolean), Jvm.Cond.code ({ cls := "java/lang/StringLatin1", name := "charAt", desc := "([BI)C" } : Jvm.MethodName) jdk_43_method_2_code (2 : Nat) (Option.some Jvm.ClassFile.FieldType.char), Jvm.Cond.code ({ cls := "java/lang/String", name := "checkIndex", desc := "(II)V" } : Jvm.MethodName) jdk_42_method_155_code (2 : Nat) (Option.none : Option Jvm.ClassFile.FieldType), Jvm.Cond.code ({ cls := "jdk/internal/util/Preconditions", name := "checkIndex", desc := "(IILjava/util/function/BiFunction;)I" } : Jvm.MethodName) jdk_41_method_11_code (3 : Nat) (Option.some Jvm.ClassFile.FieldType.int)]
set_option maxRecDepth 65536 in
theorem codes_eq : words1.filter isCode = codes1 := rfl
theorem w_codes : ∀ c ∈ words1.filter isCode, c.before args0 about1 = true := by
  rw [codes_eq]
  intro c hc
  simp only [codes1, List.mem_cons, List.not_mem_nil, or_false] at hc
  rcases hc with rfl | rfl | rfl | rfl | rfl | rfl | rfl | rfl | rfl | rfl | rfl | rfl | rfl | rfl | rfl | rfl | rfl | rfl
  · exact w_c0
  · exact w_c1
  · exact w_c2
  · exact w_c3
  · exact w_c4
  · exact w_c5
  · exact w_c6
  · exact w_c7
  · exact w_c8
  · exact w_c9
  · exact w_c10
  · exact w_c11
  · exact w_c12
  · exact w_c13
  · exact w_c14
  · exact w_c15
  · exact w_c16
  · exact w_c17
set_option maxRecDepth 65536 in
theorem w_t1 : (words1.take 24).all (fun c => isCode c || c.before args0 about1) = true := by decide +kernel
set_option maxRecDepth 65536 in
theorem w_t2 : ((words1.drop 24).take 24).all (fun c => isCode c || c.before args0 about1) = true := by decide +kernel
set_option maxRecDepth 65536 in
theorem w_t3 : (((words1.drop 24).drop 24).take 24).all (fun c => isCode c || c.before args0 about1) = true := by decide +kernel
set_option maxRecDepth 65536 in
theorem w_t4 : (((words1.drop 24).drop 24).drop 24).all (fun c => isCode c || c.before args0 about1) = true := by decide +kernel
theorem w_tables : (allAtoms (Jvm.Cond.code x code maxLocals ret :: tables_1)).before args0 about1 = true := by
  rw [allAtoms_all]
  show words1.all (fun c => c.before args0 about1) = true
  refine all_split ?_ w_codes
  rw [← List.take_append_drop 24 words1, List.all_append, w_t1, ← List.take_append_drop 24 (words1.drop 24), List.all_append, w_t2, ← List.take_append_drop 24 ((words1.drop 24).drop 24), List.all_append, w_t3, w_t4]
  rfl
set_option maxRecDepth 65536 in
theorem w_rest : rest_1_c.before args0 about1 = true := by decide +kernel
set_option maxRecDepth 65536 in
theorem w_case : (Jvm.Cond.and given_1 narrow_1).before args0 about1 = true := by decide +kernel
set_option maxRecDepth 65536 in
theorem w_consts : constsHeld consts_1 about1 := Jvm.Lit.constsHeldB_iff.mp (by decide +kernel)
theorem w_applies : (headSpec (Jvm.Cond.code x code maxLocals ret :: tables_1) room_1).applies x e0.platform about1 = true :=
  (Spec.applies_iff w_frames).mpr ⟨w_running, w_runnable, w_alone, w_named, w_hears, w_ripe, w_room, w_tables⟩
theorem atStart : AtStart classFile x code maxLocals ret World_1 tables_1 room_1 Calls_1 rest_1 Pre_1 launch0 p0 e0 about1 theMethod args0 below0 :=
  ⟨lists_1, trivial, launch0.admits_env _ _ _, launch0.least_env, fairChoices_fair.cas, fairChoices_fair.clock, w_frames, w_args, w_heap, w_applies, ⟨w_consts, trivial⟩, w_rest, w_case⟩
end start1
theorem witness_1 : WitnessClaimed_1 := ⟨start1.p0, start1.e0, start1.about1, start1.theMethod, start1.args0, start1.below0, start1.atStart⟩
end Jvm.Pilot.@@N@@
