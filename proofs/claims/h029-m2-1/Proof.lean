import JvmDerived
import JvmDerived.Pilot.@@N@@Statement
import JvmDerived.Pilot.@@N@@Code
set_option linter.unusedVariables false
set_option linter.unusedSimpArgs false
namespace Jvm.RoadKit
open Sem ClassFile Op Lib Jvm.Stand Jvm.Free Jvm.LawKit
section New
variable {p : Program} {l : Launch} {e : Env} {R : Room} {s : State} {m : MethodId} {args : Array Value} {below : List Frame} {meth : Method} {c : Code} {T : State} {locs : List Loc} {cells slots : Nat}
theorem retI (X : Stand p l e R s m args below meth c T locs cells slots) (hx : p.tables.exec = Jvm.exec) {pc : Nat} {Ls : Array Slot} {z : Int32} {rest : List Value} (hret : meth.sig.returnType = some .int) (hd : decode c.code pc = .ok (.ireturn, 1)) {fs : List Frame}
    (hl : ∀ (f : JFrame) (acts : List Action), f.method = m → f.locked = none → f.entered = [] → (doReturn e (T.setTop f) acts (some (.int z))).1 = T.setFrames fs) : Steps p.tables e below (T.setTop (mkF m pc Ls (.int z :: rest))) (T.setFrames fs) := by
  have hm' : T.vm.method? m = some meth := X.method'
  have hn : narrow .int (.int z) = .int z := rfl
  show Steps p.tables e below (T.setTop { method := m, pc := pc, locals := Ls, stack := _ :: rest, locked := none }) _
  jvm_step X.here [X.here.top, hx, hd, hm', hret, hn]
  first | (intro acts; rw [hl _ acts rfl rfl rfl]) | rw [hl _ _ rfl rfl rfl]
  exact Steps.refl _
theorem retZ (X : Stand p l e R s m args below meth c T locs cells slots) (hx : p.tables.exec = Jvm.exec) {pc : Nat} {Ls : Array Slot} {z : Int32} {rest : List Value} (hret : meth.sig.returnType = some .boolean) (hz : z &&& 1 = z) (hd : decode c.code pc = .ok (.ireturn, 1)) {fs : List Frame}
    (hl : ∀ (f : JFrame) (acts : List Action), f.method = m → f.locked = none → f.entered = [] → (doReturn e (T.setTop f) acts (some (.int z))).1 = T.setFrames fs) : Steps p.tables e below (T.setTop (mkF m pc Ls (.int z :: rest))) (T.setFrames fs) := by
  have hn : narrow .boolean (.int z) = .int z := by show Value.int (z &&& 1) = _; rw [hz]
  exact retOut X hx hret hn (Or.inl ⟨rfl, Or.inr (Or.inl rfl), z, rfl⟩) hd hl
theorem retJ (X : Stand p l e R s m args below meth c T locs cells slots) (hx : p.tables.exec = Jvm.exec) {pc : Nat} {Ls : Array Slot} {z : Int64} {rest : List Value} (hret : meth.sig.returnType = some .long) (hd : decode c.code pc = .ok (.lreturn, 1)) {fs : List Frame}
    (hl : ∀ (f : JFrame) (acts : List Action), f.method = m → f.locked = none → f.entered = [] → (doReturn e (T.setTop f) acts (some (.long z))).1 = T.setFrames fs) : Steps p.tables e below (T.setTop (mkF m pc Ls (.long z :: rest))) (T.setFrames fs) :=
  retOut X hx hret rfl (Or.inr (Or.inl ⟨rfl, rfl, z, rfl⟩)) hd hl
theorem retA (X : Stand p l e R s m args below meth c T locs cells slots) (hx : p.tables.exec = Jvm.exec) {pc : Nat} {Ls : Array Slot} {a : Addr} {rest : List Value} {t : FieldType} (ht : t.isReference = true) (hn : narrow t (.ref a) = .ref a) (hret : meth.sig.returnType = some t) (hd : decode c.code pc = .ok (.areturn, 1)) {fs : List Frame}
    (hl : ∀ (f : JFrame) (acts : List Action), f.method = m → f.locked = none → f.entered = [] → (doReturn e (T.setTop f) acts (some (.ref a))).1 = T.setFrames fs) : Steps p.tables e below (T.setTop (mkF m pc Ls (.ref a :: rest))) (T.setFrames fs) :=
  retOut X hx hret hn (Or.inr (Or.inr (Or.inr (Or.inr ⟨rfl, ht, rfl⟩)))) hd hl
theorem newPk {Z : State} {a0 : Array Value} {h : Heap} (X : Stand p l e R s m args below meth c T locs cells slots) (hx : p.tables.exec = Jvm.exec) (hZ : Z.Warmed39 s.vm) {aty : ArrayType} (w : (Cond.arrayClass (newarray.typeOf aty)).before a0 Z = true) (eT : T.heap = h) {g : JFrame} (hg : g.method = m)
    (hd : decode c.code g.pc = .ok (.newarray aty, 2)) {n : Int32} {rest : List Value} (hs : g.stack = .int n :: rest) (hn : ¬ n < 0) {cap : Nat} (hcap : n.toNatClampNeg ≤ cap) (hb : cap * 8 ≤ 536870912) (hc : cells + 1 ≤ R.cells) (hl : slots + cap ≤ R.slots) :
    ∃ T' h' cA, Stand p l e R s m args below meth c T' locs (cells + 1) (slots + cap) ∧ T'.heap = h' ∧ Ext h h' ∧ Arr Z h' h.size (newA cA (newarray.typeOf aty) n) (newarray.typeOf aty) ∧ Z.vm.findClass ("[" ++ (newarray.typeOf aty).toString) = some cA ∧
      ∀ target, Steps p.tables e below (T'.setTop { g with pc := g.pc + 2, stack := .ref h.size :: rest }) target → Steps p.tables e below (T.setTop g) target := by
  have hw8 : componentBytes (newarray.typeOf aty) ≤ 8 := by cases aty <;> decide
  obtain ⟨cA, kA, comp, f1, f2, f3, X', st⟩ := X.newarrayPrim hx (mvA hZ w) hg hd hs hn (Nat.le_trans (Nat.mul_le_mul hcap hw8) hb) hc (by omega)
  subst eT
  have f0 : Z.vm.findClass ("[" ++ (newarray.typeOf aty).toString) = some cA := by rw [← hZ.alike.findClass]; exact f1
  obtain ⟨kZ, z1, -⟩ := Vm.findClass_spec f0
  obtain ⟨k', z2, z3⟩ := hZ.alike.2.2 _ _ z1
  have ek : kA = k' := Option.some.inj (f2.symm.trans z2)
  have hq : kZ.kind = .array comp (newarray.typeOf aty) := by rw [← f3, ek, z3]
  refine ⟨_, _, cA, X'.more (Nat.le_refl _) (by omega), rfl, ext_of fun a ha => ?_, ⟨?_, ⟨fun q => by simp [newA], kZ, z1, comp, hq⟩, by simp [newA]⟩, f0, st⟩
  · show (T.heap.push _)[a]? = _
    rw [Array.getElem?_push_lt ha, Array.getElem?_eq_getElem ha]
  · show (T.heap.push _)[T.heap.size]? = _
    simp [newA]
theorem selPriv {s : State} {args : Array Value} {C : String} {y y0 : MethodName} (hsel : (Cond.selects C y0 y0).before args s = true) (hcls : y0.cls = y.cls) (hpriv : s.PrivateAt y) (hinst : (Cond.instanceMethod y).before args s = true) (hy : y.cls ≠ "java/lang/invoke/MethodHandle" ∧ y.cls ≠ "java/lang/invoke/VarHandle") : (Cond.selects y.cls y y).before args s = true := by
  obtain ⟨mk, meth, hnamed, hm, -, -⟩ := Cond.instanceMethod_spec hinst
  have hc := findClass_of_methodNamed hnamed
  obtain ⟨_, _, m2, -, -, q3, -, kP, hkP, hkPi⟩ := Cond.selects_spec hsel
  have h0 := findClass_of_methodNamed q3
  rw [hcls] at h0
  have e : mk.cls = m2.cls := Option.some.inj (hc.symm.trans h0)
  exact selects_self_of_private hc (by rw [e]; exact hkP) hkPi hpriv hinst hy
theorem insA {Z : State} {h : Heap} {a : Addr} {k : ClassId} {ty : FieldType} {z : Int32} {vs : List Value} {d : Value} {K : String} (F : Arv Z h a k ty z vs d) (hk : Z.vm.findClass K = some k) : Ins Z h a K true := by
  obtain ⟨c, A, q, -⟩ := F
  exact ⟨c, k, A.1, hk, by simp [A.plain, q, Vm.assignable_self]⟩
theorem lswHit {g : JFrame} {target : State} (X : Stand p l e R s m args below meth c T locs cells slots) (hx : p.tables.exec = Jvm.exec) (hg : g.method = m) {pc0 pc' : Nat} (hpc : g.pc = pc0) {k : Int32} {rest : List Value} {dflt : Int} {pairs : Array (Int × Int)} {len : Nat}
    (hd : decode c.code g.pc = .ok (.lookupswitch dflt pairs, len)) (hs : g.stack = .int k :: rest) (hsort : (pairs.toList.zip (pairs.toList.drop 1)).all (fun (a, next) => a.1 < next.1) = true) {a off : Int} (hf : pairs.find? (·.1 == k.toInt) = some (a, off)) (ho : 0 ≤ (pc0 : Int) + off) (hp : ((pc0 : Int) + off).toNat = pc')
    (hr : Steps p.tables e below (T.setTop { g with pc := pc', stack := rest }) target) : Steps p.tables e below (T.setTop g) target := by
  subst hpc hp
  exact X.lookupswitchHit hx hg hs hd hsort hf ho _ hr
theorem lswMiss {g : JFrame} {target : State} (X : Stand p l e R s m args below meth c T locs cells slots) (hx : p.tables.exec = Jvm.exec) (hg : g.method = m) {pc0 pc' : Nat} (hpc : g.pc = pc0) {k : Int32} {rest : List Value} {dflt : Int} {pairs : Array (Int × Int)} {len : Nat}
    (hd : decode c.code g.pc = .ok (.lookupswitch dflt pairs, len)) (hs : g.stack = .int k :: rest) (hsort : (pairs.toList.zip (pairs.toList.drop 1)).all (fun (a, next) => a.1 < next.1) = true) (hf : pairs.find? (·.1 == k.toInt) = none) (ho : 0 ≤ (pc0 : Int) + dflt) (hp : ((pc0 : Int) + dflt).toNat = pc')
    (hr : Steps p.tables e below (T.setTop { g with pc := pc', stack := rest }) target) : Steps p.tables e below (T.setTop g) target := by
  subst hpc hp
  exact X.lookupswitchMiss hx hg hs hd hsort hf ho _ hr
end New
end Jvm.RoadKit
namespace Jvm.Pilot.@@N@@
open Jvm Jvm.ClassFile Sem Op Lib Jvm.Free Jvm.Stand Jvm.LawKit Jvm.RoadKit Bundle Jvm.Pilot.@@N@@.Jvm.D
theorem d8_0 : decode jdk_33_method_40_code 0 = .ok (.iload_n 0, 1) := by decide +kernel
theorem d8_1 : decode jdk_33_method_40_code 1 = .ok (.iload_n 1, 1) := by decide +kernel
theorem d8_2 : decode jdk_33_method_40_code 2 = .ok (.if_icmp .ge 7, 3) := by decide +kernel
theorem d8_5 : decode jdk_33_method_40_code 5 = .ok (.iconst (-1), 1) := by decide +kernel
theorem d8_6 : decode jdk_33_method_40_code 6 = .ok (.goto 13, 3) := by decide +kernel
theorem d8_19 : decode jdk_33_method_40_code 19 = .ok (.ireturn, 1) := by decide +kernel
theorem d8_9 : decode jdk_33_method_40_code 9 = .ok (.iload_n 0, 1) := by decide +kernel
theorem d8_10 : decode jdk_33_method_40_code 10 = .ok (.iload_n 1, 1) := by decide +kernel
theorem d8_11 : decode jdk_33_method_40_code 11 = .ok (.if_icmp .ne 7, 3) := by decide +kernel
theorem d8_14 : decode jdk_33_method_40_code 14 = .ok (.iconst 0, 1) := by decide +kernel
theorem d8_15 : decode jdk_33_method_40_code 15 = .ok (.goto 4, 3) := by decide +kernel
theorem d8_18 : decode jdk_33_method_40_code 18 = .ok (.iconst 1, 1) := by decide +kernel
theorem pn_0 : plainName "java/lang/Integer" = true := by first | (simp [plainName, overriddenIn]; done) | decide +kernel
theorem ef_rm8 (m : MethodId) (p0 : Int32) (p1 : Int32) : entryFrame m #[(.int p0), (.int p1)] 2 = mkF m 0 #[.val (.int p0), .val (.int p1)] [] := by first | (simp [entryFrame, mkF, argsToLocals, Value.category]; done) | rfl
def f_cmp (p0 : Int32) (p1 : Int32) : Int32 := (if p0 < p1 then (-1 : Int32) else (if p0 = p1 then (0 : Int32) else (1 : Int32)))
def Q_rm8 (Z : State) (p0 : Int32) (p1 : Int32) (h0 : Heap) (n0 : Nat) (v : Option Value) (h : Heap) (L : List Loc) : Prop := v = some (.int (f_cmp p0 p1)) ∧ Fr n0 L ∧ h = h0
set_option maxRecDepth 65536 in
set_option maxHeartbeats 40000000 in
theorem rm8 (l : Launch) (Z : State) (aw : Array Value) (hw : ∀ d ∈ tables_1, d.before aw Z = true) (ws : List Jvm.Cond) (p0 : Int32) (p1 : Int32) (h0 : Heap) (n0 : Nat) (Z0 : n0 ≤ h0.size) :
    MetFree l (⟨"java/lang/Integer", "compare", "(II)I"⟩ : MethodName) (head1 (Jvm.Cond.code (⟨"java/lang/Integer", "compare", "(II)I"⟩ : MethodName) jdk_33_method_40_code 2 (some .int) :: ws) ({ frames := 0, cells := 0, slots := 0, locals := 0 } : Room)) (fun a U => a = #[(.int p0), (.int p1)] ∧ Z.Warmed39 U.vm ∧ U.heap = h0) (fun _ _ _ _ _ => True) (fun _ U o U' => ∃ v L, o = .returned v ∧ Q_rm8 Z p0 p1 h0 n0 v U'.heap L ∧ FrameEnd U o U' L ({ frames := 0, cells := 0, slots := 0, locals := 0 } : Room).cells ({ frames := 0, cells := 0, slots := 0, locals := 0 } : Room).slots) := by
  refine MetFree.of_bodySF (plainFor_of_name pn_0) hisR ?_
  intro p e s m args below meth c s₁ Bd hml0 hP hK
  obtain ⟨rfl, hZ, hh⟩ := hP
  have hx := Bd.exec
  have hby := Bd.bytes
  have hml : c.maxLocals = 2 := hml0
  have hown : s.vm.findClass "java/lang/Integer" = some m.cls := findClass_of_methodNamed Bd.named
  have hnm := (name_of_methodNamed Bd.named Bd.method).1
  have X0 : Stand p l e ({ frames := 0, cells := 0, slots := 0, locals := 0 } : Room) s m #[(.int p0), (.int p1)] below meth c s₁ [] 0 0 := Stand.of_body Bd
  have e0 : s₁.heap = h0 := by rw [← hh, Bd.state]; rfl
  have N0 := Fr.nil n0
  have pre0 : ∀ t, Steps p.tables e below (s₁.setTop (mkF m 0 #[.val (.int p0), .val (.int p1)] [])) t → Steps p.tables e below (s₁.setTop (entryFrame m #[(.int p0), (.int p1)] 2)) t := fun t k => castTop (ef_rm8 m p0 p1) k
  have pre101 : ∀ t, Steps p.tables e below (s₁.setTop (mkF m 2 #[.val (.int p0), .val (.int p1)] [(.int p1), (.int p0)])) t → Steps p.tables e below (s₁.setTop (entryFrame m #[(.int p0), (.int p1)] 2)) t := fun t k => by
    refine pre0 t ?_
    show Steps p.tables e below (s₁.setTop (mkF m 0 #[.val (.int p0), .val (.int p1)] [])) _
    refine XS.iloadN X0.here hx rfl (hb hby d8_0) rfl ?_
    show Steps p.tables e below (s₁.setTop (mkF m 1 #[.val (.int p0), .val (.int p1)] [(.int p0)])) _
    refine XS.iloadN X0.here hx rfl (hb hby d8_1) rfl ?_
    exact k
  by_cases c102 : p0 < p1
  ·
    obtain ⟨fs, hr, hrun, hended, hW, hsame⟩ := X0.leave (v := some (.int (-1 : Int32))) (fun h => by rw [Bd.returns] at h; cases h)
    refine ⟨_, _, pre101 _ ?_, hrun, hended, _, _, rfl, ?_, ⟨_, rfl⟩, hW, hsame.mono (by decide) (by decide)⟩
    ·
      show Steps p.tables e below (s₁.setTop (mkF m 2 #[.val (.int p0), .val (.int p1)] [(.int p1), (.int p0)])) _
      refine XS.icmpNo X0.here hx rfl (hb hby d8_2) rfl (tlt c102).2.1 ?_
      show Steps p.tables e below (s₁.setTop (mkF m 5 #[.val (.int p0), .val (.int p1)] [])) _
      refine XS.iconst X0.here hx rfl (hb hby d8_5) ?_
      show Steps p.tables e below (s₁.setTop (mkF m 6 #[.val (.int p0), .val (.int p1)] [(.int (-1 : Int32))])) _
      refine XS.goto X0.here hx rfl (pc0 := 6) (pc' := 19) rfl (hb hby d8_6) (by decide) (by decide) ?_
      show Steps p.tables e below (s₁.setTop (mkF m 19 #[.val (.int p0), .val (.int p1)] [(.int (-1 : Int32))])) _
      exact retI X0 hx Bd.returns (hb hby d8_19) hr
    ·
      show Q_rm8 Z p0 p1 h0 n0 _ s₁.heap _
      rw [e0]
      exact ⟨by simp only [f_cmp, if_pos c102], N0, rfl⟩
  ·
    have pre103 : ∀ t, Steps p.tables e below (s₁.setTop (mkF m 11 #[.val (.int p0), .val (.int p1)] [(.int p1), (.int p0)])) t → Steps p.tables e below (s₁.setTop (entryFrame m #[(.int p0), (.int p1)] 2)) t := fun t k => by
      refine pre101 t ?_
      show Steps p.tables e below (s₁.setTop (mkF m 2 #[.val (.int p0), .val (.int p1)] [(.int p1), (.int p0)])) _
      refine XS.icmpYes X0.here hx rfl (pc0 := 2) (pc' := 9) rfl (hb hby d8_2) rfl (flt c102).2.1 (by decide) (by decide) ?_
      show Steps p.tables e below (s₁.setTop (mkF m 9 #[.val (.int p0), .val (.int p1)] [])) _
      refine XS.iloadN X0.here hx rfl (hb hby d8_9) rfl ?_
      show Steps p.tables e below (s₁.setTop (mkF m 10 #[.val (.int p0), .val (.int p1)] [(.int p0)])) _
      refine XS.iloadN X0.here hx rfl (hb hby d8_10) rfl ?_
      exact k
    by_cases c104 : p0 = p1
    ·
      obtain ⟨fs, hr, hrun, hended, hW, hsame⟩ := X0.leave (v := some (.int (0 : Int32))) (fun h => by rw [Bd.returns] at h; cases h)
      refine ⟨_, _, pre103 _ ?_, hrun, hended, _, _, rfl, ?_, ⟨_, rfl⟩, hW, hsame.mono (by decide) (by decide)⟩
      ·
        show Steps p.tables e below (s₁.setTop (mkF m 11 #[.val (.int p0), .val (.int p1)] [(.int p1), (.int p0)])) _
        refine XS.icmpNo X0.here hx rfl (hb hby d8_11) rfl (teq c104).2 ?_
        show Steps p.tables e below (s₁.setTop (mkF m 14 #[.val (.int p0), .val (.int p1)] [])) _
        refine XS.iconst X0.here hx rfl (hb hby d8_14) ?_
        show Steps p.tables e below (s₁.setTop (mkF m 15 #[.val (.int p0), .val (.int p1)] [(.int (0 : Int32))])) _
        refine XS.goto X0.here hx rfl (pc0 := 15) (pc' := 19) rfl (hb hby d8_15) (by decide) (by decide) ?_
        show Steps p.tables e below (s₁.setTop (mkF m 19 #[.val (.int p0), .val (.int p1)] [(.int (0 : Int32))])) _
        exact retI X0 hx Bd.returns (hb hby d8_19) hr
      ·
        show Q_rm8 Z p0 p1 h0 n0 _ s₁.heap _
        rw [e0]
        exact ⟨by simp only [f_cmp, if_neg c102, if_pos c104], N0, rfl⟩
    ·
      obtain ⟨fs, hr, hrun, hended, hW, hsame⟩ := X0.leave (v := some (.int (1 : Int32))) (fun h => by rw [Bd.returns] at h; cases h)
      refine ⟨_, _, pre103 _ ?_, hrun, hended, _, _, rfl, ?_, ⟨_, rfl⟩, hW, hsame.mono (by decide) (by decide)⟩
      ·
        show Steps p.tables e below (s₁.setTop (mkF m 11 #[.val (.int p0), .val (.int p1)] [(.int p1), (.int p0)])) _
        refine XS.icmpYes X0.here hx rfl (pc0 := 11) (pc' := 18) rfl (hb hby d8_11) rfl (feq c104).2 (by decide) (by decide) ?_
        show Steps p.tables e below (s₁.setTop (mkF m 18 #[.val (.int p0), .val (.int p1)] [])) _
        refine XS.iconst X0.here hx rfl (hb hby d8_18) ?_
        show Steps p.tables e below (s₁.setTop (mkF m 19 #[.val (.int p0), .val (.int p1)] [(.int (1 : Int32))])) _
        exact retI X0 hx Bd.returns (hb hby d8_19) hr
      ·
        show Q_rm8 Z p0 p1 h0 n0 _ s₁.heap _
        rw [e0]
        exact ⟨by simp only [f_cmp, if_neg c102, if_neg c104], N0, rfl⟩
theorem d7_0 : decode jdk_33_method_41_code 0 = .ok (.iload_n 0, 1) := by decide +kernel
theorem d7_1 : decode jdk_33_method_41_code 1 = .ok (.ldc 127, 2) := by decide +kernel
theorem d7_3 : decode jdk_33_method_41_code 3 = .ok (.iadd, 1) := by decide +kernel
theorem d7_4 : decode jdk_33_method_41_code 4 = .ok (.iload_n 1, 1) := by decide +kernel
theorem d7_5 : decode jdk_33_method_41_code 5 = .ok (.ldc 127, 2) := by decide +kernel
theorem d7_7 : decode jdk_33_method_41_code 7 = .ok (.iadd, 1) := by decide +kernel
theorem pd_0 : parseMethodDescriptor "(II)I" = some ⟨[.int, .int], some .int⟩ := by decide +kernel
theorem d7_8 : decode jdk_33_method_41_code 8 = .ok (.invokestatic 259, 3) := by decide +kernel
theorem d7_11 : decode jdk_33_method_41_code 11 = .ok (.ireturn, 1) := by decide +kernel
theorem ef_rm7 (m : MethodId) (p0 : Int32) (p1 : Int32) : entryFrame m #[(.int p0), (.int p1)] 2 = mkF m 0 #[.val (.int p0), .val (.int p1)] [] := by first | (simp [entryFrame, mkF, argsToLocals, Value.category]; done) | rfl
def f_cu (p0 : Int32) (p1 : Int32) : Int32 := (f_cmp (p0 + (-2147483648 : Int32)) (p1 + (-2147483648 : Int32)))
def Q_rm7 (Z : State) (p0 : Int32) (p1 : Int32) (h0 : Heap) (n0 : Nat) (v : Option Value) (h : Heap) (L : List Loc) : Prop := v = some (.int (f_cu p0 p1)) ∧ Fr n0 L ∧ h = h0
set_option maxRecDepth 65536 in
set_option maxHeartbeats 40000000 in
theorem rm7 (l : Launch) (Z : State) (aw : Array Value) (hw : ∀ d ∈ tables_1, d.before aw Z = true) (ws : List Jvm.Cond) (p0 : Int32) (p1 : Int32) (h0 : Heap) (n0 : Nat) (Z0 : n0 ≤ h0.size) :
    MetFree l (⟨"java/lang/Integer", "compareUnsigned", "(II)I"⟩ : MethodName) (head1 (Jvm.Cond.code (⟨"java/lang/Integer", "compareUnsigned", "(II)I"⟩ : MethodName) jdk_33_method_41_code 2 (some .int) :: ws) ({ frames := 1, cells := 0, slots := 0, locals := 13 } : Room)) (fun a U => a = #[(.int p0), (.int p1)] ∧ Z.Warmed39 U.vm ∧ U.heap = h0) (fun _ _ _ _ _ => True) (fun _ U o U' => ∃ v L, o = .returned v ∧ Q_rm7 Z p0 p1 h0 n0 v U'.heap L ∧ FrameEnd U o U' L ({ frames := 1, cells := 0, slots := 0, locals := 13 } : Room).cells ({ frames := 1, cells := 0, slots := 0, locals := 13 } : Room).slots) := by
  refine MetFree.of_bodySF (plainFor_of_name pn_0) hisR ?_
  intro p e s m args below meth c s₁ Bd hml0 hP hK
  obtain ⟨rfl, hZ, hh⟩ := hP
  have hx := Bd.exec
  have hby := Bd.bytes
  have hml : c.maxLocals = 2 := hml0
  have hown : s.vm.findClass "java/lang/Integer" = some m.cls := findClass_of_methodNamed Bd.named
  have hnm := (name_of_methodNamed Bd.named Bd.method).1
  have X0 : Stand p l e ({ frames := 1, cells := 0, slots := 0, locals := 13 } : Room) s m #[(.int p0), (.int p1)] below meth c s₁ [] 0 0 := Stand.of_body Bd
  have e0 : s₁.heap = h0 := by rw [← hh, Bd.state]; rfl
  have N0 := Fr.nil n0
  have pre0 : ∀ t, Steps p.tables e below (s₁.setTop (mkF m 0 #[.val (.int p0), .val (.int p1)] [])) t → Steps p.tables e below (s₁.setTop (entryFrame m #[(.int p0), (.int p1)] 2)) t := fun t k => castTop (ef_rm7 m p0 p1) k
  obtain ⟨_, _, ⟨T105, L105, k105, n105⟩, -, X105, ⟨Lc105, hQ105, l105, y105, z105⟩, st105⟩ := Jvm.LawKit.callS X0 hx (y := (⟨"java/lang/Integer", "compare", "(II)I"⟩ : MethodName)) hown (mvT hZ (hw _ (List.mem_of_getElem? (i := 44) rfl))) (mvT hZ (hw _ (List.mem_of_getElem? (i := 45) rfl))) (mvT hZ (hw _ (List.mem_of_getElem? (i := 41) rfl))) (mvT hZ (hw _ (List.mem_of_getElem? (i := 46) rfl))) (by decide) (backOf (W := 0) (rm8 l Z aw hw [] (p0 + (-2147483648 : Int32)) (p1 + (-2147483648 : Int32)) h0 n0 Z0) hZ (hw _ (List.mem_of_getElem? (i := 46) rfl)) (hw _ (List.mem_of_getElem? (i := 41) rfl)) (by decide) (by decide)) (g := (mkF m 8 #[.val (.int p0), .val (.int p1)] [(.int (p1 + (-2147483648 : Int32))), (.int (p0 + (-2147483648 : Int32)))])) rfl (by rw [hml]; rfl) (argsL := [(.int (p0 + (-2147483648 : Int32))), (.int (p1 + (-2147483648 : Int32)))]) (rest := []) (lenOf pd_0 rfl) rfl (by show 2 * 0 + _ ≤ _; exact Nat.le_of_eq rfl) (hb hby d7_8) (fun _ _ => ⟨rfl, e0, (by decide : 0 + 0 ≤ _), (by decide : 0 + 0 ≤ _)⟩)
  dsimp only [Pt.U, Pt.locs, Pt.cells, Pt.slots] at X105 l105 y105 z105 st105 hQ105
  replace l105 := l105.symm; replace y105 := y105.symm; replace z105 := z105.symm; subst l105 y105 z105
  obtain ⟨rfl, N105q, e105⟩ := hQ105
  have N105 := Fr.app N0 N105q
  obtain ⟨fs, hr, hrun, hended, hW, hsame⟩ := X105.leave (v := some (.int (f_cmp (p0 + (-2147483648 : Int32)) (p1 + (-2147483648 : Int32))))) (fun h => by rw [Bd.returns] at h; cases h)
  refine ⟨_, _, pre0 _ ?_, hrun, hended, _, _, rfl, ?_, ⟨_, rfl⟩, hW, hsame.mono (by decide) (by decide)⟩
  ·
    show Steps p.tables e below (s₁.setTop (mkF m 0 #[.val (.int p0), .val (.int p1)] [])) _
    refine XS.iloadN X0.here hx rfl (hb hby d7_0) rfl ?_
    show Steps p.tables e below (s₁.setTop (mkF m 1 #[.val (.int p0), .val (.int p1)] [(.int p0)])) _
    refine X0.ldcInt hx hown (mvT hZ (hw _ (List.mem_of_getElem? (i := 43) rfl))) (g := (mkF m 1 #[.val (.int p0), .val (.int p1)] [(.int p0)])) rfl (hb hby d7_1) _ ?_
    show Steps p.tables e below (s₁.setTop (mkF m 3 #[.val (.int p0), .val (.int p1)] [(.int (-2147483648 : Int32)), (.int p0)])) _
    refine XS.iadd X0.here hx rfl (hb hby d7_3) rfl ?_
    show Steps p.tables e below (s₁.setTop (mkF m 4 #[.val (.int p0), .val (.int p1)] [(.int (p0 + (-2147483648 : Int32)))])) _
    refine XS.iloadN X0.here hx rfl (hb hby d7_4) rfl ?_
    show Steps p.tables e below (s₁.setTop (mkF m 5 #[.val (.int p0), .val (.int p1)] [(.int p1), (.int (p0 + (-2147483648 : Int32)))])) _
    refine X0.ldcInt hx hown (mvT hZ (hw _ (List.mem_of_getElem? (i := 43) rfl))) (g := (mkF m 5 #[.val (.int p0), .val (.int p1)] [(.int p1), (.int (p0 + (-2147483648 : Int32)))])) rfl (hb hby d7_5) _ ?_
    show Steps p.tables e below (s₁.setTop (mkF m 7 #[.val (.int p0), .val (.int p1)] [(.int (-2147483648 : Int32)), (.int p1), (.int (p0 + (-2147483648 : Int32)))])) _
    refine XS.iadd X0.here hx rfl (hb hby d7_7) rfl ?_
    show Steps p.tables e below (s₁.setTop (mkF m 8 #[.val (.int p0), .val (.int p1)] [(.int (p1 + (-2147483648 : Int32))), (.int (p0 + (-2147483648 : Int32)))])) _
    refine st105 _ ?_
    show Steps p.tables e below (T105.setTop (mkF m 11 #[.val (.int p0), .val (.int p1)] [(.int (f_cmp (p0 + (-2147483648 : Int32)) (p1 + (-2147483648 : Int32))))])) _
    exact retI X105 hx Bd.returns (hb hby d7_11) hr
  ·
    show Q_rm7 Z p0 p1 h0 n0 _ T105.heap _
    rw [e105]
    exact ⟨by simp only [f_cu], N105, rfl⟩
theorem d1_0 : decode method_3_code 0 = .ok (.bipush 12, 2) := by decide +kernel
theorem d1_2 : decode method_3_code 2 = .ok (.newarray .byte, 2) := by decide +kernel
theorem d1_4 : decode method_3_code 4 = .ok (.astore_n 3, 1) := by decide +kernel
theorem d1_5 : decode method_3_code 5 = .ok (.aload_n 3, 1) := by decide +kernel
theorem d1_6 : decode method_3_code 6 = .ok (.iconst 0, 1) := by decide +kernel
theorem d1_7 : decode method_3_code 7 = .ok (.lload_n 0, 1) := by decide +kernel
theorem d1_8 : decode method_3_code 8 = .ok (.l2i, 1) := by decide +kernel
theorem d1_9 : decode method_3_code 9 = .ok (.i2b, 1) := by decide +kernel
theorem d1_10 : decode method_3_code 10 = .ok (.bastore, 1) := by decide +kernel
theorem d1_11 : decode method_3_code 11 = .ok (.aload_n 3, 1) := by decide +kernel
theorem d1_12 : decode method_3_code 12 = .ok (.iconst 1, 1) := by decide +kernel
theorem d1_13 : decode method_3_code 13 = .ok (.lload_n 0, 1) := by decide +kernel
theorem d1_14 : decode method_3_code 14 = .ok (.bipush 8, 2) := by decide +kernel
theorem d1_16 : decode method_3_code 16 = .ok (.lushr, 1) := by decide +kernel
theorem d1_17 : decode method_3_code 17 = .ok (.l2i, 1) := by decide +kernel
theorem d1_18 : decode method_3_code 18 = .ok (.i2b, 1) := by decide +kernel
theorem d1_19 : decode method_3_code 19 = .ok (.bastore, 1) := by decide +kernel
theorem d1_20 : decode method_3_code 20 = .ok (.aload_n 3, 1) := by decide +kernel
theorem d1_21 : decode method_3_code 21 = .ok (.iconst 2, 1) := by decide +kernel
theorem d1_22 : decode method_3_code 22 = .ok (.lload_n 0, 1) := by decide +kernel
theorem d1_23 : decode method_3_code 23 = .ok (.bipush 16, 2) := by decide +kernel
theorem d1_25 : decode method_3_code 25 = .ok (.lushr, 1) := by decide +kernel
theorem d1_26 : decode method_3_code 26 = .ok (.l2i, 1) := by decide +kernel
theorem d1_27 : decode method_3_code 27 = .ok (.i2b, 1) := by decide +kernel
theorem d1_28 : decode method_3_code 28 = .ok (.bastore, 1) := by decide +kernel
theorem d1_29 : decode method_3_code 29 = .ok (.aload_n 3, 1) := by decide +kernel
theorem d1_30 : decode method_3_code 30 = .ok (.iconst 3, 1) := by decide +kernel
theorem d1_31 : decode method_3_code 31 = .ok (.lload_n 0, 1) := by decide +kernel
theorem d1_32 : decode method_3_code 32 = .ok (.bipush 24, 2) := by decide +kernel
theorem d1_34 : decode method_3_code 34 = .ok (.lushr, 1) := by decide +kernel
theorem d1_35 : decode method_3_code 35 = .ok (.l2i, 1) := by decide +kernel
theorem d1_36 : decode method_3_code 36 = .ok (.i2b, 1) := by decide +kernel
theorem d1_37 : decode method_3_code 37 = .ok (.bastore, 1) := by decide +kernel
theorem d1_38 : decode method_3_code 38 = .ok (.aload_n 3, 1) := by decide +kernel
theorem d1_39 : decode method_3_code 39 = .ok (.iconst 4, 1) := by decide +kernel
theorem d1_40 : decode method_3_code 40 = .ok (.lload_n 0, 1) := by decide +kernel
theorem d1_41 : decode method_3_code 41 = .ok (.bipush 32, 2) := by decide +kernel
theorem d1_43 : decode method_3_code 43 = .ok (.lushr, 1) := by decide +kernel
theorem d1_44 : decode method_3_code 44 = .ok (.l2i, 1) := by decide +kernel
theorem d1_45 : decode method_3_code 45 = .ok (.i2b, 1) := by decide +kernel
theorem d1_46 : decode method_3_code 46 = .ok (.bastore, 1) := by decide +kernel
theorem d1_47 : decode method_3_code 47 = .ok (.aload_n 3, 1) := by decide +kernel
theorem d1_48 : decode method_3_code 48 = .ok (.iconst 5, 1) := by decide +kernel
theorem d1_49 : decode method_3_code 49 = .ok (.lload_n 0, 1) := by decide +kernel
theorem d1_50 : decode method_3_code 50 = .ok (.bipush 40, 2) := by decide +kernel
theorem d1_52 : decode method_3_code 52 = .ok (.lushr, 1) := by decide +kernel
theorem d1_53 : decode method_3_code 53 = .ok (.l2i, 1) := by decide +kernel
theorem d1_54 : decode method_3_code 54 = .ok (.i2b, 1) := by decide +kernel
theorem d1_55 : decode method_3_code 55 = .ok (.bastore, 1) := by decide +kernel
theorem d1_56 : decode method_3_code 56 = .ok (.aload_n 3, 1) := by decide +kernel
theorem d1_57 : decode method_3_code 57 = .ok (.bipush 6, 2) := by decide +kernel
theorem d1_59 : decode method_3_code 59 = .ok (.lload_n 0, 1) := by decide +kernel
theorem d1_60 : decode method_3_code 60 = .ok (.bipush 48, 2) := by decide +kernel
theorem d1_62 : decode method_3_code 62 = .ok (.lushr, 1) := by decide +kernel
theorem d1_63 : decode method_3_code 63 = .ok (.l2i, 1) := by decide +kernel
theorem d1_64 : decode method_3_code 64 = .ok (.i2b, 1) := by decide +kernel
theorem d1_65 : decode method_3_code 65 = .ok (.bastore, 1) := by decide +kernel
theorem d1_66 : decode method_3_code 66 = .ok (.aload_n 3, 1) := by decide +kernel
theorem d1_67 : decode method_3_code 67 = .ok (.bipush 7, 2) := by decide +kernel
theorem d1_69 : decode method_3_code 69 = .ok (.lload_n 0, 1) := by decide +kernel
theorem d1_70 : decode method_3_code 70 = .ok (.bipush 56, 2) := by decide +kernel
theorem d1_72 : decode method_3_code 72 = .ok (.lushr, 1) := by decide +kernel
theorem d1_73 : decode method_3_code 73 = .ok (.l2i, 1) := by decide +kernel
theorem d1_74 : decode method_3_code 74 = .ok (.i2b, 1) := by decide +kernel
theorem d1_75 : decode method_3_code 75 = .ok (.bastore, 1) := by decide +kernel
theorem d1_76 : decode method_3_code 76 = .ok (.aload_n 3, 1) := by decide +kernel
theorem d1_77 : decode method_3_code 77 = .ok (.bipush 8, 2) := by decide +kernel
theorem d1_79 : decode method_3_code 79 = .ok (.iload_n 2, 1) := by decide +kernel
theorem d1_80 : decode method_3_code 80 = .ok (.i2b, 1) := by decide +kernel
theorem d1_81 : decode method_3_code 81 = .ok (.bastore, 1) := by decide +kernel
theorem d1_82 : decode method_3_code 82 = .ok (.aload_n 3, 1) := by decide +kernel
theorem d1_83 : decode method_3_code 83 = .ok (.bipush 9, 2) := by decide +kernel
theorem d1_85 : decode method_3_code 85 = .ok (.iload_n 2, 1) := by decide +kernel
theorem d1_86 : decode method_3_code 86 = .ok (.bipush 8, 2) := by decide +kernel
theorem d1_88 : decode method_3_code 88 = .ok (.iushr, 1) := by decide +kernel
theorem d1_89 : decode method_3_code 89 = .ok (.i2b, 1) := by decide +kernel
theorem d1_90 : decode method_3_code 90 = .ok (.bastore, 1) := by decide +kernel
theorem d1_91 : decode method_3_code 91 = .ok (.aload_n 3, 1) := by decide +kernel
theorem d1_92 : decode method_3_code 92 = .ok (.bipush 10, 2) := by decide +kernel
theorem d1_94 : decode method_3_code 94 = .ok (.iload_n 2, 1) := by decide +kernel
theorem d1_95 : decode method_3_code 95 = .ok (.bipush 16, 2) := by decide +kernel
theorem d1_97 : decode method_3_code 97 = .ok (.iushr, 1) := by decide +kernel
theorem d1_98 : decode method_3_code 98 = .ok (.i2b, 1) := by decide +kernel
theorem d1_99 : decode method_3_code 99 = .ok (.bastore, 1) := by decide +kernel
theorem d1_100 : decode method_3_code 100 = .ok (.aload_n 3, 1) := by decide +kernel
theorem d1_101 : decode method_3_code 101 = .ok (.bipush 11, 2) := by decide +kernel
theorem d1_103 : decode method_3_code 103 = .ok (.iload_n 2, 1) := by decide +kernel
theorem d1_104 : decode method_3_code 104 = .ok (.bipush 24, 2) := by decide +kernel
theorem d1_106 : decode method_3_code 106 = .ok (.iushr, 1) := by decide +kernel
theorem d1_107 : decode method_3_code 107 = .ok (.i2b, 1) := by decide +kernel
theorem d1_108 : decode method_3_code 108 = .ok (.bastore, 1) := by decide +kernel
theorem d1_109 : decode method_3_code 109 = .ok (.aload_n 3, 1) := by decide +kernel
theorem d1_110 : decode method_3_code 110 = .ok (.areturn, 1) := by decide +kernel
theorem pn_1 : plainName "com/example/sheafworks/sheafworks/storage/DecoderAtEndPinLaw" = true := by first | (simp [plainName, overriddenIn]; done) | decide +kernel
theorem ef_rm1 (m : MethodId) (q0 : Int64) (p1 : Int32) : entryFrame m #[(.long q0), (.int p1)] 4 = mkF m 0 #[.val (.long q0), .second, .val (.int p1), .unset] [] := by first | (simp [entryFrame, mkF, argsToLocals, Value.category]; done) | rfl
def Q_rm1 (Z : State) (q0 : Int64) (p1 : Int32) (h0 : Heap) (n0 : Nat) (v : Option Value) (h : Heap) (L : List Loc) : Prop := ∃ b : Addr, ∃ kb : ClassId, ∃ v0 : Int32, ∃ v1 : Int32, ∃ v2 : Int32, ∃ v3 : Int32, ∃ v4 : Int32, ∃ v5 : Int32, ∃ v6 : Int32, ∃ v7 : Int32, ∃ v8 : Int32, ∃ v9 : Int32, ∃ v10 : Int32, ∃ v11 : Int32, v = some (.ref b) ∧ Fr n0 L ∧ Keep h0 h [] ∧ h0.size ≤ b ∧ Arv Z h b kb .byte (12 : Int32) [(.int v0), (.int v1), (.int v2), (.int v3), (.int v4), (.int v5), (.int v6), (.int v7), (.int v8), (.int v9), (.int v10), (.int v11)] (.int (0 : Int32))
set_option maxRecDepth 65536 in
set_option maxHeartbeats 40000000 in
theorem rm1 (l : Launch) (Z : State) (aw : Array Value) (hw : ∀ d ∈ tables_1, d.before aw Z = true) (ws : List Jvm.Cond) (q0 : Int64) (p1 : Int32) (h0 : Heap) (n0 : Nat) (Z0 : n0 ≤ h0.size) :
    MetFree l (⟨"com/example/sheafworks/sheafworks/storage/DecoderAtEndPinLaw", "bytes", "(JI)[B"⟩ : MethodName) (head1 (Jvm.Cond.code (⟨"com/example/sheafworks/sheafworks/storage/DecoderAtEndPinLaw", "bytes", "(JI)[B"⟩ : MethodName) method_3_code 4 (some (.array .byte)) :: ws) ({ frames := 0, cells := 1, slots := 12, locals := 0 } : Room)) (fun a U => a = #[(.long q0), (.int p1)] ∧ Z.Warmed39 U.vm ∧ U.heap = h0) (fun _ _ _ _ _ => True) (fun _ U o U' => ∃ v L, o = .returned v ∧ Q_rm1 Z q0 p1 h0 n0 v U'.heap L ∧ FrameEnd U o U' L ({ frames := 0, cells := 1, slots := 12, locals := 0 } : Room).cells ({ frames := 0, cells := 1, slots := 12, locals := 0 } : Room).slots) := by
  refine MetFree.of_bodySF (plainFor_of_name pn_1) hisR ?_
  intro p e s m args below meth c s₁ Bd hml0 hP hK
  obtain ⟨rfl, hZ, hh⟩ := hP
  have hx := Bd.exec
  have hby := Bd.bytes
  have hml : c.maxLocals = 4 := hml0
  have hown : s.vm.findClass "com/example/sheafworks/sheafworks/storage/DecoderAtEndPinLaw" = some m.cls := findClass_of_methodNamed Bd.named
  have hnm := (name_of_methodNamed Bd.named Bd.method).1
  have X0 : Stand p l e ({ frames := 0, cells := 1, slots := 12, locals := 0 } : Room) s m #[(.long q0), (.int p1)] below meth c s₁ [] 0 0 := Stand.of_body Bd
  have e0 : s₁.heap = h0 := by rw [← hh, Bd.state]; rfl
  have N0 := Fr.nil n0
  have pre0 : ∀ t, Steps p.tables e below (s₁.setTop (mkF m 0 #[.val (.long q0), .second, .val (.int p1), .unset] [])) t → Steps p.tables e below (s₁.setTop (entryFrame m #[(.long q0), (.int p1)] 4)) t := fun t k => castTop (ef_rm1 m q0 p1) k
  have KC0 : Keep h0 h0 [] := Keep.refl h0 []
  obtain ⟨T106, h106, k106, X106, e106, E106, A106, kc106, st106⟩ := newPk X0 hx hZ (hw _ (List.mem_of_getElem? (i := 5) rfl)) e0 (g := (mkF m 2 #[.val (.long q0), .second, .val (.int p1), .unset] [(.int (12 : Int32))])) rfl (hb hby d1_2) rfl (by decide) (cap := 12) (by decide) (by decide) (by decide) (by decide)
  obtain ⟨b106, g106⟩ : ∃ z_, z_ = h0.size := ⟨_, rfl⟩
  rw [← g106] at A106 st106
  have gn107 : n0 ≤ b106 := Nat.le_trans Z0 (Nat.le_of_eq g106.symm)
  have sz108 : h0.size ≤ b106 := Nat.le_trans KC0.1 (Nat.le_of_eq g106.symm)
  have Z109 : n0 ≤ h106.size := Nat.le_trans Z0 E106.1
  have K110 : Keep h0 h106 [] := Keep.ext KC0 E106
  have f111 : Arv Z h106 b106 k106 .byte (12 : Int32) [(.int (0 : Int32)), (.int (0 : Int32)), (.int (0 : Int32)), (.int (0 : Int32)), (.int (0 : Int32)), (.int (0 : Int32)), (.int (0 : Int32)), (.int (0 : Int32)), (.int (0 : Int32)), (.int (0 : Int32)), (.int (0 : Int32)), (.int (0 : Int32))] (.int (0 : Int32)) := (Arv.new A106 (by decide)).pad (pad_rep [] (.int (0 : Int32)) 12)
  obtain ⟨cl112, Ar112, q112, S112, N112, H112, G112⟩ := id f111
  have hin112 : ¬ ((0 : Int32) < 0 ∨ cl112.slots.size ≤ ((0 : Int32)).toNatClampNeg) := inb_of S112 ⟨by decide, by decide⟩
  obtain ⟨T112, h112, X112, e112, W112, st112⟩ := stB X106 hx hZ e106 Ar112 (j := (0 : Int32)) hin112 (g := (mkF m 10 #[.val (.long q0), .second, .val (.int p1), .val (.ref b106)] [(.int ((q0.toInt32).toInt8.toInt32)), (.int (0 : Int32)), (.ref b106)])) rfl rfl (hb hby d1_10)
  have Z113 : n0 ≤ h112.size := Nat.le_trans Z109 (Keep.of_wr W112).1
  have K114 : Keep h0 h112 [] := Keep.wr K110 W112 (Or.inr sz108)
  have N115 := Fr.snoc X112 N0 gn107
  have f116 : Arv Z h112 b106 k106 .byte (12 : Int32) [(.int (nar .byte ((q0.toInt32).toInt8.toInt32))), (.int (0 : Int32)), (.int (0 : Int32)), (.int (0 : Int32)), (.int (0 : Int32)), (.int (0 : Int32)), (.int (0 : Int32)), (.int (0 : Int32)), (.int (0 : Int32)), (.int (0 : Int32)), (.int (0 : Int32)), (.int (0 : Int32))] (.int (0 : Int32)) := Arv.set Ar112 q112 S112 N112 H112 G112 (fits_nar_byte _) W112 0 rfl (Nat.le_of_ble_eq_true rfl)
  obtain ⟨cl117, Ar117, q117, S117, N117, H117, G117⟩ := id f116
  have hin117 : ¬ ((1 : Int32) < 0 ∨ cl117.slots.size ≤ ((1 : Int32)).toNatClampNeg) := inb_of S117 ⟨by decide, by decide⟩
  obtain ⟨T117, h117, X117, e117, W117, st117⟩ := stB X112 hx hZ e112 Ar117 (j := (1 : Int32)) hin117 (g := (mkF m 19 #[.val (.long q0), .second, .val (.int p1), .val (.ref b106)] [(.int ((((q0.toUInt64 >>> ((8 : Int32) &&& 0x3f).toInt64.toUInt64).toInt64).toInt32).toInt8.toInt32)), (.int (1 : Int32)), (.ref b106)])) rfl rfl (hb hby d1_19)
  have Z118 : n0 ≤ h117.size := Nat.le_trans Z113 (Keep.of_wr W117).1
  have K119 : Keep h0 h117 [] := Keep.wr K114 W117 (Or.inr sz108)
  have N120 := Fr.snoc X117 N115 gn107
  have f121 : Arv Z h117 b106 k106 .byte (12 : Int32) [(.int (nar .byte ((q0.toInt32).toInt8.toInt32))), (.int (nar .byte ((((q0.toUInt64 >>> ((8 : Int32) &&& 0x3f).toInt64.toUInt64).toInt64).toInt32).toInt8.toInt32))), (.int (0 : Int32)), (.int (0 : Int32)), (.int (0 : Int32)), (.int (0 : Int32)), (.int (0 : Int32)), (.int (0 : Int32)), (.int (0 : Int32)), (.int (0 : Int32)), (.int (0 : Int32)), (.int (0 : Int32))] (.int (0 : Int32)) := Arv.set Ar117 q117 S117 N117 H117 G117 (fits_nar_byte _) W117 1 rfl (Nat.le_of_ble_eq_true rfl)
  obtain ⟨cl122, Ar122, q122, S122, N122, H122, G122⟩ := id f121
  have hin122 : ¬ ((2 : Int32) < 0 ∨ cl122.slots.size ≤ ((2 : Int32)).toNatClampNeg) := inb_of S122 ⟨by decide, by decide⟩
  obtain ⟨T122, h122, X122, e122, W122, st122⟩ := stB X117 hx hZ e117 Ar122 (j := (2 : Int32)) hin122 (g := (mkF m 28 #[.val (.long q0), .second, .val (.int p1), .val (.ref b106)] [(.int ((((q0.toUInt64 >>> ((16 : Int32) &&& 0x3f).toInt64.toUInt64).toInt64).toInt32).toInt8.toInt32)), (.int (2 : Int32)), (.ref b106)])) rfl rfl (hb hby d1_28)
  have Z123 : n0 ≤ h122.size := Nat.le_trans Z118 (Keep.of_wr W122).1
  have K124 : Keep h0 h122 [] := Keep.wr K119 W122 (Or.inr sz108)
  have N125 := Fr.snoc X122 N120 gn107
  have f126 : Arv Z h122 b106 k106 .byte (12 : Int32) [(.int (nar .byte ((q0.toInt32).toInt8.toInt32))), (.int (nar .byte ((((q0.toUInt64 >>> ((8 : Int32) &&& 0x3f).toInt64.toUInt64).toInt64).toInt32).toInt8.toInt32))), (.int (nar .byte ((((q0.toUInt64 >>> ((16 : Int32) &&& 0x3f).toInt64.toUInt64).toInt64).toInt32).toInt8.toInt32))), (.int (0 : Int32)), (.int (0 : Int32)), (.int (0 : Int32)), (.int (0 : Int32)), (.int (0 : Int32)), (.int (0 : Int32)), (.int (0 : Int32)), (.int (0 : Int32)), (.int (0 : Int32))] (.int (0 : Int32)) := Arv.set Ar122 q122 S122 N122 H122 G122 (fits_nar_byte _) W122 2 rfl (Nat.le_of_ble_eq_true rfl)
  obtain ⟨cl127, Ar127, q127, S127, N127, H127, G127⟩ := id f126
  have hin127 : ¬ ((3 : Int32) < 0 ∨ cl127.slots.size ≤ ((3 : Int32)).toNatClampNeg) := inb_of S127 ⟨by decide, by decide⟩
  obtain ⟨T127, h127, X127, e127, W127, st127⟩ := stB X122 hx hZ e122 Ar127 (j := (3 : Int32)) hin127 (g := (mkF m 37 #[.val (.long q0), .second, .val (.int p1), .val (.ref b106)] [(.int ((((q0.toUInt64 >>> ((24 : Int32) &&& 0x3f).toInt64.toUInt64).toInt64).toInt32).toInt8.toInt32)), (.int (3 : Int32)), (.ref b106)])) rfl rfl (hb hby d1_37)
  have Z128 : n0 ≤ h127.size := Nat.le_trans Z123 (Keep.of_wr W127).1
  have K129 : Keep h0 h127 [] := Keep.wr K124 W127 (Or.inr sz108)
  have N130 := Fr.snoc X127 N125 gn107
  have f131 : Arv Z h127 b106 k106 .byte (12 : Int32) [(.int (nar .byte ((q0.toInt32).toInt8.toInt32))), (.int (nar .byte ((((q0.toUInt64 >>> ((8 : Int32) &&& 0x3f).toInt64.toUInt64).toInt64).toInt32).toInt8.toInt32))), (.int (nar .byte ((((q0.toUInt64 >>> ((16 : Int32) &&& 0x3f).toInt64.toUInt64).toInt64).toInt32).toInt8.toInt32))), (.int (nar .byte ((((q0.toUInt64 >>> ((24 : Int32) &&& 0x3f).toInt64.toUInt64).toInt64).toInt32).toInt8.toInt32))), (.int (0 : Int32)), (.int (0 : Int32)), (.int (0 : Int32)), (.int (0 : Int32)), (.int (0 : Int32)), (.int (0 : Int32)), (.int (0 : Int32)), (.int (0 : Int32))] (.int (0 : Int32)) := Arv.set Ar127 q127 S127 N127 H127 G127 (fits_nar_byte _) W127 3 rfl (Nat.le_of_ble_eq_true rfl)
  obtain ⟨cl132, Ar132, q132, S132, N132, H132, G132⟩ := id f131
  have hin132 : ¬ ((4 : Int32) < 0 ∨ cl132.slots.size ≤ ((4 : Int32)).toNatClampNeg) := inb_of S132 ⟨by decide, by decide⟩
  obtain ⟨T132, h132, X132, e132, W132, st132⟩ := stB X127 hx hZ e127 Ar132 (j := (4 : Int32)) hin132 (g := (mkF m 46 #[.val (.long q0), .second, .val (.int p1), .val (.ref b106)] [(.int ((((q0.toUInt64 >>> ((32 : Int32) &&& 0x3f).toInt64.toUInt64).toInt64).toInt32).toInt8.toInt32)), (.int (4 : Int32)), (.ref b106)])) rfl rfl (hb hby d1_46)
  have Z133 : n0 ≤ h132.size := Nat.le_trans Z128 (Keep.of_wr W132).1
  have K134 : Keep h0 h132 [] := Keep.wr K129 W132 (Or.inr sz108)
  have N135 := Fr.snoc X132 N130 gn107
  have f136 : Arv Z h132 b106 k106 .byte (12 : Int32) [(.int (nar .byte ((q0.toInt32).toInt8.toInt32))), (.int (nar .byte ((((q0.toUInt64 >>> ((8 : Int32) &&& 0x3f).toInt64.toUInt64).toInt64).toInt32).toInt8.toInt32))), (.int (nar .byte ((((q0.toUInt64 >>> ((16 : Int32) &&& 0x3f).toInt64.toUInt64).toInt64).toInt32).toInt8.toInt32))), (.int (nar .byte ((((q0.toUInt64 >>> ((24 : Int32) &&& 0x3f).toInt64.toUInt64).toInt64).toInt32).toInt8.toInt32))), (.int (nar .byte ((((q0.toUInt64 >>> ((32 : Int32) &&& 0x3f).toInt64.toUInt64).toInt64).toInt32).toInt8.toInt32))), (.int (0 : Int32)), (.int (0 : Int32)), (.int (0 : Int32)), (.int (0 : Int32)), (.int (0 : Int32)), (.int (0 : Int32)), (.int (0 : Int32))] (.int (0 : Int32)) := Arv.set Ar132 q132 S132 N132 H132 G132 (fits_nar_byte _) W132 4 rfl (Nat.le_of_ble_eq_true rfl)
  obtain ⟨cl137, Ar137, q137, S137, N137, H137, G137⟩ := id f136
  have hin137 : ¬ ((5 : Int32) < 0 ∨ cl137.slots.size ≤ ((5 : Int32)).toNatClampNeg) := inb_of S137 ⟨by decide, by decide⟩
  obtain ⟨T137, h137, X137, e137, W137, st137⟩ := stB X132 hx hZ e132 Ar137 (j := (5 : Int32)) hin137 (g := (mkF m 55 #[.val (.long q0), .second, .val (.int p1), .val (.ref b106)] [(.int ((((q0.toUInt64 >>> ((40 : Int32) &&& 0x3f).toInt64.toUInt64).toInt64).toInt32).toInt8.toInt32)), (.int (5 : Int32)), (.ref b106)])) rfl rfl (hb hby d1_55)
  have Z138 : n0 ≤ h137.size := Nat.le_trans Z133 (Keep.of_wr W137).1
  have K139 : Keep h0 h137 [] := Keep.wr K134 W137 (Or.inr sz108)
  have N140 := Fr.snoc X137 N135 gn107
  have f141 : Arv Z h137 b106 k106 .byte (12 : Int32) [(.int (nar .byte ((q0.toInt32).toInt8.toInt32))), (.int (nar .byte ((((q0.toUInt64 >>> ((8 : Int32) &&& 0x3f).toInt64.toUInt64).toInt64).toInt32).toInt8.toInt32))), (.int (nar .byte ((((q0.toUInt64 >>> ((16 : Int32) &&& 0x3f).toInt64.toUInt64).toInt64).toInt32).toInt8.toInt32))), (.int (nar .byte ((((q0.toUInt64 >>> ((24 : Int32) &&& 0x3f).toInt64.toUInt64).toInt64).toInt32).toInt8.toInt32))), (.int (nar .byte ((((q0.toUInt64 >>> ((32 : Int32) &&& 0x3f).toInt64.toUInt64).toInt64).toInt32).toInt8.toInt32))), (.int (nar .byte ((((q0.toUInt64 >>> ((40 : Int32) &&& 0x3f).toInt64.toUInt64).toInt64).toInt32).toInt8.toInt32))), (.int (0 : Int32)), (.int (0 : Int32)), (.int (0 : Int32)), (.int (0 : Int32)), (.int (0 : Int32)), (.int (0 : Int32))] (.int (0 : Int32)) := Arv.set Ar137 q137 S137 N137 H137 G137 (fits_nar_byte _) W137 5 rfl (Nat.le_of_ble_eq_true rfl)
  obtain ⟨cl142, Ar142, q142, S142, N142, H142, G142⟩ := id f141
  have hin142 : ¬ ((6 : Int32) < 0 ∨ cl142.slots.size ≤ ((6 : Int32)).toNatClampNeg) := inb_of S142 ⟨by decide, by decide⟩
  obtain ⟨T142, h142, X142, e142, W142, st142⟩ := stB X137 hx hZ e137 Ar142 (j := (6 : Int32)) hin142 (g := (mkF m 65 #[.val (.long q0), .second, .val (.int p1), .val (.ref b106)] [(.int ((((q0.toUInt64 >>> ((48 : Int32) &&& 0x3f).toInt64.toUInt64).toInt64).toInt32).toInt8.toInt32)), (.int (6 : Int32)), (.ref b106)])) rfl rfl (hb hby d1_65)
  have Z143 : n0 ≤ h142.size := Nat.le_trans Z138 (Keep.of_wr W142).1
  have K144 : Keep h0 h142 [] := Keep.wr K139 W142 (Or.inr sz108)
  have N145 := Fr.snoc X142 N140 gn107
  have f146 : Arv Z h142 b106 k106 .byte (12 : Int32) [(.int (nar .byte ((q0.toInt32).toInt8.toInt32))), (.int (nar .byte ((((q0.toUInt64 >>> ((8 : Int32) &&& 0x3f).toInt64.toUInt64).toInt64).toInt32).toInt8.toInt32))), (.int (nar .byte ((((q0.toUInt64 >>> ((16 : Int32) &&& 0x3f).toInt64.toUInt64).toInt64).toInt32).toInt8.toInt32))), (.int (nar .byte ((((q0.toUInt64 >>> ((24 : Int32) &&& 0x3f).toInt64.toUInt64).toInt64).toInt32).toInt8.toInt32))), (.int (nar .byte ((((q0.toUInt64 >>> ((32 : Int32) &&& 0x3f).toInt64.toUInt64).toInt64).toInt32).toInt8.toInt32))), (.int (nar .byte ((((q0.toUInt64 >>> ((40 : Int32) &&& 0x3f).toInt64.toUInt64).toInt64).toInt32).toInt8.toInt32))), (.int (nar .byte ((((q0.toUInt64 >>> ((48 : Int32) &&& 0x3f).toInt64.toUInt64).toInt64).toInt32).toInt8.toInt32))), (.int (0 : Int32)), (.int (0 : Int32)), (.int (0 : Int32)), (.int (0 : Int32)), (.int (0 : Int32))] (.int (0 : Int32)) := Arv.set Ar142 q142 S142 N142 H142 G142 (fits_nar_byte _) W142 6 rfl (Nat.le_of_ble_eq_true rfl)
  obtain ⟨cl147, Ar147, q147, S147, N147, H147, G147⟩ := id f146
  have hin147 : ¬ ((7 : Int32) < 0 ∨ cl147.slots.size ≤ ((7 : Int32)).toNatClampNeg) := inb_of S147 ⟨by decide, by decide⟩
  obtain ⟨T147, h147, X147, e147, W147, st147⟩ := stB X142 hx hZ e142 Ar147 (j := (7 : Int32)) hin147 (g := (mkF m 75 #[.val (.long q0), .second, .val (.int p1), .val (.ref b106)] [(.int ((((q0.toUInt64 >>> ((56 : Int32) &&& 0x3f).toInt64.toUInt64).toInt64).toInt32).toInt8.toInt32)), (.int (7 : Int32)), (.ref b106)])) rfl rfl (hb hby d1_75)
  have Z148 : n0 ≤ h147.size := Nat.le_trans Z143 (Keep.of_wr W147).1
  have K149 : Keep h0 h147 [] := Keep.wr K144 W147 (Or.inr sz108)
  have N150 := Fr.snoc X147 N145 gn107
  have f151 : Arv Z h147 b106 k106 .byte (12 : Int32) [(.int (nar .byte ((q0.toInt32).toInt8.toInt32))), (.int (nar .byte ((((q0.toUInt64 >>> ((8 : Int32) &&& 0x3f).toInt64.toUInt64).toInt64).toInt32).toInt8.toInt32))), (.int (nar .byte ((((q0.toUInt64 >>> ((16 : Int32) &&& 0x3f).toInt64.toUInt64).toInt64).toInt32).toInt8.toInt32))), (.int (nar .byte ((((q0.toUInt64 >>> ((24 : Int32) &&& 0x3f).toInt64.toUInt64).toInt64).toInt32).toInt8.toInt32))), (.int (nar .byte ((((q0.toUInt64 >>> ((32 : Int32) &&& 0x3f).toInt64.toUInt64).toInt64).toInt32).toInt8.toInt32))), (.int (nar .byte ((((q0.toUInt64 >>> ((40 : Int32) &&& 0x3f).toInt64.toUInt64).toInt64).toInt32).toInt8.toInt32))), (.int (nar .byte ((((q0.toUInt64 >>> ((48 : Int32) &&& 0x3f).toInt64.toUInt64).toInt64).toInt32).toInt8.toInt32))), (.int (nar .byte ((((q0.toUInt64 >>> ((56 : Int32) &&& 0x3f).toInt64.toUInt64).toInt64).toInt32).toInt8.toInt32))), (.int (0 : Int32)), (.int (0 : Int32)), (.int (0 : Int32)), (.int (0 : Int32))] (.int (0 : Int32)) := Arv.set Ar147 q147 S147 N147 H147 G147 (fits_nar_byte _) W147 7 rfl (Nat.le_of_ble_eq_true rfl)
  obtain ⟨cl152, Ar152, q152, S152, N152, H152, G152⟩ := id f151
  have hin152 : ¬ ((8 : Int32) < 0 ∨ cl152.slots.size ≤ ((8 : Int32)).toNatClampNeg) := inb_of S152 ⟨by decide, by decide⟩
  obtain ⟨T152, h152, X152, e152, W152, st152⟩ := stB X147 hx hZ e147 Ar152 (j := (8 : Int32)) hin152 (g := (mkF m 81 #[.val (.long q0), .second, .val (.int p1), .val (.ref b106)] [(.int (p1.toInt8.toInt32)), (.int (8 : Int32)), (.ref b106)])) rfl rfl (hb hby d1_81)
  have Z153 : n0 ≤ h152.size := Nat.le_trans Z148 (Keep.of_wr W152).1
  have K154 : Keep h0 h152 [] := Keep.wr K149 W152 (Or.inr sz108)
  have N155 := Fr.snoc X152 N150 gn107
  have f156 : Arv Z h152 b106 k106 .byte (12 : Int32) [(.int (nar .byte ((q0.toInt32).toInt8.toInt32))), (.int (nar .byte ((((q0.toUInt64 >>> ((8 : Int32) &&& 0x3f).toInt64.toUInt64).toInt64).toInt32).toInt8.toInt32))), (.int (nar .byte ((((q0.toUInt64 >>> ((16 : Int32) &&& 0x3f).toInt64.toUInt64).toInt64).toInt32).toInt8.toInt32))), (.int (nar .byte ((((q0.toUInt64 >>> ((24 : Int32) &&& 0x3f).toInt64.toUInt64).toInt64).toInt32).toInt8.toInt32))), (.int (nar .byte ((((q0.toUInt64 >>> ((32 : Int32) &&& 0x3f).toInt64.toUInt64).toInt64).toInt32).toInt8.toInt32))), (.int (nar .byte ((((q0.toUInt64 >>> ((40 : Int32) &&& 0x3f).toInt64.toUInt64).toInt64).toInt32).toInt8.toInt32))), (.int (nar .byte ((((q0.toUInt64 >>> ((48 : Int32) &&& 0x3f).toInt64.toUInt64).toInt64).toInt32).toInt8.toInt32))), (.int (nar .byte ((((q0.toUInt64 >>> ((56 : Int32) &&& 0x3f).toInt64.toUInt64).toInt64).toInt32).toInt8.toInt32))), (.int (nar .byte (p1.toInt8.toInt32))), (.int (0 : Int32)), (.int (0 : Int32)), (.int (0 : Int32))] (.int (0 : Int32)) := Arv.set Ar152 q152 S152 N152 H152 G152 (fits_nar_byte _) W152 8 rfl (Nat.le_of_ble_eq_true rfl)
  obtain ⟨cl157, Ar157, q157, S157, N157, H157, G157⟩ := id f156
  have hin157 : ¬ ((9 : Int32) < 0 ∨ cl157.slots.size ≤ ((9 : Int32)).toNatClampNeg) := inb_of S157 ⟨by decide, by decide⟩
  obtain ⟨T157, h157, X157, e157, W157, st157⟩ := stB X152 hx hZ e152 Ar157 (j := (9 : Int32)) hin157 (g := (mkF m 90 #[.val (.long q0), .second, .val (.int p1), .val (.ref b106)] [(.int (((p1.toUInt32 >>> ((8 : Int32) &&& 31).toUInt32).toInt32).toInt8.toInt32)), (.int (9 : Int32)), (.ref b106)])) rfl rfl (hb hby d1_90)
  have Z158 : n0 ≤ h157.size := Nat.le_trans Z153 (Keep.of_wr W157).1
  have K159 : Keep h0 h157 [] := Keep.wr K154 W157 (Or.inr sz108)
  have N160 := Fr.snoc X157 N155 gn107
  have f161 : Arv Z h157 b106 k106 .byte (12 : Int32) [(.int (nar .byte ((q0.toInt32).toInt8.toInt32))), (.int (nar .byte ((((q0.toUInt64 >>> ((8 : Int32) &&& 0x3f).toInt64.toUInt64).toInt64).toInt32).toInt8.toInt32))), (.int (nar .byte ((((q0.toUInt64 >>> ((16 : Int32) &&& 0x3f).toInt64.toUInt64).toInt64).toInt32).toInt8.toInt32))), (.int (nar .byte ((((q0.toUInt64 >>> ((24 : Int32) &&& 0x3f).toInt64.toUInt64).toInt64).toInt32).toInt8.toInt32))), (.int (nar .byte ((((q0.toUInt64 >>> ((32 : Int32) &&& 0x3f).toInt64.toUInt64).toInt64).toInt32).toInt8.toInt32))), (.int (nar .byte ((((q0.toUInt64 >>> ((40 : Int32) &&& 0x3f).toInt64.toUInt64).toInt64).toInt32).toInt8.toInt32))), (.int (nar .byte ((((q0.toUInt64 >>> ((48 : Int32) &&& 0x3f).toInt64.toUInt64).toInt64).toInt32).toInt8.toInt32))), (.int (nar .byte ((((q0.toUInt64 >>> ((56 : Int32) &&& 0x3f).toInt64.toUInt64).toInt64).toInt32).toInt8.toInt32))), (.int (nar .byte (p1.toInt8.toInt32))), (.int (nar .byte (((p1.toUInt32 >>> ((8 : Int32) &&& 31).toUInt32).toInt32).toInt8.toInt32))), (.int (0 : Int32)), (.int (0 : Int32))] (.int (0 : Int32)) := Arv.set Ar157 q157 S157 N157 H157 G157 (fits_nar_byte _) W157 9 rfl (Nat.le_of_ble_eq_true rfl)
  obtain ⟨cl162, Ar162, q162, S162, N162, H162, G162⟩ := id f161
  have hin162 : ¬ ((10 : Int32) < 0 ∨ cl162.slots.size ≤ ((10 : Int32)).toNatClampNeg) := inb_of S162 ⟨by decide, by decide⟩
  obtain ⟨T162, h162, X162, e162, W162, st162⟩ := stB X157 hx hZ e157 Ar162 (j := (10 : Int32)) hin162 (g := (mkF m 99 #[.val (.long q0), .second, .val (.int p1), .val (.ref b106)] [(.int (((p1.toUInt32 >>> ((16 : Int32) &&& 31).toUInt32).toInt32).toInt8.toInt32)), (.int (10 : Int32)), (.ref b106)])) rfl rfl (hb hby d1_99)
  have Z163 : n0 ≤ h162.size := Nat.le_trans Z158 (Keep.of_wr W162).1
  have K164 : Keep h0 h162 [] := Keep.wr K159 W162 (Or.inr sz108)
  have N165 := Fr.snoc X162 N160 gn107
  have f166 : Arv Z h162 b106 k106 .byte (12 : Int32) [(.int (nar .byte ((q0.toInt32).toInt8.toInt32))), (.int (nar .byte ((((q0.toUInt64 >>> ((8 : Int32) &&& 0x3f).toInt64.toUInt64).toInt64).toInt32).toInt8.toInt32))), (.int (nar .byte ((((q0.toUInt64 >>> ((16 : Int32) &&& 0x3f).toInt64.toUInt64).toInt64).toInt32).toInt8.toInt32))), (.int (nar .byte ((((q0.toUInt64 >>> ((24 : Int32) &&& 0x3f).toInt64.toUInt64).toInt64).toInt32).toInt8.toInt32))), (.int (nar .byte ((((q0.toUInt64 >>> ((32 : Int32) &&& 0x3f).toInt64.toUInt64).toInt64).toInt32).toInt8.toInt32))), (.int (nar .byte ((((q0.toUInt64 >>> ((40 : Int32) &&& 0x3f).toInt64.toUInt64).toInt64).toInt32).toInt8.toInt32))), (.int (nar .byte ((((q0.toUInt64 >>> ((48 : Int32) &&& 0x3f).toInt64.toUInt64).toInt64).toInt32).toInt8.toInt32))), (.int (nar .byte ((((q0.toUInt64 >>> ((56 : Int32) &&& 0x3f).toInt64.toUInt64).toInt64).toInt32).toInt8.toInt32))), (.int (nar .byte (p1.toInt8.toInt32))), (.int (nar .byte (((p1.toUInt32 >>> ((8 : Int32) &&& 31).toUInt32).toInt32).toInt8.toInt32))), (.int (nar .byte (((p1.toUInt32 >>> ((16 : Int32) &&& 31).toUInt32).toInt32).toInt8.toInt32))), (.int (0 : Int32))] (.int (0 : Int32)) := Arv.set Ar162 q162 S162 N162 H162 G162 (fits_nar_byte _) W162 10 rfl (Nat.le_of_ble_eq_true rfl)
  obtain ⟨cl167, Ar167, q167, S167, N167, H167, G167⟩ := id f166
  have hin167 : ¬ ((11 : Int32) < 0 ∨ cl167.slots.size ≤ ((11 : Int32)).toNatClampNeg) := inb_of S167 ⟨by decide, by decide⟩
  obtain ⟨T167, h167, X167, e167, W167, st167⟩ := stB X162 hx hZ e162 Ar167 (j := (11 : Int32)) hin167 (g := (mkF m 108 #[.val (.long q0), .second, .val (.int p1), .val (.ref b106)] [(.int (((p1.toUInt32 >>> ((24 : Int32) &&& 31).toUInt32).toInt32).toInt8.toInt32)), (.int (11 : Int32)), (.ref b106)])) rfl rfl (hb hby d1_108)
  have Z168 : n0 ≤ h167.size := Nat.le_trans Z163 (Keep.of_wr W167).1
  have K169 : Keep h0 h167 [] := Keep.wr K164 W167 (Or.inr sz108)
  have N170 := Fr.snoc X167 N165 gn107
  have f171 : Arv Z h167 b106 k106 .byte (12 : Int32) [(.int (nar .byte ((q0.toInt32).toInt8.toInt32))), (.int (nar .byte ((((q0.toUInt64 >>> ((8 : Int32) &&& 0x3f).toInt64.toUInt64).toInt64).toInt32).toInt8.toInt32))), (.int (nar .byte ((((q0.toUInt64 >>> ((16 : Int32) &&& 0x3f).toInt64.toUInt64).toInt64).toInt32).toInt8.toInt32))), (.int (nar .byte ((((q0.toUInt64 >>> ((24 : Int32) &&& 0x3f).toInt64.toUInt64).toInt64).toInt32).toInt8.toInt32))), (.int (nar .byte ((((q0.toUInt64 >>> ((32 : Int32) &&& 0x3f).toInt64.toUInt64).toInt64).toInt32).toInt8.toInt32))), (.int (nar .byte ((((q0.toUInt64 >>> ((40 : Int32) &&& 0x3f).toInt64.toUInt64).toInt64).toInt32).toInt8.toInt32))), (.int (nar .byte ((((q0.toUInt64 >>> ((48 : Int32) &&& 0x3f).toInt64.toUInt64).toInt64).toInt32).toInt8.toInt32))), (.int (nar .byte ((((q0.toUInt64 >>> ((56 : Int32) &&& 0x3f).toInt64.toUInt64).toInt64).toInt32).toInt8.toInt32))), (.int (nar .byte (p1.toInt8.toInt32))), (.int (nar .byte (((p1.toUInt32 >>> ((8 : Int32) &&& 31).toUInt32).toInt32).toInt8.toInt32))), (.int (nar .byte (((p1.toUInt32 >>> ((16 : Int32) &&& 31).toUInt32).toInt32).toInt8.toInt32))), (.int (nar .byte (((p1.toUInt32 >>> ((24 : Int32) &&& 31).toUInt32).toInt32).toInt8.toInt32)))] (.int (0 : Int32)) := Arv.set Ar167 q167 S167 N167 H167 G167 (fits_nar_byte _) W167 11 rfl (Nat.le_of_ble_eq_true rfl)
  obtain ⟨fs, hr, hrun, hended, hW, hsame⟩ := X167.leave (v := some (.ref b106)) (fun h => by rw [Bd.returns] at h; cases h)
  refine ⟨_, _, pre0 _ ?_, hrun, hended, _, _, rfl, ?_, ⟨_, rfl⟩, hW, hsame.mono (by decide) (by decide)⟩
  ·
    show Steps p.tables e below (s₁.setTop (mkF m 0 #[.val (.long q0), .second, .val (.int p1), .unset] [])) _
    refine XS.bipush X0.here hx rfl (hb hby d1_0) ?_
    show Steps p.tables e below (s₁.setTop (mkF m 2 #[.val (.long q0), .second, .val (.int p1), .unset] [(.int (12 : Int32))])) _
    refine st106 _ ?_
    show Steps p.tables e below (T106.setTop (mkF m 4 #[.val (.long q0), .second, .val (.int p1), .unset] [(.ref b106)])) _
    refine XS.astoreN X106.here hx rfl (hb hby d1_4) rfl rfl (l' := #[.val (.long q0), .second, .val (.int p1), .val (.ref b106)]) rfl ?_
    show Steps p.tables e below (T106.setTop (mkF m 5 #[.val (.long q0), .second, .val (.int p1), .val (.ref b106)] [])) _
    refine XS.aloadN X106.here hx rfl (hb hby d1_5) rfl rfl ?_
    show Steps p.tables e below (T106.setTop (mkF m 6 #[.val (.long q0), .second, .val (.int p1), .val (.ref b106)] [(.ref b106)])) _
    refine XS.iconst X106.here hx rfl (hb hby d1_6) ?_
    show Steps p.tables e below (T106.setTop (mkF m 7 #[.val (.long q0), .second, .val (.int p1), .val (.ref b106)] [(.int (0 : Int32)), (.ref b106)])) _
    refine XS.lloadN X106.here hx rfl (hb hby d1_7) rfl ?_
    show Steps p.tables e below (T106.setTop (mkF m 8 #[.val (.long q0), .second, .val (.int p1), .val (.ref b106)] [(.long q0), (.int (0 : Int32)), (.ref b106)])) _
    refine XS.l2i X106.here hx rfl (hb hby d1_8) rfl ?_
    show Steps p.tables e below (T106.setTop (mkF m 9 #[.val (.long q0), .second, .val (.int p1), .val (.ref b106)] [(.int (q0.toInt32)), (.int (0 : Int32)), (.ref b106)])) _
    refine XS.i2b X106.here hx rfl (hb hby d1_9) rfl ?_
    show Steps p.tables e below (T106.setTop (mkF m 10 #[.val (.long q0), .second, .val (.int p1), .val (.ref b106)] [(.int ((q0.toInt32).toInt8.toInt32)), (.int (0 : Int32)), (.ref b106)])) _
    refine st112 _ ?_
    show Steps p.tables e below (T112.setTop (mkF m 11 #[.val (.long q0), .second, .val (.int p1), .val (.ref b106)] [])) _
    refine XS.aloadN X112.here hx rfl (hb hby d1_11) rfl rfl ?_
    show Steps p.tables e below (T112.setTop (mkF m 12 #[.val (.long q0), .second, .val (.int p1), .val (.ref b106)] [(.ref b106)])) _
    refine XS.iconst X112.here hx rfl (hb hby d1_12) ?_
    show Steps p.tables e below (T112.setTop (mkF m 13 #[.val (.long q0), .second, .val (.int p1), .val (.ref b106)] [(.int (1 : Int32)), (.ref b106)])) _
    refine XS.lloadN X112.here hx rfl (hb hby d1_13) rfl ?_
    show Steps p.tables e below (T112.setTop (mkF m 14 #[.val (.long q0), .second, .val (.int p1), .val (.ref b106)] [(.long q0), (.int (1 : Int32)), (.ref b106)])) _
    refine XS.bipush X112.here hx rfl (hb hby d1_14) ?_
    show Steps p.tables e below (T112.setTop (mkF m 16 #[.val (.long q0), .second, .val (.int p1), .val (.ref b106)] [(.int (8 : Int32)), (.long q0), (.int (1 : Int32)), (.ref b106)])) _
    refine XS.lushr X112.here hx rfl (hb hby d1_16) rfl ?_
    show Steps p.tables e below (T112.setTop (mkF m 17 #[.val (.long q0), .second, .val (.int p1), .val (.ref b106)] [(.long ((q0.toUInt64 >>> ((8 : Int32) &&& 0x3f).toInt64.toUInt64).toInt64)), (.int (1 : Int32)), (.ref b106)])) _
    refine XS.l2i X112.here hx rfl (hb hby d1_17) rfl ?_
    show Steps p.tables e below (T112.setTop (mkF m 18 #[.val (.long q0), .second, .val (.int p1), .val (.ref b106)] [(.int (((q0.toUInt64 >>> ((8 : Int32) &&& 0x3f).toInt64.toUInt64).toInt64).toInt32)), (.int (1 : Int32)), (.ref b106)])) _
    refine XS.i2b X112.here hx rfl (hb hby d1_18) rfl ?_
    show Steps p.tables e below (T112.setTop (mkF m 19 #[.val (.long q0), .second, .val (.int p1), .val (.ref b106)] [(.int ((((q0.toUInt64 >>> ((8 : Int32) &&& 0x3f).toInt64.toUInt64).toInt64).toInt32).toInt8.toInt32)), (.int (1 : Int32)), (.ref b106)])) _
    refine st117 _ ?_
    show Steps p.tables e below (T117.setTop (mkF m 20 #[.val (.long q0), .second, .val (.int p1), .val (.ref b106)] [])) _
    refine XS.aloadN X117.here hx rfl (hb hby d1_20) rfl rfl ?_
    show Steps p.tables e below (T117.setTop (mkF m 21 #[.val (.long q0), .second, .val (.int p1), .val (.ref b106)] [(.ref b106)])) _
    refine XS.iconst X117.here hx rfl (hb hby d1_21) ?_
    show Steps p.tables e below (T117.setTop (mkF m 22 #[.val (.long q0), .second, .val (.int p1), .val (.ref b106)] [(.int (2 : Int32)), (.ref b106)])) _
    refine XS.lloadN X117.here hx rfl (hb hby d1_22) rfl ?_
    show Steps p.tables e below (T117.setTop (mkF m 23 #[.val (.long q0), .second, .val (.int p1), .val (.ref b106)] [(.long q0), (.int (2 : Int32)), (.ref b106)])) _
    refine XS.bipush X117.here hx rfl (hb hby d1_23) ?_
    show Steps p.tables e below (T117.setTop (mkF m 25 #[.val (.long q0), .second, .val (.int p1), .val (.ref b106)] [(.int (16 : Int32)), (.long q0), (.int (2 : Int32)), (.ref b106)])) _
    refine XS.lushr X117.here hx rfl (hb hby d1_25) rfl ?_
    show Steps p.tables e below (T117.setTop (mkF m 26 #[.val (.long q0), .second, .val (.int p1), .val (.ref b106)] [(.long ((q0.toUInt64 >>> ((16 : Int32) &&& 0x3f).toInt64.toUInt64).toInt64)), (.int (2 : Int32)), (.ref b106)])) _
    refine XS.l2i X117.here hx rfl (hb hby d1_26) rfl ?_
    show Steps p.tables e below (T117.setTop (mkF m 27 #[.val (.long q0), .second, .val (.int p1), .val (.ref b106)] [(.int (((q0.toUInt64 >>> ((16 : Int32) &&& 0x3f).toInt64.toUInt64).toInt64).toInt32)), (.int (2 : Int32)), (.ref b106)])) _
    refine XS.i2b X117.here hx rfl (hb hby d1_27) rfl ?_
    show Steps p.tables e below (T117.setTop (mkF m 28 #[.val (.long q0), .second, .val (.int p1), .val (.ref b106)] [(.int ((((q0.toUInt64 >>> ((16 : Int32) &&& 0x3f).toInt64.toUInt64).toInt64).toInt32).toInt8.toInt32)), (.int (2 : Int32)), (.ref b106)])) _
    refine st122 _ ?_
    show Steps p.tables e below (T122.setTop (mkF m 29 #[.val (.long q0), .second, .val (.int p1), .val (.ref b106)] [])) _
    refine XS.aloadN X122.here hx rfl (hb hby d1_29) rfl rfl ?_
    show Steps p.tables e below (T122.setTop (mkF m 30 #[.val (.long q0), .second, .val (.int p1), .val (.ref b106)] [(.ref b106)])) _
    refine XS.iconst X122.here hx rfl (hb hby d1_30) ?_
    show Steps p.tables e below (T122.setTop (mkF m 31 #[.val (.long q0), .second, .val (.int p1), .val (.ref b106)] [(.int (3 : Int32)), (.ref b106)])) _
    refine XS.lloadN X122.here hx rfl (hb hby d1_31) rfl ?_
    show Steps p.tables e below (T122.setTop (mkF m 32 #[.val (.long q0), .second, .val (.int p1), .val (.ref b106)] [(.long q0), (.int (3 : Int32)), (.ref b106)])) _
    refine XS.bipush X122.here hx rfl (hb hby d1_32) ?_
    show Steps p.tables e below (T122.setTop (mkF m 34 #[.val (.long q0), .second, .val (.int p1), .val (.ref b106)] [(.int (24 : Int32)), (.long q0), (.int (3 : Int32)), (.ref b106)])) _
    refine XS.lushr X122.here hx rfl (hb hby d1_34) rfl ?_
    show Steps p.tables e below (T122.setTop (mkF m 35 #[.val (.long q0), .second, .val (.int p1), .val (.ref b106)] [(.long ((q0.toUInt64 >>> ((24 : Int32) &&& 0x3f).toInt64.toUInt64).toInt64)), (.int (3 : Int32)), (.ref b106)])) _
    refine XS.l2i X122.here hx rfl (hb hby d1_35) rfl ?_
    show Steps p.tables e below (T122.setTop (mkF m 36 #[.val (.long q0), .second, .val (.int p1), .val (.ref b106)] [(.int (((q0.toUInt64 >>> ((24 : Int32) &&& 0x3f).toInt64.toUInt64).toInt64).toInt32)), (.int (3 : Int32)), (.ref b106)])) _
    refine XS.i2b X122.here hx rfl (hb hby d1_36) rfl ?_
    show Steps p.tables e below (T122.setTop (mkF m 37 #[.val (.long q0), .second, .val (.int p1), .val (.ref b106)] [(.int ((((q0.toUInt64 >>> ((24 : Int32) &&& 0x3f).toInt64.toUInt64).toInt64).toInt32).toInt8.toInt32)), (.int (3 : Int32)), (.ref b106)])) _
    refine st127 _ ?_
    show Steps p.tables e below (T127.setTop (mkF m 38 #[.val (.long q0), .second, .val (.int p1), .val (.ref b106)] [])) _
    refine XS.aloadN X127.here hx rfl (hb hby d1_38) rfl rfl ?_
    show Steps p.tables e below (T127.setTop (mkF m 39 #[.val (.long q0), .second, .val (.int p1), .val (.ref b106)] [(.ref b106)])) _
    refine XS.iconst X127.here hx rfl (hb hby d1_39) ?_
    show Steps p.tables e below (T127.setTop (mkF m 40 #[.val (.long q0), .second, .val (.int p1), .val (.ref b106)] [(.int (4 : Int32)), (.ref b106)])) _
    refine XS.lloadN X127.here hx rfl (hb hby d1_40) rfl ?_
    show Steps p.tables e below (T127.setTop (mkF m 41 #[.val (.long q0), .second, .val (.int p1), .val (.ref b106)] [(.long q0), (.int (4 : Int32)), (.ref b106)])) _
    refine XS.bipush X127.here hx rfl (hb hby d1_41) ?_
    show Steps p.tables e below (T127.setTop (mkF m 43 #[.val (.long q0), .second, .val (.int p1), .val (.ref b106)] [(.int (32 : Int32)), (.long q0), (.int (4 : Int32)), (.ref b106)])) _
    refine XS.lushr X127.here hx rfl (hb hby d1_43) rfl ?_
    show Steps p.tables e below (T127.setTop (mkF m 44 #[.val (.long q0), .second, .val (.int p1), .val (.ref b106)] [(.long ((q0.toUInt64 >>> ((32 : Int32) &&& 0x3f).toInt64.toUInt64).toInt64)), (.int (4 : Int32)), (.ref b106)])) _
    refine XS.l2i X127.here hx rfl (hb hby d1_44) rfl ?_
    show Steps p.tables e below (T127.setTop (mkF m 45 #[.val (.long q0), .second, .val (.int p1), .val (.ref b106)] [(.int (((q0.toUInt64 >>> ((32 : Int32) &&& 0x3f).toInt64.toUInt64).toInt64).toInt32)), (.int (4 : Int32)), (.ref b106)])) _
    refine XS.i2b X127.here hx rfl (hb hby d1_45) rfl ?_
    show Steps p.tables e below (T127.setTop (mkF m 46 #[.val (.long q0), .second, .val (.int p1), .val (.ref b106)] [(.int ((((q0.toUInt64 >>> ((32 : Int32) &&& 0x3f).toInt64.toUInt64).toInt64).toInt32).toInt8.toInt32)), (.int (4 : Int32)), (.ref b106)])) _
    refine st132 _ ?_
    show Steps p.tables e below (T132.setTop (mkF m 47 #[.val (.long q0), .second, .val (.int p1), .val (.ref b106)] [])) _
    refine XS.aloadN X132.here hx rfl (hb hby d1_47) rfl rfl ?_
    show Steps p.tables e below (T132.setTop (mkF m 48 #[.val (.long q0), .second, .val (.int p1), .val (.ref b106)] [(.ref b106)])) _
    refine XS.iconst X132.here hx rfl (hb hby d1_48) ?_
    show Steps p.tables e below (T132.setTop (mkF m 49 #[.val (.long q0), .second, .val (.int p1), .val (.ref b106)] [(.int (5 : Int32)), (.ref b106)])) _
    refine XS.lloadN X132.here hx rfl (hb hby d1_49) rfl ?_
    show Steps p.tables e below (T132.setTop (mkF m 50 #[.val (.long q0), .second, .val (.int p1), .val (.ref b106)] [(.long q0), (.int (5 : Int32)), (.ref b106)])) _
    refine XS.bipush X132.here hx rfl (hb hby d1_50) ?_
    show Steps p.tables e below (T132.setTop (mkF m 52 #[.val (.long q0), .second, .val (.int p1), .val (.ref b106)] [(.int (40 : Int32)), (.long q0), (.int (5 : Int32)), (.ref b106)])) _
    refine XS.lushr X132.here hx rfl (hb hby d1_52) rfl ?_
    show Steps p.tables e below (T132.setTop (mkF m 53 #[.val (.long q0), .second, .val (.int p1), .val (.ref b106)] [(.long ((q0.toUInt64 >>> ((40 : Int32) &&& 0x3f).toInt64.toUInt64).toInt64)), (.int (5 : Int32)), (.ref b106)])) _
    refine XS.l2i X132.here hx rfl (hb hby d1_53) rfl ?_
    show Steps p.tables e below (T132.setTop (mkF m 54 #[.val (.long q0), .second, .val (.int p1), .val (.ref b106)] [(.int (((q0.toUInt64 >>> ((40 : Int32) &&& 0x3f).toInt64.toUInt64).toInt64).toInt32)), (.int (5 : Int32)), (.ref b106)])) _
    refine XS.i2b X132.here hx rfl (hb hby d1_54) rfl ?_
    show Steps p.tables e below (T132.setTop (mkF m 55 #[.val (.long q0), .second, .val (.int p1), .val (.ref b106)] [(.int ((((q0.toUInt64 >>> ((40 : Int32) &&& 0x3f).toInt64.toUInt64).toInt64).toInt32).toInt8.toInt32)), (.int (5 : Int32)), (.ref b106)])) _
    refine st137 _ ?_
    show Steps p.tables e below (T137.setTop (mkF m 56 #[.val (.long q0), .second, .val (.int p1), .val (.ref b106)] [])) _
    refine XS.aloadN X137.here hx rfl (hb hby d1_56) rfl rfl ?_
    show Steps p.tables e below (T137.setTop (mkF m 57 #[.val (.long q0), .second, .val (.int p1), .val (.ref b106)] [(.ref b106)])) _
    refine XS.bipush X137.here hx rfl (hb hby d1_57) ?_
    show Steps p.tables e below (T137.setTop (mkF m 59 #[.val (.long q0), .second, .val (.int p1), .val (.ref b106)] [(.int (6 : Int32)), (.ref b106)])) _
    refine XS.lloadN X137.here hx rfl (hb hby d1_59) rfl ?_
    show Steps p.tables e below (T137.setTop (mkF m 60 #[.val (.long q0), .second, .val (.int p1), .val (.ref b106)] [(.long q0), (.int (6 : Int32)), (.ref b106)])) _
    refine XS.bipush X137.here hx rfl (hb hby d1_60) ?_
    show Steps p.tables e below (T137.setTop (mkF m 62 #[.val (.long q0), .second, .val (.int p1), .val (.ref b106)] [(.int (48 : Int32)), (.long q0), (.int (6 : Int32)), (.ref b106)])) _
    refine XS.lushr X137.here hx rfl (hb hby d1_62) rfl ?_
    show Steps p.tables e below (T137.setTop (mkF m 63 #[.val (.long q0), .second, .val (.int p1), .val (.ref b106)] [(.long ((q0.toUInt64 >>> ((48 : Int32) &&& 0x3f).toInt64.toUInt64).toInt64)), (.int (6 : Int32)), (.ref b106)])) _
    refine XS.l2i X137.here hx rfl (hb hby d1_63) rfl ?_
    show Steps p.tables e below (T137.setTop (mkF m 64 #[.val (.long q0), .second, .val (.int p1), .val (.ref b106)] [(.int (((q0.toUInt64 >>> ((48 : Int32) &&& 0x3f).toInt64.toUInt64).toInt64).toInt32)), (.int (6 : Int32)), (.ref b106)])) _
    refine XS.i2b X137.here hx rfl (hb hby d1_64) rfl ?_
    show Steps p.tables e below (T137.setTop (mkF m 65 #[.val (.long q0), .second, .val (.int p1), .val (.ref b106)] [(.int ((((q0.toUInt64 >>> ((48 : Int32) &&& 0x3f).toInt64.toUInt64).toInt64).toInt32).toInt8.toInt32)), (.int (6 : Int32)), (.ref b106)])) _
    refine st142 _ ?_
    show Steps p.tables e below (T142.setTop (mkF m 66 #[.val (.long q0), .second, .val (.int p1), .val (.ref b106)] [])) _
    refine XS.aloadN X142.here hx rfl (hb hby d1_66) rfl rfl ?_
    show Steps p.tables e below (T142.setTop (mkF m 67 #[.val (.long q0), .second, .val (.int p1), .val (.ref b106)] [(.ref b106)])) _
    refine XS.bipush X142.here hx rfl (hb hby d1_67) ?_
    show Steps p.tables e below (T142.setTop (mkF m 69 #[.val (.long q0), .second, .val (.int p1), .val (.ref b106)] [(.int (7 : Int32)), (.ref b106)])) _
    refine XS.lloadN X142.here hx rfl (hb hby d1_69) rfl ?_
    show Steps p.tables e below (T142.setTop (mkF m 70 #[.val (.long q0), .second, .val (.int p1), .val (.ref b106)] [(.long q0), (.int (7 : Int32)), (.ref b106)])) _
    refine XS.bipush X142.here hx rfl (hb hby d1_70) ?_
    show Steps p.tables e below (T142.setTop (mkF m 72 #[.val (.long q0), .second, .val (.int p1), .val (.ref b106)] [(.int (56 : Int32)), (.long q0), (.int (7 : Int32)), (.ref b106)])) _
    refine XS.lushr X142.here hx rfl (hb hby d1_72) rfl ?_
    show Steps p.tables e below (T142.setTop (mkF m 73 #[.val (.long q0), .second, .val (.int p1), .val (.ref b106)] [(.long ((q0.toUInt64 >>> ((56 : Int32) &&& 0x3f).toInt64.toUInt64).toInt64)), (.int (7 : Int32)), (.ref b106)])) _
    refine XS.l2i X142.here hx rfl (hb hby d1_73) rfl ?_
    show Steps p.tables e below (T142.setTop (mkF m 74 #[.val (.long q0), .second, .val (.int p1), .val (.ref b106)] [(.int (((q0.toUInt64 >>> ((56 : Int32) &&& 0x3f).toInt64.toUInt64).toInt64).toInt32)), (.int (7 : Int32)), (.ref b106)])) _
    refine XS.i2b X142.here hx rfl (hb hby d1_74) rfl ?_
    show Steps p.tables e below (T142.setTop (mkF m 75 #[.val (.long q0), .second, .val (.int p1), .val (.ref b106)] [(.int ((((q0.toUInt64 >>> ((56 : Int32) &&& 0x3f).toInt64.toUInt64).toInt64).toInt32).toInt8.toInt32)), (.int (7 : Int32)), (.ref b106)])) _
    refine st147 _ ?_
    show Steps p.tables e below (T147.setTop (mkF m 76 #[.val (.long q0), .second, .val (.int p1), .val (.ref b106)] [])) _
    refine XS.aloadN X147.here hx rfl (hb hby d1_76) rfl rfl ?_
    show Steps p.tables e below (T147.setTop (mkF m 77 #[.val (.long q0), .second, .val (.int p1), .val (.ref b106)] [(.ref b106)])) _
    refine XS.bipush X147.here hx rfl (hb hby d1_77) ?_
    show Steps p.tables e below (T147.setTop (mkF m 79 #[.val (.long q0), .second, .val (.int p1), .val (.ref b106)] [(.int (8 : Int32)), (.ref b106)])) _
    refine XS.iloadN X147.here hx rfl (hb hby d1_79) rfl ?_
    show Steps p.tables e below (T147.setTop (mkF m 80 #[.val (.long q0), .second, .val (.int p1), .val (.ref b106)] [(.int p1), (.int (8 : Int32)), (.ref b106)])) _
    refine XS.i2b X147.here hx rfl (hb hby d1_80) rfl ?_
    show Steps p.tables e below (T147.setTop (mkF m 81 #[.val (.long q0), .second, .val (.int p1), .val (.ref b106)] [(.int (p1.toInt8.toInt32)), (.int (8 : Int32)), (.ref b106)])) _
    refine st152 _ ?_
    show Steps p.tables e below (T152.setTop (mkF m 82 #[.val (.long q0), .second, .val (.int p1), .val (.ref b106)] [])) _
    refine XS.aloadN X152.here hx rfl (hb hby d1_82) rfl rfl ?_
    show Steps p.tables e below (T152.setTop (mkF m 83 #[.val (.long q0), .second, .val (.int p1), .val (.ref b106)] [(.ref b106)])) _
    refine XS.bipush X152.here hx rfl (hb hby d1_83) ?_
    show Steps p.tables e below (T152.setTop (mkF m 85 #[.val (.long q0), .second, .val (.int p1), .val (.ref b106)] [(.int (9 : Int32)), (.ref b106)])) _
    refine XS.iloadN X152.here hx rfl (hb hby d1_85) rfl ?_
    show Steps p.tables e below (T152.setTop (mkF m 86 #[.val (.long q0), .second, .val (.int p1), .val (.ref b106)] [(.int p1), (.int (9 : Int32)), (.ref b106)])) _
    refine XS.bipush X152.here hx rfl (hb hby d1_86) ?_
    show Steps p.tables e below (T152.setTop (mkF m 88 #[.val (.long q0), .second, .val (.int p1), .val (.ref b106)] [(.int (8 : Int32)), (.int p1), (.int (9 : Int32)), (.ref b106)])) _
    refine XS.iushr X152.here hx rfl (hb hby d1_88) rfl ?_
    show Steps p.tables e below (T152.setTop (mkF m 89 #[.val (.long q0), .second, .val (.int p1), .val (.ref b106)] [(.int ((p1.toUInt32 >>> ((8 : Int32) &&& 31).toUInt32).toInt32)), (.int (9 : Int32)), (.ref b106)])) _
    refine XS.i2b X152.here hx rfl (hb hby d1_89) rfl ?_
    show Steps p.tables e below (T152.setTop (mkF m 90 #[.val (.long q0), .second, .val (.int p1), .val (.ref b106)] [(.int (((p1.toUInt32 >>> ((8 : Int32) &&& 31).toUInt32).toInt32).toInt8.toInt32)), (.int (9 : Int32)), (.ref b106)])) _
    refine st157 _ ?_
    show Steps p.tables e below (T157.setTop (mkF m 91 #[.val (.long q0), .second, .val (.int p1), .val (.ref b106)] [])) _
    refine XS.aloadN X157.here hx rfl (hb hby d1_91) rfl rfl ?_
    show Steps p.tables e below (T157.setTop (mkF m 92 #[.val (.long q0), .second, .val (.int p1), .val (.ref b106)] [(.ref b106)])) _
    refine XS.bipush X157.here hx rfl (hb hby d1_92) ?_
    show Steps p.tables e below (T157.setTop (mkF m 94 #[.val (.long q0), .second, .val (.int p1), .val (.ref b106)] [(.int (10 : Int32)), (.ref b106)])) _
    refine XS.iloadN X157.here hx rfl (hb hby d1_94) rfl ?_
    show Steps p.tables e below (T157.setTop (mkF m 95 #[.val (.long q0), .second, .val (.int p1), .val (.ref b106)] [(.int p1), (.int (10 : Int32)), (.ref b106)])) _
    refine XS.bipush X157.here hx rfl (hb hby d1_95) ?_
    show Steps p.tables e below (T157.setTop (mkF m 97 #[.val (.long q0), .second, .val (.int p1), .val (.ref b106)] [(.int (16 : Int32)), (.int p1), (.int (10 : Int32)), (.ref b106)])) _
    refine XS.iushr X157.here hx rfl (hb hby d1_97) rfl ?_
    show Steps p.tables e below (T157.setTop (mkF m 98 #[.val (.long q0), .second, .val (.int p1), .val (.ref b106)] [(.int ((p1.toUInt32 >>> ((16 : Int32) &&& 31).toUInt32).toInt32)), (.int (10 : Int32)), (.ref b106)])) _
    refine XS.i2b X157.here hx rfl (hb hby d1_98) rfl ?_
    show Steps p.tables e below (T157.setTop (mkF m 99 #[.val (.long q0), .second, .val (.int p1), .val (.ref b106)] [(.int (((p1.toUInt32 >>> ((16 : Int32) &&& 31).toUInt32).toInt32).toInt8.toInt32)), (.int (10 : Int32)), (.ref b106)])) _
    refine st162 _ ?_
    show Steps p.tables e below (T162.setTop (mkF m 100 #[.val (.long q0), .second, .val (.int p1), .val (.ref b106)] [])) _
    refine XS.aloadN X162.here hx rfl (hb hby d1_100) rfl rfl ?_
    show Steps p.tables e below (T162.setTop (mkF m 101 #[.val (.long q0), .second, .val (.int p1), .val (.ref b106)] [(.ref b106)])) _
    refine XS.bipush X162.here hx rfl (hb hby d1_101) ?_
    show Steps p.tables e below (T162.setTop (mkF m 103 #[.val (.long q0), .second, .val (.int p1), .val (.ref b106)] [(.int (11 : Int32)), (.ref b106)])) _
    refine XS.iloadN X162.here hx rfl (hb hby d1_103) rfl ?_
    show Steps p.tables e below (T162.setTop (mkF m 104 #[.val (.long q0), .second, .val (.int p1), .val (.ref b106)] [(.int p1), (.int (11 : Int32)), (.ref b106)])) _
    refine XS.bipush X162.here hx rfl (hb hby d1_104) ?_
    show Steps p.tables e below (T162.setTop (mkF m 106 #[.val (.long q0), .second, .val (.int p1), .val (.ref b106)] [(.int (24 : Int32)), (.int p1), (.int (11 : Int32)), (.ref b106)])) _
    refine XS.iushr X162.here hx rfl (hb hby d1_106) rfl ?_
    show Steps p.tables e below (T162.setTop (mkF m 107 #[.val (.long q0), .second, .val (.int p1), .val (.ref b106)] [(.int ((p1.toUInt32 >>> ((24 : Int32) &&& 31).toUInt32).toInt32)), (.int (11 : Int32)), (.ref b106)])) _
    refine XS.i2b X162.here hx rfl (hb hby d1_107) rfl ?_
    show Steps p.tables e below (T162.setTop (mkF m 108 #[.val (.long q0), .second, .val (.int p1), .val (.ref b106)] [(.int (((p1.toUInt32 >>> ((24 : Int32) &&& 31).toUInt32).toInt32).toInt8.toInt32)), (.int (11 : Int32)), (.ref b106)])) _
    refine st167 _ ?_
    show Steps p.tables e below (T167.setTop (mkF m 109 #[.val (.long q0), .second, .val (.int p1), .val (.ref b106)] [])) _
    refine XS.aloadN X167.here hx rfl (hb hby d1_109) rfl rfl ?_
    show Steps p.tables e below (T167.setTop (mkF m 110 #[.val (.long q0), .second, .val (.int p1), .val (.ref b106)] [(.ref b106)])) _
    exact retA X167 hx rfl rfl Bd.returns (hb hby d1_110) hr
  ·
    show Q_rm1 Z q0 p1 h0 n0 _ T167.heap _
    rw [e167]
    exact ⟨b106, k106, (nar .byte ((q0.toInt32).toInt8.toInt32)), (nar .byte ((((q0.toUInt64 >>> ((8 : Int32) &&& 0x3f).toInt64.toUInt64).toInt64).toInt32).toInt8.toInt32)), (nar .byte ((((q0.toUInt64 >>> ((16 : Int32) &&& 0x3f).toInt64.toUInt64).toInt64).toInt32).toInt8.toInt32)), (nar .byte ((((q0.toUInt64 >>> ((24 : Int32) &&& 0x3f).toInt64.toUInt64).toInt64).toInt32).toInt8.toInt32)), (nar .byte ((((q0.toUInt64 >>> ((32 : Int32) &&& 0x3f).toInt64.toUInt64).toInt64).toInt32).toInt8.toInt32)), (nar .byte ((((q0.toUInt64 >>> ((40 : Int32) &&& 0x3f).toInt64.toUInt64).toInt64).toInt32).toInt8.toInt32)), (nar .byte ((((q0.toUInt64 >>> ((48 : Int32) &&& 0x3f).toInt64.toUInt64).toInt64).toInt32).toInt8.toInt32)), (nar .byte ((((q0.toUInt64 >>> ((56 : Int32) &&& 0x3f).toInt64.toUInt64).toInt64).toInt32).toInt8.toInt32)), (nar .byte (p1.toInt8.toInt32)), (nar .byte (((p1.toUInt32 >>> ((8 : Int32) &&& 31).toUInt32).toInt32).toInt8.toInt32)), (nar .byte (((p1.toUInt32 >>> ((16 : Int32) &&& 31).toUInt32).toInt32).toInt8.toInt32)), (nar .byte (((p1.toUInt32 >>> ((24 : Int32) &&& 31).toUInt32).toInt32).toInt8.toInt32)), rfl, N170, K169, sz108, f171⟩
theorem d4_0 : decode prog_79_method_7_code 0 = .ok (.aload_n 0, 1) := by decide +kernel
theorem d4_1 : decode prog_79_method_7_code 1 = .ok (.getfield 19, 3) := by decide +kernel
theorem d4_4 : decode prog_79_method_7_code 4 = .ok (.aload_n 0, 1) := by decide +kernel
theorem d4_5 : decode prog_79_method_7_code 5 = .ok (.getfield 22, 3) := by decide +kernel
theorem d4_8 : decode prog_79_method_7_code 8 = .ok (.if_icmp .ne 13, 3) := by decide +kernel
theorem d4_21 : decode prog_79_method_7_code 21 = .ok (.aload_n 0, 1) := by decide +kernel
theorem d4_22 : decode prog_79_method_7_code 22 = .ok (.getfield 15, 3) := by decide +kernel
theorem d4_25 : decode prog_79_method_7_code 25 = .ok (.aload_n 0, 1) := by decide +kernel
theorem d4_26 : decode prog_79_method_7_code 26 = .ok (.dup, 1) := by decide +kernel
theorem d4_27 : decode prog_79_method_7_code 27 = .ok (.getfield 19, 3) := by decide +kernel
theorem d4_30 : decode prog_79_method_7_code 30 = .ok (.dup_x1, 1) := by decide +kernel
theorem d4_31 : decode prog_79_method_7_code 31 = .ok (.iconst 1, 1) := by decide +kernel
theorem d4_32 : decode prog_79_method_7_code 32 = .ok (.iadd, 1) := by decide +kernel
theorem d4_33 : decode prog_79_method_7_code 33 = .ok (.putfield 19, 3) := by decide +kernel
theorem d4_36 : decode prog_79_method_7_code 36 = .ok (.baload, 1) := by decide +kernel
theorem d4_37 : decode prog_79_method_7_code 37 = .ok (.sipush 255, 3) := by decide +kernel
theorem d4_40 : decode prog_79_method_7_code 40 = .ok (.iand, 1) := by decide +kernel
theorem d4_41 : decode prog_79_method_7_code 41 = .ok (.ireturn, 1) := by decide +kernel
theorem pn_2 : plainName "com/example/sheafworks/sheafworks/storage/RangeCoder$Decoder" = true := by first | (simp [plainName, overriddenIn]; done) | decide +kernel
theorem ef_rm4 (m : MethodId) (a0 : Addr) : entryFrame m #[(.ref a0)] 1 = mkF m 0 #[.val (.ref a0)] [] := by first | (simp [entryFrame, mkF, argsToLocals, Value.category]; done) | rfl
def Q_rm4 (Z : State) (a0 : Addr) (a1 : Addr) (k1 : ClassId) (vs : List Value) (w : Int32) (u : Int32) (rg : Int32) (cd : Int32) (z : Int32) (h0 : Heap) (n0 : Nat) (v : Option Value) (h : Heap) (L : List Loc) : Prop := v = some (.int (z &&& (255 : Int32))) ∧ Fr n0 L ∧ Keep h0 h [a0] ∧ Exa Z h a0 "com/example/sheafworks/sheafworks/storage/RangeCoder$Decoder" ∧ Fld Z h a0 "com/example/sheafworks/sheafworks/storage/RangeCoder$Decoder" "in" "[B" (.ref a1) ∧ Fld Z h a0 "com/example/sheafworks/sheafworks/storage/RangeCoder$Decoder" "position" "I" (.int (w + (1 : Int32))) ∧ Fld Z h a0 "com/example/sheafworks/sheafworks/storage/RangeCoder$Decoder" "end" "I" (.int u) ∧ Fld Z h a0 "com/example/sheafworks/sheafworks/storage/RangeCoder$Decoder" "range" "I" (.int rg) ∧ Fld Z h a0 "com/example/sheafworks/sheafworks/storage/RangeCoder$Decoder" "code" "I" (.int cd)
set_option maxRecDepth 65536 in
set_option maxHeartbeats 40000000 in
theorem rm4 (l : Launch) (Z : State) (aw : Array Value) (hw : ∀ d ∈ tables_1, d.before aw Z = true) (ws : List Jvm.Cond) (a0 : Addr) (a1 : Addr) (k1 : ClassId) (vs : List Value) (w : Int32) (u : Int32) (rg : Int32) (cd : Int32) (z : Int32) (h0 : Heap) (n0 : Nat) (Z0 : n0 ≤ h0.size) (E_a0 : Exa Z h0 a0 "com/example/sheafworks/sheafworks/storage/RangeCoder$Decoder") (F_a0_in : Fld Z h0 a0 "com/example/sheafworks/sheafworks/storage/RangeCoder$Decoder" "in" "[B" (.ref a1)) (F_a0_position : Fld Z h0 a0 "com/example/sheafworks/sheafworks/storage/RangeCoder$Decoder" "position" "I" (.int w)) (F_a0_end : Fld Z h0 a0 "com/example/sheafworks/sheafworks/storage/RangeCoder$Decoder" "end" "I" (.int u)) (F_a0_range : Fld Z h0 a0 "com/example/sheafworks/sheafworks/storage/RangeCoder$Decoder" "range" "I" (.int rg)) (F_a0_code : Fld Z h0 a0 "com/example/sheafworks/sheafworks/storage/RangeCoder$Decoder" "code" "I" (.int cd)) (g_a0 : n0 ≤ a0) (V_a1 : Arv Z h0 a1 k1 .byte (12 : Int32) vs (.int (0 : Int32))) (ne_a0_a1 : a0 ≠ a1) (hne : ¬ (w = u)) (hin : ¬ w < (0 : Int32) ∧ w < (12 : Int32)) (hz : vs.getD w.toNatClampNeg (.int (0 : Int32)) = .int z) :
    MetFree l (⟨"com/example/sheafworks/sheafworks/storage/RangeCoder$Decoder", "next", "()I"⟩ : MethodName) (head1 (Jvm.Cond.code (⟨"com/example/sheafworks/sheafworks/storage/RangeCoder$Decoder", "next", "()I"⟩ : MethodName) prog_79_method_7_code 1 (some .int) :: ws) ({ frames := 0, cells := 0, slots := 0, locals := 0 } : Room)) (fun a U => a = #[(.ref a0)] ∧ Z.Warmed39 U.vm ∧ U.heap = h0) (fun _ _ _ _ _ => True) (fun _ U o U' => ∃ v L, o = .returned v ∧ Q_rm4 Z a0 a1 k1 vs w u rg cd z h0 n0 v U'.heap L ∧ FrameEnd U o U' L ({ frames := 0, cells := 0, slots := 0, locals := 0 } : Room).cells ({ frames := 0, cells := 0, slots := 0, locals := 0 } : Room).slots) := by
  refine MetFree.of_bodySF (plainFor_of_name pn_2) hisR ?_
  intro p e s m args below meth c s₁ Bd hml0 hP hK
  obtain ⟨rfl, hZ, hh⟩ := hP
  have hx := Bd.exec
  have hby := Bd.bytes
  have hml : c.maxLocals = 1 := hml0
  have hown : s.vm.findClass "com/example/sheafworks/sheafworks/storage/RangeCoder$Decoder" = some m.cls := findClass_of_methodNamed Bd.named
  have hnm := (name_of_methodNamed Bd.named Bd.method).1
  have X0 : Stand p l e ({ frames := 0, cells := 0, slots := 0, locals := 0 } : Room) s m #[(.ref a0)] below meth c s₁ [] 0 0 := Stand.of_body Bd
  have e0 : s₁.heap = h0 := by rw [← hh, Bd.state]; rfl
  have N0 := Fr.nil n0
  have pre0 : ∀ t, Steps p.tables e below (s₁.setTop (mkF m 0 #[.val (.ref a0)] [])) t → Steps p.tables e below (s₁.setTop (entryFrame m #[(.ref a0)] 1)) t := fun t k => castTop (ef_rm4 m a0) k
  have KC0 : Keep h0 h0 [a0] := Keep.refl h0 [a0]
  obtain ⟨T172, X172, e172, st172⟩ := getF X0 hx hZ hown (host := "") (Or.inl (hw _ (List.mem_of_getElem? (i := 19) rfl))) Via.refl e0 F_a0_position (g := (mkF m 1 #[.val (.ref a0)] [(.ref a0)])) rfl rfl (hb hby d4_1)
  obtain ⟨T173, X173, e173, st173⟩ := getF X172 hx hZ hown (host := "") (Or.inl (hw _ (List.mem_of_getElem? (i := 21) rfl))) Via.refl e172 F_a0_end (g := (mkF m 5 #[.val (.ref a0)] [(.ref a0), (.int w)])) rfl rfl (hb hby d4_5)
  have c174 : ¬ (w = u) := by
    exact hne
  obtain ⟨T175, X175, e175, st175⟩ := getF X173 hx hZ hown (host := "") (Or.inl (hw _ (List.mem_of_getElem? (i := 17) rfl))) Via.refl e173 F_a0_in (g := (mkF m 22 #[.val (.ref a0)] [(.ref a0)])) rfl rfl (hb hby d4_22)
  obtain ⟨T176, X176, e176, st176⟩ := getF X175 hx hZ hown (host := "") (Or.inl (hw _ (List.mem_of_getElem? (i := 19) rfl))) Via.refl e175 F_a0_position (g := (mkF m 27 #[.val (.ref a0)] [(.ref a0), (.ref a0), (.ref a1)])) rfl rfl (hb hby d4_27)
  obtain ⟨T177, h177, X177, e177, W177, st177⟩ := putF X176 hx hZ hown (host := "") (Or.inl (hw _ (List.mem_of_getElem? (i := 19) rfl))) Via.refl e176 F_a0_position E_a0 (Or.inl (hw _ (List.mem_of_getElem? (i := 20) rfl))) (hw _ (List.mem_of_getElem? (i := 7) rfl)) (ty := .int) (by decide) rfl rfl (g := (mkF m 33 #[.val (.ref a0)] [(.int (w + (1 : Int32))), (.ref a0), (.int w), (.ref a1)])) rfl rfl (hb hby d4_33)
  have f178 := E_a0.wr W177
  have f179 := F_a0_in.other W177 (Or.inr (slot_ne (Or.inr (hw _ (List.mem_of_getElem? (i := 18) rfl))) (Or.inl (hw _ (List.mem_of_getElem? (i := 20) rfl))) (by decide) (t := (.array .byte)) (t' := .int) (by decide) (by decide)))
  have f180 := F_a0_end.other W177 (Or.inr (slot_ne (Or.inr (hw _ (List.mem_of_getElem? (i := 22) rfl))) (Or.inl (hw _ (List.mem_of_getElem? (i := 20) rfl))) (by decide) (t := .int) (t' := .int) (by decide) (by decide)))
  have f181 := F_a0_range.other W177 (Or.inr (slot_ne (Or.inl (hw _ (List.mem_of_getElem? (i := 16) rfl))) (Or.inl (hw _ (List.mem_of_getElem? (i := 20) rfl))) (by decide) (t := .int) (t' := .int) (by decide) (by decide)))
  have f182 := F_a0_code.other W177 (Or.inr (slot_ne (Or.inl (hw _ (List.mem_of_getElem? (i := 28) rfl))) (Or.inl (hw _ (List.mem_of_getElem? (i := 20) rfl))) (by decide) (t := .int) (t' := .int) (by decide) (by decide)))
  have f183 := V_a1.other W177 (Ne.symm ne_a0_a1)
  have Z184 : n0 ≤ h177.size := Nat.le_trans Z0 (Keep.of_wr W177).1
  have K185 : Keep h0 h177 [a0] := Keep.wr KC0 W177 (Or.inl (List.mem_of_getElem? (i := 0) rfl))
  have N186 := Fr.snoc X177 N0 g_a0
  have f187 : Fld Z h177 a0 "com/example/sheafworks/sheafworks/storage/RangeCoder$Decoder" "position" "I" (.int (w + (1 : Int32))) := F_a0_position.same W177
  obtain ⟨cl188, Ar188, q188, S188, N188, H188, G188⟩ := id f183
  have hin188 : ¬ (w < 0 ∨ cl188.slots.size ≤ (w).toNatClampNeg) := inb_of S188 hin
  have hat188 : cl188.slots[(w).toNatClampNeg]? = some (.int z) := Has.at H188 hin188 hz
  obtain ⟨fs, hr, hrun, hended, hW, hsame⟩ := X177.leave (v := some (.int (z &&& (255 : Int32)))) (fun h => by rw [Bd.returns] at h; cases h)
  refine ⟨_, _, pre0 _ ?_, hrun, hended, _, _, rfl, ?_, ⟨_, rfl⟩, hW, hsame.mono (by decide) (by decide)⟩
  ·
    show Steps p.tables e below (s₁.setTop (mkF m 0 #[.val (.ref a0)] [])) _
    refine XS.aloadN X0.here hx rfl (hb hby d4_0) rfl rfl ?_
    show Steps p.tables e below (s₁.setTop (mkF m 1 #[.val (.ref a0)] [(.ref a0)])) _
    refine st172 _ ?_
    show Steps p.tables e below (T172.setTop (mkF m 4 #[.val (.ref a0)] [(.int w)])) _
    refine XS.aloadN X172.here hx rfl (hb hby d4_4) rfl rfl ?_
    show Steps p.tables e below (T172.setTop (mkF m 5 #[.val (.ref a0)] [(.ref a0), (.int w)])) _
    refine st173 _ ?_
    show Steps p.tables e below (T173.setTop (mkF m 8 #[.val (.ref a0)] [(.int u), (.int w)])) _
    refine XS.icmpYes X173.here hx rfl (pc0 := 8) (pc' := 21) rfl (hb hby d4_8) rfl (feq c174).2 (by decide) (by decide) ?_
    show Steps p.tables e below (T173.setTop (mkF m 21 #[.val (.ref a0)] [])) _
    refine XS.aloadN X173.here hx rfl (hb hby d4_21) rfl rfl ?_
    show Steps p.tables e below (T173.setTop (mkF m 22 #[.val (.ref a0)] [(.ref a0)])) _
    refine st175 _ ?_
    show Steps p.tables e below (T175.setTop (mkF m 25 #[.val (.ref a0)] [(.ref a1)])) _
    refine XS.aloadN X175.here hx rfl (hb hby d4_25) rfl rfl ?_
    show Steps p.tables e below (T175.setTop (mkF m 26 #[.val (.ref a0)] [(.ref a0), (.ref a1)])) _
    refine XS.dup X175.here hx rfl (hb hby d4_26) rfl rfl ?_
    show Steps p.tables e below (T175.setTop (mkF m 27 #[.val (.ref a0)] [(.ref a0), (.ref a0), (.ref a1)])) _
    refine st176 _ ?_
    show Steps p.tables e below (T176.setTop (mkF m 30 #[.val (.ref a0)] [(.int w), (.ref a0), (.ref a1)])) _
    refine XS.dupX1 X176.here hx rfl (hb hby d4_30) rfl rfl rfl ?_
    show Steps p.tables e below (T176.setTop (mkF m 31 #[.val (.ref a0)] [(.int w), (.ref a0), (.int w), (.ref a1)])) _
    refine XS.iconst X176.here hx rfl (hb hby d4_31) ?_
    show Steps p.tables e below (T176.setTop (mkF m 32 #[.val (.ref a0)] [(.int (1 : Int32)), (.int w), (.ref a0), (.int w), (.ref a1)])) _
    refine XS.iadd X176.here hx rfl (hb hby d4_32) rfl ?_
    show Steps p.tables e below (T176.setTop (mkF m 33 #[.val (.ref a0)] [(.int (w + (1 : Int32))), (.ref a0), (.int w), (.ref a1)])) _
    refine st177 _ ?_
    show Steps p.tables e below (T177.setTop (mkF m 36 #[.val (.ref a0)] [(.int w), (.ref a1)])) _
    refine X177.baloadBytes hx (j := w) (v := (.int z)) (by rw [e177]; exact Ar188.1) (State.isArrayOf_alike hZ.alike Ar188.2.1) Ar188.2.2 hin188 hat188 (g := (mkF m 36 #[.val (.ref a0)] [(.int w), (.ref a1)])) rfl rfl (hb hby d4_36) _ ?_
    show Steps p.tables e below (T177.setTop (mkF m 37 #[.val (.ref a0)] [(.int z)])) _
    refine XS.sipush X177.here hx rfl (hb hby d4_37) ?_
    show Steps p.tables e below (T177.setTop (mkF m 40 #[.val (.ref a0)] [(.int (255 : Int32)), (.int z)])) _
    refine XS.iand X177.here hx rfl (hb hby d4_40) rfl ?_
    show Steps p.tables e below (T177.setTop (mkF m 41 #[.val (.ref a0)] [(.int (z &&& (255 : Int32)))])) _
    exact retI X177 hx Bd.returns (hb hby d4_41) hr
  ·
    show Q_rm4 Z a0 a1 k1 vs w u rg cd z h0 n0 _ T177.heap _
    rw [e177]
    exact ⟨rfl, N186, K185, f178, f179, f187, f180, f181, f182⟩
theorem d5_0 : decode prog_79_method_6_code 0 = .ok (.aload_n 0, 1) := by decide +kernel
theorem d5_1 : decode prog_79_method_6_code 1 = .ok (.getfield 19, 3) := by decide +kernel
theorem d5_4 : decode prog_79_method_6_code 4 = .ok (.aload_n 0, 1) := by decide +kernel
theorem d5_5 : decode prog_79_method_6_code 5 = .ok (.getfield 22, 3) := by decide +kernel
theorem d5_8 : decode prog_79_method_6_code 8 = .ok (.if_icmp .ne 7, 3) := by decide +kernel
theorem d5_11 : decode prog_79_method_6_code 11 = .ok (.iconst 1, 1) := by decide +kernel
theorem d5_12 : decode prog_79_method_6_code 12 = .ok (.goto 4, 3) := by decide +kernel
theorem d5_16 : decode prog_79_method_6_code 16 = .ok (.ireturn, 1) := by decide +kernel
theorem d5_15 : decode prog_79_method_6_code 15 = .ok (.iconst 0, 1) := by decide +kernel
theorem ef_rm5 (m : MethodId) (a0 : Addr) : entryFrame m #[(.ref a0)] 1 = mkF m 0 #[.val (.ref a0)] [] := by first | (simp [entryFrame, mkF, argsToLocals, Value.category]; done) | rfl
def Q_rm5 (Z : State) (a0 : Addr) (w : Int32) (u : Int32) (h0 : Heap) (n0 : Nat) (v : Option Value) (h : Heap) (L : List Loc) : Prop := v = some (.int (if w = u then (1 : Int32) else (0 : Int32))) ∧ Fr n0 L ∧ h = h0
set_option maxRecDepth 65536 in
set_option maxHeartbeats 40000000 in
theorem rm5 (l : Launch) (Z : State) (aw : Array Value) (hw : ∀ d ∈ tables_1, d.before aw Z = true) (ws : List Jvm.Cond) (a0 : Addr) (w : Int32) (u : Int32) (h0 : Heap) (n0 : Nat) (Z0 : n0 ≤ h0.size) (F_a0_position : Fld Z h0 a0 "com/example/sheafworks/sheafworks/storage/RangeCoder$Decoder" "position" "I" (.int w)) (F_a0_end : Fld Z h0 a0 "com/example/sheafworks/sheafworks/storage/RangeCoder$Decoder" "end" "I" (.int u)) :
    MetFree l (⟨"com/example/sheafworks/sheafworks/storage/RangeCoder$Decoder", "atEnd", "()Z"⟩ : MethodName) (head1 (Jvm.Cond.code (⟨"com/example/sheafworks/sheafworks/storage/RangeCoder$Decoder", "atEnd", "()Z"⟩ : MethodName) prog_79_method_6_code 1 (some .boolean) :: ws) ({ frames := 0, cells := 0, slots := 0, locals := 0 } : Room)) (fun a U => a = #[(.ref a0)] ∧ Z.Warmed39 U.vm ∧ U.heap = h0) (fun _ _ _ _ _ => True) (fun _ U o U' => ∃ v L, o = .returned v ∧ Q_rm5 Z a0 w u h0 n0 v U'.heap L ∧ FrameEnd U o U' L ({ frames := 0, cells := 0, slots := 0, locals := 0 } : Room).cells ({ frames := 0, cells := 0, slots := 0, locals := 0 } : Room).slots) := by
  refine MetFree.of_bodySF (plainFor_of_name pn_2) hisR ?_
  intro p e s m args below meth c s₁ Bd hml0 hP hK
  obtain ⟨rfl, hZ, hh⟩ := hP
  have hx := Bd.exec
  have hby := Bd.bytes
  have hml : c.maxLocals = 1 := hml0
  have hown : s.vm.findClass "com/example/sheafworks/sheafworks/storage/RangeCoder$Decoder" = some m.cls := findClass_of_methodNamed Bd.named
  have hnm := (name_of_methodNamed Bd.named Bd.method).1
  have X0 : Stand p l e ({ frames := 0, cells := 0, slots := 0, locals := 0 } : Room) s m #[(.ref a0)] below meth c s₁ [] 0 0 := Stand.of_body Bd
  have e0 : s₁.heap = h0 := by rw [← hh, Bd.state]; rfl
  have N0 := Fr.nil n0
  have pre0 : ∀ t, Steps p.tables e below (s₁.setTop (mkF m 0 #[.val (.ref a0)] [])) t → Steps p.tables e below (s₁.setTop (entryFrame m #[(.ref a0)] 1)) t := fun t k => castTop (ef_rm5 m a0) k
  obtain ⟨T189, X189, e189, st189⟩ := getF X0 hx hZ hown (host := "") (Or.inl (hw _ (List.mem_of_getElem? (i := 19) rfl))) Via.refl e0 F_a0_position (g := (mkF m 1 #[.val (.ref a0)] [(.ref a0)])) rfl rfl (hb hby d5_1)
  obtain ⟨T190, X190, e190, st190⟩ := getF X189 hx hZ hown (host := "") (Or.inl (hw _ (List.mem_of_getElem? (i := 21) rfl))) Via.refl e189 F_a0_end (g := (mkF m 5 #[.val (.ref a0)] [(.ref a0), (.int w)])) rfl rfl (hb hby d5_5)
  have pre191 : ∀ t, Steps p.tables e below (T190.setTop (mkF m 8 #[.val (.ref a0)] [(.int u), (.int w)])) t → Steps p.tables e below (s₁.setTop (entryFrame m #[(.ref a0)] 1)) t := fun t k => by
    refine pre0 t ?_
    show Steps p.tables e below (s₁.setTop (mkF m 0 #[.val (.ref a0)] [])) _
    refine XS.aloadN X0.here hx rfl (hb hby d5_0) rfl rfl ?_
    show Steps p.tables e below (s₁.setTop (mkF m 1 #[.val (.ref a0)] [(.ref a0)])) _
    refine st189 _ ?_
    show Steps p.tables e below (T189.setTop (mkF m 4 #[.val (.ref a0)] [(.int w)])) _
    refine XS.aloadN X189.here hx rfl (hb hby d5_4) rfl rfl ?_
    show Steps p.tables e below (T189.setTop (mkF m 5 #[.val (.ref a0)] [(.ref a0), (.int w)])) _
    refine st190 _ ?_
    exact k
  by_cases c192 : w = u
  ·
    obtain ⟨fs, hr, hrun, hended, hW, hsame⟩ := X190.leave (v := some (.int (1 : Int32))) (fun h => by rw [Bd.returns] at h; cases h)
    refine ⟨_, _, pre191 _ ?_, hrun, hended, _, _, rfl, ?_, ⟨_, rfl⟩, hW, hsame.mono (by decide) (by decide)⟩
    ·
      show Steps p.tables e below (T190.setTop (mkF m 8 #[.val (.ref a0)] [(.int u), (.int w)])) _
      refine XS.icmpNo X190.here hx rfl (hb hby d5_8) rfl (teq c192).2 ?_
      show Steps p.tables e below (T190.setTop (mkF m 11 #[.val (.ref a0)] [])) _
      refine XS.iconst X190.here hx rfl (hb hby d5_11) ?_
      show Steps p.tables e below (T190.setTop (mkF m 12 #[.val (.ref a0)] [(.int (1 : Int32))])) _
      refine XS.goto X190.here hx rfl (pc0 := 12) (pc' := 16) rfl (hb hby d5_12) (by decide) (by decide) ?_
      show Steps p.tables e below (T190.setTop (mkF m 16 #[.val (.ref a0)] [(.int (1 : Int32))])) _
      exact retZ X190 hx Bd.returns (by decide) (hb hby d5_16) hr
    ·
      show Q_rm5 Z a0 w u h0 n0 _ T190.heap _
      rw [e190]
      exact ⟨(by simp only [if_pos c192]), N0, rfl⟩
  ·
    obtain ⟨fs, hr, hrun, hended, hW, hsame⟩ := X190.leave (v := some (.int (0 : Int32))) (fun h => by rw [Bd.returns] at h; cases h)
    refine ⟨_, _, pre191 _ ?_, hrun, hended, _, _, rfl, ?_, ⟨_, rfl⟩, hW, hsame.mono (by decide) (by decide)⟩
    ·
      show Steps p.tables e below (T190.setTop (mkF m 8 #[.val (.ref a0)] [(.int u), (.int w)])) _
      refine XS.icmpYes X190.here hx rfl (pc0 := 8) (pc' := 15) rfl (hb hby d5_8) rfl (feq c192).2 (by decide) (by decide) ?_
      show Steps p.tables e below (T190.setTop (mkF m 15 #[.val (.ref a0)] [])) _
      refine XS.iconst X190.here hx rfl (hb hby d5_15) ?_
      show Steps p.tables e below (T190.setTop (mkF m 16 #[.val (.ref a0)] [(.int (0 : Int32))])) _
      exact retZ X190 hx Bd.returns (by decide) (hb hby d5_16) hr
    ·
      show Q_rm5 Z a0 w u h0 n0 _ T190.heap _
      rw [e190]
      exact ⟨(by simp only [if_neg c192]), N0, rfl⟩
theorem d2_0 : decode prog_79_method_1_code 0 = .ok (.aload_n 0, 1) := by decide +kernel
theorem d2_1 : decode prog_79_method_1_code 1 = .ok (.invokespecial 3, 3) := by decide +kernel
theorem d2_4 : decode prog_79_method_1_code 4 = .ok (.aload_n 0, 1) := by decide +kernel
theorem d2_5 : decode prog_79_method_1_code 5 = .ok (.iconst (-1), 1) := by decide +kernel
theorem d2_6 : decode prog_79_method_1_code 6 = .ok (.putfield 9, 3) := by decide +kernel
theorem d2_9 : decode prog_79_method_1_code 9 = .ok (.aload_n 0, 1) := by decide +kernel
theorem d2_10 : decode prog_79_method_1_code 10 = .ok (.aload_n 1, 1) := by decide +kernel
theorem d2_11 : decode prog_79_method_1_code 11 = .ok (.putfield 15, 3) := by decide +kernel
theorem d2_14 : decode prog_79_method_1_code 14 = .ok (.aload_n 0, 1) := by decide +kernel
theorem d2_15 : decode prog_79_method_1_code 15 = .ok (.iload_n 2, 1) := by decide +kernel
theorem d2_16 : decode prog_79_method_1_code 16 = .ok (.putfield 19, 3) := by decide +kernel
theorem d2_19 : decode prog_79_method_1_code 19 = .ok (.aload_n 0, 1) := by decide +kernel
theorem d2_20 : decode prog_79_method_1_code 20 = .ok (.iload_n 3, 1) := by decide +kernel
theorem d2_21 : decode prog_79_method_1_code 21 = .ok (.putfield 22, 3) := by decide +kernel
theorem d2_24 : decode prog_79_method_1_code 24 = .ok (.aload_n 0, 1) := by decide +kernel
theorem pd_1 : parseMethodDescriptor "()I" = some ⟨[], some .int⟩ := by decide +kernel
theorem d2_25 : decode prog_79_method_1_code 25 = .ok (.invokevirtual 25, 3) := by decide +kernel
theorem d2_28 : decode prog_79_method_1_code 28 = .ok (.ifCond .eq 13, 3) := by decide +kernel
theorem d2_41 : decode prog_79_method_1_code 41 = .ok (.iconst 0, 1) := by decide +kernel
theorem d2_42 : decode prog_79_method_1_code 42 = .ok (.istore 4, 2) := by decide +kernel
theorem d2_44 : decode prog_79_method_1_code 44 = .ok (.iload 4, 2) := by decide +kernel
theorem d2_46 : decode prog_79_method_1_code 46 = .ok (.iconst 4, 1) := by decide +kernel
theorem d2_47 : decode prog_79_method_1_code 47 = .ok (.if_icmp .ge 25, 3) := by decide +kernel
theorem d2_50 : decode prog_79_method_1_code 50 = .ok (.aload_n 0, 1) := by decide +kernel
theorem d2_51 : decode prog_79_method_1_code 51 = .ok (.aload_n 0, 1) := by decide +kernel
theorem d2_52 : decode prog_79_method_1_code 52 = .ok (.getfield 38, 3) := by decide +kernel
theorem d2_55 : decode prog_79_method_1_code 55 = .ok (.bipush 8, 2) := by decide +kernel
theorem d2_57 : decode prog_79_method_1_code 57 = .ok (.ishl, 1) := by decide +kernel
theorem d2_58 : decode prog_79_method_1_code 58 = .ok (.aload_n 0, 1) := by decide +kernel
theorem d2_59 : decode prog_79_method_1_code 59 = .ok (.invokevirtual 25, 3) := by decide +kernel
theorem d2_62 : decode prog_79_method_1_code 62 = .ok (.ior, 1) := by decide +kernel
theorem d2_63 : decode prog_79_method_1_code 63 = .ok (.putfield 38, 3) := by decide +kernel
theorem d2_66 : decode prog_79_method_1_code 66 = .ok (.iinc 4 1, 3) := by decide +kernel
theorem d2_69 : decode prog_79_method_1_code 69 = .ok (.goto (-25), 3) := by decide +kernel
theorem d2_72 : decode prog_79_method_1_code 72 = .ok (.return_, 1) := by decide +kernel
theorem ef_rm2 (m : MethodId) (a0 : Addr) (a1 : Addr) (p2 : Int32) (p3 : Int32) : entryFrame m #[(.ref a0), (.ref a1), (.int p2), (.int p3)] 5 = mkF m 0 #[.val (.ref a0), .val (.ref a1), .val (.int p2), .val (.int p3), .unset] [] := by first | (simp [entryFrame, mkF, argsToLocals, Value.category]; done) | rfl
def Q_rm2 (Z : State) (a0 : Addr) (a1 : Addr) (p2 : Int32) (p3 : Int32) (k1 : ClassId) (vs : List Value) (z1 : Int32) (z2 : Int32) (z3 : Int32) (z4 : Int32) (h0 : Heap) (n0 : Nat) (v : Option Value) (h : Heap) (L : List Loc) : Prop := ∃ cv : Int32, v = none ∧ Fr n0 L ∧ Keep h0 h [a0] ∧ Exa Z h a0 "com/example/sheafworks/sheafworks/storage/RangeCoder$Decoder" ∧ Fld Z h a0 "com/example/sheafworks/sheafworks/storage/RangeCoder$Decoder" "in" "[B" (.ref a1) ∧ Fld Z h a0 "com/example/sheafworks/sheafworks/storage/RangeCoder$Decoder" "position" "I" (.int (((((p2 + (1 : Int32)) + (1 : Int32)) + (1 : Int32)) + (1 : Int32)) + (1 : Int32))) ∧ Fld Z h a0 "com/example/sheafworks/sheafworks/storage/RangeCoder$Decoder" "end" "I" (.int p3) ∧ Fld Z h a0 "com/example/sheafworks/sheafworks/storage/RangeCoder$Decoder" "range" "I" (.int (-1 : Int32)) ∧ Fld Z h a0 "com/example/sheafworks/sheafworks/storage/RangeCoder$Decoder" "code" "I" (.int cv)
set_option maxRecDepth 65536 in
set_option maxHeartbeats 40000000 in
theorem rm2 (l : Launch) (Z : State) (aw : Array Value) (hw : ∀ d ∈ tables_1, d.before aw Z = true) (ws : List Jvm.Cond) (a0 : Addr) (a1 : Addr) (p2 : Int32) (p3 : Int32) (k1 : ClassId) (vs : List Value) (z1 : Int32) (z2 : Int32) (z3 : Int32) (z4 : Int32) (h0 : Heap) (n0 : Nat) (Z0 : n0 ≤ h0.size) (E_a0 : Exa Z h0 a0 "com/example/sheafworks/sheafworks/storage/RangeCoder$Decoder") (F_a0_range : Fld Z h0 a0 "com/example/sheafworks/sheafworks/storage/RangeCoder$Decoder" "range" "I" (.int (0 : Int32))) (F_a0_in : Fld Z h0 a0 "com/example/sheafworks/sheafworks/storage/RangeCoder$Decoder" "in" "[B" .null) (F_a0_position : Fld Z h0 a0 "com/example/sheafworks/sheafworks/storage/RangeCoder$Decoder" "position" "I" (.int (0 : Int32))) (F_a0_end : Fld Z h0 a0 "com/example/sheafworks/sheafworks/storage/RangeCoder$Decoder" "end" "I" (.int (0 : Int32))) (F_a0_code : Fld Z h0 a0 "com/example/sheafworks/sheafworks/storage/RangeCoder$Decoder" "code" "I" (.int (0 : Int32))) (g_a0 : n0 ≤ a0) (V_a1 : Arv Z h0 a1 k1 .byte (12 : Int32) vs (.int (0 : Int32))) (ne_a0_a1 : a0 ≠ a1) (hne0 : ¬ (p2 = p3)) (hin0 : ¬ p2 < (0 : Int32) ∧ p2 < (12 : Int32)) (hz0 : vs.getD p2.toNatClampNeg (.int (0 : Int32)) = .int (0 : Int32)) (hne1 : ¬ ((p2 + (1 : Int32)) = p3)) (hin1 : ¬ (p2 + (1 : Int32)) < (0 : Int32) ∧ (p2 + (1 : Int32)) < (12 : Int32)) (hz1 : vs.getD (p2 + (1 : Int32)).toNatClampNeg (.int (0 : Int32)) = .int z1) (hne2 : ¬ (((p2 + (1 : Int32)) + (1 : Int32)) = p3)) (hin2 : ¬ ((p2 + (1 : Int32)) + (1 : Int32)) < (0 : Int32) ∧ ((p2 + (1 : Int32)) + (1 : Int32)) < (12 : Int32)) (hz2 : vs.getD ((p2 + (1 : Int32)) + (1 : Int32)).toNatClampNeg (.int (0 : Int32)) = .int z2) (hne3 : ¬ ((((p2 + (1 : Int32)) + (1 : Int32)) + (1 : Int32)) = p3)) (hin3 : ¬ (((p2 + (1 : Int32)) + (1 : Int32)) + (1 : Int32)) < (0 : Int32) ∧ (((p2 + (1 : Int32)) + (1 : Int32)) + (1 : Int32)) < (12 : Int32)) (hz3 : vs.getD (((p2 + (1 : Int32)) + (1 : Int32)) + (1 : Int32)).toNatClampNeg (.int (0 : Int32)) = .int z3) (hne4 : ¬ (((((p2 + (1 : Int32)) + (1 : Int32)) + (1 : Int32)) + (1 : Int32)) = p3)) (hin4 : ¬ ((((p2 + (1 : Int32)) + (1 : Int32)) + (1 : Int32)) + (1 : Int32)) < (0 : Int32) ∧ ((((p2 + (1 : Int32)) + (1 : Int32)) + (1 : Int32)) + (1 : Int32)) < (12 : Int32)) (hz4 : vs.getD ((((p2 + (1 : Int32)) + (1 : Int32)) + (1 : Int32)) + (1 : Int32)).toNatClampNeg (.int (0 : Int32)) = .int z4) :
    MetFree l (⟨"com/example/sheafworks/sheafworks/storage/RangeCoder$Decoder", "<init>", "([BII)V"⟩ : MethodName) (head1 (Jvm.Cond.code (⟨"com/example/sheafworks/sheafworks/storage/RangeCoder$Decoder", "<init>", "([BII)V"⟩ : MethodName) prog_79_method_1_code 5 none :: ws) ({ frames := 1, cells := 0, slots := 0, locals := 14 } : Room)) (fun a U => a = #[(.ref a0), (.ref a1), (.int p2), (.int p3)] ∧ Z.Warmed39 U.vm ∧ U.heap = h0) (fun _ _ _ _ _ => True) (fun _ U o U' => ∃ v L, o = .returned v ∧ Q_rm2 Z a0 a1 p2 p3 k1 vs z1 z2 z3 z4 h0 n0 v U'.heap L ∧ FrameEnd U o U' L ({ frames := 1, cells := 0, slots := 0, locals := 14 } : Room).cells ({ frames := 1, cells := 0, slots := 0, locals := 14 } : Room).slots) := by
  refine MetFree.of_bodySF (plainFor_of_name pn_2) hisR ?_
  intro p e s m args below meth c s₁ Bd hml0 hP hK
  obtain ⟨rfl, hZ, hh⟩ := hP
  have hx := Bd.exec
  have hby := Bd.bytes
  have hml : c.maxLocals = 5 := hml0
  have hown : s.vm.findClass "com/example/sheafworks/sheafworks/storage/RangeCoder$Decoder" = some m.cls := findClass_of_methodNamed Bd.named
  have hnm := (name_of_methodNamed Bd.named Bd.method).1
  have X0 : Stand p l e ({ frames := 1, cells := 0, slots := 0, locals := 14 } : Room) s m #[(.ref a0), (.ref a1), (.int p2), (.int p3)] below meth c s₁ [] 0 0 := Stand.of_body Bd
  have e0 : s₁.heap = h0 := by rw [← hh, Bd.state]; rfl
  have N0 := Fr.nil n0
  have pre0 : ∀ t, Steps p.tables e below (s₁.setTop (mkF m 0 #[.val (.ref a0), .val (.ref a1), .val (.int p2), .val (.int p3), .unset] [])) t → Steps p.tables e below (s₁.setTop (entryFrame m #[(.ref a0), (.ref a1), (.int p2), (.int p3)] 5)) t := fun t k => castTop (ef_rm2 m a0 a1 p2 p3) k
  have KC0 : Keep h0 h0 [a0] := Keep.refl h0 [a0]
  obtain ⟨T193, X193, e193, st193⟩ := initO X0 hx hZ hown (hw _ (List.mem_of_getElem? (i := 12) rfl)) (hw _ (List.mem_of_getElem? (i := 13) rfl)) (hw _ (List.mem_of_getElem? (i := 14) rfl)) e0 (g := (mkF m 1 #[.val (.ref a0), .val (.ref a1), .val (.int p2), .val (.int p3), .unset] [(.ref a0)])) rfl (by rw [hml]; rfl) rfl (hb hby d2_1) (by decide) (W := 0) (by show 2 * 0 + _ ≤ _; exact Nat.le_of_eq rfl) (by decide)
  obtain ⟨T194, h194, X194, e194, W194, st194⟩ := putF X193 hx hZ hown (host := "") (Or.inl (hw _ (List.mem_of_getElem? (i := 15) rfl))) Via.refl e193 F_a0_range E_a0 (Or.inl (hw _ (List.mem_of_getElem? (i := 16) rfl))) (hw _ (List.mem_of_getElem? (i := 7) rfl)) (ty := .int) (by decide) rfl rfl (g := (mkF m 6 #[.val (.ref a0), .val (.ref a1), .val (.int p2), .val (.int p3), .unset] [(.int (-1 : Int32)), (.ref a0)])) rfl rfl (hb hby d2_6)
  have f195 := E_a0.wr W194
  have f196 := F_a0_in.other W194 (Or.inr (slot_ne (Or.inr (hw _ (List.mem_of_getElem? (i := 18) rfl))) (Or.inl (hw _ (List.mem_of_getElem? (i := 16) rfl))) (by decide) (t := (.array .byte)) (t' := .int) (by decide) (by decide)))
  have f197 := F_a0_position.other W194 (Or.inr (slot_ne (Or.inl (hw _ (List.mem_of_getElem? (i := 20) rfl))) (Or.inl (hw _ (List.mem_of_getElem? (i := 16) rfl))) (by decide) (t := .int) (t' := .int) (by decide) (by decide)))
  have f198 := F_a0_end.other W194 (Or.inr (slot_ne (Or.inr (hw _ (List.mem_of_getElem? (i := 22) rfl))) (Or.inl (hw _ (List.mem_of_getElem? (i := 16) rfl))) (by decide) (t := .int) (t' := .int) (by decide) (by decide)))
  have f199 := F_a0_code.other W194 (Or.inr (slot_ne (Or.inl (hw _ (List.mem_of_getElem? (i := 28) rfl))) (Or.inl (hw _ (List.mem_of_getElem? (i := 16) rfl))) (by decide) (t := .int) (t' := .int) (by decide) (by decide)))
  have f200 := V_a1.other W194 (Ne.symm ne_a0_a1)
  have Z201 : n0 ≤ h194.size := Nat.le_trans Z0 (Keep.of_wr W194).1
  have K202 : Keep h0 h194 [a0] := Keep.wr KC0 W194 (Or.inl (List.mem_of_getElem? (i := 0) rfl))
  have N203 := Fr.snoc X194 N0 g_a0
  have f204 : Fld Z h194 a0 "com/example/sheafworks/sheafworks/storage/RangeCoder$Decoder" "range" "I" (.int (-1 : Int32)) := F_a0_range.same W194
  obtain ⟨T205, h205, X205, e205, W205, st205⟩ := putF X194 hx hZ hown (host := "") (Or.inl (hw _ (List.mem_of_getElem? (i := 17) rfl))) Via.refl e194 f196 f195 (Or.inr ⟨(hw _ (List.mem_of_getElem? (i := 18) rfl)), rfl, hnm⟩) (hw _ (List.mem_of_getElem? (i := 7) rfl)) (ty := (.array .byte)) (by decide) rfl rfl (g := (mkF m 11 #[.val (.ref a0), .val (.ref a1), .val (.int p2), .val (.int p3), .unset] [(.ref a1), (.ref a0)])) rfl rfl (hb hby d2_11)
  have f206 := f195.wr W205
  have f207 := f197.other W205 (Or.inr (slot_ne (Or.inl (hw _ (List.mem_of_getElem? (i := 20) rfl))) (Or.inr (hw _ (List.mem_of_getElem? (i := 18) rfl))) (by decide) (t := .int) (t' := (.array .byte)) (by decide) (by decide)))
  have f208 := f198.other W205 (Or.inr (slot_ne (Or.inr (hw _ (List.mem_of_getElem? (i := 22) rfl))) (Or.inr (hw _ (List.mem_of_getElem? (i := 18) rfl))) (by decide) (t := .int) (t' := (.array .byte)) (by decide) (by decide)))
  have f209 := f199.other W205 (Or.inr (slot_ne (Or.inl (hw _ (List.mem_of_getElem? (i := 28) rfl))) (Or.inr (hw _ (List.mem_of_getElem? (i := 18) rfl))) (by decide) (t := .int) (t' := (.array .byte)) (by decide) (by decide)))
  have f210 := f200.other W205 (Ne.symm ne_a0_a1)
  have f211 := f204.other W205 (Or.inr (slot_ne (Or.inl (hw _ (List.mem_of_getElem? (i := 16) rfl))) (Or.inr (hw _ (List.mem_of_getElem? (i := 18) rfl))) (by decide) (t := .int) (t' := (.array .byte)) (by decide) (by decide)))
  have Z212 : n0 ≤ h205.size := Nat.le_trans Z201 (Keep.of_wr W205).1
  have K213 : Keep h0 h205 [a0] := Keep.wr K202 W205 (Or.inl (List.mem_of_getElem? (i := 0) rfl))
  have N214 := Fr.snoc X205 N203 g_a0
  have f215 : Fld Z h205 a0 "com/example/sheafworks/sheafworks/storage/RangeCoder$Decoder" "in" "[B" (.ref a1) := f196.same W205
  obtain ⟨T216, h216, X216, e216, W216, st216⟩ := putF X205 hx hZ hown (host := "") (Or.inl (hw _ (List.mem_of_getElem? (i := 19) rfl))) Via.refl e205 f207 f206 (Or.inl (hw _ (List.mem_of_getElem? (i := 20) rfl))) (hw _ (List.mem_of_getElem? (i := 7) rfl)) (ty := .int) (by decide) rfl rfl (g := (mkF m 16 #[.val (.ref a0), .val (.ref a1), .val (.int p2), .val (.int p3), .unset] [(.int p2), (.ref a0)])) rfl rfl (hb hby d2_16)
  have f217 := f206.wr W216
  have f218 := f208.other W216 (Or.inr (slot_ne (Or.inr (hw _ (List.mem_of_getElem? (i := 22) rfl))) (Or.inl (hw _ (List.mem_of_getElem? (i := 20) rfl))) (by decide) (t := .int) (t' := .int) (by decide) (by decide)))
  have f219 := f209.other W216 (Or.inr (slot_ne (Or.inl (hw _ (List.mem_of_getElem? (i := 28) rfl))) (Or.inl (hw _ (List.mem_of_getElem? (i := 20) rfl))) (by decide) (t := .int) (t' := .int) (by decide) (by decide)))
  have f220 := f210.other W216 (Ne.symm ne_a0_a1)
  have f221 := f211.other W216 (Or.inr (slot_ne (Or.inl (hw _ (List.mem_of_getElem? (i := 16) rfl))) (Or.inl (hw _ (List.mem_of_getElem? (i := 20) rfl))) (by decide) (t := .int) (t' := .int) (by decide) (by decide)))
  have f222 := f215.other W216 (Or.inr (slot_ne (Or.inr (hw _ (List.mem_of_getElem? (i := 18) rfl))) (Or.inl (hw _ (List.mem_of_getElem? (i := 20) rfl))) (by decide) (t := (.array .byte)) (t' := .int) (by decide) (by decide)))
  have Z223 : n0 ≤ h216.size := Nat.le_trans Z212 (Keep.of_wr W216).1
  have K224 : Keep h0 h216 [a0] := Keep.wr K213 W216 (Or.inl (List.mem_of_getElem? (i := 0) rfl))
  have N225 := Fr.snoc X216 N214 g_a0
  have f226 : Fld Z h216 a0 "com/example/sheafworks/sheafworks/storage/RangeCoder$Decoder" "position" "I" (.int p2) := f207.same W216
  obtain ⟨T227, h227, X227, e227, W227, st227⟩ := putF X216 hx hZ hown (host := "") (Or.inl (hw _ (List.mem_of_getElem? (i := 21) rfl))) Via.refl e216 f218 f217 (Or.inr ⟨(hw _ (List.mem_of_getElem? (i := 22) rfl)), rfl, hnm⟩) (hw _ (List.mem_of_getElem? (i := 7) rfl)) (ty := .int) (by decide) rfl rfl (g := (mkF m 21 #[.val (.ref a0), .val (.ref a1), .val (.int p2), .val (.int p3), .unset] [(.int p3), (.ref a0)])) rfl rfl (hb hby d2_21)
  have f228 := f217.wr W227
  have f229 := f219.other W227 (Or.inr (slot_ne (Or.inl (hw _ (List.mem_of_getElem? (i := 28) rfl))) (Or.inr (hw _ (List.mem_of_getElem? (i := 22) rfl))) (by decide) (t := .int) (t' := .int) (by decide) (by decide)))
  have f230 := f220.other W227 (Ne.symm ne_a0_a1)
  have f231 := f221.other W227 (Or.inr (slot_ne (Or.inl (hw _ (List.mem_of_getElem? (i := 16) rfl))) (Or.inr (hw _ (List.mem_of_getElem? (i := 22) rfl))) (by decide) (t := .int) (t' := .int) (by decide) (by decide)))
  have f232 := f222.other W227 (Or.inr (slot_ne (Or.inr (hw _ (List.mem_of_getElem? (i := 18) rfl))) (Or.inr (hw _ (List.mem_of_getElem? (i := 22) rfl))) (by decide) (t := (.array .byte)) (t' := .int) (by decide) (by decide)))
  have f233 := f226.other W227 (Or.inr (slot_ne (Or.inl (hw _ (List.mem_of_getElem? (i := 20) rfl))) (Or.inr (hw _ (List.mem_of_getElem? (i := 22) rfl))) (by decide) (t := .int) (t' := .int) (by decide) (by decide)))
  have Z234 : n0 ≤ h227.size := Nat.le_trans Z223 (Keep.of_wr W227).1
  have K235 : Keep h0 h227 [a0] := Keep.wr K224 W227 (Or.inl (List.mem_of_getElem? (i := 0) rfl))
  have N236 := Fr.snoc X227 N225 g_a0
  have f237 : Fld Z h227 a0 "com/example/sheafworks/sheafworks/storage/RangeCoder$Decoder" "end" "I" (.int p3) := f218.same W227
  obtain ⟨cq238, q238, q238'⟩ := f228.cell
  obtain ⟨_, _, ⟨T238, L238, k238, n238⟩, -, X238, ⟨Lc238, hQ238, l238, y238, z238⟩, st238⟩ := X227.privateBack hx (y := (⟨"com/example/sheafworks/sheafworks/storage/RangeCoder$Decoder", "next", "()I"⟩ : MethodName)) hown (mvT hZ (hw _ (List.mem_of_getElem? (i := 23) rfl))) (mvT hZ (hw _ (List.mem_of_getElem? (i := 24) rfl))) (selPriv (y0 := (⟨"com/example/sheafworks/sheafworks/storage/RangeCoder$Decoder", "atEnd", "()Z"⟩ : MethodName)) (mvT hZ (hw _ (List.mem_of_getElem? (i := 32) rfl))) rfl (Cond.privateMethod_at (mvP hZ (hw _ (List.mem_of_getElem? (i := 25) rfl)) (args := #[]))) (mvT hZ (hw _ (List.mem_of_getElem? (i := 24) rfl))) (by decide)) (Cond.privateMethod_at (mvP hZ (hw _ (List.mem_of_getElem? (i := 25) rfl)) (args := #[]))) (mvT hZ (hw _ (List.mem_of_getElem? (i := 26) rfl))) (by decide) (backOf (W := 0) (rm4 l Z aw hw [] a0 a1 k1 vs p2 p3 (-1 : Int32) (0 : Int32) (0 : Int32) h227 n0 Z234 f228 f232 f233 f237 f231 f229 g_a0 f230 ne_a0_a1 hne0 hin0 hz0) hZ (hw _ (List.mem_of_getElem? (i := 26) rfl)) (hw _ (List.mem_of_getElem? (i := 8) rfl)) (by decide) (by decide)) (g := (mkF m 25 #[.val (.ref a0), .val (.ref a1), .val (.int p2), .val (.int p3), .unset] [(.ref a0)])) rfl (by rw [hml]; rfl) (Steps.refl _) (a := a0) (by rw [e227]; exact q238) q238' (argsL := []) (rest := []) (lenOf pd_1 rfl) rfl (by show 2 * 0 + _ ≤ _; exact Nat.le_of_eq rfl) (hb hby d2_25) (fun _ _ => ⟨rfl, e227, (by decide : 0 + 0 ≤ _), (by decide : 0 + 0 ≤ _)⟩)
  dsimp only [Pt.U, Pt.locs, Pt.cells, Pt.slots] at X238 l238 y238 z238 st238 hQ238
  replace l238 := l238.symm; replace y238 := y238.symm; replace z238 := z238.symm; subst l238 y238 z238
  obtain ⟨rfl, N238q, K238, f239, f240, f241, f242, f243, f244⟩ := hQ238
  have N238 := Fr.app N236 N238q
  have f245 := f230.keep K238 (ninS (Ne.symm ne_a0_a1) nin0)
  have Z246 : n0 ≤ T238.heap.size := Nat.le_trans Z234 K238.1
  have K247 : Keep h0 T238.heap [a0] := Keep.trans K235 K238 (allS (Or.inl (List.mem_of_getElem? (i := 0) rfl)) all0)
  have c248 : ((0 : Int32) &&& (255 : Int32)) = (0 : Int32) := by
    decide
  obtain ⟨T249, X249, e249, st249⟩ := getF X238 hx hZ hown (host := "") (Or.inl (hw _ (List.mem_of_getElem? (i := 27) rfl))) Via.refl rfl f244 (g := (mkF m 52 #[.val (.ref a0), .val (.ref a1), .val (.int p2), .val (.int p3), .val (.int (0 : Int32))] [(.ref a0), (.ref a0)])) rfl rfl (hb hby d2_52)
  obtain ⟨cq250, q250, q250'⟩ := f239.cell
  obtain ⟨_, _, ⟨T250, L250, k250, n250⟩, -, X250, ⟨Lc250, hQ250, l250, y250, z250⟩, st250⟩ := X249.privateBack hx (y := (⟨"com/example/sheafworks/sheafworks/storage/RangeCoder$Decoder", "next", "()I"⟩ : MethodName)) hown (mvT hZ (hw _ (List.mem_of_getElem? (i := 23) rfl))) (mvT hZ (hw _ (List.mem_of_getElem? (i := 24) rfl))) (selPriv (y0 := (⟨"com/example/sheafworks/sheafworks/storage/RangeCoder$Decoder", "atEnd", "()Z"⟩ : MethodName)) (mvT hZ (hw _ (List.mem_of_getElem? (i := 32) rfl))) rfl (Cond.privateMethod_at (mvP hZ (hw _ (List.mem_of_getElem? (i := 25) rfl)) (args := #[]))) (mvT hZ (hw _ (List.mem_of_getElem? (i := 24) rfl))) (by decide)) (Cond.privateMethod_at (mvP hZ (hw _ (List.mem_of_getElem? (i := 25) rfl)) (args := #[]))) (mvT hZ (hw _ (List.mem_of_getElem? (i := 26) rfl))) (by decide) (backOf (W := 2) (rm4 l Z aw hw [] a0 a1 k1 vs ((p2 + (1 : Int32))) p3 (-1 : Int32) (0 : Int32) z1 T238.heap n0 Z246 f239 f240 f241 f242 f243 f244 g_a0 f245 ne_a0_a1 hne1 hin1 hz1) hZ (hw _ (List.mem_of_getElem? (i := 26) rfl)) (hw _ (List.mem_of_getElem? (i := 8) rfl)) (by decide) (by decide)) (g := (mkF m 59 #[.val (.ref a0), .val (.ref a1), .val (.int p2), .val (.int p3), .val (.int (0 : Int32))] [(.ref a0), (.int (0 : Int32)), (.ref a0)])) rfl (by rw [hml]; rfl) (Steps.refl _) (a := a0) (by rw [e249]; exact q250) q250' (argsL := []) (rest := [(.int (0 : Int32)), (.ref a0)]) (lenOf pd_1 rfl) rfl (by show 2 * 0 + _ ≤ _; exact Nat.le_of_eq rfl) (hb hby d2_59) (fun _ _ => ⟨rfl, e249, (by decide : 0 + 0 ≤ _), (by decide : 0 + 0 ≤ _)⟩)
  dsimp only [Pt.U, Pt.locs, Pt.cells, Pt.slots] at X250 l250 y250 z250 st250 hQ250
  replace l250 := l250.symm; replace y250 := y250.symm; replace z250 := z250.symm; subst l250 y250 z250
  obtain ⟨rfl, N250q, K250, f251, f252, f253, f254, f255, f256⟩ := hQ250
  have N250 := Fr.app N238 N250q
  have f257 := f245.keep K250 (ninS (Ne.symm ne_a0_a1) nin0)
  have Z258 : n0 ≤ T250.heap.size := Nat.le_trans Z246 K250.1
  have K259 : Keep h0 T250.heap [a0] := Keep.trans K247 K250 (allS (Or.inl (List.mem_of_getElem? (i := 0) rfl)) all0)
  obtain ⟨x260, hx260⟩ : ∃ z_ : Int32, z_ = ((0 : Int32) ||| (z1 &&& (255 : Int32))) := ⟨_, rfl⟩
  have pre261 : ∀ t, Steps p.tables e below (T250.setTop (mkF m 63 #[.val (.ref a0), .val (.ref a1), .val (.int p2), .val (.int p3), .val (.int (0 : Int32))] [(.int x260), (.ref a0)])) t → Steps p.tables e below (s₁.setTop (entryFrame m #[(.ref a0), (.ref a1), (.int p2), (.int p3)] 5)) t := fun t k => by
    refine pre0 t ?_
    show Steps p.tables e below (s₁.setTop (mkF m 0 #[.val (.ref a0), .val (.ref a1), .val (.int p2), .val (.int p3), .unset] [])) _
    refine XS.aloadN X0.here hx rfl (hb hby d2_0) rfl rfl ?_
    show Steps p.tables e below (s₁.setTop (mkF m 1 #[.val (.ref a0), .val (.ref a1), .val (.int p2), .val (.int p3), .unset] [(.ref a0)])) _
    refine st193 _ ?_
    show Steps p.tables e below (T193.setTop (mkF m 4 #[.val (.ref a0), .val (.ref a1), .val (.int p2), .val (.int p3), .unset] [])) _
    refine XS.aloadN X193.here hx rfl (hb hby d2_4) rfl rfl ?_
    show Steps p.tables e below (T193.setTop (mkF m 5 #[.val (.ref a0), .val (.ref a1), .val (.int p2), .val (.int p3), .unset] [(.ref a0)])) _
    refine XS.iconst X193.here hx rfl (hb hby d2_5) ?_
    show Steps p.tables e below (T193.setTop (mkF m 6 #[.val (.ref a0), .val (.ref a1), .val (.int p2), .val (.int p3), .unset] [(.int (-1 : Int32)), (.ref a0)])) _
    refine st194 _ ?_
    show Steps p.tables e below (T194.setTop (mkF m 9 #[.val (.ref a0), .val (.ref a1), .val (.int p2), .val (.int p3), .unset] [])) _
    refine XS.aloadN X194.here hx rfl (hb hby d2_9) rfl rfl ?_
    show Steps p.tables e below (T194.setTop (mkF m 10 #[.val (.ref a0), .val (.ref a1), .val (.int p2), .val (.int p3), .unset] [(.ref a0)])) _
    refine XS.aloadN X194.here hx rfl (hb hby d2_10) rfl rfl ?_
    show Steps p.tables e below (T194.setTop (mkF m 11 #[.val (.ref a0), .val (.ref a1), .val (.int p2), .val (.int p3), .unset] [(.ref a1), (.ref a0)])) _
    refine st205 _ ?_
    show Steps p.tables e below (T205.setTop (mkF m 14 #[.val (.ref a0), .val (.ref a1), .val (.int p2), .val (.int p3), .unset] [])) _
    refine XS.aloadN X205.here hx rfl (hb hby d2_14) rfl rfl ?_
    show Steps p.tables e below (T205.setTop (mkF m 15 #[.val (.ref a0), .val (.ref a1), .val (.int p2), .val (.int p3), .unset] [(.ref a0)])) _
    refine XS.iloadN X205.here hx rfl (hb hby d2_15) rfl ?_
    show Steps p.tables e below (T205.setTop (mkF m 16 #[.val (.ref a0), .val (.ref a1), .val (.int p2), .val (.int p3), .unset] [(.int p2), (.ref a0)])) _
    refine st216 _ ?_
    show Steps p.tables e below (T216.setTop (mkF m 19 #[.val (.ref a0), .val (.ref a1), .val (.int p2), .val (.int p3), .unset] [])) _
    refine XS.aloadN X216.here hx rfl (hb hby d2_19) rfl rfl ?_
    show Steps p.tables e below (T216.setTop (mkF m 20 #[.val (.ref a0), .val (.ref a1), .val (.int p2), .val (.int p3), .unset] [(.ref a0)])) _
    refine XS.iloadN X216.here hx rfl (hb hby d2_20) rfl ?_
    show Steps p.tables e below (T216.setTop (mkF m 21 #[.val (.ref a0), .val (.ref a1), .val (.int p2), .val (.int p3), .unset] [(.int p3), (.ref a0)])) _
    refine st227 _ ?_
    show Steps p.tables e below (T227.setTop (mkF m 24 #[.val (.ref a0), .val (.ref a1), .val (.int p2), .val (.int p3), .unset] [])) _
    refine XS.aloadN X227.here hx rfl (hb hby d2_24) rfl rfl ?_
    show Steps p.tables e below (T227.setTop (mkF m 25 #[.val (.ref a0), .val (.ref a1), .val (.int p2), .val (.int p3), .unset] [(.ref a0)])) _
    refine st238.trans ?_
    show Steps p.tables e below (T238.setTop (mkF m 28 #[.val (.ref a0), .val (.ref a1), .val (.int p2), .val (.int p3), .unset] [(.int ((0 : Int32) &&& (255 : Int32)))])) _
    refine XS.ifYes X238.here hx rfl (pc0 := 28) (pc' := 41) rfl (hb hby d2_28) rfl ((if0 _ _).trans (teq c248).1) (by decide) (by decide) ?_
    show Steps p.tables e below (T238.setTop (mkF m 41 #[.val (.ref a0), .val (.ref a1), .val (.int p2), .val (.int p3), .unset] [])) _
    refine XS.iconst X238.here hx rfl (hb hby d2_41) ?_
    show Steps p.tables e below (T238.setTop (mkF m 42 #[.val (.ref a0), .val (.ref a1), .val (.int p2), .val (.int p3), .unset] [(.int (0 : Int32))])) _
    refine XS.istore X238.here hx rfl (hb hby d2_42) rfl (l' := #[.val (.ref a0), .val (.ref a1), .val (.int p2), .val (.int p3), .val (.int (0 : Int32))]) rfl ?_
    show Steps p.tables e below (T238.setTop (mkF m 44 #[.val (.ref a0), .val (.ref a1), .val (.int p2), .val (.int p3), .val (.int (0 : Int32))] [])) _
    refine XS.iload X238.here hx rfl (hb hby d2_44) rfl ?_
    show Steps p.tables e below (T238.setTop (mkF m 46 #[.val (.ref a0), .val (.ref a1), .val (.int p2), .val (.int p3), .val (.int (0 : Int32))] [(.int (0 : Int32))])) _
    refine XS.iconst X238.here hx rfl (hb hby d2_46) ?_
    show Steps p.tables e below (T238.setTop (mkF m 47 #[.val (.ref a0), .val (.ref a1), .val (.int p2), .val (.int p3), .val (.int (0 : Int32))] [(.int (4 : Int32)), (.int (0 : Int32))])) _
    refine XS.icmpNo X238.here hx rfl (hb hby d2_47) rfl (tlt (by decide)).2.1 ?_
    show Steps p.tables e below (T238.setTop (mkF m 50 #[.val (.ref a0), .val (.ref a1), .val (.int p2), .val (.int p3), .val (.int (0 : Int32))] [])) _
    refine XS.aloadN X238.here hx rfl (hb hby d2_50) rfl rfl ?_
    show Steps p.tables e below (T238.setTop (mkF m 51 #[.val (.ref a0), .val (.ref a1), .val (.int p2), .val (.int p3), .val (.int (0 : Int32))] [(.ref a0)])) _
    refine XS.aloadN X238.here hx rfl (hb hby d2_51) rfl rfl ?_
    show Steps p.tables e below (T238.setTop (mkF m 52 #[.val (.ref a0), .val (.ref a1), .val (.int p2), .val (.int p3), .val (.int (0 : Int32))] [(.ref a0), (.ref a0)])) _
    refine st249 _ ?_
    show Steps p.tables e below (T249.setTop (mkF m 55 #[.val (.ref a0), .val (.ref a1), .val (.int p2), .val (.int p3), .val (.int (0 : Int32))] [(.int (0 : Int32)), (.ref a0)])) _
    refine XS.bipush X249.here hx rfl (hb hby d2_55) ?_
    show Steps p.tables e below (T249.setTop (mkF m 57 #[.val (.ref a0), .val (.ref a1), .val (.int p2), .val (.int p3), .val (.int (0 : Int32))] [(.int (8 : Int32)), (.int (0 : Int32)), (.ref a0)])) _
    refine XS.ishl X249.here hx rfl (hb hby d2_57) rfl ?_
    show Steps p.tables e below (T249.setTop (mkF m 58 #[.val (.ref a0), .val (.ref a1), .val (.int p2), .val (.int p3), .val (.int (0 : Int32))] [(.int (0 : Int32)), (.ref a0)])) _
    refine XS.aloadN X249.here hx rfl (hb hby d2_58) rfl rfl ?_
    show Steps p.tables e below (T249.setTop (mkF m 59 #[.val (.ref a0), .val (.ref a1), .val (.int p2), .val (.int p3), .val (.int (0 : Int32))] [(.ref a0), (.int (0 : Int32)), (.ref a0)])) _
    refine st250.trans ?_
    show Steps p.tables e below (T250.setTop (mkF m 62 #[.val (.ref a0), .val (.ref a1), .val (.int p2), .val (.int p3), .val (.int (0 : Int32))] [(.int (z1 &&& (255 : Int32))), (.int (0 : Int32)), (.ref a0)])) _
    refine XS.ior X250.here hx rfl (hb hby d2_62) rfl ?_
    subst hx260
    exact k
  obtain ⟨T262, h262, X262, e262, W262, st262⟩ := putF X250 hx hZ hown (host := "") (Or.inl (hw _ (List.mem_of_getElem? (i := 27) rfl))) Via.refl rfl f256 f251 (Or.inl (hw _ (List.mem_of_getElem? (i := 28) rfl))) (hw _ (List.mem_of_getElem? (i := 7) rfl)) (ty := .int) (by decide) rfl rfl (g := (mkF m 63 #[.val (.ref a0), .val (.ref a1), .val (.int p2), .val (.int p3), .val (.int (0 : Int32))] [(.int x260), (.ref a0)])) rfl rfl (hb hby d2_63)
  have f263 := f257.other W262 (Ne.symm ne_a0_a1)
  have f264 := f251.wr W262
  have f265 := f252.other W262 (Or.inr (slot_ne (Or.inr (hw _ (List.mem_of_getElem? (i := 18) rfl))) (Or.inl (hw _ (List.mem_of_getElem? (i := 28) rfl))) (by decide) (t := (.array .byte)) (t' := .int) (by decide) (by decide)))
  have f266 := f253.other W262 (Or.inr (slot_ne (Or.inl (hw _ (List.mem_of_getElem? (i := 20) rfl))) (Or.inl (hw _ (List.mem_of_getElem? (i := 28) rfl))) (by decide) (t := .int) (t' := .int) (by decide) (by decide)))
  have f267 := f254.other W262 (Or.inr (slot_ne (Or.inr (hw _ (List.mem_of_getElem? (i := 22) rfl))) (Or.inl (hw _ (List.mem_of_getElem? (i := 28) rfl))) (by decide) (t := .int) (t' := .int) (by decide) (by decide)))
  have f268 := f255.other W262 (Or.inr (slot_ne (Or.inl (hw _ (List.mem_of_getElem? (i := 16) rfl))) (Or.inl (hw _ (List.mem_of_getElem? (i := 28) rfl))) (by decide) (t := .int) (t' := .int) (by decide) (by decide)))
  have Z269 : n0 ≤ h262.size := Nat.le_trans Z258 (Keep.of_wr W262).1
  have K270 : Keep h0 h262 [a0] := Keep.wr K259 W262 (Or.inl (List.mem_of_getElem? (i := 0) rfl))
  have N271 := Fr.snoc X262 N250 g_a0
  have f272 : Fld Z h262 a0 "com/example/sheafworks/sheafworks/storage/RangeCoder$Decoder" "code" "I" (.int x260) := f256.same W262
  obtain ⟨T273, X273, e273, st273⟩ := getF X262 hx hZ hown (host := "") (Or.inl (hw _ (List.mem_of_getElem? (i := 27) rfl))) Via.refl e262 f272 (g := (mkF m 52 #[.val (.ref a0), .val (.ref a1), .val (.int p2), .val (.int p3), .val (.int (1 : Int32))] [(.ref a0), (.ref a0)])) rfl rfl (hb hby d2_52)
  obtain ⟨cq274, q274, q274'⟩ := f264.cell
  obtain ⟨_, _, ⟨T274, L274, k274, n274⟩, -, X274, ⟨Lc274, hQ274, l274, y274, z274⟩, st274⟩ := X273.privateBack hx (y := (⟨"com/example/sheafworks/sheafworks/storage/RangeCoder$Decoder", "next", "()I"⟩ : MethodName)) hown (mvT hZ (hw _ (List.mem_of_getElem? (i := 23) rfl))) (mvT hZ (hw _ (List.mem_of_getElem? (i := 24) rfl))) (selPriv (y0 := (⟨"com/example/sheafworks/sheafworks/storage/RangeCoder$Decoder", "atEnd", "()Z"⟩ : MethodName)) (mvT hZ (hw _ (List.mem_of_getElem? (i := 32) rfl))) rfl (Cond.privateMethod_at (mvP hZ (hw _ (List.mem_of_getElem? (i := 25) rfl)) (args := #[]))) (mvT hZ (hw _ (List.mem_of_getElem? (i := 24) rfl))) (by decide)) (Cond.privateMethod_at (mvP hZ (hw _ (List.mem_of_getElem? (i := 25) rfl)) (args := #[]))) (mvT hZ (hw _ (List.mem_of_getElem? (i := 26) rfl))) (by decide) (backOf (W := 2) (rm4 l Z aw hw [] a0 a1 k1 vs (((p2 + (1 : Int32)) + (1 : Int32))) p3 (-1 : Int32) x260 z2 h262 n0 Z269 f264 f265 f266 f267 f268 f272 g_a0 f263 ne_a0_a1 hne2 hin2 hz2) hZ (hw _ (List.mem_of_getElem? (i := 26) rfl)) (hw _ (List.mem_of_getElem? (i := 8) rfl)) (by decide) (by decide)) (g := (mkF m 59 #[.val (.ref a0), .val (.ref a1), .val (.int p2), .val (.int p3), .val (.int (1 : Int32))] [(.ref a0), (.int (x260 <<< ((8 : Int32) &&& 31))), (.ref a0)])) rfl (by rw [hml]; rfl) (Steps.refl _) (a := a0) (by rw [e273]; exact q274) q274' (argsL := []) (rest := [(.int (x260 <<< ((8 : Int32) &&& 31))), (.ref a0)]) (lenOf pd_1 rfl) rfl (by show 2 * 0 + _ ≤ _; exact Nat.le_of_eq rfl) (hb hby d2_59) (fun _ _ => ⟨rfl, e273, (by decide : 0 + 0 ≤ _), (by decide : 0 + 0 ≤ _)⟩)
  dsimp only [Pt.U, Pt.locs, Pt.cells, Pt.slots] at X274 l274 y274 z274 st274 hQ274
  replace l274 := l274.symm; replace y274 := y274.symm; replace z274 := z274.symm; subst l274 y274 z274
  obtain ⟨rfl, N274q, K274, f275, f276, f277, f278, f279, f280⟩ := hQ274
  have N274 := Fr.app N271 N274q
  have f281 := f263.keep K274 (ninS (Ne.symm ne_a0_a1) nin0)
  have Z282 : n0 ≤ T274.heap.size := Nat.le_trans Z269 K274.1
  have K283 : Keep h0 T274.heap [a0] := Keep.trans K270 K274 (allS (Or.inl (List.mem_of_getElem? (i := 0) rfl)) all0)
  obtain ⟨x284, hx284⟩ : ∃ z_ : Int32, z_ = ((x260 <<< ((8 : Int32) &&& 31)) ||| (z2 &&& (255 : Int32))) := ⟨_, rfl⟩
  have pre285 : ∀ t, Steps p.tables e below (T274.setTop (mkF m 63 #[.val (.ref a0), .val (.ref a1), .val (.int p2), .val (.int p3), .val (.int (1 : Int32))] [(.int x284), (.ref a0)])) t → Steps p.tables e below (s₁.setTop (entryFrame m #[(.ref a0), (.ref a1), (.int p2), (.int p3)] 5)) t := fun t k => by
    refine pre261 t ?_
    show Steps p.tables e below (T250.setTop (mkF m 63 #[.val (.ref a0), .val (.ref a1), .val (.int p2), .val (.int p3), .val (.int (0 : Int32))] [(.int x260), (.ref a0)])) _
    refine st262 _ ?_
    show Steps p.tables e below (T262.setTop (mkF m 66 #[.val (.ref a0), .val (.ref a1), .val (.int p2), .val (.int p3), .val (.int (0 : Int32))] [])) _
    refine XS.iinc X262.here hx rfl (hb hby d2_66) rfl (l' := #[.val (.ref a0), .val (.ref a1), .val (.int p2), .val (.int p3), .val (.int (1 : Int32))]) rfl ?_
    show Steps p.tables e below (T262.setTop (mkF m 69 #[.val (.ref a0), .val (.ref a1), .val (.int p2), .val (.int p3), .val (.int (1 : Int32))] [])) _
    refine XS.goto X262.here hx rfl (pc0 := 69) (pc' := 44) rfl (hb hby d2_69) (by decide) (by decide) ?_
    show Steps p.tables e below (T262.setTop (mkF m 44 #[.val (.ref a0), .val (.ref a1), .val (.int p2), .val (.int p3), .val (.int (1 : Int32))] [])) _
    refine XS.iload X262.here hx rfl (hb hby d2_44) rfl ?_
    show Steps p.tables e below (T262.setTop (mkF m 46 #[.val (.ref a0), .val (.ref a1), .val (.int p2), .val (.int p3), .val (.int (1 : Int32))] [(.int (1 : Int32))])) _
    refine XS.iconst X262.here hx rfl (hb hby d2_46) ?_
    show Steps p.tables e below (T262.setTop (mkF m 47 #[.val (.ref a0), .val (.ref a1), .val (.int p2), .val (.int p3), .val (.int (1 : Int32))] [(.int (4 : Int32)), (.int (1 : Int32))])) _
    refine XS.icmpNo X262.here hx rfl (hb hby d2_47) rfl (tlt (by decide)).2.1 ?_
    show Steps p.tables e below (T262.setTop (mkF m 50 #[.val (.ref a0), .val (.ref a1), .val (.int p2), .val (.int p3), .val (.int (1 : Int32))] [])) _
    refine XS.aloadN X262.here hx rfl (hb hby d2_50) rfl rfl ?_
    show Steps p.tables e below (T262.setTop (mkF m 51 #[.val (.ref a0), .val (.ref a1), .val (.int p2), .val (.int p3), .val (.int (1 : Int32))] [(.ref a0)])) _
    refine XS.aloadN X262.here hx rfl (hb hby d2_51) rfl rfl ?_
    show Steps p.tables e below (T262.setTop (mkF m 52 #[.val (.ref a0), .val (.ref a1), .val (.int p2), .val (.int p3), .val (.int (1 : Int32))] [(.ref a0), (.ref a0)])) _
    refine st273 _ ?_
    show Steps p.tables e below (T273.setTop (mkF m 55 #[.val (.ref a0), .val (.ref a1), .val (.int p2), .val (.int p3), .val (.int (1 : Int32))] [(.int x260), (.ref a0)])) _
    refine XS.bipush X273.here hx rfl (hb hby d2_55) ?_
    show Steps p.tables e below (T273.setTop (mkF m 57 #[.val (.ref a0), .val (.ref a1), .val (.int p2), .val (.int p3), .val (.int (1 : Int32))] [(.int (8 : Int32)), (.int x260), (.ref a0)])) _
    refine XS.ishl X273.here hx rfl (hb hby d2_57) rfl ?_
    show Steps p.tables e below (T273.setTop (mkF m 58 #[.val (.ref a0), .val (.ref a1), .val (.int p2), .val (.int p3), .val (.int (1 : Int32))] [(.int (x260 <<< ((8 : Int32) &&& 31))), (.ref a0)])) _
    refine XS.aloadN X273.here hx rfl (hb hby d2_58) rfl rfl ?_
    show Steps p.tables e below (T273.setTop (mkF m 59 #[.val (.ref a0), .val (.ref a1), .val (.int p2), .val (.int p3), .val (.int (1 : Int32))] [(.ref a0), (.int (x260 <<< ((8 : Int32) &&& 31))), (.ref a0)])) _
    refine st274.trans ?_
    show Steps p.tables e below (T274.setTop (mkF m 62 #[.val (.ref a0), .val (.ref a1), .val (.int p2), .val (.int p3), .val (.int (1 : Int32))] [(.int (z2 &&& (255 : Int32))), (.int (x260 <<< ((8 : Int32) &&& 31))), (.ref a0)])) _
    refine XS.ior X274.here hx rfl (hb hby d2_62) rfl ?_
    subst hx284
    exact k
  obtain ⟨T286, h286, X286, e286, W286, st286⟩ := putF X274 hx hZ hown (host := "") (Or.inl (hw _ (List.mem_of_getElem? (i := 27) rfl))) Via.refl rfl f280 f275 (Or.inl (hw _ (List.mem_of_getElem? (i := 28) rfl))) (hw _ (List.mem_of_getElem? (i := 7) rfl)) (ty := .int) (by decide) rfl rfl (g := (mkF m 63 #[.val (.ref a0), .val (.ref a1), .val (.int p2), .val (.int p3), .val (.int (1 : Int32))] [(.int x284), (.ref a0)])) rfl rfl (hb hby d2_63)
  have f287 := f281.other W286 (Ne.symm ne_a0_a1)
  have f288 := f275.wr W286
  have f289 := f276.other W286 (Or.inr (slot_ne (Or.inr (hw _ (List.mem_of_getElem? (i := 18) rfl))) (Or.inl (hw _ (List.mem_of_getElem? (i := 28) rfl))) (by decide) (t := (.array .byte)) (t' := .int) (by decide) (by decide)))
  have f290 := f277.other W286 (Or.inr (slot_ne (Or.inl (hw _ (List.mem_of_getElem? (i := 20) rfl))) (Or.inl (hw _ (List.mem_of_getElem? (i := 28) rfl))) (by decide) (t := .int) (t' := .int) (by decide) (by decide)))
  have f291 := f278.other W286 (Or.inr (slot_ne (Or.inr (hw _ (List.mem_of_getElem? (i := 22) rfl))) (Or.inl (hw _ (List.mem_of_getElem? (i := 28) rfl))) (by decide) (t := .int) (t' := .int) (by decide) (by decide)))
  have f292 := f279.other W286 (Or.inr (slot_ne (Or.inl (hw _ (List.mem_of_getElem? (i := 16) rfl))) (Or.inl (hw _ (List.mem_of_getElem? (i := 28) rfl))) (by decide) (t := .int) (t' := .int) (by decide) (by decide)))
  have Z293 : n0 ≤ h286.size := Nat.le_trans Z282 (Keep.of_wr W286).1
  have K294 : Keep h0 h286 [a0] := Keep.wr K283 W286 (Or.inl (List.mem_of_getElem? (i := 0) rfl))
  have N295 := Fr.snoc X286 N274 g_a0
  have f296 : Fld Z h286 a0 "com/example/sheafworks/sheafworks/storage/RangeCoder$Decoder" "code" "I" (.int x284) := f280.same W286
  obtain ⟨T297, X297, e297, st297⟩ := getF X286 hx hZ hown (host := "") (Or.inl (hw _ (List.mem_of_getElem? (i := 27) rfl))) Via.refl e286 f296 (g := (mkF m 52 #[.val (.ref a0), .val (.ref a1), .val (.int p2), .val (.int p3), .val (.int (2 : Int32))] [(.ref a0), (.ref a0)])) rfl rfl (hb hby d2_52)
  obtain ⟨cq298, q298, q298'⟩ := f288.cell
  obtain ⟨_, _, ⟨T298, L298, k298, n298⟩, -, X298, ⟨Lc298, hQ298, l298, y298, z298⟩, st298⟩ := X297.privateBack hx (y := (⟨"com/example/sheafworks/sheafworks/storage/RangeCoder$Decoder", "next", "()I"⟩ : MethodName)) hown (mvT hZ (hw _ (List.mem_of_getElem? (i := 23) rfl))) (mvT hZ (hw _ (List.mem_of_getElem? (i := 24) rfl))) (selPriv (y0 := (⟨"com/example/sheafworks/sheafworks/storage/RangeCoder$Decoder", "atEnd", "()Z"⟩ : MethodName)) (mvT hZ (hw _ (List.mem_of_getElem? (i := 32) rfl))) rfl (Cond.privateMethod_at (mvP hZ (hw _ (List.mem_of_getElem? (i := 25) rfl)) (args := #[]))) (mvT hZ (hw _ (List.mem_of_getElem? (i := 24) rfl))) (by decide)) (Cond.privateMethod_at (mvP hZ (hw _ (List.mem_of_getElem? (i := 25) rfl)) (args := #[]))) (mvT hZ (hw _ (List.mem_of_getElem? (i := 26) rfl))) (by decide) (backOf (W := 2) (rm4 l Z aw hw [] a0 a1 k1 vs ((((p2 + (1 : Int32)) + (1 : Int32)) + (1 : Int32))) p3 (-1 : Int32) x284 z3 h286 n0 Z293 f288 f289 f290 f291 f292 f296 g_a0 f287 ne_a0_a1 hne3 hin3 hz3) hZ (hw _ (List.mem_of_getElem? (i := 26) rfl)) (hw _ (List.mem_of_getElem? (i := 8) rfl)) (by decide) (by decide)) (g := (mkF m 59 #[.val (.ref a0), .val (.ref a1), .val (.int p2), .val (.int p3), .val (.int (2 : Int32))] [(.ref a0), (.int (x284 <<< ((8 : Int32) &&& 31))), (.ref a0)])) rfl (by rw [hml]; rfl) (Steps.refl _) (a := a0) (by rw [e297]; exact q298) q298' (argsL := []) (rest := [(.int (x284 <<< ((8 : Int32) &&& 31))), (.ref a0)]) (lenOf pd_1 rfl) rfl (by show 2 * 0 + _ ≤ _; exact Nat.le_of_eq rfl) (hb hby d2_59) (fun _ _ => ⟨rfl, e297, (by decide : 0 + 0 ≤ _), (by decide : 0 + 0 ≤ _)⟩)
  dsimp only [Pt.U, Pt.locs, Pt.cells, Pt.slots] at X298 l298 y298 z298 st298 hQ298
  replace l298 := l298.symm; replace y298 := y298.symm; replace z298 := z298.symm; subst l298 y298 z298
  obtain ⟨rfl, N298q, K298, f299, f300, f301, f302, f303, f304⟩ := hQ298
  have N298 := Fr.app N295 N298q
  have f305 := f287.keep K298 (ninS (Ne.symm ne_a0_a1) nin0)
  have Z306 : n0 ≤ T298.heap.size := Nat.le_trans Z293 K298.1
  have K307 : Keep h0 T298.heap [a0] := Keep.trans K294 K298 (allS (Or.inl (List.mem_of_getElem? (i := 0) rfl)) all0)
  obtain ⟨x308, hx308⟩ : ∃ z_ : Int32, z_ = ((x284 <<< ((8 : Int32) &&& 31)) ||| (z3 &&& (255 : Int32))) := ⟨_, rfl⟩
  have pre309 : ∀ t, Steps p.tables e below (T298.setTop (mkF m 63 #[.val (.ref a0), .val (.ref a1), .val (.int p2), .val (.int p3), .val (.int (2 : Int32))] [(.int x308), (.ref a0)])) t → Steps p.tables e below (s₁.setTop (entryFrame m #[(.ref a0), (.ref a1), (.int p2), (.int p3)] 5)) t := fun t k => by
    refine pre285 t ?_
    show Steps p.tables e below (T274.setTop (mkF m 63 #[.val (.ref a0), .val (.ref a1), .val (.int p2), .val (.int p3), .val (.int (1 : Int32))] [(.int x284), (.ref a0)])) _
    refine st286 _ ?_
    show Steps p.tables e below (T286.setTop (mkF m 66 #[.val (.ref a0), .val (.ref a1), .val (.int p2), .val (.int p3), .val (.int (1 : Int32))] [])) _
    refine XS.iinc X286.here hx rfl (hb hby d2_66) rfl (l' := #[.val (.ref a0), .val (.ref a1), .val (.int p2), .val (.int p3), .val (.int (2 : Int32))]) rfl ?_
    show Steps p.tables e below (T286.setTop (mkF m 69 #[.val (.ref a0), .val (.ref a1), .val (.int p2), .val (.int p3), .val (.int (2 : Int32))] [])) _
    refine XS.goto X286.here hx rfl (pc0 := 69) (pc' := 44) rfl (hb hby d2_69) (by decide) (by decide) ?_
    show Steps p.tables e below (T286.setTop (mkF m 44 #[.val (.ref a0), .val (.ref a1), .val (.int p2), .val (.int p3), .val (.int (2 : Int32))] [])) _
    refine XS.iload X286.here hx rfl (hb hby d2_44) rfl ?_
    show Steps p.tables e below (T286.setTop (mkF m 46 #[.val (.ref a0), .val (.ref a1), .val (.int p2), .val (.int p3), .val (.int (2 : Int32))] [(.int (2 : Int32))])) _
    refine XS.iconst X286.here hx rfl (hb hby d2_46) ?_
    show Steps p.tables e below (T286.setTop (mkF m 47 #[.val (.ref a0), .val (.ref a1), .val (.int p2), .val (.int p3), .val (.int (2 : Int32))] [(.int (4 : Int32)), (.int (2 : Int32))])) _
    refine XS.icmpNo X286.here hx rfl (hb hby d2_47) rfl (tlt (by decide)).2.1 ?_
    show Steps p.tables e below (T286.setTop (mkF m 50 #[.val (.ref a0), .val (.ref a1), .val (.int p2), .val (.int p3), .val (.int (2 : Int32))] [])) _
    refine XS.aloadN X286.here hx rfl (hb hby d2_50) rfl rfl ?_
    show Steps p.tables e below (T286.setTop (mkF m 51 #[.val (.ref a0), .val (.ref a1), .val (.int p2), .val (.int p3), .val (.int (2 : Int32))] [(.ref a0)])) _
    refine XS.aloadN X286.here hx rfl (hb hby d2_51) rfl rfl ?_
    show Steps p.tables e below (T286.setTop (mkF m 52 #[.val (.ref a0), .val (.ref a1), .val (.int p2), .val (.int p3), .val (.int (2 : Int32))] [(.ref a0), (.ref a0)])) _
    refine st297 _ ?_
    show Steps p.tables e below (T297.setTop (mkF m 55 #[.val (.ref a0), .val (.ref a1), .val (.int p2), .val (.int p3), .val (.int (2 : Int32))] [(.int x284), (.ref a0)])) _
    refine XS.bipush X297.here hx rfl (hb hby d2_55) ?_
    show Steps p.tables e below (T297.setTop (mkF m 57 #[.val (.ref a0), .val (.ref a1), .val (.int p2), .val (.int p3), .val (.int (2 : Int32))] [(.int (8 : Int32)), (.int x284), (.ref a0)])) _
    refine XS.ishl X297.here hx rfl (hb hby d2_57) rfl ?_
    show Steps p.tables e below (T297.setTop (mkF m 58 #[.val (.ref a0), .val (.ref a1), .val (.int p2), .val (.int p3), .val (.int (2 : Int32))] [(.int (x284 <<< ((8 : Int32) &&& 31))), (.ref a0)])) _
    refine XS.aloadN X297.here hx rfl (hb hby d2_58) rfl rfl ?_
    show Steps p.tables e below (T297.setTop (mkF m 59 #[.val (.ref a0), .val (.ref a1), .val (.int p2), .val (.int p3), .val (.int (2 : Int32))] [(.ref a0), (.int (x284 <<< ((8 : Int32) &&& 31))), (.ref a0)])) _
    refine st298.trans ?_
    show Steps p.tables e below (T298.setTop (mkF m 62 #[.val (.ref a0), .val (.ref a1), .val (.int p2), .val (.int p3), .val (.int (2 : Int32))] [(.int (z3 &&& (255 : Int32))), (.int (x284 <<< ((8 : Int32) &&& 31))), (.ref a0)])) _
    refine XS.ior X298.here hx rfl (hb hby d2_62) rfl ?_
    subst hx308
    exact k
  obtain ⟨T310, h310, X310, e310, W310, st310⟩ := putF X298 hx hZ hown (host := "") (Or.inl (hw _ (List.mem_of_getElem? (i := 27) rfl))) Via.refl rfl f304 f299 (Or.inl (hw _ (List.mem_of_getElem? (i := 28) rfl))) (hw _ (List.mem_of_getElem? (i := 7) rfl)) (ty := .int) (by decide) rfl rfl (g := (mkF m 63 #[.val (.ref a0), .val (.ref a1), .val (.int p2), .val (.int p3), .val (.int (2 : Int32))] [(.int x308), (.ref a0)])) rfl rfl (hb hby d2_63)
  have f311 := f305.other W310 (Ne.symm ne_a0_a1)
  have f312 := f299.wr W310
  have f313 := f300.other W310 (Or.inr (slot_ne (Or.inr (hw _ (List.mem_of_getElem? (i := 18) rfl))) (Or.inl (hw _ (List.mem_of_getElem? (i := 28) rfl))) (by decide) (t := (.array .byte)) (t' := .int) (by decide) (by decide)))
  have f314 := f301.other W310 (Or.inr (slot_ne (Or.inl (hw _ (List.mem_of_getElem? (i := 20) rfl))) (Or.inl (hw _ (List.mem_of_getElem? (i := 28) rfl))) (by decide) (t := .int) (t' := .int) (by decide) (by decide)))
  have f315 := f302.other W310 (Or.inr (slot_ne (Or.inr (hw _ (List.mem_of_getElem? (i := 22) rfl))) (Or.inl (hw _ (List.mem_of_getElem? (i := 28) rfl))) (by decide) (t := .int) (t' := .int) (by decide) (by decide)))
  have f316 := f303.other W310 (Or.inr (slot_ne (Or.inl (hw _ (List.mem_of_getElem? (i := 16) rfl))) (Or.inl (hw _ (List.mem_of_getElem? (i := 28) rfl))) (by decide) (t := .int) (t' := .int) (by decide) (by decide)))
  have Z317 : n0 ≤ h310.size := Nat.le_trans Z306 (Keep.of_wr W310).1
  have K318 : Keep h0 h310 [a0] := Keep.wr K307 W310 (Or.inl (List.mem_of_getElem? (i := 0) rfl))
  have N319 := Fr.snoc X310 N298 g_a0
  have f320 : Fld Z h310 a0 "com/example/sheafworks/sheafworks/storage/RangeCoder$Decoder" "code" "I" (.int x308) := f304.same W310
  obtain ⟨T321, X321, e321, st321⟩ := getF X310 hx hZ hown (host := "") (Or.inl (hw _ (List.mem_of_getElem? (i := 27) rfl))) Via.refl e310 f320 (g := (mkF m 52 #[.val (.ref a0), .val (.ref a1), .val (.int p2), .val (.int p3), .val (.int (3 : Int32))] [(.ref a0), (.ref a0)])) rfl rfl (hb hby d2_52)
  obtain ⟨cq322, q322, q322'⟩ := f312.cell
  obtain ⟨_, _, ⟨T322, L322, k322, n322⟩, -, X322, ⟨Lc322, hQ322, l322, y322, z322⟩, st322⟩ := X321.privateBack hx (y := (⟨"com/example/sheafworks/sheafworks/storage/RangeCoder$Decoder", "next", "()I"⟩ : MethodName)) hown (mvT hZ (hw _ (List.mem_of_getElem? (i := 23) rfl))) (mvT hZ (hw _ (List.mem_of_getElem? (i := 24) rfl))) (selPriv (y0 := (⟨"com/example/sheafworks/sheafworks/storage/RangeCoder$Decoder", "atEnd", "()Z"⟩ : MethodName)) (mvT hZ (hw _ (List.mem_of_getElem? (i := 32) rfl))) rfl (Cond.privateMethod_at (mvP hZ (hw _ (List.mem_of_getElem? (i := 25) rfl)) (args := #[]))) (mvT hZ (hw _ (List.mem_of_getElem? (i := 24) rfl))) (by decide)) (Cond.privateMethod_at (mvP hZ (hw _ (List.mem_of_getElem? (i := 25) rfl)) (args := #[]))) (mvT hZ (hw _ (List.mem_of_getElem? (i := 26) rfl))) (by decide) (backOf (W := 2) (rm4 l Z aw hw [] a0 a1 k1 vs (((((p2 + (1 : Int32)) + (1 : Int32)) + (1 : Int32)) + (1 : Int32))) p3 (-1 : Int32) x308 z4 h310 n0 Z317 f312 f313 f314 f315 f316 f320 g_a0 f311 ne_a0_a1 hne4 hin4 hz4) hZ (hw _ (List.mem_of_getElem? (i := 26) rfl)) (hw _ (List.mem_of_getElem? (i := 8) rfl)) (by decide) (by decide)) (g := (mkF m 59 #[.val (.ref a0), .val (.ref a1), .val (.int p2), .val (.int p3), .val (.int (3 : Int32))] [(.ref a0), (.int (x308 <<< ((8 : Int32) &&& 31))), (.ref a0)])) rfl (by rw [hml]; rfl) (Steps.refl _) (a := a0) (by rw [e321]; exact q322) q322' (argsL := []) (rest := [(.int (x308 <<< ((8 : Int32) &&& 31))), (.ref a0)]) (lenOf pd_1 rfl) rfl (by show 2 * 0 + _ ≤ _; exact Nat.le_of_eq rfl) (hb hby d2_59) (fun _ _ => ⟨rfl, e321, (by decide : 0 + 0 ≤ _), (by decide : 0 + 0 ≤ _)⟩)
  dsimp only [Pt.U, Pt.locs, Pt.cells, Pt.slots] at X322 l322 y322 z322 st322 hQ322
  replace l322 := l322.symm; replace y322 := y322.symm; replace z322 := z322.symm; subst l322 y322 z322
  obtain ⟨rfl, N322q, K322, f323, f324, f325, f326, f327, f328⟩ := hQ322
  have N322 := Fr.app N319 N322q
  have f329 := f311.keep K322 (ninS (Ne.symm ne_a0_a1) nin0)
  have Z330 : n0 ≤ T322.heap.size := Nat.le_trans Z317 K322.1
  have K331 : Keep h0 T322.heap [a0] := Keep.trans K318 K322 (allS (Or.inl (List.mem_of_getElem? (i := 0) rfl)) all0)
  obtain ⟨x332, hx332⟩ : ∃ z_ : Int32, z_ = ((x308 <<< ((8 : Int32) &&& 31)) ||| (z4 &&& (255 : Int32))) := ⟨_, rfl⟩
  have pre333 : ∀ t, Steps p.tables e below (T322.setTop (mkF m 63 #[.val (.ref a0), .val (.ref a1), .val (.int p2), .val (.int p3), .val (.int (3 : Int32))] [(.int x332), (.ref a0)])) t → Steps p.tables e below (s₁.setTop (entryFrame m #[(.ref a0), (.ref a1), (.int p2), (.int p3)] 5)) t := fun t k => by
    refine pre309 t ?_
    show Steps p.tables e below (T298.setTop (mkF m 63 #[.val (.ref a0), .val (.ref a1), .val (.int p2), .val (.int p3), .val (.int (2 : Int32))] [(.int x308), (.ref a0)])) _
    refine st310 _ ?_
    show Steps p.tables e below (T310.setTop (mkF m 66 #[.val (.ref a0), .val (.ref a1), .val (.int p2), .val (.int p3), .val (.int (2 : Int32))] [])) _
    refine XS.iinc X310.here hx rfl (hb hby d2_66) rfl (l' := #[.val (.ref a0), .val (.ref a1), .val (.int p2), .val (.int p3), .val (.int (3 : Int32))]) rfl ?_
    show Steps p.tables e below (T310.setTop (mkF m 69 #[.val (.ref a0), .val (.ref a1), .val (.int p2), .val (.int p3), .val (.int (3 : Int32))] [])) _
    refine XS.goto X310.here hx rfl (pc0 := 69) (pc' := 44) rfl (hb hby d2_69) (by decide) (by decide) ?_
    show Steps p.tables e below (T310.setTop (mkF m 44 #[.val (.ref a0), .val (.ref a1), .val (.int p2), .val (.int p3), .val (.int (3 : Int32))] [])) _
    refine XS.iload X310.here hx rfl (hb hby d2_44) rfl ?_
    show Steps p.tables e below (T310.setTop (mkF m 46 #[.val (.ref a0), .val (.ref a1), .val (.int p2), .val (.int p3), .val (.int (3 : Int32))] [(.int (3 : Int32))])) _
    refine XS.iconst X310.here hx rfl (hb hby d2_46) ?_
    show Steps p.tables e below (T310.setTop (mkF m 47 #[.val (.ref a0), .val (.ref a1), .val (.int p2), .val (.int p3), .val (.int (3 : Int32))] [(.int (4 : Int32)), (.int (3 : Int32))])) _
    refine XS.icmpNo X310.here hx rfl (hb hby d2_47) rfl (tlt (by decide)).2.1 ?_
    show Steps p.tables e below (T310.setTop (mkF m 50 #[.val (.ref a0), .val (.ref a1), .val (.int p2), .val (.int p3), .val (.int (3 : Int32))] [])) _
    refine XS.aloadN X310.here hx rfl (hb hby d2_50) rfl rfl ?_
    show Steps p.tables e below (T310.setTop (mkF m 51 #[.val (.ref a0), .val (.ref a1), .val (.int p2), .val (.int p3), .val (.int (3 : Int32))] [(.ref a0)])) _
    refine XS.aloadN X310.here hx rfl (hb hby d2_51) rfl rfl ?_
    show Steps p.tables e below (T310.setTop (mkF m 52 #[.val (.ref a0), .val (.ref a1), .val (.int p2), .val (.int p3), .val (.int (3 : Int32))] [(.ref a0), (.ref a0)])) _
    refine st321 _ ?_
    show Steps p.tables e below (T321.setTop (mkF m 55 #[.val (.ref a0), .val (.ref a1), .val (.int p2), .val (.int p3), .val (.int (3 : Int32))] [(.int x308), (.ref a0)])) _
    refine XS.bipush X321.here hx rfl (hb hby d2_55) ?_
    show Steps p.tables e below (T321.setTop (mkF m 57 #[.val (.ref a0), .val (.ref a1), .val (.int p2), .val (.int p3), .val (.int (3 : Int32))] [(.int (8 : Int32)), (.int x308), (.ref a0)])) _
    refine XS.ishl X321.here hx rfl (hb hby d2_57) rfl ?_
    show Steps p.tables e below (T321.setTop (mkF m 58 #[.val (.ref a0), .val (.ref a1), .val (.int p2), .val (.int p3), .val (.int (3 : Int32))] [(.int (x308 <<< ((8 : Int32) &&& 31))), (.ref a0)])) _
    refine XS.aloadN X321.here hx rfl (hb hby d2_58) rfl rfl ?_
    show Steps p.tables e below (T321.setTop (mkF m 59 #[.val (.ref a0), .val (.ref a1), .val (.int p2), .val (.int p3), .val (.int (3 : Int32))] [(.ref a0), (.int (x308 <<< ((8 : Int32) &&& 31))), (.ref a0)])) _
    refine st322.trans ?_
    show Steps p.tables e below (T322.setTop (mkF m 62 #[.val (.ref a0), .val (.ref a1), .val (.int p2), .val (.int p3), .val (.int (3 : Int32))] [(.int (z4 &&& (255 : Int32))), (.int (x308 <<< ((8 : Int32) &&& 31))), (.ref a0)])) _
    refine XS.ior X322.here hx rfl (hb hby d2_62) rfl ?_
    subst hx332
    exact k
  obtain ⟨T334, h334, X334, e334, W334, st334⟩ := putF X322 hx hZ hown (host := "") (Or.inl (hw _ (List.mem_of_getElem? (i := 27) rfl))) Via.refl rfl f328 f323 (Or.inl (hw _ (List.mem_of_getElem? (i := 28) rfl))) (hw _ (List.mem_of_getElem? (i := 7) rfl)) (ty := .int) (by decide) rfl rfl (g := (mkF m 63 #[.val (.ref a0), .val (.ref a1), .val (.int p2), .val (.int p3), .val (.int (3 : Int32))] [(.int x332), (.ref a0)])) rfl rfl (hb hby d2_63)
  have f335 := f329.other W334 (Ne.symm ne_a0_a1)
  have f336 := f323.wr W334
  have f337 := f324.other W334 (Or.inr (slot_ne (Or.inr (hw _ (List.mem_of_getElem? (i := 18) rfl))) (Or.inl (hw _ (List.mem_of_getElem? (i := 28) rfl))) (by decide) (t := (.array .byte)) (t' := .int) (by decide) (by decide)))
  have f338 := f325.other W334 (Or.inr (slot_ne (Or.inl (hw _ (List.mem_of_getElem? (i := 20) rfl))) (Or.inl (hw _ (List.mem_of_getElem? (i := 28) rfl))) (by decide) (t := .int) (t' := .int) (by decide) (by decide)))
  have f339 := f326.other W334 (Or.inr (slot_ne (Or.inr (hw _ (List.mem_of_getElem? (i := 22) rfl))) (Or.inl (hw _ (List.mem_of_getElem? (i := 28) rfl))) (by decide) (t := .int) (t' := .int) (by decide) (by decide)))
  have f340 := f327.other W334 (Or.inr (slot_ne (Or.inl (hw _ (List.mem_of_getElem? (i := 16) rfl))) (Or.inl (hw _ (List.mem_of_getElem? (i := 28) rfl))) (by decide) (t := .int) (t' := .int) (by decide) (by decide)))
  have Z341 : n0 ≤ h334.size := Nat.le_trans Z330 (Keep.of_wr W334).1
  have K342 : Keep h0 h334 [a0] := Keep.wr K331 W334 (Or.inl (List.mem_of_getElem? (i := 0) rfl))
  have N343 := Fr.snoc X334 N322 g_a0
  have f344 : Fld Z h334 a0 "com/example/sheafworks/sheafworks/storage/RangeCoder$Decoder" "code" "I" (.int x332) := f328.same W334
  obtain ⟨fs, hr, hrun, hended, hW, hsame⟩ := X334.leave (v := none) (fun _ => rfl)
  refine ⟨_, _, pre333 _ ?_, hrun, hended, _, _, rfl, ?_, ⟨_, rfl⟩, hW, hsame.mono (by decide) (by decide)⟩
  ·
    show Steps p.tables e below (T322.setTop (mkF m 63 #[.val (.ref a0), .val (.ref a1), .val (.int p2), .val (.int p3), .val (.int (3 : Int32))] [(.int x332), (.ref a0)])) _
    refine st334 _ ?_
    show Steps p.tables e below (T334.setTop (mkF m 66 #[.val (.ref a0), .val (.ref a1), .val (.int p2), .val (.int p3), .val (.int (3 : Int32))] [])) _
    refine XS.iinc X334.here hx rfl (hb hby d2_66) rfl (l' := #[.val (.ref a0), .val (.ref a1), .val (.int p2), .val (.int p3), .val (.int (4 : Int32))]) rfl ?_
    show Steps p.tables e below (T334.setTop (mkF m 69 #[.val (.ref a0), .val (.ref a1), .val (.int p2), .val (.int p3), .val (.int (4 : Int32))] [])) _
    refine XS.goto X334.here hx rfl (pc0 := 69) (pc' := 44) rfl (hb hby d2_69) (by decide) (by decide) ?_
    show Steps p.tables e below (T334.setTop (mkF m 44 #[.val (.ref a0), .val (.ref a1), .val (.int p2), .val (.int p3), .val (.int (4 : Int32))] [])) _
    refine XS.iload X334.here hx rfl (hb hby d2_44) rfl ?_
    show Steps p.tables e below (T334.setTop (mkF m 46 #[.val (.ref a0), .val (.ref a1), .val (.int p2), .val (.int p3), .val (.int (4 : Int32))] [(.int (4 : Int32))])) _
    refine XS.iconst X334.here hx rfl (hb hby d2_46) ?_
    show Steps p.tables e below (T334.setTop (mkF m 47 #[.val (.ref a0), .val (.ref a1), .val (.int p2), .val (.int p3), .val (.int (4 : Int32))] [(.int (4 : Int32)), (.int (4 : Int32))])) _
    refine XS.icmpYes X334.here hx rfl (pc0 := 47) (pc' := 72) rfl (hb hby d2_47) rfl (flt (by decide)).2.1 (by decide) (by decide) ?_
    show Steps p.tables e below (T334.setTop (mkF m 72 #[.val (.ref a0), .val (.ref a1), .val (.int p2), .val (.int p3), .val (.int (4 : Int32))] [])) _
    exact X334.returnOut hx Bd.returns (hb hby d2_72) hr
  ·
    show Q_rm2 Z a0 a1 p2 p3 k1 vs z1 z2 z3 z4 h0 n0 _ T334.heap _
    rw [e334]
    exact ⟨x332, rfl, N343, K342, f336, f337, f338, f339, f340, f344⟩
theorem d6_0 : decode prog_79_method_3_code 0 = .ok (.iconst 0, 1) := by decide +kernel
theorem d6_1 : decode prog_79_method_3_code 1 = .ok (.istore_n 2, 1) := by decide +kernel
theorem d6_2 : decode prog_79_method_3_code 2 = .ok (.iconst 0, 1) := by decide +kernel
theorem d6_3 : decode prog_79_method_3_code 3 = .ok (.istore_n 3, 1) := by decide +kernel
theorem d6_4 : decode prog_79_method_3_code 4 = .ok (.iload_n 3, 1) := by decide +kernel
theorem d6_5 : decode prog_79_method_3_code 5 = .ok (.iload_n 1, 1) := by decide +kernel
theorem d6_6 : decode prog_79_method_3_code 6 = .ok (.if_icmp .ge 103, 3) := by decide +kernel
theorem d6_9 : decode prog_79_method_3_code 9 = .ok (.aload_n 0, 1) := by decide +kernel
theorem d6_10 : decode prog_79_method_3_code 10 = .ok (.dup, 1) := by decide +kernel
theorem d6_11 : decode prog_79_method_3_code 11 = .ok (.getfield 9, 3) := by decide +kernel
theorem d6_14 : decode prog_79_method_3_code 14 = .ok (.iconst 1, 1) := by decide +kernel
theorem d6_15 : decode prog_79_method_3_code 15 = .ok (.iushr, 1) := by decide +kernel
theorem d6_16 : decode prog_79_method_3_code 16 = .ok (.putfield 9, 3) := by decide +kernel
theorem d6_19 : decode prog_79_method_3_code 19 = .ok (.aload_n 0, 1) := by decide +kernel
theorem d6_20 : decode prog_79_method_3_code 20 = .ok (.getfield 38, 3) := by decide +kernel
theorem d6_23 : decode prog_79_method_3_code 23 = .ok (.aload_n 0, 1) := by decide +kernel
theorem d6_24 : decode prog_79_method_3_code 24 = .ok (.getfield 9, 3) := by decide +kernel
theorem d6_27 : decode prog_79_method_3_code 27 = .ok (.invokestatic 41, 3) := by decide +kernel
theorem d6_30 : decode prog_79_method_3_code 30 = .ok (.ifCond .lt 7, 3) := by decide +kernel
theorem d6_37 : decode prog_79_method_3_code 37 = .ok (.iconst 0, 1) := by decide +kernel
theorem d6_33 : decode prog_79_method_3_code 33 = .ok (.iconst 1, 1) := by decide +kernel
theorem d6_34 : decode prog_79_method_3_code 34 = .ok (.goto 4, 3) := by decide +kernel
theorem d6_38 : decode prog_79_method_3_code 38 = .ok (.istore 4, 2) := by decide +kernel
theorem d6_40 : decode prog_79_method_3_code 40 = .ok (.aload_n 0, 1) := by decide +kernel
theorem d6_41 : decode prog_79_method_3_code 41 = .ok (.dup, 1) := by decide +kernel
theorem d6_42 : decode prog_79_method_3_code 42 = .ok (.getfield 38, 3) := by decide +kernel
theorem d6_45 : decode prog_79_method_3_code 45 = .ok (.aload_n 0, 1) := by decide +kernel
theorem d6_46 : decode prog_79_method_3_code 46 = .ok (.getfield 9, 3) := by decide +kernel
theorem d6_49 : decode prog_79_method_3_code 49 = .ok (.iload 4, 2) := by decide +kernel
theorem d6_51 : decode prog_79_method_3_code 51 = .ok (.ineg, 1) := by decide +kernel
theorem d6_52 : decode prog_79_method_3_code 52 = .ok (.iand, 1) := by decide +kernel
theorem d6_53 : decode prog_79_method_3_code 53 = .ok (.isub, 1) := by decide +kernel
theorem d6_54 : decode prog_79_method_3_code 54 = .ok (.putfield 38, 3) := by decide +kernel
theorem d6_57 : decode prog_79_method_3_code 57 = .ok (.iload_n 2, 1) := by decide +kernel
theorem d6_58 : decode prog_79_method_3_code 58 = .ok (.iconst 1, 1) := by decide +kernel
theorem d6_59 : decode prog_79_method_3_code 59 = .ok (.ishl, 1) := by decide +kernel
theorem d6_60 : decode prog_79_method_3_code 60 = .ok (.iload 4, 2) := by decide +kernel
theorem d6_62 : decode prog_79_method_3_code 62 = .ok (.ior, 1) := by decide +kernel
theorem d6_63 : decode prog_79_method_3_code 63 = .ok (.istore_n 2, 1) := by decide +kernel
theorem d6_64 : decode prog_79_method_3_code 64 = .ok (.aload_n 0, 1) := by decide +kernel
theorem d6_65 : decode prog_79_method_3_code 65 = .ok (.getfield 9, 3) := by decide +kernel
theorem d6_68 : decode prog_79_method_3_code 68 = .ok (.ldc 48, 2) := by decide +kernel
theorem d6_70 : decode prog_79_method_3_code 70 = .ok (.invokestatic 41, 3) := by decide +kernel
theorem d6_73 : decode prog_79_method_3_code 73 = .ok (.ifCond .ge 30, 3) := by decide +kernel
theorem d6_103 : decode prog_79_method_3_code 103 = .ok (.iinc 3 1, 3) := by decide +kernel
theorem d6_106 : decode prog_79_method_3_code 106 = .ok (.goto (-102), 3) := by decide +kernel
theorem d6_76 : decode prog_79_method_3_code 76 = .ok (.aload_n 0, 1) := by decide +kernel
theorem d6_77 : decode prog_79_method_3_code 77 = .ok (.dup, 1) := by decide +kernel
theorem d6_78 : decode prog_79_method_3_code 78 = .ok (.getfield 9, 3) := by decide +kernel
theorem d6_81 : decode prog_79_method_3_code 81 = .ok (.bipush 8, 2) := by decide +kernel
theorem d6_83 : decode prog_79_method_3_code 83 = .ok (.ishl, 1) := by decide +kernel
theorem d6_84 : decode prog_79_method_3_code 84 = .ok (.putfield 9, 3) := by decide +kernel
theorem d6_87 : decode prog_79_method_3_code 87 = .ok (.aload_n 0, 1) := by decide +kernel
theorem d6_88 : decode prog_79_method_3_code 88 = .ok (.aload_n 0, 1) := by decide +kernel
theorem d6_89 : decode prog_79_method_3_code 89 = .ok (.getfield 38, 3) := by decide +kernel
theorem d6_92 : decode prog_79_method_3_code 92 = .ok (.bipush 8, 2) := by decide +kernel
theorem d6_94 : decode prog_79_method_3_code 94 = .ok (.ishl, 1) := by decide +kernel
theorem d6_95 : decode prog_79_method_3_code 95 = .ok (.aload_n 0, 1) := by decide +kernel
theorem d6_96 : decode prog_79_method_3_code 96 = .ok (.invokevirtual 25, 3) := by decide +kernel
theorem d6_99 : decode prog_79_method_3_code 99 = .ok (.ior, 1) := by decide +kernel
theorem d6_100 : decode prog_79_method_3_code 100 = .ok (.putfield 38, 3) := by decide +kernel
theorem d6_109 : decode prog_79_method_3_code 109 = .ok (.iload_n 2, 1) := by decide +kernel
theorem d6_110 : decode prog_79_method_3_code 110 = .ok (.ireturn, 1) := by decide +kernel
theorem ef_rm6 (m : MethodId) (a0 : Addr) : entryFrame m #[(.ref a0), (.int (8 : Int32))] 5 = mkF m 0 #[.val (.ref a0), .val (.int (8 : Int32)), .unset, .unset, .unset] [] := by first | (simp [entryFrame, mkF, argsToLocals, Value.category]; done) | rfl
def Q_rm6 (Z : State) (a0 : Addr) (a1 : Addr) (k1 : ClassId) (vs : List Value) (w : Int32) (u : Int32) (cd : Int32) (z : Int32) (h0 : Heap) (n0 : Nat) (v : Option Value) (h : Heap) (L : List Loc) : Prop := ∃ rv : Int32, v = some (.int rv) ∧ Fr n0 L ∧ Keep h0 h [a0] ∧ Exa Z h a0 "com/example/sheafworks/sheafworks/storage/RangeCoder$Decoder" ∧ Fld Z h a0 "com/example/sheafworks/sheafworks/storage/RangeCoder$Decoder" "position" "I" (.int (w + (1 : Int32))) ∧ Fld Z h a0 "com/example/sheafworks/sheafworks/storage/RangeCoder$Decoder" "end" "I" (.int u)
set_option maxRecDepth 65536 in
set_option maxHeartbeats 40000000 in
theorem rm6 (l : Launch) (Z : State) (aw : Array Value) (hw : ∀ d ∈ tables_1, d.before aw Z = true) (ws : List Jvm.Cond) (a0 : Addr) (a1 : Addr) (k1 : ClassId) (vs : List Value) (w : Int32) (u : Int32) (cd : Int32) (z : Int32) (h0 : Heap) (n0 : Nat) (Z0 : n0 ≤ h0.size) (E_a0 : Exa Z h0 a0 "com/example/sheafworks/sheafworks/storage/RangeCoder$Decoder") (F_a0_in : Fld Z h0 a0 "com/example/sheafworks/sheafworks/storage/RangeCoder$Decoder" "in" "[B" (.ref a1)) (F_a0_position : Fld Z h0 a0 "com/example/sheafworks/sheafworks/storage/RangeCoder$Decoder" "position" "I" (.int w)) (F_a0_end : Fld Z h0 a0 "com/example/sheafworks/sheafworks/storage/RangeCoder$Decoder" "end" "I" (.int u)) (F_a0_range : Fld Z h0 a0 "com/example/sheafworks/sheafworks/storage/RangeCoder$Decoder" "range" "I" (.int (-1 : Int32))) (F_a0_code : Fld Z h0 a0 "com/example/sheafworks/sheafworks/storage/RangeCoder$Decoder" "code" "I" (.int cd)) (g_a0 : n0 ≤ a0) (V_a1 : Arv Z h0 a1 k1 .byte (12 : Int32) vs (.int (0 : Int32))) (ne_a0_a1 : a0 ≠ a1) (hne : ¬ (w = u)) (hin : ¬ w < (0 : Int32) ∧ w < (12 : Int32)) (hz : vs.getD w.toNatClampNeg (.int (0 : Int32)) = .int z) :
    MetFree l (⟨"com/example/sheafworks/sheafworks/storage/RangeCoder$Decoder", "direct", "(I)I"⟩ : MethodName) (head1 (Jvm.Cond.code (⟨"com/example/sheafworks/sheafworks/storage/RangeCoder$Decoder", "direct", "(I)I"⟩ : MethodName) prog_79_method_3_code 5 (some .int) :: ws) ({ frames := 2, cells := 0, slots := 0, locals := 26 } : Room)) (fun a U => a = #[(.ref a0), (.int (8 : Int32))] ∧ Z.Warmed39 U.vm ∧ U.heap = h0) (fun _ _ _ _ _ => True) (fun _ U o U' => ∃ v L, o = .returned v ∧ Q_rm6 Z a0 a1 k1 vs w u cd z h0 n0 v U'.heap L ∧ FrameEnd U o U' L ({ frames := 2, cells := 0, slots := 0, locals := 26 } : Room).cells ({ frames := 2, cells := 0, slots := 0, locals := 26 } : Room).slots) := by
  refine MetFree.of_bodySF (plainFor_of_name pn_2) hisR ?_
  intro p e s m args below meth c s₁ Bd hml0 hP hK
  obtain ⟨rfl, hZ, hh⟩ := hP
  have hx := Bd.exec
  have hby := Bd.bytes
  have hml : c.maxLocals = 5 := hml0
  have hown : s.vm.findClass "com/example/sheafworks/sheafworks/storage/RangeCoder$Decoder" = some m.cls := findClass_of_methodNamed Bd.named
  have hnm := (name_of_methodNamed Bd.named Bd.method).1
  have X0 : Stand p l e ({ frames := 2, cells := 0, slots := 0, locals := 26 } : Room) s m #[(.ref a0), (.int (8 : Int32))] below meth c s₁ [] 0 0 := Stand.of_body Bd
  have e0 : s₁.heap = h0 := by rw [← hh, Bd.state]; rfl
  have N0 := Fr.nil n0
  have pre0 : ∀ t, Steps p.tables e below (s₁.setTop (mkF m 0 #[.val (.ref a0), .val (.int (8 : Int32)), .unset, .unset, .unset] [])) t → Steps p.tables e below (s₁.setTop (entryFrame m #[(.ref a0), (.int (8 : Int32))] 5)) t := fun t k => castTop (ef_rm6 m a0) k
  have KC0 : Keep h0 h0 [a0] := Keep.refl h0 [a0]
  obtain ⟨T345, X345, e345, st345⟩ := getF X0 hx hZ hown (host := "") (Or.inl (hw _ (List.mem_of_getElem? (i := 15) rfl))) Via.refl e0 F_a0_range (g := (mkF m 11 #[.val (.ref a0), .val (.int (8 : Int32)), .val (.int (0 : Int32)), .val (.int (0 : Int32)), .unset] [(.ref a0), (.ref a0)])) rfl rfl (hb hby d6_11)
  obtain ⟨T346, h346, X346, e346, W346, st346⟩ := putF X345 hx hZ hown (host := "") (Or.inl (hw _ (List.mem_of_getElem? (i := 15) rfl))) Via.refl e345 F_a0_range E_a0 (Or.inl (hw _ (List.mem_of_getElem? (i := 16) rfl))) (hw _ (List.mem_of_getElem? (i := 7) rfl)) (ty := .int) (by decide) rfl rfl (g := (mkF m 16 #[.val (.ref a0), .val (.int (8 : Int32)), .val (.int (0 : Int32)), .val (.int (0 : Int32)), .unset] [(.int (2147483647 : Int32)), (.ref a0)])) rfl rfl (hb hby d6_16)
  have f347 := E_a0.wr W346
  have f348 := F_a0_in.other W346 (Or.inr (slot_ne (Or.inr (hw _ (List.mem_of_getElem? (i := 18) rfl))) (Or.inl (hw _ (List.mem_of_getElem? (i := 16) rfl))) (by decide) (t := (.array .byte)) (t' := .int) (by decide) (by decide)))
  have f349 := F_a0_position.other W346 (Or.inr (slot_ne (Or.inl (hw _ (List.mem_of_getElem? (i := 20) rfl))) (Or.inl (hw _ (List.mem_of_getElem? (i := 16) rfl))) (by decide) (t := .int) (t' := .int) (by decide) (by decide)))
  have f350 := F_a0_end.other W346 (Or.inr (slot_ne (Or.inr (hw _ (List.mem_of_getElem? (i := 22) rfl))) (Or.inl (hw _ (List.mem_of_getElem? (i := 16) rfl))) (by decide) (t := .int) (t' := .int) (by decide) (by decide)))
  have f351 := F_a0_code.other W346 (Or.inr (slot_ne (Or.inl (hw _ (List.mem_of_getElem? (i := 28) rfl))) (Or.inl (hw _ (List.mem_of_getElem? (i := 16) rfl))) (by decide) (t := .int) (t' := .int) (by decide) (by decide)))
  have f352 := V_a1.other W346 (Ne.symm ne_a0_a1)
  have Z353 : n0 ≤ h346.size := Nat.le_trans Z0 (Keep.of_wr W346).1
  have K354 : Keep h0 h346 [a0] := Keep.wr KC0 W346 (Or.inl (List.mem_of_getElem? (i := 0) rfl))
  have N355 := Fr.snoc X346 N0 g_a0
  have f356 : Fld Z h346 a0 "com/example/sheafworks/sheafworks/storage/RangeCoder$Decoder" "range" "I" (.int (2147483647 : Int32)) := F_a0_range.same W346
  obtain ⟨T357, X357, e357, st357⟩ := getF X346 hx hZ hown (host := "") (Or.inl (hw _ (List.mem_of_getElem? (i := 27) rfl))) Via.refl e346 f351 (g := (mkF m 20 #[.val (.ref a0), .val (.int (8 : Int32)), .val (.int (0 : Int32)), .val (.int (0 : Int32)), .unset] [(.ref a0)])) rfl rfl (hb hby d6_20)
  obtain ⟨T358, X358, e358, st358⟩ := getF X357 hx hZ hown (host := "") (Or.inl (hw _ (List.mem_of_getElem? (i := 15) rfl))) Via.refl e357 f356 (g := (mkF m 24 #[.val (.ref a0), .val (.int (8 : Int32)), .val (.int (0 : Int32)), .val (.int (0 : Int32)), .unset] [(.ref a0), (.int cd)])) rfl rfl (hb hby d6_24)
  obtain ⟨_, _, ⟨T359, L359, k359, n359⟩, -, X359, ⟨Lc359, hQ359, l359, y359, z359⟩, st359⟩ := Jvm.LawKit.callS X358 hx (y := (⟨"java/lang/Integer", "compareUnsigned", "(II)I"⟩ : MethodName)) hown (mvT hZ (hw _ (List.mem_of_getElem? (i := 39) rfl))) (mvT hZ (hw _ (List.mem_of_getElem? (i := 40) rfl))) (mvT hZ (hw _ (List.mem_of_getElem? (i := 41) rfl))) (mvT hZ (hw _ (List.mem_of_getElem? (i := 42) rfl))) (by decide) (backOf (W := 0) (rm7 l Z aw hw [] cd (2147483647 : Int32) h346 n0 Z353) hZ (hw _ (List.mem_of_getElem? (i := 42) rfl)) (hw _ (List.mem_of_getElem? (i := 41) rfl)) (by decide) (by decide)) (g := (mkF m 27 #[.val (.ref a0), .val (.int (8 : Int32)), .val (.int (0 : Int32)), .val (.int (0 : Int32)), .unset] [(.int (2147483647 : Int32)), (.int cd)])) rfl (by rw [hml]; rfl) (argsL := [(.int cd), (.int (2147483647 : Int32))]) (rest := []) (lenOf pd_0 rfl) rfl (by show 2 * 0 + _ ≤ _; exact Nat.le_of_eq rfl) (hb hby d6_27) (fun _ _ => ⟨rfl, e358, (by decide : 0 + 0 ≤ _), (by decide : 0 + 0 ≤ _)⟩)
  dsimp only [Pt.U, Pt.locs, Pt.cells, Pt.slots] at X359 l359 y359 z359 st359 hQ359
  replace l359 := l359.symm; replace y359 := y359.symm; replace z359 := z359.symm; subst l359 y359 z359
  obtain ⟨rfl, N359q, e359⟩ := hQ359
  have N359 := Fr.app N355 N359q
  obtain ⟨x361, hx361⟩ : ∃ z_ : Int32, z_ = (if (f_cu cd (2147483647 : Int32)) < (0 : Int32) then (0 : Int32) else (1 : Int32)) := ⟨_, rfl⟩
  have pre362 : ∀ t, Steps p.tables e below (T359.setTop (mkF m 38 #[.val (.ref a0), .val (.int (8 : Int32)), .val (.int (0 : Int32)), .val (.int (0 : Int32)), .unset] [(.int x361)])) t → Steps p.tables e below (s₁.setTop (entryFrame m #[(.ref a0), (.int (8 : Int32))] 5)) t := fun t k => by
    refine pre0 t ?_
    show Steps p.tables e below (s₁.setTop (mkF m 0 #[.val (.ref a0), .val (.int (8 : Int32)), .unset, .unset, .unset] [])) _
    refine XS.iconst X0.here hx rfl (hb hby d6_0) ?_
    show Steps p.tables e below (s₁.setTop (mkF m 1 #[.val (.ref a0), .val (.int (8 : Int32)), .unset, .unset, .unset] [(.int (0 : Int32))])) _
    refine XS.istoreN X0.here hx rfl (hb hby d6_1) rfl (l' := #[.val (.ref a0), .val (.int (8 : Int32)), .val (.int (0 : Int32)), .unset, .unset]) rfl ?_
    show Steps p.tables e below (s₁.setTop (mkF m 2 #[.val (.ref a0), .val (.int (8 : Int32)), .val (.int (0 : Int32)), .unset, .unset] [])) _
    refine XS.iconst X0.here hx rfl (hb hby d6_2) ?_
    show Steps p.tables e below (s₁.setTop (mkF m 3 #[.val (.ref a0), .val (.int (8 : Int32)), .val (.int (0 : Int32)), .unset, .unset] [(.int (0 : Int32))])) _
    refine XS.istoreN X0.here hx rfl (hb hby d6_3) rfl (l' := #[.val (.ref a0), .val (.int (8 : Int32)), .val (.int (0 : Int32)), .val (.int (0 : Int32)), .unset]) rfl ?_
    show Steps p.tables e below (s₁.setTop (mkF m 4 #[.val (.ref a0), .val (.int (8 : Int32)), .val (.int (0 : Int32)), .val (.int (0 : Int32)), .unset] [])) _
    refine XS.iloadN X0.here hx rfl (hb hby d6_4) rfl ?_
    show Steps p.tables e below (s₁.setTop (mkF m 5 #[.val (.ref a0), .val (.int (8 : Int32)), .val (.int (0 : Int32)), .val (.int (0 : Int32)), .unset] [(.int (0 : Int32))])) _
    refine XS.iloadN X0.here hx rfl (hb hby d6_5) rfl ?_
    show Steps p.tables e below (s₁.setTop (mkF m 6 #[.val (.ref a0), .val (.int (8 : Int32)), .val (.int (0 : Int32)), .val (.int (0 : Int32)), .unset] [(.int (8 : Int32)), (.int (0 : Int32))])) _
    refine XS.icmpNo X0.here hx rfl (hb hby d6_6) rfl (tlt (by decide)).2.1 ?_
    show Steps p.tables e below (s₁.setTop (mkF m 9 #[.val (.ref a0), .val (.int (8 : Int32)), .val (.int (0 : Int32)), .val (.int (0 : Int32)), .unset] [])) _
    refine XS.aloadN X0.here hx rfl (hb hby d6_9) rfl rfl ?_
    show Steps p.tables e below (s₁.setTop (mkF m 10 #[.val (.ref a0), .val (.int (8 : Int32)), .val (.int (0 : Int32)), .val (.int (0 : Int32)), .unset] [(.ref a0)])) _
    refine XS.dup X0.here hx rfl (hb hby d6_10) rfl rfl ?_
    show Steps p.tables e below (s₁.setTop (mkF m 11 #[.val (.ref a0), .val (.int (8 : Int32)), .val (.int (0 : Int32)), .val (.int (0 : Int32)), .unset] [(.ref a0), (.ref a0)])) _
    refine st345 _ ?_
    show Steps p.tables e below (T345.setTop (mkF m 14 #[.val (.ref a0), .val (.int (8 : Int32)), .val (.int (0 : Int32)), .val (.int (0 : Int32)), .unset] [(.int (-1 : Int32)), (.ref a0)])) _
    refine XS.iconst X345.here hx rfl (hb hby d6_14) ?_
    show Steps p.tables e below (T345.setTop (mkF m 15 #[.val (.ref a0), .val (.int (8 : Int32)), .val (.int (0 : Int32)), .val (.int (0 : Int32)), .unset] [(.int (1 : Int32)), (.int (-1 : Int32)), (.ref a0)])) _
    refine XS.iushr X345.here hx rfl (hb hby d6_15) rfl ?_
    show Steps p.tables e below (T345.setTop (mkF m 16 #[.val (.ref a0), .val (.int (8 : Int32)), .val (.int (0 : Int32)), .val (.int (0 : Int32)), .unset] [(.int (2147483647 : Int32)), (.ref a0)])) _
    refine st346 _ ?_
    show Steps p.tables e below (T346.setTop (mkF m 19 #[.val (.ref a0), .val (.int (8 : Int32)), .val (.int (0 : Int32)), .val (.int (0 : Int32)), .unset] [])) _
    refine XS.aloadN X346.here hx rfl (hb hby d6_19) rfl rfl ?_
    show Steps p.tables e below (T346.setTop (mkF m 20 #[.val (.ref a0), .val (.int (8 : Int32)), .val (.int (0 : Int32)), .val (.int (0 : Int32)), .unset] [(.ref a0)])) _
    refine st357 _ ?_
    show Steps p.tables e below (T357.setTop (mkF m 23 #[.val (.ref a0), .val (.int (8 : Int32)), .val (.int (0 : Int32)), .val (.int (0 : Int32)), .unset] [(.int cd)])) _
    refine XS.aloadN X357.here hx rfl (hb hby d6_23) rfl rfl ?_
    show Steps p.tables e below (T357.setTop (mkF m 24 #[.val (.ref a0), .val (.int (8 : Int32)), .val (.int (0 : Int32)), .val (.int (0 : Int32)), .unset] [(.ref a0), (.int cd)])) _
    refine st358 _ ?_
    show Steps p.tables e below (T358.setTop (mkF m 27 #[.val (.ref a0), .val (.int (8 : Int32)), .val (.int (0 : Int32)), .val (.int (0 : Int32)), .unset] [(.int (2147483647 : Int32)), (.int cd)])) _
    refine st359 _ ?_
    by_cases c360 : (f_cu cd (2147483647 : Int32)) < (0 : Int32)
    ·
      show Steps p.tables e below (T359.setTop (mkF m 30 #[.val (.ref a0), .val (.int (8 : Int32)), .val (.int (0 : Int32)), .val (.int (0 : Int32)), .unset] [(.int (f_cu cd (2147483647 : Int32)))])) _
      refine XS.ifYes X359.here hx rfl (pc0 := 30) (pc' := 37) rfl (hb hby d6_30) rfl ((if0 _ _).trans (tlt c360).1) (by decide) (by decide) ?_
      show Steps p.tables e below (T359.setTop (mkF m 37 #[.val (.ref a0), .val (.int (8 : Int32)), .val (.int (0 : Int32)), .val (.int (0 : Int32)), .unset] [])) _
      refine XS.iconst X359.here hx rfl (hb hby d6_37) ?_
      rw [show x361 = (0 : Int32) from hx361.trans (by simp only [if_pos c360])] at k
      exact k
    ·
      show Steps p.tables e below (T359.setTop (mkF m 30 #[.val (.ref a0), .val (.int (8 : Int32)), .val (.int (0 : Int32)), .val (.int (0 : Int32)), .unset] [(.int (f_cu cd (2147483647 : Int32)))])) _
      refine XS.ifNo X359.here hx rfl (hb hby d6_30) rfl ((if0 _ _).trans (flt c360).1) ?_
      show Steps p.tables e below (T359.setTop (mkF m 33 #[.val (.ref a0), .val (.int (8 : Int32)), .val (.int (0 : Int32)), .val (.int (0 : Int32)), .unset] [])) _
      refine XS.iconst X359.here hx rfl (hb hby d6_33) ?_
      show Steps p.tables e below (T359.setTop (mkF m 34 #[.val (.ref a0), .val (.int (8 : Int32)), .val (.int (0 : Int32)), .val (.int (0 : Int32)), .unset] [(.int (1 : Int32))])) _
      refine XS.goto X359.here hx rfl (pc0 := 34) (pc' := 38) rfl (hb hby d6_34) (by decide) (by decide) ?_
      rw [show x361 = (1 : Int32) from hx361.trans (by simp only [if_neg c360])] at k
      exact k
  obtain ⟨T363, X363, e363, st363⟩ := getF X359 hx hZ hown (host := "") (Or.inl (hw _ (List.mem_of_getElem? (i := 27) rfl))) Via.refl e359 f351 (g := (mkF m 42 #[.val (.ref a0), .val (.int (8 : Int32)), .val (.int (0 : Int32)), .val (.int (0 : Int32)), .val (.int x361)] [(.ref a0), (.ref a0)])) rfl rfl (hb hby d6_42)
  obtain ⟨T364, X364, e364, st364⟩ := getF X363 hx hZ hown (host := "") (Or.inl (hw _ (List.mem_of_getElem? (i := 15) rfl))) Via.refl e363 f356 (g := (mkF m 46 #[.val (.ref a0), .val (.int (8 : Int32)), .val (.int (0 : Int32)), .val (.int (0 : Int32)), .val (.int x361)] [(.ref a0), (.int cd), (.ref a0)])) rfl rfl (hb hby d6_46)
  obtain ⟨x365, hx365⟩ : ∃ z_ : Int32, z_ = (cd - ((2147483647 : Int32) &&& (-x361))) := ⟨_, rfl⟩
  have pre366 : ∀ t, Steps p.tables e below (T364.setTop (mkF m 54 #[.val (.ref a0), .val (.int (8 : Int32)), .val (.int (0 : Int32)), .val (.int (0 : Int32)), .val (.int x361)] [(.int x365), (.ref a0)])) t → Steps p.tables e below (s₁.setTop (entryFrame m #[(.ref a0), (.int (8 : Int32))] 5)) t := fun t k => by
    refine pre362 t ?_
    show Steps p.tables e below (T359.setTop (mkF m 38 #[.val (.ref a0), .val (.int (8 : Int32)), .val (.int (0 : Int32)), .val (.int (0 : Int32)), .unset] [(.int x361)])) _
    refine XS.istore X359.here hx rfl (hb hby d6_38) rfl (l' := #[.val (.ref a0), .val (.int (8 : Int32)), .val (.int (0 : Int32)), .val (.int (0 : Int32)), .val (.int x361)]) rfl ?_
    show Steps p.tables e below (T359.setTop (mkF m 40 #[.val (.ref a0), .val (.int (8 : Int32)), .val (.int (0 : Int32)), .val (.int (0 : Int32)), .val (.int x361)] [])) _
    refine XS.aloadN X359.here hx rfl (hb hby d6_40) rfl rfl ?_
    show Steps p.tables e below (T359.setTop (mkF m 41 #[.val (.ref a0), .val (.int (8 : Int32)), .val (.int (0 : Int32)), .val (.int (0 : Int32)), .val (.int x361)] [(.ref a0)])) _
    refine XS.dup X359.here hx rfl (hb hby d6_41) rfl rfl ?_
    show Steps p.tables e below (T359.setTop (mkF m 42 #[.val (.ref a0), .val (.int (8 : Int32)), .val (.int (0 : Int32)), .val (.int (0 : Int32)), .val (.int x361)] [(.ref a0), (.ref a0)])) _
    refine st363 _ ?_
    show Steps p.tables e below (T363.setTop (mkF m 45 #[.val (.ref a0), .val (.int (8 : Int32)), .val (.int (0 : Int32)), .val (.int (0 : Int32)), .val (.int x361)] [(.int cd), (.ref a0)])) _
    refine XS.aloadN X363.here hx rfl (hb hby d6_45) rfl rfl ?_
    show Steps p.tables e below (T363.setTop (mkF m 46 #[.val (.ref a0), .val (.int (8 : Int32)), .val (.int (0 : Int32)), .val (.int (0 : Int32)), .val (.int x361)] [(.ref a0), (.int cd), (.ref a0)])) _
    refine st364 _ ?_
    show Steps p.tables e below (T364.setTop (mkF m 49 #[.val (.ref a0), .val (.int (8 : Int32)), .val (.int (0 : Int32)), .val (.int (0 : Int32)), .val (.int x361)] [(.int (2147483647 : Int32)), (.int cd), (.ref a0)])) _
    refine XS.iload X364.here hx rfl (hb hby d6_49) rfl ?_
    show Steps p.tables e below (T364.setTop (mkF m 51 #[.val (.ref a0), .val (.int (8 : Int32)), .val (.int (0 : Int32)), .val (.int (0 : Int32)), .val (.int x361)] [(.int x361), (.int (2147483647 : Int32)), (.int cd), (.ref a0)])) _
    refine XS.ineg X364.here hx rfl (hb hby d6_51) rfl ?_
    show Steps p.tables e below (T364.setTop (mkF m 52 #[.val (.ref a0), .val (.int (8 : Int32)), .val (.int (0 : Int32)), .val (.int (0 : Int32)), .val (.int x361)] [(.int (-x361)), (.int (2147483647 : Int32)), (.int cd), (.ref a0)])) _
    refine XS.iand X364.here hx rfl (hb hby d6_52) rfl ?_
    show Steps p.tables e below (T364.setTop (mkF m 53 #[.val (.ref a0), .val (.int (8 : Int32)), .val (.int (0 : Int32)), .val (.int (0 : Int32)), .val (.int x361)] [(.int ((2147483647 : Int32) &&& (-x361))), (.int cd), (.ref a0)])) _
    refine XS.isub X364.here hx rfl (hb hby d6_53) rfl ?_
    subst hx365
    exact k
  obtain ⟨T367, h367, X367, e367, W367, st367⟩ := putF X364 hx hZ hown (host := "") (Or.inl (hw _ (List.mem_of_getElem? (i := 27) rfl))) Via.refl e364 f351 f347 (Or.inl (hw _ (List.mem_of_getElem? (i := 28) rfl))) (hw _ (List.mem_of_getElem? (i := 7) rfl)) (ty := .int) (by decide) rfl rfl (g := (mkF m 54 #[.val (.ref a0), .val (.int (8 : Int32)), .val (.int (0 : Int32)), .val (.int (0 : Int32)), .val (.int x361)] [(.int x365), (.ref a0)])) rfl rfl (hb hby d6_54)
  have f368 := f347.wr W367
  have f369 := f348.other W367 (Or.inr (slot_ne (Or.inr (hw _ (List.mem_of_getElem? (i := 18) rfl))) (Or.inl (hw _ (List.mem_of_getElem? (i := 28) rfl))) (by decide) (t := (.array .byte)) (t' := .int) (by decide) (by decide)))
  have f370 := f349.other W367 (Or.inr (slot_ne (Or.inl (hw _ (List.mem_of_getElem? (i := 20) rfl))) (Or.inl (hw _ (List.mem_of_getElem? (i := 28) rfl))) (by decide) (t := .int) (t' := .int) (by decide) (by decide)))
  have f371 := f350.other W367 (Or.inr (slot_ne (Or.inr (hw _ (List.mem_of_getElem? (i := 22) rfl))) (Or.inl (hw _ (List.mem_of_getElem? (i := 28) rfl))) (by decide) (t := .int) (t' := .int) (by decide) (by decide)))
  have f372 := f352.other W367 (Ne.symm ne_a0_a1)
  have f373 := f356.other W367 (Or.inr (slot_ne (Or.inl (hw _ (List.mem_of_getElem? (i := 16) rfl))) (Or.inl (hw _ (List.mem_of_getElem? (i := 28) rfl))) (by decide) (t := .int) (t' := .int) (by decide) (by decide)))
  have Z374 : n0 ≤ h367.size := Nat.le_trans Z353 (Keep.of_wr W367).1
  have K375 : Keep h0 h367 [a0] := Keep.wr K354 W367 (Or.inl (List.mem_of_getElem? (i := 0) rfl))
  have N376 := Fr.snoc X367 N359 g_a0
  have f377 : Fld Z h367 a0 "com/example/sheafworks/sheafworks/storage/RangeCoder$Decoder" "code" "I" (.int x365) := f351.same W367
  obtain ⟨x378, hx378⟩ : ∃ z_ : Int32, z_ = ((0 : Int32) ||| x361) := ⟨_, rfl⟩
  have pre379 : ∀ t, Steps p.tables e below (T367.setTop (mkF m 64 #[.val (.ref a0), .val (.int (8 : Int32)), .val (.int x378), .val (.int (0 : Int32)), .val (.int x361)] [])) t → Steps p.tables e below (s₁.setTop (entryFrame m #[(.ref a0), (.int (8 : Int32))] 5)) t := fun t k => by
    refine pre366 t ?_
    show Steps p.tables e below (T364.setTop (mkF m 54 #[.val (.ref a0), .val (.int (8 : Int32)), .val (.int (0 : Int32)), .val (.int (0 : Int32)), .val (.int x361)] [(.int x365), (.ref a0)])) _
    refine st367 _ ?_
    show Steps p.tables e below (T367.setTop (mkF m 57 #[.val (.ref a0), .val (.int (8 : Int32)), .val (.int (0 : Int32)), .val (.int (0 : Int32)), .val (.int x361)] [])) _
    refine XS.iloadN X367.here hx rfl (hb hby d6_57) rfl ?_
    show Steps p.tables e below (T367.setTop (mkF m 58 #[.val (.ref a0), .val (.int (8 : Int32)), .val (.int (0 : Int32)), .val (.int (0 : Int32)), .val (.int x361)] [(.int (0 : Int32))])) _
    refine XS.iconst X367.here hx rfl (hb hby d6_58) ?_
    show Steps p.tables e below (T367.setTop (mkF m 59 #[.val (.ref a0), .val (.int (8 : Int32)), .val (.int (0 : Int32)), .val (.int (0 : Int32)), .val (.int x361)] [(.int (1 : Int32)), (.int (0 : Int32))])) _
    refine XS.ishl X367.here hx rfl (hb hby d6_59) rfl ?_
    show Steps p.tables e below (T367.setTop (mkF m 60 #[.val (.ref a0), .val (.int (8 : Int32)), .val (.int (0 : Int32)), .val (.int (0 : Int32)), .val (.int x361)] [(.int (0 : Int32))])) _
    refine XS.iload X367.here hx rfl (hb hby d6_60) rfl ?_
    show Steps p.tables e below (T367.setTop (mkF m 62 #[.val (.ref a0), .val (.int (8 : Int32)), .val (.int (0 : Int32)), .val (.int (0 : Int32)), .val (.int x361)] [(.int x361), (.int (0 : Int32))])) _
    refine XS.ior X367.here hx rfl (hb hby d6_62) rfl ?_
    show Steps p.tables e below (T367.setTop (mkF m 63 #[.val (.ref a0), .val (.int (8 : Int32)), .val (.int (0 : Int32)), .val (.int (0 : Int32)), .val (.int x361)] [(.int ((0 : Int32) ||| x361))])) _
    refine XS.istoreN X367.here hx rfl (hb hby d6_63) rfl (l' := #[.val (.ref a0), .val (.int (8 : Int32)), .val (.int ((0 : Int32) ||| x361)), .val (.int (0 : Int32)), .val (.int x361)]) rfl ?_
    subst hx378
    exact k
  obtain ⟨T380, X380, e380, st380⟩ := getF X367 hx hZ hown (host := "") (Or.inl (hw _ (List.mem_of_getElem? (i := 15) rfl))) Via.refl e367 f373 (g := (mkF m 65 #[.val (.ref a0), .val (.int (8 : Int32)), .val (.int x378), .val (.int (0 : Int32)), .val (.int x361)] [(.ref a0)])) rfl rfl (hb hby d6_65)
  obtain ⟨_, _, ⟨T381, L381, k381, n381⟩, -, X381, ⟨Lc381, hQ381, l381, y381, z381⟩, st381⟩ := Jvm.LawKit.callS X380 hx (y := (⟨"java/lang/Integer", "compareUnsigned", "(II)I"⟩ : MethodName)) hown (mvT hZ (hw _ (List.mem_of_getElem? (i := 39) rfl))) (mvT hZ (hw _ (List.mem_of_getElem? (i := 40) rfl))) (mvT hZ (hw _ (List.mem_of_getElem? (i := 41) rfl))) (mvT hZ (hw _ (List.mem_of_getElem? (i := 42) rfl))) (by decide) (backOf (W := 0) (rm7 l Z aw hw [] (2147483647 : Int32) (16777216 : Int32) h367 n0 Z374) hZ (hw _ (List.mem_of_getElem? (i := 42) rfl)) (hw _ (List.mem_of_getElem? (i := 41) rfl)) (by decide) (by decide)) (g := (mkF m 70 #[.val (.ref a0), .val (.int (8 : Int32)), .val (.int x378), .val (.int (0 : Int32)), .val (.int x361)] [(.int (16777216 : Int32)), (.int (2147483647 : Int32))])) rfl (by rw [hml]; rfl) (argsL := [(.int (2147483647 : Int32)), (.int (16777216 : Int32))]) (rest := []) (lenOf pd_0 rfl) rfl (by show 2 * 0 + _ ≤ _; exact Nat.le_of_eq rfl) (hb hby d6_70) (fun _ _ => ⟨rfl, e380, (by decide : 0 + 0 ≤ _), (by decide : 0 + 0 ≤ _)⟩)
  dsimp only [Pt.U, Pt.locs, Pt.cells, Pt.slots] at X381 l381 y381 z381 st381 hQ381
  replace l381 := l381.symm; replace y381 := y381.symm; replace z381 := z381.symm; subst l381 y381 z381
  obtain ⟨rfl, N381q, e381⟩ := hQ381
  have N381 := Fr.app N376 N381q
  have c382 : ¬ ((f_cu (2147483647 : Int32) (16777216 : Int32)) < (0 : Int32)) := by
    decide
  obtain ⟨T383, X383, e383, st383⟩ := getF X381 hx hZ hown (host := "") (Or.inl (hw _ (List.mem_of_getElem? (i := 15) rfl))) Via.refl e381 f373 (g := (mkF m 11 #[.val (.ref a0), .val (.int (8 : Int32)), .val (.int x378), .val (.int (1 : Int32)), .val (.int x361)] [(.ref a0), (.ref a0)])) rfl rfl (hb hby d6_11)
  obtain ⟨T384, h384, X384, e384, W384, st384⟩ := putF X383 hx hZ hown (host := "") (Or.inl (hw _ (List.mem_of_getElem? (i := 15) rfl))) Via.refl e383 f373 f368 (Or.inl (hw _ (List.mem_of_getElem? (i := 16) rfl))) (hw _ (List.mem_of_getElem? (i := 7) rfl)) (ty := .int) (by decide) rfl rfl (g := (mkF m 16 #[.val (.ref a0), .val (.int (8 : Int32)), .val (.int x378), .val (.int (1 : Int32)), .val (.int x361)] [(.int (1073741823 : Int32)), (.ref a0)])) rfl rfl (hb hby d6_16)
  have f385 := f368.wr W384
  have f386 := f369.other W384 (Or.inr (slot_ne (Or.inr (hw _ (List.mem_of_getElem? (i := 18) rfl))) (Or.inl (hw _ (List.mem_of_getElem? (i := 16) rfl))) (by decide) (t := (.array .byte)) (t' := .int) (by decide) (by decide)))
  have f387 := f370.other W384 (Or.inr (slot_ne (Or.inl (hw _ (List.mem_of_getElem? (i := 20) rfl))) (Or.inl (hw _ (List.mem_of_getElem? (i := 16) rfl))) (by decide) (t := .int) (t' := .int) (by decide) (by decide)))
  have f388 := f371.other W384 (Or.inr (slot_ne (Or.inr (hw _ (List.mem_of_getElem? (i := 22) rfl))) (Or.inl (hw _ (List.mem_of_getElem? (i := 16) rfl))) (by decide) (t := .int) (t' := .int) (by decide) (by decide)))
  have f389 := f372.other W384 (Ne.symm ne_a0_a1)
  have f390 := f377.other W384 (Or.inr (slot_ne (Or.inl (hw _ (List.mem_of_getElem? (i := 28) rfl))) (Or.inl (hw _ (List.mem_of_getElem? (i := 16) rfl))) (by decide) (t := .int) (t' := .int) (by decide) (by decide)))
  have Z391 : n0 ≤ h384.size := Nat.le_trans Z374 (Keep.of_wr W384).1
  have K392 : Keep h0 h384 [a0] := Keep.wr K375 W384 (Or.inl (List.mem_of_getElem? (i := 0) rfl))
  have N393 := Fr.snoc X384 N381 g_a0
  have f394 : Fld Z h384 a0 "com/example/sheafworks/sheafworks/storage/RangeCoder$Decoder" "range" "I" (.int (1073741823 : Int32)) := f373.same W384
  obtain ⟨T395, X395, e395, st395⟩ := getF X384 hx hZ hown (host := "") (Or.inl (hw _ (List.mem_of_getElem? (i := 27) rfl))) Via.refl e384 f390 (g := (mkF m 20 #[.val (.ref a0), .val (.int (8 : Int32)), .val (.int x378), .val (.int (1 : Int32)), .val (.int x361)] [(.ref a0)])) rfl rfl (hb hby d6_20)
  obtain ⟨T396, X396, e396, st396⟩ := getF X395 hx hZ hown (host := "") (Or.inl (hw _ (List.mem_of_getElem? (i := 15) rfl))) Via.refl e395 f394 (g := (mkF m 24 #[.val (.ref a0), .val (.int (8 : Int32)), .val (.int x378), .val (.int (1 : Int32)), .val (.int x361)] [(.ref a0), (.int x365)])) rfl rfl (hb hby d6_24)
  obtain ⟨_, _, ⟨T397, L397, k397, n397⟩, -, X397, ⟨Lc397, hQ397, l397, y397, z397⟩, st397⟩ := Jvm.LawKit.callS X396 hx (y := (⟨"java/lang/Integer", "compareUnsigned", "(II)I"⟩ : MethodName)) hown (mvT hZ (hw _ (List.mem_of_getElem? (i := 39) rfl))) (mvT hZ (hw _ (List.mem_of_getElem? (i := 40) rfl))) (mvT hZ (hw _ (List.mem_of_getElem? (i := 41) rfl))) (mvT hZ (hw _ (List.mem_of_getElem? (i := 42) rfl))) (by decide) (backOf (W := 0) (rm7 l Z aw hw [] x365 (1073741823 : Int32) h384 n0 Z391) hZ (hw _ (List.mem_of_getElem? (i := 42) rfl)) (hw _ (List.mem_of_getElem? (i := 41) rfl)) (by decide) (by decide)) (g := (mkF m 27 #[.val (.ref a0), .val (.int (8 : Int32)), .val (.int x378), .val (.int (1 : Int32)), .val (.int x361)] [(.int (1073741823 : Int32)), (.int x365)])) rfl (by rw [hml]; rfl) (argsL := [(.int x365), (.int (1073741823 : Int32))]) (rest := []) (lenOf pd_0 rfl) rfl (by show 2 * 0 + _ ≤ _; exact Nat.le_of_eq rfl) (hb hby d6_27) (fun _ _ => ⟨rfl, e396, (by decide : 0 + 0 ≤ _), (by decide : 0 + 0 ≤ _)⟩)
  dsimp only [Pt.U, Pt.locs, Pt.cells, Pt.slots] at X397 l397 y397 z397 st397 hQ397
  replace l397 := l397.symm; replace y397 := y397.symm; replace z397 := z397.symm; subst l397 y397 z397
  obtain ⟨rfl, N397q, e397⟩ := hQ397
  have N397 := Fr.app N393 N397q
  obtain ⟨x399, hx399⟩ : ∃ z_ : Int32, z_ = (if (f_cu x365 (1073741823 : Int32)) < (0 : Int32) then (0 : Int32) else (1 : Int32)) := ⟨_, rfl⟩
  have pre400 : ∀ t, Steps p.tables e below (T397.setTop (mkF m 38 #[.val (.ref a0), .val (.int (8 : Int32)), .val (.int x378), .val (.int (1 : Int32)), .val (.int x361)] [(.int x399)])) t → Steps p.tables e below (s₁.setTop (entryFrame m #[(.ref a0), (.int (8 : Int32))] 5)) t := fun t k => by
    refine pre379 t ?_
    show Steps p.tables e below (T367.setTop (mkF m 64 #[.val (.ref a0), .val (.int (8 : Int32)), .val (.int x378), .val (.int (0 : Int32)), .val (.int x361)] [])) _
    refine XS.aloadN X367.here hx rfl (hb hby d6_64) rfl rfl ?_
    show Steps p.tables e below (T367.setTop (mkF m 65 #[.val (.ref a0), .val (.int (8 : Int32)), .val (.int x378), .val (.int (0 : Int32)), .val (.int x361)] [(.ref a0)])) _
    refine st380 _ ?_
    show Steps p.tables e below (T380.setTop (mkF m 68 #[.val (.ref a0), .val (.int (8 : Int32)), .val (.int x378), .val (.int (0 : Int32)), .val (.int x361)] [(.int (2147483647 : Int32))])) _
    refine X380.ldcInt hx hown (mvT hZ (hw _ (List.mem_of_getElem? (i := 47) rfl))) (g := (mkF m 68 #[.val (.ref a0), .val (.int (8 : Int32)), .val (.int x378), .val (.int (0 : Int32)), .val (.int x361)] [(.int (2147483647 : Int32))])) rfl (hb hby d6_68) _ ?_
    show Steps p.tables e below (T380.setTop (mkF m 70 #[.val (.ref a0), .val (.int (8 : Int32)), .val (.int x378), .val (.int (0 : Int32)), .val (.int x361)] [(.int (16777216 : Int32)), (.int (2147483647 : Int32))])) _
    refine st381 _ ?_
    show Steps p.tables e below (T381.setTop (mkF m 73 #[.val (.ref a0), .val (.int (8 : Int32)), .val (.int x378), .val (.int (0 : Int32)), .val (.int x361)] [(.int (f_cu (2147483647 : Int32) (16777216 : Int32)))])) _
    refine XS.ifYes X381.here hx rfl (pc0 := 73) (pc' := 103) rfl (hb hby d6_73) rfl ((if0 _ _).trans (flt c382).2.1) (by decide) (by decide) ?_
    show Steps p.tables e below (T381.setTop (mkF m 103 #[.val (.ref a0), .val (.int (8 : Int32)), .val (.int x378), .val (.int (0 : Int32)), .val (.int x361)] [])) _
    refine XS.iinc X381.here hx rfl (hb hby d6_103) rfl (l' := #[.val (.ref a0), .val (.int (8 : Int32)), .val (.int x378), .val (.int (1 : Int32)), .val (.int x361)]) rfl ?_
    show Steps p.tables e below (T381.setTop (mkF m 106 #[.val (.ref a0), .val (.int (8 : Int32)), .val (.int x378), .val (.int (1 : Int32)), .val (.int x361)] [])) _
    refine XS.goto X381.here hx rfl (pc0 := 106) (pc' := 4) rfl (hb hby d6_106) (by decide) (by decide) ?_
    show Steps p.tables e below (T381.setTop (mkF m 4 #[.val (.ref a0), .val (.int (8 : Int32)), .val (.int x378), .val (.int (1 : Int32)), .val (.int x361)] [])) _
    refine XS.iloadN X381.here hx rfl (hb hby d6_4) rfl ?_
    show Steps p.tables e below (T381.setTop (mkF m 5 #[.val (.ref a0), .val (.int (8 : Int32)), .val (.int x378), .val (.int (1 : Int32)), .val (.int x361)] [(.int (1 : Int32))])) _
    refine XS.iloadN X381.here hx rfl (hb hby d6_5) rfl ?_
    show Steps p.tables e below (T381.setTop (mkF m 6 #[.val (.ref a0), .val (.int (8 : Int32)), .val (.int x378), .val (.int (1 : Int32)), .val (.int x361)] [(.int (8 : Int32)), (.int (1 : Int32))])) _
    refine XS.icmpNo X381.here hx rfl (hb hby d6_6) rfl (tlt (by decide)).2.1 ?_
    show Steps p.tables e below (T381.setTop (mkF m 9 #[.val (.ref a0), .val (.int (8 : Int32)), .val (.int x378), .val (.int (1 : Int32)), .val (.int x361)] [])) _
    refine XS.aloadN X381.here hx rfl (hb hby d6_9) rfl rfl ?_
    show Steps p.tables e below (T381.setTop (mkF m 10 #[.val (.ref a0), .val (.int (8 : Int32)), .val (.int x378), .val (.int (1 : Int32)), .val (.int x361)] [(.ref a0)])) _
    refine XS.dup X381.here hx rfl (hb hby d6_10) rfl rfl ?_
    show Steps p.tables e below (T381.setTop (mkF m 11 #[.val (.ref a0), .val (.int (8 : Int32)), .val (.int x378), .val (.int (1 : Int32)), .val (.int x361)] [(.ref a0), (.ref a0)])) _
    refine st383 _ ?_
    show Steps p.tables e below (T383.setTop (mkF m 14 #[.val (.ref a0), .val (.int (8 : Int32)), .val (.int x378), .val (.int (1 : Int32)), .val (.int x361)] [(.int (2147483647 : Int32)), (.ref a0)])) _
    refine XS.iconst X383.here hx rfl (hb hby d6_14) ?_
    show Steps p.tables e below (T383.setTop (mkF m 15 #[.val (.ref a0), .val (.int (8 : Int32)), .val (.int x378), .val (.int (1 : Int32)), .val (.int x361)] [(.int (1 : Int32)), (.int (2147483647 : Int32)), (.ref a0)])) _
    refine XS.iushr X383.here hx rfl (hb hby d6_15) rfl ?_
    show Steps p.tables e below (T383.setTop (mkF m 16 #[.val (.ref a0), .val (.int (8 : Int32)), .val (.int x378), .val (.int (1 : Int32)), .val (.int x361)] [(.int (1073741823 : Int32)), (.ref a0)])) _
    refine st384 _ ?_
    show Steps p.tables e below (T384.setTop (mkF m 19 #[.val (.ref a0), .val (.int (8 : Int32)), .val (.int x378), .val (.int (1 : Int32)), .val (.int x361)] [])) _
    refine XS.aloadN X384.here hx rfl (hb hby d6_19) rfl rfl ?_
    show Steps p.tables e below (T384.setTop (mkF m 20 #[.val (.ref a0), .val (.int (8 : Int32)), .val (.int x378), .val (.int (1 : Int32)), .val (.int x361)] [(.ref a0)])) _
    refine st395 _ ?_
    show Steps p.tables e below (T395.setTop (mkF m 23 #[.val (.ref a0), .val (.int (8 : Int32)), .val (.int x378), .val (.int (1 : Int32)), .val (.int x361)] [(.int x365)])) _
    refine XS.aloadN X395.here hx rfl (hb hby d6_23) rfl rfl ?_
    show Steps p.tables e below (T395.setTop (mkF m 24 #[.val (.ref a0), .val (.int (8 : Int32)), .val (.int x378), .val (.int (1 : Int32)), .val (.int x361)] [(.ref a0), (.int x365)])) _
    refine st396 _ ?_
    show Steps p.tables e below (T396.setTop (mkF m 27 #[.val (.ref a0), .val (.int (8 : Int32)), .val (.int x378), .val (.int (1 : Int32)), .val (.int x361)] [(.int (1073741823 : Int32)), (.int x365)])) _
    refine st397 _ ?_
    by_cases c398 : (f_cu x365 (1073741823 : Int32)) < (0 : Int32)
    ·
      show Steps p.tables e below (T397.setTop (mkF m 30 #[.val (.ref a0), .val (.int (8 : Int32)), .val (.int x378), .val (.int (1 : Int32)), .val (.int x361)] [(.int (f_cu x365 (1073741823 : Int32)))])) _
      refine XS.ifYes X397.here hx rfl (pc0 := 30) (pc' := 37) rfl (hb hby d6_30) rfl ((if0 _ _).trans (tlt c398).1) (by decide) (by decide) ?_
      show Steps p.tables e below (T397.setTop (mkF m 37 #[.val (.ref a0), .val (.int (8 : Int32)), .val (.int x378), .val (.int (1 : Int32)), .val (.int x361)] [])) _
      refine XS.iconst X397.here hx rfl (hb hby d6_37) ?_
      rw [show x399 = (0 : Int32) from hx399.trans (by simp only [if_pos c398])] at k
      exact k
    ·
      show Steps p.tables e below (T397.setTop (mkF m 30 #[.val (.ref a0), .val (.int (8 : Int32)), .val (.int x378), .val (.int (1 : Int32)), .val (.int x361)] [(.int (f_cu x365 (1073741823 : Int32)))])) _
      refine XS.ifNo X397.here hx rfl (hb hby d6_30) rfl ((if0 _ _).trans (flt c398).1) ?_
      show Steps p.tables e below (T397.setTop (mkF m 33 #[.val (.ref a0), .val (.int (8 : Int32)), .val (.int x378), .val (.int (1 : Int32)), .val (.int x361)] [])) _
      refine XS.iconst X397.here hx rfl (hb hby d6_33) ?_
      show Steps p.tables e below (T397.setTop (mkF m 34 #[.val (.ref a0), .val (.int (8 : Int32)), .val (.int x378), .val (.int (1 : Int32)), .val (.int x361)] [(.int (1 : Int32))])) _
      refine XS.goto X397.here hx rfl (pc0 := 34) (pc' := 38) rfl (hb hby d6_34) (by decide) (by decide) ?_
      rw [show x399 = (1 : Int32) from hx399.trans (by simp only [if_neg c398])] at k
      exact k
  obtain ⟨T401, X401, e401, st401⟩ := getF X397 hx hZ hown (host := "") (Or.inl (hw _ (List.mem_of_getElem? (i := 27) rfl))) Via.refl e397 f390 (g := (mkF m 42 #[.val (.ref a0), .val (.int (8 : Int32)), .val (.int x378), .val (.int (1 : Int32)), .val (.int x399)] [(.ref a0), (.ref a0)])) rfl rfl (hb hby d6_42)
  obtain ⟨T402, X402, e402, st402⟩ := getF X401 hx hZ hown (host := "") (Or.inl (hw _ (List.mem_of_getElem? (i := 15) rfl))) Via.refl e401 f394 (g := (mkF m 46 #[.val (.ref a0), .val (.int (8 : Int32)), .val (.int x378), .val (.int (1 : Int32)), .val (.int x399)] [(.ref a0), (.int x365), (.ref a0)])) rfl rfl (hb hby d6_46)
  obtain ⟨x403, hx403⟩ : ∃ z_ : Int32, z_ = (x365 - ((1073741823 : Int32) &&& (-x399))) := ⟨_, rfl⟩
  have pre404 : ∀ t, Steps p.tables e below (T402.setTop (mkF m 54 #[.val (.ref a0), .val (.int (8 : Int32)), .val (.int x378), .val (.int (1 : Int32)), .val (.int x399)] [(.int x403), (.ref a0)])) t → Steps p.tables e below (s₁.setTop (entryFrame m #[(.ref a0), (.int (8 : Int32))] 5)) t := fun t k => by
    refine pre400 t ?_
    show Steps p.tables e below (T397.setTop (mkF m 38 #[.val (.ref a0), .val (.int (8 : Int32)), .val (.int x378), .val (.int (1 : Int32)), .val (.int x361)] [(.int x399)])) _
    refine XS.istore X397.here hx rfl (hb hby d6_38) rfl (l' := #[.val (.ref a0), .val (.int (8 : Int32)), .val (.int x378), .val (.int (1 : Int32)), .val (.int x399)]) rfl ?_
    show Steps p.tables e below (T397.setTop (mkF m 40 #[.val (.ref a0), .val (.int (8 : Int32)), .val (.int x378), .val (.int (1 : Int32)), .val (.int x399)] [])) _
    refine XS.aloadN X397.here hx rfl (hb hby d6_40) rfl rfl ?_
    show Steps p.tables e below (T397.setTop (mkF m 41 #[.val (.ref a0), .val (.int (8 : Int32)), .val (.int x378), .val (.int (1 : Int32)), .val (.int x399)] [(.ref a0)])) _
    refine XS.dup X397.here hx rfl (hb hby d6_41) rfl rfl ?_
    show Steps p.tables e below (T397.setTop (mkF m 42 #[.val (.ref a0), .val (.int (8 : Int32)), .val (.int x378), .val (.int (1 : Int32)), .val (.int x399)] [(.ref a0), (.ref a0)])) _
    refine st401 _ ?_
    show Steps p.tables e below (T401.setTop (mkF m 45 #[.val (.ref a0), .val (.int (8 : Int32)), .val (.int x378), .val (.int (1 : Int32)), .val (.int x399)] [(.int x365), (.ref a0)])) _
    refine XS.aloadN X401.here hx rfl (hb hby d6_45) rfl rfl ?_
    show Steps p.tables e below (T401.setTop (mkF m 46 #[.val (.ref a0), .val (.int (8 : Int32)), .val (.int x378), .val (.int (1 : Int32)), .val (.int x399)] [(.ref a0), (.int x365), (.ref a0)])) _
    refine st402 _ ?_
    show Steps p.tables e below (T402.setTop (mkF m 49 #[.val (.ref a0), .val (.int (8 : Int32)), .val (.int x378), .val (.int (1 : Int32)), .val (.int x399)] [(.int (1073741823 : Int32)), (.int x365), (.ref a0)])) _
    refine XS.iload X402.here hx rfl (hb hby d6_49) rfl ?_
    show Steps p.tables e below (T402.setTop (mkF m 51 #[.val (.ref a0), .val (.int (8 : Int32)), .val (.int x378), .val (.int (1 : Int32)), .val (.int x399)] [(.int x399), (.int (1073741823 : Int32)), (.int x365), (.ref a0)])) _
    refine XS.ineg X402.here hx rfl (hb hby d6_51) rfl ?_
    show Steps p.tables e below (T402.setTop (mkF m 52 #[.val (.ref a0), .val (.int (8 : Int32)), .val (.int x378), .val (.int (1 : Int32)), .val (.int x399)] [(.int (-x399)), (.int (1073741823 : Int32)), (.int x365), (.ref a0)])) _
    refine XS.iand X402.here hx rfl (hb hby d6_52) rfl ?_
    show Steps p.tables e below (T402.setTop (mkF m 53 #[.val (.ref a0), .val (.int (8 : Int32)), .val (.int x378), .val (.int (1 : Int32)), .val (.int x399)] [(.int ((1073741823 : Int32) &&& (-x399))), (.int x365), (.ref a0)])) _
    refine XS.isub X402.here hx rfl (hb hby d6_53) rfl ?_
    subst hx403
    exact k
  obtain ⟨T405, h405, X405, e405, W405, st405⟩ := putF X402 hx hZ hown (host := "") (Or.inl (hw _ (List.mem_of_getElem? (i := 27) rfl))) Via.refl e402 f390 f385 (Or.inl (hw _ (List.mem_of_getElem? (i := 28) rfl))) (hw _ (List.mem_of_getElem? (i := 7) rfl)) (ty := .int) (by decide) rfl rfl (g := (mkF m 54 #[.val (.ref a0), .val (.int (8 : Int32)), .val (.int x378), .val (.int (1 : Int32)), .val (.int x399)] [(.int x403), (.ref a0)])) rfl rfl (hb hby d6_54)
  have f406 := f385.wr W405
  have f407 := f386.other W405 (Or.inr (slot_ne (Or.inr (hw _ (List.mem_of_getElem? (i := 18) rfl))) (Or.inl (hw _ (List.mem_of_getElem? (i := 28) rfl))) (by decide) (t := (.array .byte)) (t' := .int) (by decide) (by decide)))
  have f408 := f387.other W405 (Or.inr (slot_ne (Or.inl (hw _ (List.mem_of_getElem? (i := 20) rfl))) (Or.inl (hw _ (List.mem_of_getElem? (i := 28) rfl))) (by decide) (t := .int) (t' := .int) (by decide) (by decide)))
  have f409 := f388.other W405 (Or.inr (slot_ne (Or.inr (hw _ (List.mem_of_getElem? (i := 22) rfl))) (Or.inl (hw _ (List.mem_of_getElem? (i := 28) rfl))) (by decide) (t := .int) (t' := .int) (by decide) (by decide)))
  have f410 := f389.other W405 (Ne.symm ne_a0_a1)
  have f411 := f394.other W405 (Or.inr (slot_ne (Or.inl (hw _ (List.mem_of_getElem? (i := 16) rfl))) (Or.inl (hw _ (List.mem_of_getElem? (i := 28) rfl))) (by decide) (t := .int) (t' := .int) (by decide) (by decide)))
  have Z412 : n0 ≤ h405.size := Nat.le_trans Z391 (Keep.of_wr W405).1
  have K413 : Keep h0 h405 [a0] := Keep.wr K392 W405 (Or.inl (List.mem_of_getElem? (i := 0) rfl))
  have N414 := Fr.snoc X405 N397 g_a0
  have f415 : Fld Z h405 a0 "com/example/sheafworks/sheafworks/storage/RangeCoder$Decoder" "code" "I" (.int x403) := f390.same W405
  obtain ⟨x416, hx416⟩ : ∃ z_ : Int32, z_ = ((x378 <<< ((1 : Int32) &&& 31)) ||| x399) := ⟨_, rfl⟩
  have pre417 : ∀ t, Steps p.tables e below (T405.setTop (mkF m 64 #[.val (.ref a0), .val (.int (8 : Int32)), .val (.int x416), .val (.int (1 : Int32)), .val (.int x399)] [])) t → Steps p.tables e below (s₁.setTop (entryFrame m #[(.ref a0), (.int (8 : Int32))] 5)) t := fun t k => by
    refine pre404 t ?_
    show Steps p.tables e below (T402.setTop (mkF m 54 #[.val (.ref a0), .val (.int (8 : Int32)), .val (.int x378), .val (.int (1 : Int32)), .val (.int x399)] [(.int x403), (.ref a0)])) _
    refine st405 _ ?_
    show Steps p.tables e below (T405.setTop (mkF m 57 #[.val (.ref a0), .val (.int (8 : Int32)), .val (.int x378), .val (.int (1 : Int32)), .val (.int x399)] [])) _
    refine XS.iloadN X405.here hx rfl (hb hby d6_57) rfl ?_
    show Steps p.tables e below (T405.setTop (mkF m 58 #[.val (.ref a0), .val (.int (8 : Int32)), .val (.int x378), .val (.int (1 : Int32)), .val (.int x399)] [(.int x378)])) _
    refine XS.iconst X405.here hx rfl (hb hby d6_58) ?_
    show Steps p.tables e below (T405.setTop (mkF m 59 #[.val (.ref a0), .val (.int (8 : Int32)), .val (.int x378), .val (.int (1 : Int32)), .val (.int x399)] [(.int (1 : Int32)), (.int x378)])) _
    refine XS.ishl X405.here hx rfl (hb hby d6_59) rfl ?_
    show Steps p.tables e below (T405.setTop (mkF m 60 #[.val (.ref a0), .val (.int (8 : Int32)), .val (.int x378), .val (.int (1 : Int32)), .val (.int x399)] [(.int (x378 <<< ((1 : Int32) &&& 31)))])) _
    refine XS.iload X405.here hx rfl (hb hby d6_60) rfl ?_
    show Steps p.tables e below (T405.setTop (mkF m 62 #[.val (.ref a0), .val (.int (8 : Int32)), .val (.int x378), .val (.int (1 : Int32)), .val (.int x399)] [(.int x399), (.int (x378 <<< ((1 : Int32) &&& 31)))])) _
    refine XS.ior X405.here hx rfl (hb hby d6_62) rfl ?_
    show Steps p.tables e below (T405.setTop (mkF m 63 #[.val (.ref a0), .val (.int (8 : Int32)), .val (.int x378), .val (.int (1 : Int32)), .val (.int x399)] [(.int ((x378 <<< ((1 : Int32) &&& 31)) ||| x399))])) _
    refine XS.istoreN X405.here hx rfl (hb hby d6_63) rfl (l' := #[.val (.ref a0), .val (.int (8 : Int32)), .val (.int ((x378 <<< ((1 : Int32) &&& 31)) ||| x399)), .val (.int (1 : Int32)), .val (.int x399)]) rfl ?_
    subst hx416
    exact k
  obtain ⟨T418, X418, e418, st418⟩ := getF X405 hx hZ hown (host := "") (Or.inl (hw _ (List.mem_of_getElem? (i := 15) rfl))) Via.refl e405 f411 (g := (mkF m 65 #[.val (.ref a0), .val (.int (8 : Int32)), .val (.int x416), .val (.int (1 : Int32)), .val (.int x399)] [(.ref a0)])) rfl rfl (hb hby d6_65)
  obtain ⟨_, _, ⟨T419, L419, k419, n419⟩, -, X419, ⟨Lc419, hQ419, l419, y419, z419⟩, st419⟩ := Jvm.LawKit.callS X418 hx (y := (⟨"java/lang/Integer", "compareUnsigned", "(II)I"⟩ : MethodName)) hown (mvT hZ (hw _ (List.mem_of_getElem? (i := 39) rfl))) (mvT hZ (hw _ (List.mem_of_getElem? (i := 40) rfl))) (mvT hZ (hw _ (List.mem_of_getElem? (i := 41) rfl))) (mvT hZ (hw _ (List.mem_of_getElem? (i := 42) rfl))) (by decide) (backOf (W := 0) (rm7 l Z aw hw [] (1073741823 : Int32) (16777216 : Int32) h405 n0 Z412) hZ (hw _ (List.mem_of_getElem? (i := 42) rfl)) (hw _ (List.mem_of_getElem? (i := 41) rfl)) (by decide) (by decide)) (g := (mkF m 70 #[.val (.ref a0), .val (.int (8 : Int32)), .val (.int x416), .val (.int (1 : Int32)), .val (.int x399)] [(.int (16777216 : Int32)), (.int (1073741823 : Int32))])) rfl (by rw [hml]; rfl) (argsL := [(.int (1073741823 : Int32)), (.int (16777216 : Int32))]) (rest := []) (lenOf pd_0 rfl) rfl (by show 2 * 0 + _ ≤ _; exact Nat.le_of_eq rfl) (hb hby d6_70) (fun _ _ => ⟨rfl, e418, (by decide : 0 + 0 ≤ _), (by decide : 0 + 0 ≤ _)⟩)
  dsimp only [Pt.U, Pt.locs, Pt.cells, Pt.slots] at X419 l419 y419 z419 st419 hQ419
  replace l419 := l419.symm; replace y419 := y419.symm; replace z419 := z419.symm; subst l419 y419 z419
  obtain ⟨rfl, N419q, e419⟩ := hQ419
  have N419 := Fr.app N414 N419q
  have c420 : ¬ ((f_cu (1073741823 : Int32) (16777216 : Int32)) < (0 : Int32)) := by
    decide
  obtain ⟨T421, X421, e421, st421⟩ := getF X419 hx hZ hown (host := "") (Or.inl (hw _ (List.mem_of_getElem? (i := 15) rfl))) Via.refl e419 f411 (g := (mkF m 11 #[.val (.ref a0), .val (.int (8 : Int32)), .val (.int x416), .val (.int (2 : Int32)), .val (.int x399)] [(.ref a0), (.ref a0)])) rfl rfl (hb hby d6_11)
  obtain ⟨T422, h422, X422, e422, W422, st422⟩ := putF X421 hx hZ hown (host := "") (Or.inl (hw _ (List.mem_of_getElem? (i := 15) rfl))) Via.refl e421 f411 f406 (Or.inl (hw _ (List.mem_of_getElem? (i := 16) rfl))) (hw _ (List.mem_of_getElem? (i := 7) rfl)) (ty := .int) (by decide) rfl rfl (g := (mkF m 16 #[.val (.ref a0), .val (.int (8 : Int32)), .val (.int x416), .val (.int (2 : Int32)), .val (.int x399)] [(.int (536870911 : Int32)), (.ref a0)])) rfl rfl (hb hby d6_16)
  have f423 := f406.wr W422
  have f424 := f407.other W422 (Or.inr (slot_ne (Or.inr (hw _ (List.mem_of_getElem? (i := 18) rfl))) (Or.inl (hw _ (List.mem_of_getElem? (i := 16) rfl))) (by decide) (t := (.array .byte)) (t' := .int) (by decide) (by decide)))
  have f425 := f408.other W422 (Or.inr (slot_ne (Or.inl (hw _ (List.mem_of_getElem? (i := 20) rfl))) (Or.inl (hw _ (List.mem_of_getElem? (i := 16) rfl))) (by decide) (t := .int) (t' := .int) (by decide) (by decide)))
  have f426 := f409.other W422 (Or.inr (slot_ne (Or.inr (hw _ (List.mem_of_getElem? (i := 22) rfl))) (Or.inl (hw _ (List.mem_of_getElem? (i := 16) rfl))) (by decide) (t := .int) (t' := .int) (by decide) (by decide)))
  have f427 := f410.other W422 (Ne.symm ne_a0_a1)
  have f428 := f415.other W422 (Or.inr (slot_ne (Or.inl (hw _ (List.mem_of_getElem? (i := 28) rfl))) (Or.inl (hw _ (List.mem_of_getElem? (i := 16) rfl))) (by decide) (t := .int) (t' := .int) (by decide) (by decide)))
  have Z429 : n0 ≤ h422.size := Nat.le_trans Z412 (Keep.of_wr W422).1
  have K430 : Keep h0 h422 [a0] := Keep.wr K413 W422 (Or.inl (List.mem_of_getElem? (i := 0) rfl))
  have N431 := Fr.snoc X422 N419 g_a0
  have f432 : Fld Z h422 a0 "com/example/sheafworks/sheafworks/storage/RangeCoder$Decoder" "range" "I" (.int (536870911 : Int32)) := f411.same W422
  obtain ⟨T433, X433, e433, st433⟩ := getF X422 hx hZ hown (host := "") (Or.inl (hw _ (List.mem_of_getElem? (i := 27) rfl))) Via.refl e422 f428 (g := (mkF m 20 #[.val (.ref a0), .val (.int (8 : Int32)), .val (.int x416), .val (.int (2 : Int32)), .val (.int x399)] [(.ref a0)])) rfl rfl (hb hby d6_20)
  obtain ⟨T434, X434, e434, st434⟩ := getF X433 hx hZ hown (host := "") (Or.inl (hw _ (List.mem_of_getElem? (i := 15) rfl))) Via.refl e433 f432 (g := (mkF m 24 #[.val (.ref a0), .val (.int (8 : Int32)), .val (.int x416), .val (.int (2 : Int32)), .val (.int x399)] [(.ref a0), (.int x403)])) rfl rfl (hb hby d6_24)
  obtain ⟨_, _, ⟨T435, L435, k435, n435⟩, -, X435, ⟨Lc435, hQ435, l435, y435, z435⟩, st435⟩ := Jvm.LawKit.callS X434 hx (y := (⟨"java/lang/Integer", "compareUnsigned", "(II)I"⟩ : MethodName)) hown (mvT hZ (hw _ (List.mem_of_getElem? (i := 39) rfl))) (mvT hZ (hw _ (List.mem_of_getElem? (i := 40) rfl))) (mvT hZ (hw _ (List.mem_of_getElem? (i := 41) rfl))) (mvT hZ (hw _ (List.mem_of_getElem? (i := 42) rfl))) (by decide) (backOf (W := 0) (rm7 l Z aw hw [] x403 (536870911 : Int32) h422 n0 Z429) hZ (hw _ (List.mem_of_getElem? (i := 42) rfl)) (hw _ (List.mem_of_getElem? (i := 41) rfl)) (by decide) (by decide)) (g := (mkF m 27 #[.val (.ref a0), .val (.int (8 : Int32)), .val (.int x416), .val (.int (2 : Int32)), .val (.int x399)] [(.int (536870911 : Int32)), (.int x403)])) rfl (by rw [hml]; rfl) (argsL := [(.int x403), (.int (536870911 : Int32))]) (rest := []) (lenOf pd_0 rfl) rfl (by show 2 * 0 + _ ≤ _; exact Nat.le_of_eq rfl) (hb hby d6_27) (fun _ _ => ⟨rfl, e434, (by decide : 0 + 0 ≤ _), (by decide : 0 + 0 ≤ _)⟩)
  dsimp only [Pt.U, Pt.locs, Pt.cells, Pt.slots] at X435 l435 y435 z435 st435 hQ435
  replace l435 := l435.symm; replace y435 := y435.symm; replace z435 := z435.symm; subst l435 y435 z435
  obtain ⟨rfl, N435q, e435⟩ := hQ435
  have N435 := Fr.app N431 N435q
  obtain ⟨x437, hx437⟩ : ∃ z_ : Int32, z_ = (if (f_cu x403 (536870911 : Int32)) < (0 : Int32) then (0 : Int32) else (1 : Int32)) := ⟨_, rfl⟩
  have pre438 : ∀ t, Steps p.tables e below (T435.setTop (mkF m 38 #[.val (.ref a0), .val (.int (8 : Int32)), .val (.int x416), .val (.int (2 : Int32)), .val (.int x399)] [(.int x437)])) t → Steps p.tables e below (s₁.setTop (entryFrame m #[(.ref a0), (.int (8 : Int32))] 5)) t := fun t k => by
    refine pre417 t ?_
    show Steps p.tables e below (T405.setTop (mkF m 64 #[.val (.ref a0), .val (.int (8 : Int32)), .val (.int x416), .val (.int (1 : Int32)), .val (.int x399)] [])) _
    refine XS.aloadN X405.here hx rfl (hb hby d6_64) rfl rfl ?_
    show Steps p.tables e below (T405.setTop (mkF m 65 #[.val (.ref a0), .val (.int (8 : Int32)), .val (.int x416), .val (.int (1 : Int32)), .val (.int x399)] [(.ref a0)])) _
    refine st418 _ ?_
    show Steps p.tables e below (T418.setTop (mkF m 68 #[.val (.ref a0), .val (.int (8 : Int32)), .val (.int x416), .val (.int (1 : Int32)), .val (.int x399)] [(.int (1073741823 : Int32))])) _
    refine X418.ldcInt hx hown (mvT hZ (hw _ (List.mem_of_getElem? (i := 47) rfl))) (g := (mkF m 68 #[.val (.ref a0), .val (.int (8 : Int32)), .val (.int x416), .val (.int (1 : Int32)), .val (.int x399)] [(.int (1073741823 : Int32))])) rfl (hb hby d6_68) _ ?_
    show Steps p.tables e below (T418.setTop (mkF m 70 #[.val (.ref a0), .val (.int (8 : Int32)), .val (.int x416), .val (.int (1 : Int32)), .val (.int x399)] [(.int (16777216 : Int32)), (.int (1073741823 : Int32))])) _
    refine st419 _ ?_
    show Steps p.tables e below (T419.setTop (mkF m 73 #[.val (.ref a0), .val (.int (8 : Int32)), .val (.int x416), .val (.int (1 : Int32)), .val (.int x399)] [(.int (f_cu (1073741823 : Int32) (16777216 : Int32)))])) _
    refine XS.ifYes X419.here hx rfl (pc0 := 73) (pc' := 103) rfl (hb hby d6_73) rfl ((if0 _ _).trans (flt c420).2.1) (by decide) (by decide) ?_
    show Steps p.tables e below (T419.setTop (mkF m 103 #[.val (.ref a0), .val (.int (8 : Int32)), .val (.int x416), .val (.int (1 : Int32)), .val (.int x399)] [])) _
    refine XS.iinc X419.here hx rfl (hb hby d6_103) rfl (l' := #[.val (.ref a0), .val (.int (8 : Int32)), .val (.int x416), .val (.int (2 : Int32)), .val (.int x399)]) rfl ?_
    show Steps p.tables e below (T419.setTop (mkF m 106 #[.val (.ref a0), .val (.int (8 : Int32)), .val (.int x416), .val (.int (2 : Int32)), .val (.int x399)] [])) _
    refine XS.goto X419.here hx rfl (pc0 := 106) (pc' := 4) rfl (hb hby d6_106) (by decide) (by decide) ?_
    show Steps p.tables e below (T419.setTop (mkF m 4 #[.val (.ref a0), .val (.int (8 : Int32)), .val (.int x416), .val (.int (2 : Int32)), .val (.int x399)] [])) _
    refine XS.iloadN X419.here hx rfl (hb hby d6_4) rfl ?_
    show Steps p.tables e below (T419.setTop (mkF m 5 #[.val (.ref a0), .val (.int (8 : Int32)), .val (.int x416), .val (.int (2 : Int32)), .val (.int x399)] [(.int (2 : Int32))])) _
    refine XS.iloadN X419.here hx rfl (hb hby d6_5) rfl ?_
    show Steps p.tables e below (T419.setTop (mkF m 6 #[.val (.ref a0), .val (.int (8 : Int32)), .val (.int x416), .val (.int (2 : Int32)), .val (.int x399)] [(.int (8 : Int32)), (.int (2 : Int32))])) _
    refine XS.icmpNo X419.here hx rfl (hb hby d6_6) rfl (tlt (by decide)).2.1 ?_
    show Steps p.tables e below (T419.setTop (mkF m 9 #[.val (.ref a0), .val (.int (8 : Int32)), .val (.int x416), .val (.int (2 : Int32)), .val (.int x399)] [])) _
    refine XS.aloadN X419.here hx rfl (hb hby d6_9) rfl rfl ?_
    show Steps p.tables e below (T419.setTop (mkF m 10 #[.val (.ref a0), .val (.int (8 : Int32)), .val (.int x416), .val (.int (2 : Int32)), .val (.int x399)] [(.ref a0)])) _
    refine XS.dup X419.here hx rfl (hb hby d6_10) rfl rfl ?_
    show Steps p.tables e below (T419.setTop (mkF m 11 #[.val (.ref a0), .val (.int (8 : Int32)), .val (.int x416), .val (.int (2 : Int32)), .val (.int x399)] [(.ref a0), (.ref a0)])) _
    refine st421 _ ?_
    show Steps p.tables e below (T421.setTop (mkF m 14 #[.val (.ref a0), .val (.int (8 : Int32)), .val (.int x416), .val (.int (2 : Int32)), .val (.int x399)] [(.int (1073741823 : Int32)), (.ref a0)])) _
    refine XS.iconst X421.here hx rfl (hb hby d6_14) ?_
    show Steps p.tables e below (T421.setTop (mkF m 15 #[.val (.ref a0), .val (.int (8 : Int32)), .val (.int x416), .val (.int (2 : Int32)), .val (.int x399)] [(.int (1 : Int32)), (.int (1073741823 : Int32)), (.ref a0)])) _
    refine XS.iushr X421.here hx rfl (hb hby d6_15) rfl ?_
    show Steps p.tables e below (T421.setTop (mkF m 16 #[.val (.ref a0), .val (.int (8 : Int32)), .val (.int x416), .val (.int (2 : Int32)), .val (.int x399)] [(.int (536870911 : Int32)), (.ref a0)])) _
    refine st422 _ ?_
    show Steps p.tables e below (T422.setTop (mkF m 19 #[.val (.ref a0), .val (.int (8 : Int32)), .val (.int x416), .val (.int (2 : Int32)), .val (.int x399)] [])) _
    refine XS.aloadN X422.here hx rfl (hb hby d6_19) rfl rfl ?_
    show Steps p.tables e below (T422.setTop (mkF m 20 #[.val (.ref a0), .val (.int (8 : Int32)), .val (.int x416), .val (.int (2 : Int32)), .val (.int x399)] [(.ref a0)])) _
    refine st433 _ ?_
    show Steps p.tables e below (T433.setTop (mkF m 23 #[.val (.ref a0), .val (.int (8 : Int32)), .val (.int x416), .val (.int (2 : Int32)), .val (.int x399)] [(.int x403)])) _
    refine XS.aloadN X433.here hx rfl (hb hby d6_23) rfl rfl ?_
    show Steps p.tables e below (T433.setTop (mkF m 24 #[.val (.ref a0), .val (.int (8 : Int32)), .val (.int x416), .val (.int (2 : Int32)), .val (.int x399)] [(.ref a0), (.int x403)])) _
    refine st434 _ ?_
    show Steps p.tables e below (T434.setTop (mkF m 27 #[.val (.ref a0), .val (.int (8 : Int32)), .val (.int x416), .val (.int (2 : Int32)), .val (.int x399)] [(.int (536870911 : Int32)), (.int x403)])) _
    refine st435 _ ?_
    by_cases c436 : (f_cu x403 (536870911 : Int32)) < (0 : Int32)
    ·
      show Steps p.tables e below (T435.setTop (mkF m 30 #[.val (.ref a0), .val (.int (8 : Int32)), .val (.int x416), .val (.int (2 : Int32)), .val (.int x399)] [(.int (f_cu x403 (536870911 : Int32)))])) _
      refine XS.ifYes X435.here hx rfl (pc0 := 30) (pc' := 37) rfl (hb hby d6_30) rfl ((if0 _ _).trans (tlt c436).1) (by decide) (by decide) ?_
      show Steps p.tables e below (T435.setTop (mkF m 37 #[.val (.ref a0), .val (.int (8 : Int32)), .val (.int x416), .val (.int (2 : Int32)), .val (.int x399)] [])) _
      refine XS.iconst X435.here hx rfl (hb hby d6_37) ?_
      rw [show x437 = (0 : Int32) from hx437.trans (by simp only [if_pos c436])] at k
      exact k
    ·
      show Steps p.tables e below (T435.setTop (mkF m 30 #[.val (.ref a0), .val (.int (8 : Int32)), .val (.int x416), .val (.int (2 : Int32)), .val (.int x399)] [(.int (f_cu x403 (536870911 : Int32)))])) _
      refine XS.ifNo X435.here hx rfl (hb hby d6_30) rfl ((if0 _ _).trans (flt c436).1) ?_
      show Steps p.tables e below (T435.setTop (mkF m 33 #[.val (.ref a0), .val (.int (8 : Int32)), .val (.int x416), .val (.int (2 : Int32)), .val (.int x399)] [])) _
      refine XS.iconst X435.here hx rfl (hb hby d6_33) ?_
      show Steps p.tables e below (T435.setTop (mkF m 34 #[.val (.ref a0), .val (.int (8 : Int32)), .val (.int x416), .val (.int (2 : Int32)), .val (.int x399)] [(.int (1 : Int32))])) _
      refine XS.goto X435.here hx rfl (pc0 := 34) (pc' := 38) rfl (hb hby d6_34) (by decide) (by decide) ?_
      rw [show x437 = (1 : Int32) from hx437.trans (by simp only [if_neg c436])] at k
      exact k
  obtain ⟨T439, X439, e439, st439⟩ := getF X435 hx hZ hown (host := "") (Or.inl (hw _ (List.mem_of_getElem? (i := 27) rfl))) Via.refl e435 f428 (g := (mkF m 42 #[.val (.ref a0), .val (.int (8 : Int32)), .val (.int x416), .val (.int (2 : Int32)), .val (.int x437)] [(.ref a0), (.ref a0)])) rfl rfl (hb hby d6_42)
  obtain ⟨T440, X440, e440, st440⟩ := getF X439 hx hZ hown (host := "") (Or.inl (hw _ (List.mem_of_getElem? (i := 15) rfl))) Via.refl e439 f432 (g := (mkF m 46 #[.val (.ref a0), .val (.int (8 : Int32)), .val (.int x416), .val (.int (2 : Int32)), .val (.int x437)] [(.ref a0), (.int x403), (.ref a0)])) rfl rfl (hb hby d6_46)
  obtain ⟨x441, hx441⟩ : ∃ z_ : Int32, z_ = (x403 - ((536870911 : Int32) &&& (-x437))) := ⟨_, rfl⟩
  have pre442 : ∀ t, Steps p.tables e below (T440.setTop (mkF m 54 #[.val (.ref a0), .val (.int (8 : Int32)), .val (.int x416), .val (.int (2 : Int32)), .val (.int x437)] [(.int x441), (.ref a0)])) t → Steps p.tables e below (s₁.setTop (entryFrame m #[(.ref a0), (.int (8 : Int32))] 5)) t := fun t k => by
    refine pre438 t ?_
    show Steps p.tables e below (T435.setTop (mkF m 38 #[.val (.ref a0), .val (.int (8 : Int32)), .val (.int x416), .val (.int (2 : Int32)), .val (.int x399)] [(.int x437)])) _
    refine XS.istore X435.here hx rfl (hb hby d6_38) rfl (l' := #[.val (.ref a0), .val (.int (8 : Int32)), .val (.int x416), .val (.int (2 : Int32)), .val (.int x437)]) rfl ?_
    show Steps p.tables e below (T435.setTop (mkF m 40 #[.val (.ref a0), .val (.int (8 : Int32)), .val (.int x416), .val (.int (2 : Int32)), .val (.int x437)] [])) _
    refine XS.aloadN X435.here hx rfl (hb hby d6_40) rfl rfl ?_
    show Steps p.tables e below (T435.setTop (mkF m 41 #[.val (.ref a0), .val (.int (8 : Int32)), .val (.int x416), .val (.int (2 : Int32)), .val (.int x437)] [(.ref a0)])) _
    refine XS.dup X435.here hx rfl (hb hby d6_41) rfl rfl ?_
    show Steps p.tables e below (T435.setTop (mkF m 42 #[.val (.ref a0), .val (.int (8 : Int32)), .val (.int x416), .val (.int (2 : Int32)), .val (.int x437)] [(.ref a0), (.ref a0)])) _
    refine st439 _ ?_
    show Steps p.tables e below (T439.setTop (mkF m 45 #[.val (.ref a0), .val (.int (8 : Int32)), .val (.int x416), .val (.int (2 : Int32)), .val (.int x437)] [(.int x403), (.ref a0)])) _
    refine XS.aloadN X439.here hx rfl (hb hby d6_45) rfl rfl ?_
    show Steps p.tables e below (T439.setTop (mkF m 46 #[.val (.ref a0), .val (.int (8 : Int32)), .val (.int x416), .val (.int (2 : Int32)), .val (.int x437)] [(.ref a0), (.int x403), (.ref a0)])) _
    refine st440 _ ?_
    show Steps p.tables e below (T440.setTop (mkF m 49 #[.val (.ref a0), .val (.int (8 : Int32)), .val (.int x416), .val (.int (2 : Int32)), .val (.int x437)] [(.int (536870911 : Int32)), (.int x403), (.ref a0)])) _
    refine XS.iload X440.here hx rfl (hb hby d6_49) rfl ?_
    show Steps p.tables e below (T440.setTop (mkF m 51 #[.val (.ref a0), .val (.int (8 : Int32)), .val (.int x416), .val (.int (2 : Int32)), .val (.int x437)] [(.int x437), (.int (536870911 : Int32)), (.int x403), (.ref a0)])) _
    refine XS.ineg X440.here hx rfl (hb hby d6_51) rfl ?_
    show Steps p.tables e below (T440.setTop (mkF m 52 #[.val (.ref a0), .val (.int (8 : Int32)), .val (.int x416), .val (.int (2 : Int32)), .val (.int x437)] [(.int (-x437)), (.int (536870911 : Int32)), (.int x403), (.ref a0)])) _
    refine XS.iand X440.here hx rfl (hb hby d6_52) rfl ?_
    show Steps p.tables e below (T440.setTop (mkF m 53 #[.val (.ref a0), .val (.int (8 : Int32)), .val (.int x416), .val (.int (2 : Int32)), .val (.int x437)] [(.int ((536870911 : Int32) &&& (-x437))), (.int x403), (.ref a0)])) _
    refine XS.isub X440.here hx rfl (hb hby d6_53) rfl ?_
    subst hx441
    exact k
  obtain ⟨T443, h443, X443, e443, W443, st443⟩ := putF X440 hx hZ hown (host := "") (Or.inl (hw _ (List.mem_of_getElem? (i := 27) rfl))) Via.refl e440 f428 f423 (Or.inl (hw _ (List.mem_of_getElem? (i := 28) rfl))) (hw _ (List.mem_of_getElem? (i := 7) rfl)) (ty := .int) (by decide) rfl rfl (g := (mkF m 54 #[.val (.ref a0), .val (.int (8 : Int32)), .val (.int x416), .val (.int (2 : Int32)), .val (.int x437)] [(.int x441), (.ref a0)])) rfl rfl (hb hby d6_54)
  have f444 := f423.wr W443
  have f445 := f424.other W443 (Or.inr (slot_ne (Or.inr (hw _ (List.mem_of_getElem? (i := 18) rfl))) (Or.inl (hw _ (List.mem_of_getElem? (i := 28) rfl))) (by decide) (t := (.array .byte)) (t' := .int) (by decide) (by decide)))
  have f446 := f425.other W443 (Or.inr (slot_ne (Or.inl (hw _ (List.mem_of_getElem? (i := 20) rfl))) (Or.inl (hw _ (List.mem_of_getElem? (i := 28) rfl))) (by decide) (t := .int) (t' := .int) (by decide) (by decide)))
  have f447 := f426.other W443 (Or.inr (slot_ne (Or.inr (hw _ (List.mem_of_getElem? (i := 22) rfl))) (Or.inl (hw _ (List.mem_of_getElem? (i := 28) rfl))) (by decide) (t := .int) (t' := .int) (by decide) (by decide)))
  have f448 := f427.other W443 (Ne.symm ne_a0_a1)
  have f449 := f432.other W443 (Or.inr (slot_ne (Or.inl (hw _ (List.mem_of_getElem? (i := 16) rfl))) (Or.inl (hw _ (List.mem_of_getElem? (i := 28) rfl))) (by decide) (t := .int) (t' := .int) (by decide) (by decide)))
  have Z450 : n0 ≤ h443.size := Nat.le_trans Z429 (Keep.of_wr W443).1
  have K451 : Keep h0 h443 [a0] := Keep.wr K430 W443 (Or.inl (List.mem_of_getElem? (i := 0) rfl))
  have N452 := Fr.snoc X443 N435 g_a0
  have f453 : Fld Z h443 a0 "com/example/sheafworks/sheafworks/storage/RangeCoder$Decoder" "code" "I" (.int x441) := f428.same W443
  obtain ⟨x454, hx454⟩ : ∃ z_ : Int32, z_ = ((x416 <<< ((1 : Int32) &&& 31)) ||| x437) := ⟨_, rfl⟩
  have pre455 : ∀ t, Steps p.tables e below (T443.setTop (mkF m 64 #[.val (.ref a0), .val (.int (8 : Int32)), .val (.int x454), .val (.int (2 : Int32)), .val (.int x437)] [])) t → Steps p.tables e below (s₁.setTop (entryFrame m #[(.ref a0), (.int (8 : Int32))] 5)) t := fun t k => by
    refine pre442 t ?_
    show Steps p.tables e below (T440.setTop (mkF m 54 #[.val (.ref a0), .val (.int (8 : Int32)), .val (.int x416), .val (.int (2 : Int32)), .val (.int x437)] [(.int x441), (.ref a0)])) _
    refine st443 _ ?_
    show Steps p.tables e below (T443.setTop (mkF m 57 #[.val (.ref a0), .val (.int (8 : Int32)), .val (.int x416), .val (.int (2 : Int32)), .val (.int x437)] [])) _
    refine XS.iloadN X443.here hx rfl (hb hby d6_57) rfl ?_
    show Steps p.tables e below (T443.setTop (mkF m 58 #[.val (.ref a0), .val (.int (8 : Int32)), .val (.int x416), .val (.int (2 : Int32)), .val (.int x437)] [(.int x416)])) _
    refine XS.iconst X443.here hx rfl (hb hby d6_58) ?_
    show Steps p.tables e below (T443.setTop (mkF m 59 #[.val (.ref a0), .val (.int (8 : Int32)), .val (.int x416), .val (.int (2 : Int32)), .val (.int x437)] [(.int (1 : Int32)), (.int x416)])) _
    refine XS.ishl X443.here hx rfl (hb hby d6_59) rfl ?_
    show Steps p.tables e below (T443.setTop (mkF m 60 #[.val (.ref a0), .val (.int (8 : Int32)), .val (.int x416), .val (.int (2 : Int32)), .val (.int x437)] [(.int (x416 <<< ((1 : Int32) &&& 31)))])) _
    refine XS.iload X443.here hx rfl (hb hby d6_60) rfl ?_
    show Steps p.tables e below (T443.setTop (mkF m 62 #[.val (.ref a0), .val (.int (8 : Int32)), .val (.int x416), .val (.int (2 : Int32)), .val (.int x437)] [(.int x437), (.int (x416 <<< ((1 : Int32) &&& 31)))])) _
    refine XS.ior X443.here hx rfl (hb hby d6_62) rfl ?_
    show Steps p.tables e below (T443.setTop (mkF m 63 #[.val (.ref a0), .val (.int (8 : Int32)), .val (.int x416), .val (.int (2 : Int32)), .val (.int x437)] [(.int ((x416 <<< ((1 : Int32) &&& 31)) ||| x437))])) _
    refine XS.istoreN X443.here hx rfl (hb hby d6_63) rfl (l' := #[.val (.ref a0), .val (.int (8 : Int32)), .val (.int ((x416 <<< ((1 : Int32) &&& 31)) ||| x437)), .val (.int (2 : Int32)), .val (.int x437)]) rfl ?_
    subst hx454
    exact k
  obtain ⟨T456, X456, e456, st456⟩ := getF X443 hx hZ hown (host := "") (Or.inl (hw _ (List.mem_of_getElem? (i := 15) rfl))) Via.refl e443 f449 (g := (mkF m 65 #[.val (.ref a0), .val (.int (8 : Int32)), .val (.int x454), .val (.int (2 : Int32)), .val (.int x437)] [(.ref a0)])) rfl rfl (hb hby d6_65)
  obtain ⟨_, _, ⟨T457, L457, k457, n457⟩, -, X457, ⟨Lc457, hQ457, l457, y457, z457⟩, st457⟩ := Jvm.LawKit.callS X456 hx (y := (⟨"java/lang/Integer", "compareUnsigned", "(II)I"⟩ : MethodName)) hown (mvT hZ (hw _ (List.mem_of_getElem? (i := 39) rfl))) (mvT hZ (hw _ (List.mem_of_getElem? (i := 40) rfl))) (mvT hZ (hw _ (List.mem_of_getElem? (i := 41) rfl))) (mvT hZ (hw _ (List.mem_of_getElem? (i := 42) rfl))) (by decide) (backOf (W := 0) (rm7 l Z aw hw [] (536870911 : Int32) (16777216 : Int32) h443 n0 Z450) hZ (hw _ (List.mem_of_getElem? (i := 42) rfl)) (hw _ (List.mem_of_getElem? (i := 41) rfl)) (by decide) (by decide)) (g := (mkF m 70 #[.val (.ref a0), .val (.int (8 : Int32)), .val (.int x454), .val (.int (2 : Int32)), .val (.int x437)] [(.int (16777216 : Int32)), (.int (536870911 : Int32))])) rfl (by rw [hml]; rfl) (argsL := [(.int (536870911 : Int32)), (.int (16777216 : Int32))]) (rest := []) (lenOf pd_0 rfl) rfl (by show 2 * 0 + _ ≤ _; exact Nat.le_of_eq rfl) (hb hby d6_70) (fun _ _ => ⟨rfl, e456, (by decide : 0 + 0 ≤ _), (by decide : 0 + 0 ≤ _)⟩)
  dsimp only [Pt.U, Pt.locs, Pt.cells, Pt.slots] at X457 l457 y457 z457 st457 hQ457
  replace l457 := l457.symm; replace y457 := y457.symm; replace z457 := z457.symm; subst l457 y457 z457
  obtain ⟨rfl, N457q, e457⟩ := hQ457
  have N457 := Fr.app N452 N457q
  have c458 : ¬ ((f_cu (536870911 : Int32) (16777216 : Int32)) < (0 : Int32)) := by
    decide
  obtain ⟨T459, X459, e459, st459⟩ := getF X457 hx hZ hown (host := "") (Or.inl (hw _ (List.mem_of_getElem? (i := 15) rfl))) Via.refl e457 f449 (g := (mkF m 11 #[.val (.ref a0), .val (.int (8 : Int32)), .val (.int x454), .val (.int (3 : Int32)), .val (.int x437)] [(.ref a0), (.ref a0)])) rfl rfl (hb hby d6_11)
  obtain ⟨T460, h460, X460, e460, W460, st460⟩ := putF X459 hx hZ hown (host := "") (Or.inl (hw _ (List.mem_of_getElem? (i := 15) rfl))) Via.refl e459 f449 f444 (Or.inl (hw _ (List.mem_of_getElem? (i := 16) rfl))) (hw _ (List.mem_of_getElem? (i := 7) rfl)) (ty := .int) (by decide) rfl rfl (g := (mkF m 16 #[.val (.ref a0), .val (.int (8 : Int32)), .val (.int x454), .val (.int (3 : Int32)), .val (.int x437)] [(.int (268435455 : Int32)), (.ref a0)])) rfl rfl (hb hby d6_16)
  have f461 := f444.wr W460
  have f462 := f445.other W460 (Or.inr (slot_ne (Or.inr (hw _ (List.mem_of_getElem? (i := 18) rfl))) (Or.inl (hw _ (List.mem_of_getElem? (i := 16) rfl))) (by decide) (t := (.array .byte)) (t' := .int) (by decide) (by decide)))
  have f463 := f446.other W460 (Or.inr (slot_ne (Or.inl (hw _ (List.mem_of_getElem? (i := 20) rfl))) (Or.inl (hw _ (List.mem_of_getElem? (i := 16) rfl))) (by decide) (t := .int) (t' := .int) (by decide) (by decide)))
  have f464 := f447.other W460 (Or.inr (slot_ne (Or.inr (hw _ (List.mem_of_getElem? (i := 22) rfl))) (Or.inl (hw _ (List.mem_of_getElem? (i := 16) rfl))) (by decide) (t := .int) (t' := .int) (by decide) (by decide)))
  have f465 := f448.other W460 (Ne.symm ne_a0_a1)
  have f466 := f453.other W460 (Or.inr (slot_ne (Or.inl (hw _ (List.mem_of_getElem? (i := 28) rfl))) (Or.inl (hw _ (List.mem_of_getElem? (i := 16) rfl))) (by decide) (t := .int) (t' := .int) (by decide) (by decide)))
  have Z467 : n0 ≤ h460.size := Nat.le_trans Z450 (Keep.of_wr W460).1
  have K468 : Keep h0 h460 [a0] := Keep.wr K451 W460 (Or.inl (List.mem_of_getElem? (i := 0) rfl))
  have N469 := Fr.snoc X460 N457 g_a0
  have f470 : Fld Z h460 a0 "com/example/sheafworks/sheafworks/storage/RangeCoder$Decoder" "range" "I" (.int (268435455 : Int32)) := f449.same W460
  obtain ⟨T471, X471, e471, st471⟩ := getF X460 hx hZ hown (host := "") (Or.inl (hw _ (List.mem_of_getElem? (i := 27) rfl))) Via.refl e460 f466 (g := (mkF m 20 #[.val (.ref a0), .val (.int (8 : Int32)), .val (.int x454), .val (.int (3 : Int32)), .val (.int x437)] [(.ref a0)])) rfl rfl (hb hby d6_20)
  obtain ⟨T472, X472, e472, st472⟩ := getF X471 hx hZ hown (host := "") (Or.inl (hw _ (List.mem_of_getElem? (i := 15) rfl))) Via.refl e471 f470 (g := (mkF m 24 #[.val (.ref a0), .val (.int (8 : Int32)), .val (.int x454), .val (.int (3 : Int32)), .val (.int x437)] [(.ref a0), (.int x441)])) rfl rfl (hb hby d6_24)
  obtain ⟨_, _, ⟨T473, L473, k473, n473⟩, -, X473, ⟨Lc473, hQ473, l473, y473, z473⟩, st473⟩ := Jvm.LawKit.callS X472 hx (y := (⟨"java/lang/Integer", "compareUnsigned", "(II)I"⟩ : MethodName)) hown (mvT hZ (hw _ (List.mem_of_getElem? (i := 39) rfl))) (mvT hZ (hw _ (List.mem_of_getElem? (i := 40) rfl))) (mvT hZ (hw _ (List.mem_of_getElem? (i := 41) rfl))) (mvT hZ (hw _ (List.mem_of_getElem? (i := 42) rfl))) (by decide) (backOf (W := 0) (rm7 l Z aw hw [] x441 (268435455 : Int32) h460 n0 Z467) hZ (hw _ (List.mem_of_getElem? (i := 42) rfl)) (hw _ (List.mem_of_getElem? (i := 41) rfl)) (by decide) (by decide)) (g := (mkF m 27 #[.val (.ref a0), .val (.int (8 : Int32)), .val (.int x454), .val (.int (3 : Int32)), .val (.int x437)] [(.int (268435455 : Int32)), (.int x441)])) rfl (by rw [hml]; rfl) (argsL := [(.int x441), (.int (268435455 : Int32))]) (rest := []) (lenOf pd_0 rfl) rfl (by show 2 * 0 + _ ≤ _; exact Nat.le_of_eq rfl) (hb hby d6_27) (fun _ _ => ⟨rfl, e472, (by decide : 0 + 0 ≤ _), (by decide : 0 + 0 ≤ _)⟩)
  dsimp only [Pt.U, Pt.locs, Pt.cells, Pt.slots] at X473 l473 y473 z473 st473 hQ473
  replace l473 := l473.symm; replace y473 := y473.symm; replace z473 := z473.symm; subst l473 y473 z473
  obtain ⟨rfl, N473q, e473⟩ := hQ473
  have N473 := Fr.app N469 N473q
  obtain ⟨x475, hx475⟩ : ∃ z_ : Int32, z_ = (if (f_cu x441 (268435455 : Int32)) < (0 : Int32) then (0 : Int32) else (1 : Int32)) := ⟨_, rfl⟩
  have pre476 : ∀ t, Steps p.tables e below (T473.setTop (mkF m 38 #[.val (.ref a0), .val (.int (8 : Int32)), .val (.int x454), .val (.int (3 : Int32)), .val (.int x437)] [(.int x475)])) t → Steps p.tables e below (s₁.setTop (entryFrame m #[(.ref a0), (.int (8 : Int32))] 5)) t := fun t k => by
    refine pre455 t ?_
    show Steps p.tables e below (T443.setTop (mkF m 64 #[.val (.ref a0), .val (.int (8 : Int32)), .val (.int x454), .val (.int (2 : Int32)), .val (.int x437)] [])) _
    refine XS.aloadN X443.here hx rfl (hb hby d6_64) rfl rfl ?_
    show Steps p.tables e below (T443.setTop (mkF m 65 #[.val (.ref a0), .val (.int (8 : Int32)), .val (.int x454), .val (.int (2 : Int32)), .val (.int x437)] [(.ref a0)])) _
    refine st456 _ ?_
    show Steps p.tables e below (T456.setTop (mkF m 68 #[.val (.ref a0), .val (.int (8 : Int32)), .val (.int x454), .val (.int (2 : Int32)), .val (.int x437)] [(.int (536870911 : Int32))])) _
    refine X456.ldcInt hx hown (mvT hZ (hw _ (List.mem_of_getElem? (i := 47) rfl))) (g := (mkF m 68 #[.val (.ref a0), .val (.int (8 : Int32)), .val (.int x454), .val (.int (2 : Int32)), .val (.int x437)] [(.int (536870911 : Int32))])) rfl (hb hby d6_68) _ ?_
    show Steps p.tables e below (T456.setTop (mkF m 70 #[.val (.ref a0), .val (.int (8 : Int32)), .val (.int x454), .val (.int (2 : Int32)), .val (.int x437)] [(.int (16777216 : Int32)), (.int (536870911 : Int32))])) _
    refine st457 _ ?_
    show Steps p.tables e below (T457.setTop (mkF m 73 #[.val (.ref a0), .val (.int (8 : Int32)), .val (.int x454), .val (.int (2 : Int32)), .val (.int x437)] [(.int (f_cu (536870911 : Int32) (16777216 : Int32)))])) _
    refine XS.ifYes X457.here hx rfl (pc0 := 73) (pc' := 103) rfl (hb hby d6_73) rfl ((if0 _ _).trans (flt c458).2.1) (by decide) (by decide) ?_
    show Steps p.tables e below (T457.setTop (mkF m 103 #[.val (.ref a0), .val (.int (8 : Int32)), .val (.int x454), .val (.int (2 : Int32)), .val (.int x437)] [])) _
    refine XS.iinc X457.here hx rfl (hb hby d6_103) rfl (l' := #[.val (.ref a0), .val (.int (8 : Int32)), .val (.int x454), .val (.int (3 : Int32)), .val (.int x437)]) rfl ?_
    show Steps p.tables e below (T457.setTop (mkF m 106 #[.val (.ref a0), .val (.int (8 : Int32)), .val (.int x454), .val (.int (3 : Int32)), .val (.int x437)] [])) _
    refine XS.goto X457.here hx rfl (pc0 := 106) (pc' := 4) rfl (hb hby d6_106) (by decide) (by decide) ?_
    show Steps p.tables e below (T457.setTop (mkF m 4 #[.val (.ref a0), .val (.int (8 : Int32)), .val (.int x454), .val (.int (3 : Int32)), .val (.int x437)] [])) _
    refine XS.iloadN X457.here hx rfl (hb hby d6_4) rfl ?_
    show Steps p.tables e below (T457.setTop (mkF m 5 #[.val (.ref a0), .val (.int (8 : Int32)), .val (.int x454), .val (.int (3 : Int32)), .val (.int x437)] [(.int (3 : Int32))])) _
    refine XS.iloadN X457.here hx rfl (hb hby d6_5) rfl ?_
    show Steps p.tables e below (T457.setTop (mkF m 6 #[.val (.ref a0), .val (.int (8 : Int32)), .val (.int x454), .val (.int (3 : Int32)), .val (.int x437)] [(.int (8 : Int32)), (.int (3 : Int32))])) _
    refine XS.icmpNo X457.here hx rfl (hb hby d6_6) rfl (tlt (by decide)).2.1 ?_
    show Steps p.tables e below (T457.setTop (mkF m 9 #[.val (.ref a0), .val (.int (8 : Int32)), .val (.int x454), .val (.int (3 : Int32)), .val (.int x437)] [])) _
    refine XS.aloadN X457.here hx rfl (hb hby d6_9) rfl rfl ?_
    show Steps p.tables e below (T457.setTop (mkF m 10 #[.val (.ref a0), .val (.int (8 : Int32)), .val (.int x454), .val (.int (3 : Int32)), .val (.int x437)] [(.ref a0)])) _
    refine XS.dup X457.here hx rfl (hb hby d6_10) rfl rfl ?_
    show Steps p.tables e below (T457.setTop (mkF m 11 #[.val (.ref a0), .val (.int (8 : Int32)), .val (.int x454), .val (.int (3 : Int32)), .val (.int x437)] [(.ref a0), (.ref a0)])) _
    refine st459 _ ?_
    show Steps p.tables e below (T459.setTop (mkF m 14 #[.val (.ref a0), .val (.int (8 : Int32)), .val (.int x454), .val (.int (3 : Int32)), .val (.int x437)] [(.int (536870911 : Int32)), (.ref a0)])) _
    refine XS.iconst X459.here hx rfl (hb hby d6_14) ?_
    show Steps p.tables e below (T459.setTop (mkF m 15 #[.val (.ref a0), .val (.int (8 : Int32)), .val (.int x454), .val (.int (3 : Int32)), .val (.int x437)] [(.int (1 : Int32)), (.int (536870911 : Int32)), (.ref a0)])) _
    refine XS.iushr X459.here hx rfl (hb hby d6_15) rfl ?_
    show Steps p.tables e below (T459.setTop (mkF m 16 #[.val (.ref a0), .val (.int (8 : Int32)), .val (.int x454), .val (.int (3 : Int32)), .val (.int x437)] [(.int (268435455 : Int32)), (.ref a0)])) _
    refine st460 _ ?_
    show Steps p.tables e below (T460.setTop (mkF m 19 #[.val (.ref a0), .val (.int (8 : Int32)), .val (.int x454), .val (.int (3 : Int32)), .val (.int x437)] [])) _
    refine XS.aloadN X460.here hx rfl (hb hby d6_19) rfl rfl ?_
    show Steps p.tables e below (T460.setTop (mkF m 20 #[.val (.ref a0), .val (.int (8 : Int32)), .val (.int x454), .val (.int (3 : Int32)), .val (.int x437)] [(.ref a0)])) _
    refine st471 _ ?_
    show Steps p.tables e below (T471.setTop (mkF m 23 #[.val (.ref a0), .val (.int (8 : Int32)), .val (.int x454), .val (.int (3 : Int32)), .val (.int x437)] [(.int x441)])) _
    refine XS.aloadN X471.here hx rfl (hb hby d6_23) rfl rfl ?_
    show Steps p.tables e below (T471.setTop (mkF m 24 #[.val (.ref a0), .val (.int (8 : Int32)), .val (.int x454), .val (.int (3 : Int32)), .val (.int x437)] [(.ref a0), (.int x441)])) _
    refine st472 _ ?_
    show Steps p.tables e below (T472.setTop (mkF m 27 #[.val (.ref a0), .val (.int (8 : Int32)), .val (.int x454), .val (.int (3 : Int32)), .val (.int x437)] [(.int (268435455 : Int32)), (.int x441)])) _
    refine st473 _ ?_
    by_cases c474 : (f_cu x441 (268435455 : Int32)) < (0 : Int32)
    ·
      show Steps p.tables e below (T473.setTop (mkF m 30 #[.val (.ref a0), .val (.int (8 : Int32)), .val (.int x454), .val (.int (3 : Int32)), .val (.int x437)] [(.int (f_cu x441 (268435455 : Int32)))])) _
      refine XS.ifYes X473.here hx rfl (pc0 := 30) (pc' := 37) rfl (hb hby d6_30) rfl ((if0 _ _).trans (tlt c474).1) (by decide) (by decide) ?_
      show Steps p.tables e below (T473.setTop (mkF m 37 #[.val (.ref a0), .val (.int (8 : Int32)), .val (.int x454), .val (.int (3 : Int32)), .val (.int x437)] [])) _
      refine XS.iconst X473.here hx rfl (hb hby d6_37) ?_
      rw [show x475 = (0 : Int32) from hx475.trans (by simp only [if_pos c474])] at k
      exact k
    ·
      show Steps p.tables e below (T473.setTop (mkF m 30 #[.val (.ref a0), .val (.int (8 : Int32)), .val (.int x454), .val (.int (3 : Int32)), .val (.int x437)] [(.int (f_cu x441 (268435455 : Int32)))])) _
      refine XS.ifNo X473.here hx rfl (hb hby d6_30) rfl ((if0 _ _).trans (flt c474).1) ?_
      show Steps p.tables e below (T473.setTop (mkF m 33 #[.val (.ref a0), .val (.int (8 : Int32)), .val (.int x454), .val (.int (3 : Int32)), .val (.int x437)] [])) _
      refine XS.iconst X473.here hx rfl (hb hby d6_33) ?_
      show Steps p.tables e below (T473.setTop (mkF m 34 #[.val (.ref a0), .val (.int (8 : Int32)), .val (.int x454), .val (.int (3 : Int32)), .val (.int x437)] [(.int (1 : Int32))])) _
      refine XS.goto X473.here hx rfl (pc0 := 34) (pc' := 38) rfl (hb hby d6_34) (by decide) (by decide) ?_
      rw [show x475 = (1 : Int32) from hx475.trans (by simp only [if_neg c474])] at k
      exact k
  obtain ⟨T477, X477, e477, st477⟩ := getF X473 hx hZ hown (host := "") (Or.inl (hw _ (List.mem_of_getElem? (i := 27) rfl))) Via.refl e473 f466 (g := (mkF m 42 #[.val (.ref a0), .val (.int (8 : Int32)), .val (.int x454), .val (.int (3 : Int32)), .val (.int x475)] [(.ref a0), (.ref a0)])) rfl rfl (hb hby d6_42)
  obtain ⟨T478, X478, e478, st478⟩ := getF X477 hx hZ hown (host := "") (Or.inl (hw _ (List.mem_of_getElem? (i := 15) rfl))) Via.refl e477 f470 (g := (mkF m 46 #[.val (.ref a0), .val (.int (8 : Int32)), .val (.int x454), .val (.int (3 : Int32)), .val (.int x475)] [(.ref a0), (.int x441), (.ref a0)])) rfl rfl (hb hby d6_46)
  obtain ⟨x479, hx479⟩ : ∃ z_ : Int32, z_ = (x441 - ((268435455 : Int32) &&& (-x475))) := ⟨_, rfl⟩
  have pre480 : ∀ t, Steps p.tables e below (T478.setTop (mkF m 54 #[.val (.ref a0), .val (.int (8 : Int32)), .val (.int x454), .val (.int (3 : Int32)), .val (.int x475)] [(.int x479), (.ref a0)])) t → Steps p.tables e below (s₁.setTop (entryFrame m #[(.ref a0), (.int (8 : Int32))] 5)) t := fun t k => by
    refine pre476 t ?_
    show Steps p.tables e below (T473.setTop (mkF m 38 #[.val (.ref a0), .val (.int (8 : Int32)), .val (.int x454), .val (.int (3 : Int32)), .val (.int x437)] [(.int x475)])) _
    refine XS.istore X473.here hx rfl (hb hby d6_38) rfl (l' := #[.val (.ref a0), .val (.int (8 : Int32)), .val (.int x454), .val (.int (3 : Int32)), .val (.int x475)]) rfl ?_
    show Steps p.tables e below (T473.setTop (mkF m 40 #[.val (.ref a0), .val (.int (8 : Int32)), .val (.int x454), .val (.int (3 : Int32)), .val (.int x475)] [])) _
    refine XS.aloadN X473.here hx rfl (hb hby d6_40) rfl rfl ?_
    show Steps p.tables e below (T473.setTop (mkF m 41 #[.val (.ref a0), .val (.int (8 : Int32)), .val (.int x454), .val (.int (3 : Int32)), .val (.int x475)] [(.ref a0)])) _
    refine XS.dup X473.here hx rfl (hb hby d6_41) rfl rfl ?_
    show Steps p.tables e below (T473.setTop (mkF m 42 #[.val (.ref a0), .val (.int (8 : Int32)), .val (.int x454), .val (.int (3 : Int32)), .val (.int x475)] [(.ref a0), (.ref a0)])) _
    refine st477 _ ?_
    show Steps p.tables e below (T477.setTop (mkF m 45 #[.val (.ref a0), .val (.int (8 : Int32)), .val (.int x454), .val (.int (3 : Int32)), .val (.int x475)] [(.int x441), (.ref a0)])) _
    refine XS.aloadN X477.here hx rfl (hb hby d6_45) rfl rfl ?_
    show Steps p.tables e below (T477.setTop (mkF m 46 #[.val (.ref a0), .val (.int (8 : Int32)), .val (.int x454), .val (.int (3 : Int32)), .val (.int x475)] [(.ref a0), (.int x441), (.ref a0)])) _
    refine st478 _ ?_
    show Steps p.tables e below (T478.setTop (mkF m 49 #[.val (.ref a0), .val (.int (8 : Int32)), .val (.int x454), .val (.int (3 : Int32)), .val (.int x475)] [(.int (268435455 : Int32)), (.int x441), (.ref a0)])) _
    refine XS.iload X478.here hx rfl (hb hby d6_49) rfl ?_
    show Steps p.tables e below (T478.setTop (mkF m 51 #[.val (.ref a0), .val (.int (8 : Int32)), .val (.int x454), .val (.int (3 : Int32)), .val (.int x475)] [(.int x475), (.int (268435455 : Int32)), (.int x441), (.ref a0)])) _
    refine XS.ineg X478.here hx rfl (hb hby d6_51) rfl ?_
    show Steps p.tables e below (T478.setTop (mkF m 52 #[.val (.ref a0), .val (.int (8 : Int32)), .val (.int x454), .val (.int (3 : Int32)), .val (.int x475)] [(.int (-x475)), (.int (268435455 : Int32)), (.int x441), (.ref a0)])) _
    refine XS.iand X478.here hx rfl (hb hby d6_52) rfl ?_
    show Steps p.tables e below (T478.setTop (mkF m 53 #[.val (.ref a0), .val (.int (8 : Int32)), .val (.int x454), .val (.int (3 : Int32)), .val (.int x475)] [(.int ((268435455 : Int32) &&& (-x475))), (.int x441), (.ref a0)])) _
    refine XS.isub X478.here hx rfl (hb hby d6_53) rfl ?_
    subst hx479
    exact k
  obtain ⟨T481, h481, X481, e481, W481, st481⟩ := putF X478 hx hZ hown (host := "") (Or.inl (hw _ (List.mem_of_getElem? (i := 27) rfl))) Via.refl e478 f466 f461 (Or.inl (hw _ (List.mem_of_getElem? (i := 28) rfl))) (hw _ (List.mem_of_getElem? (i := 7) rfl)) (ty := .int) (by decide) rfl rfl (g := (mkF m 54 #[.val (.ref a0), .val (.int (8 : Int32)), .val (.int x454), .val (.int (3 : Int32)), .val (.int x475)] [(.int x479), (.ref a0)])) rfl rfl (hb hby d6_54)
  have f482 := f461.wr W481
  have f483 := f462.other W481 (Or.inr (slot_ne (Or.inr (hw _ (List.mem_of_getElem? (i := 18) rfl))) (Or.inl (hw _ (List.mem_of_getElem? (i := 28) rfl))) (by decide) (t := (.array .byte)) (t' := .int) (by decide) (by decide)))
  have f484 := f463.other W481 (Or.inr (slot_ne (Or.inl (hw _ (List.mem_of_getElem? (i := 20) rfl))) (Or.inl (hw _ (List.mem_of_getElem? (i := 28) rfl))) (by decide) (t := .int) (t' := .int) (by decide) (by decide)))
  have f485 := f464.other W481 (Or.inr (slot_ne (Or.inr (hw _ (List.mem_of_getElem? (i := 22) rfl))) (Or.inl (hw _ (List.mem_of_getElem? (i := 28) rfl))) (by decide) (t := .int) (t' := .int) (by decide) (by decide)))
  have f486 := f465.other W481 (Ne.symm ne_a0_a1)
  have f487 := f470.other W481 (Or.inr (slot_ne (Or.inl (hw _ (List.mem_of_getElem? (i := 16) rfl))) (Or.inl (hw _ (List.mem_of_getElem? (i := 28) rfl))) (by decide) (t := .int) (t' := .int) (by decide) (by decide)))
  have Z488 : n0 ≤ h481.size := Nat.le_trans Z467 (Keep.of_wr W481).1
  have K489 : Keep h0 h481 [a0] := Keep.wr K468 W481 (Or.inl (List.mem_of_getElem? (i := 0) rfl))
  have N490 := Fr.snoc X481 N473 g_a0
  have f491 : Fld Z h481 a0 "com/example/sheafworks/sheafworks/storage/RangeCoder$Decoder" "code" "I" (.int x479) := f466.same W481
  obtain ⟨x492, hx492⟩ : ∃ z_ : Int32, z_ = ((x454 <<< ((1 : Int32) &&& 31)) ||| x475) := ⟨_, rfl⟩
  have pre493 : ∀ t, Steps p.tables e below (T481.setTop (mkF m 64 #[.val (.ref a0), .val (.int (8 : Int32)), .val (.int x492), .val (.int (3 : Int32)), .val (.int x475)] [])) t → Steps p.tables e below (s₁.setTop (entryFrame m #[(.ref a0), (.int (8 : Int32))] 5)) t := fun t k => by
    refine pre480 t ?_
    show Steps p.tables e below (T478.setTop (mkF m 54 #[.val (.ref a0), .val (.int (8 : Int32)), .val (.int x454), .val (.int (3 : Int32)), .val (.int x475)] [(.int x479), (.ref a0)])) _
    refine st481 _ ?_
    show Steps p.tables e below (T481.setTop (mkF m 57 #[.val (.ref a0), .val (.int (8 : Int32)), .val (.int x454), .val (.int (3 : Int32)), .val (.int x475)] [])) _
    refine XS.iloadN X481.here hx rfl (hb hby d6_57) rfl ?_
    show Steps p.tables e below (T481.setTop (mkF m 58 #[.val (.ref a0), .val (.int (8 : Int32)), .val (.int x454), .val (.int (3 : Int32)), .val (.int x475)] [(.int x454)])) _
    refine XS.iconst X481.here hx rfl (hb hby d6_58) ?_
    show Steps p.tables e below (T481.setTop (mkF m 59 #[.val (.ref a0), .val (.int (8 : Int32)), .val (.int x454), .val (.int (3 : Int32)), .val (.int x475)] [(.int (1 : Int32)), (.int x454)])) _
    refine XS.ishl X481.here hx rfl (hb hby d6_59) rfl ?_
    show Steps p.tables e below (T481.setTop (mkF m 60 #[.val (.ref a0), .val (.int (8 : Int32)), .val (.int x454), .val (.int (3 : Int32)), .val (.int x475)] [(.int (x454 <<< ((1 : Int32) &&& 31)))])) _
    refine XS.iload X481.here hx rfl (hb hby d6_60) rfl ?_
    show Steps p.tables e below (T481.setTop (mkF m 62 #[.val (.ref a0), .val (.int (8 : Int32)), .val (.int x454), .val (.int (3 : Int32)), .val (.int x475)] [(.int x475), (.int (x454 <<< ((1 : Int32) &&& 31)))])) _
    refine XS.ior X481.here hx rfl (hb hby d6_62) rfl ?_
    show Steps p.tables e below (T481.setTop (mkF m 63 #[.val (.ref a0), .val (.int (8 : Int32)), .val (.int x454), .val (.int (3 : Int32)), .val (.int x475)] [(.int ((x454 <<< ((1 : Int32) &&& 31)) ||| x475))])) _
    refine XS.istoreN X481.here hx rfl (hb hby d6_63) rfl (l' := #[.val (.ref a0), .val (.int (8 : Int32)), .val (.int ((x454 <<< ((1 : Int32) &&& 31)) ||| x475)), .val (.int (3 : Int32)), .val (.int x475)]) rfl ?_
    subst hx492
    exact k
  obtain ⟨T494, X494, e494, st494⟩ := getF X481 hx hZ hown (host := "") (Or.inl (hw _ (List.mem_of_getElem? (i := 15) rfl))) Via.refl e481 f487 (g := (mkF m 65 #[.val (.ref a0), .val (.int (8 : Int32)), .val (.int x492), .val (.int (3 : Int32)), .val (.int x475)] [(.ref a0)])) rfl rfl (hb hby d6_65)
  obtain ⟨_, _, ⟨T495, L495, k495, n495⟩, -, X495, ⟨Lc495, hQ495, l495, y495, z495⟩, st495⟩ := Jvm.LawKit.callS X494 hx (y := (⟨"java/lang/Integer", "compareUnsigned", "(II)I"⟩ : MethodName)) hown (mvT hZ (hw _ (List.mem_of_getElem? (i := 39) rfl))) (mvT hZ (hw _ (List.mem_of_getElem? (i := 40) rfl))) (mvT hZ (hw _ (List.mem_of_getElem? (i := 41) rfl))) (mvT hZ (hw _ (List.mem_of_getElem? (i := 42) rfl))) (by decide) (backOf (W := 0) (rm7 l Z aw hw [] (268435455 : Int32) (16777216 : Int32) h481 n0 Z488) hZ (hw _ (List.mem_of_getElem? (i := 42) rfl)) (hw _ (List.mem_of_getElem? (i := 41) rfl)) (by decide) (by decide)) (g := (mkF m 70 #[.val (.ref a0), .val (.int (8 : Int32)), .val (.int x492), .val (.int (3 : Int32)), .val (.int x475)] [(.int (16777216 : Int32)), (.int (268435455 : Int32))])) rfl (by rw [hml]; rfl) (argsL := [(.int (268435455 : Int32)), (.int (16777216 : Int32))]) (rest := []) (lenOf pd_0 rfl) rfl (by show 2 * 0 + _ ≤ _; exact Nat.le_of_eq rfl) (hb hby d6_70) (fun _ _ => ⟨rfl, e494, (by decide : 0 + 0 ≤ _), (by decide : 0 + 0 ≤ _)⟩)
  dsimp only [Pt.U, Pt.locs, Pt.cells, Pt.slots] at X495 l495 y495 z495 st495 hQ495
  replace l495 := l495.symm; replace y495 := y495.symm; replace z495 := z495.symm; subst l495 y495 z495
  obtain ⟨rfl, N495q, e495⟩ := hQ495
  have N495 := Fr.app N490 N495q
  have c496 : ¬ ((f_cu (268435455 : Int32) (16777216 : Int32)) < (0 : Int32)) := by
    decide
  obtain ⟨T497, X497, e497, st497⟩ := getF X495 hx hZ hown (host := "") (Or.inl (hw _ (List.mem_of_getElem? (i := 15) rfl))) Via.refl e495 f487 (g := (mkF m 11 #[.val (.ref a0), .val (.int (8 : Int32)), .val (.int x492), .val (.int (4 : Int32)), .val (.int x475)] [(.ref a0), (.ref a0)])) rfl rfl (hb hby d6_11)
  obtain ⟨T498, h498, X498, e498, W498, st498⟩ := putF X497 hx hZ hown (host := "") (Or.inl (hw _ (List.mem_of_getElem? (i := 15) rfl))) Via.refl e497 f487 f482 (Or.inl (hw _ (List.mem_of_getElem? (i := 16) rfl))) (hw _ (List.mem_of_getElem? (i := 7) rfl)) (ty := .int) (by decide) rfl rfl (g := (mkF m 16 #[.val (.ref a0), .val (.int (8 : Int32)), .val (.int x492), .val (.int (4 : Int32)), .val (.int x475)] [(.int (134217727 : Int32)), (.ref a0)])) rfl rfl (hb hby d6_16)
  have f499 := f482.wr W498
  have f500 := f483.other W498 (Or.inr (slot_ne (Or.inr (hw _ (List.mem_of_getElem? (i := 18) rfl))) (Or.inl (hw _ (List.mem_of_getElem? (i := 16) rfl))) (by decide) (t := (.array .byte)) (t' := .int) (by decide) (by decide)))
  have f501 := f484.other W498 (Or.inr (slot_ne (Or.inl (hw _ (List.mem_of_getElem? (i := 20) rfl))) (Or.inl (hw _ (List.mem_of_getElem? (i := 16) rfl))) (by decide) (t := .int) (t' := .int) (by decide) (by decide)))
  have f502 := f485.other W498 (Or.inr (slot_ne (Or.inr (hw _ (List.mem_of_getElem? (i := 22) rfl))) (Or.inl (hw _ (List.mem_of_getElem? (i := 16) rfl))) (by decide) (t := .int) (t' := .int) (by decide) (by decide)))
  have f503 := f486.other W498 (Ne.symm ne_a0_a1)
  have f504 := f491.other W498 (Or.inr (slot_ne (Or.inl (hw _ (List.mem_of_getElem? (i := 28) rfl))) (Or.inl (hw _ (List.mem_of_getElem? (i := 16) rfl))) (by decide) (t := .int) (t' := .int) (by decide) (by decide)))
  have Z505 : n0 ≤ h498.size := Nat.le_trans Z488 (Keep.of_wr W498).1
  have K506 : Keep h0 h498 [a0] := Keep.wr K489 W498 (Or.inl (List.mem_of_getElem? (i := 0) rfl))
  have N507 := Fr.snoc X498 N495 g_a0
  have f508 : Fld Z h498 a0 "com/example/sheafworks/sheafworks/storage/RangeCoder$Decoder" "range" "I" (.int (134217727 : Int32)) := f487.same W498
  obtain ⟨T509, X509, e509, st509⟩ := getF X498 hx hZ hown (host := "") (Or.inl (hw _ (List.mem_of_getElem? (i := 27) rfl))) Via.refl e498 f504 (g := (mkF m 20 #[.val (.ref a0), .val (.int (8 : Int32)), .val (.int x492), .val (.int (4 : Int32)), .val (.int x475)] [(.ref a0)])) rfl rfl (hb hby d6_20)
  obtain ⟨T510, X510, e510, st510⟩ := getF X509 hx hZ hown (host := "") (Or.inl (hw _ (List.mem_of_getElem? (i := 15) rfl))) Via.refl e509 f508 (g := (mkF m 24 #[.val (.ref a0), .val (.int (8 : Int32)), .val (.int x492), .val (.int (4 : Int32)), .val (.int x475)] [(.ref a0), (.int x479)])) rfl rfl (hb hby d6_24)
  obtain ⟨_, _, ⟨T511, L511, k511, n511⟩, -, X511, ⟨Lc511, hQ511, l511, y511, z511⟩, st511⟩ := Jvm.LawKit.callS X510 hx (y := (⟨"java/lang/Integer", "compareUnsigned", "(II)I"⟩ : MethodName)) hown (mvT hZ (hw _ (List.mem_of_getElem? (i := 39) rfl))) (mvT hZ (hw _ (List.mem_of_getElem? (i := 40) rfl))) (mvT hZ (hw _ (List.mem_of_getElem? (i := 41) rfl))) (mvT hZ (hw _ (List.mem_of_getElem? (i := 42) rfl))) (by decide) (backOf (W := 0) (rm7 l Z aw hw [] x479 (134217727 : Int32) h498 n0 Z505) hZ (hw _ (List.mem_of_getElem? (i := 42) rfl)) (hw _ (List.mem_of_getElem? (i := 41) rfl)) (by decide) (by decide)) (g := (mkF m 27 #[.val (.ref a0), .val (.int (8 : Int32)), .val (.int x492), .val (.int (4 : Int32)), .val (.int x475)] [(.int (134217727 : Int32)), (.int x479)])) rfl (by rw [hml]; rfl) (argsL := [(.int x479), (.int (134217727 : Int32))]) (rest := []) (lenOf pd_0 rfl) rfl (by show 2 * 0 + _ ≤ _; exact Nat.le_of_eq rfl) (hb hby d6_27) (fun _ _ => ⟨rfl, e510, (by decide : 0 + 0 ≤ _), (by decide : 0 + 0 ≤ _)⟩)
  dsimp only [Pt.U, Pt.locs, Pt.cells, Pt.slots] at X511 l511 y511 z511 st511 hQ511
  replace l511 := l511.symm; replace y511 := y511.symm; replace z511 := z511.symm; subst l511 y511 z511
  obtain ⟨rfl, N511q, e511⟩ := hQ511
  have N511 := Fr.app N507 N511q
  obtain ⟨x513, hx513⟩ : ∃ z_ : Int32, z_ = (if (f_cu x479 (134217727 : Int32)) < (0 : Int32) then (0 : Int32) else (1 : Int32)) := ⟨_, rfl⟩
  have pre514 : ∀ t, Steps p.tables e below (T511.setTop (mkF m 38 #[.val (.ref a0), .val (.int (8 : Int32)), .val (.int x492), .val (.int (4 : Int32)), .val (.int x475)] [(.int x513)])) t → Steps p.tables e below (s₁.setTop (entryFrame m #[(.ref a0), (.int (8 : Int32))] 5)) t := fun t k => by
    refine pre493 t ?_
    show Steps p.tables e below (T481.setTop (mkF m 64 #[.val (.ref a0), .val (.int (8 : Int32)), .val (.int x492), .val (.int (3 : Int32)), .val (.int x475)] [])) _
    refine XS.aloadN X481.here hx rfl (hb hby d6_64) rfl rfl ?_
    show Steps p.tables e below (T481.setTop (mkF m 65 #[.val (.ref a0), .val (.int (8 : Int32)), .val (.int x492), .val (.int (3 : Int32)), .val (.int x475)] [(.ref a0)])) _
    refine st494 _ ?_
    show Steps p.tables e below (T494.setTop (mkF m 68 #[.val (.ref a0), .val (.int (8 : Int32)), .val (.int x492), .val (.int (3 : Int32)), .val (.int x475)] [(.int (268435455 : Int32))])) _
    refine X494.ldcInt hx hown (mvT hZ (hw _ (List.mem_of_getElem? (i := 47) rfl))) (g := (mkF m 68 #[.val (.ref a0), .val (.int (8 : Int32)), .val (.int x492), .val (.int (3 : Int32)), .val (.int x475)] [(.int (268435455 : Int32))])) rfl (hb hby d6_68) _ ?_
    show Steps p.tables e below (T494.setTop (mkF m 70 #[.val (.ref a0), .val (.int (8 : Int32)), .val (.int x492), .val (.int (3 : Int32)), .val (.int x475)] [(.int (16777216 : Int32)), (.int (268435455 : Int32))])) _
    refine st495 _ ?_
    show Steps p.tables e below (T495.setTop (mkF m 73 #[.val (.ref a0), .val (.int (8 : Int32)), .val (.int x492), .val (.int (3 : Int32)), .val (.int x475)] [(.int (f_cu (268435455 : Int32) (16777216 : Int32)))])) _
    refine XS.ifYes X495.here hx rfl (pc0 := 73) (pc' := 103) rfl (hb hby d6_73) rfl ((if0 _ _).trans (flt c496).2.1) (by decide) (by decide) ?_
    show Steps p.tables e below (T495.setTop (mkF m 103 #[.val (.ref a0), .val (.int (8 : Int32)), .val (.int x492), .val (.int (3 : Int32)), .val (.int x475)] [])) _
    refine XS.iinc X495.here hx rfl (hb hby d6_103) rfl (l' := #[.val (.ref a0), .val (.int (8 : Int32)), .val (.int x492), .val (.int (4 : Int32)), .val (.int x475)]) rfl ?_
    show Steps p.tables e below (T495.setTop (mkF m 106 #[.val (.ref a0), .val (.int (8 : Int32)), .val (.int x492), .val (.int (4 : Int32)), .val (.int x475)] [])) _
    refine XS.goto X495.here hx rfl (pc0 := 106) (pc' := 4) rfl (hb hby d6_106) (by decide) (by decide) ?_
    show Steps p.tables e below (T495.setTop (mkF m 4 #[.val (.ref a0), .val (.int (8 : Int32)), .val (.int x492), .val (.int (4 : Int32)), .val (.int x475)] [])) _
    refine XS.iloadN X495.here hx rfl (hb hby d6_4) rfl ?_
    show Steps p.tables e below (T495.setTop (mkF m 5 #[.val (.ref a0), .val (.int (8 : Int32)), .val (.int x492), .val (.int (4 : Int32)), .val (.int x475)] [(.int (4 : Int32))])) _
    refine XS.iloadN X495.here hx rfl (hb hby d6_5) rfl ?_
    show Steps p.tables e below (T495.setTop (mkF m 6 #[.val (.ref a0), .val (.int (8 : Int32)), .val (.int x492), .val (.int (4 : Int32)), .val (.int x475)] [(.int (8 : Int32)), (.int (4 : Int32))])) _
    refine XS.icmpNo X495.here hx rfl (hb hby d6_6) rfl (tlt (by decide)).2.1 ?_
    show Steps p.tables e below (T495.setTop (mkF m 9 #[.val (.ref a0), .val (.int (8 : Int32)), .val (.int x492), .val (.int (4 : Int32)), .val (.int x475)] [])) _
    refine XS.aloadN X495.here hx rfl (hb hby d6_9) rfl rfl ?_
    show Steps p.tables e below (T495.setTop (mkF m 10 #[.val (.ref a0), .val (.int (8 : Int32)), .val (.int x492), .val (.int (4 : Int32)), .val (.int x475)] [(.ref a0)])) _
    refine XS.dup X495.here hx rfl (hb hby d6_10) rfl rfl ?_
    show Steps p.tables e below (T495.setTop (mkF m 11 #[.val (.ref a0), .val (.int (8 : Int32)), .val (.int x492), .val (.int (4 : Int32)), .val (.int x475)] [(.ref a0), (.ref a0)])) _
    refine st497 _ ?_
    show Steps p.tables e below (T497.setTop (mkF m 14 #[.val (.ref a0), .val (.int (8 : Int32)), .val (.int x492), .val (.int (4 : Int32)), .val (.int x475)] [(.int (268435455 : Int32)), (.ref a0)])) _
    refine XS.iconst X497.here hx rfl (hb hby d6_14) ?_
    show Steps p.tables e below (T497.setTop (mkF m 15 #[.val (.ref a0), .val (.int (8 : Int32)), .val (.int x492), .val (.int (4 : Int32)), .val (.int x475)] [(.int (1 : Int32)), (.int (268435455 : Int32)), (.ref a0)])) _
    refine XS.iushr X497.here hx rfl (hb hby d6_15) rfl ?_
    show Steps p.tables e below (T497.setTop (mkF m 16 #[.val (.ref a0), .val (.int (8 : Int32)), .val (.int x492), .val (.int (4 : Int32)), .val (.int x475)] [(.int (134217727 : Int32)), (.ref a0)])) _
    refine st498 _ ?_
    show Steps p.tables e below (T498.setTop (mkF m 19 #[.val (.ref a0), .val (.int (8 : Int32)), .val (.int x492), .val (.int (4 : Int32)), .val (.int x475)] [])) _
    refine XS.aloadN X498.here hx rfl (hb hby d6_19) rfl rfl ?_
    show Steps p.tables e below (T498.setTop (mkF m 20 #[.val (.ref a0), .val (.int (8 : Int32)), .val (.int x492), .val (.int (4 : Int32)), .val (.int x475)] [(.ref a0)])) _
    refine st509 _ ?_
    show Steps p.tables e below (T509.setTop (mkF m 23 #[.val (.ref a0), .val (.int (8 : Int32)), .val (.int x492), .val (.int (4 : Int32)), .val (.int x475)] [(.int x479)])) _
    refine XS.aloadN X509.here hx rfl (hb hby d6_23) rfl rfl ?_
    show Steps p.tables e below (T509.setTop (mkF m 24 #[.val (.ref a0), .val (.int (8 : Int32)), .val (.int x492), .val (.int (4 : Int32)), .val (.int x475)] [(.ref a0), (.int x479)])) _
    refine st510 _ ?_
    show Steps p.tables e below (T510.setTop (mkF m 27 #[.val (.ref a0), .val (.int (8 : Int32)), .val (.int x492), .val (.int (4 : Int32)), .val (.int x475)] [(.int (134217727 : Int32)), (.int x479)])) _
    refine st511 _ ?_
    by_cases c512 : (f_cu x479 (134217727 : Int32)) < (0 : Int32)
    ·
      show Steps p.tables e below (T511.setTop (mkF m 30 #[.val (.ref a0), .val (.int (8 : Int32)), .val (.int x492), .val (.int (4 : Int32)), .val (.int x475)] [(.int (f_cu x479 (134217727 : Int32)))])) _
      refine XS.ifYes X511.here hx rfl (pc0 := 30) (pc' := 37) rfl (hb hby d6_30) rfl ((if0 _ _).trans (tlt c512).1) (by decide) (by decide) ?_
      show Steps p.tables e below (T511.setTop (mkF m 37 #[.val (.ref a0), .val (.int (8 : Int32)), .val (.int x492), .val (.int (4 : Int32)), .val (.int x475)] [])) _
      refine XS.iconst X511.here hx rfl (hb hby d6_37) ?_
      rw [show x513 = (0 : Int32) from hx513.trans (by simp only [if_pos c512])] at k
      exact k
    ·
      show Steps p.tables e below (T511.setTop (mkF m 30 #[.val (.ref a0), .val (.int (8 : Int32)), .val (.int x492), .val (.int (4 : Int32)), .val (.int x475)] [(.int (f_cu x479 (134217727 : Int32)))])) _
      refine XS.ifNo X511.here hx rfl (hb hby d6_30) rfl ((if0 _ _).trans (flt c512).1) ?_
      show Steps p.tables e below (T511.setTop (mkF m 33 #[.val (.ref a0), .val (.int (8 : Int32)), .val (.int x492), .val (.int (4 : Int32)), .val (.int x475)] [])) _
      refine XS.iconst X511.here hx rfl (hb hby d6_33) ?_
      show Steps p.tables e below (T511.setTop (mkF m 34 #[.val (.ref a0), .val (.int (8 : Int32)), .val (.int x492), .val (.int (4 : Int32)), .val (.int x475)] [(.int (1 : Int32))])) _
      refine XS.goto X511.here hx rfl (pc0 := 34) (pc' := 38) rfl (hb hby d6_34) (by decide) (by decide) ?_
      rw [show x513 = (1 : Int32) from hx513.trans (by simp only [if_neg c512])] at k
      exact k
  obtain ⟨T515, X515, e515, st515⟩ := getF X511 hx hZ hown (host := "") (Or.inl (hw _ (List.mem_of_getElem? (i := 27) rfl))) Via.refl e511 f504 (g := (mkF m 42 #[.val (.ref a0), .val (.int (8 : Int32)), .val (.int x492), .val (.int (4 : Int32)), .val (.int x513)] [(.ref a0), (.ref a0)])) rfl rfl (hb hby d6_42)
  obtain ⟨T516, X516, e516, st516⟩ := getF X515 hx hZ hown (host := "") (Or.inl (hw _ (List.mem_of_getElem? (i := 15) rfl))) Via.refl e515 f508 (g := (mkF m 46 #[.val (.ref a0), .val (.int (8 : Int32)), .val (.int x492), .val (.int (4 : Int32)), .val (.int x513)] [(.ref a0), (.int x479), (.ref a0)])) rfl rfl (hb hby d6_46)
  obtain ⟨x517, hx517⟩ : ∃ z_ : Int32, z_ = (x479 - ((134217727 : Int32) &&& (-x513))) := ⟨_, rfl⟩
  have pre518 : ∀ t, Steps p.tables e below (T516.setTop (mkF m 54 #[.val (.ref a0), .val (.int (8 : Int32)), .val (.int x492), .val (.int (4 : Int32)), .val (.int x513)] [(.int x517), (.ref a0)])) t → Steps p.tables e below (s₁.setTop (entryFrame m #[(.ref a0), (.int (8 : Int32))] 5)) t := fun t k => by
    refine pre514 t ?_
    show Steps p.tables e below (T511.setTop (mkF m 38 #[.val (.ref a0), .val (.int (8 : Int32)), .val (.int x492), .val (.int (4 : Int32)), .val (.int x475)] [(.int x513)])) _
    refine XS.istore X511.here hx rfl (hb hby d6_38) rfl (l' := #[.val (.ref a0), .val (.int (8 : Int32)), .val (.int x492), .val (.int (4 : Int32)), .val (.int x513)]) rfl ?_
    show Steps p.tables e below (T511.setTop (mkF m 40 #[.val (.ref a0), .val (.int (8 : Int32)), .val (.int x492), .val (.int (4 : Int32)), .val (.int x513)] [])) _
    refine XS.aloadN X511.here hx rfl (hb hby d6_40) rfl rfl ?_
    show Steps p.tables e below (T511.setTop (mkF m 41 #[.val (.ref a0), .val (.int (8 : Int32)), .val (.int x492), .val (.int (4 : Int32)), .val (.int x513)] [(.ref a0)])) _
    refine XS.dup X511.here hx rfl (hb hby d6_41) rfl rfl ?_
    show Steps p.tables e below (T511.setTop (mkF m 42 #[.val (.ref a0), .val (.int (8 : Int32)), .val (.int x492), .val (.int (4 : Int32)), .val (.int x513)] [(.ref a0), (.ref a0)])) _
    refine st515 _ ?_
    show Steps p.tables e below (T515.setTop (mkF m 45 #[.val (.ref a0), .val (.int (8 : Int32)), .val (.int x492), .val (.int (4 : Int32)), .val (.int x513)] [(.int x479), (.ref a0)])) _
    refine XS.aloadN X515.here hx rfl (hb hby d6_45) rfl rfl ?_
    show Steps p.tables e below (T515.setTop (mkF m 46 #[.val (.ref a0), .val (.int (8 : Int32)), .val (.int x492), .val (.int (4 : Int32)), .val (.int x513)] [(.ref a0), (.int x479), (.ref a0)])) _
    refine st516 _ ?_
    show Steps p.tables e below (T516.setTop (mkF m 49 #[.val (.ref a0), .val (.int (8 : Int32)), .val (.int x492), .val (.int (4 : Int32)), .val (.int x513)] [(.int (134217727 : Int32)), (.int x479), (.ref a0)])) _
    refine XS.iload X516.here hx rfl (hb hby d6_49) rfl ?_
    show Steps p.tables e below (T516.setTop (mkF m 51 #[.val (.ref a0), .val (.int (8 : Int32)), .val (.int x492), .val (.int (4 : Int32)), .val (.int x513)] [(.int x513), (.int (134217727 : Int32)), (.int x479), (.ref a0)])) _
    refine XS.ineg X516.here hx rfl (hb hby d6_51) rfl ?_
    show Steps p.tables e below (T516.setTop (mkF m 52 #[.val (.ref a0), .val (.int (8 : Int32)), .val (.int x492), .val (.int (4 : Int32)), .val (.int x513)] [(.int (-x513)), (.int (134217727 : Int32)), (.int x479), (.ref a0)])) _
    refine XS.iand X516.here hx rfl (hb hby d6_52) rfl ?_
    show Steps p.tables e below (T516.setTop (mkF m 53 #[.val (.ref a0), .val (.int (8 : Int32)), .val (.int x492), .val (.int (4 : Int32)), .val (.int x513)] [(.int ((134217727 : Int32) &&& (-x513))), (.int x479), (.ref a0)])) _
    refine XS.isub X516.here hx rfl (hb hby d6_53) rfl ?_
    subst hx517
    exact k
  obtain ⟨T519, h519, X519, e519, W519, st519⟩ := putF X516 hx hZ hown (host := "") (Or.inl (hw _ (List.mem_of_getElem? (i := 27) rfl))) Via.refl e516 f504 f499 (Or.inl (hw _ (List.mem_of_getElem? (i := 28) rfl))) (hw _ (List.mem_of_getElem? (i := 7) rfl)) (ty := .int) (by decide) rfl rfl (g := (mkF m 54 #[.val (.ref a0), .val (.int (8 : Int32)), .val (.int x492), .val (.int (4 : Int32)), .val (.int x513)] [(.int x517), (.ref a0)])) rfl rfl (hb hby d6_54)
  have f520 := f499.wr W519
  have f521 := f500.other W519 (Or.inr (slot_ne (Or.inr (hw _ (List.mem_of_getElem? (i := 18) rfl))) (Or.inl (hw _ (List.mem_of_getElem? (i := 28) rfl))) (by decide) (t := (.array .byte)) (t' := .int) (by decide) (by decide)))
  have f522 := f501.other W519 (Or.inr (slot_ne (Or.inl (hw _ (List.mem_of_getElem? (i := 20) rfl))) (Or.inl (hw _ (List.mem_of_getElem? (i := 28) rfl))) (by decide) (t := .int) (t' := .int) (by decide) (by decide)))
  have f523 := f502.other W519 (Or.inr (slot_ne (Or.inr (hw _ (List.mem_of_getElem? (i := 22) rfl))) (Or.inl (hw _ (List.mem_of_getElem? (i := 28) rfl))) (by decide) (t := .int) (t' := .int) (by decide) (by decide)))
  have f524 := f503.other W519 (Ne.symm ne_a0_a1)
  have f525 := f508.other W519 (Or.inr (slot_ne (Or.inl (hw _ (List.mem_of_getElem? (i := 16) rfl))) (Or.inl (hw _ (List.mem_of_getElem? (i := 28) rfl))) (by decide) (t := .int) (t' := .int) (by decide) (by decide)))
  have Z526 : n0 ≤ h519.size := Nat.le_trans Z505 (Keep.of_wr W519).1
  have K527 : Keep h0 h519 [a0] := Keep.wr K506 W519 (Or.inl (List.mem_of_getElem? (i := 0) rfl))
  have N528 := Fr.snoc X519 N511 g_a0
  have f529 : Fld Z h519 a0 "com/example/sheafworks/sheafworks/storage/RangeCoder$Decoder" "code" "I" (.int x517) := f504.same W519
  obtain ⟨x530, hx530⟩ : ∃ z_ : Int32, z_ = ((x492 <<< ((1 : Int32) &&& 31)) ||| x513) := ⟨_, rfl⟩
  have pre531 : ∀ t, Steps p.tables e below (T519.setTop (mkF m 64 #[.val (.ref a0), .val (.int (8 : Int32)), .val (.int x530), .val (.int (4 : Int32)), .val (.int x513)] [])) t → Steps p.tables e below (s₁.setTop (entryFrame m #[(.ref a0), (.int (8 : Int32))] 5)) t := fun t k => by
    refine pre518 t ?_
    show Steps p.tables e below (T516.setTop (mkF m 54 #[.val (.ref a0), .val (.int (8 : Int32)), .val (.int x492), .val (.int (4 : Int32)), .val (.int x513)] [(.int x517), (.ref a0)])) _
    refine st519 _ ?_
    show Steps p.tables e below (T519.setTop (mkF m 57 #[.val (.ref a0), .val (.int (8 : Int32)), .val (.int x492), .val (.int (4 : Int32)), .val (.int x513)] [])) _
    refine XS.iloadN X519.here hx rfl (hb hby d6_57) rfl ?_
    show Steps p.tables e below (T519.setTop (mkF m 58 #[.val (.ref a0), .val (.int (8 : Int32)), .val (.int x492), .val (.int (4 : Int32)), .val (.int x513)] [(.int x492)])) _
    refine XS.iconst X519.here hx rfl (hb hby d6_58) ?_
    show Steps p.tables e below (T519.setTop (mkF m 59 #[.val (.ref a0), .val (.int (8 : Int32)), .val (.int x492), .val (.int (4 : Int32)), .val (.int x513)] [(.int (1 : Int32)), (.int x492)])) _
    refine XS.ishl X519.here hx rfl (hb hby d6_59) rfl ?_
    show Steps p.tables e below (T519.setTop (mkF m 60 #[.val (.ref a0), .val (.int (8 : Int32)), .val (.int x492), .val (.int (4 : Int32)), .val (.int x513)] [(.int (x492 <<< ((1 : Int32) &&& 31)))])) _
    refine XS.iload X519.here hx rfl (hb hby d6_60) rfl ?_
    show Steps p.tables e below (T519.setTop (mkF m 62 #[.val (.ref a0), .val (.int (8 : Int32)), .val (.int x492), .val (.int (4 : Int32)), .val (.int x513)] [(.int x513), (.int (x492 <<< ((1 : Int32) &&& 31)))])) _
    refine XS.ior X519.here hx rfl (hb hby d6_62) rfl ?_
    show Steps p.tables e below (T519.setTop (mkF m 63 #[.val (.ref a0), .val (.int (8 : Int32)), .val (.int x492), .val (.int (4 : Int32)), .val (.int x513)] [(.int ((x492 <<< ((1 : Int32) &&& 31)) ||| x513))])) _
    refine XS.istoreN X519.here hx rfl (hb hby d6_63) rfl (l' := #[.val (.ref a0), .val (.int (8 : Int32)), .val (.int ((x492 <<< ((1 : Int32) &&& 31)) ||| x513)), .val (.int (4 : Int32)), .val (.int x513)]) rfl ?_
    subst hx530
    exact k
  obtain ⟨T532, X532, e532, st532⟩ := getF X519 hx hZ hown (host := "") (Or.inl (hw _ (List.mem_of_getElem? (i := 15) rfl))) Via.refl e519 f525 (g := (mkF m 65 #[.val (.ref a0), .val (.int (8 : Int32)), .val (.int x530), .val (.int (4 : Int32)), .val (.int x513)] [(.ref a0)])) rfl rfl (hb hby d6_65)
  obtain ⟨_, _, ⟨T533, L533, k533, n533⟩, -, X533, ⟨Lc533, hQ533, l533, y533, z533⟩, st533⟩ := Jvm.LawKit.callS X532 hx (y := (⟨"java/lang/Integer", "compareUnsigned", "(II)I"⟩ : MethodName)) hown (mvT hZ (hw _ (List.mem_of_getElem? (i := 39) rfl))) (mvT hZ (hw _ (List.mem_of_getElem? (i := 40) rfl))) (mvT hZ (hw _ (List.mem_of_getElem? (i := 41) rfl))) (mvT hZ (hw _ (List.mem_of_getElem? (i := 42) rfl))) (by decide) (backOf (W := 0) (rm7 l Z aw hw [] (134217727 : Int32) (16777216 : Int32) h519 n0 Z526) hZ (hw _ (List.mem_of_getElem? (i := 42) rfl)) (hw _ (List.mem_of_getElem? (i := 41) rfl)) (by decide) (by decide)) (g := (mkF m 70 #[.val (.ref a0), .val (.int (8 : Int32)), .val (.int x530), .val (.int (4 : Int32)), .val (.int x513)] [(.int (16777216 : Int32)), (.int (134217727 : Int32))])) rfl (by rw [hml]; rfl) (argsL := [(.int (134217727 : Int32)), (.int (16777216 : Int32))]) (rest := []) (lenOf pd_0 rfl) rfl (by show 2 * 0 + _ ≤ _; exact Nat.le_of_eq rfl) (hb hby d6_70) (fun _ _ => ⟨rfl, e532, (by decide : 0 + 0 ≤ _), (by decide : 0 + 0 ≤ _)⟩)
  dsimp only [Pt.U, Pt.locs, Pt.cells, Pt.slots] at X533 l533 y533 z533 st533 hQ533
  replace l533 := l533.symm; replace y533 := y533.symm; replace z533 := z533.symm; subst l533 y533 z533
  obtain ⟨rfl, N533q, e533⟩ := hQ533
  have N533 := Fr.app N528 N533q
  have c534 : ¬ ((f_cu (134217727 : Int32) (16777216 : Int32)) < (0 : Int32)) := by
    decide
  obtain ⟨T535, X535, e535, st535⟩ := getF X533 hx hZ hown (host := "") (Or.inl (hw _ (List.mem_of_getElem? (i := 15) rfl))) Via.refl e533 f525 (g := (mkF m 11 #[.val (.ref a0), .val (.int (8 : Int32)), .val (.int x530), .val (.int (5 : Int32)), .val (.int x513)] [(.ref a0), (.ref a0)])) rfl rfl (hb hby d6_11)
  obtain ⟨T536, h536, X536, e536, W536, st536⟩ := putF X535 hx hZ hown (host := "") (Or.inl (hw _ (List.mem_of_getElem? (i := 15) rfl))) Via.refl e535 f525 f520 (Or.inl (hw _ (List.mem_of_getElem? (i := 16) rfl))) (hw _ (List.mem_of_getElem? (i := 7) rfl)) (ty := .int) (by decide) rfl rfl (g := (mkF m 16 #[.val (.ref a0), .val (.int (8 : Int32)), .val (.int x530), .val (.int (5 : Int32)), .val (.int x513)] [(.int (67108863 : Int32)), (.ref a0)])) rfl rfl (hb hby d6_16)
  have f537 := f520.wr W536
  have f538 := f521.other W536 (Or.inr (slot_ne (Or.inr (hw _ (List.mem_of_getElem? (i := 18) rfl))) (Or.inl (hw _ (List.mem_of_getElem? (i := 16) rfl))) (by decide) (t := (.array .byte)) (t' := .int) (by decide) (by decide)))
  have f539 := f522.other W536 (Or.inr (slot_ne (Or.inl (hw _ (List.mem_of_getElem? (i := 20) rfl))) (Or.inl (hw _ (List.mem_of_getElem? (i := 16) rfl))) (by decide) (t := .int) (t' := .int) (by decide) (by decide)))
  have f540 := f523.other W536 (Or.inr (slot_ne (Or.inr (hw _ (List.mem_of_getElem? (i := 22) rfl))) (Or.inl (hw _ (List.mem_of_getElem? (i := 16) rfl))) (by decide) (t := .int) (t' := .int) (by decide) (by decide)))
  have f541 := f524.other W536 (Ne.symm ne_a0_a1)
  have f542 := f529.other W536 (Or.inr (slot_ne (Or.inl (hw _ (List.mem_of_getElem? (i := 28) rfl))) (Or.inl (hw _ (List.mem_of_getElem? (i := 16) rfl))) (by decide) (t := .int) (t' := .int) (by decide) (by decide)))
  have Z543 : n0 ≤ h536.size := Nat.le_trans Z526 (Keep.of_wr W536).1
  have K544 : Keep h0 h536 [a0] := Keep.wr K527 W536 (Or.inl (List.mem_of_getElem? (i := 0) rfl))
  have N545 := Fr.snoc X536 N533 g_a0
  have f546 : Fld Z h536 a0 "com/example/sheafworks/sheafworks/storage/RangeCoder$Decoder" "range" "I" (.int (67108863 : Int32)) := f525.same W536
  obtain ⟨T547, X547, e547, st547⟩ := getF X536 hx hZ hown (host := "") (Or.inl (hw _ (List.mem_of_getElem? (i := 27) rfl))) Via.refl e536 f542 (g := (mkF m 20 #[.val (.ref a0), .val (.int (8 : Int32)), .val (.int x530), .val (.int (5 : Int32)), .val (.int x513)] [(.ref a0)])) rfl rfl (hb hby d6_20)
  obtain ⟨T548, X548, e548, st548⟩ := getF X547 hx hZ hown (host := "") (Or.inl (hw _ (List.mem_of_getElem? (i := 15) rfl))) Via.refl e547 f546 (g := (mkF m 24 #[.val (.ref a0), .val (.int (8 : Int32)), .val (.int x530), .val (.int (5 : Int32)), .val (.int x513)] [(.ref a0), (.int x517)])) rfl rfl (hb hby d6_24)
  obtain ⟨_, _, ⟨T549, L549, k549, n549⟩, -, X549, ⟨Lc549, hQ549, l549, y549, z549⟩, st549⟩ := Jvm.LawKit.callS X548 hx (y := (⟨"java/lang/Integer", "compareUnsigned", "(II)I"⟩ : MethodName)) hown (mvT hZ (hw _ (List.mem_of_getElem? (i := 39) rfl))) (mvT hZ (hw _ (List.mem_of_getElem? (i := 40) rfl))) (mvT hZ (hw _ (List.mem_of_getElem? (i := 41) rfl))) (mvT hZ (hw _ (List.mem_of_getElem? (i := 42) rfl))) (by decide) (backOf (W := 0) (rm7 l Z aw hw [] x517 (67108863 : Int32) h536 n0 Z543) hZ (hw _ (List.mem_of_getElem? (i := 42) rfl)) (hw _ (List.mem_of_getElem? (i := 41) rfl)) (by decide) (by decide)) (g := (mkF m 27 #[.val (.ref a0), .val (.int (8 : Int32)), .val (.int x530), .val (.int (5 : Int32)), .val (.int x513)] [(.int (67108863 : Int32)), (.int x517)])) rfl (by rw [hml]; rfl) (argsL := [(.int x517), (.int (67108863 : Int32))]) (rest := []) (lenOf pd_0 rfl) rfl (by show 2 * 0 + _ ≤ _; exact Nat.le_of_eq rfl) (hb hby d6_27) (fun _ _ => ⟨rfl, e548, (by decide : 0 + 0 ≤ _), (by decide : 0 + 0 ≤ _)⟩)
  dsimp only [Pt.U, Pt.locs, Pt.cells, Pt.slots] at X549 l549 y549 z549 st549 hQ549
  replace l549 := l549.symm; replace y549 := y549.symm; replace z549 := z549.symm; subst l549 y549 z549
  obtain ⟨rfl, N549q, e549⟩ := hQ549
  have N549 := Fr.app N545 N549q
  obtain ⟨x551, hx551⟩ : ∃ z_ : Int32, z_ = (if (f_cu x517 (67108863 : Int32)) < (0 : Int32) then (0 : Int32) else (1 : Int32)) := ⟨_, rfl⟩
  have pre552 : ∀ t, Steps p.tables e below (T549.setTop (mkF m 38 #[.val (.ref a0), .val (.int (8 : Int32)), .val (.int x530), .val (.int (5 : Int32)), .val (.int x513)] [(.int x551)])) t → Steps p.tables e below (s₁.setTop (entryFrame m #[(.ref a0), (.int (8 : Int32))] 5)) t := fun t k => by
    refine pre531 t ?_
    show Steps p.tables e below (T519.setTop (mkF m 64 #[.val (.ref a0), .val (.int (8 : Int32)), .val (.int x530), .val (.int (4 : Int32)), .val (.int x513)] [])) _
    refine XS.aloadN X519.here hx rfl (hb hby d6_64) rfl rfl ?_
    show Steps p.tables e below (T519.setTop (mkF m 65 #[.val (.ref a0), .val (.int (8 : Int32)), .val (.int x530), .val (.int (4 : Int32)), .val (.int x513)] [(.ref a0)])) _
    refine st532 _ ?_
    show Steps p.tables e below (T532.setTop (mkF m 68 #[.val (.ref a0), .val (.int (8 : Int32)), .val (.int x530), .val (.int (4 : Int32)), .val (.int x513)] [(.int (134217727 : Int32))])) _
    refine X532.ldcInt hx hown (mvT hZ (hw _ (List.mem_of_getElem? (i := 47) rfl))) (g := (mkF m 68 #[.val (.ref a0), .val (.int (8 : Int32)), .val (.int x530), .val (.int (4 : Int32)), .val (.int x513)] [(.int (134217727 : Int32))])) rfl (hb hby d6_68) _ ?_
    show Steps p.tables e below (T532.setTop (mkF m 70 #[.val (.ref a0), .val (.int (8 : Int32)), .val (.int x530), .val (.int (4 : Int32)), .val (.int x513)] [(.int (16777216 : Int32)), (.int (134217727 : Int32))])) _
    refine st533 _ ?_
    show Steps p.tables e below (T533.setTop (mkF m 73 #[.val (.ref a0), .val (.int (8 : Int32)), .val (.int x530), .val (.int (4 : Int32)), .val (.int x513)] [(.int (f_cu (134217727 : Int32) (16777216 : Int32)))])) _
    refine XS.ifYes X533.here hx rfl (pc0 := 73) (pc' := 103) rfl (hb hby d6_73) rfl ((if0 _ _).trans (flt c534).2.1) (by decide) (by decide) ?_
    show Steps p.tables e below (T533.setTop (mkF m 103 #[.val (.ref a0), .val (.int (8 : Int32)), .val (.int x530), .val (.int (4 : Int32)), .val (.int x513)] [])) _
    refine XS.iinc X533.here hx rfl (hb hby d6_103) rfl (l' := #[.val (.ref a0), .val (.int (8 : Int32)), .val (.int x530), .val (.int (5 : Int32)), .val (.int x513)]) rfl ?_
    show Steps p.tables e below (T533.setTop (mkF m 106 #[.val (.ref a0), .val (.int (8 : Int32)), .val (.int x530), .val (.int (5 : Int32)), .val (.int x513)] [])) _
    refine XS.goto X533.here hx rfl (pc0 := 106) (pc' := 4) rfl (hb hby d6_106) (by decide) (by decide) ?_
    show Steps p.tables e below (T533.setTop (mkF m 4 #[.val (.ref a0), .val (.int (8 : Int32)), .val (.int x530), .val (.int (5 : Int32)), .val (.int x513)] [])) _
    refine XS.iloadN X533.here hx rfl (hb hby d6_4) rfl ?_
    show Steps p.tables e below (T533.setTop (mkF m 5 #[.val (.ref a0), .val (.int (8 : Int32)), .val (.int x530), .val (.int (5 : Int32)), .val (.int x513)] [(.int (5 : Int32))])) _
    refine XS.iloadN X533.here hx rfl (hb hby d6_5) rfl ?_
    show Steps p.tables e below (T533.setTop (mkF m 6 #[.val (.ref a0), .val (.int (8 : Int32)), .val (.int x530), .val (.int (5 : Int32)), .val (.int x513)] [(.int (8 : Int32)), (.int (5 : Int32))])) _
    refine XS.icmpNo X533.here hx rfl (hb hby d6_6) rfl (tlt (by decide)).2.1 ?_
    show Steps p.tables e below (T533.setTop (mkF m 9 #[.val (.ref a0), .val (.int (8 : Int32)), .val (.int x530), .val (.int (5 : Int32)), .val (.int x513)] [])) _
    refine XS.aloadN X533.here hx rfl (hb hby d6_9) rfl rfl ?_
    show Steps p.tables e below (T533.setTop (mkF m 10 #[.val (.ref a0), .val (.int (8 : Int32)), .val (.int x530), .val (.int (5 : Int32)), .val (.int x513)] [(.ref a0)])) _
    refine XS.dup X533.here hx rfl (hb hby d6_10) rfl rfl ?_
    show Steps p.tables e below (T533.setTop (mkF m 11 #[.val (.ref a0), .val (.int (8 : Int32)), .val (.int x530), .val (.int (5 : Int32)), .val (.int x513)] [(.ref a0), (.ref a0)])) _
    refine st535 _ ?_
    show Steps p.tables e below (T535.setTop (mkF m 14 #[.val (.ref a0), .val (.int (8 : Int32)), .val (.int x530), .val (.int (5 : Int32)), .val (.int x513)] [(.int (134217727 : Int32)), (.ref a0)])) _
    refine XS.iconst X535.here hx rfl (hb hby d6_14) ?_
    show Steps p.tables e below (T535.setTop (mkF m 15 #[.val (.ref a0), .val (.int (8 : Int32)), .val (.int x530), .val (.int (5 : Int32)), .val (.int x513)] [(.int (1 : Int32)), (.int (134217727 : Int32)), (.ref a0)])) _
    refine XS.iushr X535.here hx rfl (hb hby d6_15) rfl ?_
    show Steps p.tables e below (T535.setTop (mkF m 16 #[.val (.ref a0), .val (.int (8 : Int32)), .val (.int x530), .val (.int (5 : Int32)), .val (.int x513)] [(.int (67108863 : Int32)), (.ref a0)])) _
    refine st536 _ ?_
    show Steps p.tables e below (T536.setTop (mkF m 19 #[.val (.ref a0), .val (.int (8 : Int32)), .val (.int x530), .val (.int (5 : Int32)), .val (.int x513)] [])) _
    refine XS.aloadN X536.here hx rfl (hb hby d6_19) rfl rfl ?_
    show Steps p.tables e below (T536.setTop (mkF m 20 #[.val (.ref a0), .val (.int (8 : Int32)), .val (.int x530), .val (.int (5 : Int32)), .val (.int x513)] [(.ref a0)])) _
    refine st547 _ ?_
    show Steps p.tables e below (T547.setTop (mkF m 23 #[.val (.ref a0), .val (.int (8 : Int32)), .val (.int x530), .val (.int (5 : Int32)), .val (.int x513)] [(.int x517)])) _
    refine XS.aloadN X547.here hx rfl (hb hby d6_23) rfl rfl ?_
    show Steps p.tables e below (T547.setTop (mkF m 24 #[.val (.ref a0), .val (.int (8 : Int32)), .val (.int x530), .val (.int (5 : Int32)), .val (.int x513)] [(.ref a0), (.int x517)])) _
    refine st548 _ ?_
    show Steps p.tables e below (T548.setTop (mkF m 27 #[.val (.ref a0), .val (.int (8 : Int32)), .val (.int x530), .val (.int (5 : Int32)), .val (.int x513)] [(.int (67108863 : Int32)), (.int x517)])) _
    refine st549 _ ?_
    by_cases c550 : (f_cu x517 (67108863 : Int32)) < (0 : Int32)
    ·
      show Steps p.tables e below (T549.setTop (mkF m 30 #[.val (.ref a0), .val (.int (8 : Int32)), .val (.int x530), .val (.int (5 : Int32)), .val (.int x513)] [(.int (f_cu x517 (67108863 : Int32)))])) _
      refine XS.ifYes X549.here hx rfl (pc0 := 30) (pc' := 37) rfl (hb hby d6_30) rfl ((if0 _ _).trans (tlt c550).1) (by decide) (by decide) ?_
      show Steps p.tables e below (T549.setTop (mkF m 37 #[.val (.ref a0), .val (.int (8 : Int32)), .val (.int x530), .val (.int (5 : Int32)), .val (.int x513)] [])) _
      refine XS.iconst X549.here hx rfl (hb hby d6_37) ?_
      rw [show x551 = (0 : Int32) from hx551.trans (by simp only [if_pos c550])] at k
      exact k
    ·
      show Steps p.tables e below (T549.setTop (mkF m 30 #[.val (.ref a0), .val (.int (8 : Int32)), .val (.int x530), .val (.int (5 : Int32)), .val (.int x513)] [(.int (f_cu x517 (67108863 : Int32)))])) _
      refine XS.ifNo X549.here hx rfl (hb hby d6_30) rfl ((if0 _ _).trans (flt c550).1) ?_
      show Steps p.tables e below (T549.setTop (mkF m 33 #[.val (.ref a0), .val (.int (8 : Int32)), .val (.int x530), .val (.int (5 : Int32)), .val (.int x513)] [])) _
      refine XS.iconst X549.here hx rfl (hb hby d6_33) ?_
      show Steps p.tables e below (T549.setTop (mkF m 34 #[.val (.ref a0), .val (.int (8 : Int32)), .val (.int x530), .val (.int (5 : Int32)), .val (.int x513)] [(.int (1 : Int32))])) _
      refine XS.goto X549.here hx rfl (pc0 := 34) (pc' := 38) rfl (hb hby d6_34) (by decide) (by decide) ?_
      rw [show x551 = (1 : Int32) from hx551.trans (by simp only [if_neg c550])] at k
      exact k
  obtain ⟨T553, X553, e553, st553⟩ := getF X549 hx hZ hown (host := "") (Or.inl (hw _ (List.mem_of_getElem? (i := 27) rfl))) Via.refl e549 f542 (g := (mkF m 42 #[.val (.ref a0), .val (.int (8 : Int32)), .val (.int x530), .val (.int (5 : Int32)), .val (.int x551)] [(.ref a0), (.ref a0)])) rfl rfl (hb hby d6_42)
  obtain ⟨T554, X554, e554, st554⟩ := getF X553 hx hZ hown (host := "") (Or.inl (hw _ (List.mem_of_getElem? (i := 15) rfl))) Via.refl e553 f546 (g := (mkF m 46 #[.val (.ref a0), .val (.int (8 : Int32)), .val (.int x530), .val (.int (5 : Int32)), .val (.int x551)] [(.ref a0), (.int x517), (.ref a0)])) rfl rfl (hb hby d6_46)
  obtain ⟨x555, hx555⟩ : ∃ z_ : Int32, z_ = (x517 - ((67108863 : Int32) &&& (-x551))) := ⟨_, rfl⟩
  have pre556 : ∀ t, Steps p.tables e below (T554.setTop (mkF m 54 #[.val (.ref a0), .val (.int (8 : Int32)), .val (.int x530), .val (.int (5 : Int32)), .val (.int x551)] [(.int x555), (.ref a0)])) t → Steps p.tables e below (s₁.setTop (entryFrame m #[(.ref a0), (.int (8 : Int32))] 5)) t := fun t k => by
    refine pre552 t ?_
    show Steps p.tables e below (T549.setTop (mkF m 38 #[.val (.ref a0), .val (.int (8 : Int32)), .val (.int x530), .val (.int (5 : Int32)), .val (.int x513)] [(.int x551)])) _
    refine XS.istore X549.here hx rfl (hb hby d6_38) rfl (l' := #[.val (.ref a0), .val (.int (8 : Int32)), .val (.int x530), .val (.int (5 : Int32)), .val (.int x551)]) rfl ?_
    show Steps p.tables e below (T549.setTop (mkF m 40 #[.val (.ref a0), .val (.int (8 : Int32)), .val (.int x530), .val (.int (5 : Int32)), .val (.int x551)] [])) _
    refine XS.aloadN X549.here hx rfl (hb hby d6_40) rfl rfl ?_
    show Steps p.tables e below (T549.setTop (mkF m 41 #[.val (.ref a0), .val (.int (8 : Int32)), .val (.int x530), .val (.int (5 : Int32)), .val (.int x551)] [(.ref a0)])) _
    refine XS.dup X549.here hx rfl (hb hby d6_41) rfl rfl ?_
    show Steps p.tables e below (T549.setTop (mkF m 42 #[.val (.ref a0), .val (.int (8 : Int32)), .val (.int x530), .val (.int (5 : Int32)), .val (.int x551)] [(.ref a0), (.ref a0)])) _
    refine st553 _ ?_
    show Steps p.tables e below (T553.setTop (mkF m 45 #[.val (.ref a0), .val (.int (8 : Int32)), .val (.int x530), .val (.int (5 : Int32)), .val (.int x551)] [(.int x517), (.ref a0)])) _
    refine XS.aloadN X553.here hx rfl (hb hby d6_45) rfl rfl ?_
    show Steps p.tables e below (T553.setTop (mkF m 46 #[.val (.ref a0), .val (.int (8 : Int32)), .val (.int x530), .val (.int (5 : Int32)), .val (.int x551)] [(.ref a0), (.int x517), (.ref a0)])) _
    refine st554 _ ?_
    show Steps p.tables e below (T554.setTop (mkF m 49 #[.val (.ref a0), .val (.int (8 : Int32)), .val (.int x530), .val (.int (5 : Int32)), .val (.int x551)] [(.int (67108863 : Int32)), (.int x517), (.ref a0)])) _
    refine XS.iload X554.here hx rfl (hb hby d6_49) rfl ?_
    show Steps p.tables e below (T554.setTop (mkF m 51 #[.val (.ref a0), .val (.int (8 : Int32)), .val (.int x530), .val (.int (5 : Int32)), .val (.int x551)] [(.int x551), (.int (67108863 : Int32)), (.int x517), (.ref a0)])) _
    refine XS.ineg X554.here hx rfl (hb hby d6_51) rfl ?_
    show Steps p.tables e below (T554.setTop (mkF m 52 #[.val (.ref a0), .val (.int (8 : Int32)), .val (.int x530), .val (.int (5 : Int32)), .val (.int x551)] [(.int (-x551)), (.int (67108863 : Int32)), (.int x517), (.ref a0)])) _
    refine XS.iand X554.here hx rfl (hb hby d6_52) rfl ?_
    show Steps p.tables e below (T554.setTop (mkF m 53 #[.val (.ref a0), .val (.int (8 : Int32)), .val (.int x530), .val (.int (5 : Int32)), .val (.int x551)] [(.int ((67108863 : Int32) &&& (-x551))), (.int x517), (.ref a0)])) _
    refine XS.isub X554.here hx rfl (hb hby d6_53) rfl ?_
    subst hx555
    exact k
  obtain ⟨T557, h557, X557, e557, W557, st557⟩ := putF X554 hx hZ hown (host := "") (Or.inl (hw _ (List.mem_of_getElem? (i := 27) rfl))) Via.refl e554 f542 f537 (Or.inl (hw _ (List.mem_of_getElem? (i := 28) rfl))) (hw _ (List.mem_of_getElem? (i := 7) rfl)) (ty := .int) (by decide) rfl rfl (g := (mkF m 54 #[.val (.ref a0), .val (.int (8 : Int32)), .val (.int x530), .val (.int (5 : Int32)), .val (.int x551)] [(.int x555), (.ref a0)])) rfl rfl (hb hby d6_54)
  have f558 := f537.wr W557
  have f559 := f538.other W557 (Or.inr (slot_ne (Or.inr (hw _ (List.mem_of_getElem? (i := 18) rfl))) (Or.inl (hw _ (List.mem_of_getElem? (i := 28) rfl))) (by decide) (t := (.array .byte)) (t' := .int) (by decide) (by decide)))
  have f560 := f539.other W557 (Or.inr (slot_ne (Or.inl (hw _ (List.mem_of_getElem? (i := 20) rfl))) (Or.inl (hw _ (List.mem_of_getElem? (i := 28) rfl))) (by decide) (t := .int) (t' := .int) (by decide) (by decide)))
  have f561 := f540.other W557 (Or.inr (slot_ne (Or.inr (hw _ (List.mem_of_getElem? (i := 22) rfl))) (Or.inl (hw _ (List.mem_of_getElem? (i := 28) rfl))) (by decide) (t := .int) (t' := .int) (by decide) (by decide)))
  have f562 := f541.other W557 (Ne.symm ne_a0_a1)
  have f563 := f546.other W557 (Or.inr (slot_ne (Or.inl (hw _ (List.mem_of_getElem? (i := 16) rfl))) (Or.inl (hw _ (List.mem_of_getElem? (i := 28) rfl))) (by decide) (t := .int) (t' := .int) (by decide) (by decide)))
  have Z564 : n0 ≤ h557.size := Nat.le_trans Z543 (Keep.of_wr W557).1
  have K565 : Keep h0 h557 [a0] := Keep.wr K544 W557 (Or.inl (List.mem_of_getElem? (i := 0) rfl))
  have N566 := Fr.snoc X557 N549 g_a0
  have f567 : Fld Z h557 a0 "com/example/sheafworks/sheafworks/storage/RangeCoder$Decoder" "code" "I" (.int x555) := f542.same W557
  obtain ⟨x568, hx568⟩ : ∃ z_ : Int32, z_ = ((x530 <<< ((1 : Int32) &&& 31)) ||| x551) := ⟨_, rfl⟩
  have pre569 : ∀ t, Steps p.tables e below (T557.setTop (mkF m 64 #[.val (.ref a0), .val (.int (8 : Int32)), .val (.int x568), .val (.int (5 : Int32)), .val (.int x551)] [])) t → Steps p.tables e below (s₁.setTop (entryFrame m #[(.ref a0), (.int (8 : Int32))] 5)) t := fun t k => by
    refine pre556 t ?_
    show Steps p.tables e below (T554.setTop (mkF m 54 #[.val (.ref a0), .val (.int (8 : Int32)), .val (.int x530), .val (.int (5 : Int32)), .val (.int x551)] [(.int x555), (.ref a0)])) _
    refine st557 _ ?_
    show Steps p.tables e below (T557.setTop (mkF m 57 #[.val (.ref a0), .val (.int (8 : Int32)), .val (.int x530), .val (.int (5 : Int32)), .val (.int x551)] [])) _
    refine XS.iloadN X557.here hx rfl (hb hby d6_57) rfl ?_
    show Steps p.tables e below (T557.setTop (mkF m 58 #[.val (.ref a0), .val (.int (8 : Int32)), .val (.int x530), .val (.int (5 : Int32)), .val (.int x551)] [(.int x530)])) _
    refine XS.iconst X557.here hx rfl (hb hby d6_58) ?_
    show Steps p.tables e below (T557.setTop (mkF m 59 #[.val (.ref a0), .val (.int (8 : Int32)), .val (.int x530), .val (.int (5 : Int32)), .val (.int x551)] [(.int (1 : Int32)), (.int x530)])) _
    refine XS.ishl X557.here hx rfl (hb hby d6_59) rfl ?_
    show Steps p.tables e below (T557.setTop (mkF m 60 #[.val (.ref a0), .val (.int (8 : Int32)), .val (.int x530), .val (.int (5 : Int32)), .val (.int x551)] [(.int (x530 <<< ((1 : Int32) &&& 31)))])) _
    refine XS.iload X557.here hx rfl (hb hby d6_60) rfl ?_
    show Steps p.tables e below (T557.setTop (mkF m 62 #[.val (.ref a0), .val (.int (8 : Int32)), .val (.int x530), .val (.int (5 : Int32)), .val (.int x551)] [(.int x551), (.int (x530 <<< ((1 : Int32) &&& 31)))])) _
    refine XS.ior X557.here hx rfl (hb hby d6_62) rfl ?_
    show Steps p.tables e below (T557.setTop (mkF m 63 #[.val (.ref a0), .val (.int (8 : Int32)), .val (.int x530), .val (.int (5 : Int32)), .val (.int x551)] [(.int ((x530 <<< ((1 : Int32) &&& 31)) ||| x551))])) _
    refine XS.istoreN X557.here hx rfl (hb hby d6_63) rfl (l' := #[.val (.ref a0), .val (.int (8 : Int32)), .val (.int ((x530 <<< ((1 : Int32) &&& 31)) ||| x551)), .val (.int (5 : Int32)), .val (.int x551)]) rfl ?_
    subst hx568
    exact k
  obtain ⟨T570, X570, e570, st570⟩ := getF X557 hx hZ hown (host := "") (Or.inl (hw _ (List.mem_of_getElem? (i := 15) rfl))) Via.refl e557 f563 (g := (mkF m 65 #[.val (.ref a0), .val (.int (8 : Int32)), .val (.int x568), .val (.int (5 : Int32)), .val (.int x551)] [(.ref a0)])) rfl rfl (hb hby d6_65)
  obtain ⟨_, _, ⟨T571, L571, k571, n571⟩, -, X571, ⟨Lc571, hQ571, l571, y571, z571⟩, st571⟩ := Jvm.LawKit.callS X570 hx (y := (⟨"java/lang/Integer", "compareUnsigned", "(II)I"⟩ : MethodName)) hown (mvT hZ (hw _ (List.mem_of_getElem? (i := 39) rfl))) (mvT hZ (hw _ (List.mem_of_getElem? (i := 40) rfl))) (mvT hZ (hw _ (List.mem_of_getElem? (i := 41) rfl))) (mvT hZ (hw _ (List.mem_of_getElem? (i := 42) rfl))) (by decide) (backOf (W := 0) (rm7 l Z aw hw [] (67108863 : Int32) (16777216 : Int32) h557 n0 Z564) hZ (hw _ (List.mem_of_getElem? (i := 42) rfl)) (hw _ (List.mem_of_getElem? (i := 41) rfl)) (by decide) (by decide)) (g := (mkF m 70 #[.val (.ref a0), .val (.int (8 : Int32)), .val (.int x568), .val (.int (5 : Int32)), .val (.int x551)] [(.int (16777216 : Int32)), (.int (67108863 : Int32))])) rfl (by rw [hml]; rfl) (argsL := [(.int (67108863 : Int32)), (.int (16777216 : Int32))]) (rest := []) (lenOf pd_0 rfl) rfl (by show 2 * 0 + _ ≤ _; exact Nat.le_of_eq rfl) (hb hby d6_70) (fun _ _ => ⟨rfl, e570, (by decide : 0 + 0 ≤ _), (by decide : 0 + 0 ≤ _)⟩)
  dsimp only [Pt.U, Pt.locs, Pt.cells, Pt.slots] at X571 l571 y571 z571 st571 hQ571
  replace l571 := l571.symm; replace y571 := y571.symm; replace z571 := z571.symm; subst l571 y571 z571
  obtain ⟨rfl, N571q, e571⟩ := hQ571
  have N571 := Fr.app N566 N571q
  have c572 : ¬ ((f_cu (67108863 : Int32) (16777216 : Int32)) < (0 : Int32)) := by
    decide
  obtain ⟨T573, X573, e573, st573⟩ := getF X571 hx hZ hown (host := "") (Or.inl (hw _ (List.mem_of_getElem? (i := 15) rfl))) Via.refl e571 f563 (g := (mkF m 11 #[.val (.ref a0), .val (.int (8 : Int32)), .val (.int x568), .val (.int (6 : Int32)), .val (.int x551)] [(.ref a0), (.ref a0)])) rfl rfl (hb hby d6_11)
  obtain ⟨T574, h574, X574, e574, W574, st574⟩ := putF X573 hx hZ hown (host := "") (Or.inl (hw _ (List.mem_of_getElem? (i := 15) rfl))) Via.refl e573 f563 f558 (Or.inl (hw _ (List.mem_of_getElem? (i := 16) rfl))) (hw _ (List.mem_of_getElem? (i := 7) rfl)) (ty := .int) (by decide) rfl rfl (g := (mkF m 16 #[.val (.ref a0), .val (.int (8 : Int32)), .val (.int x568), .val (.int (6 : Int32)), .val (.int x551)] [(.int (33554431 : Int32)), (.ref a0)])) rfl rfl (hb hby d6_16)
  have f575 := f558.wr W574
  have f576 := f559.other W574 (Or.inr (slot_ne (Or.inr (hw _ (List.mem_of_getElem? (i := 18) rfl))) (Or.inl (hw _ (List.mem_of_getElem? (i := 16) rfl))) (by decide) (t := (.array .byte)) (t' := .int) (by decide) (by decide)))
  have f577 := f560.other W574 (Or.inr (slot_ne (Or.inl (hw _ (List.mem_of_getElem? (i := 20) rfl))) (Or.inl (hw _ (List.mem_of_getElem? (i := 16) rfl))) (by decide) (t := .int) (t' := .int) (by decide) (by decide)))
  have f578 := f561.other W574 (Or.inr (slot_ne (Or.inr (hw _ (List.mem_of_getElem? (i := 22) rfl))) (Or.inl (hw _ (List.mem_of_getElem? (i := 16) rfl))) (by decide) (t := .int) (t' := .int) (by decide) (by decide)))
  have f579 := f562.other W574 (Ne.symm ne_a0_a1)
  have f580 := f567.other W574 (Or.inr (slot_ne (Or.inl (hw _ (List.mem_of_getElem? (i := 28) rfl))) (Or.inl (hw _ (List.mem_of_getElem? (i := 16) rfl))) (by decide) (t := .int) (t' := .int) (by decide) (by decide)))
  have Z581 : n0 ≤ h574.size := Nat.le_trans Z564 (Keep.of_wr W574).1
  have K582 : Keep h0 h574 [a0] := Keep.wr K565 W574 (Or.inl (List.mem_of_getElem? (i := 0) rfl))
  have N583 := Fr.snoc X574 N571 g_a0
  have f584 : Fld Z h574 a0 "com/example/sheafworks/sheafworks/storage/RangeCoder$Decoder" "range" "I" (.int (33554431 : Int32)) := f563.same W574
  obtain ⟨T585, X585, e585, st585⟩ := getF X574 hx hZ hown (host := "") (Or.inl (hw _ (List.mem_of_getElem? (i := 27) rfl))) Via.refl e574 f580 (g := (mkF m 20 #[.val (.ref a0), .val (.int (8 : Int32)), .val (.int x568), .val (.int (6 : Int32)), .val (.int x551)] [(.ref a0)])) rfl rfl (hb hby d6_20)
  obtain ⟨T586, X586, e586, st586⟩ := getF X585 hx hZ hown (host := "") (Or.inl (hw _ (List.mem_of_getElem? (i := 15) rfl))) Via.refl e585 f584 (g := (mkF m 24 #[.val (.ref a0), .val (.int (8 : Int32)), .val (.int x568), .val (.int (6 : Int32)), .val (.int x551)] [(.ref a0), (.int x555)])) rfl rfl (hb hby d6_24)
  obtain ⟨_, _, ⟨T587, L587, k587, n587⟩, -, X587, ⟨Lc587, hQ587, l587, y587, z587⟩, st587⟩ := Jvm.LawKit.callS X586 hx (y := (⟨"java/lang/Integer", "compareUnsigned", "(II)I"⟩ : MethodName)) hown (mvT hZ (hw _ (List.mem_of_getElem? (i := 39) rfl))) (mvT hZ (hw _ (List.mem_of_getElem? (i := 40) rfl))) (mvT hZ (hw _ (List.mem_of_getElem? (i := 41) rfl))) (mvT hZ (hw _ (List.mem_of_getElem? (i := 42) rfl))) (by decide) (backOf (W := 0) (rm7 l Z aw hw [] x555 (33554431 : Int32) h574 n0 Z581) hZ (hw _ (List.mem_of_getElem? (i := 42) rfl)) (hw _ (List.mem_of_getElem? (i := 41) rfl)) (by decide) (by decide)) (g := (mkF m 27 #[.val (.ref a0), .val (.int (8 : Int32)), .val (.int x568), .val (.int (6 : Int32)), .val (.int x551)] [(.int (33554431 : Int32)), (.int x555)])) rfl (by rw [hml]; rfl) (argsL := [(.int x555), (.int (33554431 : Int32))]) (rest := []) (lenOf pd_0 rfl) rfl (by show 2 * 0 + _ ≤ _; exact Nat.le_of_eq rfl) (hb hby d6_27) (fun _ _ => ⟨rfl, e586, (by decide : 0 + 0 ≤ _), (by decide : 0 + 0 ≤ _)⟩)
  dsimp only [Pt.U, Pt.locs, Pt.cells, Pt.slots] at X587 l587 y587 z587 st587 hQ587
  replace l587 := l587.symm; replace y587 := y587.symm; replace z587 := z587.symm; subst l587 y587 z587
  obtain ⟨rfl, N587q, e587⟩ := hQ587
  have N587 := Fr.app N583 N587q
  obtain ⟨x589, hx589⟩ : ∃ z_ : Int32, z_ = (if (f_cu x555 (33554431 : Int32)) < (0 : Int32) then (0 : Int32) else (1 : Int32)) := ⟨_, rfl⟩
  have pre590 : ∀ t, Steps p.tables e below (T587.setTop (mkF m 38 #[.val (.ref a0), .val (.int (8 : Int32)), .val (.int x568), .val (.int (6 : Int32)), .val (.int x551)] [(.int x589)])) t → Steps p.tables e below (s₁.setTop (entryFrame m #[(.ref a0), (.int (8 : Int32))] 5)) t := fun t k => by
    refine pre569 t ?_
    show Steps p.tables e below (T557.setTop (mkF m 64 #[.val (.ref a0), .val (.int (8 : Int32)), .val (.int x568), .val (.int (5 : Int32)), .val (.int x551)] [])) _
    refine XS.aloadN X557.here hx rfl (hb hby d6_64) rfl rfl ?_
    show Steps p.tables e below (T557.setTop (mkF m 65 #[.val (.ref a0), .val (.int (8 : Int32)), .val (.int x568), .val (.int (5 : Int32)), .val (.int x551)] [(.ref a0)])) _
    refine st570 _ ?_
    show Steps p.tables e below (T570.setTop (mkF m 68 #[.val (.ref a0), .val (.int (8 : Int32)), .val (.int x568), .val (.int (5 : Int32)), .val (.int x551)] [(.int (67108863 : Int32))])) _
    refine X570.ldcInt hx hown (mvT hZ (hw _ (List.mem_of_getElem? (i := 47) rfl))) (g := (mkF m 68 #[.val (.ref a0), .val (.int (8 : Int32)), .val (.int x568), .val (.int (5 : Int32)), .val (.int x551)] [(.int (67108863 : Int32))])) rfl (hb hby d6_68) _ ?_
    show Steps p.tables e below (T570.setTop (mkF m 70 #[.val (.ref a0), .val (.int (8 : Int32)), .val (.int x568), .val (.int (5 : Int32)), .val (.int x551)] [(.int (16777216 : Int32)), (.int (67108863 : Int32))])) _
    refine st571 _ ?_
    show Steps p.tables e below (T571.setTop (mkF m 73 #[.val (.ref a0), .val (.int (8 : Int32)), .val (.int x568), .val (.int (5 : Int32)), .val (.int x551)] [(.int (f_cu (67108863 : Int32) (16777216 : Int32)))])) _
    refine XS.ifYes X571.here hx rfl (pc0 := 73) (pc' := 103) rfl (hb hby d6_73) rfl ((if0 _ _).trans (flt c572).2.1) (by decide) (by decide) ?_
    show Steps p.tables e below (T571.setTop (mkF m 103 #[.val (.ref a0), .val (.int (8 : Int32)), .val (.int x568), .val (.int (5 : Int32)), .val (.int x551)] [])) _
    refine XS.iinc X571.here hx rfl (hb hby d6_103) rfl (l' := #[.val (.ref a0), .val (.int (8 : Int32)), .val (.int x568), .val (.int (6 : Int32)), .val (.int x551)]) rfl ?_
    show Steps p.tables e below (T571.setTop (mkF m 106 #[.val (.ref a0), .val (.int (8 : Int32)), .val (.int x568), .val (.int (6 : Int32)), .val (.int x551)] [])) _
    refine XS.goto X571.here hx rfl (pc0 := 106) (pc' := 4) rfl (hb hby d6_106) (by decide) (by decide) ?_
    show Steps p.tables e below (T571.setTop (mkF m 4 #[.val (.ref a0), .val (.int (8 : Int32)), .val (.int x568), .val (.int (6 : Int32)), .val (.int x551)] [])) _
    refine XS.iloadN X571.here hx rfl (hb hby d6_4) rfl ?_
    show Steps p.tables e below (T571.setTop (mkF m 5 #[.val (.ref a0), .val (.int (8 : Int32)), .val (.int x568), .val (.int (6 : Int32)), .val (.int x551)] [(.int (6 : Int32))])) _
    refine XS.iloadN X571.here hx rfl (hb hby d6_5) rfl ?_
    show Steps p.tables e below (T571.setTop (mkF m 6 #[.val (.ref a0), .val (.int (8 : Int32)), .val (.int x568), .val (.int (6 : Int32)), .val (.int x551)] [(.int (8 : Int32)), (.int (6 : Int32))])) _
    refine XS.icmpNo X571.here hx rfl (hb hby d6_6) rfl (tlt (by decide)).2.1 ?_
    show Steps p.tables e below (T571.setTop (mkF m 9 #[.val (.ref a0), .val (.int (8 : Int32)), .val (.int x568), .val (.int (6 : Int32)), .val (.int x551)] [])) _
    refine XS.aloadN X571.here hx rfl (hb hby d6_9) rfl rfl ?_
    show Steps p.tables e below (T571.setTop (mkF m 10 #[.val (.ref a0), .val (.int (8 : Int32)), .val (.int x568), .val (.int (6 : Int32)), .val (.int x551)] [(.ref a0)])) _
    refine XS.dup X571.here hx rfl (hb hby d6_10) rfl rfl ?_
    show Steps p.tables e below (T571.setTop (mkF m 11 #[.val (.ref a0), .val (.int (8 : Int32)), .val (.int x568), .val (.int (6 : Int32)), .val (.int x551)] [(.ref a0), (.ref a0)])) _
    refine st573 _ ?_
    show Steps p.tables e below (T573.setTop (mkF m 14 #[.val (.ref a0), .val (.int (8 : Int32)), .val (.int x568), .val (.int (6 : Int32)), .val (.int x551)] [(.int (67108863 : Int32)), (.ref a0)])) _
    refine XS.iconst X573.here hx rfl (hb hby d6_14) ?_
    show Steps p.tables e below (T573.setTop (mkF m 15 #[.val (.ref a0), .val (.int (8 : Int32)), .val (.int x568), .val (.int (6 : Int32)), .val (.int x551)] [(.int (1 : Int32)), (.int (67108863 : Int32)), (.ref a0)])) _
    refine XS.iushr X573.here hx rfl (hb hby d6_15) rfl ?_
    show Steps p.tables e below (T573.setTop (mkF m 16 #[.val (.ref a0), .val (.int (8 : Int32)), .val (.int x568), .val (.int (6 : Int32)), .val (.int x551)] [(.int (33554431 : Int32)), (.ref a0)])) _
    refine st574 _ ?_
    show Steps p.tables e below (T574.setTop (mkF m 19 #[.val (.ref a0), .val (.int (8 : Int32)), .val (.int x568), .val (.int (6 : Int32)), .val (.int x551)] [])) _
    refine XS.aloadN X574.here hx rfl (hb hby d6_19) rfl rfl ?_
    show Steps p.tables e below (T574.setTop (mkF m 20 #[.val (.ref a0), .val (.int (8 : Int32)), .val (.int x568), .val (.int (6 : Int32)), .val (.int x551)] [(.ref a0)])) _
    refine st585 _ ?_
    show Steps p.tables e below (T585.setTop (mkF m 23 #[.val (.ref a0), .val (.int (8 : Int32)), .val (.int x568), .val (.int (6 : Int32)), .val (.int x551)] [(.int x555)])) _
    refine XS.aloadN X585.here hx rfl (hb hby d6_23) rfl rfl ?_
    show Steps p.tables e below (T585.setTop (mkF m 24 #[.val (.ref a0), .val (.int (8 : Int32)), .val (.int x568), .val (.int (6 : Int32)), .val (.int x551)] [(.ref a0), (.int x555)])) _
    refine st586 _ ?_
    show Steps p.tables e below (T586.setTop (mkF m 27 #[.val (.ref a0), .val (.int (8 : Int32)), .val (.int x568), .val (.int (6 : Int32)), .val (.int x551)] [(.int (33554431 : Int32)), (.int x555)])) _
    refine st587 _ ?_
    by_cases c588 : (f_cu x555 (33554431 : Int32)) < (0 : Int32)
    ·
      show Steps p.tables e below (T587.setTop (mkF m 30 #[.val (.ref a0), .val (.int (8 : Int32)), .val (.int x568), .val (.int (6 : Int32)), .val (.int x551)] [(.int (f_cu x555 (33554431 : Int32)))])) _
      refine XS.ifYes X587.here hx rfl (pc0 := 30) (pc' := 37) rfl (hb hby d6_30) rfl ((if0 _ _).trans (tlt c588).1) (by decide) (by decide) ?_
      show Steps p.tables e below (T587.setTop (mkF m 37 #[.val (.ref a0), .val (.int (8 : Int32)), .val (.int x568), .val (.int (6 : Int32)), .val (.int x551)] [])) _
      refine XS.iconst X587.here hx rfl (hb hby d6_37) ?_
      rw [show x589 = (0 : Int32) from hx589.trans (by simp only [if_pos c588])] at k
      exact k
    ·
      show Steps p.tables e below (T587.setTop (mkF m 30 #[.val (.ref a0), .val (.int (8 : Int32)), .val (.int x568), .val (.int (6 : Int32)), .val (.int x551)] [(.int (f_cu x555 (33554431 : Int32)))])) _
      refine XS.ifNo X587.here hx rfl (hb hby d6_30) rfl ((if0 _ _).trans (flt c588).1) ?_
      show Steps p.tables e below (T587.setTop (mkF m 33 #[.val (.ref a0), .val (.int (8 : Int32)), .val (.int x568), .val (.int (6 : Int32)), .val (.int x551)] [])) _
      refine XS.iconst X587.here hx rfl (hb hby d6_33) ?_
      show Steps p.tables e below (T587.setTop (mkF m 34 #[.val (.ref a0), .val (.int (8 : Int32)), .val (.int x568), .val (.int (6 : Int32)), .val (.int x551)] [(.int (1 : Int32))])) _
      refine XS.goto X587.here hx rfl (pc0 := 34) (pc' := 38) rfl (hb hby d6_34) (by decide) (by decide) ?_
      rw [show x589 = (1 : Int32) from hx589.trans (by simp only [if_neg c588])] at k
      exact k
  obtain ⟨T591, X591, e591, st591⟩ := getF X587 hx hZ hown (host := "") (Or.inl (hw _ (List.mem_of_getElem? (i := 27) rfl))) Via.refl e587 f580 (g := (mkF m 42 #[.val (.ref a0), .val (.int (8 : Int32)), .val (.int x568), .val (.int (6 : Int32)), .val (.int x589)] [(.ref a0), (.ref a0)])) rfl rfl (hb hby d6_42)
  obtain ⟨T592, X592, e592, st592⟩ := getF X591 hx hZ hown (host := "") (Or.inl (hw _ (List.mem_of_getElem? (i := 15) rfl))) Via.refl e591 f584 (g := (mkF m 46 #[.val (.ref a0), .val (.int (8 : Int32)), .val (.int x568), .val (.int (6 : Int32)), .val (.int x589)] [(.ref a0), (.int x555), (.ref a0)])) rfl rfl (hb hby d6_46)
  obtain ⟨x593, hx593⟩ : ∃ z_ : Int32, z_ = (x555 - ((33554431 : Int32) &&& (-x589))) := ⟨_, rfl⟩
  have pre594 : ∀ t, Steps p.tables e below (T592.setTop (mkF m 54 #[.val (.ref a0), .val (.int (8 : Int32)), .val (.int x568), .val (.int (6 : Int32)), .val (.int x589)] [(.int x593), (.ref a0)])) t → Steps p.tables e below (s₁.setTop (entryFrame m #[(.ref a0), (.int (8 : Int32))] 5)) t := fun t k => by
    refine pre590 t ?_
    show Steps p.tables e below (T587.setTop (mkF m 38 #[.val (.ref a0), .val (.int (8 : Int32)), .val (.int x568), .val (.int (6 : Int32)), .val (.int x551)] [(.int x589)])) _
    refine XS.istore X587.here hx rfl (hb hby d6_38) rfl (l' := #[.val (.ref a0), .val (.int (8 : Int32)), .val (.int x568), .val (.int (6 : Int32)), .val (.int x589)]) rfl ?_
    show Steps p.tables e below (T587.setTop (mkF m 40 #[.val (.ref a0), .val (.int (8 : Int32)), .val (.int x568), .val (.int (6 : Int32)), .val (.int x589)] [])) _
    refine XS.aloadN X587.here hx rfl (hb hby d6_40) rfl rfl ?_
    show Steps p.tables e below (T587.setTop (mkF m 41 #[.val (.ref a0), .val (.int (8 : Int32)), .val (.int x568), .val (.int (6 : Int32)), .val (.int x589)] [(.ref a0)])) _
    refine XS.dup X587.here hx rfl (hb hby d6_41) rfl rfl ?_
    show Steps p.tables e below (T587.setTop (mkF m 42 #[.val (.ref a0), .val (.int (8 : Int32)), .val (.int x568), .val (.int (6 : Int32)), .val (.int x589)] [(.ref a0), (.ref a0)])) _
    refine st591 _ ?_
    show Steps p.tables e below (T591.setTop (mkF m 45 #[.val (.ref a0), .val (.int (8 : Int32)), .val (.int x568), .val (.int (6 : Int32)), .val (.int x589)] [(.int x555), (.ref a0)])) _
    refine XS.aloadN X591.here hx rfl (hb hby d6_45) rfl rfl ?_
    show Steps p.tables e below (T591.setTop (mkF m 46 #[.val (.ref a0), .val (.int (8 : Int32)), .val (.int x568), .val (.int (6 : Int32)), .val (.int x589)] [(.ref a0), (.int x555), (.ref a0)])) _
    refine st592 _ ?_
    show Steps p.tables e below (T592.setTop (mkF m 49 #[.val (.ref a0), .val (.int (8 : Int32)), .val (.int x568), .val (.int (6 : Int32)), .val (.int x589)] [(.int (33554431 : Int32)), (.int x555), (.ref a0)])) _
    refine XS.iload X592.here hx rfl (hb hby d6_49) rfl ?_
    show Steps p.tables e below (T592.setTop (mkF m 51 #[.val (.ref a0), .val (.int (8 : Int32)), .val (.int x568), .val (.int (6 : Int32)), .val (.int x589)] [(.int x589), (.int (33554431 : Int32)), (.int x555), (.ref a0)])) _
    refine XS.ineg X592.here hx rfl (hb hby d6_51) rfl ?_
    show Steps p.tables e below (T592.setTop (mkF m 52 #[.val (.ref a0), .val (.int (8 : Int32)), .val (.int x568), .val (.int (6 : Int32)), .val (.int x589)] [(.int (-x589)), (.int (33554431 : Int32)), (.int x555), (.ref a0)])) _
    refine XS.iand X592.here hx rfl (hb hby d6_52) rfl ?_
    show Steps p.tables e below (T592.setTop (mkF m 53 #[.val (.ref a0), .val (.int (8 : Int32)), .val (.int x568), .val (.int (6 : Int32)), .val (.int x589)] [(.int ((33554431 : Int32) &&& (-x589))), (.int x555), (.ref a0)])) _
    refine XS.isub X592.here hx rfl (hb hby d6_53) rfl ?_
    subst hx593
    exact k
  obtain ⟨T595, h595, X595, e595, W595, st595⟩ := putF X592 hx hZ hown (host := "") (Or.inl (hw _ (List.mem_of_getElem? (i := 27) rfl))) Via.refl e592 f580 f575 (Or.inl (hw _ (List.mem_of_getElem? (i := 28) rfl))) (hw _ (List.mem_of_getElem? (i := 7) rfl)) (ty := .int) (by decide) rfl rfl (g := (mkF m 54 #[.val (.ref a0), .val (.int (8 : Int32)), .val (.int x568), .val (.int (6 : Int32)), .val (.int x589)] [(.int x593), (.ref a0)])) rfl rfl (hb hby d6_54)
  have f596 := f575.wr W595
  have f597 := f576.other W595 (Or.inr (slot_ne (Or.inr (hw _ (List.mem_of_getElem? (i := 18) rfl))) (Or.inl (hw _ (List.mem_of_getElem? (i := 28) rfl))) (by decide) (t := (.array .byte)) (t' := .int) (by decide) (by decide)))
  have f598 := f577.other W595 (Or.inr (slot_ne (Or.inl (hw _ (List.mem_of_getElem? (i := 20) rfl))) (Or.inl (hw _ (List.mem_of_getElem? (i := 28) rfl))) (by decide) (t := .int) (t' := .int) (by decide) (by decide)))
  have f599 := f578.other W595 (Or.inr (slot_ne (Or.inr (hw _ (List.mem_of_getElem? (i := 22) rfl))) (Or.inl (hw _ (List.mem_of_getElem? (i := 28) rfl))) (by decide) (t := .int) (t' := .int) (by decide) (by decide)))
  have f600 := f579.other W595 (Ne.symm ne_a0_a1)
  have f601 := f584.other W595 (Or.inr (slot_ne (Or.inl (hw _ (List.mem_of_getElem? (i := 16) rfl))) (Or.inl (hw _ (List.mem_of_getElem? (i := 28) rfl))) (by decide) (t := .int) (t' := .int) (by decide) (by decide)))
  have Z602 : n0 ≤ h595.size := Nat.le_trans Z581 (Keep.of_wr W595).1
  have K603 : Keep h0 h595 [a0] := Keep.wr K582 W595 (Or.inl (List.mem_of_getElem? (i := 0) rfl))
  have N604 := Fr.snoc X595 N587 g_a0
  have f605 : Fld Z h595 a0 "com/example/sheafworks/sheafworks/storage/RangeCoder$Decoder" "code" "I" (.int x593) := f580.same W595
  obtain ⟨x606, hx606⟩ : ∃ z_ : Int32, z_ = ((x568 <<< ((1 : Int32) &&& 31)) ||| x589) := ⟨_, rfl⟩
  have pre607 : ∀ t, Steps p.tables e below (T595.setTop (mkF m 64 #[.val (.ref a0), .val (.int (8 : Int32)), .val (.int x606), .val (.int (6 : Int32)), .val (.int x589)] [])) t → Steps p.tables e below (s₁.setTop (entryFrame m #[(.ref a0), (.int (8 : Int32))] 5)) t := fun t k => by
    refine pre594 t ?_
    show Steps p.tables e below (T592.setTop (mkF m 54 #[.val (.ref a0), .val (.int (8 : Int32)), .val (.int x568), .val (.int (6 : Int32)), .val (.int x589)] [(.int x593), (.ref a0)])) _
    refine st595 _ ?_
    show Steps p.tables e below (T595.setTop (mkF m 57 #[.val (.ref a0), .val (.int (8 : Int32)), .val (.int x568), .val (.int (6 : Int32)), .val (.int x589)] [])) _
    refine XS.iloadN X595.here hx rfl (hb hby d6_57) rfl ?_
    show Steps p.tables e below (T595.setTop (mkF m 58 #[.val (.ref a0), .val (.int (8 : Int32)), .val (.int x568), .val (.int (6 : Int32)), .val (.int x589)] [(.int x568)])) _
    refine XS.iconst X595.here hx rfl (hb hby d6_58) ?_
    show Steps p.tables e below (T595.setTop (mkF m 59 #[.val (.ref a0), .val (.int (8 : Int32)), .val (.int x568), .val (.int (6 : Int32)), .val (.int x589)] [(.int (1 : Int32)), (.int x568)])) _
    refine XS.ishl X595.here hx rfl (hb hby d6_59) rfl ?_
    show Steps p.tables e below (T595.setTop (mkF m 60 #[.val (.ref a0), .val (.int (8 : Int32)), .val (.int x568), .val (.int (6 : Int32)), .val (.int x589)] [(.int (x568 <<< ((1 : Int32) &&& 31)))])) _
    refine XS.iload X595.here hx rfl (hb hby d6_60) rfl ?_
    show Steps p.tables e below (T595.setTop (mkF m 62 #[.val (.ref a0), .val (.int (8 : Int32)), .val (.int x568), .val (.int (6 : Int32)), .val (.int x589)] [(.int x589), (.int (x568 <<< ((1 : Int32) &&& 31)))])) _
    refine XS.ior X595.here hx rfl (hb hby d6_62) rfl ?_
    show Steps p.tables e below (T595.setTop (mkF m 63 #[.val (.ref a0), .val (.int (8 : Int32)), .val (.int x568), .val (.int (6 : Int32)), .val (.int x589)] [(.int ((x568 <<< ((1 : Int32) &&& 31)) ||| x589))])) _
    refine XS.istoreN X595.here hx rfl (hb hby d6_63) rfl (l' := #[.val (.ref a0), .val (.int (8 : Int32)), .val (.int ((x568 <<< ((1 : Int32) &&& 31)) ||| x589)), .val (.int (6 : Int32)), .val (.int x589)]) rfl ?_
    subst hx606
    exact k
  obtain ⟨T608, X608, e608, st608⟩ := getF X595 hx hZ hown (host := "") (Or.inl (hw _ (List.mem_of_getElem? (i := 15) rfl))) Via.refl e595 f601 (g := (mkF m 65 #[.val (.ref a0), .val (.int (8 : Int32)), .val (.int x606), .val (.int (6 : Int32)), .val (.int x589)] [(.ref a0)])) rfl rfl (hb hby d6_65)
  obtain ⟨_, _, ⟨T609, L609, k609, n609⟩, -, X609, ⟨Lc609, hQ609, l609, y609, z609⟩, st609⟩ := Jvm.LawKit.callS X608 hx (y := (⟨"java/lang/Integer", "compareUnsigned", "(II)I"⟩ : MethodName)) hown (mvT hZ (hw _ (List.mem_of_getElem? (i := 39) rfl))) (mvT hZ (hw _ (List.mem_of_getElem? (i := 40) rfl))) (mvT hZ (hw _ (List.mem_of_getElem? (i := 41) rfl))) (mvT hZ (hw _ (List.mem_of_getElem? (i := 42) rfl))) (by decide) (backOf (W := 0) (rm7 l Z aw hw [] (33554431 : Int32) (16777216 : Int32) h595 n0 Z602) hZ (hw _ (List.mem_of_getElem? (i := 42) rfl)) (hw _ (List.mem_of_getElem? (i := 41) rfl)) (by decide) (by decide)) (g := (mkF m 70 #[.val (.ref a0), .val (.int (8 : Int32)), .val (.int x606), .val (.int (6 : Int32)), .val (.int x589)] [(.int (16777216 : Int32)), (.int (33554431 : Int32))])) rfl (by rw [hml]; rfl) (argsL := [(.int (33554431 : Int32)), (.int (16777216 : Int32))]) (rest := []) (lenOf pd_0 rfl) rfl (by show 2 * 0 + _ ≤ _; exact Nat.le_of_eq rfl) (hb hby d6_70) (fun _ _ => ⟨rfl, e608, (by decide : 0 + 0 ≤ _), (by decide : 0 + 0 ≤ _)⟩)
  dsimp only [Pt.U, Pt.locs, Pt.cells, Pt.slots] at X609 l609 y609 z609 st609 hQ609
  replace l609 := l609.symm; replace y609 := y609.symm; replace z609 := z609.symm; subst l609 y609 z609
  obtain ⟨rfl, N609q, e609⟩ := hQ609
  have N609 := Fr.app N604 N609q
  have c610 : ¬ ((f_cu (33554431 : Int32) (16777216 : Int32)) < (0 : Int32)) := by
    decide
  obtain ⟨T611, X611, e611, st611⟩ := getF X609 hx hZ hown (host := "") (Or.inl (hw _ (List.mem_of_getElem? (i := 15) rfl))) Via.refl e609 f601 (g := (mkF m 11 #[.val (.ref a0), .val (.int (8 : Int32)), .val (.int x606), .val (.int (7 : Int32)), .val (.int x589)] [(.ref a0), (.ref a0)])) rfl rfl (hb hby d6_11)
  obtain ⟨T612, h612, X612, e612, W612, st612⟩ := putF X611 hx hZ hown (host := "") (Or.inl (hw _ (List.mem_of_getElem? (i := 15) rfl))) Via.refl e611 f601 f596 (Or.inl (hw _ (List.mem_of_getElem? (i := 16) rfl))) (hw _ (List.mem_of_getElem? (i := 7) rfl)) (ty := .int) (by decide) rfl rfl (g := (mkF m 16 #[.val (.ref a0), .val (.int (8 : Int32)), .val (.int x606), .val (.int (7 : Int32)), .val (.int x589)] [(.int (16777215 : Int32)), (.ref a0)])) rfl rfl (hb hby d6_16)
  have f613 := f596.wr W612
  have f614 := f597.other W612 (Or.inr (slot_ne (Or.inr (hw _ (List.mem_of_getElem? (i := 18) rfl))) (Or.inl (hw _ (List.mem_of_getElem? (i := 16) rfl))) (by decide) (t := (.array .byte)) (t' := .int) (by decide) (by decide)))
  have f615 := f598.other W612 (Or.inr (slot_ne (Or.inl (hw _ (List.mem_of_getElem? (i := 20) rfl))) (Or.inl (hw _ (List.mem_of_getElem? (i := 16) rfl))) (by decide) (t := .int) (t' := .int) (by decide) (by decide)))
  have f616 := f599.other W612 (Or.inr (slot_ne (Or.inr (hw _ (List.mem_of_getElem? (i := 22) rfl))) (Or.inl (hw _ (List.mem_of_getElem? (i := 16) rfl))) (by decide) (t := .int) (t' := .int) (by decide) (by decide)))
  have f617 := f600.other W612 (Ne.symm ne_a0_a1)
  have f618 := f605.other W612 (Or.inr (slot_ne (Or.inl (hw _ (List.mem_of_getElem? (i := 28) rfl))) (Or.inl (hw _ (List.mem_of_getElem? (i := 16) rfl))) (by decide) (t := .int) (t' := .int) (by decide) (by decide)))
  have Z619 : n0 ≤ h612.size := Nat.le_trans Z602 (Keep.of_wr W612).1
  have K620 : Keep h0 h612 [a0] := Keep.wr K603 W612 (Or.inl (List.mem_of_getElem? (i := 0) rfl))
  have N621 := Fr.snoc X612 N609 g_a0
  have f622 : Fld Z h612 a0 "com/example/sheafworks/sheafworks/storage/RangeCoder$Decoder" "range" "I" (.int (16777215 : Int32)) := f601.same W612
  obtain ⟨T623, X623, e623, st623⟩ := getF X612 hx hZ hown (host := "") (Or.inl (hw _ (List.mem_of_getElem? (i := 27) rfl))) Via.refl e612 f618 (g := (mkF m 20 #[.val (.ref a0), .val (.int (8 : Int32)), .val (.int x606), .val (.int (7 : Int32)), .val (.int x589)] [(.ref a0)])) rfl rfl (hb hby d6_20)
  obtain ⟨T624, X624, e624, st624⟩ := getF X623 hx hZ hown (host := "") (Or.inl (hw _ (List.mem_of_getElem? (i := 15) rfl))) Via.refl e623 f622 (g := (mkF m 24 #[.val (.ref a0), .val (.int (8 : Int32)), .val (.int x606), .val (.int (7 : Int32)), .val (.int x589)] [(.ref a0), (.int x593)])) rfl rfl (hb hby d6_24)
  obtain ⟨_, _, ⟨T625, L625, k625, n625⟩, -, X625, ⟨Lc625, hQ625, l625, y625, z625⟩, st625⟩ := Jvm.LawKit.callS X624 hx (y := (⟨"java/lang/Integer", "compareUnsigned", "(II)I"⟩ : MethodName)) hown (mvT hZ (hw _ (List.mem_of_getElem? (i := 39) rfl))) (mvT hZ (hw _ (List.mem_of_getElem? (i := 40) rfl))) (mvT hZ (hw _ (List.mem_of_getElem? (i := 41) rfl))) (mvT hZ (hw _ (List.mem_of_getElem? (i := 42) rfl))) (by decide) (backOf (W := 0) (rm7 l Z aw hw [] x593 (16777215 : Int32) h612 n0 Z619) hZ (hw _ (List.mem_of_getElem? (i := 42) rfl)) (hw _ (List.mem_of_getElem? (i := 41) rfl)) (by decide) (by decide)) (g := (mkF m 27 #[.val (.ref a0), .val (.int (8 : Int32)), .val (.int x606), .val (.int (7 : Int32)), .val (.int x589)] [(.int (16777215 : Int32)), (.int x593)])) rfl (by rw [hml]; rfl) (argsL := [(.int x593), (.int (16777215 : Int32))]) (rest := []) (lenOf pd_0 rfl) rfl (by show 2 * 0 + _ ≤ _; exact Nat.le_of_eq rfl) (hb hby d6_27) (fun _ _ => ⟨rfl, e624, (by decide : 0 + 0 ≤ _), (by decide : 0 + 0 ≤ _)⟩)
  dsimp only [Pt.U, Pt.locs, Pt.cells, Pt.slots] at X625 l625 y625 z625 st625 hQ625
  replace l625 := l625.symm; replace y625 := y625.symm; replace z625 := z625.symm; subst l625 y625 z625
  obtain ⟨rfl, N625q, e625⟩ := hQ625
  have N625 := Fr.app N621 N625q
  obtain ⟨x627, hx627⟩ : ∃ z_ : Int32, z_ = (if (f_cu x593 (16777215 : Int32)) < (0 : Int32) then (0 : Int32) else (1 : Int32)) := ⟨_, rfl⟩
  have pre628 : ∀ t, Steps p.tables e below (T625.setTop (mkF m 38 #[.val (.ref a0), .val (.int (8 : Int32)), .val (.int x606), .val (.int (7 : Int32)), .val (.int x589)] [(.int x627)])) t → Steps p.tables e below (s₁.setTop (entryFrame m #[(.ref a0), (.int (8 : Int32))] 5)) t := fun t k => by
    refine pre607 t ?_
    show Steps p.tables e below (T595.setTop (mkF m 64 #[.val (.ref a0), .val (.int (8 : Int32)), .val (.int x606), .val (.int (6 : Int32)), .val (.int x589)] [])) _
    refine XS.aloadN X595.here hx rfl (hb hby d6_64) rfl rfl ?_
    show Steps p.tables e below (T595.setTop (mkF m 65 #[.val (.ref a0), .val (.int (8 : Int32)), .val (.int x606), .val (.int (6 : Int32)), .val (.int x589)] [(.ref a0)])) _
    refine st608 _ ?_
    show Steps p.tables e below (T608.setTop (mkF m 68 #[.val (.ref a0), .val (.int (8 : Int32)), .val (.int x606), .val (.int (6 : Int32)), .val (.int x589)] [(.int (33554431 : Int32))])) _
    refine X608.ldcInt hx hown (mvT hZ (hw _ (List.mem_of_getElem? (i := 47) rfl))) (g := (mkF m 68 #[.val (.ref a0), .val (.int (8 : Int32)), .val (.int x606), .val (.int (6 : Int32)), .val (.int x589)] [(.int (33554431 : Int32))])) rfl (hb hby d6_68) _ ?_
    show Steps p.tables e below (T608.setTop (mkF m 70 #[.val (.ref a0), .val (.int (8 : Int32)), .val (.int x606), .val (.int (6 : Int32)), .val (.int x589)] [(.int (16777216 : Int32)), (.int (33554431 : Int32))])) _
    refine st609 _ ?_
    show Steps p.tables e below (T609.setTop (mkF m 73 #[.val (.ref a0), .val (.int (8 : Int32)), .val (.int x606), .val (.int (6 : Int32)), .val (.int x589)] [(.int (f_cu (33554431 : Int32) (16777216 : Int32)))])) _
    refine XS.ifYes X609.here hx rfl (pc0 := 73) (pc' := 103) rfl (hb hby d6_73) rfl ((if0 _ _).trans (flt c610).2.1) (by decide) (by decide) ?_
    show Steps p.tables e below (T609.setTop (mkF m 103 #[.val (.ref a0), .val (.int (8 : Int32)), .val (.int x606), .val (.int (6 : Int32)), .val (.int x589)] [])) _
    refine XS.iinc X609.here hx rfl (hb hby d6_103) rfl (l' := #[.val (.ref a0), .val (.int (8 : Int32)), .val (.int x606), .val (.int (7 : Int32)), .val (.int x589)]) rfl ?_
    show Steps p.tables e below (T609.setTop (mkF m 106 #[.val (.ref a0), .val (.int (8 : Int32)), .val (.int x606), .val (.int (7 : Int32)), .val (.int x589)] [])) _
    refine XS.goto X609.here hx rfl (pc0 := 106) (pc' := 4) rfl (hb hby d6_106) (by decide) (by decide) ?_
    show Steps p.tables e below (T609.setTop (mkF m 4 #[.val (.ref a0), .val (.int (8 : Int32)), .val (.int x606), .val (.int (7 : Int32)), .val (.int x589)] [])) _
    refine XS.iloadN X609.here hx rfl (hb hby d6_4) rfl ?_
    show Steps p.tables e below (T609.setTop (mkF m 5 #[.val (.ref a0), .val (.int (8 : Int32)), .val (.int x606), .val (.int (7 : Int32)), .val (.int x589)] [(.int (7 : Int32))])) _
    refine XS.iloadN X609.here hx rfl (hb hby d6_5) rfl ?_
    show Steps p.tables e below (T609.setTop (mkF m 6 #[.val (.ref a0), .val (.int (8 : Int32)), .val (.int x606), .val (.int (7 : Int32)), .val (.int x589)] [(.int (8 : Int32)), (.int (7 : Int32))])) _
    refine XS.icmpNo X609.here hx rfl (hb hby d6_6) rfl (tlt (by decide)).2.1 ?_
    show Steps p.tables e below (T609.setTop (mkF m 9 #[.val (.ref a0), .val (.int (8 : Int32)), .val (.int x606), .val (.int (7 : Int32)), .val (.int x589)] [])) _
    refine XS.aloadN X609.here hx rfl (hb hby d6_9) rfl rfl ?_
    show Steps p.tables e below (T609.setTop (mkF m 10 #[.val (.ref a0), .val (.int (8 : Int32)), .val (.int x606), .val (.int (7 : Int32)), .val (.int x589)] [(.ref a0)])) _
    refine XS.dup X609.here hx rfl (hb hby d6_10) rfl rfl ?_
    show Steps p.tables e below (T609.setTop (mkF m 11 #[.val (.ref a0), .val (.int (8 : Int32)), .val (.int x606), .val (.int (7 : Int32)), .val (.int x589)] [(.ref a0), (.ref a0)])) _
    refine st611 _ ?_
    show Steps p.tables e below (T611.setTop (mkF m 14 #[.val (.ref a0), .val (.int (8 : Int32)), .val (.int x606), .val (.int (7 : Int32)), .val (.int x589)] [(.int (33554431 : Int32)), (.ref a0)])) _
    refine XS.iconst X611.here hx rfl (hb hby d6_14) ?_
    show Steps p.tables e below (T611.setTop (mkF m 15 #[.val (.ref a0), .val (.int (8 : Int32)), .val (.int x606), .val (.int (7 : Int32)), .val (.int x589)] [(.int (1 : Int32)), (.int (33554431 : Int32)), (.ref a0)])) _
    refine XS.iushr X611.here hx rfl (hb hby d6_15) rfl ?_
    show Steps p.tables e below (T611.setTop (mkF m 16 #[.val (.ref a0), .val (.int (8 : Int32)), .val (.int x606), .val (.int (7 : Int32)), .val (.int x589)] [(.int (16777215 : Int32)), (.ref a0)])) _
    refine st612 _ ?_
    show Steps p.tables e below (T612.setTop (mkF m 19 #[.val (.ref a0), .val (.int (8 : Int32)), .val (.int x606), .val (.int (7 : Int32)), .val (.int x589)] [])) _
    refine XS.aloadN X612.here hx rfl (hb hby d6_19) rfl rfl ?_
    show Steps p.tables e below (T612.setTop (mkF m 20 #[.val (.ref a0), .val (.int (8 : Int32)), .val (.int x606), .val (.int (7 : Int32)), .val (.int x589)] [(.ref a0)])) _
    refine st623 _ ?_
    show Steps p.tables e below (T623.setTop (mkF m 23 #[.val (.ref a0), .val (.int (8 : Int32)), .val (.int x606), .val (.int (7 : Int32)), .val (.int x589)] [(.int x593)])) _
    refine XS.aloadN X623.here hx rfl (hb hby d6_23) rfl rfl ?_
    show Steps p.tables e below (T623.setTop (mkF m 24 #[.val (.ref a0), .val (.int (8 : Int32)), .val (.int x606), .val (.int (7 : Int32)), .val (.int x589)] [(.ref a0), (.int x593)])) _
    refine st624 _ ?_
    show Steps p.tables e below (T624.setTop (mkF m 27 #[.val (.ref a0), .val (.int (8 : Int32)), .val (.int x606), .val (.int (7 : Int32)), .val (.int x589)] [(.int (16777215 : Int32)), (.int x593)])) _
    refine st625 _ ?_
    by_cases c626 : (f_cu x593 (16777215 : Int32)) < (0 : Int32)
    ·
      show Steps p.tables e below (T625.setTop (mkF m 30 #[.val (.ref a0), .val (.int (8 : Int32)), .val (.int x606), .val (.int (7 : Int32)), .val (.int x589)] [(.int (f_cu x593 (16777215 : Int32)))])) _
      refine XS.ifYes X625.here hx rfl (pc0 := 30) (pc' := 37) rfl (hb hby d6_30) rfl ((if0 _ _).trans (tlt c626).1) (by decide) (by decide) ?_
      show Steps p.tables e below (T625.setTop (mkF m 37 #[.val (.ref a0), .val (.int (8 : Int32)), .val (.int x606), .val (.int (7 : Int32)), .val (.int x589)] [])) _
      refine XS.iconst X625.here hx rfl (hb hby d6_37) ?_
      rw [show x627 = (0 : Int32) from hx627.trans (by simp only [if_pos c626])] at k
      exact k
    ·
      show Steps p.tables e below (T625.setTop (mkF m 30 #[.val (.ref a0), .val (.int (8 : Int32)), .val (.int x606), .val (.int (7 : Int32)), .val (.int x589)] [(.int (f_cu x593 (16777215 : Int32)))])) _
      refine XS.ifNo X625.here hx rfl (hb hby d6_30) rfl ((if0 _ _).trans (flt c626).1) ?_
      show Steps p.tables e below (T625.setTop (mkF m 33 #[.val (.ref a0), .val (.int (8 : Int32)), .val (.int x606), .val (.int (7 : Int32)), .val (.int x589)] [])) _
      refine XS.iconst X625.here hx rfl (hb hby d6_33) ?_
      show Steps p.tables e below (T625.setTop (mkF m 34 #[.val (.ref a0), .val (.int (8 : Int32)), .val (.int x606), .val (.int (7 : Int32)), .val (.int x589)] [(.int (1 : Int32))])) _
      refine XS.goto X625.here hx rfl (pc0 := 34) (pc' := 38) rfl (hb hby d6_34) (by decide) (by decide) ?_
      rw [show x627 = (1 : Int32) from hx627.trans (by simp only [if_neg c626])] at k
      exact k
  obtain ⟨T629, X629, e629, st629⟩ := getF X625 hx hZ hown (host := "") (Or.inl (hw _ (List.mem_of_getElem? (i := 27) rfl))) Via.refl e625 f618 (g := (mkF m 42 #[.val (.ref a0), .val (.int (8 : Int32)), .val (.int x606), .val (.int (7 : Int32)), .val (.int x627)] [(.ref a0), (.ref a0)])) rfl rfl (hb hby d6_42)
  obtain ⟨T630, X630, e630, st630⟩ := getF X629 hx hZ hown (host := "") (Or.inl (hw _ (List.mem_of_getElem? (i := 15) rfl))) Via.refl e629 f622 (g := (mkF m 46 #[.val (.ref a0), .val (.int (8 : Int32)), .val (.int x606), .val (.int (7 : Int32)), .val (.int x627)] [(.ref a0), (.int x593), (.ref a0)])) rfl rfl (hb hby d6_46)
  obtain ⟨x631, hx631⟩ : ∃ z_ : Int32, z_ = (x593 - ((16777215 : Int32) &&& (-x627))) := ⟨_, rfl⟩
  have pre632 : ∀ t, Steps p.tables e below (T630.setTop (mkF m 54 #[.val (.ref a0), .val (.int (8 : Int32)), .val (.int x606), .val (.int (7 : Int32)), .val (.int x627)] [(.int x631), (.ref a0)])) t → Steps p.tables e below (s₁.setTop (entryFrame m #[(.ref a0), (.int (8 : Int32))] 5)) t := fun t k => by
    refine pre628 t ?_
    show Steps p.tables e below (T625.setTop (mkF m 38 #[.val (.ref a0), .val (.int (8 : Int32)), .val (.int x606), .val (.int (7 : Int32)), .val (.int x589)] [(.int x627)])) _
    refine XS.istore X625.here hx rfl (hb hby d6_38) rfl (l' := #[.val (.ref a0), .val (.int (8 : Int32)), .val (.int x606), .val (.int (7 : Int32)), .val (.int x627)]) rfl ?_
    show Steps p.tables e below (T625.setTop (mkF m 40 #[.val (.ref a0), .val (.int (8 : Int32)), .val (.int x606), .val (.int (7 : Int32)), .val (.int x627)] [])) _
    refine XS.aloadN X625.here hx rfl (hb hby d6_40) rfl rfl ?_
    show Steps p.tables e below (T625.setTop (mkF m 41 #[.val (.ref a0), .val (.int (8 : Int32)), .val (.int x606), .val (.int (7 : Int32)), .val (.int x627)] [(.ref a0)])) _
    refine XS.dup X625.here hx rfl (hb hby d6_41) rfl rfl ?_
    show Steps p.tables e below (T625.setTop (mkF m 42 #[.val (.ref a0), .val (.int (8 : Int32)), .val (.int x606), .val (.int (7 : Int32)), .val (.int x627)] [(.ref a0), (.ref a0)])) _
    refine st629 _ ?_
    show Steps p.tables e below (T629.setTop (mkF m 45 #[.val (.ref a0), .val (.int (8 : Int32)), .val (.int x606), .val (.int (7 : Int32)), .val (.int x627)] [(.int x593), (.ref a0)])) _
    refine XS.aloadN X629.here hx rfl (hb hby d6_45) rfl rfl ?_
    show Steps p.tables e below (T629.setTop (mkF m 46 #[.val (.ref a0), .val (.int (8 : Int32)), .val (.int x606), .val (.int (7 : Int32)), .val (.int x627)] [(.ref a0), (.int x593), (.ref a0)])) _
    refine st630 _ ?_
    show Steps p.tables e below (T630.setTop (mkF m 49 #[.val (.ref a0), .val (.int (8 : Int32)), .val (.int x606), .val (.int (7 : Int32)), .val (.int x627)] [(.int (16777215 : Int32)), (.int x593), (.ref a0)])) _
    refine XS.iload X630.here hx rfl (hb hby d6_49) rfl ?_
    show Steps p.tables e below (T630.setTop (mkF m 51 #[.val (.ref a0), .val (.int (8 : Int32)), .val (.int x606), .val (.int (7 : Int32)), .val (.int x627)] [(.int x627), (.int (16777215 : Int32)), (.int x593), (.ref a0)])) _
    refine XS.ineg X630.here hx rfl (hb hby d6_51) rfl ?_
    show Steps p.tables e below (T630.setTop (mkF m 52 #[.val (.ref a0), .val (.int (8 : Int32)), .val (.int x606), .val (.int (7 : Int32)), .val (.int x627)] [(.int (-x627)), (.int (16777215 : Int32)), (.int x593), (.ref a0)])) _
    refine XS.iand X630.here hx rfl (hb hby d6_52) rfl ?_
    show Steps p.tables e below (T630.setTop (mkF m 53 #[.val (.ref a0), .val (.int (8 : Int32)), .val (.int x606), .val (.int (7 : Int32)), .val (.int x627)] [(.int ((16777215 : Int32) &&& (-x627))), (.int x593), (.ref a0)])) _
    refine XS.isub X630.here hx rfl (hb hby d6_53) rfl ?_
    subst hx631
    exact k
  obtain ⟨T633, h633, X633, e633, W633, st633⟩ := putF X630 hx hZ hown (host := "") (Or.inl (hw _ (List.mem_of_getElem? (i := 27) rfl))) Via.refl e630 f618 f613 (Or.inl (hw _ (List.mem_of_getElem? (i := 28) rfl))) (hw _ (List.mem_of_getElem? (i := 7) rfl)) (ty := .int) (by decide) rfl rfl (g := (mkF m 54 #[.val (.ref a0), .val (.int (8 : Int32)), .val (.int x606), .val (.int (7 : Int32)), .val (.int x627)] [(.int x631), (.ref a0)])) rfl rfl (hb hby d6_54)
  have f634 := f613.wr W633
  have f635 := f614.other W633 (Or.inr (slot_ne (Or.inr (hw _ (List.mem_of_getElem? (i := 18) rfl))) (Or.inl (hw _ (List.mem_of_getElem? (i := 28) rfl))) (by decide) (t := (.array .byte)) (t' := .int) (by decide) (by decide)))
  have f636 := f615.other W633 (Or.inr (slot_ne (Or.inl (hw _ (List.mem_of_getElem? (i := 20) rfl))) (Or.inl (hw _ (List.mem_of_getElem? (i := 28) rfl))) (by decide) (t := .int) (t' := .int) (by decide) (by decide)))
  have f637 := f616.other W633 (Or.inr (slot_ne (Or.inr (hw _ (List.mem_of_getElem? (i := 22) rfl))) (Or.inl (hw _ (List.mem_of_getElem? (i := 28) rfl))) (by decide) (t := .int) (t' := .int) (by decide) (by decide)))
  have f638 := f617.other W633 (Ne.symm ne_a0_a1)
  have f639 := f622.other W633 (Or.inr (slot_ne (Or.inl (hw _ (List.mem_of_getElem? (i := 16) rfl))) (Or.inl (hw _ (List.mem_of_getElem? (i := 28) rfl))) (by decide) (t := .int) (t' := .int) (by decide) (by decide)))
  have Z640 : n0 ≤ h633.size := Nat.le_trans Z619 (Keep.of_wr W633).1
  have K641 : Keep h0 h633 [a0] := Keep.wr K620 W633 (Or.inl (List.mem_of_getElem? (i := 0) rfl))
  have N642 := Fr.snoc X633 N625 g_a0
  have f643 : Fld Z h633 a0 "com/example/sheafworks/sheafworks/storage/RangeCoder$Decoder" "code" "I" (.int x631) := f618.same W633
  obtain ⟨x644, hx644⟩ : ∃ z_ : Int32, z_ = ((x606 <<< ((1 : Int32) &&& 31)) ||| x627) := ⟨_, rfl⟩
  have pre645 : ∀ t, Steps p.tables e below (T633.setTop (mkF m 64 #[.val (.ref a0), .val (.int (8 : Int32)), .val (.int x644), .val (.int (7 : Int32)), .val (.int x627)] [])) t → Steps p.tables e below (s₁.setTop (entryFrame m #[(.ref a0), (.int (8 : Int32))] 5)) t := fun t k => by
    refine pre632 t ?_
    show Steps p.tables e below (T630.setTop (mkF m 54 #[.val (.ref a0), .val (.int (8 : Int32)), .val (.int x606), .val (.int (7 : Int32)), .val (.int x627)] [(.int x631), (.ref a0)])) _
    refine st633 _ ?_
    show Steps p.tables e below (T633.setTop (mkF m 57 #[.val (.ref a0), .val (.int (8 : Int32)), .val (.int x606), .val (.int (7 : Int32)), .val (.int x627)] [])) _
    refine XS.iloadN X633.here hx rfl (hb hby d6_57) rfl ?_
    show Steps p.tables e below (T633.setTop (mkF m 58 #[.val (.ref a0), .val (.int (8 : Int32)), .val (.int x606), .val (.int (7 : Int32)), .val (.int x627)] [(.int x606)])) _
    refine XS.iconst X633.here hx rfl (hb hby d6_58) ?_
    show Steps p.tables e below (T633.setTop (mkF m 59 #[.val (.ref a0), .val (.int (8 : Int32)), .val (.int x606), .val (.int (7 : Int32)), .val (.int x627)] [(.int (1 : Int32)), (.int x606)])) _
    refine XS.ishl X633.here hx rfl (hb hby d6_59) rfl ?_
    show Steps p.tables e below (T633.setTop (mkF m 60 #[.val (.ref a0), .val (.int (8 : Int32)), .val (.int x606), .val (.int (7 : Int32)), .val (.int x627)] [(.int (x606 <<< ((1 : Int32) &&& 31)))])) _
    refine XS.iload X633.here hx rfl (hb hby d6_60) rfl ?_
    show Steps p.tables e below (T633.setTop (mkF m 62 #[.val (.ref a0), .val (.int (8 : Int32)), .val (.int x606), .val (.int (7 : Int32)), .val (.int x627)] [(.int x627), (.int (x606 <<< ((1 : Int32) &&& 31)))])) _
    refine XS.ior X633.here hx rfl (hb hby d6_62) rfl ?_
    show Steps p.tables e below (T633.setTop (mkF m 63 #[.val (.ref a0), .val (.int (8 : Int32)), .val (.int x606), .val (.int (7 : Int32)), .val (.int x627)] [(.int ((x606 <<< ((1 : Int32) &&& 31)) ||| x627))])) _
    refine XS.istoreN X633.here hx rfl (hb hby d6_63) rfl (l' := #[.val (.ref a0), .val (.int (8 : Int32)), .val (.int ((x606 <<< ((1 : Int32) &&& 31)) ||| x627)), .val (.int (7 : Int32)), .val (.int x627)]) rfl ?_
    subst hx644
    exact k
  obtain ⟨T646, X646, e646, st646⟩ := getF X633 hx hZ hown (host := "") (Or.inl (hw _ (List.mem_of_getElem? (i := 15) rfl))) Via.refl e633 f639 (g := (mkF m 65 #[.val (.ref a0), .val (.int (8 : Int32)), .val (.int x644), .val (.int (7 : Int32)), .val (.int x627)] [(.ref a0)])) rfl rfl (hb hby d6_65)
  obtain ⟨_, _, ⟨T647, L647, k647, n647⟩, -, X647, ⟨Lc647, hQ647, l647, y647, z647⟩, st647⟩ := Jvm.LawKit.callS X646 hx (y := (⟨"java/lang/Integer", "compareUnsigned", "(II)I"⟩ : MethodName)) hown (mvT hZ (hw _ (List.mem_of_getElem? (i := 39) rfl))) (mvT hZ (hw _ (List.mem_of_getElem? (i := 40) rfl))) (mvT hZ (hw _ (List.mem_of_getElem? (i := 41) rfl))) (mvT hZ (hw _ (List.mem_of_getElem? (i := 42) rfl))) (by decide) (backOf (W := 0) (rm7 l Z aw hw [] (16777215 : Int32) (16777216 : Int32) h633 n0 Z640) hZ (hw _ (List.mem_of_getElem? (i := 42) rfl)) (hw _ (List.mem_of_getElem? (i := 41) rfl)) (by decide) (by decide)) (g := (mkF m 70 #[.val (.ref a0), .val (.int (8 : Int32)), .val (.int x644), .val (.int (7 : Int32)), .val (.int x627)] [(.int (16777216 : Int32)), (.int (16777215 : Int32))])) rfl (by rw [hml]; rfl) (argsL := [(.int (16777215 : Int32)), (.int (16777216 : Int32))]) (rest := []) (lenOf pd_0 rfl) rfl (by show 2 * 0 + _ ≤ _; exact Nat.le_of_eq rfl) (hb hby d6_70) (fun _ _ => ⟨rfl, e646, (by decide : 0 + 0 ≤ _), (by decide : 0 + 0 ≤ _)⟩)
  dsimp only [Pt.U, Pt.locs, Pt.cells, Pt.slots] at X647 l647 y647 z647 st647 hQ647
  replace l647 := l647.symm; replace y647 := y647.symm; replace z647 := z647.symm; subst l647 y647 z647
  obtain ⟨rfl, N647q, e647⟩ := hQ647
  have N647 := Fr.app N642 N647q
  have c648 : (f_cu (16777215 : Int32) (16777216 : Int32)) < (0 : Int32) := by
    decide
  obtain ⟨T649, X649, e649, st649⟩ := getF X647 hx hZ hown (host := "") (Or.inl (hw _ (List.mem_of_getElem? (i := 15) rfl))) Via.refl e647 f639 (g := (mkF m 78 #[.val (.ref a0), .val (.int (8 : Int32)), .val (.int x644), .val (.int (7 : Int32)), .val (.int x627)] [(.ref a0), (.ref a0)])) rfl rfl (hb hby d6_78)
  obtain ⟨T650, h650, X650, e650, W650, st650⟩ := putF X649 hx hZ hown (host := "") (Or.inl (hw _ (List.mem_of_getElem? (i := 15) rfl))) Via.refl e649 f639 f634 (Or.inl (hw _ (List.mem_of_getElem? (i := 16) rfl))) (hw _ (List.mem_of_getElem? (i := 7) rfl)) (ty := .int) (by decide) rfl rfl (g := (mkF m 84 #[.val (.ref a0), .val (.int (8 : Int32)), .val (.int x644), .val (.int (7 : Int32)), .val (.int x627)] [(.int (-256 : Int32)), (.ref a0)])) rfl rfl (hb hby d6_84)
  have f651 := f634.wr W650
  have f652 := f635.other W650 (Or.inr (slot_ne (Or.inr (hw _ (List.mem_of_getElem? (i := 18) rfl))) (Or.inl (hw _ (List.mem_of_getElem? (i := 16) rfl))) (by decide) (t := (.array .byte)) (t' := .int) (by decide) (by decide)))
  have f653 := f636.other W650 (Or.inr (slot_ne (Or.inl (hw _ (List.mem_of_getElem? (i := 20) rfl))) (Or.inl (hw _ (List.mem_of_getElem? (i := 16) rfl))) (by decide) (t := .int) (t' := .int) (by decide) (by decide)))
  have f654 := f637.other W650 (Or.inr (slot_ne (Or.inr (hw _ (List.mem_of_getElem? (i := 22) rfl))) (Or.inl (hw _ (List.mem_of_getElem? (i := 16) rfl))) (by decide) (t := .int) (t' := .int) (by decide) (by decide)))
  have f655 := f638.other W650 (Ne.symm ne_a0_a1)
  have f656 := f643.other W650 (Or.inr (slot_ne (Or.inl (hw _ (List.mem_of_getElem? (i := 28) rfl))) (Or.inl (hw _ (List.mem_of_getElem? (i := 16) rfl))) (by decide) (t := .int) (t' := .int) (by decide) (by decide)))
  have Z657 : n0 ≤ h650.size := Nat.le_trans Z640 (Keep.of_wr W650).1
  have K658 : Keep h0 h650 [a0] := Keep.wr K641 W650 (Or.inl (List.mem_of_getElem? (i := 0) rfl))
  have N659 := Fr.snoc X650 N647 g_a0
  have f660 : Fld Z h650 a0 "com/example/sheafworks/sheafworks/storage/RangeCoder$Decoder" "range" "I" (.int (-256 : Int32)) := f639.same W650
  obtain ⟨T661, X661, e661, st661⟩ := getF X650 hx hZ hown (host := "") (Or.inl (hw _ (List.mem_of_getElem? (i := 27) rfl))) Via.refl e650 f656 (g := (mkF m 89 #[.val (.ref a0), .val (.int (8 : Int32)), .val (.int x644), .val (.int (7 : Int32)), .val (.int x627)] [(.ref a0), (.ref a0)])) rfl rfl (hb hby d6_89)
  obtain ⟨cq662, q662, q662'⟩ := f651.cell
  obtain ⟨_, _, ⟨T662, L662, k662, n662⟩, -, X662, ⟨Lc662, hQ662, l662, y662, z662⟩, st662⟩ := X661.privateBack hx (y := (⟨"com/example/sheafworks/sheafworks/storage/RangeCoder$Decoder", "next", "()I"⟩ : MethodName)) hown (mvT hZ (hw _ (List.mem_of_getElem? (i := 23) rfl))) (mvT hZ (hw _ (List.mem_of_getElem? (i := 24) rfl))) (selPriv (y0 := (⟨"com/example/sheafworks/sheafworks/storage/RangeCoder$Decoder", "atEnd", "()Z"⟩ : MethodName)) (mvT hZ (hw _ (List.mem_of_getElem? (i := 32) rfl))) rfl (Cond.privateMethod_at (mvP hZ (hw _ (List.mem_of_getElem? (i := 25) rfl)) (args := #[]))) (mvT hZ (hw _ (List.mem_of_getElem? (i := 24) rfl))) (by decide)) (Cond.privateMethod_at (mvP hZ (hw _ (List.mem_of_getElem? (i := 25) rfl)) (args := #[]))) (mvT hZ (hw _ (List.mem_of_getElem? (i := 26) rfl))) (by decide) (backOf (W := 2) (rm4 l Z aw hw [] a0 a1 k1 vs w u (-256 : Int32) x631 z h650 n0 Z657 f651 f652 f653 f654 f660 f656 g_a0 f655 ne_a0_a1 hne hin hz) hZ (hw _ (List.mem_of_getElem? (i := 26) rfl)) (hw _ (List.mem_of_getElem? (i := 8) rfl)) (by decide) (by decide)) (g := (mkF m 96 #[.val (.ref a0), .val (.int (8 : Int32)), .val (.int x644), .val (.int (7 : Int32)), .val (.int x627)] [(.ref a0), (.int (x631 <<< ((8 : Int32) &&& 31))), (.ref a0)])) rfl (by rw [hml]; rfl) (Steps.refl _) (a := a0) (by rw [e661]; exact q662) q662' (argsL := []) (rest := [(.int (x631 <<< ((8 : Int32) &&& 31))), (.ref a0)]) (lenOf pd_1 rfl) rfl (by show 2 * 0 + _ ≤ _; exact Nat.le_of_eq rfl) (hb hby d6_96) (fun _ _ => ⟨rfl, e661, (by decide : 0 + 0 ≤ _), (by decide : 0 + 0 ≤ _)⟩)
  dsimp only [Pt.U, Pt.locs, Pt.cells, Pt.slots] at X662 l662 y662 z662 st662 hQ662
  replace l662 := l662.symm; replace y662 := y662.symm; replace z662 := z662.symm; subst l662 y662 z662
  obtain ⟨rfl, N662q, K662, f663, f664, f665, f666, f667, f668⟩ := hQ662
  have N662 := Fr.app N659 N662q
  have f669 := f655.keep K662 (ninS (Ne.symm ne_a0_a1) nin0)
  have Z670 : n0 ≤ T662.heap.size := Nat.le_trans Z657 K662.1
  have K671 : Keep h0 T662.heap [a0] := Keep.trans K658 K662 (allS (Or.inl (List.mem_of_getElem? (i := 0) rfl)) all0)
  obtain ⟨x672, hx672⟩ : ∃ z_ : Int32, z_ = ((x631 <<< ((8 : Int32) &&& 31)) ||| (z &&& (255 : Int32))) := ⟨_, rfl⟩
  have pre673 : ∀ t, Steps p.tables e below (T662.setTop (mkF m 100 #[.val (.ref a0), .val (.int (8 : Int32)), .val (.int x644), .val (.int (7 : Int32)), .val (.int x627)] [(.int x672), (.ref a0)])) t → Steps p.tables e below (s₁.setTop (entryFrame m #[(.ref a0), (.int (8 : Int32))] 5)) t := fun t k => by
    refine pre645 t ?_
    show Steps p.tables e below (T633.setTop (mkF m 64 #[.val (.ref a0), .val (.int (8 : Int32)), .val (.int x644), .val (.int (7 : Int32)), .val (.int x627)] [])) _
    refine XS.aloadN X633.here hx rfl (hb hby d6_64) rfl rfl ?_
    show Steps p.tables e below (T633.setTop (mkF m 65 #[.val (.ref a0), .val (.int (8 : Int32)), .val (.int x644), .val (.int (7 : Int32)), .val (.int x627)] [(.ref a0)])) _
    refine st646 _ ?_
    show Steps p.tables e below (T646.setTop (mkF m 68 #[.val (.ref a0), .val (.int (8 : Int32)), .val (.int x644), .val (.int (7 : Int32)), .val (.int x627)] [(.int (16777215 : Int32))])) _
    refine X646.ldcInt hx hown (mvT hZ (hw _ (List.mem_of_getElem? (i := 47) rfl))) (g := (mkF m 68 #[.val (.ref a0), .val (.int (8 : Int32)), .val (.int x644), .val (.int (7 : Int32)), .val (.int x627)] [(.int (16777215 : Int32))])) rfl (hb hby d6_68) _ ?_
    show Steps p.tables e below (T646.setTop (mkF m 70 #[.val (.ref a0), .val (.int (8 : Int32)), .val (.int x644), .val (.int (7 : Int32)), .val (.int x627)] [(.int (16777216 : Int32)), (.int (16777215 : Int32))])) _
    refine st647 _ ?_
    show Steps p.tables e below (T647.setTop (mkF m 73 #[.val (.ref a0), .val (.int (8 : Int32)), .val (.int x644), .val (.int (7 : Int32)), .val (.int x627)] [(.int (f_cu (16777215 : Int32) (16777216 : Int32)))])) _
    refine XS.ifNo X647.here hx rfl (hb hby d6_73) rfl ((if0 _ _).trans (tlt c648).2.1) ?_
    show Steps p.tables e below (T647.setTop (mkF m 76 #[.val (.ref a0), .val (.int (8 : Int32)), .val (.int x644), .val (.int (7 : Int32)), .val (.int x627)] [])) _
    refine XS.aloadN X647.here hx rfl (hb hby d6_76) rfl rfl ?_
    show Steps p.tables e below (T647.setTop (mkF m 77 #[.val (.ref a0), .val (.int (8 : Int32)), .val (.int x644), .val (.int (7 : Int32)), .val (.int x627)] [(.ref a0)])) _
    refine XS.dup X647.here hx rfl (hb hby d6_77) rfl rfl ?_
    show Steps p.tables e below (T647.setTop (mkF m 78 #[.val (.ref a0), .val (.int (8 : Int32)), .val (.int x644), .val (.int (7 : Int32)), .val (.int x627)] [(.ref a0), (.ref a0)])) _
    refine st649 _ ?_
    show Steps p.tables e below (T649.setTop (mkF m 81 #[.val (.ref a0), .val (.int (8 : Int32)), .val (.int x644), .val (.int (7 : Int32)), .val (.int x627)] [(.int (16777215 : Int32)), (.ref a0)])) _
    refine XS.bipush X649.here hx rfl (hb hby d6_81) ?_
    show Steps p.tables e below (T649.setTop (mkF m 83 #[.val (.ref a0), .val (.int (8 : Int32)), .val (.int x644), .val (.int (7 : Int32)), .val (.int x627)] [(.int (8 : Int32)), (.int (16777215 : Int32)), (.ref a0)])) _
    refine XS.ishl X649.here hx rfl (hb hby d6_83) rfl ?_
    show Steps p.tables e below (T649.setTop (mkF m 84 #[.val (.ref a0), .val (.int (8 : Int32)), .val (.int x644), .val (.int (7 : Int32)), .val (.int x627)] [(.int (-256 : Int32)), (.ref a0)])) _
    refine st650 _ ?_
    show Steps p.tables e below (T650.setTop (mkF m 87 #[.val (.ref a0), .val (.int (8 : Int32)), .val (.int x644), .val (.int (7 : Int32)), .val (.int x627)] [])) _
    refine XS.aloadN X650.here hx rfl (hb hby d6_87) rfl rfl ?_
    show Steps p.tables e below (T650.setTop (mkF m 88 #[.val (.ref a0), .val (.int (8 : Int32)), .val (.int x644), .val (.int (7 : Int32)), .val (.int x627)] [(.ref a0)])) _
    refine XS.aloadN X650.here hx rfl (hb hby d6_88) rfl rfl ?_
    show Steps p.tables e below (T650.setTop (mkF m 89 #[.val (.ref a0), .val (.int (8 : Int32)), .val (.int x644), .val (.int (7 : Int32)), .val (.int x627)] [(.ref a0), (.ref a0)])) _
    refine st661 _ ?_
    show Steps p.tables e below (T661.setTop (mkF m 92 #[.val (.ref a0), .val (.int (8 : Int32)), .val (.int x644), .val (.int (7 : Int32)), .val (.int x627)] [(.int x631), (.ref a0)])) _
    refine XS.bipush X661.here hx rfl (hb hby d6_92) ?_
    show Steps p.tables e below (T661.setTop (mkF m 94 #[.val (.ref a0), .val (.int (8 : Int32)), .val (.int x644), .val (.int (7 : Int32)), .val (.int x627)] [(.int (8 : Int32)), (.int x631), (.ref a0)])) _
    refine XS.ishl X661.here hx rfl (hb hby d6_94) rfl ?_
    show Steps p.tables e below (T661.setTop (mkF m 95 #[.val (.ref a0), .val (.int (8 : Int32)), .val (.int x644), .val (.int (7 : Int32)), .val (.int x627)] [(.int (x631 <<< ((8 : Int32) &&& 31))), (.ref a0)])) _
    refine XS.aloadN X661.here hx rfl (hb hby d6_95) rfl rfl ?_
    show Steps p.tables e below (T661.setTop (mkF m 96 #[.val (.ref a0), .val (.int (8 : Int32)), .val (.int x644), .val (.int (7 : Int32)), .val (.int x627)] [(.ref a0), (.int (x631 <<< ((8 : Int32) &&& 31))), (.ref a0)])) _
    refine st662.trans ?_
    show Steps p.tables e below (T662.setTop (mkF m 99 #[.val (.ref a0), .val (.int (8 : Int32)), .val (.int x644), .val (.int (7 : Int32)), .val (.int x627)] [(.int (z &&& (255 : Int32))), (.int (x631 <<< ((8 : Int32) &&& 31))), (.ref a0)])) _
    refine XS.ior X662.here hx rfl (hb hby d6_99) rfl ?_
    subst hx672
    exact k
  obtain ⟨T674, h674, X674, e674, W674, st674⟩ := putF X662 hx hZ hown (host := "") (Or.inl (hw _ (List.mem_of_getElem? (i := 27) rfl))) Via.refl rfl f668 f663 (Or.inl (hw _ (List.mem_of_getElem? (i := 28) rfl))) (hw _ (List.mem_of_getElem? (i := 7) rfl)) (ty := .int) (by decide) rfl rfl (g := (mkF m 100 #[.val (.ref a0), .val (.int (8 : Int32)), .val (.int x644), .val (.int (7 : Int32)), .val (.int x627)] [(.int x672), (.ref a0)])) rfl rfl (hb hby d6_100)
  have f675 := f669.other W674 (Ne.symm ne_a0_a1)
  have f676 := f663.wr W674
  have f677 := f664.other W674 (Or.inr (slot_ne (Or.inr (hw _ (List.mem_of_getElem? (i := 18) rfl))) (Or.inl (hw _ (List.mem_of_getElem? (i := 28) rfl))) (by decide) (t := (.array .byte)) (t' := .int) (by decide) (by decide)))
  have f678 := f665.other W674 (Or.inr (slot_ne (Or.inl (hw _ (List.mem_of_getElem? (i := 20) rfl))) (Or.inl (hw _ (List.mem_of_getElem? (i := 28) rfl))) (by decide) (t := .int) (t' := .int) (by decide) (by decide)))
  have f679 := f666.other W674 (Or.inr (slot_ne (Or.inr (hw _ (List.mem_of_getElem? (i := 22) rfl))) (Or.inl (hw _ (List.mem_of_getElem? (i := 28) rfl))) (by decide) (t := .int) (t' := .int) (by decide) (by decide)))
  have f680 := f667.other W674 (Or.inr (slot_ne (Or.inl (hw _ (List.mem_of_getElem? (i := 16) rfl))) (Or.inl (hw _ (List.mem_of_getElem? (i := 28) rfl))) (by decide) (t := .int) (t' := .int) (by decide) (by decide)))
  have Z681 : n0 ≤ h674.size := Nat.le_trans Z670 (Keep.of_wr W674).1
  have K682 : Keep h0 h674 [a0] := Keep.wr K671 W674 (Or.inl (List.mem_of_getElem? (i := 0) rfl))
  have N683 := Fr.snoc X674 N662 g_a0
  have f684 : Fld Z h674 a0 "com/example/sheafworks/sheafworks/storage/RangeCoder$Decoder" "code" "I" (.int x672) := f668.same W674
  obtain ⟨fs, hr, hrun, hended, hW, hsame⟩ := X674.leave (v := some (.int x644)) (fun h => by rw [Bd.returns] at h; cases h)
  refine ⟨_, _, pre673 _ ?_, hrun, hended, _, _, rfl, ?_, ⟨_, rfl⟩, hW, hsame.mono (by decide) (by decide)⟩
  ·
    show Steps p.tables e below (T662.setTop (mkF m 100 #[.val (.ref a0), .val (.int (8 : Int32)), .val (.int x644), .val (.int (7 : Int32)), .val (.int x627)] [(.int x672), (.ref a0)])) _
    refine st674 _ ?_
    show Steps p.tables e below (T674.setTop (mkF m 103 #[.val (.ref a0), .val (.int (8 : Int32)), .val (.int x644), .val (.int (7 : Int32)), .val (.int x627)] [])) _
    refine XS.iinc X674.here hx rfl (hb hby d6_103) rfl (l' := #[.val (.ref a0), .val (.int (8 : Int32)), .val (.int x644), .val (.int (8 : Int32)), .val (.int x627)]) rfl ?_
    show Steps p.tables e below (T674.setTop (mkF m 106 #[.val (.ref a0), .val (.int (8 : Int32)), .val (.int x644), .val (.int (8 : Int32)), .val (.int x627)] [])) _
    refine XS.goto X674.here hx rfl (pc0 := 106) (pc' := 4) rfl (hb hby d6_106) (by decide) (by decide) ?_
    show Steps p.tables e below (T674.setTop (mkF m 4 #[.val (.ref a0), .val (.int (8 : Int32)), .val (.int x644), .val (.int (8 : Int32)), .val (.int x627)] [])) _
    refine XS.iloadN X674.here hx rfl (hb hby d6_4) rfl ?_
    show Steps p.tables e below (T674.setTop (mkF m 5 #[.val (.ref a0), .val (.int (8 : Int32)), .val (.int x644), .val (.int (8 : Int32)), .val (.int x627)] [(.int (8 : Int32))])) _
    refine XS.iloadN X674.here hx rfl (hb hby d6_5) rfl ?_
    show Steps p.tables e below (T674.setTop (mkF m 6 #[.val (.ref a0), .val (.int (8 : Int32)), .val (.int x644), .val (.int (8 : Int32)), .val (.int x627)] [(.int (8 : Int32)), (.int (8 : Int32))])) _
    refine XS.icmpYes X674.here hx rfl (pc0 := 6) (pc' := 109) rfl (hb hby d6_6) rfl (flt (by decide)).2.1 (by decide) (by decide) ?_
    show Steps p.tables e below (T674.setTop (mkF m 109 #[.val (.ref a0), .val (.int (8 : Int32)), .val (.int x644), .val (.int (8 : Int32)), .val (.int x627)] [])) _
    refine XS.iloadN X674.here hx rfl (hb hby d6_109) rfl ?_
    show Steps p.tables e below (T674.setTop (mkF m 110 #[.val (.ref a0), .val (.int (8 : Int32)), .val (.int x644), .val (.int (8 : Int32)), .val (.int x627)] [(.int x644)])) _
    exact retI X674 hx Bd.returns (hb hby d6_110) hr
  ·
    show Q_rm6 Z a0 a1 k1 vs w u cd z h0 n0 _ T674.heap _
    rw [e674]
    exact ⟨x644, rfl, N683, K682, f676, f678, f679⟩
theorem own_rem4 (p : Int32) : (p &&& 2147483647) - (p &&& 2147483647) / 4 * 4 = 0 ∨ (p &&& 2147483647) - (p &&& 2147483647) / 4 * 4 = 1 ∨ (p &&& 2147483647) - (p &&& 2147483647) / 4 * 4 = 2 ∨ (p &&& 2147483647) - (p &&& 2147483647) / 4 * 4 = 3 := by
  have h := (c_and p 2147483647 (by decide)).1
  have r := (c_irem (p &&& 2147483647) 4 4 (by decide)).1 h
  rw [irem_eq_mod]
  simp only [← Int32.toInt_inj, Int32.reduceToInt] at *
  omega
theorem pd_2 : parseMethodDescriptor "(JI)[B" = some ⟨[.long, .int], some (.array .byte)⟩ := by decide +kernel
theorem pd_3 : parseMethodDescriptor "([BII)V" = some ⟨[(.array .byte), .int, .int], none⟩ := by decide +kernel
theorem pd_4 : parseMethodDescriptor "()Z" = some ⟨[], some .boolean⟩ := by decide +kernel
theorem pd_5 : parseMethodDescriptor "(I)I" = some ⟨[.int], some .int⟩ := by decide +kernel
theorem ef_rm0 (m : MethodId) (p0 : Int32) (p1 : Int32) (q2 : Int64) (p3 : Int32) (p4 : Int32) : entryFrame m #[(.int p0), (.int p1), (.long q2), (.int p3), (.int p4)] maxLocals = mkF m 0 #[.val (.int p0), .val (.int p1), .val (.long q2), .second, .val (.int p3), .val (.int p4), .unset, .unset, .unset, .unset, .unset, .unset] [] := by first | (simp [entryFrame, mkF, argsToLocals, Value.category, maxLocals]; done) | rfl
def Q_rm0 (Z : State) (p0 : Int32) (p1 : Int32) (q2 : Int64) (p3 : Int32) (p4 : Int32) (h0 : Heap) (n0 : Nat) (v : Option Value) (h : Heap) (L : List Loc) : Prop := v = some (.int (1 : Int32)) ∧ Fr n0 L
set_option maxRecDepth 65536 in
set_option maxHeartbeats 40000000 in
theorem rm0 (l : Launch) (Z : State) (aw : Array Value) (hw : ∀ d ∈ tables_1, d.before aw Z = true) (ws : List Jvm.Cond) (p0 : Int32) (p1 : Int32) (q2 : Int64) (p3 : Int32) (p4 : Int32) (h0 : Heap) (n0 : Nat) (Z0 : n0 ≤ h0.size) :
    MetFree l x (head1 (Jvm.Cond.code x code maxLocals ret :: ws) room_1) (fun a U => a = #[(.int p0), (.int p1), (.long q2), (.int p3), (.int p4)] ∧ Z.Warmed39 U.vm ∧ U.heap = h0) (fun _ _ _ _ _ => True) (fun _ U o U' => ∃ v L, o = .returned v ∧ Q_rm0 Z p0 p1 q2 p3 p4 h0 n0 v U'.heap L ∧ FrameEnd U o U' L room_1.cells room_1.slots) := by
  refine MetFree.of_bodySF (plainFor_of_name pn_1) hisR ?_
  intro p e s m args below meth c s₁ Bd hml0 hP hK
  obtain ⟨rfl, hZ, hh⟩ := hP
  have hx := Bd.exec
  have hby := Bd.bytes
  have hml : c.maxLocals = 12 := hml0
  have hown : s.vm.findClass "com/example/sheafworks/sheafworks/storage/DecoderAtEndPinLaw" = some m.cls := findClass_of_methodNamed Bd.named
  have hnm := (name_of_methodNamed Bd.named Bd.method).1
  have X0 : Stand p l e room_1 s m #[(.int p0), (.int p1), (.long q2), (.int p3), (.int p4)] below meth c s₁ [] 0 0 := Stand.of_body Bd
  have e0 : s₁.heap = h0 := by rw [← hh, Bd.state]; rfl
  have N0 := Fr.nil n0
  have pre0 : ∀ t, Steps p.tables e below (s₁.setTop (mkF m 0 #[.val (.int p0), .val (.int p1), .val (.long q2), .second, .val (.int p3), .val (.int p4), .unset, .unset, .unset, .unset, .unset, .unset] [])) t → Steps p.tables e below (s₁.setTop (entryFrame m #[(.int p0), (.int p1), (.long q2), (.int p3), (.int p4)] maxLocals)) t := fun t k => castTop (ef_rm0 m p0 p1 q2 p3 p4) k
  obtain ⟨x685, hx685⟩ : ∃ z_ : Int32, z_ = ((p0 &&& (2147483647 : Int32)) - ((p0 &&& (2147483647 : Int32)) / (4 : Int32)) * (4 : Int32)) := ⟨_, rfl⟩
  have pre686 : ∀ t, Steps p.tables e below (s₁.setTop (mkF m 8 #[.val (.int p0), .val (.int p1), .val (.long q2), .second, .val (.int p3), .val (.int p4), .val (.int x685), .unset, .unset, .unset, .unset, .unset] [])) t → Steps p.tables e below (s₁.setTop (entryFrame m #[(.int p0), (.int p1), (.long q2), (.int p3), (.int p4)] maxLocals)) t := fun t k => by
    refine pre0 t ?_
    show Steps p.tables e below (s₁.setTop (mkF m 0 #[.val (.int p0), .val (.int p1), .val (.long q2), .second, .val (.int p3), .val (.int p4), .unset, .unset, .unset, .unset, .unset, .unset] [])) _
    refine XS.iloadN X0.here hx rfl (hb hby at_0) rfl ?_
    show Steps p.tables e below (s₁.setTop (mkF m 1 #[.val (.int p0), .val (.int p1), .val (.long q2), .second, .val (.int p3), .val (.int p4), .unset, .unset, .unset, .unset, .unset, .unset] [(.int p0)])) _
    refine X0.ldcInt hx hown (mvT hZ (hw _ (List.mem_of_getElem? (i := 0) rfl))) (g := (mkF m 1 #[.val (.int p0), .val (.int p1), .val (.long q2), .second, .val (.int p3), .val (.int p4), .unset, .unset, .unset, .unset, .unset, .unset] [(.int p0)])) rfl (hb hby at_1) _ ?_
    show Steps p.tables e below (s₁.setTop (mkF m 3 #[.val (.int p0), .val (.int p1), .val (.long q2), .second, .val (.int p3), .val (.int p4), .unset, .unset, .unset, .unset, .unset, .unset] [(.int (2147483647 : Int32)), (.int p0)])) _
    refine XS.iand X0.here hx rfl (hb hby at_3) rfl ?_
    show Steps p.tables e below (s₁.setTop (mkF m 4 #[.val (.int p0), .val (.int p1), .val (.long q2), .second, .val (.int p3), .val (.int p4), .unset, .unset, .unset, .unset, .unset, .unset] [(.int (p0 &&& (2147483647 : Int32)))])) _
    refine XS.iconst X0.here hx rfl (hb hby at_4) ?_
    show Steps p.tables e below (s₁.setTop (mkF m 5 #[.val (.int p0), .val (.int p1), .val (.long q2), .second, .val (.int p3), .val (.int p4), .unset, .unset, .unset, .unset, .unset, .unset] [(.int (4 : Int32)), (.int (p0 &&& (2147483647 : Int32)))])) _
    refine XS.irem X0.here hx rfl (hb hby at_5) rfl (by decide) ?_
    show Steps p.tables e below (s₁.setTop (mkF m 6 #[.val (.int p0), .val (.int p1), .val (.long q2), .second, .val (.int p3), .val (.int p4), .unset, .unset, .unset, .unset, .unset, .unset] [(.int ((p0 &&& (2147483647 : Int32)) - ((p0 &&& (2147483647 : Int32)) / (4 : Int32)) * (4 : Int32)))])) _
    refine XS.istore X0.here hx rfl (hb hby at_6) rfl (l' := #[.val (.int p0), .val (.int p1), .val (.long q2), .second, .val (.int p3), .val (.int p4), .val (.int ((p0 &&& (2147483647 : Int32)) - ((p0 &&& (2147483647 : Int32)) / (4 : Int32)) * (4 : Int32))), .unset, .unset, .unset, .unset, .unset]) rfl ?_
    subst hx685
    exact k
  obtain ⟨x687, hx687⟩ : ∃ z_ : Int32, z_ = ((p1 &&& (2147483647 : Int32)) - ((p1 &&& (2147483647 : Int32)) / (4 : Int32)) * (4 : Int32)) := ⟨_, rfl⟩
  have pre688 : ∀ t, Steps p.tables e below (s₁.setTop (mkF m 16 #[.val (.int p0), .val (.int p1), .val (.long q2), .second, .val (.int p3), .val (.int p4), .val (.int x685), .val (.int x687), .unset, .unset, .unset, .unset] [])) t → Steps p.tables e below (s₁.setTop (entryFrame m #[(.int p0), (.int p1), (.long q2), (.int p3), (.int p4)] maxLocals)) t := fun t k => by
    refine pre686 t ?_
    show Steps p.tables e below (s₁.setTop (mkF m 8 #[.val (.int p0), .val (.int p1), .val (.long q2), .second, .val (.int p3), .val (.int p4), .val (.int x685), .unset, .unset, .unset, .unset, .unset] [])) _
    refine XS.iloadN X0.here hx rfl (hb hby at_8) rfl ?_
    show Steps p.tables e below (s₁.setTop (mkF m 9 #[.val (.int p0), .val (.int p1), .val (.long q2), .second, .val (.int p3), .val (.int p4), .val (.int x685), .unset, .unset, .unset, .unset, .unset] [(.int p1)])) _
    refine X0.ldcInt hx hown (mvT hZ (hw _ (List.mem_of_getElem? (i := 0) rfl))) (g := (mkF m 9 #[.val (.int p0), .val (.int p1), .val (.long q2), .second, .val (.int p3), .val (.int p4), .val (.int x685), .unset, .unset, .unset, .unset, .unset] [(.int p1)])) rfl (hb hby at_9) _ ?_
    show Steps p.tables e below (s₁.setTop (mkF m 11 #[.val (.int p0), .val (.int p1), .val (.long q2), .second, .val (.int p3), .val (.int p4), .val (.int x685), .unset, .unset, .unset, .unset, .unset] [(.int (2147483647 : Int32)), (.int p1)])) _
    refine XS.iand X0.here hx rfl (hb hby at_11) rfl ?_
    show Steps p.tables e below (s₁.setTop (mkF m 12 #[.val (.int p0), .val (.int p1), .val (.long q2), .second, .val (.int p3), .val (.int p4), .val (.int x685), .unset, .unset, .unset, .unset, .unset] [(.int (p1 &&& (2147483647 : Int32)))])) _
    refine XS.iconst X0.here hx rfl (hb hby at_12) ?_
    show Steps p.tables e below (s₁.setTop (mkF m 13 #[.val (.int p0), .val (.int p1), .val (.long q2), .second, .val (.int p3), .val (.int p4), .val (.int x685), .unset, .unset, .unset, .unset, .unset] [(.int (4 : Int32)), (.int (p1 &&& (2147483647 : Int32)))])) _
    refine XS.irem X0.here hx rfl (hb hby at_13) rfl (by decide) ?_
    show Steps p.tables e below (s₁.setTop (mkF m 14 #[.val (.int p0), .val (.int p1), .val (.long q2), .second, .val (.int p3), .val (.int p4), .val (.int x685), .unset, .unset, .unset, .unset, .unset] [(.int ((p1 &&& (2147483647 : Int32)) - ((p1 &&& (2147483647 : Int32)) / (4 : Int32)) * (4 : Int32)))])) _
    refine XS.istore X0.here hx rfl (hb hby at_14) rfl (l' := #[.val (.int p0), .val (.int p1), .val (.long q2), .second, .val (.int p3), .val (.int p4), .val (.int x685), .val (.int ((p1 &&& (2147483647 : Int32)) - ((p1 &&& (2147483647 : Int32)) / (4 : Int32)) * (4 : Int32))), .unset, .unset, .unset, .unset]) rfl ?_
    subst hx687
    exact k
  obtain ⟨x689, hx689⟩ : ∃ z_ : Int32, z_ = ((x685 + (5 : Int32)) + x687) := ⟨_, rfl⟩
  have pre690 : ∀ t, Steps p.tables e below (s₁.setTop (mkF m 25 #[.val (.int p0), .val (.int p1), .val (.long q2), .second, .val (.int p3), .val (.int p4), .val (.int x685), .val (.int x687), .val (.int x689), .unset, .unset, .unset] [])) t → Steps p.tables e below (s₁.setTop (entryFrame m #[(.int p0), (.int p1), (.long q2), (.int p3), (.int p4)] maxLocals)) t := fun t k => by
    refine pre688 t ?_
    show Steps p.tables e below (s₁.setTop (mkF m 16 #[.val (.int p0), .val (.int p1), .val (.long q2), .second, .val (.int p3), .val (.int p4), .val (.int x685), .val (.int x687), .unset, .unset, .unset, .unset] [])) _
    refine XS.iload X0.here hx rfl (hb hby at_16) rfl ?_
    show Steps p.tables e below (s₁.setTop (mkF m 18 #[.val (.int p0), .val (.int p1), .val (.long q2), .second, .val (.int p3), .val (.int p4), .val (.int x685), .val (.int x687), .unset, .unset, .unset, .unset] [(.int x685)])) _
    refine XS.iconst X0.here hx rfl (hb hby at_18) ?_
    show Steps p.tables e below (s₁.setTop (mkF m 19 #[.val (.int p0), .val (.int p1), .val (.long q2), .second, .val (.int p3), .val (.int p4), .val (.int x685), .val (.int x687), .unset, .unset, .unset, .unset] [(.int (5 : Int32)), (.int x685)])) _
    refine XS.iadd X0.here hx rfl (hb hby at_19) rfl ?_
    show Steps p.tables e below (s₁.setTop (mkF m 20 #[.val (.int p0), .val (.int p1), .val (.long q2), .second, .val (.int p3), .val (.int p4), .val (.int x685), .val (.int x687), .unset, .unset, .unset, .unset] [(.int (x685 + (5 : Int32)))])) _
    refine XS.iload X0.here hx rfl (hb hby at_20) rfl ?_
    show Steps p.tables e below (s₁.setTop (mkF m 22 #[.val (.int p0), .val (.int p1), .val (.long q2), .second, .val (.int p3), .val (.int p4), .val (.int x685), .val (.int x687), .unset, .unset, .unset, .unset] [(.int x687), (.int (x685 + (5 : Int32)))])) _
    refine XS.iadd X0.here hx rfl (hb hby at_22) rfl ?_
    show Steps p.tables e below (s₁.setTop (mkF m 23 #[.val (.int p0), .val (.int p1), .val (.long q2), .second, .val (.int p3), .val (.int p4), .val (.int x685), .val (.int x687), .unset, .unset, .unset, .unset] [(.int ((x685 + (5 : Int32)) + x687))])) _
    refine XS.istore X0.here hx rfl (hb hby at_23) rfl (l' := #[.val (.int p0), .val (.int p1), .val (.long q2), .second, .val (.int p3), .val (.int p4), .val (.int x685), .val (.int x687), .val (.int ((x685 + (5 : Int32)) + x687)), .unset, .unset, .unset]) rfl ?_
    subst hx689
    exact k
  have h7 : x687 = 0 ∨ x687 = 1 ∨ x687 = 2 ∨ x687 = 3 := by rw [hx687]; exact own_rem4 _
  have h6 : x685 = 0 ∨ x685 = 1 ∨ x685 = 2 ∨ x685 = 3 := by rw [hx685]; exact own_rem4 _
  rcases h6 with q | q | q | q
  ·
    obtain rfl : x685 = (0 : Int32) := q
    obtain ⟨_, _, ⟨T691, L691, k691, n691⟩, -, X691, ⟨Lc691, hQ691, l691, y691, z691⟩, st691⟩ := Jvm.LawKit.callS X0 hx (y := (⟨"com/example/sheafworks/sheafworks/storage/DecoderAtEndPinLaw", "bytes", "(JI)[B"⟩ : MethodName)) hown (mvT hZ (hw _ (List.mem_of_getElem? (i := 1) rfl))) (mvT hZ (hw _ (List.mem_of_getElem? (i := 2) rfl))) (mvT hZ (hw _ (List.mem_of_getElem? (i := 3) rfl))) (mvT hZ (hw _ (List.mem_of_getElem? (i := 4) rfl))) (by decide) (backOf (W := 0) (rm1 l Z aw hw [] q2 p3 h0 n0 Z0) hZ (hw _ (List.mem_of_getElem? (i := 4) rfl)) (hw _ (List.mem_of_getElem? (i := 3) rfl)) (by decide) (by decide)) (g := (mkF m 28 #[.val (.int p0), .val (.int p1), .val (.long q2), .second, .val (.int p3), .val (.int p4), .val (.int (0 : Int32)), .val (.int x687), .val (.int x689), .unset, .unset, .unset] [(.int p3), (.long q2)])) rfl (by rw [hml]; rfl) (argsL := [(.long q2), (.int p3)]) (rest := []) (lenOf pd_2 rfl) rfl (by show 2 * 0 + _ ≤ _; exact Nat.le_of_eq rfl) (hb hby at_28) (fun _ _ => ⟨rfl, e0, (by decide : 0 + 1 ≤ _), (by decide : 0 + 12 ≤ _)⟩)
    dsimp only [Pt.U, Pt.locs, Pt.cells, Pt.slots] at X691 l691 y691 z691 st691 hQ691
    replace l691 := l691.symm; replace y691 := y691.symm; replace z691 := z691.symm; subst l691 y691 z691
    obtain ⟨r691, kb691, v0691, v1691, v2691, v3691, v4691, v5691, v6691, v7691, v8691, v9691, v10691, v11691, rfl, N691q, K691, sz691, f692⟩ := hQ691
    have N691 := Fr.app N0 N691q
    have gn693 : n0 ≤ r691 := Nat.le_trans Z0 sz691
    have Z694 : n0 ≤ T691.heap.size := Nat.le_trans Z0 K691.1
    obtain ⟨cl695, Ar695, q695, S695, N695, H695, G695⟩ := id f692
    have hin695 : ¬ ((0 : Int32) < 0 ∨ cl695.slots.size ≤ ((0 : Int32)).toNatClampNeg) := inb_of S695 ⟨by decide, by decide⟩
    obtain ⟨T695, h695, X695, e695, W695, st695⟩ := stB X691 hx hZ rfl Ar695 (j := (0 : Int32)) hin695 (g := (mkF m 38 #[.val (.int p0), .val (.int p1), .val (.long q2), .second, .val (.int p3), .val (.int p4), .val (.int (0 : Int32)), .val (.int x687), .val (.int x689), .val (.ref r691), .unset, .unset] [(.int (0 : Int32)), (.int (0 : Int32)), (.ref r691)])) rfl rfl (hb hby at_38)
    have Z696 : n0 ≤ h695.size := Nat.le_trans Z694 (Keep.of_wr W695).1
    have N697 := Fr.snoc X695 N691 gn693
    have f698 : Arv Z h695 r691 kb691 .byte (12 : Int32) [(.int (0 : Int32)), (.int v1691), (.int v2691), (.int v3691), (.int v4691), (.int v5691), (.int v6691), (.int v7691), (.int v8691), (.int v9691), (.int v10691), (.int v11691)] (.int (0 : Int32)) := Arv.set Ar695 q695 S695 N695 H695 G695 (fits_nar_byte _) W695 0 rfl (Nat.le_of_ble_eq_true rfl)
    obtain ⟨T699, h699, X699, e699, E699, A699, D699, -, st699⟩ := newO X695 hx hZ hown (hw _ (List.mem_of_getElem? (i := 6) rfl)) (hw _ (List.mem_of_getElem? (i := 7) rfl)) (hw _ (List.mem_of_getElem? (i := 8) rfl)) e695 (g := (mkF m 39 #[.val (.int p0), .val (.int p1), .val (.long q2), .second, .val (.int p3), .val (.int p4), .val (.int (0 : Int32)), .val (.int x687), .val (.int x689), .val (.ref r691), .unset, .unset] [])) rfl (hb hby at_39) (by decide) (by decide)
    obtain ⟨b699, g699⟩ : ∃ z_, z_ = h695.size := ⟨_, rfl⟩
    rw [← g699] at A699 D699 st699
    have ne700 : r691 ≠ b699 := Nat.ne_of_lt (Nat.lt_of_lt_of_le f698.lt (Nat.le_of_eq g699.symm))
    have gn701 : n0 ≤ b699 := Nat.le_trans Z696 (Nat.le_of_eq g699.symm)
    have f702 := f698.ext E699
    have Z703 : n0 ≤ h699.size := Nat.le_trans Z696 E699.1
    have f704 : Fld Z h699 b699 "com/example/sheafworks/sheafworks/storage/RangeCoder$Decoder" "range" "I" (.int (0 : Int32)) := D699 (Or.inl (hw _ (List.mem_of_getElem? (i := 16) rfl))) (ty := .int) (by decide)
    have f705 : Fld Z h699 b699 "com/example/sheafworks/sheafworks/storage/RangeCoder$Decoder" "in" "[B" .null := D699 (Or.inr (hw _ (List.mem_of_getElem? (i := 18) rfl))) (ty := (.array .byte)) (by decide)
    have f706 : Fld Z h699 b699 "com/example/sheafworks/sheafworks/storage/RangeCoder$Decoder" "position" "I" (.int (0 : Int32)) := D699 (Or.inl (hw _ (List.mem_of_getElem? (i := 20) rfl))) (ty := .int) (by decide)
    have f707 : Fld Z h699 b699 "com/example/sheafworks/sheafworks/storage/RangeCoder$Decoder" "end" "I" (.int (0 : Int32)) := D699 (Or.inr (hw _ (List.mem_of_getElem? (i := 22) rfl))) (ty := .int) (by decide)
    have f708 : Fld Z h699 b699 "com/example/sheafworks/sheafworks/storage/RangeCoder$Decoder" "code" "I" (.int (0 : Int32)) := D699 (Or.inl (hw _ (List.mem_of_getElem? (i := 28) rfl))) (ty := .int) (by decide)
    obtain ⟨_, _, ⟨T709, L709, k709, n709⟩, -, X709, ⟨Lc709, hQ709, l709, y709, z709⟩, st709⟩ := X699.specialBack hx (y := (⟨"com/example/sheafworks/sheafworks/storage/RangeCoder$Decoder", "<init>", "([BII)V"⟩ : MethodName)) rfl hown (mvT hZ (hw _ (List.mem_of_getElem? (i := 9) rfl))) (mvT hZ (hw _ (List.mem_of_getElem? (i := 10) rfl))) (mvT hZ (hw _ (List.mem_of_getElem? (i := 11) rfl))) (by decide) (backOf (W := 1) (rm2 l Z aw hw [] b699 r691 (0 : Int32) x689 kb691 ([(.int (0 : Int32)), (.int v1691), (.int v2691), (.int v3691), (.int v4691), (.int v5691), (.int v6691), (.int v7691), (.int v8691), (.int v9691), (.int v10691), (.int v11691)]) v1691 v2691 v3691 v4691 h699 n0 Z703 A699 f704 f705 f706 f707 f708 gn701 f702 (Ne.symm ne700) (by rw [hx689]; rcases h7 with q | q | q | q <;> rw [q] <;> decide) ⟨by decide, by decide⟩ rfl (by rw [hx689]; rcases h7 with q | q | q | q <;> rw [q] <;> decide) ⟨by decide, by decide⟩ rfl (by rw [hx689]; rcases h7 with q | q | q | q <;> rw [q] <;> decide) ⟨by decide, by decide⟩ rfl (by rw [hx689]; rcases h7 with q | q | q | q <;> rw [q] <;> decide) ⟨by decide, by decide⟩ rfl (by rw [hx689]; rcases h7 with q | q | q | q <;> rw [q] <;> decide) ⟨by decide, by decide⟩ rfl) hZ (hw _ (List.mem_of_getElem? (i := 11) rfl)) (hw _ (List.mem_of_getElem? (i := 8) rfl)) (by decide) (by decide)) (g := (mkF m 49 #[.val (.int p0), .val (.int p1), .val (.long q2), .second, .val (.int p3), .val (.int p4), .val (.int (0 : Int32)), .val (.int x687), .val (.int x689), .val (.ref r691), .unset, .unset] [(.int x689), (.int (0 : Int32)), (.ref r691), (.ref b699), (.ref b699)])) rfl (by rw [hml]; rfl) (Steps.refl _) (a := b699) (argsL := [(.ref r691), (.int (0 : Int32)), (.int x689)]) (rest := [(.ref b699)]) (lenOf pd_3 rfl) rfl (by show 2 * 0 + _ ≤ _; exact Nat.le_of_eq rfl) (hb hby at_49) (fun _ _ => ⟨rfl, e699, (by decide : 2 + 0 ≤ _), (by decide : 17 + 0 ≤ _)⟩)
    dsimp only [Pt.U, Pt.locs, Pt.cells, Pt.slots] at X709 l709 y709 z709 st709 hQ709
    replace l709 := l709.symm; replace y709 := y709.symm; replace z709 := z709.symm; subst l709 y709 z709
    obtain ⟨cv709, rfl, N709q, K709, f710, f711, f712, f713, f714, f715⟩ := hQ709
    have N709 := Fr.app N697 N709q
    have f716 := f702.keep K709 (ninS ne700 nin0)
    have Z717 : n0 ≤ T709.heap.size := Nat.le_trans Z703 K709.1
    obtain ⟨cq718, kq718, q718a, q718b, q718c⟩ := isOf hZ rfl f710
    obtain ⟨_, _, ⟨T718, L718, k718, n718⟩, -, X718, ⟨Lc718, hQ718, l718, y718, z718⟩, st718⟩ := X709.virtualBack hx (y := (⟨"com/example/sheafworks/sheafworks/storage/RangeCoder$Decoder", "atEnd", "()Z"⟩ : MethodName)) (z := (⟨"com/example/sheafworks/sheafworks/storage/RangeCoder$Decoder", "atEnd", "()Z"⟩ : MethodName)) hown (mvT hZ (hw _ (List.mem_of_getElem? (i := 29) rfl))) (mvT hZ (hw _ (List.mem_of_getElem? (i := 30) rfl))) (notFace_of_selects (args := #[]) (mvT hZ (hw _ (List.mem_of_getElem? (i := 32) rfl)))) (mvT hZ (hw _ (List.mem_of_getElem? (i := 32) rfl))) (mvT hZ (hw _ (List.mem_of_getElem? (i := 31) rfl))) (by decide) (backOf (W := 0) (rm5 l Z aw hw [] b699 (((((((0 : Int32) + (1 : Int32)) + (1 : Int32)) + (1 : Int32)) + (1 : Int32)) + (1 : Int32))) x689 T709.heap n0 Z717 f712 f713) hZ (hw _ (List.mem_of_getElem? (i := 33) rfl)) (hw _ (List.mem_of_getElem? (i := 8) rfl)) (by decide) (by decide)) q718a q718c (g := (mkF m 56 #[.val (.int p0), .val (.int p1), .val (.long q2), .second, .val (.int p3), .val (.int p4), .val (.int (0 : Int32)), .val (.int x687), .val (.int x689), .val (.ref r691), .val (.ref b699), .unset] [(.ref b699)])) rfl (by rw [hml]; rfl) (Steps.refl _) (argsL := []) (rest := []) (lenOf pd_4 rfl) rfl (by show 2 * 0 + _ ≤ _; exact Nat.le_of_eq rfl) (hb hby at_56) (fun _ _ => ⟨rfl, rfl, (by decide : 2 + 0 ≤ _), (by decide : 17 + 0 ≤ _)⟩)
    dsimp only [Pt.U, Pt.locs, Pt.cells, Pt.slots] at X718 l718 y718 z718 st718 hQ718
    replace l718 := l718.symm; replace y718 := y718.symm; replace z718 := z718.symm; subst l718 y718 z718
    obtain ⟨rfl, N718q, e718⟩ := hQ718
    have N718 := Fr.app N709 N718q
    obtain ⟨x720, hx720⟩ : ∃ z_ : Int32, z_ = (if x687 = (0 : Int32) then (1 : Int32) else (0 : Int32)) := ⟨_, rfl⟩
    have pre721 : ∀ t, Steps p.tables e below (T718.setTop (mkF m 69 #[.val (.int p0), .val (.int p1), .val (.long q2), .second, .val (.int p3), .val (.int p4), .val (.int (0 : Int32)), .val (.int x687), .val (.int x689), .val (.ref r691), .val (.ref b699), .unset] [(.int x720), (.int (if ((((((0 : Int32) + (1 : Int32)) + (1 : Int32)) + (1 : Int32)) + (1 : Int32)) + (1 : Int32)) = x689 then (1 : Int32) else (0 : Int32)))])) t → Steps p.tables e below (s₁.setTop (entryFrame m #[(.int p0), (.int p1), (.long q2), (.int p3), (.int p4)] maxLocals)) t := fun t k => by
      refine pre690 t ?_
      show Steps p.tables e below (s₁.setTop (mkF m 25 #[.val (.int p0), .val (.int p1), .val (.long q2), .second, .val (.int p3), .val (.int p4), .val (.int (0 : Int32)), .val (.int x687), .val (.int x689), .unset, .unset, .unset] [])) _
      refine XS.lloadN X0.here hx rfl (hb hby at_25) rfl ?_
      show Steps p.tables e below (s₁.setTop (mkF m 26 #[.val (.int p0), .val (.int p1), .val (.long q2), .second, .val (.int p3), .val (.int p4), .val (.int (0 : Int32)), .val (.int x687), .val (.int x689), .unset, .unset, .unset] [(.long q2)])) _
      refine XS.iload X0.here hx rfl (hb hby at_26) rfl ?_
      show Steps p.tables e below (s₁.setTop (mkF m 28 #[.val (.int p0), .val (.int p1), .val (.long q2), .second, .val (.int p3), .val (.int p4), .val (.int (0 : Int32)), .val (.int x687), .val (.int x689), .unset, .unset, .unset] [(.int p3), (.long q2)])) _
      refine st691 _ ?_
      show Steps p.tables e below (T691.setTop (mkF m 31 #[.val (.int p0), .val (.int p1), .val (.long q2), .second, .val (.int p3), .val (.int p4), .val (.int (0 : Int32)), .val (.int x687), .val (.int x689), .unset, .unset, .unset] [(.ref r691)])) _
      refine XS.astore X691.here hx rfl (hb hby at_31) rfl rfl (l' := #[.val (.int p0), .val (.int p1), .val (.long q2), .second, .val (.int p3), .val (.int p4), .val (.int (0 : Int32)), .val (.int x687), .val (.int x689), .val (.ref r691), .unset, .unset]) rfl ?_
      show Steps p.tables e below (T691.setTop (mkF m 33 #[.val (.int p0), .val (.int p1), .val (.long q2), .second, .val (.int p3), .val (.int p4), .val (.int (0 : Int32)), .val (.int x687), .val (.int x689), .val (.ref r691), .unset, .unset] [])) _
      refine XS.aload X691.here hx rfl (hb hby at_33) rfl rfl ?_
      show Steps p.tables e below (T691.setTop (mkF m 35 #[.val (.int p0), .val (.int p1), .val (.long q2), .second, .val (.int p3), .val (.int p4), .val (.int (0 : Int32)), .val (.int x687), .val (.int x689), .val (.ref r691), .unset, .unset] [(.ref r691)])) _
      refine XS.iload X691.here hx rfl (hb hby at_35) rfl ?_
      show Steps p.tables e below (T691.setTop (mkF m 37 #[.val (.int p0), .val (.int p1), .val (.long q2), .second, .val (.int p3), .val (.int p4), .val (.int (0 : Int32)), .val (.int x687), .val (.int x689), .val (.ref r691), .unset, .unset] [(.int (0 : Int32)), (.ref r691)])) _
      refine XS.iconst X691.here hx rfl (hb hby at_37) ?_
      show Steps p.tables e below (T691.setTop (mkF m 38 #[.val (.int p0), .val (.int p1), .val (.long q2), .second, .val (.int p3), .val (.int p4), .val (.int (0 : Int32)), .val (.int x687), .val (.int x689), .val (.ref r691), .unset, .unset] [(.int (0 : Int32)), (.int (0 : Int32)), (.ref r691)])) _
      refine st695 _ ?_
      show Steps p.tables e below (T695.setTop (mkF m 39 #[.val (.int p0), .val (.int p1), .val (.long q2), .second, .val (.int p3), .val (.int p4), .val (.int (0 : Int32)), .val (.int x687), .val (.int x689), .val (.ref r691), .unset, .unset] [])) _
      refine st699 _ ?_
      show Steps p.tables e below (T699.setTop (mkF m 42 #[.val (.int p0), .val (.int p1), .val (.long q2), .second, .val (.int p3), .val (.int p4), .val (.int (0 : Int32)), .val (.int x687), .val (.int x689), .val (.ref r691), .unset, .unset] [(.ref b699)])) _
      refine XS.dup X699.here hx rfl (hb hby at_42) rfl rfl ?_
      show Steps p.tables e below (T699.setTop (mkF m 43 #[.val (.int p0), .val (.int p1), .val (.long q2), .second, .val (.int p3), .val (.int p4), .val (.int (0 : Int32)), .val (.int x687), .val (.int x689), .val (.ref r691), .unset, .unset] [(.ref b699), (.ref b699)])) _
      refine XS.aload X699.here hx rfl (hb hby at_43) rfl rfl ?_
      show Steps p.tables e below (T699.setTop (mkF m 45 #[.val (.int p0), .val (.int p1), .val (.long q2), .second, .val (.int p3), .val (.int p4), .val (.int (0 : Int32)), .val (.int x687), .val (.int x689), .val (.ref r691), .unset, .unset] [(.ref r691), (.ref b699), (.ref b699)])) _
      refine XS.iload X699.here hx rfl (hb hby at_45) rfl ?_
      show Steps p.tables e below (T699.setTop (mkF m 47 #[.val (.int p0), .val (.int p1), .val (.long q2), .second, .val (.int p3), .val (.int p4), .val (.int (0 : Int32)), .val (.int x687), .val (.int x689), .val (.ref r691), .unset, .unset] [(.int (0 : Int32)), (.ref r691), (.ref b699), (.ref b699)])) _
      refine XS.iload X699.here hx rfl (hb hby at_47) rfl ?_
      show Steps p.tables e below (T699.setTop (mkF m 49 #[.val (.int p0), .val (.int p1), .val (.long q2), .second, .val (.int p3), .val (.int p4), .val (.int (0 : Int32)), .val (.int x687), .val (.int x689), .val (.ref r691), .unset, .unset] [(.int x689), (.int (0 : Int32)), (.ref r691), (.ref b699), (.ref b699)])) _
      refine st709.trans ?_
      show Steps p.tables e below (T709.setTop (mkF m 52 #[.val (.int p0), .val (.int p1), .val (.long q2), .second, .val (.int p3), .val (.int p4), .val (.int (0 : Int32)), .val (.int x687), .val (.int x689), .val (.ref r691), .unset, .unset] [(.ref b699)])) _
      refine XS.astore X709.here hx rfl (hb hby at_52) rfl rfl (l' := #[.val (.int p0), .val (.int p1), .val (.long q2), .second, .val (.int p3), .val (.int p4), .val (.int (0 : Int32)), .val (.int x687), .val (.int x689), .val (.ref r691), .val (.ref b699), .unset]) rfl ?_
      show Steps p.tables e below (T709.setTop (mkF m 54 #[.val (.int p0), .val (.int p1), .val (.long q2), .second, .val (.int p3), .val (.int p4), .val (.int (0 : Int32)), .val (.int x687), .val (.int x689), .val (.ref r691), .val (.ref b699), .unset] [])) _
      refine XS.aload X709.here hx rfl (hb hby at_54) rfl rfl ?_
      show Steps p.tables e below (T709.setTop (mkF m 56 #[.val (.int p0), .val (.int p1), .val (.long q2), .second, .val (.int p3), .val (.int p4), .val (.int (0 : Int32)), .val (.int x687), .val (.int x689), .val (.ref r691), .val (.ref b699), .unset] [(.ref b699)])) _
      refine st718.trans ?_
      show Steps p.tables e below (T718.setTop (mkF m 59 #[.val (.int p0), .val (.int p1), .val (.long q2), .second, .val (.int p3), .val (.int p4), .val (.int (0 : Int32)), .val (.int x687), .val (.int x689), .val (.ref r691), .val (.ref b699), .unset] [(.int (if ((((((0 : Int32) + (1 : Int32)) + (1 : Int32)) + (1 : Int32)) + (1 : Int32)) + (1 : Int32)) = x689 then (1 : Int32) else (0 : Int32)))])) _
      refine XS.iload X718.here hx rfl (hb hby at_59) rfl ?_
      by_cases c719 : x687 = (0 : Int32)
      ·
        show Steps p.tables e below (T718.setTop (mkF m 61 #[.val (.int p0), .val (.int p1), .val (.long q2), .second, .val (.int p3), .val (.int p4), .val (.int (0 : Int32)), .val (.int x687), .val (.int x689), .val (.ref r691), .val (.ref b699), .unset] [(.int x687), (.int (if ((((((0 : Int32) + (1 : Int32)) + (1 : Int32)) + (1 : Int32)) + (1 : Int32)) + (1 : Int32)) = x689 then (1 : Int32) else (0 : Int32)))])) _
        refine XS.ifNo X718.here hx rfl (hb hby at_61) rfl ((if0 _ _).trans (teq c719).2) ?_
        show Steps p.tables e below (T718.setTop (mkF m 64 #[.val (.int p0), .val (.int p1), .val (.long q2), .second, .val (.int p3), .val (.int p4), .val (.int (0 : Int32)), .val (.int x687), .val (.int x689), .val (.ref r691), .val (.ref b699), .unset] [(.int (if ((((((0 : Int32) + (1 : Int32)) + (1 : Int32)) + (1 : Int32)) + (1 : Int32)) + (1 : Int32)) = x689 then (1 : Int32) else (0 : Int32)))])) _
        refine XS.iconst X718.here hx rfl (hb hby at_64) ?_
        show Steps p.tables e below (T718.setTop (mkF m 65 #[.val (.int p0), .val (.int p1), .val (.long q2), .second, .val (.int p3), .val (.int p4), .val (.int (0 : Int32)), .val (.int x687), .val (.int x689), .val (.ref r691), .val (.ref b699), .unset] [(.int (1 : Int32)), (.int (if ((((((0 : Int32) + (1 : Int32)) + (1 : Int32)) + (1 : Int32)) + (1 : Int32)) + (1 : Int32)) = x689 then (1 : Int32) else (0 : Int32)))])) _
        refine XS.goto X718.here hx rfl (pc0 := 65) (pc' := 69) rfl (hb hby at_65) (by decide) (by decide) ?_
        rw [show x720 = (1 : Int32) from hx720.trans (by simp only [if_pos c719])] at k
        exact k
      ·
        show Steps p.tables e below (T718.setTop (mkF m 61 #[.val (.int p0), .val (.int p1), .val (.long q2), .second, .val (.int p3), .val (.int p4), .val (.int (0 : Int32)), .val (.int x687), .val (.int x689), .val (.ref r691), .val (.ref b699), .unset] [(.int x687), (.int (if ((((((0 : Int32) + (1 : Int32)) + (1 : Int32)) + (1 : Int32)) + (1 : Int32)) + (1 : Int32)) = x689 then (1 : Int32) else (0 : Int32)))])) _
        refine XS.ifYes X718.here hx rfl (pc0 := 61) (pc' := 68) rfl (hb hby at_61) rfl ((if0 _ _).trans (feq c719).2) (by decide) (by decide) ?_
        show Steps p.tables e below (T718.setTop (mkF m 68 #[.val (.int p0), .val (.int p1), .val (.long q2), .second, .val (.int p3), .val (.int p4), .val (.int (0 : Int32)), .val (.int x687), .val (.int x689), .val (.ref r691), .val (.ref b699), .unset] [(.int (if ((((((0 : Int32) + (1 : Int32)) + (1 : Int32)) + (1 : Int32)) + (1 : Int32)) + (1 : Int32)) = x689 then (1 : Int32) else (0 : Int32)))])) _
        refine XS.iconst X718.here hx rfl (hb hby at_68) ?_
        rw [show x720 = (0 : Int32) from hx720.trans (by simp only [if_neg c719])] at k
        exact k
    have c722 : (if ((((((0 : Int32) + (1 : Int32)) + (1 : Int32)) + (1 : Int32)) + (1 : Int32)) + (1 : Int32)) = x689 then (1 : Int32) else (0 : Int32)) = x720 := by
      rw [hx720, hx689]; rcases h7 with q | q | q | q <;> rw [q] <;> decide
    have pre723 : ∀ t, Steps p.tables e below (T718.setTop (mkF m 83 #[.val (.int p0), .val (.int p1), .val (.long q2), .second, .val (.int p3), .val (.int p4), .val (.int (0 : Int32)), .val (.int x687), .val (.int x689), .val (.ref r691), .val (.ref b699), .val (.int (1 : Int32))] [(.int (p4 &&& (1 : Int32)))])) t → Steps p.tables e below (s₁.setTop (entryFrame m #[(.int p0), (.int p1), (.long q2), (.int p3), (.int p4)] maxLocals)) t := fun t k => by
      refine pre721 t ?_
      show Steps p.tables e below (T718.setTop (mkF m 69 #[.val (.int p0), .val (.int p1), .val (.long q2), .second, .val (.int p3), .val (.int p4), .val (.int (0 : Int32)), .val (.int x687), .val (.int x689), .val (.ref r691), .val (.ref b699), .unset] [(.int x720), (.int (if ((((((0 : Int32) + (1 : Int32)) + (1 : Int32)) + (1 : Int32)) + (1 : Int32)) + (1 : Int32)) = x689 then (1 : Int32) else (0 : Int32)))])) _
      refine XS.icmpNo X718.here hx rfl (hb hby at_69) rfl (teq c722).2 ?_
      show Steps p.tables e below (T718.setTop (mkF m 72 #[.val (.int p0), .val (.int p1), .val (.long q2), .second, .val (.int p3), .val (.int p4), .val (.int (0 : Int32)), .val (.int x687), .val (.int x689), .val (.ref r691), .val (.ref b699), .unset] [])) _
      refine XS.iconst X718.here hx rfl (hb hby at_72) ?_
      show Steps p.tables e below (T718.setTop (mkF m 73 #[.val (.int p0), .val (.int p1), .val (.long q2), .second, .val (.int p3), .val (.int p4), .val (.int (0 : Int32)), .val (.int x687), .val (.int x689), .val (.ref r691), .val (.ref b699), .unset] [(.int (1 : Int32))])) _
      refine XS.goto X718.here hx rfl (pc0 := 73) (pc' := 77) rfl (hb hby at_73) (by decide) (by decide) ?_
      show Steps p.tables e below (T718.setTop (mkF m 77 #[.val (.int p0), .val (.int p1), .val (.long q2), .second, .val (.int p3), .val (.int p4), .val (.int (0 : Int32)), .val (.int x687), .val (.int x689), .val (.ref r691), .val (.ref b699), .unset] [(.int (1 : Int32))])) _
      refine XS.istore X718.here hx rfl (hb hby at_77) rfl (l' := #[.val (.int p0), .val (.int p1), .val (.long q2), .second, .val (.int p3), .val (.int p4), .val (.int (0 : Int32)), .val (.int x687), .val (.int x689), .val (.ref r691), .val (.ref b699), .val (.int (1 : Int32))]) rfl ?_
      show Steps p.tables e below (T718.setTop (mkF m 79 #[.val (.int p0), .val (.int p1), .val (.long q2), .second, .val (.int p3), .val (.int p4), .val (.int (0 : Int32)), .val (.int x687), .val (.int x689), .val (.ref r691), .val (.ref b699), .val (.int (1 : Int32))] [])) _
      refine XS.iload X718.here hx rfl (hb hby at_79) rfl ?_
      show Steps p.tables e below (T718.setTop (mkF m 81 #[.val (.int p0), .val (.int p1), .val (.long q2), .second, .val (.int p3), .val (.int p4), .val (.int (0 : Int32)), .val (.int x687), .val (.int x689), .val (.ref r691), .val (.ref b699), .val (.int (1 : Int32))] [(.int p4)])) _
      refine XS.iconst X718.here hx rfl (hb hby at_81) ?_
      show Steps p.tables e below (T718.setTop (mkF m 82 #[.val (.int p0), .val (.int p1), .val (.long q2), .second, .val (.int p3), .val (.int p4), .val (.int (0 : Int32)), .val (.int x687), .val (.int x689), .val (.ref r691), .val (.ref b699), .val (.int (1 : Int32))] [(.int (1 : Int32)), (.int p4)])) _
      refine XS.iand X718.here hx rfl (hb hby at_82) rfl ?_
      exact k
    by_cases c724 : (p4 &&& (1 : Int32)) = (0 : Int32)
    ·
      obtain ⟨fs, hr, hrun, hended, hW, hsame⟩ := X718.leave (v := some (.int (1 : Int32))) (fun h => by rw [Bd.returns] at h; cases h)
      refine ⟨_, _, pre723 _ ?_, hrun, hended, _, _, rfl, ?_, ⟨_, rfl⟩, hW, hsame.mono (by decide) (by decide)⟩
      ·
        show Steps p.tables e below (T718.setTop (mkF m 83 #[.val (.int p0), .val (.int p1), .val (.long q2), .second, .val (.int p3), .val (.int p4), .val (.int (0 : Int32)), .val (.int x687), .val (.int x689), .val (.ref r691), .val (.ref b699), .val (.int (1 : Int32))] [(.int (p4 &&& (1 : Int32)))])) _
        refine XS.ifYes X718.here hx rfl (pc0 := 83) (pc' := 131) rfl (hb hby at_83) rfl ((if0 _ _).trans (teq c724).1) (by decide) (by decide) ?_
        show Steps p.tables e below (T718.setTop (mkF m 131 #[.val (.int p0), .val (.int p1), .val (.long q2), .second, .val (.int p3), .val (.int p4), .val (.int (0 : Int32)), .val (.int x687), .val (.int x689), .val (.ref r691), .val (.ref b699), .val (.int (1 : Int32))] [])) _
        refine XS.iload X718.here hx rfl (hb hby at_131) rfl ?_
        show Steps p.tables e below (T718.setTop (mkF m 133 #[.val (.int p0), .val (.int p1), .val (.long q2), .second, .val (.int p3), .val (.int p4), .val (.int (0 : Int32)), .val (.int x687), .val (.int x689), .val (.ref r691), .val (.ref b699), .val (.int (1 : Int32))] [(.int (1 : Int32))])) _
        exact retZ X718 hx Bd.returns (by decide) (hb hby at_133) hr
      ·
        show Q_rm0 Z p0 p1 q2 p3 p4 h0 n0 _ T718.heap _
        rw [e718]
        exact ⟨rfl, N718⟩
    ·
      have pre725 : ∀ t, Steps p.tables e below (T718.setTop (mkF m 89 #[.val (.int p0), .val (.int p1), .val (.long q2), .second, .val (.int p3), .val (.int p4), .val (.int (0 : Int32)), .val (.int x687), .val (.int x689), .val (.ref r691), .val (.ref b699), .val (.int (1 : Int32))] [(.int (1 : Int32)), (.int x687)])) t → Steps p.tables e below (s₁.setTop (entryFrame m #[(.int p0), (.int p1), (.long q2), (.int p3), (.int p4)] maxLocals)) t := fun t k => by
        refine pre723 t ?_
        show Steps p.tables e below (T718.setTop (mkF m 83 #[.val (.int p0), .val (.int p1), .val (.long q2), .second, .val (.int p3), .val (.int p4), .val (.int (0 : Int32)), .val (.int x687), .val (.int x689), .val (.ref r691), .val (.ref b699), .val (.int (1 : Int32))] [(.int (p4 &&& (1 : Int32)))])) _
        refine XS.ifNo X718.here hx rfl (hb hby at_83) rfl ((if0 _ _).trans (feq c724).1) ?_
        show Steps p.tables e below (T718.setTop (mkF m 86 #[.val (.int p0), .val (.int p1), .val (.long q2), .second, .val (.int p3), .val (.int p4), .val (.int (0 : Int32)), .val (.int x687), .val (.int x689), .val (.ref r691), .val (.ref b699), .val (.int (1 : Int32))] [])) _
        refine XS.iload X718.here hx rfl (hb hby at_86) rfl ?_
        show Steps p.tables e below (T718.setTop (mkF m 88 #[.val (.int p0), .val (.int p1), .val (.long q2), .second, .val (.int p3), .val (.int p4), .val (.int (0 : Int32)), .val (.int x687), .val (.int x689), .val (.ref r691), .val (.ref b699), .val (.int (1 : Int32))] [(.int x687)])) _
        refine XS.iconst X718.here hx rfl (hb hby at_88) ?_
        exact k
      by_cases c726 : x687 < (1 : Int32)
      ·
        obtain ⟨fs, hr, hrun, hended, hW, hsame⟩ := X718.leave (v := some (.int (1 : Int32))) (fun h => by rw [Bd.returns] at h; cases h)
        refine ⟨_, _, pre725 _ ?_, hrun, hended, _, _, rfl, ?_, ⟨_, rfl⟩, hW, hsame.mono (by decide) (by decide)⟩
        ·
          show Steps p.tables e below (T718.setTop (mkF m 89 #[.val (.int p0), .val (.int p1), .val (.long q2), .second, .val (.int p3), .val (.int p4), .val (.int (0 : Int32)), .val (.int x687), .val (.int x689), .val (.ref r691), .val (.ref b699), .val (.int (1 : Int32))] [(.int (1 : Int32)), (.int x687)])) _
          refine XS.icmpYes X718.here hx rfl (pc0 := 89) (pc' := 131) rfl (hb hby at_89) rfl (tlt c726).1 (by decide) (by decide) ?_
          show Steps p.tables e below (T718.setTop (mkF m 131 #[.val (.int p0), .val (.int p1), .val (.long q2), .second, .val (.int p3), .val (.int p4), .val (.int (0 : Int32)), .val (.int x687), .val (.int x689), .val (.ref r691), .val (.ref b699), .val (.int (1 : Int32))] [])) _
          refine XS.iload X718.here hx rfl (hb hby at_131) rfl ?_
          show Steps p.tables e below (T718.setTop (mkF m 133 #[.val (.int p0), .val (.int p1), .val (.long q2), .second, .val (.int p3), .val (.int p4), .val (.int (0 : Int32)), .val (.int x687), .val (.int x689), .val (.ref r691), .val (.ref b699), .val (.int (1 : Int32))] [(.int (1 : Int32))])) _
          exact retZ X718 hx Bd.returns (by decide) (hb hby at_133) hr
        ·
          show Q_rm0 Z p0 p1 q2 p3 p4 h0 n0 _ T718.heap _
          rw [e718]
          exact ⟨rfl, N718⟩
      ·
        obtain ⟨cq727, kq727, q727a, q727b, q727c⟩ := isOf hZ e718 f710
        obtain ⟨_, _, ⟨T727, L727, k727, n727⟩, -, X727, ⟨Lc727, hQ727, l727, y727, z727⟩, st727⟩ := X718.virtualBack hx (y := (⟨"com/example/sheafworks/sheafworks/storage/RangeCoder$Decoder", "direct", "(I)I"⟩ : MethodName)) (z := (⟨"com/example/sheafworks/sheafworks/storage/RangeCoder$Decoder", "direct", "(I)I"⟩ : MethodName)) hown (mvT hZ (hw _ (List.mem_of_getElem? (i := 34) rfl))) (mvT hZ (hw _ (List.mem_of_getElem? (i := 35) rfl))) (notFace_of_selects (args := #[]) (mvT hZ (hw _ (List.mem_of_getElem? (i := 37) rfl)))) (mvT hZ (hw _ (List.mem_of_getElem? (i := 37) rfl))) (mvT hZ (hw _ (List.mem_of_getElem? (i := 36) rfl))) (by decide) (backOf (W := 0) (rm6 l Z aw hw [] b699 r691 kb691 ([(.int (0 : Int32)), (.int v1691), (.int v2691), (.int v3691), (.int v4691), (.int v5691), (.int v6691), (.int v7691), (.int v8691), (.int v9691), (.int v10691), (.int v11691)]) (((((((0 : Int32) + (1 : Int32)) + (1 : Int32)) + (1 : Int32)) + (1 : Int32)) + (1 : Int32))) x689 cv709 v5691 T709.heap n0 Z717 f710 f711 f712 f713 f714 f715 gn701 f716 (Ne.symm ne700) (by rw [hx689]; intro e; exact c726 (by rcases h7 with q | q | q | q <;> rw [q] at e ⊢ <;> revert e <;> decide)) ⟨by decide, by decide⟩ rfl) hZ (hw _ (List.mem_of_getElem? (i := 38) rfl)) (hw _ (List.mem_of_getElem? (i := 8) rfl)) (by decide) (by decide)) q727a q727c (g := (mkF m 96 #[.val (.int p0), .val (.int p1), .val (.long q2), .second, .val (.int p3), .val (.int p4), .val (.int (0 : Int32)), .val (.int x687), .val (.int x689), .val (.ref r691), .val (.ref b699), .val (.int (1 : Int32))] [(.int (8 : Int32)), (.ref b699)])) rfl (by rw [hml]; rfl) (Steps.refl _) (argsL := [(.int (8 : Int32))]) (rest := []) (lenOf pd_5 rfl) rfl (by show 2 * 0 + _ ≤ _; exact Nat.le_of_eq rfl) (hb hby at_96) (fun _ _ => ⟨rfl, e718, (by decide : 2 + 0 ≤ _), (by decide : 17 + 0 ≤ _)⟩)
        dsimp only [Pt.U, Pt.locs, Pt.cells, Pt.slots] at X727 l727 y727 z727 st727 hQ727
        replace l727 := l727.symm; replace y727 := y727.symm; replace z727 := z727.symm; subst l727 y727 z727
        obtain ⟨rv727, rfl, N727q, K727, f728, f729, f730⟩ := hQ727
        have N727 := Fr.app N718 N727q
        have f731 := f716.keep K727 (ninS ne700 nin0)
        have Z732 : n0 ≤ T727.heap.size := Nat.le_trans Z717 K727.1
        obtain ⟨cq733, kq733, q733a, q733b, q733c⟩ := isOf hZ rfl f728
        obtain ⟨_, _, ⟨T733, L733, k733, n733⟩, -, X733, ⟨Lc733, hQ733, l733, y733, z733⟩, st733⟩ := X727.virtualBack hx (y := (⟨"com/example/sheafworks/sheafworks/storage/RangeCoder$Decoder", "atEnd", "()Z"⟩ : MethodName)) (z := (⟨"com/example/sheafworks/sheafworks/storage/RangeCoder$Decoder", "atEnd", "()Z"⟩ : MethodName)) hown (mvT hZ (hw _ (List.mem_of_getElem? (i := 29) rfl))) (mvT hZ (hw _ (List.mem_of_getElem? (i := 30) rfl))) (notFace_of_selects (args := #[]) (mvT hZ (hw _ (List.mem_of_getElem? (i := 32) rfl)))) (mvT hZ (hw _ (List.mem_of_getElem? (i := 32) rfl))) (mvT hZ (hw _ (List.mem_of_getElem? (i := 31) rfl))) (by decide) (backOf (W := 0) (rm5 l Z aw hw [] b699 ((((((((0 : Int32) + (1 : Int32)) + (1 : Int32)) + (1 : Int32)) + (1 : Int32)) + (1 : Int32)) + (1 : Int32))) x689 T727.heap n0 Z732 f729 f730) hZ (hw _ (List.mem_of_getElem? (i := 33) rfl)) (hw _ (List.mem_of_getElem? (i := 8) rfl)) (by decide) (by decide)) q733a q733c (g := (mkF m 107 #[.val (.int p0), .val (.int p1), .val (.long q2), .second, .val (.int p3), .val (.int p4), .val (.int (0 : Int32)), .val (.int x687), .val (.int x689), .val (.ref r691), .val (.ref b699), .val (.int (1 : Int32))] [(.ref b699)])) rfl (by rw [hml]; rfl) (Steps.refl _) (argsL := []) (rest := []) (lenOf pd_4 rfl) rfl (by show 2 * 0 + _ ≤ _; exact Nat.le_of_eq rfl) (hb hby at_107) (fun _ _ => ⟨rfl, rfl, (by decide : 2 + 0 ≤ _), (by decide : 17 + 0 ≤ _)⟩)
        dsimp only [Pt.U, Pt.locs, Pt.cells, Pt.slots] at X733 l733 y733 z733 st733 hQ733
        replace l733 := l733.symm; replace y733 := y733.symm; replace z733 := z733.symm; subst l733 y733 z733
        obtain ⟨rfl, N733q, e733⟩ := hQ733
        have N733 := Fr.app N727 N733q
        obtain ⟨x735, hx735⟩ : ∃ z_ : Int32, z_ = (if x687 = (1 : Int32) then (1 : Int32) else (0 : Int32)) := ⟨_, rfl⟩
        have pre736 : ∀ t, Steps p.tables e below (T733.setTop (mkF m 121 #[.val (.int p0), .val (.int p1), .val (.long q2), .second, .val (.int p3), .val (.int p4), .val (.int (0 : Int32)), .val (.int x687), .val (.int x689), .val (.ref r691), .val (.ref b699), .val (.int (1 : Int32))] [(.int x735), (.int (if (((((((0 : Int32) + (1 : Int32)) + (1 : Int32)) + (1 : Int32)) + (1 : Int32)) + (1 : Int32)) + (1 : Int32)) = x689 then (1 : Int32) else (0 : Int32)))])) t → Steps p.tables e below (s₁.setTop (entryFrame m #[(.int p0), (.int p1), (.long q2), (.int p3), (.int p4)] maxLocals)) t := fun t k => by
          refine pre725 t ?_
          show Steps p.tables e below (T718.setTop (mkF m 89 #[.val (.int p0), .val (.int p1), .val (.long q2), .second, .val (.int p3), .val (.int p4), .val (.int (0 : Int32)), .val (.int x687), .val (.int x689), .val (.ref r691), .val (.ref b699), .val (.int (1 : Int32))] [(.int (1 : Int32)), (.int x687)])) _
          refine XS.icmpNo X718.here hx rfl (hb hby at_89) rfl (flt c726).1 ?_
          show Steps p.tables e below (T718.setTop (mkF m 92 #[.val (.int p0), .val (.int p1), .val (.long q2), .second, .val (.int p3), .val (.int p4), .val (.int (0 : Int32)), .val (.int x687), .val (.int x689), .val (.ref r691), .val (.ref b699), .val (.int (1 : Int32))] [])) _
          refine XS.aload X718.here hx rfl (hb hby at_92) rfl rfl ?_
          show Steps p.tables e below (T718.setTop (mkF m 94 #[.val (.int p0), .val (.int p1), .val (.long q2), .second, .val (.int p3), .val (.int p4), .val (.int (0 : Int32)), .val (.int x687), .val (.int x689), .val (.ref r691), .val (.ref b699), .val (.int (1 : Int32))] [(.ref b699)])) _
          refine XS.bipush X718.here hx rfl (hb hby at_94) ?_
          show Steps p.tables e below (T718.setTop (mkF m 96 #[.val (.int p0), .val (.int p1), .val (.long q2), .second, .val (.int p3), .val (.int p4), .val (.int (0 : Int32)), .val (.int x687), .val (.int x689), .val (.ref r691), .val (.ref b699), .val (.int (1 : Int32))] [(.int (8 : Int32)), (.ref b699)])) _
          refine st727.trans ?_
          show Steps p.tables e below (T727.setTop (mkF m 99 #[.val (.int p0), .val (.int p1), .val (.long q2), .second, .val (.int p3), .val (.int p4), .val (.int (0 : Int32)), .val (.int x687), .val (.int x689), .val (.ref r691), .val (.ref b699), .val (.int (1 : Int32))] [(.int rv727)])) _
          refine XS.pop X727.here hx rfl (hb hby at_99) rfl rfl ?_
          show Steps p.tables e below (T727.setTop (mkF m 100 #[.val (.int p0), .val (.int p1), .val (.long q2), .second, .val (.int p3), .val (.int p4), .val (.int (0 : Int32)), .val (.int x687), .val (.int x689), .val (.ref r691), .val (.ref b699), .val (.int (1 : Int32))] [])) _
          refine XS.iload X727.here hx rfl (hb hby at_100) rfl ?_
          show Steps p.tables e below (T727.setTop (mkF m 102 #[.val (.int p0), .val (.int p1), .val (.long q2), .second, .val (.int p3), .val (.int p4), .val (.int (0 : Int32)), .val (.int x687), .val (.int x689), .val (.ref r691), .val (.ref b699), .val (.int (1 : Int32))] [(.int (1 : Int32))])) _
          refine XS.ifNo X727.here hx rfl (hb hby at_102) rfl ((if0 _ _).trans (feq (by decide)).1) ?_
          show Steps p.tables e below (T727.setTop (mkF m 105 #[.val (.int p0), .val (.int p1), .val (.long q2), .second, .val (.int p3), .val (.int p4), .val (.int (0 : Int32)), .val (.int x687), .val (.int x689), .val (.ref r691), .val (.ref b699), .val (.int (1 : Int32))] [])) _
          refine XS.aload X727.here hx rfl (hb hby at_105) rfl rfl ?_
          show Steps p.tables e below (T727.setTop (mkF m 107 #[.val (.int p0), .val (.int p1), .val (.long q2), .second, .val (.int p3), .val (.int p4), .val (.int (0 : Int32)), .val (.int x687), .val (.int x689), .val (.ref r691), .val (.ref b699), .val (.int (1 : Int32))] [(.ref b699)])) _
          refine st733.trans ?_
          show Steps p.tables e below (T733.setTop (mkF m 110 #[.val (.int p0), .val (.int p1), .val (.long q2), .second, .val (.int p3), .val (.int p4), .val (.int (0 : Int32)), .val (.int x687), .val (.int x689), .val (.ref r691), .val (.ref b699), .val (.int (1 : Int32))] [(.int (if (((((((0 : Int32) + (1 : Int32)) + (1 : Int32)) + (1 : Int32)) + (1 : Int32)) + (1 : Int32)) + (1 : Int32)) = x689 then (1 : Int32) else (0 : Int32)))])) _
          refine XS.iload X733.here hx rfl (hb hby at_110) rfl ?_
          show Steps p.tables e below (T733.setTop (mkF m 112 #[.val (.int p0), .val (.int p1), .val (.long q2), .second, .val (.int p3), .val (.int p4), .val (.int (0 : Int32)), .val (.int x687), .val (.int x689), .val (.ref r691), .val (.ref b699), .val (.int (1 : Int32))] [(.int x687), (.int (if (((((((0 : Int32) + (1 : Int32)) + (1 : Int32)) + (1 : Int32)) + (1 : Int32)) + (1 : Int32)) + (1 : Int32)) = x689 then (1 : Int32) else (0 : Int32)))])) _
          refine XS.iconst X733.here hx rfl (hb hby at_112) ?_
          by_cases c734 : x687 = (1 : Int32)
          ·
            show Steps p.tables e below (T733.setTop (mkF m 113 #[.val (.int p0), .val (.int p1), .val (.long q2), .second, .val (.int p3), .val (.int p4), .val (.int (0 : Int32)), .val (.int x687), .val (.int x689), .val (.ref r691), .val (.ref b699), .val (.int (1 : Int32))] [(.int (1 : Int32)), (.int x687), (.int (if (((((((0 : Int32) + (1 : Int32)) + (1 : Int32)) + (1 : Int32)) + (1 : Int32)) + (1 : Int32)) + (1 : Int32)) = x689 then (1 : Int32) else (0 : Int32)))])) _
            refine XS.icmpNo X733.here hx rfl (hb hby at_113) rfl (teq c734).2 ?_
            show Steps p.tables e below (T733.setTop (mkF m 116 #[.val (.int p0), .val (.int p1), .val (.long q2), .second, .val (.int p3), .val (.int p4), .val (.int (0 : Int32)), .val (.int x687), .val (.int x689), .val (.ref r691), .val (.ref b699), .val (.int (1 : Int32))] [(.int (if (((((((0 : Int32) + (1 : Int32)) + (1 : Int32)) + (1 : Int32)) + (1 : Int32)) + (1 : Int32)) + (1 : Int32)) = x689 then (1 : Int32) else (0 : Int32)))])) _
            refine XS.iconst X733.here hx rfl (hb hby at_116) ?_
            show Steps p.tables e below (T733.setTop (mkF m 117 #[.val (.int p0), .val (.int p1), .val (.long q2), .second, .val (.int p3), .val (.int p4), .val (.int (0 : Int32)), .val (.int x687), .val (.int x689), .val (.ref r691), .val (.ref b699), .val (.int (1 : Int32))] [(.int (1 : Int32)), (.int (if (((((((0 : Int32) + (1 : Int32)) + (1 : Int32)) + (1 : Int32)) + (1 : Int32)) + (1 : Int32)) + (1 : Int32)) = x689 then (1 : Int32) else (0 : Int32)))])) _
            refine XS.goto X733.here hx rfl (pc0 := 117) (pc' := 121) rfl (hb hby at_117) (by decide) (by decide) ?_
            rw [show x735 = (1 : Int32) from hx735.trans (by simp only [if_pos c734])] at k
            exact k
          ·
            show Steps p.tables e below (T733.setTop (mkF m 113 #[.val (.int p0), .val (.int p1), .val (.long q2), .second, .val (.int p3), .val (.int p4), .val (.int (0 : Int32)), .val (.int x687), .val (.int x689), .val (.ref r691), .val (.ref b699), .val (.int (1 : Int32))] [(.int (1 : Int32)), (.int x687), (.int (if (((((((0 : Int32) + (1 : Int32)) + (1 : Int32)) + (1 : Int32)) + (1 : Int32)) + (1 : Int32)) + (1 : Int32)) = x689 then (1 : Int32) else (0 : Int32)))])) _
            refine XS.icmpYes X733.here hx rfl (pc0 := 113) (pc' := 120) rfl (hb hby at_113) rfl (feq c734).2 (by decide) (by decide) ?_
            show Steps p.tables e below (T733.setTop (mkF m 120 #[.val (.int p0), .val (.int p1), .val (.long q2), .second, .val (.int p3), .val (.int p4), .val (.int (0 : Int32)), .val (.int x687), .val (.int x689), .val (.ref r691), .val (.ref b699), .val (.int (1 : Int32))] [(.int (if (((((((0 : Int32) + (1 : Int32)) + (1 : Int32)) + (1 : Int32)) + (1 : Int32)) + (1 : Int32)) + (1 : Int32)) = x689 then (1 : Int32) else (0 : Int32)))])) _
            refine XS.iconst X733.here hx rfl (hb hby at_120) ?_
            rw [show x735 = (0 : Int32) from hx735.trans (by simp only [if_neg c734])] at k
            exact k
        have c737 : (if (((((((0 : Int32) + (1 : Int32)) + (1 : Int32)) + (1 : Int32)) + (1 : Int32)) + (1 : Int32)) + (1 : Int32)) = x689 then (1 : Int32) else (0 : Int32)) = x735 := by
          rw [hx735, hx689]; rcases h7 with q | q | q | q <;> rw [q] <;> decide
        obtain ⟨fs, hr, hrun, hended, hW, hsame⟩ := X733.leave (v := some (.int (1 : Int32))) (fun h => by rw [Bd.returns] at h; cases h)
        refine ⟨_, _, pre736 _ ?_, hrun, hended, _, _, rfl, ?_, ⟨_, rfl⟩, hW, hsame.mono (by decide) (by decide)⟩
        ·
          show Steps p.tables e below (T733.setTop (mkF m 121 #[.val (.int p0), .val (.int p1), .val (.long q2), .second, .val (.int p3), .val (.int p4), .val (.int (0 : Int32)), .val (.int x687), .val (.int x689), .val (.ref r691), .val (.ref b699), .val (.int (1 : Int32))] [(.int x735), (.int (if (((((((0 : Int32) + (1 : Int32)) + (1 : Int32)) + (1 : Int32)) + (1 : Int32)) + (1 : Int32)) + (1 : Int32)) = x689 then (1 : Int32) else (0 : Int32)))])) _
          refine XS.icmpNo X733.here hx rfl (hb hby at_121) rfl (teq c737).2 ?_
          show Steps p.tables e below (T733.setTop (mkF m 124 #[.val (.int p0), .val (.int p1), .val (.long q2), .second, .val (.int p3), .val (.int p4), .val (.int (0 : Int32)), .val (.int x687), .val (.int x689), .val (.ref r691), .val (.ref b699), .val (.int (1 : Int32))] [])) _
          refine XS.iconst X733.here hx rfl (hb hby at_124) ?_
          show Steps p.tables e below (T733.setTop (mkF m 125 #[.val (.int p0), .val (.int p1), .val (.long q2), .second, .val (.int p3), .val (.int p4), .val (.int (0 : Int32)), .val (.int x687), .val (.int x689), .val (.ref r691), .val (.ref b699), .val (.int (1 : Int32))] [(.int (1 : Int32))])) _
          refine XS.goto X733.here hx rfl (pc0 := 125) (pc' := 129) rfl (hb hby at_125) (by decide) (by decide) ?_
          show Steps p.tables e below (T733.setTop (mkF m 129 #[.val (.int p0), .val (.int p1), .val (.long q2), .second, .val (.int p3), .val (.int p4), .val (.int (0 : Int32)), .val (.int x687), .val (.int x689), .val (.ref r691), .val (.ref b699), .val (.int (1 : Int32))] [(.int (1 : Int32))])) _
          refine XS.istore X733.here hx rfl (hb hby at_129) rfl (l' := #[.val (.int p0), .val (.int p1), .val (.long q2), .second, .val (.int p3), .val (.int p4), .val (.int (0 : Int32)), .val (.int x687), .val (.int x689), .val (.ref r691), .val (.ref b699), .val (.int (1 : Int32))]) rfl ?_
          show Steps p.tables e below (T733.setTop (mkF m 131 #[.val (.int p0), .val (.int p1), .val (.long q2), .second, .val (.int p3), .val (.int p4), .val (.int (0 : Int32)), .val (.int x687), .val (.int x689), .val (.ref r691), .val (.ref b699), .val (.int (1 : Int32))] [])) _
          refine XS.iload X733.here hx rfl (hb hby at_131) rfl ?_
          show Steps p.tables e below (T733.setTop (mkF m 133 #[.val (.int p0), .val (.int p1), .val (.long q2), .second, .val (.int p3), .val (.int p4), .val (.int (0 : Int32)), .val (.int x687), .val (.int x689), .val (.ref r691), .val (.ref b699), .val (.int (1 : Int32))] [(.int (1 : Int32))])) _
          exact retZ X733 hx Bd.returns (by decide) (hb hby at_133) hr
        ·
          show Q_rm0 Z p0 p1 q2 p3 p4 h0 n0 _ T733.heap _
          rw [e733]
          exact ⟨rfl, N733⟩
  ·
    obtain rfl : x685 = (1 : Int32) := q
    obtain ⟨_, _, ⟨T738, L738, k738, n738⟩, -, X738, ⟨Lc738, hQ738, l738, y738, z738⟩, st738⟩ := Jvm.LawKit.callS X0 hx (y := (⟨"com/example/sheafworks/sheafworks/storage/DecoderAtEndPinLaw", "bytes", "(JI)[B"⟩ : MethodName)) hown (mvT hZ (hw _ (List.mem_of_getElem? (i := 1) rfl))) (mvT hZ (hw _ (List.mem_of_getElem? (i := 2) rfl))) (mvT hZ (hw _ (List.mem_of_getElem? (i := 3) rfl))) (mvT hZ (hw _ (List.mem_of_getElem? (i := 4) rfl))) (by decide) (backOf (W := 0) (rm1 l Z aw hw [] q2 p3 h0 n0 Z0) hZ (hw _ (List.mem_of_getElem? (i := 4) rfl)) (hw _ (List.mem_of_getElem? (i := 3) rfl)) (by decide) (by decide)) (g := (mkF m 28 #[.val (.int p0), .val (.int p1), .val (.long q2), .second, .val (.int p3), .val (.int p4), .val (.int (1 : Int32)), .val (.int x687), .val (.int x689), .unset, .unset, .unset] [(.int p3), (.long q2)])) rfl (by rw [hml]; rfl) (argsL := [(.long q2), (.int p3)]) (rest := []) (lenOf pd_2 rfl) rfl (by show 2 * 0 + _ ≤ _; exact Nat.le_of_eq rfl) (hb hby at_28) (fun _ _ => ⟨rfl, e0, (by decide : 0 + 1 ≤ _), (by decide : 0 + 12 ≤ _)⟩)
    dsimp only [Pt.U, Pt.locs, Pt.cells, Pt.slots] at X738 l738 y738 z738 st738 hQ738
    replace l738 := l738.symm; replace y738 := y738.symm; replace z738 := z738.symm; subst l738 y738 z738
    obtain ⟨r738, kb738, v0738, v1738, v2738, v3738, v4738, v5738, v6738, v7738, v8738, v9738, v10738, v11738, rfl, N738q, K738, sz738, f739⟩ := hQ738
    have N738 := Fr.app N0 N738q
    have gn740 : n0 ≤ r738 := Nat.le_trans Z0 sz738
    have Z741 : n0 ≤ T738.heap.size := Nat.le_trans Z0 K738.1
    obtain ⟨cl742, Ar742, q742, S742, N742, H742, G742⟩ := id f739
    have hin742 : ¬ ((1 : Int32) < 0 ∨ cl742.slots.size ≤ ((1 : Int32)).toNatClampNeg) := inb_of S742 ⟨by decide, by decide⟩
    obtain ⟨T742, h742, X742, e742, W742, st742⟩ := stB X738 hx hZ rfl Ar742 (j := (1 : Int32)) hin742 (g := (mkF m 38 #[.val (.int p0), .val (.int p1), .val (.long q2), .second, .val (.int p3), .val (.int p4), .val (.int (1 : Int32)), .val (.int x687), .val (.int x689), .val (.ref r738), .unset, .unset] [(.int (0 : Int32)), (.int (1 : Int32)), (.ref r738)])) rfl rfl (hb hby at_38)
    have Z743 : n0 ≤ h742.size := Nat.le_trans Z741 (Keep.of_wr W742).1
    have N744 := Fr.snoc X742 N738 gn740
    have f745 : Arv Z h742 r738 kb738 .byte (12 : Int32) [(.int v0738), (.int (0 : Int32)), (.int v2738), (.int v3738), (.int v4738), (.int v5738), (.int v6738), (.int v7738), (.int v8738), (.int v9738), (.int v10738), (.int v11738)] (.int (0 : Int32)) := Arv.set Ar742 q742 S742 N742 H742 G742 (fits_nar_byte _) W742 1 rfl (Nat.le_of_ble_eq_true rfl)
    obtain ⟨T746, h746, X746, e746, E746, A746, D746, -, st746⟩ := newO X742 hx hZ hown (hw _ (List.mem_of_getElem? (i := 6) rfl)) (hw _ (List.mem_of_getElem? (i := 7) rfl)) (hw _ (List.mem_of_getElem? (i := 8) rfl)) e742 (g := (mkF m 39 #[.val (.int p0), .val (.int p1), .val (.long q2), .second, .val (.int p3), .val (.int p4), .val (.int (1 : Int32)), .val (.int x687), .val (.int x689), .val (.ref r738), .unset, .unset] [])) rfl (hb hby at_39) (by decide) (by decide)
    obtain ⟨b746, g746⟩ : ∃ z_, z_ = h742.size := ⟨_, rfl⟩
    rw [← g746] at A746 D746 st746
    have ne747 : r738 ≠ b746 := Nat.ne_of_lt (Nat.lt_of_lt_of_le f745.lt (Nat.le_of_eq g746.symm))
    have gn748 : n0 ≤ b746 := Nat.le_trans Z743 (Nat.le_of_eq g746.symm)
    have f749 := f745.ext E746
    have Z750 : n0 ≤ h746.size := Nat.le_trans Z743 E746.1
    have f751 : Fld Z h746 b746 "com/example/sheafworks/sheafworks/storage/RangeCoder$Decoder" "range" "I" (.int (0 : Int32)) := D746 (Or.inl (hw _ (List.mem_of_getElem? (i := 16) rfl))) (ty := .int) (by decide)
    have f752 : Fld Z h746 b746 "com/example/sheafworks/sheafworks/storage/RangeCoder$Decoder" "in" "[B" .null := D746 (Or.inr (hw _ (List.mem_of_getElem? (i := 18) rfl))) (ty := (.array .byte)) (by decide)
    have f753 : Fld Z h746 b746 "com/example/sheafworks/sheafworks/storage/RangeCoder$Decoder" "position" "I" (.int (0 : Int32)) := D746 (Or.inl (hw _ (List.mem_of_getElem? (i := 20) rfl))) (ty := .int) (by decide)
    have f754 : Fld Z h746 b746 "com/example/sheafworks/sheafworks/storage/RangeCoder$Decoder" "end" "I" (.int (0 : Int32)) := D746 (Or.inr (hw _ (List.mem_of_getElem? (i := 22) rfl))) (ty := .int) (by decide)
    have f755 : Fld Z h746 b746 "com/example/sheafworks/sheafworks/storage/RangeCoder$Decoder" "code" "I" (.int (0 : Int32)) := D746 (Or.inl (hw _ (List.mem_of_getElem? (i := 28) rfl))) (ty := .int) (by decide)
    obtain ⟨_, _, ⟨T756, L756, k756, n756⟩, -, X756, ⟨Lc756, hQ756, l756, y756, z756⟩, st756⟩ := X746.specialBack hx (y := (⟨"com/example/sheafworks/sheafworks/storage/RangeCoder$Decoder", "<init>", "([BII)V"⟩ : MethodName)) rfl hown (mvT hZ (hw _ (List.mem_of_getElem? (i := 9) rfl))) (mvT hZ (hw _ (List.mem_of_getElem? (i := 10) rfl))) (mvT hZ (hw _ (List.mem_of_getElem? (i := 11) rfl))) (by decide) (backOf (W := 1) (rm2 l Z aw hw [] b746 r738 (1 : Int32) x689 kb738 ([(.int v0738), (.int (0 : Int32)), (.int v2738), (.int v3738), (.int v4738), (.int v5738), (.int v6738), (.int v7738), (.int v8738), (.int v9738), (.int v10738), (.int v11738)]) v2738 v3738 v4738 v5738 h746 n0 Z750 A746 f751 f752 f753 f754 f755 gn748 f749 (Ne.symm ne747) (by rw [hx689]; rcases h7 with q | q | q | q <;> rw [q] <;> decide) ⟨by decide, by decide⟩ rfl (by rw [hx689]; rcases h7 with q | q | q | q <;> rw [q] <;> decide) ⟨by decide, by decide⟩ rfl (by rw [hx689]; rcases h7 with q | q | q | q <;> rw [q] <;> decide) ⟨by decide, by decide⟩ rfl (by rw [hx689]; rcases h7 with q | q | q | q <;> rw [q] <;> decide) ⟨by decide, by decide⟩ rfl (by rw [hx689]; rcases h7 with q | q | q | q <;> rw [q] <;> decide) ⟨by decide, by decide⟩ rfl) hZ (hw _ (List.mem_of_getElem? (i := 11) rfl)) (hw _ (List.mem_of_getElem? (i := 8) rfl)) (by decide) (by decide)) (g := (mkF m 49 #[.val (.int p0), .val (.int p1), .val (.long q2), .second, .val (.int p3), .val (.int p4), .val (.int (1 : Int32)), .val (.int x687), .val (.int x689), .val (.ref r738), .unset, .unset] [(.int x689), (.int (1 : Int32)), (.ref r738), (.ref b746), (.ref b746)])) rfl (by rw [hml]; rfl) (Steps.refl _) (a := b746) (argsL := [(.ref r738), (.int (1 : Int32)), (.int x689)]) (rest := [(.ref b746)]) (lenOf pd_3 rfl) rfl (by show 2 * 0 + _ ≤ _; exact Nat.le_of_eq rfl) (hb hby at_49) (fun _ _ => ⟨rfl, e746, (by decide : 2 + 0 ≤ _), (by decide : 17 + 0 ≤ _)⟩)
    dsimp only [Pt.U, Pt.locs, Pt.cells, Pt.slots] at X756 l756 y756 z756 st756 hQ756
    replace l756 := l756.symm; replace y756 := y756.symm; replace z756 := z756.symm; subst l756 y756 z756
    obtain ⟨cv756, rfl, N756q, K756, f757, f758, f759, f760, f761, f762⟩ := hQ756
    have N756 := Fr.app N744 N756q
    have f763 := f749.keep K756 (ninS ne747 nin0)
    have Z764 : n0 ≤ T756.heap.size := Nat.le_trans Z750 K756.1
    obtain ⟨cq765, kq765, q765a, q765b, q765c⟩ := isOf hZ rfl f757
    obtain ⟨_, _, ⟨T765, L765, k765, n765⟩, -, X765, ⟨Lc765, hQ765, l765, y765, z765⟩, st765⟩ := X756.virtualBack hx (y := (⟨"com/example/sheafworks/sheafworks/storage/RangeCoder$Decoder", "atEnd", "()Z"⟩ : MethodName)) (z := (⟨"com/example/sheafworks/sheafworks/storage/RangeCoder$Decoder", "atEnd", "()Z"⟩ : MethodName)) hown (mvT hZ (hw _ (List.mem_of_getElem? (i := 29) rfl))) (mvT hZ (hw _ (List.mem_of_getElem? (i := 30) rfl))) (notFace_of_selects (args := #[]) (mvT hZ (hw _ (List.mem_of_getElem? (i := 32) rfl)))) (mvT hZ (hw _ (List.mem_of_getElem? (i := 32) rfl))) (mvT hZ (hw _ (List.mem_of_getElem? (i := 31) rfl))) (by decide) (backOf (W := 0) (rm5 l Z aw hw [] b746 (((((((1 : Int32) + (1 : Int32)) + (1 : Int32)) + (1 : Int32)) + (1 : Int32)) + (1 : Int32))) x689 T756.heap n0 Z764 f759 f760) hZ (hw _ (List.mem_of_getElem? (i := 33) rfl)) (hw _ (List.mem_of_getElem? (i := 8) rfl)) (by decide) (by decide)) q765a q765c (g := (mkF m 56 #[.val (.int p0), .val (.int p1), .val (.long q2), .second, .val (.int p3), .val (.int p4), .val (.int (1 : Int32)), .val (.int x687), .val (.int x689), .val (.ref r738), .val (.ref b746), .unset] [(.ref b746)])) rfl (by rw [hml]; rfl) (Steps.refl _) (argsL := []) (rest := []) (lenOf pd_4 rfl) rfl (by show 2 * 0 + _ ≤ _; exact Nat.le_of_eq rfl) (hb hby at_56) (fun _ _ => ⟨rfl, rfl, (by decide : 2 + 0 ≤ _), (by decide : 17 + 0 ≤ _)⟩)
    dsimp only [Pt.U, Pt.locs, Pt.cells, Pt.slots] at X765 l765 y765 z765 st765 hQ765
    replace l765 := l765.symm; replace y765 := y765.symm; replace z765 := z765.symm; subst l765 y765 z765
    obtain ⟨rfl, N765q, e765⟩ := hQ765
    have N765 := Fr.app N756 N765q
    obtain ⟨x767, hx767⟩ : ∃ z_ : Int32, z_ = (if x687 = (0 : Int32) then (1 : Int32) else (0 : Int32)) := ⟨_, rfl⟩
    have pre768 : ∀ t, Steps p.tables e below (T765.setTop (mkF m 69 #[.val (.int p0), .val (.int p1), .val (.long q2), .second, .val (.int p3), .val (.int p4), .val (.int (1 : Int32)), .val (.int x687), .val (.int x689), .val (.ref r738), .val (.ref b746), .unset] [(.int x767), (.int (if ((((((1 : Int32) + (1 : Int32)) + (1 : Int32)) + (1 : Int32)) + (1 : Int32)) + (1 : Int32)) = x689 then (1 : Int32) else (0 : Int32)))])) t → Steps p.tables e below (s₁.setTop (entryFrame m #[(.int p0), (.int p1), (.long q2), (.int p3), (.int p4)] maxLocals)) t := fun t k => by
      refine pre690 t ?_
      show Steps p.tables e below (s₁.setTop (mkF m 25 #[.val (.int p0), .val (.int p1), .val (.long q2), .second, .val (.int p3), .val (.int p4), .val (.int (1 : Int32)), .val (.int x687), .val (.int x689), .unset, .unset, .unset] [])) _
      refine XS.lloadN X0.here hx rfl (hb hby at_25) rfl ?_
      show Steps p.tables e below (s₁.setTop (mkF m 26 #[.val (.int p0), .val (.int p1), .val (.long q2), .second, .val (.int p3), .val (.int p4), .val (.int (1 : Int32)), .val (.int x687), .val (.int x689), .unset, .unset, .unset] [(.long q2)])) _
      refine XS.iload X0.here hx rfl (hb hby at_26) rfl ?_
      show Steps p.tables e below (s₁.setTop (mkF m 28 #[.val (.int p0), .val (.int p1), .val (.long q2), .second, .val (.int p3), .val (.int p4), .val (.int (1 : Int32)), .val (.int x687), .val (.int x689), .unset, .unset, .unset] [(.int p3), (.long q2)])) _
      refine st738 _ ?_
      show Steps p.tables e below (T738.setTop (mkF m 31 #[.val (.int p0), .val (.int p1), .val (.long q2), .second, .val (.int p3), .val (.int p4), .val (.int (1 : Int32)), .val (.int x687), .val (.int x689), .unset, .unset, .unset] [(.ref r738)])) _
      refine XS.astore X738.here hx rfl (hb hby at_31) rfl rfl (l' := #[.val (.int p0), .val (.int p1), .val (.long q2), .second, .val (.int p3), .val (.int p4), .val (.int (1 : Int32)), .val (.int x687), .val (.int x689), .val (.ref r738), .unset, .unset]) rfl ?_
      show Steps p.tables e below (T738.setTop (mkF m 33 #[.val (.int p0), .val (.int p1), .val (.long q2), .second, .val (.int p3), .val (.int p4), .val (.int (1 : Int32)), .val (.int x687), .val (.int x689), .val (.ref r738), .unset, .unset] [])) _
      refine XS.aload X738.here hx rfl (hb hby at_33) rfl rfl ?_
      show Steps p.tables e below (T738.setTop (mkF m 35 #[.val (.int p0), .val (.int p1), .val (.long q2), .second, .val (.int p3), .val (.int p4), .val (.int (1 : Int32)), .val (.int x687), .val (.int x689), .val (.ref r738), .unset, .unset] [(.ref r738)])) _
      refine XS.iload X738.here hx rfl (hb hby at_35) rfl ?_
      show Steps p.tables e below (T738.setTop (mkF m 37 #[.val (.int p0), .val (.int p1), .val (.long q2), .second, .val (.int p3), .val (.int p4), .val (.int (1 : Int32)), .val (.int x687), .val (.int x689), .val (.ref r738), .unset, .unset] [(.int (1 : Int32)), (.ref r738)])) _
      refine XS.iconst X738.here hx rfl (hb hby at_37) ?_
      show Steps p.tables e below (T738.setTop (mkF m 38 #[.val (.int p0), .val (.int p1), .val (.long q2), .second, .val (.int p3), .val (.int p4), .val (.int (1 : Int32)), .val (.int x687), .val (.int x689), .val (.ref r738), .unset, .unset] [(.int (0 : Int32)), (.int (1 : Int32)), (.ref r738)])) _
      refine st742 _ ?_
      show Steps p.tables e below (T742.setTop (mkF m 39 #[.val (.int p0), .val (.int p1), .val (.long q2), .second, .val (.int p3), .val (.int p4), .val (.int (1 : Int32)), .val (.int x687), .val (.int x689), .val (.ref r738), .unset, .unset] [])) _
      refine st746 _ ?_
      show Steps p.tables e below (T746.setTop (mkF m 42 #[.val (.int p0), .val (.int p1), .val (.long q2), .second, .val (.int p3), .val (.int p4), .val (.int (1 : Int32)), .val (.int x687), .val (.int x689), .val (.ref r738), .unset, .unset] [(.ref b746)])) _
      refine XS.dup X746.here hx rfl (hb hby at_42) rfl rfl ?_
      show Steps p.tables e below (T746.setTop (mkF m 43 #[.val (.int p0), .val (.int p1), .val (.long q2), .second, .val (.int p3), .val (.int p4), .val (.int (1 : Int32)), .val (.int x687), .val (.int x689), .val (.ref r738), .unset, .unset] [(.ref b746), (.ref b746)])) _
      refine XS.aload X746.here hx rfl (hb hby at_43) rfl rfl ?_
      show Steps p.tables e below (T746.setTop (mkF m 45 #[.val (.int p0), .val (.int p1), .val (.long q2), .second, .val (.int p3), .val (.int p4), .val (.int (1 : Int32)), .val (.int x687), .val (.int x689), .val (.ref r738), .unset, .unset] [(.ref r738), (.ref b746), (.ref b746)])) _
      refine XS.iload X746.here hx rfl (hb hby at_45) rfl ?_
      show Steps p.tables e below (T746.setTop (mkF m 47 #[.val (.int p0), .val (.int p1), .val (.long q2), .second, .val (.int p3), .val (.int p4), .val (.int (1 : Int32)), .val (.int x687), .val (.int x689), .val (.ref r738), .unset, .unset] [(.int (1 : Int32)), (.ref r738), (.ref b746), (.ref b746)])) _
      refine XS.iload X746.here hx rfl (hb hby at_47) rfl ?_
      show Steps p.tables e below (T746.setTop (mkF m 49 #[.val (.int p0), .val (.int p1), .val (.long q2), .second, .val (.int p3), .val (.int p4), .val (.int (1 : Int32)), .val (.int x687), .val (.int x689), .val (.ref r738), .unset, .unset] [(.int x689), (.int (1 : Int32)), (.ref r738), (.ref b746), (.ref b746)])) _
      refine st756.trans ?_
      show Steps p.tables e below (T756.setTop (mkF m 52 #[.val (.int p0), .val (.int p1), .val (.long q2), .second, .val (.int p3), .val (.int p4), .val (.int (1 : Int32)), .val (.int x687), .val (.int x689), .val (.ref r738), .unset, .unset] [(.ref b746)])) _
      refine XS.astore X756.here hx rfl (hb hby at_52) rfl rfl (l' := #[.val (.int p0), .val (.int p1), .val (.long q2), .second, .val (.int p3), .val (.int p4), .val (.int (1 : Int32)), .val (.int x687), .val (.int x689), .val (.ref r738), .val (.ref b746), .unset]) rfl ?_
      show Steps p.tables e below (T756.setTop (mkF m 54 #[.val (.int p0), .val (.int p1), .val (.long q2), .second, .val (.int p3), .val (.int p4), .val (.int (1 : Int32)), .val (.int x687), .val (.int x689), .val (.ref r738), .val (.ref b746), .unset] [])) _
      refine XS.aload X756.here hx rfl (hb hby at_54) rfl rfl ?_
      show Steps p.tables e below (T756.setTop (mkF m 56 #[.val (.int p0), .val (.int p1), .val (.long q2), .second, .val (.int p3), .val (.int p4), .val (.int (1 : Int32)), .val (.int x687), .val (.int x689), .val (.ref r738), .val (.ref b746), .unset] [(.ref b746)])) _
      refine st765.trans ?_
      show Steps p.tables e below (T765.setTop (mkF m 59 #[.val (.int p0), .val (.int p1), .val (.long q2), .second, .val (.int p3), .val (.int p4), .val (.int (1 : Int32)), .val (.int x687), .val (.int x689), .val (.ref r738), .val (.ref b746), .unset] [(.int (if ((((((1 : Int32) + (1 : Int32)) + (1 : Int32)) + (1 : Int32)) + (1 : Int32)) + (1 : Int32)) = x689 then (1 : Int32) else (0 : Int32)))])) _
      refine XS.iload X765.here hx rfl (hb hby at_59) rfl ?_
      by_cases c766 : x687 = (0 : Int32)
      ·
        show Steps p.tables e below (T765.setTop (mkF m 61 #[.val (.int p0), .val (.int p1), .val (.long q2), .second, .val (.int p3), .val (.int p4), .val (.int (1 : Int32)), .val (.int x687), .val (.int x689), .val (.ref r738), .val (.ref b746), .unset] [(.int x687), (.int (if ((((((1 : Int32) + (1 : Int32)) + (1 : Int32)) + (1 : Int32)) + (1 : Int32)) + (1 : Int32)) = x689 then (1 : Int32) else (0 : Int32)))])) _
        refine XS.ifNo X765.here hx rfl (hb hby at_61) rfl ((if0 _ _).trans (teq c766).2) ?_
        show Steps p.tables e below (T765.setTop (mkF m 64 #[.val (.int p0), .val (.int p1), .val (.long q2), .second, .val (.int p3), .val (.int p4), .val (.int (1 : Int32)), .val (.int x687), .val (.int x689), .val (.ref r738), .val (.ref b746), .unset] [(.int (if ((((((1 : Int32) + (1 : Int32)) + (1 : Int32)) + (1 : Int32)) + (1 : Int32)) + (1 : Int32)) = x689 then (1 : Int32) else (0 : Int32)))])) _
        refine XS.iconst X765.here hx rfl (hb hby at_64) ?_
        show Steps p.tables e below (T765.setTop (mkF m 65 #[.val (.int p0), .val (.int p1), .val (.long q2), .second, .val (.int p3), .val (.int p4), .val (.int (1 : Int32)), .val (.int x687), .val (.int x689), .val (.ref r738), .val (.ref b746), .unset] [(.int (1 : Int32)), (.int (if ((((((1 : Int32) + (1 : Int32)) + (1 : Int32)) + (1 : Int32)) + (1 : Int32)) + (1 : Int32)) = x689 then (1 : Int32) else (0 : Int32)))])) _
        refine XS.goto X765.here hx rfl (pc0 := 65) (pc' := 69) rfl (hb hby at_65) (by decide) (by decide) ?_
        rw [show x767 = (1 : Int32) from hx767.trans (by simp only [if_pos c766])] at k
        exact k
      ·
        show Steps p.tables e below (T765.setTop (mkF m 61 #[.val (.int p0), .val (.int p1), .val (.long q2), .second, .val (.int p3), .val (.int p4), .val (.int (1 : Int32)), .val (.int x687), .val (.int x689), .val (.ref r738), .val (.ref b746), .unset] [(.int x687), (.int (if ((((((1 : Int32) + (1 : Int32)) + (1 : Int32)) + (1 : Int32)) + (1 : Int32)) + (1 : Int32)) = x689 then (1 : Int32) else (0 : Int32)))])) _
        refine XS.ifYes X765.here hx rfl (pc0 := 61) (pc' := 68) rfl (hb hby at_61) rfl ((if0 _ _).trans (feq c766).2) (by decide) (by decide) ?_
        show Steps p.tables e below (T765.setTop (mkF m 68 #[.val (.int p0), .val (.int p1), .val (.long q2), .second, .val (.int p3), .val (.int p4), .val (.int (1 : Int32)), .val (.int x687), .val (.int x689), .val (.ref r738), .val (.ref b746), .unset] [(.int (if ((((((1 : Int32) + (1 : Int32)) + (1 : Int32)) + (1 : Int32)) + (1 : Int32)) + (1 : Int32)) = x689 then (1 : Int32) else (0 : Int32)))])) _
        refine XS.iconst X765.here hx rfl (hb hby at_68) ?_
        rw [show x767 = (0 : Int32) from hx767.trans (by simp only [if_neg c766])] at k
        exact k
    have c769 : (if ((((((1 : Int32) + (1 : Int32)) + (1 : Int32)) + (1 : Int32)) + (1 : Int32)) + (1 : Int32)) = x689 then (1 : Int32) else (0 : Int32)) = x767 := by
      rw [hx767, hx689]; rcases h7 with q | q | q | q <;> rw [q] <;> decide
    have pre770 : ∀ t, Steps p.tables e below (T765.setTop (mkF m 83 #[.val (.int p0), .val (.int p1), .val (.long q2), .second, .val (.int p3), .val (.int p4), .val (.int (1 : Int32)), .val (.int x687), .val (.int x689), .val (.ref r738), .val (.ref b746), .val (.int (1 : Int32))] [(.int (p4 &&& (1 : Int32)))])) t → Steps p.tables e below (s₁.setTop (entryFrame m #[(.int p0), (.int p1), (.long q2), (.int p3), (.int p4)] maxLocals)) t := fun t k => by
      refine pre768 t ?_
      show Steps p.tables e below (T765.setTop (mkF m 69 #[.val (.int p0), .val (.int p1), .val (.long q2), .second, .val (.int p3), .val (.int p4), .val (.int (1 : Int32)), .val (.int x687), .val (.int x689), .val (.ref r738), .val (.ref b746), .unset] [(.int x767), (.int (if ((((((1 : Int32) + (1 : Int32)) + (1 : Int32)) + (1 : Int32)) + (1 : Int32)) + (1 : Int32)) = x689 then (1 : Int32) else (0 : Int32)))])) _
      refine XS.icmpNo X765.here hx rfl (hb hby at_69) rfl (teq c769).2 ?_
      show Steps p.tables e below (T765.setTop (mkF m 72 #[.val (.int p0), .val (.int p1), .val (.long q2), .second, .val (.int p3), .val (.int p4), .val (.int (1 : Int32)), .val (.int x687), .val (.int x689), .val (.ref r738), .val (.ref b746), .unset] [])) _
      refine XS.iconst X765.here hx rfl (hb hby at_72) ?_
      show Steps p.tables e below (T765.setTop (mkF m 73 #[.val (.int p0), .val (.int p1), .val (.long q2), .second, .val (.int p3), .val (.int p4), .val (.int (1 : Int32)), .val (.int x687), .val (.int x689), .val (.ref r738), .val (.ref b746), .unset] [(.int (1 : Int32))])) _
      refine XS.goto X765.here hx rfl (pc0 := 73) (pc' := 77) rfl (hb hby at_73) (by decide) (by decide) ?_
      show Steps p.tables e below (T765.setTop (mkF m 77 #[.val (.int p0), .val (.int p1), .val (.long q2), .second, .val (.int p3), .val (.int p4), .val (.int (1 : Int32)), .val (.int x687), .val (.int x689), .val (.ref r738), .val (.ref b746), .unset] [(.int (1 : Int32))])) _
      refine XS.istore X765.here hx rfl (hb hby at_77) rfl (l' := #[.val (.int p0), .val (.int p1), .val (.long q2), .second, .val (.int p3), .val (.int p4), .val (.int (1 : Int32)), .val (.int x687), .val (.int x689), .val (.ref r738), .val (.ref b746), .val (.int (1 : Int32))]) rfl ?_
      show Steps p.tables e below (T765.setTop (mkF m 79 #[.val (.int p0), .val (.int p1), .val (.long q2), .second, .val (.int p3), .val (.int p4), .val (.int (1 : Int32)), .val (.int x687), .val (.int x689), .val (.ref r738), .val (.ref b746), .val (.int (1 : Int32))] [])) _
      refine XS.iload X765.here hx rfl (hb hby at_79) rfl ?_
      show Steps p.tables e below (T765.setTop (mkF m 81 #[.val (.int p0), .val (.int p1), .val (.long q2), .second, .val (.int p3), .val (.int p4), .val (.int (1 : Int32)), .val (.int x687), .val (.int x689), .val (.ref r738), .val (.ref b746), .val (.int (1 : Int32))] [(.int p4)])) _
      refine XS.iconst X765.here hx rfl (hb hby at_81) ?_
      show Steps p.tables e below (T765.setTop (mkF m 82 #[.val (.int p0), .val (.int p1), .val (.long q2), .second, .val (.int p3), .val (.int p4), .val (.int (1 : Int32)), .val (.int x687), .val (.int x689), .val (.ref r738), .val (.ref b746), .val (.int (1 : Int32))] [(.int (1 : Int32)), (.int p4)])) _
      refine XS.iand X765.here hx rfl (hb hby at_82) rfl ?_
      exact k
    by_cases c771 : (p4 &&& (1 : Int32)) = (0 : Int32)
    ·
      obtain ⟨fs, hr, hrun, hended, hW, hsame⟩ := X765.leave (v := some (.int (1 : Int32))) (fun h => by rw [Bd.returns] at h; cases h)
      refine ⟨_, _, pre770 _ ?_, hrun, hended, _, _, rfl, ?_, ⟨_, rfl⟩, hW, hsame.mono (by decide) (by decide)⟩
      ·
        show Steps p.tables e below (T765.setTop (mkF m 83 #[.val (.int p0), .val (.int p1), .val (.long q2), .second, .val (.int p3), .val (.int p4), .val (.int (1 : Int32)), .val (.int x687), .val (.int x689), .val (.ref r738), .val (.ref b746), .val (.int (1 : Int32))] [(.int (p4 &&& (1 : Int32)))])) _
        refine XS.ifYes X765.here hx rfl (pc0 := 83) (pc' := 131) rfl (hb hby at_83) rfl ((if0 _ _).trans (teq c771).1) (by decide) (by decide) ?_
        show Steps p.tables e below (T765.setTop (mkF m 131 #[.val (.int p0), .val (.int p1), .val (.long q2), .second, .val (.int p3), .val (.int p4), .val (.int (1 : Int32)), .val (.int x687), .val (.int x689), .val (.ref r738), .val (.ref b746), .val (.int (1 : Int32))] [])) _
        refine XS.iload X765.here hx rfl (hb hby at_131) rfl ?_
        show Steps p.tables e below (T765.setTop (mkF m 133 #[.val (.int p0), .val (.int p1), .val (.long q2), .second, .val (.int p3), .val (.int p4), .val (.int (1 : Int32)), .val (.int x687), .val (.int x689), .val (.ref r738), .val (.ref b746), .val (.int (1 : Int32))] [(.int (1 : Int32))])) _
        exact retZ X765 hx Bd.returns (by decide) (hb hby at_133) hr
      ·
        show Q_rm0 Z p0 p1 q2 p3 p4 h0 n0 _ T765.heap _
        rw [e765]
        exact ⟨rfl, N765⟩
    ·
      have pre772 : ∀ t, Steps p.tables e below (T765.setTop (mkF m 89 #[.val (.int p0), .val (.int p1), .val (.long q2), .second, .val (.int p3), .val (.int p4), .val (.int (1 : Int32)), .val (.int x687), .val (.int x689), .val (.ref r738), .val (.ref b746), .val (.int (1 : Int32))] [(.int (1 : Int32)), (.int x687)])) t → Steps p.tables e below (s₁.setTop (entryFrame m #[(.int p0), (.int p1), (.long q2), (.int p3), (.int p4)] maxLocals)) t := fun t k => by
        refine pre770 t ?_
        show Steps p.tables e below (T765.setTop (mkF m 83 #[.val (.int p0), .val (.int p1), .val (.long q2), .second, .val (.int p3), .val (.int p4), .val (.int (1 : Int32)), .val (.int x687), .val (.int x689), .val (.ref r738), .val (.ref b746), .val (.int (1 : Int32))] [(.int (p4 &&& (1 : Int32)))])) _
        refine XS.ifNo X765.here hx rfl (hb hby at_83) rfl ((if0 _ _).trans (feq c771).1) ?_
        show Steps p.tables e below (T765.setTop (mkF m 86 #[.val (.int p0), .val (.int p1), .val (.long q2), .second, .val (.int p3), .val (.int p4), .val (.int (1 : Int32)), .val (.int x687), .val (.int x689), .val (.ref r738), .val (.ref b746), .val (.int (1 : Int32))] [])) _
        refine XS.iload X765.here hx rfl (hb hby at_86) rfl ?_
        show Steps p.tables e below (T765.setTop (mkF m 88 #[.val (.int p0), .val (.int p1), .val (.long q2), .second, .val (.int p3), .val (.int p4), .val (.int (1 : Int32)), .val (.int x687), .val (.int x689), .val (.ref r738), .val (.ref b746), .val (.int (1 : Int32))] [(.int x687)])) _
        refine XS.iconst X765.here hx rfl (hb hby at_88) ?_
        exact k
      by_cases c773 : x687 < (1 : Int32)
      ·
        obtain ⟨fs, hr, hrun, hended, hW, hsame⟩ := X765.leave (v := some (.int (1 : Int32))) (fun h => by rw [Bd.returns] at h; cases h)
        refine ⟨_, _, pre772 _ ?_, hrun, hended, _, _, rfl, ?_, ⟨_, rfl⟩, hW, hsame.mono (by decide) (by decide)⟩
        ·
          show Steps p.tables e below (T765.setTop (mkF m 89 #[.val (.int p0), .val (.int p1), .val (.long q2), .second, .val (.int p3), .val (.int p4), .val (.int (1 : Int32)), .val (.int x687), .val (.int x689), .val (.ref r738), .val (.ref b746), .val (.int (1 : Int32))] [(.int (1 : Int32)), (.int x687)])) _
          refine XS.icmpYes X765.here hx rfl (pc0 := 89) (pc' := 131) rfl (hb hby at_89) rfl (tlt c773).1 (by decide) (by decide) ?_
          show Steps p.tables e below (T765.setTop (mkF m 131 #[.val (.int p0), .val (.int p1), .val (.long q2), .second, .val (.int p3), .val (.int p4), .val (.int (1 : Int32)), .val (.int x687), .val (.int x689), .val (.ref r738), .val (.ref b746), .val (.int (1 : Int32))] [])) _
          refine XS.iload X765.here hx rfl (hb hby at_131) rfl ?_
          show Steps p.tables e below (T765.setTop (mkF m 133 #[.val (.int p0), .val (.int p1), .val (.long q2), .second, .val (.int p3), .val (.int p4), .val (.int (1 : Int32)), .val (.int x687), .val (.int x689), .val (.ref r738), .val (.ref b746), .val (.int (1 : Int32))] [(.int (1 : Int32))])) _
          exact retZ X765 hx Bd.returns (by decide) (hb hby at_133) hr
        ·
          show Q_rm0 Z p0 p1 q2 p3 p4 h0 n0 _ T765.heap _
          rw [e765]
          exact ⟨rfl, N765⟩
      ·
        obtain ⟨cq774, kq774, q774a, q774b, q774c⟩ := isOf hZ e765 f757
        obtain ⟨_, _, ⟨T774, L774, k774, n774⟩, -, X774, ⟨Lc774, hQ774, l774, y774, z774⟩, st774⟩ := X765.virtualBack hx (y := (⟨"com/example/sheafworks/sheafworks/storage/RangeCoder$Decoder", "direct", "(I)I"⟩ : MethodName)) (z := (⟨"com/example/sheafworks/sheafworks/storage/RangeCoder$Decoder", "direct", "(I)I"⟩ : MethodName)) hown (mvT hZ (hw _ (List.mem_of_getElem? (i := 34) rfl))) (mvT hZ (hw _ (List.mem_of_getElem? (i := 35) rfl))) (notFace_of_selects (args := #[]) (mvT hZ (hw _ (List.mem_of_getElem? (i := 37) rfl)))) (mvT hZ (hw _ (List.mem_of_getElem? (i := 37) rfl))) (mvT hZ (hw _ (List.mem_of_getElem? (i := 36) rfl))) (by decide) (backOf (W := 0) (rm6 l Z aw hw [] b746 r738 kb738 ([(.int v0738), (.int (0 : Int32)), (.int v2738), (.int v3738), (.int v4738), (.int v5738), (.int v6738), (.int v7738), (.int v8738), (.int v9738), (.int v10738), (.int v11738)]) (((((((1 : Int32) + (1 : Int32)) + (1 : Int32)) + (1 : Int32)) + (1 : Int32)) + (1 : Int32))) x689 cv756 v6738 T756.heap n0 Z764 f757 f758 f759 f760 f761 f762 gn748 f763 (Ne.symm ne747) (by rw [hx689]; intro e; exact c773 (by rcases h7 with q | q | q | q <;> rw [q] at e ⊢ <;> revert e <;> decide)) ⟨by decide, by decide⟩ rfl) hZ (hw _ (List.mem_of_getElem? (i := 38) rfl)) (hw _ (List.mem_of_getElem? (i := 8) rfl)) (by decide) (by decide)) q774a q774c (g := (mkF m 96 #[.val (.int p0), .val (.int p1), .val (.long q2), .second, .val (.int p3), .val (.int p4), .val (.int (1 : Int32)), .val (.int x687), .val (.int x689), .val (.ref r738), .val (.ref b746), .val (.int (1 : Int32))] [(.int (8 : Int32)), (.ref b746)])) rfl (by rw [hml]; rfl) (Steps.refl _) (argsL := [(.int (8 : Int32))]) (rest := []) (lenOf pd_5 rfl) rfl (by show 2 * 0 + _ ≤ _; exact Nat.le_of_eq rfl) (hb hby at_96) (fun _ _ => ⟨rfl, e765, (by decide : 2 + 0 ≤ _), (by decide : 17 + 0 ≤ _)⟩)
        dsimp only [Pt.U, Pt.locs, Pt.cells, Pt.slots] at X774 l774 y774 z774 st774 hQ774
        replace l774 := l774.symm; replace y774 := y774.symm; replace z774 := z774.symm; subst l774 y774 z774
        obtain ⟨rv774, rfl, N774q, K774, f775, f776, f777⟩ := hQ774
        have N774 := Fr.app N765 N774q
        have f778 := f763.keep K774 (ninS ne747 nin0)
        have Z779 : n0 ≤ T774.heap.size := Nat.le_trans Z764 K774.1
        obtain ⟨cq780, kq780, q780a, q780b, q780c⟩ := isOf hZ rfl f775
        obtain ⟨_, _, ⟨T780, L780, k780, n780⟩, -, X780, ⟨Lc780, hQ780, l780, y780, z780⟩, st780⟩ := X774.virtualBack hx (y := (⟨"com/example/sheafworks/sheafworks/storage/RangeCoder$Decoder", "atEnd", "()Z"⟩ : MethodName)) (z := (⟨"com/example/sheafworks/sheafworks/storage/RangeCoder$Decoder", "atEnd", "()Z"⟩ : MethodName)) hown (mvT hZ (hw _ (List.mem_of_getElem? (i := 29) rfl))) (mvT hZ (hw _ (List.mem_of_getElem? (i := 30) rfl))) (notFace_of_selects (args := #[]) (mvT hZ (hw _ (List.mem_of_getElem? (i := 32) rfl)))) (mvT hZ (hw _ (List.mem_of_getElem? (i := 32) rfl))) (mvT hZ (hw _ (List.mem_of_getElem? (i := 31) rfl))) (by decide) (backOf (W := 0) (rm5 l Z aw hw [] b746 ((((((((1 : Int32) + (1 : Int32)) + (1 : Int32)) + (1 : Int32)) + (1 : Int32)) + (1 : Int32)) + (1 : Int32))) x689 T774.heap n0 Z779 f776 f777) hZ (hw _ (List.mem_of_getElem? (i := 33) rfl)) (hw _ (List.mem_of_getElem? (i := 8) rfl)) (by decide) (by decide)) q780a q780c (g := (mkF m 107 #[.val (.int p0), .val (.int p1), .val (.long q2), .second, .val (.int p3), .val (.int p4), .val (.int (1 : Int32)), .val (.int x687), .val (.int x689), .val (.ref r738), .val (.ref b746), .val (.int (1 : Int32))] [(.ref b746)])) rfl (by rw [hml]; rfl) (Steps.refl _) (argsL := []) (rest := []) (lenOf pd_4 rfl) rfl (by show 2 * 0 + _ ≤ _; exact Nat.le_of_eq rfl) (hb hby at_107) (fun _ _ => ⟨rfl, rfl, (by decide : 2 + 0 ≤ _), (by decide : 17 + 0 ≤ _)⟩)
        dsimp only [Pt.U, Pt.locs, Pt.cells, Pt.slots] at X780 l780 y780 z780 st780 hQ780
        replace l780 := l780.symm; replace y780 := y780.symm; replace z780 := z780.symm; subst l780 y780 z780
        obtain ⟨rfl, N780q, e780⟩ := hQ780
        have N780 := Fr.app N774 N780q
        obtain ⟨x782, hx782⟩ : ∃ z_ : Int32, z_ = (if x687 = (1 : Int32) then (1 : Int32) else (0 : Int32)) := ⟨_, rfl⟩
        have pre783 : ∀ t, Steps p.tables e below (T780.setTop (mkF m 121 #[.val (.int p0), .val (.int p1), .val (.long q2), .second, .val (.int p3), .val (.int p4), .val (.int (1 : Int32)), .val (.int x687), .val (.int x689), .val (.ref r738), .val (.ref b746), .val (.int (1 : Int32))] [(.int x782), (.int (if (((((((1 : Int32) + (1 : Int32)) + (1 : Int32)) + (1 : Int32)) + (1 : Int32)) + (1 : Int32)) + (1 : Int32)) = x689 then (1 : Int32) else (0 : Int32)))])) t → Steps p.tables e below (s₁.setTop (entryFrame m #[(.int p0), (.int p1), (.long q2), (.int p3), (.int p4)] maxLocals)) t := fun t k => by
          refine pre772 t ?_
          show Steps p.tables e below (T765.setTop (mkF m 89 #[.val (.int p0), .val (.int p1), .val (.long q2), .second, .val (.int p3), .val (.int p4), .val (.int (1 : Int32)), .val (.int x687), .val (.int x689), .val (.ref r738), .val (.ref b746), .val (.int (1 : Int32))] [(.int (1 : Int32)), (.int x687)])) _
          refine XS.icmpNo X765.here hx rfl (hb hby at_89) rfl (flt c773).1 ?_
          show Steps p.tables e below (T765.setTop (mkF m 92 #[.val (.int p0), .val (.int p1), .val (.long q2), .second, .val (.int p3), .val (.int p4), .val (.int (1 : Int32)), .val (.int x687), .val (.int x689), .val (.ref r738), .val (.ref b746), .val (.int (1 : Int32))] [])) _
          refine XS.aload X765.here hx rfl (hb hby at_92) rfl rfl ?_
          show Steps p.tables e below (T765.setTop (mkF m 94 #[.val (.int p0), .val (.int p1), .val (.long q2), .second, .val (.int p3), .val (.int p4), .val (.int (1 : Int32)), .val (.int x687), .val (.int x689), .val (.ref r738), .val (.ref b746), .val (.int (1 : Int32))] [(.ref b746)])) _
          refine XS.bipush X765.here hx rfl (hb hby at_94) ?_
          show Steps p.tables e below (T765.setTop (mkF m 96 #[.val (.int p0), .val (.int p1), .val (.long q2), .second, .val (.int p3), .val (.int p4), .val (.int (1 : Int32)), .val (.int x687), .val (.int x689), .val (.ref r738), .val (.ref b746), .val (.int (1 : Int32))] [(.int (8 : Int32)), (.ref b746)])) _
          refine st774.trans ?_
          show Steps p.tables e below (T774.setTop (mkF m 99 #[.val (.int p0), .val (.int p1), .val (.long q2), .second, .val (.int p3), .val (.int p4), .val (.int (1 : Int32)), .val (.int x687), .val (.int x689), .val (.ref r738), .val (.ref b746), .val (.int (1 : Int32))] [(.int rv774)])) _
          refine XS.pop X774.here hx rfl (hb hby at_99) rfl rfl ?_
          show Steps p.tables e below (T774.setTop (mkF m 100 #[.val (.int p0), .val (.int p1), .val (.long q2), .second, .val (.int p3), .val (.int p4), .val (.int (1 : Int32)), .val (.int x687), .val (.int x689), .val (.ref r738), .val (.ref b746), .val (.int (1 : Int32))] [])) _
          refine XS.iload X774.here hx rfl (hb hby at_100) rfl ?_
          show Steps p.tables e below (T774.setTop (mkF m 102 #[.val (.int p0), .val (.int p1), .val (.long q2), .second, .val (.int p3), .val (.int p4), .val (.int (1 : Int32)), .val (.int x687), .val (.int x689), .val (.ref r738), .val (.ref b746), .val (.int (1 : Int32))] [(.int (1 : Int32))])) _
          refine XS.ifNo X774.here hx rfl (hb hby at_102) rfl ((if0 _ _).trans (feq (by decide)).1) ?_
          show Steps p.tables e below (T774.setTop (mkF m 105 #[.val (.int p0), .val (.int p1), .val (.long q2), .second, .val (.int p3), .val (.int p4), .val (.int (1 : Int32)), .val (.int x687), .val (.int x689), .val (.ref r738), .val (.ref b746), .val (.int (1 : Int32))] [])) _
          refine XS.aload X774.here hx rfl (hb hby at_105) rfl rfl ?_
          show Steps p.tables e below (T774.setTop (mkF m 107 #[.val (.int p0), .val (.int p1), .val (.long q2), .second, .val (.int p3), .val (.int p4), .val (.int (1 : Int32)), .val (.int x687), .val (.int x689), .val (.ref r738), .val (.ref b746), .val (.int (1 : Int32))] [(.ref b746)])) _
          refine st780.trans ?_
          show Steps p.tables e below (T780.setTop (mkF m 110 #[.val (.int p0), .val (.int p1), .val (.long q2), .second, .val (.int p3), .val (.int p4), .val (.int (1 : Int32)), .val (.int x687), .val (.int x689), .val (.ref r738), .val (.ref b746), .val (.int (1 : Int32))] [(.int (if (((((((1 : Int32) + (1 : Int32)) + (1 : Int32)) + (1 : Int32)) + (1 : Int32)) + (1 : Int32)) + (1 : Int32)) = x689 then (1 : Int32) else (0 : Int32)))])) _
          refine XS.iload X780.here hx rfl (hb hby at_110) rfl ?_
          show Steps p.tables e below (T780.setTop (mkF m 112 #[.val (.int p0), .val (.int p1), .val (.long q2), .second, .val (.int p3), .val (.int p4), .val (.int (1 : Int32)), .val (.int x687), .val (.int x689), .val (.ref r738), .val (.ref b746), .val (.int (1 : Int32))] [(.int x687), (.int (if (((((((1 : Int32) + (1 : Int32)) + (1 : Int32)) + (1 : Int32)) + (1 : Int32)) + (1 : Int32)) + (1 : Int32)) = x689 then (1 : Int32) else (0 : Int32)))])) _
          refine XS.iconst X780.here hx rfl (hb hby at_112) ?_
          by_cases c781 : x687 = (1 : Int32)
          ·
            show Steps p.tables e below (T780.setTop (mkF m 113 #[.val (.int p0), .val (.int p1), .val (.long q2), .second, .val (.int p3), .val (.int p4), .val (.int (1 : Int32)), .val (.int x687), .val (.int x689), .val (.ref r738), .val (.ref b746), .val (.int (1 : Int32))] [(.int (1 : Int32)), (.int x687), (.int (if (((((((1 : Int32) + (1 : Int32)) + (1 : Int32)) + (1 : Int32)) + (1 : Int32)) + (1 : Int32)) + (1 : Int32)) = x689 then (1 : Int32) else (0 : Int32)))])) _
            refine XS.icmpNo X780.here hx rfl (hb hby at_113) rfl (teq c781).2 ?_
            show Steps p.tables e below (T780.setTop (mkF m 116 #[.val (.int p0), .val (.int p1), .val (.long q2), .second, .val (.int p3), .val (.int p4), .val (.int (1 : Int32)), .val (.int x687), .val (.int x689), .val (.ref r738), .val (.ref b746), .val (.int (1 : Int32))] [(.int (if (((((((1 : Int32) + (1 : Int32)) + (1 : Int32)) + (1 : Int32)) + (1 : Int32)) + (1 : Int32)) + (1 : Int32)) = x689 then (1 : Int32) else (0 : Int32)))])) _
            refine XS.iconst X780.here hx rfl (hb hby at_116) ?_
            show Steps p.tables e below (T780.setTop (mkF m 117 #[.val (.int p0), .val (.int p1), .val (.long q2), .second, .val (.int p3), .val (.int p4), .val (.int (1 : Int32)), .val (.int x687), .val (.int x689), .val (.ref r738), .val (.ref b746), .val (.int (1 : Int32))] [(.int (1 : Int32)), (.int (if (((((((1 : Int32) + (1 : Int32)) + (1 : Int32)) + (1 : Int32)) + (1 : Int32)) + (1 : Int32)) + (1 : Int32)) = x689 then (1 : Int32) else (0 : Int32)))])) _
            refine XS.goto X780.here hx rfl (pc0 := 117) (pc' := 121) rfl (hb hby at_117) (by decide) (by decide) ?_
            rw [show x782 = (1 : Int32) from hx782.trans (by simp only [if_pos c781])] at k
            exact k
          ·
            show Steps p.tables e below (T780.setTop (mkF m 113 #[.val (.int p0), .val (.int p1), .val (.long q2), .second, .val (.int p3), .val (.int p4), .val (.int (1 : Int32)), .val (.int x687), .val (.int x689), .val (.ref r738), .val (.ref b746), .val (.int (1 : Int32))] [(.int (1 : Int32)), (.int x687), (.int (if (((((((1 : Int32) + (1 : Int32)) + (1 : Int32)) + (1 : Int32)) + (1 : Int32)) + (1 : Int32)) + (1 : Int32)) = x689 then (1 : Int32) else (0 : Int32)))])) _
            refine XS.icmpYes X780.here hx rfl (pc0 := 113) (pc' := 120) rfl (hb hby at_113) rfl (feq c781).2 (by decide) (by decide) ?_
            show Steps p.tables e below (T780.setTop (mkF m 120 #[.val (.int p0), .val (.int p1), .val (.long q2), .second, .val (.int p3), .val (.int p4), .val (.int (1 : Int32)), .val (.int x687), .val (.int x689), .val (.ref r738), .val (.ref b746), .val (.int (1 : Int32))] [(.int (if (((((((1 : Int32) + (1 : Int32)) + (1 : Int32)) + (1 : Int32)) + (1 : Int32)) + (1 : Int32)) + (1 : Int32)) = x689 then (1 : Int32) else (0 : Int32)))])) _
            refine XS.iconst X780.here hx rfl (hb hby at_120) ?_
            rw [show x782 = (0 : Int32) from hx782.trans (by simp only [if_neg c781])] at k
            exact k
        have c784 : (if (((((((1 : Int32) + (1 : Int32)) + (1 : Int32)) + (1 : Int32)) + (1 : Int32)) + (1 : Int32)) + (1 : Int32)) = x689 then (1 : Int32) else (0 : Int32)) = x782 := by
          rw [hx782, hx689]; rcases h7 with q | q | q | q <;> rw [q] <;> decide
        obtain ⟨fs, hr, hrun, hended, hW, hsame⟩ := X780.leave (v := some (.int (1 : Int32))) (fun h => by rw [Bd.returns] at h; cases h)
        refine ⟨_, _, pre783 _ ?_, hrun, hended, _, _, rfl, ?_, ⟨_, rfl⟩, hW, hsame.mono (by decide) (by decide)⟩
        ·
          show Steps p.tables e below (T780.setTop (mkF m 121 #[.val (.int p0), .val (.int p1), .val (.long q2), .second, .val (.int p3), .val (.int p4), .val (.int (1 : Int32)), .val (.int x687), .val (.int x689), .val (.ref r738), .val (.ref b746), .val (.int (1 : Int32))] [(.int x782), (.int (if (((((((1 : Int32) + (1 : Int32)) + (1 : Int32)) + (1 : Int32)) + (1 : Int32)) + (1 : Int32)) + (1 : Int32)) = x689 then (1 : Int32) else (0 : Int32)))])) _
          refine XS.icmpNo X780.here hx rfl (hb hby at_121) rfl (teq c784).2 ?_
          show Steps p.tables e below (T780.setTop (mkF m 124 #[.val (.int p0), .val (.int p1), .val (.long q2), .second, .val (.int p3), .val (.int p4), .val (.int (1 : Int32)), .val (.int x687), .val (.int x689), .val (.ref r738), .val (.ref b746), .val (.int (1 : Int32))] [])) _
          refine XS.iconst X780.here hx rfl (hb hby at_124) ?_
          show Steps p.tables e below (T780.setTop (mkF m 125 #[.val (.int p0), .val (.int p1), .val (.long q2), .second, .val (.int p3), .val (.int p4), .val (.int (1 : Int32)), .val (.int x687), .val (.int x689), .val (.ref r738), .val (.ref b746), .val (.int (1 : Int32))] [(.int (1 : Int32))])) _
          refine XS.goto X780.here hx rfl (pc0 := 125) (pc' := 129) rfl (hb hby at_125) (by decide) (by decide) ?_
          show Steps p.tables e below (T780.setTop (mkF m 129 #[.val (.int p0), .val (.int p1), .val (.long q2), .second, .val (.int p3), .val (.int p4), .val (.int (1 : Int32)), .val (.int x687), .val (.int x689), .val (.ref r738), .val (.ref b746), .val (.int (1 : Int32))] [(.int (1 : Int32))])) _
          refine XS.istore X780.here hx rfl (hb hby at_129) rfl (l' := #[.val (.int p0), .val (.int p1), .val (.long q2), .second, .val (.int p3), .val (.int p4), .val (.int (1 : Int32)), .val (.int x687), .val (.int x689), .val (.ref r738), .val (.ref b746), .val (.int (1 : Int32))]) rfl ?_
          show Steps p.tables e below (T780.setTop (mkF m 131 #[.val (.int p0), .val (.int p1), .val (.long q2), .second, .val (.int p3), .val (.int p4), .val (.int (1 : Int32)), .val (.int x687), .val (.int x689), .val (.ref r738), .val (.ref b746), .val (.int (1 : Int32))] [])) _
          refine XS.iload X780.here hx rfl (hb hby at_131) rfl ?_
          show Steps p.tables e below (T780.setTop (mkF m 133 #[.val (.int p0), .val (.int p1), .val (.long q2), .second, .val (.int p3), .val (.int p4), .val (.int (1 : Int32)), .val (.int x687), .val (.int x689), .val (.ref r738), .val (.ref b746), .val (.int (1 : Int32))] [(.int (1 : Int32))])) _
          exact retZ X780 hx Bd.returns (by decide) (hb hby at_133) hr
        ·
          show Q_rm0 Z p0 p1 q2 p3 p4 h0 n0 _ T780.heap _
          rw [e780]
          exact ⟨rfl, N780⟩
  ·
    obtain rfl : x685 = (2 : Int32) := q
    obtain ⟨_, _, ⟨T785, L785, k785, n785⟩, -, X785, ⟨Lc785, hQ785, l785, y785, z785⟩, st785⟩ := Jvm.LawKit.callS X0 hx (y := (⟨"com/example/sheafworks/sheafworks/storage/DecoderAtEndPinLaw", "bytes", "(JI)[B"⟩ : MethodName)) hown (mvT hZ (hw _ (List.mem_of_getElem? (i := 1) rfl))) (mvT hZ (hw _ (List.mem_of_getElem? (i := 2) rfl))) (mvT hZ (hw _ (List.mem_of_getElem? (i := 3) rfl))) (mvT hZ (hw _ (List.mem_of_getElem? (i := 4) rfl))) (by decide) (backOf (W := 0) (rm1 l Z aw hw [] q2 p3 h0 n0 Z0) hZ (hw _ (List.mem_of_getElem? (i := 4) rfl)) (hw _ (List.mem_of_getElem? (i := 3) rfl)) (by decide) (by decide)) (g := (mkF m 28 #[.val (.int p0), .val (.int p1), .val (.long q2), .second, .val (.int p3), .val (.int p4), .val (.int (2 : Int32)), .val (.int x687), .val (.int x689), .unset, .unset, .unset] [(.int p3), (.long q2)])) rfl (by rw [hml]; rfl) (argsL := [(.long q2), (.int p3)]) (rest := []) (lenOf pd_2 rfl) rfl (by show 2 * 0 + _ ≤ _; exact Nat.le_of_eq rfl) (hb hby at_28) (fun _ _ => ⟨rfl, e0, (by decide : 0 + 1 ≤ _), (by decide : 0 + 12 ≤ _)⟩)
    dsimp only [Pt.U, Pt.locs, Pt.cells, Pt.slots] at X785 l785 y785 z785 st785 hQ785
    replace l785 := l785.symm; replace y785 := y785.symm; replace z785 := z785.symm; subst l785 y785 z785
    obtain ⟨r785, kb785, v0785, v1785, v2785, v3785, v4785, v5785, v6785, v7785, v8785, v9785, v10785, v11785, rfl, N785q, K785, sz785, f786⟩ := hQ785
    have N785 := Fr.app N0 N785q
    have gn787 : n0 ≤ r785 := Nat.le_trans Z0 sz785
    have Z788 : n0 ≤ T785.heap.size := Nat.le_trans Z0 K785.1
    obtain ⟨cl789, Ar789, q789, S789, N789, H789, G789⟩ := id f786
    have hin789 : ¬ ((2 : Int32) < 0 ∨ cl789.slots.size ≤ ((2 : Int32)).toNatClampNeg) := inb_of S789 ⟨by decide, by decide⟩
    obtain ⟨T789, h789, X789, e789, W789, st789⟩ := stB X785 hx hZ rfl Ar789 (j := (2 : Int32)) hin789 (g := (mkF m 38 #[.val (.int p0), .val (.int p1), .val (.long q2), .second, .val (.int p3), .val (.int p4), .val (.int (2 : Int32)), .val (.int x687), .val (.int x689), .val (.ref r785), .unset, .unset] [(.int (0 : Int32)), (.int (2 : Int32)), (.ref r785)])) rfl rfl (hb hby at_38)
    have Z790 : n0 ≤ h789.size := Nat.le_trans Z788 (Keep.of_wr W789).1
    have N791 := Fr.snoc X789 N785 gn787
    have f792 : Arv Z h789 r785 kb785 .byte (12 : Int32) [(.int v0785), (.int v1785), (.int (0 : Int32)), (.int v3785), (.int v4785), (.int v5785), (.int v6785), (.int v7785), (.int v8785), (.int v9785), (.int v10785), (.int v11785)] (.int (0 : Int32)) := Arv.set Ar789 q789 S789 N789 H789 G789 (fits_nar_byte _) W789 2 rfl (Nat.le_of_ble_eq_true rfl)
    obtain ⟨T793, h793, X793, e793, E793, A793, D793, -, st793⟩ := newO X789 hx hZ hown (hw _ (List.mem_of_getElem? (i := 6) rfl)) (hw _ (List.mem_of_getElem? (i := 7) rfl)) (hw _ (List.mem_of_getElem? (i := 8) rfl)) e789 (g := (mkF m 39 #[.val (.int p0), .val (.int p1), .val (.long q2), .second, .val (.int p3), .val (.int p4), .val (.int (2 : Int32)), .val (.int x687), .val (.int x689), .val (.ref r785), .unset, .unset] [])) rfl (hb hby at_39) (by decide) (by decide)
    obtain ⟨b793, g793⟩ : ∃ z_, z_ = h789.size := ⟨_, rfl⟩
    rw [← g793] at A793 D793 st793
    have ne794 : r785 ≠ b793 := Nat.ne_of_lt (Nat.lt_of_lt_of_le f792.lt (Nat.le_of_eq g793.symm))
    have gn795 : n0 ≤ b793 := Nat.le_trans Z790 (Nat.le_of_eq g793.symm)
    have f796 := f792.ext E793
    have Z797 : n0 ≤ h793.size := Nat.le_trans Z790 E793.1
    have f798 : Fld Z h793 b793 "com/example/sheafworks/sheafworks/storage/RangeCoder$Decoder" "range" "I" (.int (0 : Int32)) := D793 (Or.inl (hw _ (List.mem_of_getElem? (i := 16) rfl))) (ty := .int) (by decide)
    have f799 : Fld Z h793 b793 "com/example/sheafworks/sheafworks/storage/RangeCoder$Decoder" "in" "[B" .null := D793 (Or.inr (hw _ (List.mem_of_getElem? (i := 18) rfl))) (ty := (.array .byte)) (by decide)
    have f800 : Fld Z h793 b793 "com/example/sheafworks/sheafworks/storage/RangeCoder$Decoder" "position" "I" (.int (0 : Int32)) := D793 (Or.inl (hw _ (List.mem_of_getElem? (i := 20) rfl))) (ty := .int) (by decide)
    have f801 : Fld Z h793 b793 "com/example/sheafworks/sheafworks/storage/RangeCoder$Decoder" "end" "I" (.int (0 : Int32)) := D793 (Or.inr (hw _ (List.mem_of_getElem? (i := 22) rfl))) (ty := .int) (by decide)
    have f802 : Fld Z h793 b793 "com/example/sheafworks/sheafworks/storage/RangeCoder$Decoder" "code" "I" (.int (0 : Int32)) := D793 (Or.inl (hw _ (List.mem_of_getElem? (i := 28) rfl))) (ty := .int) (by decide)
    obtain ⟨_, _, ⟨T803, L803, k803, n803⟩, -, X803, ⟨Lc803, hQ803, l803, y803, z803⟩, st803⟩ := X793.specialBack hx (y := (⟨"com/example/sheafworks/sheafworks/storage/RangeCoder$Decoder", "<init>", "([BII)V"⟩ : MethodName)) rfl hown (mvT hZ (hw _ (List.mem_of_getElem? (i := 9) rfl))) (mvT hZ (hw _ (List.mem_of_getElem? (i := 10) rfl))) (mvT hZ (hw _ (List.mem_of_getElem? (i := 11) rfl))) (by decide) (backOf (W := 1) (rm2 l Z aw hw [] b793 r785 (2 : Int32) x689 kb785 ([(.int v0785), (.int v1785), (.int (0 : Int32)), (.int v3785), (.int v4785), (.int v5785), (.int v6785), (.int v7785), (.int v8785), (.int v9785), (.int v10785), (.int v11785)]) v3785 v4785 v5785 v6785 h793 n0 Z797 A793 f798 f799 f800 f801 f802 gn795 f796 (Ne.symm ne794) (by rw [hx689]; rcases h7 with q | q | q | q <;> rw [q] <;> decide) ⟨by decide, by decide⟩ rfl (by rw [hx689]; rcases h7 with q | q | q | q <;> rw [q] <;> decide) ⟨by decide, by decide⟩ rfl (by rw [hx689]; rcases h7 with q | q | q | q <;> rw [q] <;> decide) ⟨by decide, by decide⟩ rfl (by rw [hx689]; rcases h7 with q | q | q | q <;> rw [q] <;> decide) ⟨by decide, by decide⟩ rfl (by rw [hx689]; rcases h7 with q | q | q | q <;> rw [q] <;> decide) ⟨by decide, by decide⟩ rfl) hZ (hw _ (List.mem_of_getElem? (i := 11) rfl)) (hw _ (List.mem_of_getElem? (i := 8) rfl)) (by decide) (by decide)) (g := (mkF m 49 #[.val (.int p0), .val (.int p1), .val (.long q2), .second, .val (.int p3), .val (.int p4), .val (.int (2 : Int32)), .val (.int x687), .val (.int x689), .val (.ref r785), .unset, .unset] [(.int x689), (.int (2 : Int32)), (.ref r785), (.ref b793), (.ref b793)])) rfl (by rw [hml]; rfl) (Steps.refl _) (a := b793) (argsL := [(.ref r785), (.int (2 : Int32)), (.int x689)]) (rest := [(.ref b793)]) (lenOf pd_3 rfl) rfl (by show 2 * 0 + _ ≤ _; exact Nat.le_of_eq rfl) (hb hby at_49) (fun _ _ => ⟨rfl, e793, (by decide : 2 + 0 ≤ _), (by decide : 17 + 0 ≤ _)⟩)
    dsimp only [Pt.U, Pt.locs, Pt.cells, Pt.slots] at X803 l803 y803 z803 st803 hQ803
    replace l803 := l803.symm; replace y803 := y803.symm; replace z803 := z803.symm; subst l803 y803 z803
    obtain ⟨cv803, rfl, N803q, K803, f804, f805, f806, f807, f808, f809⟩ := hQ803
    have N803 := Fr.app N791 N803q
    have f810 := f796.keep K803 (ninS ne794 nin0)
    have Z811 : n0 ≤ T803.heap.size := Nat.le_trans Z797 K803.1
    obtain ⟨cq812, kq812, q812a, q812b, q812c⟩ := isOf hZ rfl f804
    obtain ⟨_, _, ⟨T812, L812, k812, n812⟩, -, X812, ⟨Lc812, hQ812, l812, y812, z812⟩, st812⟩ := X803.virtualBack hx (y := (⟨"com/example/sheafworks/sheafworks/storage/RangeCoder$Decoder", "atEnd", "()Z"⟩ : MethodName)) (z := (⟨"com/example/sheafworks/sheafworks/storage/RangeCoder$Decoder", "atEnd", "()Z"⟩ : MethodName)) hown (mvT hZ (hw _ (List.mem_of_getElem? (i := 29) rfl))) (mvT hZ (hw _ (List.mem_of_getElem? (i := 30) rfl))) (notFace_of_selects (args := #[]) (mvT hZ (hw _ (List.mem_of_getElem? (i := 32) rfl)))) (mvT hZ (hw _ (List.mem_of_getElem? (i := 32) rfl))) (mvT hZ (hw _ (List.mem_of_getElem? (i := 31) rfl))) (by decide) (backOf (W := 0) (rm5 l Z aw hw [] b793 (((((((2 : Int32) + (1 : Int32)) + (1 : Int32)) + (1 : Int32)) + (1 : Int32)) + (1 : Int32))) x689 T803.heap n0 Z811 f806 f807) hZ (hw _ (List.mem_of_getElem? (i := 33) rfl)) (hw _ (List.mem_of_getElem? (i := 8) rfl)) (by decide) (by decide)) q812a q812c (g := (mkF m 56 #[.val (.int p0), .val (.int p1), .val (.long q2), .second, .val (.int p3), .val (.int p4), .val (.int (2 : Int32)), .val (.int x687), .val (.int x689), .val (.ref r785), .val (.ref b793), .unset] [(.ref b793)])) rfl (by rw [hml]; rfl) (Steps.refl _) (argsL := []) (rest := []) (lenOf pd_4 rfl) rfl (by show 2 * 0 + _ ≤ _; exact Nat.le_of_eq rfl) (hb hby at_56) (fun _ _ => ⟨rfl, rfl, (by decide : 2 + 0 ≤ _), (by decide : 17 + 0 ≤ _)⟩)
    dsimp only [Pt.U, Pt.locs, Pt.cells, Pt.slots] at X812 l812 y812 z812 st812 hQ812
    replace l812 := l812.symm; replace y812 := y812.symm; replace z812 := z812.symm; subst l812 y812 z812
    obtain ⟨rfl, N812q, e812⟩ := hQ812
    have N812 := Fr.app N803 N812q
    obtain ⟨x814, hx814⟩ : ∃ z_ : Int32, z_ = (if x687 = (0 : Int32) then (1 : Int32) else (0 : Int32)) := ⟨_, rfl⟩
    have pre815 : ∀ t, Steps p.tables e below (T812.setTop (mkF m 69 #[.val (.int p0), .val (.int p1), .val (.long q2), .second, .val (.int p3), .val (.int p4), .val (.int (2 : Int32)), .val (.int x687), .val (.int x689), .val (.ref r785), .val (.ref b793), .unset] [(.int x814), (.int (if ((((((2 : Int32) + (1 : Int32)) + (1 : Int32)) + (1 : Int32)) + (1 : Int32)) + (1 : Int32)) = x689 then (1 : Int32) else (0 : Int32)))])) t → Steps p.tables e below (s₁.setTop (entryFrame m #[(.int p0), (.int p1), (.long q2), (.int p3), (.int p4)] maxLocals)) t := fun t k => by
      refine pre690 t ?_
      show Steps p.tables e below (s₁.setTop (mkF m 25 #[.val (.int p0), .val (.int p1), .val (.long q2), .second, .val (.int p3), .val (.int p4), .val (.int (2 : Int32)), .val (.int x687), .val (.int x689), .unset, .unset, .unset] [])) _
      refine XS.lloadN X0.here hx rfl (hb hby at_25) rfl ?_
      show Steps p.tables e below (s₁.setTop (mkF m 26 #[.val (.int p0), .val (.int p1), .val (.long q2), .second, .val (.int p3), .val (.int p4), .val (.int (2 : Int32)), .val (.int x687), .val (.int x689), .unset, .unset, .unset] [(.long q2)])) _
      refine XS.iload X0.here hx rfl (hb hby at_26) rfl ?_
      show Steps p.tables e below (s₁.setTop (mkF m 28 #[.val (.int p0), .val (.int p1), .val (.long q2), .second, .val (.int p3), .val (.int p4), .val (.int (2 : Int32)), .val (.int x687), .val (.int x689), .unset, .unset, .unset] [(.int p3), (.long q2)])) _
      refine st785 _ ?_
      show Steps p.tables e below (T785.setTop (mkF m 31 #[.val (.int p0), .val (.int p1), .val (.long q2), .second, .val (.int p3), .val (.int p4), .val (.int (2 : Int32)), .val (.int x687), .val (.int x689), .unset, .unset, .unset] [(.ref r785)])) _
      refine XS.astore X785.here hx rfl (hb hby at_31) rfl rfl (l' := #[.val (.int p0), .val (.int p1), .val (.long q2), .second, .val (.int p3), .val (.int p4), .val (.int (2 : Int32)), .val (.int x687), .val (.int x689), .val (.ref r785), .unset, .unset]) rfl ?_
      show Steps p.tables e below (T785.setTop (mkF m 33 #[.val (.int p0), .val (.int p1), .val (.long q2), .second, .val (.int p3), .val (.int p4), .val (.int (2 : Int32)), .val (.int x687), .val (.int x689), .val (.ref r785), .unset, .unset] [])) _
      refine XS.aload X785.here hx rfl (hb hby at_33) rfl rfl ?_
      show Steps p.tables e below (T785.setTop (mkF m 35 #[.val (.int p0), .val (.int p1), .val (.long q2), .second, .val (.int p3), .val (.int p4), .val (.int (2 : Int32)), .val (.int x687), .val (.int x689), .val (.ref r785), .unset, .unset] [(.ref r785)])) _
      refine XS.iload X785.here hx rfl (hb hby at_35) rfl ?_
      show Steps p.tables e below (T785.setTop (mkF m 37 #[.val (.int p0), .val (.int p1), .val (.long q2), .second, .val (.int p3), .val (.int p4), .val (.int (2 : Int32)), .val (.int x687), .val (.int x689), .val (.ref r785), .unset, .unset] [(.int (2 : Int32)), (.ref r785)])) _
      refine XS.iconst X785.here hx rfl (hb hby at_37) ?_
      show Steps p.tables e below (T785.setTop (mkF m 38 #[.val (.int p0), .val (.int p1), .val (.long q2), .second, .val (.int p3), .val (.int p4), .val (.int (2 : Int32)), .val (.int x687), .val (.int x689), .val (.ref r785), .unset, .unset] [(.int (0 : Int32)), (.int (2 : Int32)), (.ref r785)])) _
      refine st789 _ ?_
      show Steps p.tables e below (T789.setTop (mkF m 39 #[.val (.int p0), .val (.int p1), .val (.long q2), .second, .val (.int p3), .val (.int p4), .val (.int (2 : Int32)), .val (.int x687), .val (.int x689), .val (.ref r785), .unset, .unset] [])) _
      refine st793 _ ?_
      show Steps p.tables e below (T793.setTop (mkF m 42 #[.val (.int p0), .val (.int p1), .val (.long q2), .second, .val (.int p3), .val (.int p4), .val (.int (2 : Int32)), .val (.int x687), .val (.int x689), .val (.ref r785), .unset, .unset] [(.ref b793)])) _
      refine XS.dup X793.here hx rfl (hb hby at_42) rfl rfl ?_
      show Steps p.tables e below (T793.setTop (mkF m 43 #[.val (.int p0), .val (.int p1), .val (.long q2), .second, .val (.int p3), .val (.int p4), .val (.int (2 : Int32)), .val (.int x687), .val (.int x689), .val (.ref r785), .unset, .unset] [(.ref b793), (.ref b793)])) _
      refine XS.aload X793.here hx rfl (hb hby at_43) rfl rfl ?_
      show Steps p.tables e below (T793.setTop (mkF m 45 #[.val (.int p0), .val (.int p1), .val (.long q2), .second, .val (.int p3), .val (.int p4), .val (.int (2 : Int32)), .val (.int x687), .val (.int x689), .val (.ref r785), .unset, .unset] [(.ref r785), (.ref b793), (.ref b793)])) _
      refine XS.iload X793.here hx rfl (hb hby at_45) rfl ?_
      show Steps p.tables e below (T793.setTop (mkF m 47 #[.val (.int p0), .val (.int p1), .val (.long q2), .second, .val (.int p3), .val (.int p4), .val (.int (2 : Int32)), .val (.int x687), .val (.int x689), .val (.ref r785), .unset, .unset] [(.int (2 : Int32)), (.ref r785), (.ref b793), (.ref b793)])) _
      refine XS.iload X793.here hx rfl (hb hby at_47) rfl ?_
      show Steps p.tables e below (T793.setTop (mkF m 49 #[.val (.int p0), .val (.int p1), .val (.long q2), .second, .val (.int p3), .val (.int p4), .val (.int (2 : Int32)), .val (.int x687), .val (.int x689), .val (.ref r785), .unset, .unset] [(.int x689), (.int (2 : Int32)), (.ref r785), (.ref b793), (.ref b793)])) _
      refine st803.trans ?_
      show Steps p.tables e below (T803.setTop (mkF m 52 #[.val (.int p0), .val (.int p1), .val (.long q2), .second, .val (.int p3), .val (.int p4), .val (.int (2 : Int32)), .val (.int x687), .val (.int x689), .val (.ref r785), .unset, .unset] [(.ref b793)])) _
      refine XS.astore X803.here hx rfl (hb hby at_52) rfl rfl (l' := #[.val (.int p0), .val (.int p1), .val (.long q2), .second, .val (.int p3), .val (.int p4), .val (.int (2 : Int32)), .val (.int x687), .val (.int x689), .val (.ref r785), .val (.ref b793), .unset]) rfl ?_
      show Steps p.tables e below (T803.setTop (mkF m 54 #[.val (.int p0), .val (.int p1), .val (.long q2), .second, .val (.int p3), .val (.int p4), .val (.int (2 : Int32)), .val (.int x687), .val (.int x689), .val (.ref r785), .val (.ref b793), .unset] [])) _
      refine XS.aload X803.here hx rfl (hb hby at_54) rfl rfl ?_
      show Steps p.tables e below (T803.setTop (mkF m 56 #[.val (.int p0), .val (.int p1), .val (.long q2), .second, .val (.int p3), .val (.int p4), .val (.int (2 : Int32)), .val (.int x687), .val (.int x689), .val (.ref r785), .val (.ref b793), .unset] [(.ref b793)])) _
      refine st812.trans ?_
      show Steps p.tables e below (T812.setTop (mkF m 59 #[.val (.int p0), .val (.int p1), .val (.long q2), .second, .val (.int p3), .val (.int p4), .val (.int (2 : Int32)), .val (.int x687), .val (.int x689), .val (.ref r785), .val (.ref b793), .unset] [(.int (if ((((((2 : Int32) + (1 : Int32)) + (1 : Int32)) + (1 : Int32)) + (1 : Int32)) + (1 : Int32)) = x689 then (1 : Int32) else (0 : Int32)))])) _
      refine XS.iload X812.here hx rfl (hb hby at_59) rfl ?_
      by_cases c813 : x687 = (0 : Int32)
      ·
        show Steps p.tables e below (T812.setTop (mkF m 61 #[.val (.int p0), .val (.int p1), .val (.long q2), .second, .val (.int p3), .val (.int p4), .val (.int (2 : Int32)), .val (.int x687), .val (.int x689), .val (.ref r785), .val (.ref b793), .unset] [(.int x687), (.int (if ((((((2 : Int32) + (1 : Int32)) + (1 : Int32)) + (1 : Int32)) + (1 : Int32)) + (1 : Int32)) = x689 then (1 : Int32) else (0 : Int32)))])) _
        refine XS.ifNo X812.here hx rfl (hb hby at_61) rfl ((if0 _ _).trans (teq c813).2) ?_
        show Steps p.tables e below (T812.setTop (mkF m 64 #[.val (.int p0), .val (.int p1), .val (.long q2), .second, .val (.int p3), .val (.int p4), .val (.int (2 : Int32)), .val (.int x687), .val (.int x689), .val (.ref r785), .val (.ref b793), .unset] [(.int (if ((((((2 : Int32) + (1 : Int32)) + (1 : Int32)) + (1 : Int32)) + (1 : Int32)) + (1 : Int32)) = x689 then (1 : Int32) else (0 : Int32)))])) _
        refine XS.iconst X812.here hx rfl (hb hby at_64) ?_
        show Steps p.tables e below (T812.setTop (mkF m 65 #[.val (.int p0), .val (.int p1), .val (.long q2), .second, .val (.int p3), .val (.int p4), .val (.int (2 : Int32)), .val (.int x687), .val (.int x689), .val (.ref r785), .val (.ref b793), .unset] [(.int (1 : Int32)), (.int (if ((((((2 : Int32) + (1 : Int32)) + (1 : Int32)) + (1 : Int32)) + (1 : Int32)) + (1 : Int32)) = x689 then (1 : Int32) else (0 : Int32)))])) _
        refine XS.goto X812.here hx rfl (pc0 := 65) (pc' := 69) rfl (hb hby at_65) (by decide) (by decide) ?_
        rw [show x814 = (1 : Int32) from hx814.trans (by simp only [if_pos c813])] at k
        exact k
      ·
        show Steps p.tables e below (T812.setTop (mkF m 61 #[.val (.int p0), .val (.int p1), .val (.long q2), .second, .val (.int p3), .val (.int p4), .val (.int (2 : Int32)), .val (.int x687), .val (.int x689), .val (.ref r785), .val (.ref b793), .unset] [(.int x687), (.int (if ((((((2 : Int32) + (1 : Int32)) + (1 : Int32)) + (1 : Int32)) + (1 : Int32)) + (1 : Int32)) = x689 then (1 : Int32) else (0 : Int32)))])) _
        refine XS.ifYes X812.here hx rfl (pc0 := 61) (pc' := 68) rfl (hb hby at_61) rfl ((if0 _ _).trans (feq c813).2) (by decide) (by decide) ?_
        show Steps p.tables e below (T812.setTop (mkF m 68 #[.val (.int p0), .val (.int p1), .val (.long q2), .second, .val (.int p3), .val (.int p4), .val (.int (2 : Int32)), .val (.int x687), .val (.int x689), .val (.ref r785), .val (.ref b793), .unset] [(.int (if ((((((2 : Int32) + (1 : Int32)) + (1 : Int32)) + (1 : Int32)) + (1 : Int32)) + (1 : Int32)) = x689 then (1 : Int32) else (0 : Int32)))])) _
        refine XS.iconst X812.here hx rfl (hb hby at_68) ?_
        rw [show x814 = (0 : Int32) from hx814.trans (by simp only [if_neg c813])] at k
        exact k
    have c816 : (if ((((((2 : Int32) + (1 : Int32)) + (1 : Int32)) + (1 : Int32)) + (1 : Int32)) + (1 : Int32)) = x689 then (1 : Int32) else (0 : Int32)) = x814 := by
      rw [hx814, hx689]; rcases h7 with q | q | q | q <;> rw [q] <;> decide
    have pre817 : ∀ t, Steps p.tables e below (T812.setTop (mkF m 83 #[.val (.int p0), .val (.int p1), .val (.long q2), .second, .val (.int p3), .val (.int p4), .val (.int (2 : Int32)), .val (.int x687), .val (.int x689), .val (.ref r785), .val (.ref b793), .val (.int (1 : Int32))] [(.int (p4 &&& (1 : Int32)))])) t → Steps p.tables e below (s₁.setTop (entryFrame m #[(.int p0), (.int p1), (.long q2), (.int p3), (.int p4)] maxLocals)) t := fun t k => by
      refine pre815 t ?_
      show Steps p.tables e below (T812.setTop (mkF m 69 #[.val (.int p0), .val (.int p1), .val (.long q2), .second, .val (.int p3), .val (.int p4), .val (.int (2 : Int32)), .val (.int x687), .val (.int x689), .val (.ref r785), .val (.ref b793), .unset] [(.int x814), (.int (if ((((((2 : Int32) + (1 : Int32)) + (1 : Int32)) + (1 : Int32)) + (1 : Int32)) + (1 : Int32)) = x689 then (1 : Int32) else (0 : Int32)))])) _
      refine XS.icmpNo X812.here hx rfl (hb hby at_69) rfl (teq c816).2 ?_
      show Steps p.tables e below (T812.setTop (mkF m 72 #[.val (.int p0), .val (.int p1), .val (.long q2), .second, .val (.int p3), .val (.int p4), .val (.int (2 : Int32)), .val (.int x687), .val (.int x689), .val (.ref r785), .val (.ref b793), .unset] [])) _
      refine XS.iconst X812.here hx rfl (hb hby at_72) ?_
      show Steps p.tables e below (T812.setTop (mkF m 73 #[.val (.int p0), .val (.int p1), .val (.long q2), .second, .val (.int p3), .val (.int p4), .val (.int (2 : Int32)), .val (.int x687), .val (.int x689), .val (.ref r785), .val (.ref b793), .unset] [(.int (1 : Int32))])) _
      refine XS.goto X812.here hx rfl (pc0 := 73) (pc' := 77) rfl (hb hby at_73) (by decide) (by decide) ?_
      show Steps p.tables e below (T812.setTop (mkF m 77 #[.val (.int p0), .val (.int p1), .val (.long q2), .second, .val (.int p3), .val (.int p4), .val (.int (2 : Int32)), .val (.int x687), .val (.int x689), .val (.ref r785), .val (.ref b793), .unset] [(.int (1 : Int32))])) _
      refine XS.istore X812.here hx rfl (hb hby at_77) rfl (l' := #[.val (.int p0), .val (.int p1), .val (.long q2), .second, .val (.int p3), .val (.int p4), .val (.int (2 : Int32)), .val (.int x687), .val (.int x689), .val (.ref r785), .val (.ref b793), .val (.int (1 : Int32))]) rfl ?_
      show Steps p.tables e below (T812.setTop (mkF m 79 #[.val (.int p0), .val (.int p1), .val (.long q2), .second, .val (.int p3), .val (.int p4), .val (.int (2 : Int32)), .val (.int x687), .val (.int x689), .val (.ref r785), .val (.ref b793), .val (.int (1 : Int32))] [])) _
      refine XS.iload X812.here hx rfl (hb hby at_79) rfl ?_
      show Steps p.tables e below (T812.setTop (mkF m 81 #[.val (.int p0), .val (.int p1), .val (.long q2), .second, .val (.int p3), .val (.int p4), .val (.int (2 : Int32)), .val (.int x687), .val (.int x689), .val (.ref r785), .val (.ref b793), .val (.int (1 : Int32))] [(.int p4)])) _
      refine XS.iconst X812.here hx rfl (hb hby at_81) ?_
      show Steps p.tables e below (T812.setTop (mkF m 82 #[.val (.int p0), .val (.int p1), .val (.long q2), .second, .val (.int p3), .val (.int p4), .val (.int (2 : Int32)), .val (.int x687), .val (.int x689), .val (.ref r785), .val (.ref b793), .val (.int (1 : Int32))] [(.int (1 : Int32)), (.int p4)])) _
      refine XS.iand X812.here hx rfl (hb hby at_82) rfl ?_
      exact k
    by_cases c818 : (p4 &&& (1 : Int32)) = (0 : Int32)
    ·
      obtain ⟨fs, hr, hrun, hended, hW, hsame⟩ := X812.leave (v := some (.int (1 : Int32))) (fun h => by rw [Bd.returns] at h; cases h)
      refine ⟨_, _, pre817 _ ?_, hrun, hended, _, _, rfl, ?_, ⟨_, rfl⟩, hW, hsame.mono (by decide) (by decide)⟩
      ·
        show Steps p.tables e below (T812.setTop (mkF m 83 #[.val (.int p0), .val (.int p1), .val (.long q2), .second, .val (.int p3), .val (.int p4), .val (.int (2 : Int32)), .val (.int x687), .val (.int x689), .val (.ref r785), .val (.ref b793), .val (.int (1 : Int32))] [(.int (p4 &&& (1 : Int32)))])) _
        refine XS.ifYes X812.here hx rfl (pc0 := 83) (pc' := 131) rfl (hb hby at_83) rfl ((if0 _ _).trans (teq c818).1) (by decide) (by decide) ?_
        show Steps p.tables e below (T812.setTop (mkF m 131 #[.val (.int p0), .val (.int p1), .val (.long q2), .second, .val (.int p3), .val (.int p4), .val (.int (2 : Int32)), .val (.int x687), .val (.int x689), .val (.ref r785), .val (.ref b793), .val (.int (1 : Int32))] [])) _
        refine XS.iload X812.here hx rfl (hb hby at_131) rfl ?_
        show Steps p.tables e below (T812.setTop (mkF m 133 #[.val (.int p0), .val (.int p1), .val (.long q2), .second, .val (.int p3), .val (.int p4), .val (.int (2 : Int32)), .val (.int x687), .val (.int x689), .val (.ref r785), .val (.ref b793), .val (.int (1 : Int32))] [(.int (1 : Int32))])) _
        exact retZ X812 hx Bd.returns (by decide) (hb hby at_133) hr
      ·
        show Q_rm0 Z p0 p1 q2 p3 p4 h0 n0 _ T812.heap _
        rw [e812]
        exact ⟨rfl, N812⟩
    ·
      have pre819 : ∀ t, Steps p.tables e below (T812.setTop (mkF m 89 #[.val (.int p0), .val (.int p1), .val (.long q2), .second, .val (.int p3), .val (.int p4), .val (.int (2 : Int32)), .val (.int x687), .val (.int x689), .val (.ref r785), .val (.ref b793), .val (.int (1 : Int32))] [(.int (1 : Int32)), (.int x687)])) t → Steps p.tables e below (s₁.setTop (entryFrame m #[(.int p0), (.int p1), (.long q2), (.int p3), (.int p4)] maxLocals)) t := fun t k => by
        refine pre817 t ?_
        show Steps p.tables e below (T812.setTop (mkF m 83 #[.val (.int p0), .val (.int p1), .val (.long q2), .second, .val (.int p3), .val (.int p4), .val (.int (2 : Int32)), .val (.int x687), .val (.int x689), .val (.ref r785), .val (.ref b793), .val (.int (1 : Int32))] [(.int (p4 &&& (1 : Int32)))])) _
        refine XS.ifNo X812.here hx rfl (hb hby at_83) rfl ((if0 _ _).trans (feq c818).1) ?_
        show Steps p.tables e below (T812.setTop (mkF m 86 #[.val (.int p0), .val (.int p1), .val (.long q2), .second, .val (.int p3), .val (.int p4), .val (.int (2 : Int32)), .val (.int x687), .val (.int x689), .val (.ref r785), .val (.ref b793), .val (.int (1 : Int32))] [])) _
        refine XS.iload X812.here hx rfl (hb hby at_86) rfl ?_
        show Steps p.tables e below (T812.setTop (mkF m 88 #[.val (.int p0), .val (.int p1), .val (.long q2), .second, .val (.int p3), .val (.int p4), .val (.int (2 : Int32)), .val (.int x687), .val (.int x689), .val (.ref r785), .val (.ref b793), .val (.int (1 : Int32))] [(.int x687)])) _
        refine XS.iconst X812.here hx rfl (hb hby at_88) ?_
        exact k
      by_cases c820 : x687 < (1 : Int32)
      ·
        obtain ⟨fs, hr, hrun, hended, hW, hsame⟩ := X812.leave (v := some (.int (1 : Int32))) (fun h => by rw [Bd.returns] at h; cases h)
        refine ⟨_, _, pre819 _ ?_, hrun, hended, _, _, rfl, ?_, ⟨_, rfl⟩, hW, hsame.mono (by decide) (by decide)⟩
        ·
          show Steps p.tables e below (T812.setTop (mkF m 89 #[.val (.int p0), .val (.int p1), .val (.long q2), .second, .val (.int p3), .val (.int p4), .val (.int (2 : Int32)), .val (.int x687), .val (.int x689), .val (.ref r785), .val (.ref b793), .val (.int (1 : Int32))] [(.int (1 : Int32)), (.int x687)])) _
          refine XS.icmpYes X812.here hx rfl (pc0 := 89) (pc' := 131) rfl (hb hby at_89) rfl (tlt c820).1 (by decide) (by decide) ?_
          show Steps p.tables e below (T812.setTop (mkF m 131 #[.val (.int p0), .val (.int p1), .val (.long q2), .second, .val (.int p3), .val (.int p4), .val (.int (2 : Int32)), .val (.int x687), .val (.int x689), .val (.ref r785), .val (.ref b793), .val (.int (1 : Int32))] [])) _
          refine XS.iload X812.here hx rfl (hb hby at_131) rfl ?_
          show Steps p.tables e below (T812.setTop (mkF m 133 #[.val (.int p0), .val (.int p1), .val (.long q2), .second, .val (.int p3), .val (.int p4), .val (.int (2 : Int32)), .val (.int x687), .val (.int x689), .val (.ref r785), .val (.ref b793), .val (.int (1 : Int32))] [(.int (1 : Int32))])) _
          exact retZ X812 hx Bd.returns (by decide) (hb hby at_133) hr
        ·
          show Q_rm0 Z p0 p1 q2 p3 p4 h0 n0 _ T812.heap _
          rw [e812]
          exact ⟨rfl, N812⟩
      ·
        obtain ⟨cq821, kq821, q821a, q821b, q821c⟩ := isOf hZ e812 f804
        obtain ⟨_, _, ⟨T821, L821, k821, n821⟩, -, X821, ⟨Lc821, hQ821, l821, y821, z821⟩, st821⟩ := X812.virtualBack hx (y := (⟨"com/example/sheafworks/sheafworks/storage/RangeCoder$Decoder", "direct", "(I)I"⟩ : MethodName)) (z := (⟨"com/example/sheafworks/sheafworks/storage/RangeCoder$Decoder", "direct", "(I)I"⟩ : MethodName)) hown (mvT hZ (hw _ (List.mem_of_getElem? (i := 34) rfl))) (mvT hZ (hw _ (List.mem_of_getElem? (i := 35) rfl))) (notFace_of_selects (args := #[]) (mvT hZ (hw _ (List.mem_of_getElem? (i := 37) rfl)))) (mvT hZ (hw _ (List.mem_of_getElem? (i := 37) rfl))) (mvT hZ (hw _ (List.mem_of_getElem? (i := 36) rfl))) (by decide) (backOf (W := 0) (rm6 l Z aw hw [] b793 r785 kb785 ([(.int v0785), (.int v1785), (.int (0 : Int32)), (.int v3785), (.int v4785), (.int v5785), (.int v6785), (.int v7785), (.int v8785), (.int v9785), (.int v10785), (.int v11785)]) (((((((2 : Int32) + (1 : Int32)) + (1 : Int32)) + (1 : Int32)) + (1 : Int32)) + (1 : Int32))) x689 cv803 v7785 T803.heap n0 Z811 f804 f805 f806 f807 f808 f809 gn795 f810 (Ne.symm ne794) (by rw [hx689]; intro e; exact c820 (by rcases h7 with q | q | q | q <;> rw [q] at e ⊢ <;> revert e <;> decide)) ⟨by decide, by decide⟩ rfl) hZ (hw _ (List.mem_of_getElem? (i := 38) rfl)) (hw _ (List.mem_of_getElem? (i := 8) rfl)) (by decide) (by decide)) q821a q821c (g := (mkF m 96 #[.val (.int p0), .val (.int p1), .val (.long q2), .second, .val (.int p3), .val (.int p4), .val (.int (2 : Int32)), .val (.int x687), .val (.int x689), .val (.ref r785), .val (.ref b793), .val (.int (1 : Int32))] [(.int (8 : Int32)), (.ref b793)])) rfl (by rw [hml]; rfl) (Steps.refl _) (argsL := [(.int (8 : Int32))]) (rest := []) (lenOf pd_5 rfl) rfl (by show 2 * 0 + _ ≤ _; exact Nat.le_of_eq rfl) (hb hby at_96) (fun _ _ => ⟨rfl, e812, (by decide : 2 + 0 ≤ _), (by decide : 17 + 0 ≤ _)⟩)
        dsimp only [Pt.U, Pt.locs, Pt.cells, Pt.slots] at X821 l821 y821 z821 st821 hQ821
        replace l821 := l821.symm; replace y821 := y821.symm; replace z821 := z821.symm; subst l821 y821 z821
        obtain ⟨rv821, rfl, N821q, K821, f822, f823, f824⟩ := hQ821
        have N821 := Fr.app N812 N821q
        have f825 := f810.keep K821 (ninS ne794 nin0)
        have Z826 : n0 ≤ T821.heap.size := Nat.le_trans Z811 K821.1
        obtain ⟨cq827, kq827, q827a, q827b, q827c⟩ := isOf hZ rfl f822
        obtain ⟨_, _, ⟨T827, L827, k827, n827⟩, -, X827, ⟨Lc827, hQ827, l827, y827, z827⟩, st827⟩ := X821.virtualBack hx (y := (⟨"com/example/sheafworks/sheafworks/storage/RangeCoder$Decoder", "atEnd", "()Z"⟩ : MethodName)) (z := (⟨"com/example/sheafworks/sheafworks/storage/RangeCoder$Decoder", "atEnd", "()Z"⟩ : MethodName)) hown (mvT hZ (hw _ (List.mem_of_getElem? (i := 29) rfl))) (mvT hZ (hw _ (List.mem_of_getElem? (i := 30) rfl))) (notFace_of_selects (args := #[]) (mvT hZ (hw _ (List.mem_of_getElem? (i := 32) rfl)))) (mvT hZ (hw _ (List.mem_of_getElem? (i := 32) rfl))) (mvT hZ (hw _ (List.mem_of_getElem? (i := 31) rfl))) (by decide) (backOf (W := 0) (rm5 l Z aw hw [] b793 ((((((((2 : Int32) + (1 : Int32)) + (1 : Int32)) + (1 : Int32)) + (1 : Int32)) + (1 : Int32)) + (1 : Int32))) x689 T821.heap n0 Z826 f823 f824) hZ (hw _ (List.mem_of_getElem? (i := 33) rfl)) (hw _ (List.mem_of_getElem? (i := 8) rfl)) (by decide) (by decide)) q827a q827c (g := (mkF m 107 #[.val (.int p0), .val (.int p1), .val (.long q2), .second, .val (.int p3), .val (.int p4), .val (.int (2 : Int32)), .val (.int x687), .val (.int x689), .val (.ref r785), .val (.ref b793), .val (.int (1 : Int32))] [(.ref b793)])) rfl (by rw [hml]; rfl) (Steps.refl _) (argsL := []) (rest := []) (lenOf pd_4 rfl) rfl (by show 2 * 0 + _ ≤ _; exact Nat.le_of_eq rfl) (hb hby at_107) (fun _ _ => ⟨rfl, rfl, (by decide : 2 + 0 ≤ _), (by decide : 17 + 0 ≤ _)⟩)
        dsimp only [Pt.U, Pt.locs, Pt.cells, Pt.slots] at X827 l827 y827 z827 st827 hQ827
        replace l827 := l827.symm; replace y827 := y827.symm; replace z827 := z827.symm; subst l827 y827 z827
        obtain ⟨rfl, N827q, e827⟩ := hQ827
        have N827 := Fr.app N821 N827q
        obtain ⟨x829, hx829⟩ : ∃ z_ : Int32, z_ = (if x687 = (1 : Int32) then (1 : Int32) else (0 : Int32)) := ⟨_, rfl⟩
        have pre830 : ∀ t, Steps p.tables e below (T827.setTop (mkF m 121 #[.val (.int p0), .val (.int p1), .val (.long q2), .second, .val (.int p3), .val (.int p4), .val (.int (2 : Int32)), .val (.int x687), .val (.int x689), .val (.ref r785), .val (.ref b793), .val (.int (1 : Int32))] [(.int x829), (.int (if (((((((2 : Int32) + (1 : Int32)) + (1 : Int32)) + (1 : Int32)) + (1 : Int32)) + (1 : Int32)) + (1 : Int32)) = x689 then (1 : Int32) else (0 : Int32)))])) t → Steps p.tables e below (s₁.setTop (entryFrame m #[(.int p0), (.int p1), (.long q2), (.int p3), (.int p4)] maxLocals)) t := fun t k => by
          refine pre819 t ?_
          show Steps p.tables e below (T812.setTop (mkF m 89 #[.val (.int p0), .val (.int p1), .val (.long q2), .second, .val (.int p3), .val (.int p4), .val (.int (2 : Int32)), .val (.int x687), .val (.int x689), .val (.ref r785), .val (.ref b793), .val (.int (1 : Int32))] [(.int (1 : Int32)), (.int x687)])) _
          refine XS.icmpNo X812.here hx rfl (hb hby at_89) rfl (flt c820).1 ?_
          show Steps p.tables e below (T812.setTop (mkF m 92 #[.val (.int p0), .val (.int p1), .val (.long q2), .second, .val (.int p3), .val (.int p4), .val (.int (2 : Int32)), .val (.int x687), .val (.int x689), .val (.ref r785), .val (.ref b793), .val (.int (1 : Int32))] [])) _
          refine XS.aload X812.here hx rfl (hb hby at_92) rfl rfl ?_
          show Steps p.tables e below (T812.setTop (mkF m 94 #[.val (.int p0), .val (.int p1), .val (.long q2), .second, .val (.int p3), .val (.int p4), .val (.int (2 : Int32)), .val (.int x687), .val (.int x689), .val (.ref r785), .val (.ref b793), .val (.int (1 : Int32))] [(.ref b793)])) _
          refine XS.bipush X812.here hx rfl (hb hby at_94) ?_
          show Steps p.tables e below (T812.setTop (mkF m 96 #[.val (.int p0), .val (.int p1), .val (.long q2), .second, .val (.int p3), .val (.int p4), .val (.int (2 : Int32)), .val (.int x687), .val (.int x689), .val (.ref r785), .val (.ref b793), .val (.int (1 : Int32))] [(.int (8 : Int32)), (.ref b793)])) _
          refine st821.trans ?_
          show Steps p.tables e below (T821.setTop (mkF m 99 #[.val (.int p0), .val (.int p1), .val (.long q2), .second, .val (.int p3), .val (.int p4), .val (.int (2 : Int32)), .val (.int x687), .val (.int x689), .val (.ref r785), .val (.ref b793), .val (.int (1 : Int32))] [(.int rv821)])) _
          refine XS.pop X821.here hx rfl (hb hby at_99) rfl rfl ?_
          show Steps p.tables e below (T821.setTop (mkF m 100 #[.val (.int p0), .val (.int p1), .val (.long q2), .second, .val (.int p3), .val (.int p4), .val (.int (2 : Int32)), .val (.int x687), .val (.int x689), .val (.ref r785), .val (.ref b793), .val (.int (1 : Int32))] [])) _
          refine XS.iload X821.here hx rfl (hb hby at_100) rfl ?_
          show Steps p.tables e below (T821.setTop (mkF m 102 #[.val (.int p0), .val (.int p1), .val (.long q2), .second, .val (.int p3), .val (.int p4), .val (.int (2 : Int32)), .val (.int x687), .val (.int x689), .val (.ref r785), .val (.ref b793), .val (.int (1 : Int32))] [(.int (1 : Int32))])) _
          refine XS.ifNo X821.here hx rfl (hb hby at_102) rfl ((if0 _ _).trans (feq (by decide)).1) ?_
          show Steps p.tables e below (T821.setTop (mkF m 105 #[.val (.int p0), .val (.int p1), .val (.long q2), .second, .val (.int p3), .val (.int p4), .val (.int (2 : Int32)), .val (.int x687), .val (.int x689), .val (.ref r785), .val (.ref b793), .val (.int (1 : Int32))] [])) _
          refine XS.aload X821.here hx rfl (hb hby at_105) rfl rfl ?_
          show Steps p.tables e below (T821.setTop (mkF m 107 #[.val (.int p0), .val (.int p1), .val (.long q2), .second, .val (.int p3), .val (.int p4), .val (.int (2 : Int32)), .val (.int x687), .val (.int x689), .val (.ref r785), .val (.ref b793), .val (.int (1 : Int32))] [(.ref b793)])) _
          refine st827.trans ?_
          show Steps p.tables e below (T827.setTop (mkF m 110 #[.val (.int p0), .val (.int p1), .val (.long q2), .second, .val (.int p3), .val (.int p4), .val (.int (2 : Int32)), .val (.int x687), .val (.int x689), .val (.ref r785), .val (.ref b793), .val (.int (1 : Int32))] [(.int (if (((((((2 : Int32) + (1 : Int32)) + (1 : Int32)) + (1 : Int32)) + (1 : Int32)) + (1 : Int32)) + (1 : Int32)) = x689 then (1 : Int32) else (0 : Int32)))])) _
          refine XS.iload X827.here hx rfl (hb hby at_110) rfl ?_
          show Steps p.tables e below (T827.setTop (mkF m 112 #[.val (.int p0), .val (.int p1), .val (.long q2), .second, .val (.int p3), .val (.int p4), .val (.int (2 : Int32)), .val (.int x687), .val (.int x689), .val (.ref r785), .val (.ref b793), .val (.int (1 : Int32))] [(.int x687), (.int (if (((((((2 : Int32) + (1 : Int32)) + (1 : Int32)) + (1 : Int32)) + (1 : Int32)) + (1 : Int32)) + (1 : Int32)) = x689 then (1 : Int32) else (0 : Int32)))])) _
          refine XS.iconst X827.here hx rfl (hb hby at_112) ?_
          by_cases c828 : x687 = (1 : Int32)
          ·
            show Steps p.tables e below (T827.setTop (mkF m 113 #[.val (.int p0), .val (.int p1), .val (.long q2), .second, .val (.int p3), .val (.int p4), .val (.int (2 : Int32)), .val (.int x687), .val (.int x689), .val (.ref r785), .val (.ref b793), .val (.int (1 : Int32))] [(.int (1 : Int32)), (.int x687), (.int (if (((((((2 : Int32) + (1 : Int32)) + (1 : Int32)) + (1 : Int32)) + (1 : Int32)) + (1 : Int32)) + (1 : Int32)) = x689 then (1 : Int32) else (0 : Int32)))])) _
            refine XS.icmpNo X827.here hx rfl (hb hby at_113) rfl (teq c828).2 ?_
            show Steps p.tables e below (T827.setTop (mkF m 116 #[.val (.int p0), .val (.int p1), .val (.long q2), .second, .val (.int p3), .val (.int p4), .val (.int (2 : Int32)), .val (.int x687), .val (.int x689), .val (.ref r785), .val (.ref b793), .val (.int (1 : Int32))] [(.int (if (((((((2 : Int32) + (1 : Int32)) + (1 : Int32)) + (1 : Int32)) + (1 : Int32)) + (1 : Int32)) + (1 : Int32)) = x689 then (1 : Int32) else (0 : Int32)))])) _
            refine XS.iconst X827.here hx rfl (hb hby at_116) ?_
            show Steps p.tables e below (T827.setTop (mkF m 117 #[.val (.int p0), .val (.int p1), .val (.long q2), .second, .val (.int p3), .val (.int p4), .val (.int (2 : Int32)), .val (.int x687), .val (.int x689), .val (.ref r785), .val (.ref b793), .val (.int (1 : Int32))] [(.int (1 : Int32)), (.int (if (((((((2 : Int32) + (1 : Int32)) + (1 : Int32)) + (1 : Int32)) + (1 : Int32)) + (1 : Int32)) + (1 : Int32)) = x689 then (1 : Int32) else (0 : Int32)))])) _
            refine XS.goto X827.here hx rfl (pc0 := 117) (pc' := 121) rfl (hb hby at_117) (by decide) (by decide) ?_
            rw [show x829 = (1 : Int32) from hx829.trans (by simp only [if_pos c828])] at k
            exact k
          ·
            show Steps p.tables e below (T827.setTop (mkF m 113 #[.val (.int p0), .val (.int p1), .val (.long q2), .second, .val (.int p3), .val (.int p4), .val (.int (2 : Int32)), .val (.int x687), .val (.int x689), .val (.ref r785), .val (.ref b793), .val (.int (1 : Int32))] [(.int (1 : Int32)), (.int x687), (.int (if (((((((2 : Int32) + (1 : Int32)) + (1 : Int32)) + (1 : Int32)) + (1 : Int32)) + (1 : Int32)) + (1 : Int32)) = x689 then (1 : Int32) else (0 : Int32)))])) _
            refine XS.icmpYes X827.here hx rfl (pc0 := 113) (pc' := 120) rfl (hb hby at_113) rfl (feq c828).2 (by decide) (by decide) ?_
            show Steps p.tables e below (T827.setTop (mkF m 120 #[.val (.int p0), .val (.int p1), .val (.long q2), .second, .val (.int p3), .val (.int p4), .val (.int (2 : Int32)), .val (.int x687), .val (.int x689), .val (.ref r785), .val (.ref b793), .val (.int (1 : Int32))] [(.int (if (((((((2 : Int32) + (1 : Int32)) + (1 : Int32)) + (1 : Int32)) + (1 : Int32)) + (1 : Int32)) + (1 : Int32)) = x689 then (1 : Int32) else (0 : Int32)))])) _
            refine XS.iconst X827.here hx rfl (hb hby at_120) ?_
            rw [show x829 = (0 : Int32) from hx829.trans (by simp only [if_neg c828])] at k
            exact k
        have c831 : (if (((((((2 : Int32) + (1 : Int32)) + (1 : Int32)) + (1 : Int32)) + (1 : Int32)) + (1 : Int32)) + (1 : Int32)) = x689 then (1 : Int32) else (0 : Int32)) = x829 := by
          rw [hx829, hx689]; rcases h7 with q | q | q | q <;> rw [q] <;> decide
        obtain ⟨fs, hr, hrun, hended, hW, hsame⟩ := X827.leave (v := some (.int (1 : Int32))) (fun h => by rw [Bd.returns] at h; cases h)
        refine ⟨_, _, pre830 _ ?_, hrun, hended, _, _, rfl, ?_, ⟨_, rfl⟩, hW, hsame.mono (by decide) (by decide)⟩
        ·
          show Steps p.tables e below (T827.setTop (mkF m 121 #[.val (.int p0), .val (.int p1), .val (.long q2), .second, .val (.int p3), .val (.int p4), .val (.int (2 : Int32)), .val (.int x687), .val (.int x689), .val (.ref r785), .val (.ref b793), .val (.int (1 : Int32))] [(.int x829), (.int (if (((((((2 : Int32) + (1 : Int32)) + (1 : Int32)) + (1 : Int32)) + (1 : Int32)) + (1 : Int32)) + (1 : Int32)) = x689 then (1 : Int32) else (0 : Int32)))])) _
          refine XS.icmpNo X827.here hx rfl (hb hby at_121) rfl (teq c831).2 ?_
          show Steps p.tables e below (T827.setTop (mkF m 124 #[.val (.int p0), .val (.int p1), .val (.long q2), .second, .val (.int p3), .val (.int p4), .val (.int (2 : Int32)), .val (.int x687), .val (.int x689), .val (.ref r785), .val (.ref b793), .val (.int (1 : Int32))] [])) _
          refine XS.iconst X827.here hx rfl (hb hby at_124) ?_
          show Steps p.tables e below (T827.setTop (mkF m 125 #[.val (.int p0), .val (.int p1), .val (.long q2), .second, .val (.int p3), .val (.int p4), .val (.int (2 : Int32)), .val (.int x687), .val (.int x689), .val (.ref r785), .val (.ref b793), .val (.int (1 : Int32))] [(.int (1 : Int32))])) _
          refine XS.goto X827.here hx rfl (pc0 := 125) (pc' := 129) rfl (hb hby at_125) (by decide) (by decide) ?_
          show Steps p.tables e below (T827.setTop (mkF m 129 #[.val (.int p0), .val (.int p1), .val (.long q2), .second, .val (.int p3), .val (.int p4), .val (.int (2 : Int32)), .val (.int x687), .val (.int x689), .val (.ref r785), .val (.ref b793), .val (.int (1 : Int32))] [(.int (1 : Int32))])) _
          refine XS.istore X827.here hx rfl (hb hby at_129) rfl (l' := #[.val (.int p0), .val (.int p1), .val (.long q2), .second, .val (.int p3), .val (.int p4), .val (.int (2 : Int32)), .val (.int x687), .val (.int x689), .val (.ref r785), .val (.ref b793), .val (.int (1 : Int32))]) rfl ?_
          show Steps p.tables e below (T827.setTop (mkF m 131 #[.val (.int p0), .val (.int p1), .val (.long q2), .second, .val (.int p3), .val (.int p4), .val (.int (2 : Int32)), .val (.int x687), .val (.int x689), .val (.ref r785), .val (.ref b793), .val (.int (1 : Int32))] [])) _
          refine XS.iload X827.here hx rfl (hb hby at_131) rfl ?_
          show Steps p.tables e below (T827.setTop (mkF m 133 #[.val (.int p0), .val (.int p1), .val (.long q2), .second, .val (.int p3), .val (.int p4), .val (.int (2 : Int32)), .val (.int x687), .val (.int x689), .val (.ref r785), .val (.ref b793), .val (.int (1 : Int32))] [(.int (1 : Int32))])) _
          exact retZ X827 hx Bd.returns (by decide) (hb hby at_133) hr
        ·
          show Q_rm0 Z p0 p1 q2 p3 p4 h0 n0 _ T827.heap _
          rw [e827]
          exact ⟨rfl, N827⟩
  ·
    obtain rfl : x685 = (3 : Int32) := q
    obtain ⟨_, _, ⟨T832, L832, k832, n832⟩, -, X832, ⟨Lc832, hQ832, l832, y832, z832⟩, st832⟩ := Jvm.LawKit.callS X0 hx (y := (⟨"com/example/sheafworks/sheafworks/storage/DecoderAtEndPinLaw", "bytes", "(JI)[B"⟩ : MethodName)) hown (mvT hZ (hw _ (List.mem_of_getElem? (i := 1) rfl))) (mvT hZ (hw _ (List.mem_of_getElem? (i := 2) rfl))) (mvT hZ (hw _ (List.mem_of_getElem? (i := 3) rfl))) (mvT hZ (hw _ (List.mem_of_getElem? (i := 4) rfl))) (by decide) (backOf (W := 0) (rm1 l Z aw hw [] q2 p3 h0 n0 Z0) hZ (hw _ (List.mem_of_getElem? (i := 4) rfl)) (hw _ (List.mem_of_getElem? (i := 3) rfl)) (by decide) (by decide)) (g := (mkF m 28 #[.val (.int p0), .val (.int p1), .val (.long q2), .second, .val (.int p3), .val (.int p4), .val (.int (3 : Int32)), .val (.int x687), .val (.int x689), .unset, .unset, .unset] [(.int p3), (.long q2)])) rfl (by rw [hml]; rfl) (argsL := [(.long q2), (.int p3)]) (rest := []) (lenOf pd_2 rfl) rfl (by show 2 * 0 + _ ≤ _; exact Nat.le_of_eq rfl) (hb hby at_28) (fun _ _ => ⟨rfl, e0, (by decide : 0 + 1 ≤ _), (by decide : 0 + 12 ≤ _)⟩)
    dsimp only [Pt.U, Pt.locs, Pt.cells, Pt.slots] at X832 l832 y832 z832 st832 hQ832
    replace l832 := l832.symm; replace y832 := y832.symm; replace z832 := z832.symm; subst l832 y832 z832
    obtain ⟨r832, kb832, v0832, v1832, v2832, v3832, v4832, v5832, v6832, v7832, v8832, v9832, v10832, v11832, rfl, N832q, K832, sz832, f833⟩ := hQ832
    have N832 := Fr.app N0 N832q
    have gn834 : n0 ≤ r832 := Nat.le_trans Z0 sz832
    have Z835 : n0 ≤ T832.heap.size := Nat.le_trans Z0 K832.1
    obtain ⟨cl836, Ar836, q836, S836, N836, H836, G836⟩ := id f833
    have hin836 : ¬ ((3 : Int32) < 0 ∨ cl836.slots.size ≤ ((3 : Int32)).toNatClampNeg) := inb_of S836 ⟨by decide, by decide⟩
    obtain ⟨T836, h836, X836, e836, W836, st836⟩ := stB X832 hx hZ rfl Ar836 (j := (3 : Int32)) hin836 (g := (mkF m 38 #[.val (.int p0), .val (.int p1), .val (.long q2), .second, .val (.int p3), .val (.int p4), .val (.int (3 : Int32)), .val (.int x687), .val (.int x689), .val (.ref r832), .unset, .unset] [(.int (0 : Int32)), (.int (3 : Int32)), (.ref r832)])) rfl rfl (hb hby at_38)
    have Z837 : n0 ≤ h836.size := Nat.le_trans Z835 (Keep.of_wr W836).1
    have N838 := Fr.snoc X836 N832 gn834
    have f839 : Arv Z h836 r832 kb832 .byte (12 : Int32) [(.int v0832), (.int v1832), (.int v2832), (.int (0 : Int32)), (.int v4832), (.int v5832), (.int v6832), (.int v7832), (.int v8832), (.int v9832), (.int v10832), (.int v11832)] (.int (0 : Int32)) := Arv.set Ar836 q836 S836 N836 H836 G836 (fits_nar_byte _) W836 3 rfl (Nat.le_of_ble_eq_true rfl)
    obtain ⟨T840, h840, X840, e840, E840, A840, D840, -, st840⟩ := newO X836 hx hZ hown (hw _ (List.mem_of_getElem? (i := 6) rfl)) (hw _ (List.mem_of_getElem? (i := 7) rfl)) (hw _ (List.mem_of_getElem? (i := 8) rfl)) e836 (g := (mkF m 39 #[.val (.int p0), .val (.int p1), .val (.long q2), .second, .val (.int p3), .val (.int p4), .val (.int (3 : Int32)), .val (.int x687), .val (.int x689), .val (.ref r832), .unset, .unset] [])) rfl (hb hby at_39) (by decide) (by decide)
    obtain ⟨b840, g840⟩ : ∃ z_, z_ = h836.size := ⟨_, rfl⟩
    rw [← g840] at A840 D840 st840
    have ne841 : r832 ≠ b840 := Nat.ne_of_lt (Nat.lt_of_lt_of_le f839.lt (Nat.le_of_eq g840.symm))
    have gn842 : n0 ≤ b840 := Nat.le_trans Z837 (Nat.le_of_eq g840.symm)
    have f843 := f839.ext E840
    have Z844 : n0 ≤ h840.size := Nat.le_trans Z837 E840.1
    have f845 : Fld Z h840 b840 "com/example/sheafworks/sheafworks/storage/RangeCoder$Decoder" "range" "I" (.int (0 : Int32)) := D840 (Or.inl (hw _ (List.mem_of_getElem? (i := 16) rfl))) (ty := .int) (by decide)
    have f846 : Fld Z h840 b840 "com/example/sheafworks/sheafworks/storage/RangeCoder$Decoder" "in" "[B" .null := D840 (Or.inr (hw _ (List.mem_of_getElem? (i := 18) rfl))) (ty := (.array .byte)) (by decide)
    have f847 : Fld Z h840 b840 "com/example/sheafworks/sheafworks/storage/RangeCoder$Decoder" "position" "I" (.int (0 : Int32)) := D840 (Or.inl (hw _ (List.mem_of_getElem? (i := 20) rfl))) (ty := .int) (by decide)
    have f848 : Fld Z h840 b840 "com/example/sheafworks/sheafworks/storage/RangeCoder$Decoder" "end" "I" (.int (0 : Int32)) := D840 (Or.inr (hw _ (List.mem_of_getElem? (i := 22) rfl))) (ty := .int) (by decide)
    have f849 : Fld Z h840 b840 "com/example/sheafworks/sheafworks/storage/RangeCoder$Decoder" "code" "I" (.int (0 : Int32)) := D840 (Or.inl (hw _ (List.mem_of_getElem? (i := 28) rfl))) (ty := .int) (by decide)
    obtain ⟨_, _, ⟨T850, L850, k850, n850⟩, -, X850, ⟨Lc850, hQ850, l850, y850, z850⟩, st850⟩ := X840.specialBack hx (y := (⟨"com/example/sheafworks/sheafworks/storage/RangeCoder$Decoder", "<init>", "([BII)V"⟩ : MethodName)) rfl hown (mvT hZ (hw _ (List.mem_of_getElem? (i := 9) rfl))) (mvT hZ (hw _ (List.mem_of_getElem? (i := 10) rfl))) (mvT hZ (hw _ (List.mem_of_getElem? (i := 11) rfl))) (by decide) (backOf (W := 1) (rm2 l Z aw hw [] b840 r832 (3 : Int32) x689 kb832 ([(.int v0832), (.int v1832), (.int v2832), (.int (0 : Int32)), (.int v4832), (.int v5832), (.int v6832), (.int v7832), (.int v8832), (.int v9832), (.int v10832), (.int v11832)]) v4832 v5832 v6832 v7832 h840 n0 Z844 A840 f845 f846 f847 f848 f849 gn842 f843 (Ne.symm ne841) (by rw [hx689]; rcases h7 with q | q | q | q <;> rw [q] <;> decide) ⟨by decide, by decide⟩ rfl (by rw [hx689]; rcases h7 with q | q | q | q <;> rw [q] <;> decide) ⟨by decide, by decide⟩ rfl (by rw [hx689]; rcases h7 with q | q | q | q <;> rw [q] <;> decide) ⟨by decide, by decide⟩ rfl (by rw [hx689]; rcases h7 with q | q | q | q <;> rw [q] <;> decide) ⟨by decide, by decide⟩ rfl (by rw [hx689]; rcases h7 with q | q | q | q <;> rw [q] <;> decide) ⟨by decide, by decide⟩ rfl) hZ (hw _ (List.mem_of_getElem? (i := 11) rfl)) (hw _ (List.mem_of_getElem? (i := 8) rfl)) (by decide) (by decide)) (g := (mkF m 49 #[.val (.int p0), .val (.int p1), .val (.long q2), .second, .val (.int p3), .val (.int p4), .val (.int (3 : Int32)), .val (.int x687), .val (.int x689), .val (.ref r832), .unset, .unset] [(.int x689), (.int (3 : Int32)), (.ref r832), (.ref b840), (.ref b840)])) rfl (by rw [hml]; rfl) (Steps.refl _) (a := b840) (argsL := [(.ref r832), (.int (3 : Int32)), (.int x689)]) (rest := [(.ref b840)]) (lenOf pd_3 rfl) rfl (by show 2 * 0 + _ ≤ _; exact Nat.le_of_eq rfl) (hb hby at_49) (fun _ _ => ⟨rfl, e840, (by decide : 2 + 0 ≤ _), (by decide : 17 + 0 ≤ _)⟩)
    dsimp only [Pt.U, Pt.locs, Pt.cells, Pt.slots] at X850 l850 y850 z850 st850 hQ850
    replace l850 := l850.symm; replace y850 := y850.symm; replace z850 := z850.symm; subst l850 y850 z850
    obtain ⟨cv850, rfl, N850q, K850, f851, f852, f853, f854, f855, f856⟩ := hQ850
    have N850 := Fr.app N838 N850q
    have f857 := f843.keep K850 (ninS ne841 nin0)
    have Z858 : n0 ≤ T850.heap.size := Nat.le_trans Z844 K850.1
    obtain ⟨cq859, kq859, q859a, q859b, q859c⟩ := isOf hZ rfl f851
    obtain ⟨_, _, ⟨T859, L859, k859, n859⟩, -, X859, ⟨Lc859, hQ859, l859, y859, z859⟩, st859⟩ := X850.virtualBack hx (y := (⟨"com/example/sheafworks/sheafworks/storage/RangeCoder$Decoder", "atEnd", "()Z"⟩ : MethodName)) (z := (⟨"com/example/sheafworks/sheafworks/storage/RangeCoder$Decoder", "atEnd", "()Z"⟩ : MethodName)) hown (mvT hZ (hw _ (List.mem_of_getElem? (i := 29) rfl))) (mvT hZ (hw _ (List.mem_of_getElem? (i := 30) rfl))) (notFace_of_selects (args := #[]) (mvT hZ (hw _ (List.mem_of_getElem? (i := 32) rfl)))) (mvT hZ (hw _ (List.mem_of_getElem? (i := 32) rfl))) (mvT hZ (hw _ (List.mem_of_getElem? (i := 31) rfl))) (by decide) (backOf (W := 0) (rm5 l Z aw hw [] b840 (((((((3 : Int32) + (1 : Int32)) + (1 : Int32)) + (1 : Int32)) + (1 : Int32)) + (1 : Int32))) x689 T850.heap n0 Z858 f853 f854) hZ (hw _ (List.mem_of_getElem? (i := 33) rfl)) (hw _ (List.mem_of_getElem? (i := 8) rfl)) (by decide) (by decide)) q859a q859c (g := (mkF m 56 #[.val (.int p0), .val (.int p1), .val (.long q2), .second, .val (.int p3), .val (.int p4), .val (.int (3 : Int32)), .val (.int x687), .val (.int x689), .val (.ref r832), .val (.ref b840), .unset] [(.ref b840)])) rfl (by rw [hml]; rfl) (Steps.refl _) (argsL := []) (rest := []) (lenOf pd_4 rfl) rfl (by show 2 * 0 + _ ≤ _; exact Nat.le_of_eq rfl) (hb hby at_56) (fun _ _ => ⟨rfl, rfl, (by decide : 2 + 0 ≤ _), (by decide : 17 + 0 ≤ _)⟩)
    dsimp only [Pt.U, Pt.locs, Pt.cells, Pt.slots] at X859 l859 y859 z859 st859 hQ859
    replace l859 := l859.symm; replace y859 := y859.symm; replace z859 := z859.symm; subst l859 y859 z859
    obtain ⟨rfl, N859q, e859⟩ := hQ859
    have N859 := Fr.app N850 N859q
    obtain ⟨x861, hx861⟩ : ∃ z_ : Int32, z_ = (if x687 = (0 : Int32) then (1 : Int32) else (0 : Int32)) := ⟨_, rfl⟩
    have pre862 : ∀ t, Steps p.tables e below (T859.setTop (mkF m 69 #[.val (.int p0), .val (.int p1), .val (.long q2), .second, .val (.int p3), .val (.int p4), .val (.int (3 : Int32)), .val (.int x687), .val (.int x689), .val (.ref r832), .val (.ref b840), .unset] [(.int x861), (.int (if ((((((3 : Int32) + (1 : Int32)) + (1 : Int32)) + (1 : Int32)) + (1 : Int32)) + (1 : Int32)) = x689 then (1 : Int32) else (0 : Int32)))])) t → Steps p.tables e below (s₁.setTop (entryFrame m #[(.int p0), (.int p1), (.long q2), (.int p3), (.int p4)] maxLocals)) t := fun t k => by
      refine pre690 t ?_
      show Steps p.tables e below (s₁.setTop (mkF m 25 #[.val (.int p0), .val (.int p1), .val (.long q2), .second, .val (.int p3), .val (.int p4), .val (.int (3 : Int32)), .val (.int x687), .val (.int x689), .unset, .unset, .unset] [])) _
      refine XS.lloadN X0.here hx rfl (hb hby at_25) rfl ?_
      show Steps p.tables e below (s₁.setTop (mkF m 26 #[.val (.int p0), .val (.int p1), .val (.long q2), .second, .val (.int p3), .val (.int p4), .val (.int (3 : Int32)), .val (.int x687), .val (.int x689), .unset, .unset, .unset] [(.long q2)])) _
      refine XS.iload X0.here hx rfl (hb hby at_26) rfl ?_
      show Steps p.tables e below (s₁.setTop (mkF m 28 #[.val (.int p0), .val (.int p1), .val (.long q2), .second, .val (.int p3), .val (.int p4), .val (.int (3 : Int32)), .val (.int x687), .val (.int x689), .unset, .unset, .unset] [(.int p3), (.long q2)])) _
      refine st832 _ ?_
      show Steps p.tables e below (T832.setTop (mkF m 31 #[.val (.int p0), .val (.int p1), .val (.long q2), .second, .val (.int p3), .val (.int p4), .val (.int (3 : Int32)), .val (.int x687), .val (.int x689), .unset, .unset, .unset] [(.ref r832)])) _
      refine XS.astore X832.here hx rfl (hb hby at_31) rfl rfl (l' := #[.val (.int p0), .val (.int p1), .val (.long q2), .second, .val (.int p3), .val (.int p4), .val (.int (3 : Int32)), .val (.int x687), .val (.int x689), .val (.ref r832), .unset, .unset]) rfl ?_
      show Steps p.tables e below (T832.setTop (mkF m 33 #[.val (.int p0), .val (.int p1), .val (.long q2), .second, .val (.int p3), .val (.int p4), .val (.int (3 : Int32)), .val (.int x687), .val (.int x689), .val (.ref r832), .unset, .unset] [])) _
      refine XS.aload X832.here hx rfl (hb hby at_33) rfl rfl ?_
      show Steps p.tables e below (T832.setTop (mkF m 35 #[.val (.int p0), .val (.int p1), .val (.long q2), .second, .val (.int p3), .val (.int p4), .val (.int (3 : Int32)), .val (.int x687), .val (.int x689), .val (.ref r832), .unset, .unset] [(.ref r832)])) _
      refine XS.iload X832.here hx rfl (hb hby at_35) rfl ?_
      show Steps p.tables e below (T832.setTop (mkF m 37 #[.val (.int p0), .val (.int p1), .val (.long q2), .second, .val (.int p3), .val (.int p4), .val (.int (3 : Int32)), .val (.int x687), .val (.int x689), .val (.ref r832), .unset, .unset] [(.int (3 : Int32)), (.ref r832)])) _
      refine XS.iconst X832.here hx rfl (hb hby at_37) ?_
      show Steps p.tables e below (T832.setTop (mkF m 38 #[.val (.int p0), .val (.int p1), .val (.long q2), .second, .val (.int p3), .val (.int p4), .val (.int (3 : Int32)), .val (.int x687), .val (.int x689), .val (.ref r832), .unset, .unset] [(.int (0 : Int32)), (.int (3 : Int32)), (.ref r832)])) _
      refine st836 _ ?_
      show Steps p.tables e below (T836.setTop (mkF m 39 #[.val (.int p0), .val (.int p1), .val (.long q2), .second, .val (.int p3), .val (.int p4), .val (.int (3 : Int32)), .val (.int x687), .val (.int x689), .val (.ref r832), .unset, .unset] [])) _
      refine st840 _ ?_
      show Steps p.tables e below (T840.setTop (mkF m 42 #[.val (.int p0), .val (.int p1), .val (.long q2), .second, .val (.int p3), .val (.int p4), .val (.int (3 : Int32)), .val (.int x687), .val (.int x689), .val (.ref r832), .unset, .unset] [(.ref b840)])) _
      refine XS.dup X840.here hx rfl (hb hby at_42) rfl rfl ?_
      show Steps p.tables e below (T840.setTop (mkF m 43 #[.val (.int p0), .val (.int p1), .val (.long q2), .second, .val (.int p3), .val (.int p4), .val (.int (3 : Int32)), .val (.int x687), .val (.int x689), .val (.ref r832), .unset, .unset] [(.ref b840), (.ref b840)])) _
      refine XS.aload X840.here hx rfl (hb hby at_43) rfl rfl ?_
      show Steps p.tables e below (T840.setTop (mkF m 45 #[.val (.int p0), .val (.int p1), .val (.long q2), .second, .val (.int p3), .val (.int p4), .val (.int (3 : Int32)), .val (.int x687), .val (.int x689), .val (.ref r832), .unset, .unset] [(.ref r832), (.ref b840), (.ref b840)])) _
      refine XS.iload X840.here hx rfl (hb hby at_45) rfl ?_
      show Steps p.tables e below (T840.setTop (mkF m 47 #[.val (.int p0), .val (.int p1), .val (.long q2), .second, .val (.int p3), .val (.int p4), .val (.int (3 : Int32)), .val (.int x687), .val (.int x689), .val (.ref r832), .unset, .unset] [(.int (3 : Int32)), (.ref r832), (.ref b840), (.ref b840)])) _
      refine XS.iload X840.here hx rfl (hb hby at_47) rfl ?_
      show Steps p.tables e below (T840.setTop (mkF m 49 #[.val (.int p0), .val (.int p1), .val (.long q2), .second, .val (.int p3), .val (.int p4), .val (.int (3 : Int32)), .val (.int x687), .val (.int x689), .val (.ref r832), .unset, .unset] [(.int x689), (.int (3 : Int32)), (.ref r832), (.ref b840), (.ref b840)])) _
      refine st850.trans ?_
      show Steps p.tables e below (T850.setTop (mkF m 52 #[.val (.int p0), .val (.int p1), .val (.long q2), .second, .val (.int p3), .val (.int p4), .val (.int (3 : Int32)), .val (.int x687), .val (.int x689), .val (.ref r832), .unset, .unset] [(.ref b840)])) _
      refine XS.astore X850.here hx rfl (hb hby at_52) rfl rfl (l' := #[.val (.int p0), .val (.int p1), .val (.long q2), .second, .val (.int p3), .val (.int p4), .val (.int (3 : Int32)), .val (.int x687), .val (.int x689), .val (.ref r832), .val (.ref b840), .unset]) rfl ?_
      show Steps p.tables e below (T850.setTop (mkF m 54 #[.val (.int p0), .val (.int p1), .val (.long q2), .second, .val (.int p3), .val (.int p4), .val (.int (3 : Int32)), .val (.int x687), .val (.int x689), .val (.ref r832), .val (.ref b840), .unset] [])) _
      refine XS.aload X850.here hx rfl (hb hby at_54) rfl rfl ?_
      show Steps p.tables e below (T850.setTop (mkF m 56 #[.val (.int p0), .val (.int p1), .val (.long q2), .second, .val (.int p3), .val (.int p4), .val (.int (3 : Int32)), .val (.int x687), .val (.int x689), .val (.ref r832), .val (.ref b840), .unset] [(.ref b840)])) _
      refine st859.trans ?_
      show Steps p.tables e below (T859.setTop (mkF m 59 #[.val (.int p0), .val (.int p1), .val (.long q2), .second, .val (.int p3), .val (.int p4), .val (.int (3 : Int32)), .val (.int x687), .val (.int x689), .val (.ref r832), .val (.ref b840), .unset] [(.int (if ((((((3 : Int32) + (1 : Int32)) + (1 : Int32)) + (1 : Int32)) + (1 : Int32)) + (1 : Int32)) = x689 then (1 : Int32) else (0 : Int32)))])) _
      refine XS.iload X859.here hx rfl (hb hby at_59) rfl ?_
      by_cases c860 : x687 = (0 : Int32)
      ·
        show Steps p.tables e below (T859.setTop (mkF m 61 #[.val (.int p0), .val (.int p1), .val (.long q2), .second, .val (.int p3), .val (.int p4), .val (.int (3 : Int32)), .val (.int x687), .val (.int x689), .val (.ref r832), .val (.ref b840), .unset] [(.int x687), (.int (if ((((((3 : Int32) + (1 : Int32)) + (1 : Int32)) + (1 : Int32)) + (1 : Int32)) + (1 : Int32)) = x689 then (1 : Int32) else (0 : Int32)))])) _
        refine XS.ifNo X859.here hx rfl (hb hby at_61) rfl ((if0 _ _).trans (teq c860).2) ?_
        show Steps p.tables e below (T859.setTop (mkF m 64 #[.val (.int p0), .val (.int p1), .val (.long q2), .second, .val (.int p3), .val (.int p4), .val (.int (3 : Int32)), .val (.int x687), .val (.int x689), .val (.ref r832), .val (.ref b840), .unset] [(.int (if ((((((3 : Int32) + (1 : Int32)) + (1 : Int32)) + (1 : Int32)) + (1 : Int32)) + (1 : Int32)) = x689 then (1 : Int32) else (0 : Int32)))])) _
        refine XS.iconst X859.here hx rfl (hb hby at_64) ?_
        show Steps p.tables e below (T859.setTop (mkF m 65 #[.val (.int p0), .val (.int p1), .val (.long q2), .second, .val (.int p3), .val (.int p4), .val (.int (3 : Int32)), .val (.int x687), .val (.int x689), .val (.ref r832), .val (.ref b840), .unset] [(.int (1 : Int32)), (.int (if ((((((3 : Int32) + (1 : Int32)) + (1 : Int32)) + (1 : Int32)) + (1 : Int32)) + (1 : Int32)) = x689 then (1 : Int32) else (0 : Int32)))])) _
        refine XS.goto X859.here hx rfl (pc0 := 65) (pc' := 69) rfl (hb hby at_65) (by decide) (by decide) ?_
        rw [show x861 = (1 : Int32) from hx861.trans (by simp only [if_pos c860])] at k
        exact k
      ·
        show Steps p.tables e below (T859.setTop (mkF m 61 #[.val (.int p0), .val (.int p1), .val (.long q2), .second, .val (.int p3), .val (.int p4), .val (.int (3 : Int32)), .val (.int x687), .val (.int x689), .val (.ref r832), .val (.ref b840), .unset] [(.int x687), (.int (if ((((((3 : Int32) + (1 : Int32)) + (1 : Int32)) + (1 : Int32)) + (1 : Int32)) + (1 : Int32)) = x689 then (1 : Int32) else (0 : Int32)))])) _
        refine XS.ifYes X859.here hx rfl (pc0 := 61) (pc' := 68) rfl (hb hby at_61) rfl ((if0 _ _).trans (feq c860).2) (by decide) (by decide) ?_
        show Steps p.tables e below (T859.setTop (mkF m 68 #[.val (.int p0), .val (.int p1), .val (.long q2), .second, .val (.int p3), .val (.int p4), .val (.int (3 : Int32)), .val (.int x687), .val (.int x689), .val (.ref r832), .val (.ref b840), .unset] [(.int (if ((((((3 : Int32) + (1 : Int32)) + (1 : Int32)) + (1 : Int32)) + (1 : Int32)) + (1 : Int32)) = x689 then (1 : Int32) else (0 : Int32)))])) _
        refine XS.iconst X859.here hx rfl (hb hby at_68) ?_
        rw [show x861 = (0 : Int32) from hx861.trans (by simp only [if_neg c860])] at k
        exact k
    have c863 : (if ((((((3 : Int32) + (1 : Int32)) + (1 : Int32)) + (1 : Int32)) + (1 : Int32)) + (1 : Int32)) = x689 then (1 : Int32) else (0 : Int32)) = x861 := by
      rw [hx861, hx689]; rcases h7 with q | q | q | q <;> rw [q] <;> decide
    have pre864 : ∀ t, Steps p.tables e below (T859.setTop (mkF m 83 #[.val (.int p0), .val (.int p1), .val (.long q2), .second, .val (.int p3), .val (.int p4), .val (.int (3 : Int32)), .val (.int x687), .val (.int x689), .val (.ref r832), .val (.ref b840), .val (.int (1 : Int32))] [(.int (p4 &&& (1 : Int32)))])) t → Steps p.tables e below (s₁.setTop (entryFrame m #[(.int p0), (.int p1), (.long q2), (.int p3), (.int p4)] maxLocals)) t := fun t k => by
      refine pre862 t ?_
      show Steps p.tables e below (T859.setTop (mkF m 69 #[.val (.int p0), .val (.int p1), .val (.long q2), .second, .val (.int p3), .val (.int p4), .val (.int (3 : Int32)), .val (.int x687), .val (.int x689), .val (.ref r832), .val (.ref b840), .unset] [(.int x861), (.int (if ((((((3 : Int32) + (1 : Int32)) + (1 : Int32)) + (1 : Int32)) + (1 : Int32)) + (1 : Int32)) = x689 then (1 : Int32) else (0 : Int32)))])) _
      refine XS.icmpNo X859.here hx rfl (hb hby at_69) rfl (teq c863).2 ?_
      show Steps p.tables e below (T859.setTop (mkF m 72 #[.val (.int p0), .val (.int p1), .val (.long q2), .second, .val (.int p3), .val (.int p4), .val (.int (3 : Int32)), .val (.int x687), .val (.int x689), .val (.ref r832), .val (.ref b840), .unset] [])) _
      refine XS.iconst X859.here hx rfl (hb hby at_72) ?_
      show Steps p.tables e below (T859.setTop (mkF m 73 #[.val (.int p0), .val (.int p1), .val (.long q2), .second, .val (.int p3), .val (.int p4), .val (.int (3 : Int32)), .val (.int x687), .val (.int x689), .val (.ref r832), .val (.ref b840), .unset] [(.int (1 : Int32))])) _
      refine XS.goto X859.here hx rfl (pc0 := 73) (pc' := 77) rfl (hb hby at_73) (by decide) (by decide) ?_
      show Steps p.tables e below (T859.setTop (mkF m 77 #[.val (.int p0), .val (.int p1), .val (.long q2), .second, .val (.int p3), .val (.int p4), .val (.int (3 : Int32)), .val (.int x687), .val (.int x689), .val (.ref r832), .val (.ref b840), .unset] [(.int (1 : Int32))])) _
      refine XS.istore X859.here hx rfl (hb hby at_77) rfl (l' := #[.val (.int p0), .val (.int p1), .val (.long q2), .second, .val (.int p3), .val (.int p4), .val (.int (3 : Int32)), .val (.int x687), .val (.int x689), .val (.ref r832), .val (.ref b840), .val (.int (1 : Int32))]) rfl ?_
      show Steps p.tables e below (T859.setTop (mkF m 79 #[.val (.int p0), .val (.int p1), .val (.long q2), .second, .val (.int p3), .val (.int p4), .val (.int (3 : Int32)), .val (.int x687), .val (.int x689), .val (.ref r832), .val (.ref b840), .val (.int (1 : Int32))] [])) _
      refine XS.iload X859.here hx rfl (hb hby at_79) rfl ?_
      show Steps p.tables e below (T859.setTop (mkF m 81 #[.val (.int p0), .val (.int p1), .val (.long q2), .second, .val (.int p3), .val (.int p4), .val (.int (3 : Int32)), .val (.int x687), .val (.int x689), .val (.ref r832), .val (.ref b840), .val (.int (1 : Int32))] [(.int p4)])) _
      refine XS.iconst X859.here hx rfl (hb hby at_81) ?_
      show Steps p.tables e below (T859.setTop (mkF m 82 #[.val (.int p0), .val (.int p1), .val (.long q2), .second, .val (.int p3), .val (.int p4), .val (.int (3 : Int32)), .val (.int x687), .val (.int x689), .val (.ref r832), .val (.ref b840), .val (.int (1 : Int32))] [(.int (1 : Int32)), (.int p4)])) _
      refine XS.iand X859.here hx rfl (hb hby at_82) rfl ?_
      exact k
    by_cases c865 : (p4 &&& (1 : Int32)) = (0 : Int32)
    ·
      obtain ⟨fs, hr, hrun, hended, hW, hsame⟩ := X859.leave (v := some (.int (1 : Int32))) (fun h => by rw [Bd.returns] at h; cases h)
      refine ⟨_, _, pre864 _ ?_, hrun, hended, _, _, rfl, ?_, ⟨_, rfl⟩, hW, hsame.mono (by decide) (by decide)⟩
      ·
        show Steps p.tables e below (T859.setTop (mkF m 83 #[.val (.int p0), .val (.int p1), .val (.long q2), .second, .val (.int p3), .val (.int p4), .val (.int (3 : Int32)), .val (.int x687), .val (.int x689), .val (.ref r832), .val (.ref b840), .val (.int (1 : Int32))] [(.int (p4 &&& (1 : Int32)))])) _
        refine XS.ifYes X859.here hx rfl (pc0 := 83) (pc' := 131) rfl (hb hby at_83) rfl ((if0 _ _).trans (teq c865).1) (by decide) (by decide) ?_
        show Steps p.tables e below (T859.setTop (mkF m 131 #[.val (.int p0), .val (.int p1), .val (.long q2), .second, .val (.int p3), .val (.int p4), .val (.int (3 : Int32)), .val (.int x687), .val (.int x689), .val (.ref r832), .val (.ref b840), .val (.int (1 : Int32))] [])) _
        refine XS.iload X859.here hx rfl (hb hby at_131) rfl ?_
        show Steps p.tables e below (T859.setTop (mkF m 133 #[.val (.int p0), .val (.int p1), .val (.long q2), .second, .val (.int p3), .val (.int p4), .val (.int (3 : Int32)), .val (.int x687), .val (.int x689), .val (.ref r832), .val (.ref b840), .val (.int (1 : Int32))] [(.int (1 : Int32))])) _
        exact retZ X859 hx Bd.returns (by decide) (hb hby at_133) hr
      ·
        show Q_rm0 Z p0 p1 q2 p3 p4 h0 n0 _ T859.heap _
        rw [e859]
        exact ⟨rfl, N859⟩
    ·
      have pre866 : ∀ t, Steps p.tables e below (T859.setTop (mkF m 89 #[.val (.int p0), .val (.int p1), .val (.long q2), .second, .val (.int p3), .val (.int p4), .val (.int (3 : Int32)), .val (.int x687), .val (.int x689), .val (.ref r832), .val (.ref b840), .val (.int (1 : Int32))] [(.int (1 : Int32)), (.int x687)])) t → Steps p.tables e below (s₁.setTop (entryFrame m #[(.int p0), (.int p1), (.long q2), (.int p3), (.int p4)] maxLocals)) t := fun t k => by
        refine pre864 t ?_
        show Steps p.tables e below (T859.setTop (mkF m 83 #[.val (.int p0), .val (.int p1), .val (.long q2), .second, .val (.int p3), .val (.int p4), .val (.int (3 : Int32)), .val (.int x687), .val (.int x689), .val (.ref r832), .val (.ref b840), .val (.int (1 : Int32))] [(.int (p4 &&& (1 : Int32)))])) _
        refine XS.ifNo X859.here hx rfl (hb hby at_83) rfl ((if0 _ _).trans (feq c865).1) ?_
        show Steps p.tables e below (T859.setTop (mkF m 86 #[.val (.int p0), .val (.int p1), .val (.long q2), .second, .val (.int p3), .val (.int p4), .val (.int (3 : Int32)), .val (.int x687), .val (.int x689), .val (.ref r832), .val (.ref b840), .val (.int (1 : Int32))] [])) _
        refine XS.iload X859.here hx rfl (hb hby at_86) rfl ?_
        show Steps p.tables e below (T859.setTop (mkF m 88 #[.val (.int p0), .val (.int p1), .val (.long q2), .second, .val (.int p3), .val (.int p4), .val (.int (3 : Int32)), .val (.int x687), .val (.int x689), .val (.ref r832), .val (.ref b840), .val (.int (1 : Int32))] [(.int x687)])) _
        refine XS.iconst X859.here hx rfl (hb hby at_88) ?_
        exact k
      by_cases c867 : x687 < (1 : Int32)
      ·
        obtain ⟨fs, hr, hrun, hended, hW, hsame⟩ := X859.leave (v := some (.int (1 : Int32))) (fun h => by rw [Bd.returns] at h; cases h)
        refine ⟨_, _, pre866 _ ?_, hrun, hended, _, _, rfl, ?_, ⟨_, rfl⟩, hW, hsame.mono (by decide) (by decide)⟩
        ·
          show Steps p.tables e below (T859.setTop (mkF m 89 #[.val (.int p0), .val (.int p1), .val (.long q2), .second, .val (.int p3), .val (.int p4), .val (.int (3 : Int32)), .val (.int x687), .val (.int x689), .val (.ref r832), .val (.ref b840), .val (.int (1 : Int32))] [(.int (1 : Int32)), (.int x687)])) _
          refine XS.icmpYes X859.here hx rfl (pc0 := 89) (pc' := 131) rfl (hb hby at_89) rfl (tlt c867).1 (by decide) (by decide) ?_
          show Steps p.tables e below (T859.setTop (mkF m 131 #[.val (.int p0), .val (.int p1), .val (.long q2), .second, .val (.int p3), .val (.int p4), .val (.int (3 : Int32)), .val (.int x687), .val (.int x689), .val (.ref r832), .val (.ref b840), .val (.int (1 : Int32))] [])) _
          refine XS.iload X859.here hx rfl (hb hby at_131) rfl ?_
          show Steps p.tables e below (T859.setTop (mkF m 133 #[.val (.int p0), .val (.int p1), .val (.long q2), .second, .val (.int p3), .val (.int p4), .val (.int (3 : Int32)), .val (.int x687), .val (.int x689), .val (.ref r832), .val (.ref b840), .val (.int (1 : Int32))] [(.int (1 : Int32))])) _
          exact retZ X859 hx Bd.returns (by decide) (hb hby at_133) hr
        ·
          show Q_rm0 Z p0 p1 q2 p3 p4 h0 n0 _ T859.heap _
          rw [e859]
          exact ⟨rfl, N859⟩
      ·
        obtain ⟨cq868, kq868, q868a, q868b, q868c⟩ := isOf hZ e859 f851
        obtain ⟨_, _, ⟨T868, L868, k868, n868⟩, -, X868, ⟨Lc868, hQ868, l868, y868, z868⟩, st868⟩ := X859.virtualBack hx (y := (⟨"com/example/sheafworks/sheafworks/storage/RangeCoder$Decoder", "direct", "(I)I"⟩ : MethodName)) (z := (⟨"com/example/sheafworks/sheafworks/storage/RangeCoder$Decoder", "direct", "(I)I"⟩ : MethodName)) hown (mvT hZ (hw _ (List.mem_of_getElem? (i := 34) rfl))) (mvT hZ (hw _ (List.mem_of_getElem? (i := 35) rfl))) (notFace_of_selects (args := #[]) (mvT hZ (hw _ (List.mem_of_getElem? (i := 37) rfl)))) (mvT hZ (hw _ (List.mem_of_getElem? (i := 37) rfl))) (mvT hZ (hw _ (List.mem_of_getElem? (i := 36) rfl))) (by decide) (backOf (W := 0) (rm6 l Z aw hw [] b840 r832 kb832 ([(.int v0832), (.int v1832), (.int v2832), (.int (0 : Int32)), (.int v4832), (.int v5832), (.int v6832), (.int v7832), (.int v8832), (.int v9832), (.int v10832), (.int v11832)]) (((((((3 : Int32) + (1 : Int32)) + (1 : Int32)) + (1 : Int32)) + (1 : Int32)) + (1 : Int32))) x689 cv850 v8832 T850.heap n0 Z858 f851 f852 f853 f854 f855 f856 gn842 f857 (Ne.symm ne841) (by rw [hx689]; intro e; exact c867 (by rcases h7 with q | q | q | q <;> rw [q] at e ⊢ <;> revert e <;> decide)) ⟨by decide, by decide⟩ rfl) hZ (hw _ (List.mem_of_getElem? (i := 38) rfl)) (hw _ (List.mem_of_getElem? (i := 8) rfl)) (by decide) (by decide)) q868a q868c (g := (mkF m 96 #[.val (.int p0), .val (.int p1), .val (.long q2), .second, .val (.int p3), .val (.int p4), .val (.int (3 : Int32)), .val (.int x687), .val (.int x689), .val (.ref r832), .val (.ref b840), .val (.int (1 : Int32))] [(.int (8 : Int32)), (.ref b840)])) rfl (by rw [hml]; rfl) (Steps.refl _) (argsL := [(.int (8 : Int32))]) (rest := []) (lenOf pd_5 rfl) rfl (by show 2 * 0 + _ ≤ _; exact Nat.le_of_eq rfl) (hb hby at_96) (fun _ _ => ⟨rfl, e859, (by decide : 2 + 0 ≤ _), (by decide : 17 + 0 ≤ _)⟩)
        dsimp only [Pt.U, Pt.locs, Pt.cells, Pt.slots] at X868 l868 y868 z868 st868 hQ868
        replace l868 := l868.symm; replace y868 := y868.symm; replace z868 := z868.symm; subst l868 y868 z868
        obtain ⟨rv868, rfl, N868q, K868, f869, f870, f871⟩ := hQ868
        have N868 := Fr.app N859 N868q
        have f872 := f857.keep K868 (ninS ne841 nin0)
        have Z873 : n0 ≤ T868.heap.size := Nat.le_trans Z858 K868.1
        obtain ⟨cq874, kq874, q874a, q874b, q874c⟩ := isOf hZ rfl f869
        obtain ⟨_, _, ⟨T874, L874, k874, n874⟩, -, X874, ⟨Lc874, hQ874, l874, y874, z874⟩, st874⟩ := X868.virtualBack hx (y := (⟨"com/example/sheafworks/sheafworks/storage/RangeCoder$Decoder", "atEnd", "()Z"⟩ : MethodName)) (z := (⟨"com/example/sheafworks/sheafworks/storage/RangeCoder$Decoder", "atEnd", "()Z"⟩ : MethodName)) hown (mvT hZ (hw _ (List.mem_of_getElem? (i := 29) rfl))) (mvT hZ (hw _ (List.mem_of_getElem? (i := 30) rfl))) (notFace_of_selects (args := #[]) (mvT hZ (hw _ (List.mem_of_getElem? (i := 32) rfl)))) (mvT hZ (hw _ (List.mem_of_getElem? (i := 32) rfl))) (mvT hZ (hw _ (List.mem_of_getElem? (i := 31) rfl))) (by decide) (backOf (W := 0) (rm5 l Z aw hw [] b840 ((((((((3 : Int32) + (1 : Int32)) + (1 : Int32)) + (1 : Int32)) + (1 : Int32)) + (1 : Int32)) + (1 : Int32))) x689 T868.heap n0 Z873 f870 f871) hZ (hw _ (List.mem_of_getElem? (i := 33) rfl)) (hw _ (List.mem_of_getElem? (i := 8) rfl)) (by decide) (by decide)) q874a q874c (g := (mkF m 107 #[.val (.int p0), .val (.int p1), .val (.long q2), .second, .val (.int p3), .val (.int p4), .val (.int (3 : Int32)), .val (.int x687), .val (.int x689), .val (.ref r832), .val (.ref b840), .val (.int (1 : Int32))] [(.ref b840)])) rfl (by rw [hml]; rfl) (Steps.refl _) (argsL := []) (rest := []) (lenOf pd_4 rfl) rfl (by show 2 * 0 + _ ≤ _; exact Nat.le_of_eq rfl) (hb hby at_107) (fun _ _ => ⟨rfl, rfl, (by decide : 2 + 0 ≤ _), (by decide : 17 + 0 ≤ _)⟩)
        dsimp only [Pt.U, Pt.locs, Pt.cells, Pt.slots] at X874 l874 y874 z874 st874 hQ874
        replace l874 := l874.symm; replace y874 := y874.symm; replace z874 := z874.symm; subst l874 y874 z874
        obtain ⟨rfl, N874q, e874⟩ := hQ874
        have N874 := Fr.app N868 N874q
        obtain ⟨x876, hx876⟩ : ∃ z_ : Int32, z_ = (if x687 = (1 : Int32) then (1 : Int32) else (0 : Int32)) := ⟨_, rfl⟩
        have pre877 : ∀ t, Steps p.tables e below (T874.setTop (mkF m 121 #[.val (.int p0), .val (.int p1), .val (.long q2), .second, .val (.int p3), .val (.int p4), .val (.int (3 : Int32)), .val (.int x687), .val (.int x689), .val (.ref r832), .val (.ref b840), .val (.int (1 : Int32))] [(.int x876), (.int (if (((((((3 : Int32) + (1 : Int32)) + (1 : Int32)) + (1 : Int32)) + (1 : Int32)) + (1 : Int32)) + (1 : Int32)) = x689 then (1 : Int32) else (0 : Int32)))])) t → Steps p.tables e below (s₁.setTop (entryFrame m #[(.int p0), (.int p1), (.long q2), (.int p3), (.int p4)] maxLocals)) t := fun t k => by
          refine pre866 t ?_
          show Steps p.tables e below (T859.setTop (mkF m 89 #[.val (.int p0), .val (.int p1), .val (.long q2), .second, .val (.int p3), .val (.int p4), .val (.int (3 : Int32)), .val (.int x687), .val (.int x689), .val (.ref r832), .val (.ref b840), .val (.int (1 : Int32))] [(.int (1 : Int32)), (.int x687)])) _
          refine XS.icmpNo X859.here hx rfl (hb hby at_89) rfl (flt c867).1 ?_
          show Steps p.tables e below (T859.setTop (mkF m 92 #[.val (.int p0), .val (.int p1), .val (.long q2), .second, .val (.int p3), .val (.int p4), .val (.int (3 : Int32)), .val (.int x687), .val (.int x689), .val (.ref r832), .val (.ref b840), .val (.int (1 : Int32))] [])) _
          refine XS.aload X859.here hx rfl (hb hby at_92) rfl rfl ?_
          show Steps p.tables e below (T859.setTop (mkF m 94 #[.val (.int p0), .val (.int p1), .val (.long q2), .second, .val (.int p3), .val (.int p4), .val (.int (3 : Int32)), .val (.int x687), .val (.int x689), .val (.ref r832), .val (.ref b840), .val (.int (1 : Int32))] [(.ref b840)])) _
          refine XS.bipush X859.here hx rfl (hb hby at_94) ?_
          show Steps p.tables e below (T859.setTop (mkF m 96 #[.val (.int p0), .val (.int p1), .val (.long q2), .second, .val (.int p3), .val (.int p4), .val (.int (3 : Int32)), .val (.int x687), .val (.int x689), .val (.ref r832), .val (.ref b840), .val (.int (1 : Int32))] [(.int (8 : Int32)), (.ref b840)])) _
          refine st868.trans ?_
          show Steps p.tables e below (T868.setTop (mkF m 99 #[.val (.int p0), .val (.int p1), .val (.long q2), .second, .val (.int p3), .val (.int p4), .val (.int (3 : Int32)), .val (.int x687), .val (.int x689), .val (.ref r832), .val (.ref b840), .val (.int (1 : Int32))] [(.int rv868)])) _
          refine XS.pop X868.here hx rfl (hb hby at_99) rfl rfl ?_
          show Steps p.tables e below (T868.setTop (mkF m 100 #[.val (.int p0), .val (.int p1), .val (.long q2), .second, .val (.int p3), .val (.int p4), .val (.int (3 : Int32)), .val (.int x687), .val (.int x689), .val (.ref r832), .val (.ref b840), .val (.int (1 : Int32))] [])) _
          refine XS.iload X868.here hx rfl (hb hby at_100) rfl ?_
          show Steps p.tables e below (T868.setTop (mkF m 102 #[.val (.int p0), .val (.int p1), .val (.long q2), .second, .val (.int p3), .val (.int p4), .val (.int (3 : Int32)), .val (.int x687), .val (.int x689), .val (.ref r832), .val (.ref b840), .val (.int (1 : Int32))] [(.int (1 : Int32))])) _
          refine XS.ifNo X868.here hx rfl (hb hby at_102) rfl ((if0 _ _).trans (feq (by decide)).1) ?_
          show Steps p.tables e below (T868.setTop (mkF m 105 #[.val (.int p0), .val (.int p1), .val (.long q2), .second, .val (.int p3), .val (.int p4), .val (.int (3 : Int32)), .val (.int x687), .val (.int x689), .val (.ref r832), .val (.ref b840), .val (.int (1 : Int32))] [])) _
          refine XS.aload X868.here hx rfl (hb hby at_105) rfl rfl ?_
          show Steps p.tables e below (T868.setTop (mkF m 107 #[.val (.int p0), .val (.int p1), .val (.long q2), .second, .val (.int p3), .val (.int p4), .val (.int (3 : Int32)), .val (.int x687), .val (.int x689), .val (.ref r832), .val (.ref b840), .val (.int (1 : Int32))] [(.ref b840)])) _
          refine st874.trans ?_
          show Steps p.tables e below (T874.setTop (mkF m 110 #[.val (.int p0), .val (.int p1), .val (.long q2), .second, .val (.int p3), .val (.int p4), .val (.int (3 : Int32)), .val (.int x687), .val (.int x689), .val (.ref r832), .val (.ref b840), .val (.int (1 : Int32))] [(.int (if (((((((3 : Int32) + (1 : Int32)) + (1 : Int32)) + (1 : Int32)) + (1 : Int32)) + (1 : Int32)) + (1 : Int32)) = x689 then (1 : Int32) else (0 : Int32)))])) _
          refine XS.iload X874.here hx rfl (hb hby at_110) rfl ?_
          show Steps p.tables e below (T874.setTop (mkF m 112 #[.val (.int p0), .val (.int p1), .val (.long q2), .second, .val (.int p3), .val (.int p4), .val (.int (3 : Int32)), .val (.int x687), .val (.int x689), .val (.ref r832), .val (.ref b840), .val (.int (1 : Int32))] [(.int x687), (.int (if (((((((3 : Int32) + (1 : Int32)) + (1 : Int32)) + (1 : Int32)) + (1 : Int32)) + (1 : Int32)) + (1 : Int32)) = x689 then (1 : Int32) else (0 : Int32)))])) _
          refine XS.iconst X874.here hx rfl (hb hby at_112) ?_
          by_cases c875 : x687 = (1 : Int32)
          ·
            show Steps p.tables e below (T874.setTop (mkF m 113 #[.val (.int p0), .val (.int p1), .val (.long q2), .second, .val (.int p3), .val (.int p4), .val (.int (3 : Int32)), .val (.int x687), .val (.int x689), .val (.ref r832), .val (.ref b840), .val (.int (1 : Int32))] [(.int (1 : Int32)), (.int x687), (.int (if (((((((3 : Int32) + (1 : Int32)) + (1 : Int32)) + (1 : Int32)) + (1 : Int32)) + (1 : Int32)) + (1 : Int32)) = x689 then (1 : Int32) else (0 : Int32)))])) _
            refine XS.icmpNo X874.here hx rfl (hb hby at_113) rfl (teq c875).2 ?_
            show Steps p.tables e below (T874.setTop (mkF m 116 #[.val (.int p0), .val (.int p1), .val (.long q2), .second, .val (.int p3), .val (.int p4), .val (.int (3 : Int32)), .val (.int x687), .val (.int x689), .val (.ref r832), .val (.ref b840), .val (.int (1 : Int32))] [(.int (if (((((((3 : Int32) + (1 : Int32)) + (1 : Int32)) + (1 : Int32)) + (1 : Int32)) + (1 : Int32)) + (1 : Int32)) = x689 then (1 : Int32) else (0 : Int32)))])) _
            refine XS.iconst X874.here hx rfl (hb hby at_116) ?_
            show Steps p.tables e below (T874.setTop (mkF m 117 #[.val (.int p0), .val (.int p1), .val (.long q2), .second, .val (.int p3), .val (.int p4), .val (.int (3 : Int32)), .val (.int x687), .val (.int x689), .val (.ref r832), .val (.ref b840), .val (.int (1 : Int32))] [(.int (1 : Int32)), (.int (if (((((((3 : Int32) + (1 : Int32)) + (1 : Int32)) + (1 : Int32)) + (1 : Int32)) + (1 : Int32)) + (1 : Int32)) = x689 then (1 : Int32) else (0 : Int32)))])) _
            refine XS.goto X874.here hx rfl (pc0 := 117) (pc' := 121) rfl (hb hby at_117) (by decide) (by decide) ?_
            rw [show x876 = (1 : Int32) from hx876.trans (by simp only [if_pos c875])] at k
            exact k
          ·
            show Steps p.tables e below (T874.setTop (mkF m 113 #[.val (.int p0), .val (.int p1), .val (.long q2), .second, .val (.int p3), .val (.int p4), .val (.int (3 : Int32)), .val (.int x687), .val (.int x689), .val (.ref r832), .val (.ref b840), .val (.int (1 : Int32))] [(.int (1 : Int32)), (.int x687), (.int (if (((((((3 : Int32) + (1 : Int32)) + (1 : Int32)) + (1 : Int32)) + (1 : Int32)) + (1 : Int32)) + (1 : Int32)) = x689 then (1 : Int32) else (0 : Int32)))])) _
            refine XS.icmpYes X874.here hx rfl (pc0 := 113) (pc' := 120) rfl (hb hby at_113) rfl (feq c875).2 (by decide) (by decide) ?_
            show Steps p.tables e below (T874.setTop (mkF m 120 #[.val (.int p0), .val (.int p1), .val (.long q2), .second, .val (.int p3), .val (.int p4), .val (.int (3 : Int32)), .val (.int x687), .val (.int x689), .val (.ref r832), .val (.ref b840), .val (.int (1 : Int32))] [(.int (if (((((((3 : Int32) + (1 : Int32)) + (1 : Int32)) + (1 : Int32)) + (1 : Int32)) + (1 : Int32)) + (1 : Int32)) = x689 then (1 : Int32) else (0 : Int32)))])) _
            refine XS.iconst X874.here hx rfl (hb hby at_120) ?_
            rw [show x876 = (0 : Int32) from hx876.trans (by simp only [if_neg c875])] at k
            exact k
        have c878 : (if (((((((3 : Int32) + (1 : Int32)) + (1 : Int32)) + (1 : Int32)) + (1 : Int32)) + (1 : Int32)) + (1 : Int32)) = x689 then (1 : Int32) else (0 : Int32)) = x876 := by
          rw [hx876, hx689]; rcases h7 with q | q | q | q <;> rw [q] <;> decide
        obtain ⟨fs, hr, hrun, hended, hW, hsame⟩ := X874.leave (v := some (.int (1 : Int32))) (fun h => by rw [Bd.returns] at h; cases h)
        refine ⟨_, _, pre877 _ ?_, hrun, hended, _, _, rfl, ?_, ⟨_, rfl⟩, hW, hsame.mono (by decide) (by decide)⟩
        ·
          show Steps p.tables e below (T874.setTop (mkF m 121 #[.val (.int p0), .val (.int p1), .val (.long q2), .second, .val (.int p3), .val (.int p4), .val (.int (3 : Int32)), .val (.int x687), .val (.int x689), .val (.ref r832), .val (.ref b840), .val (.int (1 : Int32))] [(.int x876), (.int (if (((((((3 : Int32) + (1 : Int32)) + (1 : Int32)) + (1 : Int32)) + (1 : Int32)) + (1 : Int32)) + (1 : Int32)) = x689 then (1 : Int32) else (0 : Int32)))])) _
          refine XS.icmpNo X874.here hx rfl (hb hby at_121) rfl (teq c878).2 ?_
          show Steps p.tables e below (T874.setTop (mkF m 124 #[.val (.int p0), .val (.int p1), .val (.long q2), .second, .val (.int p3), .val (.int p4), .val (.int (3 : Int32)), .val (.int x687), .val (.int x689), .val (.ref r832), .val (.ref b840), .val (.int (1 : Int32))] [])) _
          refine XS.iconst X874.here hx rfl (hb hby at_124) ?_
          show Steps p.tables e below (T874.setTop (mkF m 125 #[.val (.int p0), .val (.int p1), .val (.long q2), .second, .val (.int p3), .val (.int p4), .val (.int (3 : Int32)), .val (.int x687), .val (.int x689), .val (.ref r832), .val (.ref b840), .val (.int (1 : Int32))] [(.int (1 : Int32))])) _
          refine XS.goto X874.here hx rfl (pc0 := 125) (pc' := 129) rfl (hb hby at_125) (by decide) (by decide) ?_
          show Steps p.tables e below (T874.setTop (mkF m 129 #[.val (.int p0), .val (.int p1), .val (.long q2), .second, .val (.int p3), .val (.int p4), .val (.int (3 : Int32)), .val (.int x687), .val (.int x689), .val (.ref r832), .val (.ref b840), .val (.int (1 : Int32))] [(.int (1 : Int32))])) _
          refine XS.istore X874.here hx rfl (hb hby at_129) rfl (l' := #[.val (.int p0), .val (.int p1), .val (.long q2), .second, .val (.int p3), .val (.int p4), .val (.int (3 : Int32)), .val (.int x687), .val (.int x689), .val (.ref r832), .val (.ref b840), .val (.int (1 : Int32))]) rfl ?_
          show Steps p.tables e below (T874.setTop (mkF m 131 #[.val (.int p0), .val (.int p1), .val (.long q2), .second, .val (.int p3), .val (.int p4), .val (.int (3 : Int32)), .val (.int x687), .val (.int x689), .val (.ref r832), .val (.ref b840), .val (.int (1 : Int32))] [])) _
          refine XS.iload X874.here hx rfl (hb hby at_131) rfl ?_
          show Steps p.tables e below (T874.setTop (mkF m 133 #[.val (.int p0), .val (.int p1), .val (.long q2), .second, .val (.int p3), .val (.int p4), .val (.int (3 : Int32)), .val (.int x687), .val (.int x689), .val (.ref r832), .val (.ref b840), .val (.int (1 : Int32))] [(.int (1 : Int32))])) _
          exact retZ X874 hx Bd.returns (by decide) (hb hby at_133) hr
        ·
          show Q_rm0 Z p0 p1 q2 p3 p4 h0 n0 _ T874.heap _
          rw [e874]
          exact ⟨rfl, N874⟩
set_option maxRecDepth 65536 in
set_option maxHeartbeats 40000000 in
theorem comes_1 {Post : Tables → Env → Array Value → State → Outcome → State → Prop} (hpost : ∀ tb e args s v u, (limb_1_1.after args s (.returned v) u = true ∧ limb_1_2.after args s (.returned v) u = true ∧ True) → FrameEnd s (.returned v) u (Jvm.fieldLocs frame_1_writes args s ++ Jvm.arrayLocs frame_1_arrays args s ++ Jvm.staticLocs frame_1_statics s) 16 128 → Post tb e args s (.returned v) u) :
    ArmFor flags0 classFile x code maxLocals ret World_1 tables_1 room_1 Calls_1 rest_1 Pre_1 Post := by
  intro l hfl _ _ p e ha hc hk s m args below hf hA hF happ hP
  obtain ⟨hcalls, hrest, hpre⟩ := hP
  obtain ⟨-, -, -, hnamed, -, -, -, hat⟩ := (Spec.applies_iff hf).mp happ
  obtain ⟨hg, hn⟩ := and_e (Cond.before_iff.mp (show (Jvm.Cond.and given_1 narrow_1).before args s = true from hpre))
  obtain ⟨g879, g880⟩ := and_e hg
  obtain ⟨g881, g882⟩ := and_e g880
  obtain ⟨g883, g884⟩ := and_e g882
  obtain ⟨g885, g886⟩ := and_e g884
  obtain ⟨g887, g888⟩ := and_e g886
  obtain ⟨w0, w1, w2, w3, w4, rfl⟩ : ∃ w0 w1 w2 w3 w4 : Value, args = #[w0, w1, w2, w3, w4] := by
    have hs : args.size = 5 := by simpa [Cond.value, given_1] using g879
    obtain ⟨L⟩ := args
    match L, hs with
    | [w0, w1, w2, w3, w4], _ => exact ⟨w0, w1, w2, w3, w4, rfl⟩
  have hw := fun d (hd : d ∈ tables_1) => atoms_spec (ws := Jvm.Cond.code x code maxLocals ret :: tables_1) hat d (List.mem_cons_of_mem _ hd)
  have hfit : Fit s := fun {y c} hc i hi => by
    obtain ⟨ha, rfl⟩ := Array.getElem?_eq_some_iff.mp hc
    have q := List.all_eq_true.mp ((Array.all_eq_true_iff_forall_mem.mp hF) _ (Array.getElem_mem ha)) i (List.mem_range.mpr hi)
    simpa [Array.getElem?_eq_getElem hi] using q
  obtain ⟨i0, ei0⟩ := is_v g881
  obtain rfl : w0 = (.int i0) := Option.some.inj ei0
  obtain ⟨i1, ei1⟩ := is_v g883
  obtain rfl : w1 = (.int i1) := Option.some.inj ei1
  obtain ⟨i2, ei2⟩ := isL_v g885
  obtain rfl : w2 = (.long i2) := Option.some.inj ei2
  obtain ⟨i3, ei3⟩ := is_v g887
  obtain rfl : w3 = (.int i3) := Option.some.inj ei3
  obtain ⟨i4, ei4⟩ := is_v g888
  obtain rfl : w4 = (.int i4) := Option.some.inj ei4
  obtain ⟨n, o, h1, h2, h3, _, L, rfl, ⟨rfl, N⟩, hq⟩ := rm0 l s _ hw tables_1 i0 i1 i2 i3 i4 s.heap s.heap.size (Nat.le_refl _) p e ha hc hk s m _ below hf ((Spec.applies_iff_loose hf).mp happ).1 ⟨rfl, State.Warmed39.refl s, rfl⟩ trivial
  refine ⟨n, _, h1, h2, h3, hpost _ _ _ _ _ _ ⟨Cond.after_iff.mpr rfl, Cond.after_iff.mpr (eq_i res_at (Term.int_eval (1)) rfl), trivial⟩ ⟨hq.1, hq.2.1, (hq.2.2.sift fun y hy => Or.inr (N y hy)).mono (by decide) (by decide)⟩⟩
theorem main_1_1 : Claimed_1_1 := comes_1 fun _ _ _ _ _ _ h hF => ⟨h.1, hF⟩
theorem main_1_2 : Claimed_1_2 := comes_1 fun _ _ _ _ _ _ h hF => ⟨h.2.1, hF⟩
end Jvm.Pilot.@@N@@
namespace Jvm.Pilot.@@N@@
open Jvm Jvm.ClassFile Sem Op Lib Jvm.Free Jvm.Stand Jvm.Pilot.@@N@@.Jvm.D
/-! MADE BY PROGRAM (witnessworld.py) out of the Statement's table words and the real class files: 14 classes; the members and pool entries that the words name. The judged class is class 1, her method 1. -/
namespace start1
open Jvm.ClassFile
def u (s : String) : CpInfo := .utf8 (stringToUtf16 s)
/-- a pool by its gaps: so many unusable entries, then the entry; so many at the end -/
def gap : Nat → List CpInfo → List CpInfo
  | 0, r => r
  | n + 1, r => .unusable :: gap n r
def poolList (es : List (Nat × CpInfo)) (last : Nat) : List CpInfo := es.foldr (fun e r => gap e.1 (e.2 :: r)) (gap last [])
def pool (es : List (Nat × CpInfo)) (last : Nat) : Array CpInfo := ⟨poolList es last⟩
def fileOf (pool : Array CpInfo) (this : Nat) (attrs : Array Attribute := #[]) (ms : Array MethodInfo := #[]) (fl : Nat := 33) (sup : Nat := 0) (ifs : Array Nat := #[]) (fds : Array FieldInfo := #[]) : ClassFile where
  minorVersion := 0
  majorVersion := 65
  constantPool := pool
  accessFlags := fl
  thisClass := this
  superClass := sup
  interfaces := ifs
  fields := fds
  methods := ms
  attributes := attrs
def plain (name : String) (sup : Option ClassId) : Class where
  name := name
  kind := .ordinary
  loader := none
  accessFlags := 33
  super := sup
  interfaces := #[]
  cf := none
  fields := #[]
  methods := #[]
  instanceTypes := #[]
  staticTypes := #[]
  resolved := #[]
  callSites := []
  init := .initialized
  statics := none
  mirror := none

def pool0 : Array CpInfo := pool [(5, u "<init>"), (0, u "()V"), (1, .class_ 10), (1, u "java/lang/Object")] 113

def k0c0 : Code := { maxStack := 0, maxLocals := 1, code := object_method_1_code, exceptionTable := #[], attributes := #[] }
def k0m0 : Method := { name := "<init>", desc := "()V", sig := { parameters := [], returnType := none }, accessFlags := 1, code := some k0c0 }
/-- java/lang/Object -/
def k0 : Class := { plain "java/lang/Object" none with
  accessFlags := 33
  interfaces := #[]
  cf := some (fileOf pool0 8 #[] #[{ accessFlags := 1, nameIndex := 5, descriptorIndex := 6, attributes := #[] }] 33 0 #[] #[])
  fields := #[]
  methods := #[k0m0]
  instanceTypes := #[]
  staticTypes := #[]
  resolved := Array.replicate 124 none
  statics := none }

def pool1 : Array CpInfo := pool [(2, .class_ 4), (1, u "java/lang/Object"), (0, u "<init>"), (0, u "()V"), (0, .integer 2147483647), (0, .methodref 9 10), (0, .class_ 11), (0, .nameAndType 12 13), (0, u "com/example/sheafworks/sheafworks/storage/DecoderAtEndPinLaw"), (0, u "bytes"), (0, u "(JI)[B"), (0, .class_ 15), (0, u "com/example/sheafworks/sheafworks/storage/RangeCoder$Decoder"), (0, .methodref 14 17), (0, .nameAndType 5 18), (0, u "([BII)V"), (0, .methodref 14 20), (0, .nameAndType 21 22), (0, u "atEnd"), (0, u "()Z"), (0, .methodref 14 24), (0, .nameAndType 25 26), (0, u "direct"), (0, u "(I)I"), (2, u "law"), (0, u "(IIJII)Z")] 12

def k1m0 : Method := { name := "<init>", desc := "()V", sig := { parameters := [], returnType := none }, accessFlags := 2, code := none }
def k1c1 : Code := { maxStack := 5, maxLocals := 12, code := code, exceptionTable := #[], attributes := #[] }
def k1m1 : Method := { name := "law", desc := "(IIJII)Z", sig := { parameters := [.int, .int, .long, .int, .int], returnType := some .boolean }, accessFlags := 9, code := some k1c1 }
def k1c2 : Code := { maxStack := 5, maxLocals := 4, code := method_3_code, exceptionTable := #[], attributes := #[] }
def k1m2 : Method := { name := "bytes", desc := "(JI)[B", sig := { parameters := [.long, .int], returnType := some (.array .byte) }, accessFlags := 10, code := some k1c2 }
/-- com/example/sheafworks/sheafworks/storage/DecoderAtEndPinLaw -/
def k1 : Class := { plain "com/example/sheafworks/sheafworks/storage/DecoderAtEndPinLaw" (some 0) with
  accessFlags := 49
  interfaces := #[]
  cf := some (fileOf pool1 9 #[] #[{ accessFlags := 2, nameIndex := 5, descriptorIndex := 6, attributes := #[] }, { accessFlags := 9, nameIndex := 29, descriptorIndex := 30, attributes := #[] }, { accessFlags := 10, nameIndex := 12, descriptorIndex := 13, attributes := #[] }] 49 2 #[] #[])
  fields := #[]
  methods := #[k1m0, k1m1, k1m2]
  instanceTypes := #[]
  staticTypes := #[]
  resolved := Array.replicate 43 none
  statics := none }

def pool2 : Array CpInfo := pool [(1, .class_ 2), (0, u "com/example/sheafworks/sheafworks/storage/RangeCoder"), (0, .methodref 4 5), (0, .class_ 6), (0, .nameAndType 7 8), (0, u "java/lang/Object"), (0, u "<init>"), (0, u "()V"), (0, .fieldref 10 11), (0, .class_ 12), (0, .nameAndType 13 14), (0, u "com/example/sheafworks/sheafworks/storage/RangeCoder$Decoder"), (0, u "range"), (0, u "I"), (0, .fieldref 10 16), (0, .nameAndType 17 18), (0, u "in"), (0, u "[B"), (0, .fieldref 10 20), (0, .nameAndType 21 14), (0, u "position"), (0, .fieldref 10 23), (0, .nameAndType 24 14), (0, u "end"), (0, .methodref 10 26), (0, .nameAndType 27 28), (0, u "next"), (0, u "()I"), (7, .class_ 37), (0, u "java/lang/Integer"), (0, .fieldref 10 39), (0, .nameAndType 40 14), (0, u "code"), (0, .methodref 36 42), (0, .nameAndType 43 44), (0, u "compareUnsigned"), (0, u "(II)I"), (3, .integer 16777216), (6, u "([BII)V"), (5, u "direct"), (0, u "(I)I"), (3, u "atEnd"), (0, u "()Z")] 5

def k2c0 : Code := { maxStack := 3, maxLocals := 5, code := prog_79_method_1_code, exceptionTable := #[], attributes := #[] }
def k2m0 : Method := { name := "<init>", desc := "([BII)V", sig := { parameters := [(.array .byte), .int, .int], returnType := none }, accessFlags := 0, code := some k2c0 }
def k2c1 : Code := { maxStack := 4, maxLocals := 5, code := prog_79_method_3_code, exceptionTable := #[], attributes := #[] }
def k2m1 : Method := { name := "direct", desc := "(I)I", sig := { parameters := [.int], returnType := some .int }, accessFlags := 0, code := some k2c1 }
def k2c2 : Code := { maxStack := 2, maxLocals := 1, code := prog_79_method_6_code, exceptionTable := #[], attributes := #[] }
def k2m2 : Method := { name := "atEnd", desc := "()Z", sig := { parameters := [], returnType := some .boolean }, accessFlags := 0, code := some k2c2 }
def k2c3 : Code := { maxStack := 5, maxLocals := 1, code := prog_79_method_7_code, exceptionTable := #[], attributes := #[] }
def k2m3 : Method := { name := "next", desc := "()I", sig := { parameters := [], returnType := some .int }, accessFlags := 2, code := some k2c3 }
/-- com/example/sheafworks/sheafworks/storage/RangeCoder$Decoder -/
def k2 : Class := { plain "com/example/sheafworks/sheafworks/storage/RangeCoder$Decoder" (some 0) with
  accessFlags := 48
  interfaces := #[]
  cf := some (fileOf pool2 10 #[.nestHost 1] #[{ accessFlags := 0, nameIndex := 7, descriptorIndex := 55, attributes := #[] }, { accessFlags := 0, nameIndex := 61, descriptorIndex := 62, attributes := #[] }, { accessFlags := 0, nameIndex := 66, descriptorIndex := 67, attributes := #[] }, { accessFlags := 2, nameIndex := 27, descriptorIndex := 28, attributes := #[] }] 48 4 #[] #[{ accessFlags := 18, nameIndex := 17, descriptorIndex := 18, attributes := #[] }, { accessFlags := 18, nameIndex := 24, descriptorIndex := 14, attributes := #[] }, { accessFlags := 2, nameIndex := 21, descriptorIndex := 14, attributes := #[] }, { accessFlags := 2, nameIndex := 13, descriptorIndex := 14, attributes := #[] }, { accessFlags := 2, nameIndex := 40, descriptorIndex := 14, attributes := #[] }])
  fields := #[{ name := "in", type := (.array .byte), accessFlags := 18, slot := 0, constantValue := 0 }, { name := "end", type := .int, accessFlags := 18, slot := 1, constantValue := 0 }, { name := "position", type := .int, accessFlags := 2, slot := 2, constantValue := 0 }, { name := "range", type := .int, accessFlags := 2, slot := 3, constantValue := 0 }, { name := "code", type := .int, accessFlags := 2, slot := 4, constantValue := 0 }]
  methods := #[k2m0, k2m1, k2m2, k2m3]
  instanceTypes := #[(.array .byte), .int, .int, .int, .int]
  staticTypes := #[]
  resolved := Array.replicate 73 none
  statics := none }

def pool3 : Array CpInfo := pool [(1, .class_ 2), (0, u "java/io/Serializable"), (0, .class_ 4), (0, u "java/lang/Object")] 2

/-- java/io/Serializable -/
def k3 : Class := { plain "java/io/Serializable" (some 0) with
  accessFlags := 1537
  interfaces := #[]
  cf := some (fileOf pool3 1 #[] #[] 1537 3 #[] #[])
  fields := #[]
  methods := #[]
  instanceTypes := #[]
  staticTypes := #[]
  resolved := Array.replicate 7 none
  statics := none }

def pool4 : Array CpInfo := pool [(2, .class_ 4), (1, u "java/lang/Object"), (0, u "<init>"), (0, u "()V"), (1, .class_ 10), (1, u "java/lang/Number"), (2, .class_ 14), (0, u "java/io/Serializable"), (0, u "serialVersionUID"), (0, u "J")] 20

def k4m0 : Method := { name := "<init>", desc := "()V", sig := { parameters := [], returnType := none }, accessFlags := 1, code := none }
/-- java/lang/Number -/
def k4 : Class := { plain "java/lang/Number" (some 0) with
  accessFlags := 1057
  interfaces := #[3]
  cf := some (fileOf pool4 8 #[] #[{ accessFlags := 1, nameIndex := 5, descriptorIndex := 6, attributes := #[] }] 1057 2 #[13] #[{ accessFlags := 26, nameIndex := 15, descriptorIndex := 16, attributes := #[] }])
  fields := #[{ name := "serialVersionUID", type := .long, accessFlags := 26, slot := 0, constantValue := 0 }]
  methods := #[k4m0]
  instanceTypes := #[]
  staticTypes := #[.long]
  resolved := Array.replicate 37 none
  statics := none }

def pool5 : Array CpInfo := pool [(1, .class_ 2), (0, u "java/lang/Comparable"), (0, .class_ 4), (0, u "java/lang/Object")] 7

/-- java/lang/Comparable -/
def k5 : Class := { plain "java/lang/Comparable" (some 0) with
  accessFlags := 1537
  interfaces := #[]
  cf := some (fileOf pool5 1 #[] #[] 1537 3 #[] #[])
  fields := #[]
  methods := #[]
  instanceTypes := #[]
  staticTypes := #[]
  resolved := Array.replicate 12 none
  statics := none }

def pool6 : Array CpInfo := pool [(1, .class_ 2), (0, u "java/lang/constant/Constable"), (0, .class_ 4), (0, u "java/lang/Object")] 6

/-- java/lang/constant/Constable -/
def k6 : Class := { plain "java/lang/constant/Constable" (some 0) with
  accessFlags := 1537
  interfaces := #[]
  cf := some (fileOf pool6 1 #[] #[] 1537 3 #[] #[])
  fields := #[]
  methods := #[]
  instanceTypes := #[]
  staticTypes := #[]
  resolved := Array.replicate 11 none
  statics := none }

def pool7 : Array CpInfo := pool [(1, .class_ 2), (0, u "java/lang/constant/ConstantDesc"), (0, .class_ 4), (0, u "java/lang/Object")] 32

/-- java/lang/constant/ConstantDesc -/
def k7 : Class := { plain "java/lang/constant/ConstantDesc" (some 0) with
  accessFlags := 1537
  interfaces := #[]
  cf := some (fileOf pool7 1 #[] #[] 1537 3 #[] #[])
  fields := #[]
  methods := #[]
  instanceTypes := #[]
  staticTypes := #[]
  resolved := Array.replicate 37 none
  statics := none }

def pool8 : Array CpInfo := pool [(1, .class_ 2), (0, u "java/lang/Integer"), (16, u "digits"), (0, u "[C"), (39, u "(II)I"), (24, u "DigitOnes"), (0, u "[B"), (2, u "DigitTens"), (37, .integer 2147483648), (61, .class_ 190), (0, u "java/lang/Integer$IntegerCache"), (3, u "I"), (8, .class_ 204), (0, u "java/lang/Number"), (2, u "value"), (51, .methodref 1 260), (0, .nameAndType 261 60), (0, u "compare"), (40, u "TYPE"), (0, u "Ljava/lang/Class;"), (0, .class_ 305), (0, u "java/lang/Comparable"), (0, .class_ 307), (0, u "java/lang/constant/Constable"), (0, .class_ 309), (0, u "java/lang/constant/ConstantDesc"), (0, u "MIN_VALUE"), (1, u "MAX_VALUE"), (3, u "SIZE"), (1, u "BYTES"), (1, u "serialVersionUID"), (0, u "J"), (76, u "compareUnsigned")] 54

def k8c0 : Code := { maxStack := 2, maxLocals := 2, code := jdk_33_method_40_code, exceptionTable := #[], attributes := #[] }
def k8m0 : Method := { name := "compare", desc := "(II)I", sig := { parameters := [.int, .int], returnType := some .int }, accessFlags := 9, code := some k8c0 }
def k8c1 : Code := { maxStack := 3, maxLocals := 2, code := jdk_33_method_41_code, exceptionTable := #[], attributes := #[] }
def k8m1 : Method := { name := "compareUnsigned", desc := "(II)I", sig := { parameters := [.int, .int], returnType := some .int }, accessFlags := 9, code := some k8c1 }
/-- java/lang/Integer -/
def k8 : Class := { plain "java/lang/Integer" (some 4) with
  accessFlags := 49
  interfaces := #[5, 6, 7]
  cf := some (fileOf pool8 1 #[.nestMembers #[189]] #[{ accessFlags := 9, nameIndex := 261, descriptorIndex := 60, attributes := #[] }, { accessFlags := 9, nameIndex := 398, descriptorIndex := 60, attributes := #[] }] 49 203 #[304, 306, 308] #[{ accessFlags := 25, nameIndex := 310, descriptorIndex := 194, attributes := #[] }, { accessFlags := 25, nameIndex := 312, descriptorIndex := 194, attributes := #[] }, { accessFlags := 25, nameIndex := 302, descriptorIndex := 303, attributes := #[] }, { accessFlags := 24, nameIndex := 19, descriptorIndex := 20, attributes := #[] }, { accessFlags := 24, nameIndex := 89, descriptorIndex := 86, attributes := #[] }, { accessFlags := 24, nameIndex := 85, descriptorIndex := 86, attributes := #[] }, { accessFlags := 18, nameIndex := 207, descriptorIndex := 194, attributes := #[] }, { accessFlags := 25, nameIndex := 316, descriptorIndex := 194, attributes := #[] }, { accessFlags := 25, nameIndex := 318, descriptorIndex := 194, attributes := #[] }, { accessFlags := 26, nameIndex := 320, descriptorIndex := 321, attributes := #[] }])
  fields := #[{ name := "MIN_VALUE", type := .int, accessFlags := 25, slot := 0, constantValue := 0 }, { name := "MAX_VALUE", type := .int, accessFlags := 25, slot := 1, constantValue := 0 }, { name := "TYPE", type := (.object "java/lang/Class"), accessFlags := 25, slot := 2, constantValue := 0 }, { name := "digits", type := (.array .char), accessFlags := 24, slot := 3, constantValue := 0 }, { name := "DigitTens", type := (.array .byte), accessFlags := 24, slot := 4, constantValue := 0 }, { name := "DigitOnes", type := (.array .byte), accessFlags := 24, slot := 5, constantValue := 0 }, { name := "value", type := .int, accessFlags := 18, slot := 0, constantValue := 0 }, { name := "SIZE", type := .int, accessFlags := 25, slot := 6, constantValue := 0 }, { name := "BYTES", type := .int, accessFlags := 25, slot := 7, constantValue := 0 }, { name := "serialVersionUID", type := .long, accessFlags := 26, slot := 8, constantValue := 0 }]
  methods := #[k8m0, k8m1]
  instanceTypes := #[.int]
  staticTypes := #[.int, .int, (.object "java/lang/Class"), (.array .char), (.array .byte), (.array .byte), .int, .int, .long]
  resolved := Array.replicate 453 none
  statics := none }

def pool9 : Array CpInfo := pool [(1, u "java/lang/Cloneable"), (0, .class_ 1), (0, u "java/lang/Object"), (0, .class_ 3)] 3

/-- java/lang/Cloneable -/
def k9 : Class := { plain "java/lang/Cloneable" (some 0) with
  accessFlags := 1537
  interfaces := #[]
  cf := some (fileOf pool9 2 #[] #[] 1537 4 #[] #[])
  fields := #[]
  methods := #[]
  instanceTypes := #[]
  staticTypes := #[]
  resolved := Array.replicate 8 none
  statics := none }

/-- the primitive byte -/
def k10 : Class := { plain "byte" none with kind := .primitive 'B', accessFlags := 0x411 }
/-- [B -/
def k11 : Class := { plain "[B" (some 0) with kind := .array 10 .byte, interfaces := #[9, 3], accessFlags := 1041 }

/-- the primitive int -/
def k12 : Class := { plain "int" none with kind := .primitive 'I', accessFlags := 0x411 }
/-- [I -/
def k13 : Class := { plain "[I" (some 0) with kind := .array 12 .int, interfaces := #[9, 3], accessFlags := 1041 }

def heap : Heap := #[]
def classes : Array Class := #[k0, k1, k2, k3, k4, k5, k6, k7, k8, k9, k10, k11, k12, k13]
def interned : List (Array UInt16 × Addr) := []
def slotsUsed : Nat := 0
def theMethod : MethodId := ⟨1, 1⟩
def args0 : Array Value := #[.int 5, .int 6, .long 7, .int 8, .int 9]
def aboutOver (below : List Frame) : State where
  vm := { classes := classes, interned := interned.toArray }
  heap := heap
  slotsUsed := slotsUsed
  threads := #[{ frames := .invoking theMethod args0 :: below }]
def below0 : List Frame := [.native { method := ⟨0, 0⟩, args := #[] }]
def about1 : State := aboutOver below0
def p0 : Program := .bare "" "" ""
def e0 : Env := launch0.env 0 0 0
theorem w_frames : about1.frames = Frame.invoking theMethod args0 :: below0 := rfl
set_option maxRecDepth 65536 in
theorem w_args : argsFit about1.vm theMethod args0 = true := by decide +kernel
set_option maxRecDepth 65536 in
theorem w_heap : heapFits about1 = true := by decide +kernel
set_option maxRecDepth 65536 in
theorem w_runnable : about1.curStatus? = some .runnable := by decide +kernel
set_option maxRecDepth 65536 in
theorem w_alone : about1.alone = true := by decide +kernel
set_option maxRecDepth 65536 in
theorem w_named : about1.methodNamed? x = some theMethod := by decide +kernel
set_option maxRecDepth 65536 in
theorem w_hears : about1.hears theMethod below0 = true := by decide +kernel
set_option maxRecDepth 65536 in
theorem w_ripe : about1.ripe theMethod args0 below0 = true := by decide +kernel
theorem w_running : about1.status = .running := rfl
set_option maxRecDepth 65536 in
theorem w_room : about1.hasRoom e0.platform room_1 = true :=
  launch0.hasRoom_least _ room_1 (by decide +kernel) (by decide +kernel) (by decide +kernel) (by decide +kernel) (by decide +kernel) (by decide +kernel)
theorem allAtoms_all (ts : List Jvm.Cond) (a : Array Jvm.Value) (st : Jvm.State) : (allAtoms ts).before a st = ts.all (fun c => c.before a st) := by
  induction ts with
  | nil => rfl
  | cons c t ih =>
    show (Jvm.Cond.and c (allAtoms t)).before a st = _
    rw [Jvm.Cond.before_and, ih, List.all_cons]
def words1 : List Jvm.Cond := Jvm.Cond.code x code maxLocals ret :: tables_1
/-- a 'code' word, met by the world's own term for the bytes: nothing is compared byte by byte -/
theorem code_word {y : MethodName} {bytes : ByteArray} {mx : Nat} {rt : Option FieldType} {a : Array Value} {s : State} {m : MethodId} {meth : Method} {c : Code} (h1 : s.methodNamed? y = some m) (h2 : s.vm.method? m = some meth) (h3 : meth.code = some c) (h4 : c.code = bytes)
    (h5 : (c.maxLocals == mx && c.exceptionTable.isEmpty && decide (c.maxStack ≤ mostOperands) && decide (meth.sig.returnType = rt) && !meth.locks && decide (parseMethodDescriptor y.desc = some meth.sig)) = true) : (Jvm.Cond.code y bytes mx rt).before a s = true := by
  simp only [Bool.and_eq_true, beq_iff_eq, Bool.not_eq_true', decide_eq_true_eq] at h5
  obtain ⟨⟨⟨⟨⟨g1, g2⟩, g3⟩, g4⟩, g5⟩, g6⟩ := h5
  simp [Cond.before, Cond.holds, Cond.value, h1, h2, h3, h4, g1, g2, g3, g4, g5, g6]
def isCode : Jvm.Cond → Bool
  | .code _ _ _ _ => true
  | _ => false
theorem all_split {L : List Jvm.Cond} {P : Jvm.Cond → Bool} (h1 : L.all (fun c => isCode c || P c) = true) (h2 : ∀ c ∈ L.filter isCode, P c = true) : L.all P = true := by
  refine List.all_eq_true.mpr fun c hc => ?_
  have h := List.all_eq_true.mp h1 c hc
  rcases Bool.eq_false_or_eq_true (isCode c) with hi | hi
  · exact h2 c (List.mem_filter.mpr ⟨hc, hi⟩)
  · simpa [hi] using h
set_option maxRecDepth 65536 in
theorem w_c0 : (Jvm.Cond.code x code maxLocals ret).before args0 about1 = true := code_word (m := ⟨1, 1⟩) (meth := k1m1) (c := k1c1) (by decide +kernel) rfl rfl rfl (by decide +kernel)
set_option maxRecDepth 65536 in
theorem w_c1 : (Jvm.Cond.code ({ cls := "com/example/sheafworks/sheafworks/storage/DecoderAtEndPinLaw", name := "bytes", desc := "(JI)[B" } : Jvm.MethodName) method_3_code (4 : Nat) (Option.some (Jvm.ClassFile.FieldType.array Jvm.ClassFile.FieldType.byte))).before args0 about1 = true := code_word (m := ⟨1, 2⟩) (meth := k1m2) (c := k1c2) (by decide +kernel) rfl rfl rfl (by decide +kernel)
set_option maxRecDepth 65536 in
theorem w_c2 : (Jvm.Cond.code ({ cls := "com/example/sheafworks/sheafworks/storage/RangeCoder$Decoder", name := "<init>", desc := "([BII)V" } : Jvm.MethodName) prog_79_method_1_code (5 : Nat) (Option.none : Option Jvm.ClassFile.FieldType)).before args0 about1 = true := code_word (m := ⟨2, 0⟩) (meth := k2m0) (c := k2c0) (by decide +kernel) rfl rfl rfl (by decide +kernel)
set_option maxRecDepth 65536 in
theorem w_c3 : (Jvm.Cond.code ({ cls := "java/lang/Object", name := "<init>", desc := "()V" } : Jvm.MethodName) object_method_1_code (1 : Nat) (Option.none : Option Jvm.ClassFile.FieldType)).before args0 about1 = true := code_word (m := ⟨0, 0⟩) (meth := k0m0) (c := k0c0) (by decide +kernel) rfl rfl rfl (by decide +kernel)
set_option maxRecDepth 65536 in
theorem w_c4 : (Jvm.Cond.code ({ cls := "com/example/sheafworks/sheafworks/storage/RangeCoder$Decoder", name := "next", desc := "()I" } : Jvm.MethodName) prog_79_method_7_code (1 : Nat) (Option.some Jvm.ClassFile.FieldType.int)).before args0 about1 = true := code_word (m := ⟨2, 3⟩) (meth := k2m3) (c := k2c3) (by decide +kernel) rfl rfl rfl (by decide +kernel)
set_option maxRecDepth 65536 in
theorem w_c5 : (Jvm.Cond.code ({ cls := "com/example/sheafworks/sheafworks/storage/RangeCoder$Decoder", name := "atEnd", desc := "()Z" } : Jvm.MethodName) prog_79_method_6_code (1 : Nat) (Option.some Jvm.ClassFile.FieldType.boolean)).before args0 about1 = true := code_word (m := ⟨2, 2⟩) (meth := k2m2) (c := k2c2) (by decide +kernel) rfl rfl rfl (by decide +kernel)
set_option maxRecDepth 65536 in
theorem w_c6 : (Jvm.Cond.code ({ cls := "com/example/sheafworks/sheafworks/storage/RangeCoder$Decoder", name := "direct", desc := "(I)I" } : Jvm.MethodName) prog_79_method_3_code (5 : Nat) (Option.some Jvm.ClassFile.FieldType.int)).before args0 about1 = true := code_word (m := ⟨2, 1⟩) (meth := k2m1) (c := k2c1) (by decide +kernel) rfl rfl rfl (by decide +kernel)
set_option maxRecDepth 65536 in
theorem w_c7 : (Jvm.Cond.code ({ cls := "java/lang/Integer", name := "compareUnsigned", desc := "(II)I" } : Jvm.MethodName) jdk_33_method_41_code (2 : Nat) (Option.some Jvm.ClassFile.FieldType.int)).before args0 about1 = true := code_word (m := ⟨8, 1⟩) (meth := k8m1) (c := k8c1) (by decide +kernel) rfl rfl rfl (by decide +kernel)
set_option maxRecDepth 65536 in
theorem w_c8 : (Jvm.Cond.code ({ cls := "java/lang/Integer", name := "compare", desc := "(II)I" } : Jvm.MethodName) jdk_33_method_40_code (2 : Nat) (Option.some Jvm.ClassFile.FieldType.int)).before args0 about1 = true := code_word (m := ⟨8, 0⟩) (meth := k8m0) (c := k8c0) (by decide +kernel) rfl rfl rfl (by decide +kernel)
def codes1 : List Jvm.Cond := [Jvm.Cond.code x code maxLocals ret, Jvm.Cond.code ({ cls := "com/example/sheafworks/sheafworks/storage/DecoderAtEndPinLaw", name := "bytes", desc := "(JI)[B" } : Jvm.MethodName) method_3_code (4 : Nat) (Option.some (Jvm.ClassFile.FieldType.array Jvm.ClassFile.FieldType.byte)), Jvm.Cond.code ({ cls := "com/example/sheafworks/sheafworks/storage/RangeCoder$Decoder", name := "<init>", desc := "([BII)V" } : Jvm.MethodName) prog_79_method_1_code (5 : Nat) (Option.none : Option Jvm.ClassFile.FieldType), Jvm.Cond.code ({ cls := "java/lang/Object", name := "<init>", desc := "()V" } : Jvm.MethodName) object_method_1_code (1 : Nat) (Option.none : Option Jvm.ClassFile.FieldType), Jvm.Cond.code ({ cls := "com/example/sheafworks/sheafworks/storage/RangeCoder$Decoder", name := "next", desc := "()I" } : Jvm.MethodName) prog_79_method_7_code (1 : Nat) (Option.some Jvm.ClassFile.FieldType.int), Jvm.Cond.code ({ cls := "com/example/sheafworks/sheafworks/storage/RangeCoder$Decoder", name := "atEnd", desc := "()Z" } : Jvm.MethodName) prog_79_method_6_code (1 : Nat) (Option.some Jvm.ClassFile.FieldType.boolean), Jvm.Cond.code ({ cls := "com/example/sheafworks/sheafworks/storage/RangeCoder$Decoder", name := "direct", desc := "(I)I" } : Jvm.MethodName) prog_79_method_3_code (5 : Nat) (Option.some Jvm.ClassFile.FieldType.int), Jvm.Cond.code ({ cls := "java/lang/Integer", name := "compareUnsigned", desc := "(II)I" } : Jvm.MethodName) jdk_33_method_41_code (2 : Nat) (Option.some Jvm.ClassFile.FieldType.int), Jvm.Cond.code ({ cls := "java/lang/Integer", name := "compare", desc := "(II)I" } : Jvm.MethodName) jdk_33_method_40_code (2 : Nat) (Option.some Jvm.ClassFile.FieldType.int)]
set_option maxRecDepth 65536 in
theorem codes_eq : words1.filter isCode = codes1 := rfl
theorem w_codes : ∀ c ∈ words1.filter isCode, c.before args0 about1 = true := by
  rw [codes_eq]
  intro c hc
  simp only [codes1, List.mem_cons, List.not_mem_nil, or_false] at hc
  rcases hc with rfl | rfl | rfl | rfl | rfl | rfl | rfl | rfl | rfl
  · exact w_c0
  · exact w_c1
  · exact w_c2
  · exact w_c3
  · exact w_c4
  · exact w_c5
  · exact w_c6
  · exact w_c7
  · exact w_c8
set_option maxRecDepth 65536 in
theorem w_t1 : (words1.take 24).all (fun c => isCode c || c.before args0 about1) = true := by decide +kernel
set_option maxRecDepth 65536 in
theorem w_t2 : ((words1.drop 24).take 24).all (fun c => isCode c || c.before args0 about1) = true := by decide +kernel
set_option maxRecDepth 65536 in
theorem w_t3 : ((words1.drop 24).drop 24).all (fun c => isCode c || c.before args0 about1) = true := by decide +kernel
theorem w_tables : (allAtoms (Jvm.Cond.code x code maxLocals ret :: tables_1)).before args0 about1 = true := by
  rw [allAtoms_all]
  show words1.all (fun c => c.before args0 about1) = true
  refine all_split ?_ w_codes
  rw [← List.take_append_drop 24 words1, List.all_append, w_t1, ← List.take_append_drop 24 (words1.drop 24), List.all_append, w_t2, w_t3]
  rfl
set_option maxRecDepth 65536 in
theorem w_case : (Jvm.Cond.and given_1 narrow_1).before args0 about1 = true := by decide +kernel
theorem w_applies : (headSpec (Jvm.Cond.code x code maxLocals ret :: tables_1) room_1).applies x e0.platform about1 = true :=
  (Spec.applies_iff w_frames).mpr ⟨w_running, w_runnable, w_alone, w_named, w_hears, w_ripe, w_room, w_tables⟩
theorem atStart : AtStart classFile x code maxLocals ret World_1 tables_1 room_1 Calls_1 rest_1 Pre_1 launch0 p0 e0 about1 theMethod args0 below0 :=
  ⟨lists_1, trivial, launch0.admits_env _ _ _, launch0.least_env, fairChoices_fair.cas, fairChoices_fair.clock, w_frames, w_args, w_heap, w_applies, trivial, trivial, w_case⟩
end start1
theorem witness_1 : WitnessClaimed_1 := ⟨start1.p0, start1.e0, start1.about1, start1.theMethod, start1.args0, start1.below0, start1.atStart⟩
end Jvm.Pilot.@@N@@
