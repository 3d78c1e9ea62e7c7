import JvmDerived
import JvmDerived.Pilot.@@N@@Statement
import JvmDerived.Pilot.@@N@@Code
set_option linter.unusedVariables false
set_option linter.unusedSimpArgs false
namespace Jvm.RoadKit
open Sem ClassFile Op Lib Jvm.Stand Jvm.Free Jvm.LawKit
section New
variable {p : Program} {l : Launch} {e : Env} {R : Room} {s : State} {m : MethodId} {args : Array Value} {below : List Frame} {meth : Method} {c : Code} {T : State} {locs : List Loc} {cells slots : Nat}
theorem retI (X : Stand p l e R s m args below meth c T locs cells slots) (hx : p.tables.exec = Jvm.exec) {pc : Nat} {Ls : Array Slot} {z : Int32} {rest : List Value} (hret : meth.sig.returnType = some .int) (hd : decode c.code pc = .ok (.ireturn, 1)) {fs : List Frame}
    (hl : ∀ (f : JFrame) (acts : List Action), f.method = m → f.locked = none → f.entered = [] → (doReturn e (T.setTop f) acts (some (.int z))).1 = T.setFrames fs) : Steps p.tables e below (T.setTop (mkF m pc Ls (.int z :: rest))) (T.setFrames fs) := by
  have hm' : T.vm.method? m = some meth := X.method'
  have hn : narrow .int (.int z) = .int z := rfl
  show Steps p.tables e below (T.setTop { method := m, pc := pc, locals := Ls, stack := _ :: rest, locked := none }) _
  jvm_step X.here [X.here.top, hx, hd, hm', hret, hn]
  first | (intro acts; rw [hl _ acts rfl rfl rfl]) | rw [hl _ _ rfl rfl rfl]
  exact Steps.refl _
theorem retZ (X : Stand p l e R s m args below meth c T locs cells slots) (hx : p.tables.exec = Jvm.exec) {pc : Nat} {Ls : Array Slot} {z : Int32} {rest : List Value} (hret : meth.sig.returnType = some .boolean) (hz : z &&& 1 = z) (hd : decode c.code pc = .ok (.ireturn, 1)) {fs : List Frame}
    (hl : ∀ (f : JFrame) (acts : List Action), f.method = m → f.locked = none → f.entered = [] → (doReturn e (T.setTop f) acts (some (.int z))).1 = T.setFrames fs) : Steps p.tables e below (T.setTop (mkF m pc Ls (.int z :: rest))) (T.setFrames fs) := by
  have hn : narrow .boolean (.int z) = .int z := by show Value.int (z &&& 1) = _; rw [hz]
  exact retOut X hx hret hn (Or.inl ⟨rfl, Or.inr (Or.inl rfl), z, rfl⟩) hd hl
theorem retJ (X : Stand p l e R s m args below meth c T locs cells slots) (hx : p.tables.exec = Jvm.exec) {pc : Nat} {Ls : Array Slot} {z : Int64} {rest : List Value} (hret : meth.sig.returnType = some .long) (hd : decode c.code pc = .ok (.lreturn, 1)) {fs : List Frame}
    (hl : ∀ (f : JFrame) (acts : List Action), f.method = m → f.locked = none → f.entered = [] → (doReturn e (T.setTop f) acts (some (.long z))).1 = T.setFrames fs) : Steps p.tables e below (T.setTop (mkF m pc Ls (.long z :: rest))) (T.setFrames fs) :=
  retOut X hx hret rfl (Or.inr (Or.inl ⟨rfl, rfl, z, rfl⟩)) hd hl
theorem retA (X : Stand p l e R s m args below meth c T locs cells slots) (hx : p.tables.exec = Jvm.exec) {pc : Nat} {Ls : Array Slot} {a : Addr} {rest : List Value} {t : FieldType} (ht : t.isReference = true) (hn : narrow t (.ref a) = .ref a) (hret : meth.sig.returnType = some t) (hd : decode c.code pc = .ok (.areturn, 1)) {fs : List Frame}
    (hl : ∀ (f : JFrame) (acts : List Action), f.method = m → f.locked = none → f.entered = [] → (doReturn e (T.setTop f) acts (some (.ref a))).1 = T.setFrames fs) : Steps p.tables e below (T.setTop (mkF m pc Ls (.ref a :: rest))) (T.setFrames fs) :=
  retOut X hx hret hn (Or.inr (Or.inr (Or.inr (Or.inr ⟨rfl, ht, rfl⟩)))) hd hl
theorem newPk {Z : State} {a0 : Array Value} {h : Heap} (X : Stand p l e R s m args below meth c T locs cells slots) (hx : p.tables.exec = Jvm.exec) (hZ : Z.Warmed39 s.vm) {aty : ArrayType} (w : (Cond.arrayClass (newarray.typeOf aty)).before a0 Z = true) (eT : T.heap = h) {g : JFrame} (hg : g.method = m)
    (hd : decode c.code g.pc = .ok (.newarray aty, 2)) {n : Int32} {rest : List Value} (hs : g.stack = .int n :: rest) (hn : ¬ n < 0) {cap : Nat} (hcap : n.toNatClampNeg ≤ cap) (hb : cap * 8 ≤ 536870912) (hc : cells + 1 ≤ R.cells) (hl : slots + cap ≤ R.slots) :
    ∃ T' h' cA, Stand p l e R s m args below meth c T' locs (cells + 1) (slots + cap) ∧ T'.heap = h' ∧ Ext h h' ∧ Arr Z h' h.size (newA cA (newarray.typeOf aty) n) (newarray.typeOf aty) ∧ Z.vm.findClass ("[" ++ (newarray.typeOf aty).toString) = some cA ∧
      ∀ target, Steps p.tables e below (T'.setTop { g with pc := g.pc + 2, stack := .ref h.size :: rest }) target → Steps p.tables e below (T.setTop g) target := by
  have hw8 : componentBytes (newarray.typeOf aty) ≤ 8 := by cases aty <;> decide
  obtain ⟨cA, kA, comp, f1, f2, f3, X', st⟩ := X.newarrayPrim hx (mvA hZ w) hg hd hs hn (Nat.le_trans (Nat.mul_le_mul hcap hw8) hb) hc (by omega)
  subst eT
  have f0 : Z.vm.findClass ("[" ++ (newarray.typeOf aty).toString) = some cA := by rw [← hZ.alike.findClass]; exact f1
  obtain ⟨kZ, z1, -⟩ := Vm.findClass_spec f0
  obtain ⟨k', z2, z3⟩ := hZ.alike.2.2 _ _ z1
  have ek : kA = k' := Option.some.inj (f2.symm.trans z2)
  have hq : kZ.kind = .array comp (newarray.typeOf aty) := by rw [← f3, ek, z3]
  refine ⟨_, _, cA, X'.more (Nat.le_refl _) (by omega), rfl, ext_of fun a ha => ?_, ⟨?_, ⟨fun q => by simp [newA], kZ, z1, comp, hq⟩, by simp [newA]⟩, f0, st⟩
  · show (T.heap.push _)[a]? = _
    rw [Array.getElem?_push_lt ha, Array.getElem?_eq_getElem ha]
  · show (T.heap.push _)[T.heap.size]? = _
    simp [newA]
theorem selPriv {s : State} {args : Array Value} {C : String} {y y0 : MethodName} (hsel : (Cond.selects C y0 y0).before args s = true) (hcls : y0.cls = y.cls) (hpriv : s.PrivateAt y) (hinst : (Cond.instanceMethod y).before args s = true) (hy : y.cls ≠ "java/lang/invoke/MethodHandle" ∧ y.cls ≠ "java/lang/invoke/VarHandle") : (Cond.selects y.cls y y).before args s = true := by
  obtain ⟨mk, meth, hnamed, hm, -, -⟩ := Cond.instanceMethod_spec hinst
  have hc := findClass_of_methodNamed hnamed
  obtain ⟨_, _, m2, -, -, q3, -, kP, hkP, hkPi⟩ := Cond.selects_spec hsel
  have h0 := findClass_of_methodNamed q3
  rw [hcls] at h0
  have e : mk.cls = m2.cls := Option.some.inj (hc.symm.trans h0)
  exact selects_self_of_private hc (by rw [e]; exact hkP) hkPi hpriv hinst hy
theorem insA {Z : State} {h : Heap} {a : Addr} {k : ClassId} {ty : FieldType} {z : Int32} {vs : List Value} {d : Value} {K : String} (F : Arv Z h a k ty z vs d) (hk : Z.vm.findClass K = some k) : Ins Z h a K true := by
  obtain ⟨c, A, q, -⟩ := F
  exact ⟨c, k, A.1, hk, by simp [A.plain, q, Vm.assignable_self]⟩
theorem lswHit {g : JFrame} {target : State} (X : Stand p l e R s m args below meth c T locs cells slots) (hx : p.tables.exec = Jvm.exec) (hg : g.method = m) {pc0 pc' : Nat} (hpc : g.pc = pc0) {k : Int32} {rest : List Value} {dflt : Int} {pairs : Array (Int × Int)} {len : Nat}
    (hd : decode c.code g.pc = .ok (.lookupswitch dflt pairs, len)) (hs : g.stack = .int k :: rest) (hsort : (pairs.toList.zip (pairs.toList.drop 1)).all (fun (a, next) => a.1 < next.1) = true) {a off : Int} (hf : pairs.find? (·.1 == k.toInt) = some (a, off)) (ho : 0 ≤ (pc0 : Int) + off) (hp : ((pc0 : Int) + off).toNat = pc')
    (hr : Steps p.tables e below (T.setTop { g with pc := pc', stack := rest }) target) : Steps p.tables e below (T.setTop g) target := by
  subst hpc hp
  exact X.lookupswitchHit hx hg hs hd hsort hf ho _ hr
theorem lswMiss {g : JFrame} {target : State} (X : Stand p l e R s m args below meth c T locs cells slots) (hx : p.tables.exec = Jvm.exec) (hg : g.method = m) {pc0 pc' : Nat} (hpc : g.pc = pc0) {k : Int32} {rest : List Value} {dflt : Int} {pairs : Array (Int × Int)} {len : Nat}
    (hd : decode c.code g.pc = .ok (.lookupswitch dflt pairs, len)) (hs : g.stack = .int k :: rest) (hsort : (pairs.toList.zip (pairs.toList.drop 1)).all (fun (a, next) => a.1 < next.1) = true) (hf : pairs.find? (·.1 == k.toInt) = none) (ho : 0 ≤ (pc0 : Int) + dflt) (hp : ((pc0 : Int) + dflt).toNat = pc')
    (hr : Steps p.tables e below (T.setTop { g with pc := pc', stack := rest }) target) : Steps p.tables e below (T.setTop g) target := by
  subst hpc hp
  exact X.lookupswitchMiss hx hg hs hd hsort hf ho _ hr
end New
end Jvm.RoadKit
namespace Jvm.Pilot.@@N@@
open Jvm Jvm.ClassFile Sem Op Lib Jvm.Free Jvm.Stand Jvm.LawKit Jvm.RoadKit Bundle Jvm.Pilot.@@N@@.Jvm.D
theorem d4_0 : decode jdk_65_method_150_code 0 = .ok (.aload_n 0, 1) := by decide +kernel
theorem d4_1 : decode jdk_65_method_150_code 1 = .ok (.ifnonnull 5, 3) := by decide +kernel
theorem d4_6 : decode jdk_65_method_150_code 6 = .ok (.aload_n 0, 1) := by decide +kernel
theorem d4_7 : decode jdk_65_method_150_code 7 = .ok (.arraylength, 1) := by decide +kernel
theorem d4_8 : decode jdk_65_method_150_code 8 = .ok (.lookupswitch 41 #[(0, 28), (1, 32)], 28) := by decide +kernel
theorem d4_36 : decode jdk_65_method_150_code 36 = .ok (.iconst 1, 1) := by decide +kernel
theorem d4_37 : decode jdk_65_method_150_code 37 = .ok (.goto 22, 3) := by decide +kernel
theorem d4_59 : decode jdk_65_method_150_code 59 = .ok (.ireturn, 1) := by decide +kernel
theorem pn_0 : plainName "java/util/Arrays" = true := by first | (simp [plainName, overriddenIn]; done) | decide +kernel
theorem ef_hh0 (m : MethodId) (a0 : Addr) : entryFrame m #[(.ref a0)] 1 = mkF m 0 #[.val (.ref a0)] [] := by first | (simp [entryFrame, mkF, argsToLocals, Value.category]; done) | rfl
def Q_hh0 (Z : State) (a0 : Addr) (k1 : ClassId) (h0 : Heap) (n0 : Nat) (v : Option Value) (h : Heap) (L : List Loc) : Prop := v = some (.int (1 : Int32)) ∧ Fr n0 L ∧ h = h0
set_option maxRecDepth 65536 in
set_option maxHeartbeats 40000000 in
theorem hh0 (l : Launch) (Z : State) (aw : Array Value) (hw : ∀ d ∈ tables_1, d.before aw Z = true) (ws : List Jvm.Cond) (a0 : Addr) (k1 : ClassId) (h0 : Heap) (n0 : Nat) (Z0 : n0 ≤ h0.size) (V_a0 : Arv Z h0 a0 k1 .int (0 : Int32) [] (.int (0 : Int32))) (kc_a0 : Z.vm.findClass "[I" = some k1) :
    MetFree l (⟨"java/util/Arrays", "hashCode", "([I)I"⟩ : MethodName) (head1 (Jvm.Cond.code (⟨"java/util/Arrays", "hashCode", "([I)I"⟩ : MethodName) jdk_65_method_150_code 1 (some .int) :: ws) ({ frames := 0, cells := 0, slots := 0, locals := 0 } : Room)) (fun a U => a = #[(.ref a0)] ∧ Z.Warmed39 U.vm ∧ U.heap = h0) (fun _ _ _ _ _ => True) (fun _ U o U' => ∃ v L, o = .returned v ∧ Q_hh0 Z a0 k1 h0 n0 v U'.heap L ∧ FrameEnd U o U' L ({ frames := 0, cells := 0, slots := 0, locals := 0 } : Room).cells ({ frames := 0, cells := 0, slots := 0, locals := 0 } : Room).slots) := by
  refine MetFree.of_bodySF (plainFor_of_name pn_0) hisR ?_
  intro p e s m args below meth c s₁ Bd hml0 hP hK
  obtain ⟨rfl, hZ, hh⟩ := hP
  have hx := Bd.exec
  have hby := Bd.bytes
  have hml : c.maxLocals = 1 := hml0
  have hown : s.vm.findClass "java/util/Arrays" = some m.cls := findClass_of_methodNamed Bd.named
  have hnm := (name_of_methodNamed Bd.named Bd.method).1
  have X0 : Stand p l e ({ frames := 0, cells := 0, slots := 0, locals := 0 } : Room) s m #[(.ref a0)] below meth c s₁ [] 0 0 := Stand.of_body Bd
  have e0 : s₁.heap = h0 := by rw [← hh, Bd.state]; rfl
  have N0 := Fr.nil n0
  have pre0 : ∀ t, Steps p.tables e below (s₁.setTop (mkF m 0 #[.val (.ref a0)] [])) t → Steps p.tables e below (s₁.setTop (entryFrame m #[(.ref a0)] 1)) t := fun t k => castTop (ef_hh0 m a0) k
  obtain ⟨cl101, Ar101, q101, S101, N101, H101, G101⟩ := id V_a0
  obtain ⟨fs, hr, hrun, hended, hW, hsame⟩ := X0.leave (v := some (.int (1 : Int32))) (fun h => by rw [Bd.returns] at h; cases h)
  refine ⟨_, _, pre0 _ ?_, hrun, hended, _, _, rfl, ?_, ⟨_, rfl⟩, hW, hsame.mono (by decide) (by decide)⟩
  ·
    show Steps p.tables e below (s₁.setTop (mkF m 0 #[.val (.ref a0)] [])) _
    refine XS.aloadN X0.here hx rfl (hb hby d4_0) rfl rfl ?_
    show Steps p.tables e below (s₁.setTop (mkF m 1 #[.val (.ref a0)] [(.ref a0)])) _
    refine XS.ifnonnullYes X0.here hx rfl (pc0 := 1) (pc' := 6) rfl (hb hby d4_1) rfl (by decide) (by decide) ?_
    show Steps p.tables e below (s₁.setTop (mkF m 6 #[.val (.ref a0)] [])) _
    refine XS.aloadN X0.here hx rfl (hb hby d4_6) rfl rfl ?_
    show Steps p.tables e below (s₁.setTop (mkF m 7 #[.val (.ref a0)] [(.ref a0)])) _
    refine X0.arraylength hx (by rw [e0]; exact Ar101.1) (State.isArrayOf_alike hZ.alike Ar101.2.1) (g := (mkF m 7 #[.val (.ref a0)] [(.ref a0)])) rfl rfl (hb hby d4_7) _ ?_
    rw [len_of S101 N101]
    show Steps p.tables e below (s₁.setTop (mkF m 8 #[.val (.ref a0)] [(.int (0 : Int32))])) _
    refine lswHit X0 hx rfl (pc0 := 8) (pc' := 36) rfl (hb hby d4_8) rfl (by decide) (a := 0) (off := 28) (by decide) (by decide) (by decide) ?_
    show Steps p.tables e below (s₁.setTop (mkF m 36 #[.val (.ref a0)] [])) _
    refine XS.iconst X0.here hx rfl (hb hby d4_36) ?_
    show Steps p.tables e below (s₁.setTop (mkF m 37 #[.val (.ref a0)] [(.int (1 : Int32))])) _
    refine XS.goto X0.here hx rfl (pc0 := 37) (pc' := 59) rfl (hb hby d4_37) (by decide) (by decide) ?_
    show Steps p.tables e below (s₁.setTop (mkF m 59 #[.val (.ref a0)] [(.int (1 : Int32))])) _
    exact retI X0 hx Bd.returns (hb hby d4_59) hr
  ·
    show Q_hh0 Z a0 k1 h0 n0 _ s₁.heap _
    rw [e0]
    exact ⟨rfl, N0, rfl⟩
theorem d2_0 : decode prog_29_method_1_code 0 = .ok (.aload_n 0, 1) := by decide +kernel
theorem d2_1 : decode prog_29_method_1_code 1 = .ok (.invokespecial 1, 3) := by decide +kernel
theorem d2_4 : decode prog_29_method_1_code 4 = .ok (.lconst 0, 1) := by decide +kernel
theorem d2_5 : decode prog_29_method_1_code 5 = .ok (.lstore_n 2, 1) := by decide +kernel
theorem d2_6 : decode prog_29_method_1_code 6 = .ok (.aload_n 1, 1) := by decide +kernel
theorem d2_7 : decode prog_29_method_1_code 7 = .ok (.astore 4, 2) := by decide +kernel
theorem d2_9 : decode prog_29_method_1_code 9 = .ok (.aload 4, 2) := by decide +kernel
theorem d2_11 : decode prog_29_method_1_code 11 = .ok (.arraylength, 1) := by decide +kernel
theorem d2_12 : decode prog_29_method_1_code 12 = .ok (.istore 5, 2) := by decide +kernel
theorem d2_14 : decode prog_29_method_1_code 14 = .ok (.iconst 0, 1) := by decide +kernel
theorem d2_15 : decode prog_29_method_1_code 15 = .ok (.istore 6, 2) := by decide +kernel
theorem d2_17 : decode prog_29_method_1_code 17 = .ok (.iload 6, 2) := by decide +kernel
theorem d2_19 : decode prog_29_method_1_code 19 = .ok (.iload 5, 2) := by decide +kernel
theorem d2_21 : decode prog_29_method_1_code 21 = .ok (.if_icmp .ge 22, 3) := by decide +kernel
theorem d2_43 : decode prog_29_method_1_code 43 = .ok (.aload_n 0, 1) := by decide +kernel
theorem d2_44 : decode prog_29_method_1_code 44 = .ok (.aload_n 1, 1) := by decide +kernel
theorem d2_45 : decode prog_29_method_1_code 45 = .ok (.putfield 7, 3) := by decide +kernel
theorem d2_48 : decode prog_29_method_1_code 48 = .ok (.aload_n 0, 1) := by decide +kernel
theorem d2_49 : decode prog_29_method_1_code 49 = .ok (.lload_n 2, 1) := by decide +kernel
theorem d2_50 : decode prog_29_method_1_code 50 = .ok (.putfield 13, 3) := by decide +kernel
theorem d2_53 : decode prog_29_method_1_code 53 = .ok (.aload_n 0, 1) := by decide +kernel
theorem d2_54 : decode prog_29_method_1_code 54 = .ok (.aload_n 1, 1) := by decide +kernel
theorem pd_0 : parseMethodDescriptor "([I)I" = some ⟨[(.array .int)], some .int⟩ := by decide +kernel
theorem d2_55 : decode prog_29_method_1_code 55 = .ok (.invokestatic 17, 3) := by decide +kernel
theorem d2_58 : decode prog_29_method_1_code 58 = .ok (.putfield 23, 3) := by decide +kernel
theorem d2_61 : decode prog_29_method_1_code 61 = .ok (.return_, 1) := by decide +kernel
theorem pn_1 : plainName "com/example/enact/enact/net/Marking" = true := by first | (simp [plainName, overriddenIn]; done) | decide +kernel
theorem ef_ct0 (m : MethodId) (a0 : Addr) (a1 : Addr) : entryFrame m #[(.ref a0), (.ref a1)] 8 = mkF m 0 #[.val (.ref a0), .val (.ref a1), .unset, .unset, .unset, .unset, .unset, .unset] [] := by first | (simp [entryFrame, mkF, argsToLocals, Value.category]; done) | rfl
def Q_ct0 (Z : State) (a0 : Addr) (a1 : Addr) (k1 : ClassId) (h0 : Heap) (n0 : Nat) (v : Option Value) (h : Heap) (L : List Loc) : Prop := v = none ∧ Fr n0 L ∧ Keep h0 h [a0] ∧ Exa Z h a0 "com/example/enact/enact/net/Marking" ∧ Fld Z h a0 "com/example/enact/enact/net/Marking" "tokens" "[I" (.ref a1)
set_option maxRecDepth 65536 in
set_option maxHeartbeats 40000000 in
theorem ct0 (l : Launch) (Z : State) (aw : Array Value) (hw : ∀ d ∈ tables_1, d.before aw Z = true) (ws : List Jvm.Cond) (a0 : Addr) (a1 : Addr) (k1 : ClassId) (h0 : Heap) (n0 : Nat) (Z0 : n0 ≤ h0.size) (E_a0 : Exa Z h0 a0 "com/example/enact/enact/net/Marking") (F_a0_tokens : Fld Z h0 a0 "com/example/enact/enact/net/Marking" "tokens" "[I" .null) (F_a0_total : Fld Z h0 a0 "com/example/enact/enact/net/Marking" "total" "J" (.long (0 : Int64))) (F_a0_hash : Fld Z h0 a0 "com/example/enact/enact/net/Marking" "hash" "I" (.int (0 : Int32))) (g_a0 : n0 ≤ a0) (V_a1 : Arv Z h0 a1 k1 .int (0 : Int32) [] (.int (0 : Int32))) (kc_a1 : Z.vm.findClass "[I" = some k1) (ne_a0_a1 : a0 ≠ a1) :
    MetFree l (⟨"com/example/enact/enact/net/Marking", "<init>", "([I)V"⟩ : MethodName) (head1 (Jvm.Cond.code (⟨"com/example/enact/enact/net/Marking", "<init>", "([I)V"⟩ : MethodName) prog_29_method_1_code 8 none :: ws) ({ frames := 1, cells := 0, slots := 0, locals := 13 } : Room)) (fun a U => a = #[(.ref a0), (.ref a1)] ∧ Z.Warmed39 U.vm ∧ U.heap = h0) (fun _ _ _ _ _ => True) (fun _ U o U' => ∃ v L, o = .returned v ∧ Q_ct0 Z a0 a1 k1 h0 n0 v U'.heap L ∧ FrameEnd U o U' L ({ frames := 1, cells := 0, slots := 0, locals := 13 } : Room).cells ({ frames := 1, cells := 0, slots := 0, locals := 13 } : Room).slots) := by
  refine MetFree.of_bodySF (plainFor_of_name pn_1) hisR ?_
  intro p e s m args below meth c s₁ Bd hml0 hP hK
  obtain ⟨rfl, hZ, hh⟩ := hP
  have hx := Bd.exec
  have hby := Bd.bytes
  have hml : c.maxLocals = 8 := hml0
  have hown : s.vm.findClass "com/example/enact/enact/net/Marking" = some m.cls := findClass_of_methodNamed Bd.named
  have hnm := (name_of_methodNamed Bd.named Bd.method).1
  have X0 : Stand p l e ({ frames := 1, cells := 0, slots := 0, locals := 13 } : Room) s m #[(.ref a0), (.ref a1)] below meth c s₁ [] 0 0 := Stand.of_body Bd
  have e0 : s₁.heap = h0 := by rw [← hh, Bd.state]; rfl
  have N0 := Fr.nil n0
  have pre0 : ∀ t, Steps p.tables e below (s₁.setTop (mkF m 0 #[.val (.ref a0), .val (.ref a1), .unset, .unset, .unset, .unset, .unset, .unset] [])) t → Steps p.tables e below (s₁.setTop (entryFrame m #[(.ref a0), (.ref a1)] 8)) t := fun t k => castTop (ef_ct0 m a0 a1) k
  have KC0 : Keep h0 h0 [a0] := Keep.refl h0 [a0]
  obtain ⟨T102, X102, e102, st102⟩ := initO X0 hx hZ hown (hw _ (List.mem_of_getElem? (i := 11) rfl)) (hw _ (List.mem_of_getElem? (i := 12) rfl)) (hw _ (List.mem_of_getElem? (i := 13) rfl)) e0 (g := (mkF m 1 #[.val (.ref a0), .val (.ref a1), .unset, .unset, .unset, .unset, .unset, .unset] [(.ref a0)])) rfl (by rw [hml]; rfl) rfl (hb hby d2_1) (by decide) (W := 0) (by show 2 * 0 + _ ≤ _; exact Nat.le_of_eq rfl) (by decide)
  obtain ⟨cl103, Ar103, q103, S103, N103, H103, G103⟩ := id V_a1
  obtain ⟨T104, h104, X104, e104, W104, st104⟩ := putF X102 hx hZ hown (host := "") (Or.inl (hw _ (List.mem_of_getElem? (i := 14) rfl))) Via.refl e102 F_a0_tokens E_a0 (Or.inr ⟨(hw _ (List.mem_of_getElem? (i := 15) rfl)), rfl, hnm⟩) (hw _ (List.mem_of_getElem? (i := 6) rfl)) (ty := (.array .int)) (by decide) rfl rfl (g := (mkF m 45 #[.val (.ref a0), .val (.ref a1), .val (.long (0 : Int64)), .second, .val (.ref a1), .val (.int (0 : Int32)), .val (.int (0 : Int32)), .unset] [(.ref a1), (.ref a0)])) rfl rfl (hb hby d2_45)
  have f105 := E_a0.wr W104
  have f106 := F_a0_total.other W104 (Or.inr (slot_ne (Or.inr (hw _ (List.mem_of_getElem? (i := 17) rfl))) (Or.inr (hw _ (List.mem_of_getElem? (i := 15) rfl))) (by decide) (t := .long) (t' := (.array .int)) (by decide) (by decide)))
  have f107 := F_a0_hash.other W104 (Or.inr (slot_ne (Or.inr (hw _ (List.mem_of_getElem? (i := 23) rfl))) (Or.inr (hw _ (List.mem_of_getElem? (i := 15) rfl))) (by decide) (t := .int) (t' := (.array .int)) (by decide) (by decide)))
  have f108 := V_a1.other W104 (Ne.symm ne_a0_a1)
  have Z109 : n0 ≤ h104.size := Nat.le_trans Z0 (Keep.of_wr W104).1
  have K110 : Keep h0 h104 [a0] := Keep.wr KC0 W104 (Or.inl (List.mem_of_getElem? (i := 0) rfl))
  have N111 := Fr.snoc X104 N0 g_a0
  have f112 : Fld Z h104 a0 "com/example/enact/enact/net/Marking" "tokens" "[I" (.ref a1) := F_a0_tokens.same W104
  obtain ⟨T113, h113, X113, e113, W113, st113⟩ := putF X104 hx hZ hown (host := "") (Or.inl (hw _ (List.mem_of_getElem? (i := 16) rfl))) Via.refl e104 f106 f105 (Or.inr ⟨(hw _ (List.mem_of_getElem? (i := 17) rfl)), rfl, hnm⟩) (hw _ (List.mem_of_getElem? (i := 6) rfl)) (ty := .long) (by decide) rfl rfl (g := (mkF m 50 #[.val (.ref a0), .val (.ref a1), .val (.long (0 : Int64)), .second, .val (.ref a1), .val (.int (0 : Int32)), .val (.int (0 : Int32)), .unset] [(.long (0 : Int64)), (.ref a0)])) rfl rfl (hb hby d2_50)
  have f114 := f105.wr W113
  have f115 := f107.other W113 (Or.inr (slot_ne (Or.inr (hw _ (List.mem_of_getElem? (i := 23) rfl))) (Or.inr (hw _ (List.mem_of_getElem? (i := 17) rfl))) (by decide) (t := .int) (t' := .long) (by decide) (by decide)))
  have f116 := f108.other W113 (Ne.symm ne_a0_a1)
  have f117 := f112.other W113 (Or.inr (slot_ne (Or.inr (hw _ (List.mem_of_getElem? (i := 15) rfl))) (Or.inr (hw _ (List.mem_of_getElem? (i := 17) rfl))) (by decide) (t := (.array .int)) (t' := .long) (by decide) (by decide)))
  have Z118 : n0 ≤ h113.size := Nat.le_trans Z109 (Keep.of_wr W113).1
  have K119 : Keep h0 h113 [a0] := Keep.wr K110 W113 (Or.inl (List.mem_of_getElem? (i := 0) rfl))
  have N120 := Fr.snoc X113 N111 g_a0
  have f121 : Fld Z h113 a0 "com/example/enact/enact/net/Marking" "total" "J" (.long (0 : Int64)) := f106.same W113
  obtain ⟨_, _, ⟨T122, L122, k122, n122⟩, -, X122, ⟨Lc122, hQ122, l122, y122, z122⟩, st122⟩ := Jvm.LawKit.callS X113 hx (y := (⟨"java/util/Arrays", "hashCode", "([I)I"⟩ : MethodName)) hown (mvT hZ (hw _ (List.mem_of_getElem? (i := 18) rfl))) (mvT hZ (hw _ (List.mem_of_getElem? (i := 19) rfl))) (mvT hZ (hw _ (List.mem_of_getElem? (i := 20) rfl))) (mvT hZ (hw _ (List.mem_of_getElem? (i := 21) rfl))) (by decide) (backOf (W := 1) (hh0 l Z aw hw [] a1 k1 h113 n0 Z118 f116 kc_a1) hZ (hw _ (List.mem_of_getElem? (i := 21) rfl)) (hw _ (List.mem_of_getElem? (i := 20) rfl)) (by decide) (by decide)) (g := (mkF m 55 #[.val (.ref a0), .val (.ref a1), .val (.long (0 : Int64)), .second, .val (.ref a1), .val (.int (0 : Int32)), .val (.int (0 : Int32)), .unset] [(.ref a1), (.ref a0)])) rfl (by rw [hml]; rfl) (argsL := [(.ref a1)]) (rest := [(.ref a0)]) (lenOf pd_0 rfl) rfl (by show 2 * 0 + _ ≤ _; exact Nat.le_of_eq rfl) (hb hby d2_55) (fun _ _ => ⟨rfl, e113, (by decide : 0 + 0 ≤ _), (by decide : 0 + 0 ≤ _)⟩)
  dsimp only [Pt.U, Pt.locs, Pt.cells, Pt.slots] at X122 l122 y122 z122 st122 hQ122
  subst l122 y122 z122
  obtain ⟨rfl, N122q, e122⟩ := hQ122
  have N122 := Fr.app N120 N122q
  obtain ⟨T123, h123, X123, e123, W123, st123⟩ := putF X122 hx hZ hown (host := "") (Or.inl (hw _ (List.mem_of_getElem? (i := 22) rfl))) Via.refl e122 f115 f114 (Or.inr ⟨(hw _ (List.mem_of_getElem? (i := 23) rfl)), rfl, hnm⟩) (hw _ (List.mem_of_getElem? (i := 6) rfl)) (ty := .int) (by decide) rfl rfl (g := (mkF m 58 #[.val (.ref a0), .val (.ref a1), .val (.long (0 : Int64)), .second, .val (.ref a1), .val (.int (0 : Int32)), .val (.int (0 : Int32)), .unset] [(.int (1 : Int32)), (.ref a0)])) rfl rfl (hb hby d2_58)
  have f124 := f114.wr W123
  have f125 := f116.other W123 (Ne.symm ne_a0_a1)
  have f126 := f117.other W123 (Or.inr (slot_ne (Or.inr (hw _ (List.mem_of_getElem? (i := 15) rfl))) (Or.inr (hw _ (List.mem_of_getElem? (i := 23) rfl))) (by decide) (t := (.array .int)) (t' := .int) (by decide) (by decide)))
  have f127 := f121.other W123 (Or.inr (slot_ne (Or.inr (hw _ (List.mem_of_getElem? (i := 17) rfl))) (Or.inr (hw _ (List.mem_of_getElem? (i := 23) rfl))) (by decide) (t := .long) (t' := .int) (by decide) (by decide)))
  have Z128 : n0 ≤ h123.size := Nat.le_trans Z118 (Keep.of_wr W123).1
  have K129 : Keep h0 h123 [a0] := Keep.wr K119 W123 (Or.inl (List.mem_of_getElem? (i := 0) rfl))
  have N130 := Fr.snoc X123 N122 g_a0
  have f131 : Fld Z h123 a0 "com/example/enact/enact/net/Marking" "hash" "I" (.int (1 : Int32)) := f115.same W123
  obtain ⟨fs, hr, hrun, hended, hW, hsame⟩ := X123.leave (v := none) (fun _ => rfl)
  refine ⟨_, _, pre0 _ ?_, hrun, hended, _, _, rfl, ?_, ⟨_, rfl⟩, hW, hsame.mono (by decide) (by decide)⟩
  ·
    show Steps p.tables e below (s₁.setTop (mkF m 0 #[.val (.ref a0), .val (.ref a1), .unset, .unset, .unset, .unset, .unset, .unset] [])) _
    refine XS.aloadN X0.here hx rfl (hb hby d2_0) rfl rfl ?_
    show Steps p.tables e below (s₁.setTop (mkF m 1 #[.val (.ref a0), .val (.ref a1), .unset, .unset, .unset, .unset, .unset, .unset] [(.ref a0)])) _
    refine st102 _ ?_
    show Steps p.tables e below (T102.setTop (mkF m 4 #[.val (.ref a0), .val (.ref a1), .unset, .unset, .unset, .unset, .unset, .unset] [])) _
    refine XS.lconst X102.here hx rfl (hb hby d2_4) ?_
    show Steps p.tables e below (T102.setTop (mkF m 5 #[.val (.ref a0), .val (.ref a1), .unset, .unset, .unset, .unset, .unset, .unset] [(.long (0 : Int64))])) _
    refine XS.lstoreN X102.here hx rfl (hb hby d2_5) rfl (l' := #[.val (.ref a0), .val (.ref a1), .val (.long (0 : Int64)), .second, .unset, .unset, .unset, .unset]) rfl ?_
    show Steps p.tables e below (T102.setTop (mkF m 6 #[.val (.ref a0), .val (.ref a1), .val (.long (0 : Int64)), .second, .unset, .unset, .unset, .unset] [])) _
    refine XS.aloadN X102.here hx rfl (hb hby d2_6) rfl rfl ?_
    show Steps p.tables e below (T102.setTop (mkF m 7 #[.val (.ref a0), .val (.ref a1), .val (.long (0 : Int64)), .second, .unset, .unset, .unset, .unset] [(.ref a1)])) _
    refine XS.astore X102.here hx rfl (hb hby d2_7) rfl rfl (l' := #[.val (.ref a0), .val (.ref a1), .val (.long (0 : Int64)), .second, .val (.ref a1), .unset, .unset, .unset]) rfl ?_
    show Steps p.tables e below (T102.setTop (mkF m 9 #[.val (.ref a0), .val (.ref a1), .val (.long (0 : Int64)), .second, .val (.ref a1), .unset, .unset, .unset] [])) _
    refine XS.aload X102.here hx rfl (hb hby d2_9) rfl rfl ?_
    show Steps p.tables e below (T102.setTop (mkF m 11 #[.val (.ref a0), .val (.ref a1), .val (.long (0 : Int64)), .second, .val (.ref a1), .unset, .unset, .unset] [(.ref a1)])) _
    refine X102.arraylength hx (by rw [e102]; exact Ar103.1) (State.isArrayOf_alike hZ.alike Ar103.2.1) (g := (mkF m 11 #[.val (.ref a0), .val (.ref a1), .val (.long (0 : Int64)), .second, .val (.ref a1), .unset, .unset, .unset] [(.ref a1)])) rfl rfl (hb hby d2_11) _ ?_
    rw [len_of S103 N103]
    show Steps p.tables e below (T102.setTop (mkF m 12 #[.val (.ref a0), .val (.ref a1), .val (.long (0 : Int64)), .second, .val (.ref a1), .unset, .unset, .unset] [(.int (0 : Int32))])) _
    refine XS.istore X102.here hx rfl (hb hby d2_12) rfl (l' := #[.val (.ref a0), .val (.ref a1), .val (.long (0 : Int64)), .second, .val (.ref a1), .val (.int (0 : Int32)), .unset, .unset]) rfl ?_
    show Steps p.tables e below (T102.setTop (mkF m 14 #[.val (.ref a0), .val (.ref a1), .val (.long (0 : Int64)), .second, .val (.ref a1), .val (.int (0 : Int32)), .unset, .unset] [])) _
    refine XS.iconst X102.here hx rfl (hb hby d2_14) ?_
    show Steps p.tables e below (T102.setTop (mkF m 15 #[.val (.ref a0), .val (.ref a1), .val (.long (0 : Int64)), .second, .val (.ref a1), .val (.int (0 : Int32)), .unset, .unset] [(.int (0 : Int32))])) _
    refine XS.istore X102.here hx rfl (hb hby d2_15) rfl (l' := #[.val (.ref a0), .val (.ref a1), .val (.long (0 : Int64)), .second, .val (.ref a1), .val (.int (0 : Int32)), .val (.int (0 : Int32)), .unset]) rfl ?_
    show Steps p.tables e below (T102.setTop (mkF m 17 #[.val (.ref a0), .val (.ref a1), .val (.long (0 : Int64)), .second, .val (.ref a1), .val (.int (0 : Int32)), .val (.int (0 : Int32)), .unset] [])) _
    refine XS.iload X102.here hx rfl (hb hby d2_17) rfl ?_
    show Steps p.tables e below (T102.setTop (mkF m 19 #[.val (.ref a0), .val (.ref a1), .val (.long (0 : Int64)), .second, .val (.ref a1), .val (.int (0 : Int32)), .val (.int (0 : Int32)), .unset] [(.int (0 : Int32))])) _
    refine XS.iload X102.here hx rfl (hb hby d2_19) rfl ?_
    show Steps p.tables e below (T102.setTop (mkF m 21 #[.val (.ref a0), .val (.ref a1), .val (.long (0 : Int64)), .second, .val (.ref a1), .val (.int (0 : Int32)), .val (.int (0 : Int32)), .unset] [(.int (0 : Int32)), (.int (0 : Int32))])) _
    refine XS.icmpYes X102.here hx rfl (pc0 := 21) (pc' := 43) rfl (hb hby d2_21) rfl (flt (by decide)).2.1 (by decide) (by decide) ?_
    show Steps p.tables e below (T102.setTop (mkF m 43 #[.val (.ref a0), .val (.ref a1), .val (.long (0 : Int64)), .second, .val (.ref a1), .val (.int (0 : Int32)), .val (.int (0 : Int32)), .unset] [])) _
    refine XS.aloadN X102.here hx rfl (hb hby d2_43) rfl rfl ?_
    show Steps p.tables e below (T102.setTop (mkF m 44 #[.val (.ref a0), .val (.ref a1), .val (.long (0 : Int64)), .second, .val (.ref a1), .val (.int (0 : Int32)), .val (.int (0 : Int32)), .unset] [(.ref a0)])) _
    refine XS.aloadN X102.here hx rfl (hb hby d2_44) rfl rfl ?_
    show Steps p.tables e below (T102.setTop (mkF m 45 #[.val (.ref a0), .val (.ref a1), .val (.long (0 : Int64)), .second, .val (.ref a1), .val (.int (0 : Int32)), .val (.int (0 : Int32)), .unset] [(.ref a1), (.ref a0)])) _
    refine st104 _ ?_
    show Steps p.tables e below (T104.setTop (mkF m 48 #[.val (.ref a0), .val (.ref a1), .val (.long (0 : Int64)), .second, .val (.ref a1), .val (.int (0 : Int32)), .val (.int (0 : Int32)), .unset] [])) _
    refine XS.aloadN X104.here hx rfl (hb hby d2_48) rfl rfl ?_
    show Steps p.tables e below (T104.setTop (mkF m 49 #[.val (.ref a0), .val (.ref a1), .val (.long (0 : Int64)), .second, .val (.ref a1), .val (.int (0 : Int32)), .val (.int (0 : Int32)), .unset] [(.ref a0)])) _
    refine XS.lloadN X104.here hx rfl (hb hby d2_49) rfl ?_
    show Steps p.tables e below (T104.setTop (mkF m 50 #[.val (.ref a0), .val (.ref a1), .val (.long (0 : Int64)), .second, .val (.ref a1), .val (.int (0 : Int32)), .val (.int (0 : Int32)), .unset] [(.long (0 : Int64)), (.ref a0)])) _
    refine st113 _ ?_
    show Steps p.tables e below (T113.setTop (mkF m 53 #[.val (.ref a0), .val (.ref a1), .val (.long (0 : Int64)), .second, .val (.ref a1), .val (.int (0 : Int32)), .val (.int (0 : Int32)), .unset] [])) _
    refine XS.aloadN X113.here hx rfl (hb hby d2_53) rfl rfl ?_
    show Steps p.tables e below (T113.setTop (mkF m 54 #[.val (.ref a0), .val (.ref a1), .val (.long (0 : Int64)), .second, .val (.ref a1), .val (.int (0 : Int32)), .val (.int (0 : Int32)), .unset] [(.ref a0)])) _
    refine XS.aloadN X113.here hx rfl (hb hby d2_54) rfl rfl ?_
    show Steps p.tables e below (T113.setTop (mkF m 55 #[.val (.ref a0), .val (.ref a1), .val (.long (0 : Int64)), .second, .val (.ref a1), .val (.int (0 : Int32)), .val (.int (0 : Int32)), .unset] [(.ref a1), (.ref a0)])) _
    refine st122 _ ?_
    show Steps p.tables e below (T122.setTop (mkF m 58 #[.val (.ref a0), .val (.ref a1), .val (.long (0 : Int64)), .second, .val (.ref a1), .val (.int (0 : Int32)), .val (.int (0 : Int32)), .unset] [(.int (1 : Int32)), (.ref a0)])) _
    refine st123 _ ?_
    show Steps p.tables e below (T123.setTop (mkF m 61 #[.val (.ref a0), .val (.ref a1), .val (.long (0 : Int64)), .second, .val (.ref a1), .val (.int (0 : Int32)), .val (.int (0 : Int32)), .unset] [])) _
    exact X123.returnOut hx Bd.returns (hb hby d2_61) hr
  ·
    show Q_ct0 Z a0 a1 k1 h0 n0 _ T123.heap _
    rw [e123]
    exact ⟨rfl, N130, K129, f124, f126⟩
theorem d4_40 : decode jdk_65_method_150_code 40 = .ok (.bipush 31, 2) := by decide +kernel
theorem d4_42 : decode jdk_65_method_150_code 42 = .ok (.aload_n 0, 1) := by decide +kernel
theorem d4_43 : decode jdk_65_method_150_code 43 = .ok (.iconst 0, 1) := by decide +kernel
theorem d4_44 : decode jdk_65_method_150_code 44 = .ok (.iaload, 1) := by decide +kernel
theorem d4_45 : decode jdk_65_method_150_code 45 = .ok (.iadd, 1) := by decide +kernel
theorem d4_46 : decode jdk_65_method_150_code 46 = .ok (.goto 13, 3) := by decide +kernel
theorem ef_hh1 (m : MethodId) (a0 : Addr) : entryFrame m #[(.ref a0)] 1 = mkF m 0 #[.val (.ref a0)] [] := by first | (simp [entryFrame, mkF, argsToLocals, Value.category]; done) | rfl
def Q_hh1 (Z : State) (a0 : Addr) (k1 : ClassId) (w0 : Int32) (h0 : Heap) (n0 : Nat) (v : Option Value) (h : Heap) (L : List Loc) : Prop := v = some (.int ((31 : Int32) + w0)) ∧ Fr n0 L ∧ h = h0
set_option maxRecDepth 65536 in
set_option maxHeartbeats 40000000 in
theorem hh1 (l : Launch) (Z : State) (aw : Array Value) (hw : ∀ d ∈ tables_1, d.before aw Z = true) (ws : List Jvm.Cond) (a0 : Addr) (k1 : ClassId) (w0 : Int32) (h0 : Heap) (n0 : Nat) (Z0 : n0 ≤ h0.size) (V_a0 : Arv Z h0 a0 k1 .int (1 : Int32) [(.int w0)] (.int (0 : Int32))) (kc_a0 : Z.vm.findClass "[I" = some k1) :
    MetFree l (⟨"java/util/Arrays", "hashCode", "([I)I"⟩ : MethodName) (head1 (Jvm.Cond.code (⟨"java/util/Arrays", "hashCode", "([I)I"⟩ : MethodName) jdk_65_method_150_code 1 (some .int) :: ws) ({ frames := 0, cells := 0, slots := 0, locals := 0 } : Room)) (fun a U => a = #[(.ref a0)] ∧ Z.Warmed39 U.vm ∧ U.heap = h0) (fun _ _ _ _ _ => True) (fun _ U o U' => ∃ v L, o = .returned v ∧ Q_hh1 Z a0 k1 w0 h0 n0 v U'.heap L ∧ FrameEnd U o U' L ({ frames := 0, cells := 0, slots := 0, locals := 0 } : Room).cells ({ frames := 0, cells := 0, slots := 0, locals := 0 } : Room).slots) := by
  refine MetFree.of_bodySF (plainFor_of_name pn_0) hisR ?_
  intro p e s m args below meth c s₁ Bd hml0 hP hK
  obtain ⟨rfl, hZ, hh⟩ := hP
  have hx := Bd.exec
  have hby := Bd.bytes
  have hml : c.maxLocals = 1 := hml0
  have hown : s.vm.findClass "java/util/Arrays" = some m.cls := findClass_of_methodNamed Bd.named
  have hnm := (name_of_methodNamed Bd.named Bd.method).1
  have X0 : Stand p l e ({ frames := 0, cells := 0, slots := 0, locals := 0 } : Room) s m #[(.ref a0)] below meth c s₁ [] 0 0 := Stand.of_body Bd
  have e0 : s₁.heap = h0 := by rw [← hh, Bd.state]; rfl
  have N0 := Fr.nil n0
  have pre0 : ∀ t, Steps p.tables e below (s₁.setTop (mkF m 0 #[.val (.ref a0)] [])) t → Steps p.tables e below (s₁.setTop (entryFrame m #[(.ref a0)] 1)) t := fun t k => castTop (ef_hh1 m a0) k
  obtain ⟨cl132, Ar132, q132, S132, N132, H132, G132⟩ := id V_a0
  obtain ⟨cl133, Ar133, q133, S133, N133, H133, G133⟩ := id V_a0
  have hin133 : ¬ ((0 : Int32) < 0 ∨ cl133.slots.size ≤ ((0 : Int32)).toNatClampNeg) := inb_of S133 ⟨by decide, by decide⟩
  have hat133 : cl133.slots[((0 : Int32)).toNatClampNeg]? = some (.int w0) := Has.at H133 hin133 rfl
  obtain ⟨fs, hr, hrun, hended, hW, hsame⟩ := X0.leave (v := some (.int ((31 : Int32) + w0))) (fun h => by rw [Bd.returns] at h; cases h)
  refine ⟨_, _, pre0 _ ?_, hrun, hended, _, _, rfl, ?_, ⟨_, rfl⟩, hW, hsame.mono (by decide) (by decide)⟩
  ·
    show Steps p.tables e below (s₁.setTop (mkF m 0 #[.val (.ref a0)] [])) _
    refine XS.aloadN X0.here hx rfl (hb hby d4_0) rfl rfl ?_
    show Steps p.tables e below (s₁.setTop (mkF m 1 #[.val (.ref a0)] [(.ref a0)])) _
    refine XS.ifnonnullYes X0.here hx rfl (pc0 := 1) (pc' := 6) rfl (hb hby d4_1) rfl (by decide) (by decide) ?_
    show Steps p.tables e below (s₁.setTop (mkF m 6 #[.val (.ref a0)] [])) _
    refine XS.aloadN X0.here hx rfl (hb hby d4_6) rfl rfl ?_
    show Steps p.tables e below (s₁.setTop (mkF m 7 #[.val (.ref a0)] [(.ref a0)])) _
    refine X0.arraylength hx (by rw [e0]; exact Ar132.1) (State.isArrayOf_alike hZ.alike Ar132.2.1) (g := (mkF m 7 #[.val (.ref a0)] [(.ref a0)])) rfl rfl (hb hby d4_7) _ ?_
    rw [len_of S132 N132]
    show Steps p.tables e below (s₁.setTop (mkF m 8 #[.val (.ref a0)] [(.int (1 : Int32))])) _
    refine lswHit X0 hx rfl (pc0 := 8) (pc' := 40) rfl (hb hby d4_8) rfl (by decide) (a := 1) (off := 32) (by decide) (by decide) (by decide) ?_
    show Steps p.tables e below (s₁.setTop (mkF m 40 #[.val (.ref a0)] [])) _
    refine XS.bipush X0.here hx rfl (hb hby d4_40) ?_
    show Steps p.tables e below (s₁.setTop (mkF m 42 #[.val (.ref a0)] [(.int (31 : Int32))])) _
    refine XS.aloadN X0.here hx rfl (hb hby d4_42) rfl rfl ?_
    show Steps p.tables e below (s₁.setTop (mkF m 43 #[.val (.ref a0)] [(.ref a0), (.int (31 : Int32))])) _
    refine XS.iconst X0.here hx rfl (hb hby d4_43) ?_
    show Steps p.tables e below (s₁.setTop (mkF m 44 #[.val (.ref a0)] [(.int (0 : Int32)), (.ref a0), (.int (31 : Int32))])) _
    refine X0.iaload hx (j := (0 : Int32)) (v := (.int w0)) (by rw [e0]; exact Ar133.1) (State.isArrayOf_alike hZ.alike Ar133.2.1) Ar133.2.2 hin133 hat133 (g := (mkF m 44 #[.val (.ref a0)] [(.int (0 : Int32)), (.ref a0), (.int (31 : Int32))])) rfl rfl (hb hby d4_44) _ ?_
    show Steps p.tables e below (s₁.setTop (mkF m 45 #[.val (.ref a0)] [(.int w0), (.int (31 : Int32))])) _
    refine XS.iadd X0.here hx rfl (hb hby d4_45) rfl ?_
    show Steps p.tables e below (s₁.setTop (mkF m 46 #[.val (.ref a0)] [(.int ((31 : Int32) + w0))])) _
    refine XS.goto X0.here hx rfl (pc0 := 46) (pc' := 59) rfl (hb hby d4_46) (by decide) (by decide) ?_
    show Steps p.tables e below (s₁.setTop (mkF m 59 #[.val (.ref a0)] [(.int ((31 : Int32) + w0))])) _
    exact retI X0 hx Bd.returns (hb hby d4_59) hr
  ·
    show Q_hh1 Z a0 k1 w0 h0 n0 _ s₁.heap _
    rw [e0]
    exact ⟨rfl, N0, rfl⟩
theorem d2_24 : decode prog_29_method_1_code 24 = .ok (.aload 4, 2) := by decide +kernel
theorem d2_26 : decode prog_29_method_1_code 26 = .ok (.iload 6, 2) := by decide +kernel
theorem d2_28 : decode prog_29_method_1_code 28 = .ok (.iaload, 1) := by decide +kernel
theorem d2_29 : decode prog_29_method_1_code 29 = .ok (.istore 7, 2) := by decide +kernel
theorem d2_31 : decode prog_29_method_1_code 31 = .ok (.lload_n 2, 1) := by decide +kernel
theorem d2_32 : decode prog_29_method_1_code 32 = .ok (.iload 7, 2) := by decide +kernel
theorem d2_34 : decode prog_29_method_1_code 34 = .ok (.i2l, 1) := by decide +kernel
theorem d2_35 : decode prog_29_method_1_code 35 = .ok (.ladd, 1) := by decide +kernel
theorem d2_36 : decode prog_29_method_1_code 36 = .ok (.lstore_n 2, 1) := by decide +kernel
theorem d2_37 : decode prog_29_method_1_code 37 = .ok (.iinc 6 1, 3) := by decide +kernel
theorem d2_40 : decode prog_29_method_1_code 40 = .ok (.goto (-23), 3) := by decide +kernel
theorem ef_ct1 (m : MethodId) (a0 : Addr) (a1 : Addr) : entryFrame m #[(.ref a0), (.ref a1)] 8 = mkF m 0 #[.val (.ref a0), .val (.ref a1), .unset, .unset, .unset, .unset, .unset, .unset] [] := by first | (simp [entryFrame, mkF, argsToLocals, Value.category]; done) | rfl
def Q_ct1 (Z : State) (a0 : Addr) (a1 : Addr) (k1 : ClassId) (w0 : Int32) (h0 : Heap) (n0 : Nat) (v : Option Value) (h : Heap) (L : List Loc) : Prop := v = none ∧ Fr n0 L ∧ Keep h0 h [a0] ∧ Exa Z h a0 "com/example/enact/enact/net/Marking" ∧ Fld Z h a0 "com/example/enact/enact/net/Marking" "tokens" "[I" (.ref a1)
set_option maxRecDepth 65536 in
set_option maxHeartbeats 40000000 in
theorem ct1 (l : Launch) (Z : State) (aw : Array Value) (hw : ∀ d ∈ tables_1, d.before aw Z = true) (ws : List Jvm.Cond) (a0 : Addr) (a1 : Addr) (k1 : ClassId) (w0 : Int32) (h0 : Heap) (n0 : Nat) (Z0 : n0 ≤ h0.size) (E_a0 : Exa Z h0 a0 "com/example/enact/enact/net/Marking") (F_a0_tokens : Fld Z h0 a0 "com/example/enact/enact/net/Marking" "tokens" "[I" .null) (F_a0_total : Fld Z h0 a0 "com/example/enact/enact/net/Marking" "total" "J" (.long (0 : Int64))) (F_a0_hash : Fld Z h0 a0 "com/example/enact/enact/net/Marking" "hash" "I" (.int (0 : Int32))) (g_a0 : n0 ≤ a0) (V_a1 : Arv Z h0 a1 k1 .int (1 : Int32) [(.int w0)] (.int (0 : Int32))) (kc_a1 : Z.vm.findClass "[I" = some k1) (ne_a0_a1 : a0 ≠ a1) :
    MetFree l (⟨"com/example/enact/enact/net/Marking", "<init>", "([I)V"⟩ : MethodName) (head1 (Jvm.Cond.code (⟨"com/example/enact/enact/net/Marking", "<init>", "([I)V"⟩ : MethodName) prog_29_method_1_code 8 none :: ws) ({ frames := 1, cells := 0, slots := 0, locals := 13 } : Room)) (fun a U => a = #[(.ref a0), (.ref a1)] ∧ Z.Warmed39 U.vm ∧ U.heap = h0) (fun _ _ _ _ _ => True) (fun _ U o U' => ∃ v L, o = .returned v ∧ Q_ct1 Z a0 a1 k1 w0 h0 n0 v U'.heap L ∧ FrameEnd U o U' L ({ frames := 1, cells := 0, slots := 0, locals := 13 } : Room).cells ({ frames := 1, cells := 0, slots := 0, locals := 13 } : Room).slots) := by
  refine MetFree.of_bodySF (plainFor_of_name pn_1) hisR ?_
  intro p e s m args below meth c s₁ Bd hml0 hP hK
  obtain ⟨rfl, hZ, hh⟩ := hP
  have hx := Bd.exec
  have hby := Bd.bytes
  have hml : c.maxLocals = 8 := hml0
  have hown : s.vm.findClass "com/example/enact/enact/net/Marking" = some m.cls := findClass_of_methodNamed Bd.named
  have hnm := (name_of_methodNamed Bd.named Bd.method).1
  have X0 : Stand p l e ({ frames := 1, cells := 0, slots := 0, locals := 13 } : Room) s m #[(.ref a0), (.ref a1)] below meth c s₁ [] 0 0 := Stand.of_body Bd
  have e0 : s₁.heap = h0 := by rw [← hh, Bd.state]; rfl
  have N0 := Fr.nil n0
  have pre0 : ∀ t, Steps p.tables e below (s₁.setTop (mkF m 0 #[.val (.ref a0), .val (.ref a1), .unset, .unset, .unset, .unset, .unset, .unset] [])) t → Steps p.tables e below (s₁.setTop (entryFrame m #[(.ref a0), (.ref a1)] 8)) t := fun t k => castTop (ef_ct1 m a0 a1) k
  have KC0 : Keep h0 h0 [a0] := Keep.refl h0 [a0]
  obtain ⟨T134, X134, e134, st134⟩ := initO X0 hx hZ hown (hw _ (List.mem_of_getElem? (i := 11) rfl)) (hw _ (List.mem_of_getElem? (i := 12) rfl)) (hw _ (List.mem_of_getElem? (i := 13) rfl)) e0 (g := (mkF m 1 #[.val (.ref a0), .val (.ref a1), .unset, .unset, .unset, .unset, .unset, .unset] [(.ref a0)])) rfl (by rw [hml]; rfl) rfl (hb hby d2_1) (by decide) (W := 0) (by show 2 * 0 + _ ≤ _; exact Nat.le_of_eq rfl) (by decide)
  obtain ⟨cl135, Ar135, q135, S135, N135, H135, G135⟩ := id V_a1
  obtain ⟨cl136, Ar136, q136, S136, N136, H136, G136⟩ := id V_a1
  have hin136 : ¬ ((0 : Int32) < 0 ∨ cl136.slots.size ≤ ((0 : Int32)).toNatClampNeg) := inb_of S136 ⟨by decide, by decide⟩
  have hat136 : cl136.slots[((0 : Int32)).toNatClampNeg]? = some (.int w0) := Has.at H136 hin136 rfl
  obtain ⟨T137, h137, X137, e137, W137, st137⟩ := putF X134 hx hZ hown (host := "") (Or.inl (hw _ (List.mem_of_getElem? (i := 14) rfl))) Via.refl e134 F_a0_tokens E_a0 (Or.inr ⟨(hw _ (List.mem_of_getElem? (i := 15) rfl)), rfl, hnm⟩) (hw _ (List.mem_of_getElem? (i := 6) rfl)) (ty := (.array .int)) (by decide) rfl rfl (g := (mkF m 45 #[.val (.ref a0), .val (.ref a1), .val (.long ((0 : Int64) + (w0.toInt64))), .second, .val (.ref a1), .val (.int (1 : Int32)), .val (.int (1 : Int32)), .val (.int w0)] [(.ref a1), (.ref a0)])) rfl rfl (hb hby d2_45)
  have f138 := E_a0.wr W137
  have f139 := F_a0_total.other W137 (Or.inr (slot_ne (Or.inr (hw _ (List.mem_of_getElem? (i := 17) rfl))) (Or.inr (hw _ (List.mem_of_getElem? (i := 15) rfl))) (by decide) (t := .long) (t' := (.array .int)) (by decide) (by decide)))
  have f140 := F_a0_hash.other W137 (Or.inr (slot_ne (Or.inr (hw _ (List.mem_of_getElem? (i := 23) rfl))) (Or.inr (hw _ (List.mem_of_getElem? (i := 15) rfl))) (by decide) (t := .int) (t' := (.array .int)) (by decide) (by decide)))
  have f141 := V_a1.other W137 (Ne.symm ne_a0_a1)
  have Z142 : n0 ≤ h137.size := Nat.le_trans Z0 (Keep.of_wr W137).1
  have K143 : Keep h0 h137 [a0] := Keep.wr KC0 W137 (Or.inl (List.mem_of_getElem? (i := 0) rfl))
  have N144 := Fr.snoc X137 N0 g_a0
  have f145 : Fld Z h137 a0 "com/example/enact/enact/net/Marking" "tokens" "[I" (.ref a1) := F_a0_tokens.same W137
  obtain ⟨T146, h146, X146, e146, W146, st146⟩ := putF X137 hx hZ hown (host := "") (Or.inl (hw _ (List.mem_of_getElem? (i := 16) rfl))) Via.refl e137 f139 f138 (Or.inr ⟨(hw _ (List.mem_of_getElem? (i := 17) rfl)), rfl, hnm⟩) (hw _ (List.mem_of_getElem? (i := 6) rfl)) (ty := .long) (by decide) rfl rfl (g := (mkF m 50 #[.val (.ref a0), .val (.ref a1), .val (.long ((0 : Int64) + (w0.toInt64))), .second, .val (.ref a1), .val (.int (1 : Int32)), .val (.int (1 : Int32)), .val (.int w0)] [(.long ((0 : Int64) + (w0.toInt64))), (.ref a0)])) rfl rfl (hb hby d2_50)
  have f147 := f138.wr W146
  have f148 := f140.other W146 (Or.inr (slot_ne (Or.inr (hw _ (List.mem_of_getElem? (i := 23) rfl))) (Or.inr (hw _ (List.mem_of_getElem? (i := 17) rfl))) (by decide) (t := .int) (t' := .long) (by decide) (by decide)))
  have f149 := f141.other W146 (Ne.symm ne_a0_a1)
  have f150 := f145.other W146 (Or.inr (slot_ne (Or.inr (hw _ (List.mem_of_getElem? (i := 15) rfl))) (Or.inr (hw _ (List.mem_of_getElem? (i := 17) rfl))) (by decide) (t := (.array .int)) (t' := .long) (by decide) (by decide)))
  have Z151 : n0 ≤ h146.size := Nat.le_trans Z142 (Keep.of_wr W146).1
  have K152 : Keep h0 h146 [a0] := Keep.wr K143 W146 (Or.inl (List.mem_of_getElem? (i := 0) rfl))
  have N153 := Fr.snoc X146 N144 g_a0
  have f154 : Fld Z h146 a0 "com/example/enact/enact/net/Marking" "total" "J" (.long ((0 : Int64) + (w0.toInt64))) := f139.same W146
  obtain ⟨_, _, ⟨T155, L155, k155, n155⟩, -, X155, ⟨Lc155, hQ155, l155, y155, z155⟩, st155⟩ := Jvm.LawKit.callS X146 hx (y := (⟨"java/util/Arrays", "hashCode", "([I)I"⟩ : MethodName)) hown (mvT hZ (hw _ (List.mem_of_getElem? (i := 18) rfl))) (mvT hZ (hw _ (List.mem_of_getElem? (i := 19) rfl))) (mvT hZ (hw _ (List.mem_of_getElem? (i := 20) rfl))) (mvT hZ (hw _ (List.mem_of_getElem? (i := 21) rfl))) (by decide) (backOf (W := 1) (hh1 l Z aw hw [] a1 k1 w0 h146 n0 Z151 f149 kc_a1) hZ (hw _ (List.mem_of_getElem? (i := 21) rfl)) (hw _ (List.mem_of_getElem? (i := 20) rfl)) (by decide) (by decide)) (g := (mkF m 55 #[.val (.ref a0), .val (.ref a1), .val (.long ((0 : Int64) + (w0.toInt64))), .second, .val (.ref a1), .val (.int (1 : Int32)), .val (.int (1 : Int32)), .val (.int w0)] [(.ref a1), (.ref a0)])) rfl (by rw [hml]; rfl) (argsL := [(.ref a1)]) (rest := [(.ref a0)]) (lenOf pd_0 rfl) rfl (by show 2 * 0 + _ ≤ _; exact Nat.le_of_eq rfl) (hb hby d2_55) (fun _ _ => ⟨rfl, e146, (by decide : 0 + 0 ≤ _), (by decide : 0 + 0 ≤ _)⟩)
  dsimp only [Pt.U, Pt.locs, Pt.cells, Pt.slots] at X155 l155 y155 z155 st155 hQ155
  subst l155 y155 z155
  obtain ⟨rfl, N155q, e155⟩ := hQ155
  have N155 := Fr.app N153 N155q
  obtain ⟨T156, h156, X156, e156, W156, st156⟩ := putF X155 hx hZ hown (host := "") (Or.inl (hw _ (List.mem_of_getElem? (i := 22) rfl))) Via.refl e155 f148 f147 (Or.inr ⟨(hw _ (List.mem_of_getElem? (i := 23) rfl)), rfl, hnm⟩) (hw _ (List.mem_of_getElem? (i := 6) rfl)) (ty := .int) (by decide) rfl rfl (g := (mkF m 58 #[.val (.ref a0), .val (.ref a1), .val (.long ((0 : Int64) + (w0.toInt64))), .second, .val (.ref a1), .val (.int (1 : Int32)), .val (.int (1 : Int32)), .val (.int w0)] [(.int ((31 : Int32) + w0)), (.ref a0)])) rfl rfl (hb hby d2_58)
  have f157 := f147.wr W156
  have f158 := f149.other W156 (Ne.symm ne_a0_a1)
  have f159 := f150.other W156 (Or.inr (slot_ne (Or.inr (hw _ (List.mem_of_getElem? (i := 15) rfl))) (Or.inr (hw _ (List.mem_of_getElem? (i := 23) rfl))) (by decide) (t := (.array .int)) (t' := .int) (by decide) (by decide)))
  have f160 := f154.other W156 (Or.inr (slot_ne (Or.inr (hw _ (List.mem_of_getElem? (i := 17) rfl))) (Or.inr (hw _ (List.mem_of_getElem? (i := 23) rfl))) (by decide) (t := .long) (t' := .int) (by decide) (by decide)))
  have Z161 : n0 ≤ h156.size := Nat.le_trans Z151 (Keep.of_wr W156).1
  have K162 : Keep h0 h156 [a0] := Keep.wr K152 W156 (Or.inl (List.mem_of_getElem? (i := 0) rfl))
  have N163 := Fr.snoc X156 N155 g_a0
  have f164 : Fld Z h156 a0 "com/example/enact/enact/net/Marking" "hash" "I" (.int ((31 : Int32) + w0)) := f148.same W156
  obtain ⟨fs, hr, hrun, hended, hW, hsame⟩ := X156.leave (v := none) (fun _ => rfl)
  refine ⟨_, _, pre0 _ ?_, hrun, hended, _, _, rfl, ?_, ⟨_, rfl⟩, hW, hsame.mono (by decide) (by decide)⟩
  ·
    show Steps p.tables e below (s₁.setTop (mkF m 0 #[.val (.ref a0), .val (.ref a1), .unset, .unset, .unset, .unset, .unset, .unset] [])) _
    refine XS.aloadN X0.here hx rfl (hb hby d2_0) rfl rfl ?_
    show Steps p.tables e below (s₁.setTop (mkF m 1 #[.val (.ref a0), .val (.ref a1), .unset, .unset, .unset, .unset, .unset, .unset] [(.ref a0)])) _
    refine st134 _ ?_
    show Steps p.tables e below (T134.setTop (mkF m 4 #[.val (.ref a0), .val (.ref a1), .unset, .unset, .unset, .unset, .unset, .unset] [])) _
    refine XS.lconst X134.here hx rfl (hb hby d2_4) ?_
    show Steps p.tables e below (T134.setTop (mkF m 5 #[.val (.ref a0), .val (.ref a1), .unset, .unset, .unset, .unset, .unset, .unset] [(.long (0 : Int64))])) _
    refine XS.lstoreN X134.here hx rfl (hb hby d2_5) rfl (l' := #[.val (.ref a0), .val (.ref a1), .val (.long (0 : Int64)), .second, .unset, .unset, .unset, .unset]) rfl ?_
    show Steps p.tables e below (T134.setTop (mkF m 6 #[.val (.ref a0), .val (.ref a1), .val (.long (0 : Int64)), .second, .unset, .unset, .unset, .unset] [])) _
    refine XS.aloadN X134.here hx rfl (hb hby d2_6) rfl rfl ?_
    show Steps p.tables e below (T134.setTop (mkF m 7 #[.val (.ref a0), .val (.ref a1), .val (.long (0 : Int64)), .second, .unset, .unset, .unset, .unset] [(.ref a1)])) _
    refine XS.astore X134.here hx rfl (hb hby d2_7) rfl rfl (l' := #[.val (.ref a0), .val (.ref a1), .val (.long (0 : Int64)), .second, .val (.ref a1), .unset, .unset, .unset]) rfl ?_
    show Steps p.tables e below (T134.setTop (mkF m 9 #[.val (.ref a0), .val (.ref a1), .val (.long (0 : Int64)), .second, .val (.ref a1), .unset, .unset, .unset] [])) _
    refine XS.aload X134.here hx rfl (hb hby d2_9) rfl rfl ?_
    show Steps p.tables e below (T134.setTop (mkF m 11 #[.val (.ref a0), .val (.ref a1), .val (.long (0 : Int64)), .second, .val (.ref a1), .unset, .unset, .unset] [(.ref a1)])) _
    refine X134.arraylength hx (by rw [e134]; exact Ar135.1) (State.isArrayOf_alike hZ.alike Ar135.2.1) (g := (mkF m 11 #[.val (.ref a0), .val (.ref a1), .val (.long (0 : Int64)), .second, .val (.ref a1), .unset, .unset, .unset] [(.ref a1)])) rfl rfl (hb hby d2_11) _ ?_
    rw [len_of S135 N135]
    show Steps p.tables e below (T134.setTop (mkF m 12 #[.val (.ref a0), .val (.ref a1), .val (.long (0 : Int64)), .second, .val (.ref a1), .unset, .unset, .unset] [(.int (1 : Int32))])) _
    refine XS.istore X134.here hx rfl (hb hby d2_12) rfl (l' := #[.val (.ref a0), .val (.ref a1), .val (.long (0 : Int64)), .second, .val (.ref a1), .val (.int (1 : Int32)), .unset, .unset]) rfl ?_
    show Steps p.tables e below (T134.setTop (mkF m 14 #[.val (.ref a0), .val (.ref a1), .val (.long (0 : Int64)), .second, .val (.ref a1), .val (.int (1 : Int32)), .unset, .unset] [])) _
    refine XS.iconst X134.here hx rfl (hb hby d2_14) ?_
    show Steps p.tables e below (T134.setTop (mkF m 15 #[.val (.ref a0), .val (.ref a1), .val (.long (0 : Int64)), .second, .val (.ref a1), .val (.int (1 : Int32)), .unset, .unset] [(.int (0 : Int32))])) _
    refine XS.istore X134.here hx rfl (hb hby d2_15) rfl (l' := #[.val (.ref a0), .val (.ref a1), .val (.long (0 : Int64)), .second, .val (.ref a1), .val (.int (1 : Int32)), .val (.int (0 : Int32)), .unset]) rfl ?_
    show Steps p.tables e below (T134.setTop (mkF m 17 #[.val (.ref a0), .val (.ref a1), .val (.long (0 : Int64)), .second, .val (.ref a1), .val (.int (1 : Int32)), .val (.int (0 : Int32)), .unset] [])) _
    refine XS.iload X134.here hx rfl (hb hby d2_17) rfl ?_
    show Steps p.tables e below (T134.setTop (mkF m 19 #[.val (.ref a0), .val (.ref a1), .val (.long (0 : Int64)), .second, .val (.ref a1), .val (.int (1 : Int32)), .val (.int (0 : Int32)), .unset] [(.int (0 : Int32))])) _
    refine XS.iload X134.here hx rfl (hb hby d2_19) rfl ?_
    show Steps p.tables e below (T134.setTop (mkF m 21 #[.val (.ref a0), .val (.ref a1), .val (.long (0 : Int64)), .second, .val (.ref a1), .val (.int (1 : Int32)), .val (.int (0 : Int32)), .unset] [(.int (1 : Int32)), (.int (0 : Int32))])) _
    refine XS.icmpNo X134.here hx rfl (hb hby d2_21) rfl (tlt (by decide)).2.1 ?_
    show Steps p.tables e below (T134.setTop (mkF m 24 #[.val (.ref a0), .val (.ref a1), .val (.long (0 : Int64)), .second, .val (.ref a1), .val (.int (1 : Int32)), .val (.int (0 : Int32)), .unset] [])) _
    refine XS.aload X134.here hx rfl (hb hby d2_24) rfl rfl ?_
    show Steps p.tables e below (T134.setTop (mkF m 26 #[.val (.ref a0), .val (.ref a1), .val (.long (0 : Int64)), .second, .val (.ref a1), .val (.int (1 : Int32)), .val (.int (0 : Int32)), .unset] [(.ref a1)])) _
    refine XS.iload X134.here hx rfl (hb hby d2_26) rfl ?_
    show Steps p.tables e below (T134.setTop (mkF m 28 #[.val (.ref a0), .val (.ref a1), .val (.long (0 : Int64)), .second, .val (.ref a1), .val (.int (1 : Int32)), .val (.int (0 : Int32)), .unset] [(.int (0 : Int32)), (.ref a1)])) _
    refine X134.iaload hx (j := (0 : Int32)) (v := (.int w0)) (by rw [e134]; exact Ar136.1) (State.isArrayOf_alike hZ.alike Ar136.2.1) Ar136.2.2 hin136 hat136 (g := (mkF m 28 #[.val (.ref a0), .val (.ref a1), .val (.long (0 : Int64)), .second, .val (.ref a1), .val (.int (1 : Int32)), .val (.int (0 : Int32)), .unset] [(.int (0 : Int32)), (.ref a1)])) rfl rfl (hb hby d2_28) _ ?_
    show Steps p.tables e below (T134.setTop (mkF m 29 #[.val (.ref a0), .val (.ref a1), .val (.long (0 : Int64)), .second, .val (.ref a1), .val (.int (1 : Int32)), .val (.int (0 : Int32)), .unset] [(.int w0)])) _
    refine XS.istore X134.here hx rfl (hb hby d2_29) rfl (l' := #[.val (.ref a0), .val (.ref a1), .val (.long (0 : Int64)), .second, .val (.ref a1), .val (.int (1 : Int32)), .val (.int (0 : Int32)), .val (.int w0)]) rfl ?_
    show Steps p.tables e below (T134.setTop (mkF m 31 #[.val (.ref a0), .val (.ref a1), .val (.long (0 : Int64)), .second, .val (.ref a1), .val (.int (1 : Int32)), .val (.int (0 : Int32)), .val (.int w0)] [])) _
    refine XS.lloadN X134.here hx rfl (hb hby d2_31) rfl ?_
    show Steps p.tables e below (T134.setTop (mkF m 32 #[.val (.ref a0), .val (.ref a1), .val (.long (0 : Int64)), .second, .val (.ref a1), .val (.int (1 : Int32)), .val (.int (0 : Int32)), .val (.int w0)] [(.long (0 : Int64))])) _
    refine XS.iload X134.here hx rfl (hb hby d2_32) rfl ?_
    show Steps p.tables e below (T134.setTop (mkF m 34 #[.val (.ref a0), .val (.ref a1), .val (.long (0 : Int64)), .second, .val (.ref a1), .val (.int (1 : Int32)), .val (.int (0 : Int32)), .val (.int w0)] [(.int w0), (.long (0 : Int64))])) _
    refine XS.i2l X134.here hx rfl (hb hby d2_34) rfl ?_
    show Steps p.tables e below (T134.setTop (mkF m 35 #[.val (.ref a0), .val (.ref a1), .val (.long (0 : Int64)), .second, .val (.ref a1), .val (.int (1 : Int32)), .val (.int (0 : Int32)), .val (.int w0)] [(.long (w0.toInt64)), (.long (0 : Int64))])) _
    refine XS.ladd X134.here hx rfl (hb hby d2_35) rfl ?_
    show Steps p.tables e below (T134.setTop (mkF m 36 #[.val (.ref a0), .val (.ref a1), .val (.long (0 : Int64)), .second, .val (.ref a1), .val (.int (1 : Int32)), .val (.int (0 : Int32)), .val (.int w0)] [(.long ((0 : Int64) + (w0.toInt64)))])) _
    refine XS.lstoreN X134.here hx rfl (hb hby d2_36) rfl (l' := #[.val (.ref a0), .val (.ref a1), .val (.long ((0 : Int64) + (w0.toInt64))), .second, .val (.ref a1), .val (.int (1 : Int32)), .val (.int (0 : Int32)), .val (.int w0)]) rfl ?_
    show Steps p.tables e below (T134.setTop (mkF m 37 #[.val (.ref a0), .val (.ref a1), .val (.long ((0 : Int64) + (w0.toInt64))), .second, .val (.ref a1), .val (.int (1 : Int32)), .val (.int (0 : Int32)), .val (.int w0)] [])) _
    refine XS.iinc X134.here hx rfl (hb hby d2_37) rfl (l' := #[.val (.ref a0), .val (.ref a1), .val (.long ((0 : Int64) + (w0.toInt64))), .second, .val (.ref a1), .val (.int (1 : Int32)), .val (.int (1 : Int32)), .val (.int w0)]) rfl ?_
    show Steps p.tables e below (T134.setTop (mkF m 40 #[.val (.ref a0), .val (.ref a1), .val (.long ((0 : Int64) + (w0.toInt64))), .second, .val (.ref a1), .val (.int (1 : Int32)), .val (.int (1 : Int32)), .val (.int w0)] [])) _
    refine XS.goto X134.here hx rfl (pc0 := 40) (pc' := 17) rfl (hb hby d2_40) (by decide) (by decide) ?_
    show Steps p.tables e below (T134.setTop (mkF m 17 #[.val (.ref a0), .val (.ref a1), .val (.long ((0 : Int64) + (w0.toInt64))), .second, .val (.ref a1), .val (.int (1 : Int32)), .val (.int (1 : Int32)), .val (.int w0)] [])) _
    refine XS.iload X134.here hx rfl (hb hby d2_17) rfl ?_
    show Steps p.tables e below (T134.setTop (mkF m 19 #[.val (.ref a0), .val (.ref a1), .val (.long ((0 : Int64) + (w0.toInt64))), .second, .val (.ref a1), .val (.int (1 : Int32)), .val (.int (1 : Int32)), .val (.int w0)] [(.int (1 : Int32))])) _
    refine XS.iload X134.here hx rfl (hb hby d2_19) rfl ?_
    show Steps p.tables e below (T134.setTop (mkF m 21 #[.val (.ref a0), .val (.ref a1), .val (.long ((0 : Int64) + (w0.toInt64))), .second, .val (.ref a1), .val (.int (1 : Int32)), .val (.int (1 : Int32)), .val (.int w0)] [(.int (1 : Int32)), (.int (1 : Int32))])) _
    refine XS.icmpYes X134.here hx rfl (pc0 := 21) (pc' := 43) rfl (hb hby d2_21) rfl (flt (by decide)).2.1 (by decide) (by decide) ?_
    show Steps p.tables e below (T134.setTop (mkF m 43 #[.val (.ref a0), .val (.ref a1), .val (.long ((0 : Int64) + (w0.toInt64))), .second, .val (.ref a1), .val (.int (1 : Int32)), .val (.int (1 : Int32)), .val (.int w0)] [])) _
    refine XS.aloadN X134.here hx rfl (hb hby d2_43) rfl rfl ?_
    show Steps p.tables e below (T134.setTop (mkF m 44 #[.val (.ref a0), .val (.ref a1), .val (.long ((0 : Int64) + (w0.toInt64))), .second, .val (.ref a1), .val (.int (1 : Int32)), .val (.int (1 : Int32)), .val (.int w0)] [(.ref a0)])) _
    refine XS.aloadN X134.here hx rfl (hb hby d2_44) rfl rfl ?_
    show Steps p.tables e below (T134.setTop (mkF m 45 #[.val (.ref a0), .val (.ref a1), .val (.long ((0 : Int64) + (w0.toInt64))), .second, .val (.ref a1), .val (.int (1 : Int32)), .val (.int (1 : Int32)), .val (.int w0)] [(.ref a1), (.ref a0)])) _
    refine st137 _ ?_
    show Steps p.tables e below (T137.setTop (mkF m 48 #[.val (.ref a0), .val (.ref a1), .val (.long ((0 : Int64) + (w0.toInt64))), .second, .val (.ref a1), .val (.int (1 : Int32)), .val (.int (1 : Int32)), .val (.int w0)] [])) _
    refine XS.aloadN X137.here hx rfl (hb hby d2_48) rfl rfl ?_
    show Steps p.tables e below (T137.setTop (mkF m 49 #[.val (.ref a0), .val (.ref a1), .val (.long ((0 : Int64) + (w0.toInt64))), .second, .val (.ref a1), .val (.int (1 : Int32)), .val (.int (1 : Int32)), .val (.int w0)] [(.ref a0)])) _
    refine XS.lloadN X137.here hx rfl (hb hby d2_49) rfl ?_
    show Steps p.tables e below (T137.setTop (mkF m 50 #[.val (.ref a0), .val (.ref a1), .val (.long ((0 : Int64) + (w0.toInt64))), .second, .val (.ref a1), .val (.int (1 : Int32)), .val (.int (1 : Int32)), .val (.int w0)] [(.long ((0 : Int64) + (w0.toInt64))), (.ref a0)])) _
    refine st146 _ ?_
    show Steps p.tables e below (T146.setTop (mkF m 53 #[.val (.ref a0), .val (.ref a1), .val (.long ((0 : Int64) + (w0.toInt64))), .second, .val (.ref a1), .val (.int (1 : Int32)), .val (.int (1 : Int32)), .val (.int w0)] [])) _
    refine XS.aloadN X146.here hx rfl (hb hby d2_53) rfl rfl ?_
    show Steps p.tables e below (T146.setTop (mkF m 54 #[.val (.ref a0), .val (.ref a1), .val (.long ((0 : Int64) + (w0.toInt64))), .second, .val (.ref a1), .val (.int (1 : Int32)), .val (.int (1 : Int32)), .val (.int w0)] [(.ref a0)])) _
    refine XS.aloadN X146.here hx rfl (hb hby d2_54) rfl rfl ?_
    show Steps p.tables e below (T146.setTop (mkF m 55 #[.val (.ref a0), .val (.ref a1), .val (.long ((0 : Int64) + (w0.toInt64))), .second, .val (.ref a1), .val (.int (1 : Int32)), .val (.int (1 : Int32)), .val (.int w0)] [(.ref a1), (.ref a0)])) _
    refine st155 _ ?_
    show Steps p.tables e below (T155.setTop (mkF m 58 #[.val (.ref a0), .val (.ref a1), .val (.long ((0 : Int64) + (w0.toInt64))), .second, .val (.ref a1), .val (.int (1 : Int32)), .val (.int (1 : Int32)), .val (.int w0)] [(.int ((31 : Int32) + w0)), (.ref a0)])) _
    refine st156 _ ?_
    show Steps p.tables e below (T156.setTop (mkF m 61 #[.val (.ref a0), .val (.ref a1), .val (.long ((0 : Int64) + (w0.toInt64))), .second, .val (.ref a1), .val (.int (1 : Int32)), .val (.int (1 : Int32)), .val (.int w0)] [])) _
    exact X156.returnOut hx Bd.returns (hb hby d2_61) hr
  ·
    show Q_ct1 Z a0 a1 k1 w0 h0 n0 _ T156.heap _
    rw [e156]
    exact ⟨rfl, N163, K162, f157, f159⟩
theorem d7_0 : decode jdk_48_method_9_code 0 = .ok (.iload_n 2, 1) := by decide +kernel
theorem d7_1 : decode jdk_48_method_9_code 1 = .ok (.iload_n 3, 1) := by decide +kernel
theorem d7_2 : decode jdk_48_method_9_code 2 = .ok (.iadd, 1) := by decide +kernel
theorem d7_3 : decode jdk_48_method_9_code 3 = .ok (.istore 4, 2) := by decide +kernel
theorem d7_5 : decode jdk_48_method_9_code 5 = .ok (.iload_n 2, 1) := by decide +kernel
theorem d7_6 : decode jdk_48_method_9_code 6 = .ok (.istore 5, 2) := by decide +kernel
theorem d7_8 : decode jdk_48_method_9_code 8 = .ok (.iload 5, 2) := by decide +kernel
theorem d7_10 : decode jdk_48_method_9_code 10 = .ok (.iload 4, 2) := by decide +kernel
theorem d7_12 : decode jdk_48_method_9_code 12 = .ok (.if_icmp .ge 19, 3) := by decide +kernel
theorem d7_15 : decode jdk_48_method_9_code 15 = .ok (.bipush 31, 2) := by decide +kernel
theorem d7_17 : decode jdk_48_method_9_code 17 = .ok (.iload_n 0, 1) := by decide +kernel
theorem d7_18 : decode jdk_48_method_9_code 18 = .ok (.imul, 1) := by decide +kernel
theorem d7_19 : decode jdk_48_method_9_code 19 = .ok (.aload_n 1, 1) := by decide +kernel
theorem d7_20 : decode jdk_48_method_9_code 20 = .ok (.iload 5, 2) := by decide +kernel
theorem d7_22 : decode jdk_48_method_9_code 22 = .ok (.iaload, 1) := by decide +kernel
theorem d7_23 : decode jdk_48_method_9_code 23 = .ok (.iadd, 1) := by decide +kernel
theorem d7_24 : decode jdk_48_method_9_code 24 = .ok (.istore_n 0, 1) := by decide +kernel
theorem d7_25 : decode jdk_48_method_9_code 25 = .ok (.iinc 5 1, 3) := by decide +kernel
theorem d7_28 : decode jdk_48_method_9_code 28 = .ok (.goto (-20), 3) := by decide +kernel
theorem d7_31 : decode jdk_48_method_9_code 31 = .ok (.iload_n 0, 1) := by decide +kernel
theorem d7_32 : decode jdk_48_method_9_code 32 = .ok (.ireturn, 1) := by decide +kernel
theorem pn_2 : plainName "jdk/internal/util/ArraysSupport" = true := by first | (simp [plainName, overriddenIn]; done) | decide +kernel
theorem ef_ha2 (m : MethodId) (a1 : Addr) : entryFrame m #[(.int (1 : Int32)), (.ref a1), (.int (0 : Int32)), (.int (2 : Int32))] 6 = mkF m 0 #[.val (.int (1 : Int32)), .val (.ref a1), .val (.int (0 : Int32)), .val (.int (2 : Int32)), .unset, .unset] [] := by first | (simp [entryFrame, mkF, argsToLocals, Value.category]; done) | rfl
def Q_ha2 (Z : State) (a1 : Addr) (k1 : ClassId) (w0 : Int32) (w1 : Int32) (h0 : Heap) (n0 : Nat) (v : Option Value) (h : Heap) (L : List Loc) : Prop := v = some (.int (((31 : Int32) * ((31 : Int32) + w0)) + w1)) ∧ Fr n0 L ∧ h = h0
set_option maxRecDepth 65536 in
set_option maxHeartbeats 40000000 in
theorem ha2 (l : Launch) (Z : State) (aw : Array Value) (hw : ∀ d ∈ tables_1, d.before aw Z = true) (ws : List Jvm.Cond) (a1 : Addr) (k1 : ClassId) (w0 : Int32) (w1 : Int32) (h0 : Heap) (n0 : Nat) (Z0 : n0 ≤ h0.size) (V_a1 : Arv Z h0 a1 k1 .int (2 : Int32) [(.int w0), (.int w1)] (.int (0 : Int32))) :
    MetFree l (⟨"jdk/internal/util/ArraysSupport", "hashCode", "(I[III)I"⟩ : MethodName) (head1 (Jvm.Cond.code (⟨"jdk/internal/util/ArraysSupport", "hashCode", "(I[III)I"⟩ : MethodName) jdk_48_method_9_code 6 (some .int) :: ws) ({ frames := 0, cells := 0, slots := 0, locals := 0 } : Room)) (fun a U => a = #[(.int (1 : Int32)), (.ref a1), (.int (0 : Int32)), (.int (2 : Int32))] ∧ Z.Warmed39 U.vm ∧ U.heap = h0) (fun _ _ _ _ _ => True) (fun _ U o U' => ∃ v L, o = .returned v ∧ Q_ha2 Z a1 k1 w0 w1 h0 n0 v U'.heap L ∧ FrameEnd U o U' L ({ frames := 0, cells := 0, slots := 0, locals := 0 } : Room).cells ({ frames := 0, cells := 0, slots := 0, locals := 0 } : Room).slots) := by
  refine MetFree.of_bodySF (plainFor_of_name pn_2) hisR ?_
  intro p e s m args below meth c s₁ Bd hml0 hP hK
  obtain ⟨rfl, hZ, hh⟩ := hP
  have hx := Bd.exec
  have hby := Bd.bytes
  have hml : c.maxLocals = 6 := hml0
  have hown : s.vm.findClass "jdk/internal/util/ArraysSupport" = some m.cls := findClass_of_methodNamed Bd.named
  have hnm := (name_of_methodNamed Bd.named Bd.method).1
  have X0 : Stand p l e ({ frames := 0, cells := 0, slots := 0, locals := 0 } : Room) s m #[(.int (1 : Int32)), (.ref a1), (.int (0 : Int32)), (.int (2 : Int32))] below meth c s₁ [] 0 0 := Stand.of_body Bd
  have e0 : s₁.heap = h0 := by rw [← hh, Bd.state]; rfl
  have N0 := Fr.nil n0
  have pre0 : ∀ t, Steps p.tables e below (s₁.setTop (mkF m 0 #[.val (.int (1 : Int32)), .val (.ref a1), .val (.int (0 : Int32)), .val (.int (2 : Int32)), .unset, .unset] [])) t → Steps p.tables e below (s₁.setTop (entryFrame m #[(.int (1 : Int32)), (.ref a1), (.int (0 : Int32)), (.int (2 : Int32))] 6)) t := fun t k => castTop (ef_ha2 m a1) k
  obtain ⟨cl165, Ar165, q165, S165, N165, H165, G165⟩ := id V_a1
  have hin165 : ¬ ((0 : Int32) < 0 ∨ cl165.slots.size ≤ ((0 : Int32)).toNatClampNeg) := inb_of S165 ⟨by decide, by decide⟩
  have hat165 : cl165.slots[((0 : Int32)).toNatClampNeg]? = some (.int w0) := Has.at H165 hin165 rfl
  obtain ⟨cl166, Ar166, q166, S166, N166, H166, G166⟩ := id V_a1
  have hin166 : ¬ ((1 : Int32) < 0 ∨ cl166.slots.size ≤ ((1 : Int32)).toNatClampNeg) := inb_of S166 ⟨by decide, by decide⟩
  have hat166 : cl166.slots[((1 : Int32)).toNatClampNeg]? = some (.int w1) := Has.at H166 hin166 rfl
  obtain ⟨fs, hr, hrun, hended, hW, hsame⟩ := X0.leave (v := some (.int (((31 : Int32) * ((31 : Int32) + w0)) + w1))) (fun h => by rw [Bd.returns] at h; cases h)
  refine ⟨_, _, pre0 _ ?_, hrun, hended, _, _, rfl, ?_, ⟨_, rfl⟩, hW, hsame.mono (by decide) (by decide)⟩
  ·
    show Steps p.tables e below (s₁.setTop (mkF m 0 #[.val (.int (1 : Int32)), .val (.ref a1), .val (.int (0 : Int32)), .val (.int (2 : Int32)), .unset, .unset] [])) _
    refine XS.iloadN X0.here hx rfl (hb hby d7_0) rfl ?_
    show Steps p.tables e below (s₁.setTop (mkF m 1 #[.val (.int (1 : Int32)), .val (.ref a1), .val (.int (0 : Int32)), .val (.int (2 : Int32)), .unset, .unset] [(.int (0 : Int32))])) _
    refine XS.iloadN X0.here hx rfl (hb hby d7_1) rfl ?_
    show Steps p.tables e below (s₁.setTop (mkF m 2 #[.val (.int (1 : Int32)), .val (.ref a1), .val (.int (0 : Int32)), .val (.int (2 : Int32)), .unset, .unset] [(.int (2 : Int32)), (.int (0 : Int32))])) _
    refine XS.iadd X0.here hx rfl (hb hby d7_2) rfl ?_
    show Steps p.tables e below (s₁.setTop (mkF m 3 #[.val (.int (1 : Int32)), .val (.ref a1), .val (.int (0 : Int32)), .val (.int (2 : Int32)), .unset, .unset] [(.int (2 : Int32))])) _
    refine XS.istore X0.here hx rfl (hb hby d7_3) rfl (l' := #[.val (.int (1 : Int32)), .val (.ref a1), .val (.int (0 : Int32)), .val (.int (2 : Int32)), .val (.int (2 : Int32)), .unset]) rfl ?_
    show Steps p.tables e below (s₁.setTop (mkF m 5 #[.val (.int (1 : Int32)), .val (.ref a1), .val (.int (0 : Int32)), .val (.int (2 : Int32)), .val (.int (2 : Int32)), .unset] [])) _
    refine XS.iloadN X0.here hx rfl (hb hby d7_5) rfl ?_
    show Steps p.tables e below (s₁.setTop (mkF m 6 #[.val (.int (1 : Int32)), .val (.ref a1), .val (.int (0 : Int32)), .val (.int (2 : Int32)), .val (.int (2 : Int32)), .unset] [(.int (0 : Int32))])) _
    refine XS.istore X0.here hx rfl (hb hby d7_6) rfl (l' := #[.val (.int (1 : Int32)), .val (.ref a1), .val (.int (0 : Int32)), .val (.int (2 : Int32)), .val (.int (2 : Int32)), .val (.int (0 : Int32))]) rfl ?_
    show Steps p.tables e below (s₁.setTop (mkF m 8 #[.val (.int (1 : Int32)), .val (.ref a1), .val (.int (0 : Int32)), .val (.int (2 : Int32)), .val (.int (2 : Int32)), .val (.int (0 : Int32))] [])) _
    refine XS.iload X0.here hx rfl (hb hby d7_8) rfl ?_
    show Steps p.tables e below (s₁.setTop (mkF m 10 #[.val (.int (1 : Int32)), .val (.ref a1), .val (.int (0 : Int32)), .val (.int (2 : Int32)), .val (.int (2 : Int32)), .val (.int (0 : Int32))] [(.int (0 : Int32))])) _
    refine XS.iload X0.here hx rfl (hb hby d7_10) rfl ?_
    show Steps p.tables e below (s₁.setTop (mkF m 12 #[.val (.int (1 : Int32)), .val (.ref a1), .val (.int (0 : Int32)), .val (.int (2 : Int32)), .val (.int (2 : Int32)), .val (.int (0 : Int32))] [(.int (2 : Int32)), (.int (0 : Int32))])) _
    refine XS.icmpNo X0.here hx rfl (hb hby d7_12) rfl (tlt (by decide)).2.1 ?_
    show Steps p.tables e below (s₁.setTop (mkF m 15 #[.val (.int (1 : Int32)), .val (.ref a1), .val (.int (0 : Int32)), .val (.int (2 : Int32)), .val (.int (2 : Int32)), .val (.int (0 : Int32))] [])) _
    refine XS.bipush X0.here hx rfl (hb hby d7_15) ?_
    show Steps p.tables e below (s₁.setTop (mkF m 17 #[.val (.int (1 : Int32)), .val (.ref a1), .val (.int (0 : Int32)), .val (.int (2 : Int32)), .val (.int (2 : Int32)), .val (.int (0 : Int32))] [(.int (31 : Int32))])) _
    refine XS.iloadN X0.here hx rfl (hb hby d7_17) rfl ?_
    show Steps p.tables e below (s₁.setTop (mkF m 18 #[.val (.int (1 : Int32)), .val (.ref a1), .val (.int (0 : Int32)), .val (.int (2 : Int32)), .val (.int (2 : Int32)), .val (.int (0 : Int32))] [(.int (1 : Int32)), (.int (31 : Int32))])) _
    refine XS.imul X0.here hx rfl (hb hby d7_18) rfl ?_
    show Steps p.tables e below (s₁.setTop (mkF m 19 #[.val (.int (1 : Int32)), .val (.ref a1), .val (.int (0 : Int32)), .val (.int (2 : Int32)), .val (.int (2 : Int32)), .val (.int (0 : Int32))] [(.int (31 : Int32))])) _
    refine XS.aloadN X0.here hx rfl (hb hby d7_19) rfl rfl ?_
    show Steps p.tables e below (s₁.setTop (mkF m 20 #[.val (.int (1 : Int32)), .val (.ref a1), .val (.int (0 : Int32)), .val (.int (2 : Int32)), .val (.int (2 : Int32)), .val (.int (0 : Int32))] [(.ref a1), (.int (31 : Int32))])) _
    refine XS.iload X0.here hx rfl (hb hby d7_20) rfl ?_
    show Steps p.tables e below (s₁.setTop (mkF m 22 #[.val (.int (1 : Int32)), .val (.ref a1), .val (.int (0 : Int32)), .val (.int (2 : Int32)), .val (.int (2 : Int32)), .val (.int (0 : Int32))] [(.int (0 : Int32)), (.ref a1), (.int (31 : Int32))])) _
    refine X0.iaload hx (j := (0 : Int32)) (v := (.int w0)) (by rw [e0]; exact Ar165.1) (State.isArrayOf_alike hZ.alike Ar165.2.1) Ar165.2.2 hin165 hat165 (g := (mkF m 22 #[.val (.int (1 : Int32)), .val (.ref a1), .val (.int (0 : Int32)), .val (.int (2 : Int32)), .val (.int (2 : Int32)), .val (.int (0 : Int32))] [(.int (0 : Int32)), (.ref a1), (.int (31 : Int32))])) rfl rfl (hb hby d7_22) _ ?_
    show Steps p.tables e below (s₁.setTop (mkF m 23 #[.val (.int (1 : Int32)), .val (.ref a1), .val (.int (0 : Int32)), .val (.int (2 : Int32)), .val (.int (2 : Int32)), .val (.int (0 : Int32))] [(.int w0), (.int (31 : Int32))])) _
    refine XS.iadd X0.here hx rfl (hb hby d7_23) rfl ?_
    show Steps p.tables e below (s₁.setTop (mkF m 24 #[.val (.int (1 : Int32)), .val (.ref a1), .val (.int (0 : Int32)), .val (.int (2 : Int32)), .val (.int (2 : Int32)), .val (.int (0 : Int32))] [(.int ((31 : Int32) + w0))])) _
    refine XS.istoreN X0.here hx rfl (hb hby d7_24) rfl (l' := #[.val (.int ((31 : Int32) + w0)), .val (.ref a1), .val (.int (0 : Int32)), .val (.int (2 : Int32)), .val (.int (2 : Int32)), .val (.int (0 : Int32))]) rfl ?_
    show Steps p.tables e below (s₁.setTop (mkF m 25 #[.val (.int ((31 : Int32) + w0)), .val (.ref a1), .val (.int (0 : Int32)), .val (.int (2 : Int32)), .val (.int (2 : Int32)), .val (.int (0 : Int32))] [])) _
    refine XS.iinc X0.here hx rfl (hb hby d7_25) rfl (l' := #[.val (.int ((31 : Int32) + w0)), .val (.ref a1), .val (.int (0 : Int32)), .val (.int (2 : Int32)), .val (.int (2 : Int32)), .val (.int (1 : Int32))]) rfl ?_
    show Steps p.tables e below (s₁.setTop (mkF m 28 #[.val (.int ((31 : Int32) + w0)), .val (.ref a1), .val (.int (0 : Int32)), .val (.int (2 : Int32)), .val (.int (2 : Int32)), .val (.int (1 : Int32))] [])) _
    refine XS.goto X0.here hx rfl (pc0 := 28) (pc' := 8) rfl (hb hby d7_28) (by decide) (by decide) ?_
    show Steps p.tables e below (s₁.setTop (mkF m 8 #[.val (.int ((31 : Int32) + w0)), .val (.ref a1), .val (.int (0 : Int32)), .val (.int (2 : Int32)), .val (.int (2 : Int32)), .val (.int (1 : Int32))] [])) _
    refine XS.iload X0.here hx rfl (hb hby d7_8) rfl ?_
    show Steps p.tables e below (s₁.setTop (mkF m 10 #[.val (.int ((31 : Int32) + w0)), .val (.ref a1), .val (.int (0 : Int32)), .val (.int (2 : Int32)), .val (.int (2 : Int32)), .val (.int (1 : Int32))] [(.int (1 : Int32))])) _
    refine XS.iload X0.here hx rfl (hb hby d7_10) rfl ?_
    show Steps p.tables e below (s₁.setTop (mkF m 12 #[.val (.int ((31 : Int32) + w0)), .val (.ref a1), .val (.int (0 : Int32)), .val (.int (2 : Int32)), .val (.int (2 : Int32)), .val (.int (1 : Int32))] [(.int (2 : Int32)), (.int (1 : Int32))])) _
    refine XS.icmpNo X0.here hx rfl (hb hby d7_12) rfl (tlt (by decide)).2.1 ?_
    show Steps p.tables e below (s₁.setTop (mkF m 15 #[.val (.int ((31 : Int32) + w0)), .val (.ref a1), .val (.int (0 : Int32)), .val (.int (2 : Int32)), .val (.int (2 : Int32)), .val (.int (1 : Int32))] [])) _
    refine XS.bipush X0.here hx rfl (hb hby d7_15) ?_
    show Steps p.tables e below (s₁.setTop (mkF m 17 #[.val (.int ((31 : Int32) + w0)), .val (.ref a1), .val (.int (0 : Int32)), .val (.int (2 : Int32)), .val (.int (2 : Int32)), .val (.int (1 : Int32))] [(.int (31 : Int32))])) _
    refine XS.iloadN X0.here hx rfl (hb hby d7_17) rfl ?_
    show Steps p.tables e below (s₁.setTop (mkF m 18 #[.val (.int ((31 : Int32) + w0)), .val (.ref a1), .val (.int (0 : Int32)), .val (.int (2 : Int32)), .val (.int (2 : Int32)), .val (.int (1 : Int32))] [(.int ((31 : Int32) + w0)), (.int (31 : Int32))])) _
    refine XS.imul X0.here hx rfl (hb hby d7_18) rfl ?_
    show Steps p.tables e below (s₁.setTop (mkF m 19 #[.val (.int ((31 : Int32) + w0)), .val (.ref a1), .val (.int (0 : Int32)), .val (.int (2 : Int32)), .val (.int (2 : Int32)), .val (.int (1 : Int32))] [(.int ((31 : Int32) * ((31 : Int32) + w0)))])) _
    refine XS.aloadN X0.here hx rfl (hb hby d7_19) rfl rfl ?_
    show Steps p.tables e below (s₁.setTop (mkF m 20 #[.val (.int ((31 : Int32) + w0)), .val (.ref a1), .val (.int (0 : Int32)), .val (.int (2 : Int32)), .val (.int (2 : Int32)), .val (.int (1 : Int32))] [(.ref a1), (.int ((31 : Int32) * ((31 : Int32) + w0)))])) _
    refine XS.iload X0.here hx rfl (hb hby d7_20) rfl ?_
    show Steps p.tables e below (s₁.setTop (mkF m 22 #[.val (.int ((31 : Int32) + w0)), .val (.ref a1), .val (.int (0 : Int32)), .val (.int (2 : Int32)), .val (.int (2 : Int32)), .val (.int (1 : Int32))] [(.int (1 : Int32)), (.ref a1), (.int ((31 : Int32) * ((31 : Int32) + w0)))])) _
    refine X0.iaload hx (j := (1 : Int32)) (v := (.int w1)) (by rw [e0]; exact Ar166.1) (State.isArrayOf_alike hZ.alike Ar166.2.1) Ar166.2.2 hin166 hat166 (g := (mkF m 22 #[.val (.int ((31 : Int32) + w0)), .val (.ref a1), .val (.int (0 : Int32)), .val (.int (2 : Int32)), .val (.int (2 : Int32)), .val (.int (1 : Int32))] [(.int (1 : Int32)), (.ref a1), (.int ((31 : Int32) * ((31 : Int32) + w0)))])) rfl rfl (hb hby d7_22) _ ?_
    show Steps p.tables e below (s₁.setTop (mkF m 23 #[.val (.int ((31 : Int32) + w0)), .val (.ref a1), .val (.int (0 : Int32)), .val (.int (2 : Int32)), .val (.int (2 : Int32)), .val (.int (1 : Int32))] [(.int w1), (.int ((31 : Int32) * ((31 : Int32) + w0)))])) _
    refine XS.iadd X0.here hx rfl (hb hby d7_23) rfl ?_
    show Steps p.tables e below (s₁.setTop (mkF m 24 #[.val (.int ((31 : Int32) + w0)), .val (.ref a1), .val (.int (0 : Int32)), .val (.int (2 : Int32)), .val (.int (2 : Int32)), .val (.int (1 : Int32))] [(.int (((31 : Int32) * ((31 : Int32) + w0)) + w1))])) _
    refine XS.istoreN X0.here hx rfl (hb hby d7_24) rfl (l' := #[.val (.int (((31 : Int32) * ((31 : Int32) + w0)) + w1)), .val (.ref a1), .val (.int (0 : Int32)), .val (.int (2 : Int32)), .val (.int (2 : Int32)), .val (.int (1 : Int32))]) rfl ?_
    show Steps p.tables e below (s₁.setTop (mkF m 25 #[.val (.int (((31 : Int32) * ((31 : Int32) + w0)) + w1)), .val (.ref a1), .val (.int (0 : Int32)), .val (.int (2 : Int32)), .val (.int (2 : Int32)), .val (.int (1 : Int32))] [])) _
    refine XS.iinc X0.here hx rfl (hb hby d7_25) rfl (l' := #[.val (.int (((31 : Int32) * ((31 : Int32) + w0)) + w1)), .val (.ref a1), .val (.int (0 : Int32)), .val (.int (2 : Int32)), .val (.int (2 : Int32)), .val (.int (2 : Int32))]) rfl ?_
    show Steps p.tables e below (s₁.setTop (mkF m 28 #[.val (.int (((31 : Int32) * ((31 : Int32) + w0)) + w1)), .val (.ref a1), .val (.int (0 : Int32)), .val (.int (2 : Int32)), .val (.int (2 : Int32)), .val (.int (2 : Int32))] [])) _
    refine XS.goto X0.here hx rfl (pc0 := 28) (pc' := 8) rfl (hb hby d7_28) (by decide) (by decide) ?_
    show Steps p.tables e below (s₁.setTop (mkF m 8 #[.val (.int (((31 : Int32) * ((31 : Int32) + w0)) + w1)), .val (.ref a1), .val (.int (0 : Int32)), .val (.int (2 : Int32)), .val (.int (2 : Int32)), .val (.int (2 : Int32))] [])) _
    refine XS.iload X0.here hx rfl (hb hby d7_8) rfl ?_
    show Steps p.tables e below (s₁.setTop (mkF m 10 #[.val (.int (((31 : Int32) * ((31 : Int32) + w0)) + w1)), .val (.ref a1), .val (.int (0 : Int32)), .val (.int (2 : Int32)), .val (.int (2 : Int32)), .val (.int (2 : Int32))] [(.int (2 : Int32))])) _
    refine XS.iload X0.here hx rfl (hb hby d7_10) rfl ?_
    show Steps p.tables e below (s₁.setTop (mkF m 12 #[.val (.int (((31 : Int32) * ((31 : Int32) + w0)) + w1)), .val (.ref a1), .val (.int (0 : Int32)), .val (.int (2 : Int32)), .val (.int (2 : Int32)), .val (.int (2 : Int32))] [(.int (2 : Int32)), (.int (2 : Int32))])) _
    refine XS.icmpYes X0.here hx rfl (pc0 := 12) (pc' := 31) rfl (hb hby d7_12) rfl (flt (by decide)).2.1 (by decide) (by decide) ?_
    show Steps p.tables e below (s₁.setTop (mkF m 31 #[.val (.int (((31 : Int32) * ((31 : Int32) + w0)) + w1)), .val (.ref a1), .val (.int (0 : Int32)), .val (.int (2 : Int32)), .val (.int (2 : Int32)), .val (.int (2 : Int32))] [])) _
    refine XS.iloadN X0.here hx rfl (hb hby d7_31) rfl ?_
    show Steps p.tables e below (s₁.setTop (mkF m 32 #[.val (.int (((31 : Int32) * ((31 : Int32) + w0)) + w1)), .val (.ref a1), .val (.int (0 : Int32)), .val (.int (2 : Int32)), .val (.int (2 : Int32)), .val (.int (2 : Int32))] [(.int (((31 : Int32) * ((31 : Int32) + w0)) + w1))])) _
    exact retI X0 hx Bd.returns (hb hby d7_32) hr
  ·
    show Q_ha2 Z a1 k1 w0 w1 h0 n0 _ s₁.heap _
    rw [e0]
    exact ⟨rfl, N0, rfl⟩
theorem d6_0 : decode jdk_48_method_4_code 0 = .ok (.iload 4, 2) := by decide +kernel
theorem d6_2 : decode jdk_48_method_4_code 2 = .ok (.tableswitch 127 4 10 #[42, 55, 127, 127, 88, 101, 114], 42) := by decide +kernel
theorem d6_116 : decode jdk_48_method_4_code 116 = .ok (.iload_n 3, 1) := by decide +kernel
theorem d6_117 : decode jdk_48_method_4_code 117 = .ok (.aload_n 0, 1) := by decide +kernel
theorem d6_118 : decode jdk_48_method_4_code 118 = .ok (.checkcast 82, 3) := by decide +kernel
theorem d6_121 : decode jdk_48_method_4_code 121 = .ok (.iload_n 1, 1) := by decide +kernel
theorem d6_122 : decode jdk_48_method_4_code 122 = .ok (.iload_n 2, 1) := by decide +kernel
theorem pd_1 : parseMethodDescriptor "(I[III)I" = some ⟨[.int, (.array .int), .int, .int], some .int⟩ := by decide +kernel
theorem d6_123 : decode jdk_48_method_4_code 123 = .ok (.invokestatic 84, 3) := by decide +kernel
theorem d6_126 : decode jdk_48_method_4_code 126 = .ok (.goto 31, 3) := by decide +kernel
theorem d6_157 : decode jdk_48_method_4_code 157 = .ok (.ireturn, 1) := by decide +kernel
theorem ef_hv2 (m : MethodId) (a0 : Addr) : entryFrame m #[(.ref a0), (.int (0 : Int32)), (.int (2 : Int32)), (.int (1 : Int32)), (.int (10 : Int32))] 5 = mkF m 0 #[.val (.ref a0), .val (.int (0 : Int32)), .val (.int (2 : Int32)), .val (.int (1 : Int32)), .val (.int (10 : Int32))] [] := by first | (simp [entryFrame, mkF, argsToLocals, Value.category]; done) | rfl
def Q_hv2 (Z : State) (a0 : Addr) (k1 : ClassId) (w0 : Int32) (w1 : Int32) (h0 : Heap) (n0 : Nat) (v : Option Value) (h : Heap) (L : List Loc) : Prop := v = some (.int (((31 : Int32) * ((31 : Int32) + w0)) + w1)) ∧ Fr n0 L ∧ h = h0
set_option maxRecDepth 65536 in
set_option maxHeartbeats 40000000 in
theorem hv2 (l : Launch) (Z : State) (aw : Array Value) (hw : ∀ d ∈ tables_1, d.before aw Z = true) (ws : List Jvm.Cond) (a0 : Addr) (k1 : ClassId) (w0 : Int32) (w1 : Int32) (h0 : Heap) (n0 : Nat) (Z0 : n0 ≤ h0.size) (V_a0 : Arv Z h0 a0 k1 .int (2 : Int32) [(.int w0), (.int w1)] (.int (0 : Int32))) (kc_a0 : Z.vm.findClass "[I" = some k1) :
    MetFree l (⟨"jdk/internal/util/ArraysSupport", "vectorizedHashCode", "(Ljava/lang/Object;IIII)I"⟩ : MethodName) (head1 (Jvm.Cond.code (⟨"jdk/internal/util/ArraysSupport", "vectorizedHashCode", "(Ljava/lang/Object;IIII)I"⟩ : MethodName) jdk_48_method_4_code 5 (some .int) :: ws) ({ frames := 1, cells := 0, slots := 0, locals := 17 } : Room)) (fun a U => a = #[(.ref a0), (.int (0 : Int32)), (.int (2 : Int32)), (.int (1 : Int32)), (.int (10 : Int32))] ∧ Z.Warmed39 U.vm ∧ U.heap = h0) (fun _ _ _ _ _ => True) (fun _ U o U' => ∃ v L, o = .returned v ∧ Q_hv2 Z a0 k1 w0 w1 h0 n0 v U'.heap L ∧ FrameEnd U o U' L ({ frames := 1, cells := 0, slots := 0, locals := 17 } : Room).cells ({ frames := 1, cells := 0, slots := 0, locals := 17 } : Room).slots) := by
  refine MetFree.of_bodySF (plainFor_of_name pn_2) hisR ?_
  intro p e s m args below meth c s₁ Bd hml0 hP hK
  obtain ⟨rfl, hZ, hh⟩ := hP
  have hx := Bd.exec
  have hby := Bd.bytes
  have hml : c.maxLocals = 5 := hml0
  have hown : s.vm.findClass "jdk/internal/util/ArraysSupport" = some m.cls := findClass_of_methodNamed Bd.named
  have hnm := (name_of_methodNamed Bd.named Bd.method).1
  have X0 : Stand p l e ({ frames := 1, cells := 0, slots := 0, locals := 17 } : Room) s m #[(.ref a0), (.int (0 : Int32)), (.int (2 : Int32)), (.int (1 : Int32)), (.int (10 : Int32))] below meth c s₁ [] 0 0 := Stand.of_body Bd
  have e0 : s₁.heap = h0 := by rw [← hh, Bd.state]; rfl
  have N0 := Fr.nil n0
  have pre0 : ∀ t, Steps p.tables e below (s₁.setTop (mkF m 0 #[.val (.ref a0), .val (.int (0 : Int32)), .val (.int (2 : Int32)), .val (.int (1 : Int32)), .val (.int (10 : Int32))] [])) t → Steps p.tables e below (s₁.setTop (entryFrame m #[(.ref a0), (.int (0 : Int32)), (.int (2 : Int32)), (.int (1 : Int32)), (.int (10 : Int32))] 5)) t := fun t k => castTop (ef_hv2 m a0) k
  obtain ⟨T167, X167, e167, st167⟩ := castY X0 hx hZ hown (hw _ (List.mem_of_getElem? (i := 33) rfl)) e0 (insA V_a0 kc_a0) (g := (mkF m 118 #[.val (.ref a0), .val (.int (0 : Int32)), .val (.int (2 : Int32)), .val (.int (1 : Int32)), .val (.int (10 : Int32))] [(.ref a0), (.int (1 : Int32))])) rfl rfl (hb hby d6_118)
  obtain ⟨_, _, ⟨T168, L168, k168, n168⟩, -, X168, ⟨Lc168, hQ168, l168, y168, z168⟩, st168⟩ := Jvm.LawKit.callS X167 hx (y := (⟨"jdk/internal/util/ArraysSupport", "hashCode", "(I[III)I"⟩ : MethodName)) hown (mvT hZ (hw _ (List.mem_of_getElem? (i := 35) rfl))) (mvT hZ (hw _ (List.mem_of_getElem? (i := 36) rfl))) (mvT hZ (hw _ (List.mem_of_getElem? (i := 31) rfl))) (mvT hZ (hw _ (List.mem_of_getElem? (i := 37) rfl))) (by decide) (backOf (W := 0) (ha2 l Z aw hw [] a0 k1 w0 w1 h0 n0 Z0 V_a0) hZ (hw _ (List.mem_of_getElem? (i := 37) rfl)) (hw _ (List.mem_of_getElem? (i := 31) rfl)) (by decide) (by decide)) (g := (mkF m 123 #[.val (.ref a0), .val (.int (0 : Int32)), .val (.int (2 : Int32)), .val (.int (1 : Int32)), .val (.int (10 : Int32))] [(.int (2 : Int32)), (.int (0 : Int32)), (.ref a0), (.int (1 : Int32))])) rfl (by rw [hml]; rfl) (argsL := [(.int (1 : Int32)), (.ref a0), (.int (0 : Int32)), (.int (2 : Int32))]) (rest := []) (lenOf pd_1 rfl) rfl (by show 2 * 0 + _ ≤ _; exact Nat.le_of_eq rfl) (hb hby d6_123) (fun _ _ => ⟨rfl, e167, (by decide : 0 + 0 ≤ _), (by decide : 0 + 0 ≤ _)⟩)
  dsimp only [Pt.U, Pt.locs, Pt.cells, Pt.slots] at X168 l168 y168 z168 st168 hQ168
  subst l168 y168 z168
  obtain ⟨rfl, N168q, e168⟩ := hQ168
  have N168 := Fr.app N0 N168q
  obtain ⟨fs, hr, hrun, hended, hW, hsame⟩ := X168.leave (v := some (.int (((31 : Int32) * ((31 : Int32) + w0)) + w1))) (fun h => by rw [Bd.returns] at h; cases h)
  refine ⟨_, _, pre0 _ ?_, hrun, hended, _, _, rfl, ?_, ⟨_, rfl⟩, hW, hsame.mono (by decide) (by decide)⟩
  ·
    show Steps p.tables e below (s₁.setTop (mkF m 0 #[.val (.ref a0), .val (.int (0 : Int32)), .val (.int (2 : Int32)), .val (.int (1 : Int32)), .val (.int (10 : Int32))] [])) _
    refine XS.iload X0.here hx rfl (hb hby d6_0) rfl ?_
    show Steps p.tables e below (s₁.setTop (mkF m 2 #[.val (.ref a0), .val (.int (0 : Int32)), .val (.int (2 : Int32)), .val (.int (1 : Int32)), .val (.int (10 : Int32))] [(.int (10 : Int32))])) _
    refine XS.tswIn X0.here hx rfl (pc0 := 2) (pc' := 116) (o := 114) rfl (hb hby d6_2) rfl (by decide) (by decide) (by decide) (by decide) ?_
    show Steps p.tables e below (s₁.setTop (mkF m 116 #[.val (.ref a0), .val (.int (0 : Int32)), .val (.int (2 : Int32)), .val (.int (1 : Int32)), .val (.int (10 : Int32))] [])) _
    refine XS.iloadN X0.here hx rfl (hb hby d6_116) rfl ?_
    show Steps p.tables e below (s₁.setTop (mkF m 117 #[.val (.ref a0), .val (.int (0 : Int32)), .val (.int (2 : Int32)), .val (.int (1 : Int32)), .val (.int (10 : Int32))] [(.int (1 : Int32))])) _
    refine XS.aloadN X0.here hx rfl (hb hby d6_117) rfl rfl ?_
    show Steps p.tables e below (s₁.setTop (mkF m 118 #[.val (.ref a0), .val (.int (0 : Int32)), .val (.int (2 : Int32)), .val (.int (1 : Int32)), .val (.int (10 : Int32))] [(.ref a0), (.int (1 : Int32))])) _
    refine st167 _ ?_
    show Steps p.tables e below (T167.setTop (mkF m 121 #[.val (.ref a0), .val (.int (0 : Int32)), .val (.int (2 : Int32)), .val (.int (1 : Int32)), .val (.int (10 : Int32))] [(.ref a0), (.int (1 : Int32))])) _
    refine XS.iloadN X167.here hx rfl (hb hby d6_121) rfl ?_
    show Steps p.tables e below (T167.setTop (mkF m 122 #[.val (.ref a0), .val (.int (0 : Int32)), .val (.int (2 : Int32)), .val (.int (1 : Int32)), .val (.int (10 : Int32))] [(.int (0 : Int32)), (.ref a0), (.int (1 : Int32))])) _
    refine XS.iloadN X167.here hx rfl (hb hby d6_122) rfl ?_
    show Steps p.tables e below (T167.setTop (mkF m 123 #[.val (.ref a0), .val (.int (0 : Int32)), .val (.int (2 : Int32)), .val (.int (1 : Int32)), .val (.int (10 : Int32))] [(.int (2 : Int32)), (.int (0 : Int32)), (.ref a0), (.int (1 : Int32))])) _
    refine st168 _ ?_
    show Steps p.tables e below (T168.setTop (mkF m 126 #[.val (.ref a0), .val (.int (0 : Int32)), .val (.int (2 : Int32)), .val (.int (1 : Int32)), .val (.int (10 : Int32))] [(.int (((31 : Int32) * ((31 : Int32) + w0)) + w1))])) _
    refine XS.goto X168.here hx rfl (pc0 := 126) (pc' := 157) rfl (hb hby d6_126) (by decide) (by decide) ?_
    show Steps p.tables e below (T168.setTop (mkF m 157 #[.val (.ref a0), .val (.int (0 : Int32)), .val (.int (2 : Int32)), .val (.int (1 : Int32)), .val (.int (10 : Int32))] [(.int (((31 : Int32) * ((31 : Int32) + w0)) + w1))])) _
    exact retI X168 hx Bd.returns (hb hby d6_157) hr
  ·
    show Q_hv2 Z a0 k1 w0 w1 h0 n0 _ T168.heap _
    rw [e168]
    exact ⟨rfl, N168, rfl⟩
theorem d4_49 : decode jdk_65_method_150_code 49 = .ok (.aload_n 0, 1) := by decide +kernel
theorem d4_50 : decode jdk_65_method_150_code 50 = .ok (.iconst 0, 1) := by decide +kernel
theorem d4_51 : decode jdk_65_method_150_code 51 = .ok (.aload_n 0, 1) := by decide +kernel
theorem d4_52 : decode jdk_65_method_150_code 52 = .ok (.arraylength, 1) := by decide +kernel
theorem d4_53 : decode jdk_65_method_150_code 53 = .ok (.iconst 1, 1) := by decide +kernel
theorem d4_54 : decode jdk_65_method_150_code 54 = .ok (.bipush 10, 2) := by decide +kernel
theorem pd_2 : parseMethodDescriptor "(Ljava/lang/Object;IIII)I" = some ⟨[(.object "java/lang/Object"), .int, .int, .int, .int], some .int⟩ := by decide +kernel
theorem d4_56 : decode jdk_65_method_150_code 56 = .ok (.invokestatic 379, 3) := by decide +kernel
theorem ef_hh2 (m : MethodId) (a0 : Addr) : entryFrame m #[(.ref a0)] 1 = mkF m 0 #[.val (.ref a0)] [] := by first | (simp [entryFrame, mkF, argsToLocals, Value.category]; done) | rfl
def Q_hh2 (Z : State) (a0 : Addr) (k1 : ClassId) (w0 : Int32) (w1 : Int32) (h0 : Heap) (n0 : Nat) (v : Option Value) (h : Heap) (L : List Loc) : Prop := v = some (.int (((31 : Int32) * ((31 : Int32) + w0)) + w1)) ∧ Fr n0 L ∧ h = h0
set_option maxRecDepth 65536 in
set_option maxHeartbeats 40000000 in
theorem hh2 (l : Launch) (Z : State) (aw : Array Value) (hw : ∀ d ∈ tables_1, d.before aw Z = true) (ws : List Jvm.Cond) (a0 : Addr) (k1 : ClassId) (w0 : Int32) (w1 : Int32) (h0 : Heap) (n0 : Nat) (Z0 : n0 ≤ h0.size) (V_a0 : Arv Z h0 a0 k1 .int (2 : Int32) [(.int w0), (.int w1)] (.int (0 : Int32))) (kc_a0 : Z.vm.findClass "[I" = some k1) :
    MetFree l (⟨"java/util/Arrays", "hashCode", "([I)I"⟩ : MethodName) (head1 (Jvm.Cond.code (⟨"java/util/Arrays", "hashCode", "([I)I"⟩ : MethodName) jdk_65_method_150_code 1 (some .int) :: ws) ({ frames := 2, cells := 0, slots := 0, locals := 33 } : Room)) (fun a U => a = #[(.ref a0)] ∧ Z.Warmed39 U.vm ∧ U.heap = h0) (fun _ _ _ _ _ => True) (fun _ U o U' => ∃ v L, o = .returned v ∧ Q_hh2 Z a0 k1 w0 w1 h0 n0 v U'.heap L ∧ FrameEnd U o U' L ({ frames := 2, cells := 0, slots := 0, locals := 33 } : Room).cells ({ frames := 2, cells := 0, slots := 0, locals := 33 } : Room).slots) := by
  refine MetFree.of_bodySF (plainFor_of_name pn_0) hisR ?_
  intro p e s m args below meth c s₁ Bd hml0 hP hK
  obtain ⟨rfl, hZ, hh⟩ := hP
  have hx := Bd.exec
  have hby := Bd.bytes
  have hml : c.maxLocals = 1 := hml0
  have hown : s.vm.findClass "java/util/Arrays" = some m.cls := findClass_of_methodNamed Bd.named
  have hnm := (name_of_methodNamed Bd.named Bd.method).1
  have X0 : Stand p l e ({ frames := 2, cells := 0, slots := 0, locals := 33 } : Room) s m #[(.ref a0)] below meth c s₁ [] 0 0 := Stand.of_body Bd
  have e0 : s₁.heap = h0 := by rw [← hh, Bd.state]; rfl
  have N0 := Fr.nil n0
  have pre0 : ∀ t, Steps p.tables e below (s₁.setTop (mkF m 0 #[.val (.ref a0)] [])) t → Steps p.tables e below (s₁.setTop (entryFrame m #[(.ref a0)] 1)) t := fun t k => castTop (ef_hh2 m a0) k
  obtain ⟨cl169, Ar169, q169, S169, N169, H169, G169⟩ := id V_a0
  obtain ⟨cl170, Ar170, q170, S170, N170, H170, G170⟩ := id V_a0
  obtain ⟨_, _, ⟨T171, L171, k171, n171⟩, -, X171, ⟨Lc171, hQ171, l171, y171, z171⟩, st171⟩ := Jvm.LawKit.callS X0 hx (y := (⟨"jdk/internal/util/ArraysSupport", "vectorizedHashCode", "(Ljava/lang/Object;IIII)I"⟩ : MethodName)) hown (mvT hZ (hw _ (List.mem_of_getElem? (i := 29) rfl))) (mvT hZ (hw _ (List.mem_of_getElem? (i := 30) rfl))) (mvT hZ (hw _ (List.mem_of_getElem? (i := 31) rfl))) (mvT hZ (hw _ (List.mem_of_getElem? (i := 32) rfl))) (by decide) (backOf (W := 0) (hv2 l Z aw hw [] a0 k1 w0 w1 h0 n0 Z0 V_a0 kc_a0) hZ (hw _ (List.mem_of_getElem? (i := 32) rfl)) (hw _ (List.mem_of_getElem? (i := 31) rfl)) (by decide) (by decide)) (g := (mkF m 56 #[.val (.ref a0)] [(.int (10 : Int32)), (.int (1 : Int32)), (.int (2 : Int32)), (.int (0 : Int32)), (.ref a0)])) rfl (by rw [hml]; rfl) (argsL := [(.ref a0), (.int (0 : Int32)), (.int (2 : Int32)), (.int (1 : Int32)), (.int (10 : Int32))]) (rest := []) (lenOf pd_2 rfl) rfl (by show 2 * 0 + _ ≤ _; exact Nat.le_of_eq rfl) (hb hby d4_56) (fun _ _ => ⟨rfl, e0, (by decide : 0 + 0 ≤ _), (by decide : 0 + 0 ≤ _)⟩)
  dsimp only [Pt.U, Pt.locs, Pt.cells, Pt.slots] at X171 l171 y171 z171 st171 hQ171
  subst l171 y171 z171
  obtain ⟨rfl, N171q, e171⟩ := hQ171
  have N171 := Fr.app N0 N171q
  obtain ⟨fs, hr, hrun, hended, hW, hsame⟩ := X171.leave (v := some (.int (((31 : Int32) * ((31 : Int32) + w0)) + w1))) (fun h => by rw [Bd.returns] at h; cases h)
  refine ⟨_, _, pre0 _ ?_, hrun, hended, _, _, rfl, ?_, ⟨_, rfl⟩, hW, hsame.mono (by decide) (by decide)⟩
  ·
    show Steps p.tables e below (s₁.setTop (mkF m 0 #[.val (.ref a0)] [])) _
    refine XS.aloadN X0.here hx rfl (hb hby d4_0) rfl rfl ?_
    show Steps p.tables e below (s₁.setTop (mkF m 1 #[.val (.ref a0)] [(.ref a0)])) _
    refine XS.ifnonnullYes X0.here hx rfl (pc0 := 1) (pc' := 6) rfl (hb hby d4_1) rfl (by decide) (by decide) ?_
    show Steps p.tables e below (s₁.setTop (mkF m 6 #[.val (.ref a0)] [])) _
    refine XS.aloadN X0.here hx rfl (hb hby d4_6) rfl rfl ?_
    show Steps p.tables e below (s₁.setTop (mkF m 7 #[.val (.ref a0)] [(.ref a0)])) _
    refine X0.arraylength hx (by rw [e0]; exact Ar169.1) (State.isArrayOf_alike hZ.alike Ar169.2.1) (g := (mkF m 7 #[.val (.ref a0)] [(.ref a0)])) rfl rfl (hb hby d4_7) _ ?_
    rw [len_of S169 N169]
    show Steps p.tables e below (s₁.setTop (mkF m 8 #[.val (.ref a0)] [(.int (2 : Int32))])) _
    refine lswMiss X0 hx rfl (pc0 := 8) (pc' := 49) rfl (hb hby d4_8) rfl (by decide) (by decide) (by decide) (by decide) ?_
    show Steps p.tables e below (s₁.setTop (mkF m 49 #[.val (.ref a0)] [])) _
    refine XS.aloadN X0.here hx rfl (hb hby d4_49) rfl rfl ?_
    show Steps p.tables e below (s₁.setTop (mkF m 50 #[.val (.ref a0)] [(.ref a0)])) _
    refine XS.iconst X0.here hx rfl (hb hby d4_50) ?_
    show Steps p.tables e below (s₁.setTop (mkF m 51 #[.val (.ref a0)] [(.int (0 : Int32)), (.ref a0)])) _
    refine XS.aloadN X0.here hx rfl (hb hby d4_51) rfl rfl ?_
    show Steps p.tables e below (s₁.setTop (mkF m 52 #[.val (.ref a0)] [(.ref a0), (.int (0 : Int32)), (.ref a0)])) _
    refine X0.arraylength hx (by rw [e0]; exact Ar170.1) (State.isArrayOf_alike hZ.alike Ar170.2.1) (g := (mkF m 52 #[.val (.ref a0)] [(.ref a0), (.int (0 : Int32)), (.ref a0)])) rfl rfl (hb hby d4_52) _ ?_
    rw [len_of S170 N170]
    show Steps p.tables e below (s₁.setTop (mkF m 53 #[.val (.ref a0)] [(.int (2 : Int32)), (.int (0 : Int32)), (.ref a0)])) _
    refine XS.iconst X0.here hx rfl (hb hby d4_53) ?_
    show Steps p.tables e below (s₁.setTop (mkF m 54 #[.val (.ref a0)] [(.int (1 : Int32)), (.int (2 : Int32)), (.int (0 : Int32)), (.ref a0)])) _
    refine XS.bipush X0.here hx rfl (hb hby d4_54) ?_
    show Steps p.tables e below (s₁.setTop (mkF m 56 #[.val (.ref a0)] [(.int (10 : Int32)), (.int (1 : Int32)), (.int (2 : Int32)), (.int (0 : Int32)), (.ref a0)])) _
    refine st171 _ ?_
    show Steps p.tables e below (T171.setTop (mkF m 59 #[.val (.ref a0)] [(.int (((31 : Int32) * ((31 : Int32) + w0)) + w1))])) _
    exact retI X171 hx Bd.returns (hb hby d4_59) hr
  ·
    show Q_hh2 Z a0 k1 w0 w1 h0 n0 _ T171.heap _
    rw [e171]
    exact ⟨rfl, N171, rfl⟩
theorem ef_ct2 (m : MethodId) (a0 : Addr) (a1 : Addr) : entryFrame m #[(.ref a0), (.ref a1)] 8 = mkF m 0 #[.val (.ref a0), .val (.ref a1), .unset, .unset, .unset, .unset, .unset, .unset] [] := by first | (simp [entryFrame, mkF, argsToLocals, Value.category]; done) | rfl
def Q_ct2 (Z : State) (a0 : Addr) (a1 : Addr) (k1 : ClassId) (w0 : Int32) (w1 : Int32) (h0 : Heap) (n0 : Nat) (v : Option Value) (h : Heap) (L : List Loc) : Prop := v = none ∧ Fr n0 L ∧ Keep h0 h [a0] ∧ Exa Z h a0 "com/example/enact/enact/net/Marking" ∧ Fld Z h a0 "com/example/enact/enact/net/Marking" "tokens" "[I" (.ref a1)
set_option maxRecDepth 65536 in
set_option maxHeartbeats 40000000 in
theorem ct2 (l : Launch) (Z : State) (aw : Array Value) (hw : ∀ d ∈ tables_1, d.before aw Z = true) (ws : List Jvm.Cond) (a0 : Addr) (a1 : Addr) (k1 : ClassId) (w0 : Int32) (w1 : Int32) (h0 : Heap) (n0 : Nat) (Z0 : n0 ≤ h0.size) (E_a0 : Exa Z h0 a0 "com/example/enact/enact/net/Marking") (F_a0_tokens : Fld Z h0 a0 "com/example/enact/enact/net/Marking" "tokens" "[I" .null) (F_a0_total : Fld Z h0 a0 "com/example/enact/enact/net/Marking" "total" "J" (.long (0 : Int64))) (F_a0_hash : Fld Z h0 a0 "com/example/enact/enact/net/Marking" "hash" "I" (.int (0 : Int32))) (g_a0 : n0 ≤ a0) (V_a1 : Arv Z h0 a1 k1 .int (2 : Int32) [(.int w0), (.int w1)] (.int (0 : Int32))) (kc_a1 : Z.vm.findClass "[I" = some k1) (ne_a0_a1 : a0 ≠ a1) :
    MetFree l (⟨"com/example/enact/enact/net/Marking", "<init>", "([I)V"⟩ : MethodName) (head1 (Jvm.Cond.code (⟨"com/example/enact/enact/net/Marking", "<init>", "([I)V"⟩ : MethodName) prog_29_method_1_code 8 none :: ws) ({ frames := 3, cells := 0, slots := 0, locals := 46 } : Room)) (fun a U => a = #[(.ref a0), (.ref a1)] ∧ Z.Warmed39 U.vm ∧ U.heap = h0) (fun _ _ _ _ _ => True) (fun _ U o U' => ∃ v L, o = .returned v ∧ Q_ct2 Z a0 a1 k1 w0 w1 h0 n0 v U'.heap L ∧ FrameEnd U o U' L ({ frames := 3, cells := 0, slots := 0, locals := 46 } : Room).cells ({ frames := 3, cells := 0, slots := 0, locals := 46 } : Room).slots) := by
  refine MetFree.of_bodySF (plainFor_of_name pn_1) hisR ?_
  intro p e s m args below meth c s₁ Bd hml0 hP hK
  obtain ⟨rfl, hZ, hh⟩ := hP
  have hx := Bd.exec
  have hby := Bd.bytes
  have hml : c.maxLocals = 8 := hml0
  have hown : s.vm.findClass "com/example/enact/enact/net/Marking" = some m.cls := findClass_of_methodNamed Bd.named
  have hnm := (name_of_methodNamed Bd.named Bd.method).1
  have X0 : Stand p l e ({ frames := 3, cells := 0, slots := 0, locals := 46 } : Room) s m #[(.ref a0), (.ref a1)] below meth c s₁ [] 0 0 := Stand.of_body Bd
  have e0 : s₁.heap = h0 := by rw [← hh, Bd.state]; rfl
  have N0 := Fr.nil n0
  have pre0 : ∀ t, Steps p.tables e below (s₁.setTop (mkF m 0 #[.val (.ref a0), .val (.ref a1), .unset, .unset, .unset, .unset, .unset, .unset] [])) t → Steps p.tables e below (s₁.setTop (entryFrame m #[(.ref a0), (.ref a1)] 8)) t := fun t k => castTop (ef_ct2 m a0 a1) k
  have KC0 : Keep h0 h0 [a0] := Keep.refl h0 [a0]
  obtain ⟨T172, X172, e172, st172⟩ := initO X0 hx hZ hown (hw _ (List.mem_of_getElem? (i := 11) rfl)) (hw _ (List.mem_of_getElem? (i := 12) rfl)) (hw _ (List.mem_of_getElem? (i := 13) rfl)) e0 (g := (mkF m 1 #[.val (.ref a0), .val (.ref a1), .unset, .unset, .unset, .unset, .unset, .unset] [(.ref a0)])) rfl (by rw [hml]; rfl) rfl (hb hby d2_1) (by decide) (W := 0) (by show 2 * 0 + _ ≤ _; exact Nat.le_of_eq rfl) (by decide)
  obtain ⟨cl173, Ar173, q173, S173, N173, H173, G173⟩ := id V_a1
  obtain ⟨cl174, Ar174, q174, S174, N174, H174, G174⟩ := id V_a1
  have hin174 : ¬ ((0 : Int32) < 0 ∨ cl174.slots.size ≤ ((0 : Int32)).toNatClampNeg) := inb_of S174 ⟨by decide, by decide⟩
  have hat174 : cl174.slots[((0 : Int32)).toNatClampNeg]? = some (.int w0) := Has.at H174 hin174 rfl
  obtain ⟨cl175, Ar175, q175, S175, N175, H175, G175⟩ := id V_a1
  have hin175 : ¬ ((1 : Int32) < 0 ∨ cl175.slots.size ≤ ((1 : Int32)).toNatClampNeg) := inb_of S175 ⟨by decide, by decide⟩
  have hat175 : cl175.slots[((1 : Int32)).toNatClampNeg]? = some (.int w1) := Has.at H175 hin175 rfl
  obtain ⟨T176, h176, X176, e176, W176, st176⟩ := putF X172 hx hZ hown (host := "") (Or.inl (hw _ (List.mem_of_getElem? (i := 14) rfl))) Via.refl e172 F_a0_tokens E_a0 (Or.inr ⟨(hw _ (List.mem_of_getElem? (i := 15) rfl)), rfl, hnm⟩) (hw _ (List.mem_of_getElem? (i := 6) rfl)) (ty := (.array .int)) (by decide) rfl rfl (g := (mkF m 45 #[.val (.ref a0), .val (.ref a1), .val (.long (((0 : Int64) + (w0.toInt64)) + (w1.toInt64))), .second, .val (.ref a1), .val (.int (2 : Int32)), .val (.int (2 : Int32)), .val (.int w1)] [(.ref a1), (.ref a0)])) rfl rfl (hb hby d2_45)
  have f177 := E_a0.wr W176
  have f178 := F_a0_total.other W176 (Or.inr (slot_ne (Or.inr (hw _ (List.mem_of_getElem? (i := 17) rfl))) (Or.inr (hw _ (List.mem_of_getElem? (i := 15) rfl))) (by decide) (t := .long) (t' := (.array .int)) (by decide) (by decide)))
  have f179 := F_a0_hash.other W176 (Or.inr (slot_ne (Or.inr (hw _ (List.mem_of_getElem? (i := 23) rfl))) (Or.inr (hw _ (List.mem_of_getElem? (i := 15) rfl))) (by decide) (t := .int) (t' := (.array .int)) (by decide) (by decide)))
  have f180 := V_a1.other W176 (Ne.symm ne_a0_a1)
  have Z181 : n0 ≤ h176.size := Nat.le_trans Z0 (Keep.of_wr W176).1
  have K182 : Keep h0 h176 [a0] := Keep.wr KC0 W176 (Or.inl (List.mem_of_getElem? (i := 0) rfl))
  have N183 := Fr.snoc X176 N0 g_a0
  have f184 : Fld Z h176 a0 "com/example/enact/enact/net/Marking" "tokens" "[I" (.ref a1) := F_a0_tokens.same W176
  obtain ⟨T185, h185, X185, e185, W185, st185⟩ := putF X176 hx hZ hown (host := "") (Or.inl (hw _ (List.mem_of_getElem? (i := 16) rfl))) Via.refl e176 f178 f177 (Or.inr ⟨(hw _ (List.mem_of_getElem? (i := 17) rfl)), rfl, hnm⟩) (hw _ (List.mem_of_getElem? (i := 6) rfl)) (ty := .long) (by decide) rfl rfl (g := (mkF m 50 #[.val (.ref a0), .val (.ref a1), .val (.long (((0 : Int64) + (w0.toInt64)) + (w1.toInt64))), .second, .val (.ref a1), .val (.int (2 : Int32)), .val (.int (2 : Int32)), .val (.int w1)] [(.long (((0 : Int64) + (w0.toInt64)) + (w1.toInt64))), (.ref a0)])) rfl rfl (hb hby d2_50)
  have f186 := f177.wr W185
  have f187 := f179.other W185 (Or.inr (slot_ne (Or.inr (hw _ (List.mem_of_getElem? (i := 23) rfl))) (Or.inr (hw _ (List.mem_of_getElem? (i := 17) rfl))) (by decide) (t := .int) (t' := .long) (by decide) (by decide)))
  have f188 := f180.other W185 (Ne.symm ne_a0_a1)
  have f189 := f184.other W185 (Or.inr (slot_ne (Or.inr (hw _ (List.mem_of_getElem? (i := 15) rfl))) (Or.inr (hw _ (List.mem_of_getElem? (i := 17) rfl))) (by decide) (t := (.array .int)) (t' := .long) (by decide) (by decide)))
  have Z190 : n0 ≤ h185.size := Nat.le_trans Z181 (Keep.of_wr W185).1
  have K191 : Keep h0 h185 [a0] := Keep.wr K182 W185 (Or.inl (List.mem_of_getElem? (i := 0) rfl))
  have N192 := Fr.snoc X185 N183 g_a0
  have f193 : Fld Z h185 a0 "com/example/enact/enact/net/Marking" "total" "J" (.long (((0 : Int64) + (w0.toInt64)) + (w1.toInt64))) := f178.same W185
  obtain ⟨_, _, ⟨T194, L194, k194, n194⟩, -, X194, ⟨Lc194, hQ194, l194, y194, z194⟩, st194⟩ := Jvm.LawKit.callS X185 hx (y := (⟨"java/util/Arrays", "hashCode", "([I)I"⟩ : MethodName)) hown (mvT hZ (hw _ (List.mem_of_getElem? (i := 18) rfl))) (mvT hZ (hw _ (List.mem_of_getElem? (i := 19) rfl))) (mvT hZ (hw _ (List.mem_of_getElem? (i := 20) rfl))) (mvT hZ (hw _ (List.mem_of_getElem? (i := 21) rfl))) (by decide) (backOf (W := 1) (hh2 l Z aw hw [] a1 k1 w0 w1 h185 n0 Z190 f188 kc_a1) hZ (hw _ (List.mem_of_getElem? (i := 21) rfl)) (hw _ (List.mem_of_getElem? (i := 20) rfl)) (by decide) (by decide)) (g := (mkF m 55 #[.val (.ref a0), .val (.ref a1), .val (.long (((0 : Int64) + (w0.toInt64)) + (w1.toInt64))), .second, .val (.ref a1), .val (.int (2 : Int32)), .val (.int (2 : Int32)), .val (.int w1)] [(.ref a1), (.ref a0)])) rfl (by rw [hml]; rfl) (argsL := [(.ref a1)]) (rest := [(.ref a0)]) (lenOf pd_0 rfl) rfl (by show 2 * 0 + _ ≤ _; exact Nat.le_of_eq rfl) (hb hby d2_55) (fun _ _ => ⟨rfl, e185, (by decide : 0 + 0 ≤ _), (by decide : 0 + 0 ≤ _)⟩)
  dsimp only [Pt.U, Pt.locs, Pt.cells, Pt.slots] at X194 l194 y194 z194 st194 hQ194
  subst l194 y194 z194
  obtain ⟨rfl, N194q, e194⟩ := hQ194
  have N194 := Fr.app N192 N194q
  obtain ⟨T195, h195, X195, e195, W195, st195⟩ := putF X194 hx hZ hown (host := "") (Or.inl (hw _ (List.mem_of_getElem? (i := 22) rfl))) Via.refl e194 f187 f186 (Or.inr ⟨(hw _ (List.mem_of_getElem? (i := 23) rfl)), rfl, hnm⟩) (hw _ (List.mem_of_getElem? (i := 6) rfl)) (ty := .int) (by decide) rfl rfl (g := (mkF m 58 #[.val (.ref a0), .val (.ref a1), .val (.long (((0 : Int64) + (w0.toInt64)) + (w1.toInt64))), .second, .val (.ref a1), .val (.int (2 : Int32)), .val (.int (2 : Int32)), .val (.int w1)] [(.int (((31 : Int32) * ((31 : Int32) + w0)) + w1)), (.ref a0)])) rfl rfl (hb hby d2_58)
  have f196 := f186.wr W195
  have f197 := f188.other W195 (Ne.symm ne_a0_a1)
  have f198 := f189.other W195 (Or.inr (slot_ne (Or.inr (hw _ (List.mem_of_getElem? (i := 15) rfl))) (Or.inr (hw _ (List.mem_of_getElem? (i := 23) rfl))) (by decide) (t := (.array .int)) (t' := .int) (by decide) (by decide)))
  have f199 := f193.other W195 (Or.inr (slot_ne (Or.inr (hw _ (List.mem_of_getElem? (i := 17) rfl))) (Or.inr (hw _ (List.mem_of_getElem? (i := 23) rfl))) (by decide) (t := .long) (t' := .int) (by decide) (by decide)))
  have Z200 : n0 ≤ h195.size := Nat.le_trans Z190 (Keep.of_wr W195).1
  have K201 : Keep h0 h195 [a0] := Keep.wr K191 W195 (Or.inl (List.mem_of_getElem? (i := 0) rfl))
  have N202 := Fr.snoc X195 N194 g_a0
  have f203 : Fld Z h195 a0 "com/example/enact/enact/net/Marking" "hash" "I" (.int (((31 : Int32) * ((31 : Int32) + w0)) + w1)) := f187.same W195
  obtain ⟨fs, hr, hrun, hended, hW, hsame⟩ := X195.leave (v := none) (fun _ => rfl)
  refine ⟨_, _, pre0 _ ?_, hrun, hended, _, _, rfl, ?_, ⟨_, rfl⟩, hW, hsame.mono (by decide) (by decide)⟩
  ·
    show Steps p.tables e below (s₁.setTop (mkF m 0 #[.val (.ref a0), .val (.ref a1), .unset, .unset, .unset, .unset, .unset, .unset] [])) _
    refine XS.aloadN X0.here hx rfl (hb hby d2_0) rfl rfl ?_
    show Steps p.tables e below (s₁.setTop (mkF m 1 #[.val (.ref a0), .val (.ref a1), .unset, .unset, .unset, .unset, .unset, .unset] [(.ref a0)])) _
    refine st172 _ ?_
    show Steps p.tables e below (T172.setTop (mkF m 4 #[.val (.ref a0), .val (.ref a1), .unset, .unset, .unset, .unset, .unset, .unset] [])) _
    refine XS.lconst X172.here hx rfl (hb hby d2_4) ?_
    show Steps p.tables e below (T172.setTop (mkF m 5 #[.val (.ref a0), .val (.ref a1), .unset, .unset, .unset, .unset, .unset, .unset] [(.long (0 : Int64))])) _
    refine XS.lstoreN X172.here hx rfl (hb hby d2_5) rfl (l' := #[.val (.ref a0), .val (.ref a1), .val (.long (0 : Int64)), .second, .unset, .unset, .unset, .unset]) rfl ?_
    show Steps p.tables e below (T172.setTop (mkF m 6 #[.val (.ref a0), .val (.ref a1), .val (.long (0 : Int64)), .second, .unset, .unset, .unset, .unset] [])) _
    refine XS.aloadN X172.here hx rfl (hb hby d2_6) rfl rfl ?_
    show Steps p.tables e below (T172.setTop (mkF m 7 #[.val (.ref a0), .val (.ref a1), .val (.long (0 : Int64)), .second, .unset, .unset, .unset, .unset] [(.ref a1)])) _
    refine XS.astore X172.here hx rfl (hb hby d2_7) rfl rfl (l' := #[.val (.ref a0), .val (.ref a1), .val (.long (0 : Int64)), .second, .val (.ref a1), .unset, .unset, .unset]) rfl ?_
    show Steps p.tables e below (T172.setTop (mkF m 9 #[.val (.ref a0), .val (.ref a1), .val (.long (0 : Int64)), .second, .val (.ref a1), .unset, .unset, .unset] [])) _
    refine XS.aload X172.here hx rfl (hb hby d2_9) rfl rfl ?_
    show Steps p.tables e below (T172.setTop (mkF m 11 #[.val (.ref a0), .val (.ref a1), .val (.long (0 : Int64)), .second, .val (.ref a1), .unset, .unset, .unset] [(.ref a1)])) _
    refine X172.arraylength hx (by rw [e172]; exact Ar173.1) (State.isArrayOf_alike hZ.alike Ar173.2.1) (g := (mkF m 11 #[.val (.ref a0), .val (.ref a1), .val (.long (0 : Int64)), .second, .val (.ref a1), .unset, .unset, .unset] [(.ref a1)])) rfl rfl (hb hby d2_11) _ ?_
    rw [len_of S173 N173]
    show Steps p.tables e below (T172.setTop (mkF m 12 #[.val (.ref a0), .val (.ref a1), .val (.long (0 : Int64)), .second, .val (.ref a1), .unset, .unset, .unset] [(.int (2 : Int32))])) _
    refine XS.istore X172.here hx rfl (hb hby d2_12) rfl (l' := #[.val (.ref a0), .val (.ref a1), .val (.long (0 : Int64)), .second, .val (.ref a1), .val (.int (2 : Int32)), .unset, .unset]) rfl ?_
    show Steps p.tables e below (T172.setTop (mkF m 14 #[.val (.ref a0), .val (.ref a1), .val (.long (0 : Int64)), .second, .val (.ref a1), .val (.int (2 : Int32)), .unset, .unset] [])) _
    refine XS.iconst X172.here hx rfl (hb hby d2_14) ?_
    show Steps p.tables e below (T172.setTop (mkF m 15 #[.val (.ref a0), .val (.ref a1), .val (.long (0 : Int64)), .second, .val (.ref a1), .val (.int (2 : Int32)), .unset, .unset] [(.int (0 : Int32))])) _
    refine XS.istore X172.here hx rfl (hb hby d2_15) rfl (l' := #[.val (.ref a0), .val (.ref a1), .val (.long (0 : Int64)), .second, .val (.ref a1), .val (.int (2 : Int32)), .val (.int (0 : Int32)), .unset]) rfl ?_
    show Steps p.tables e below (T172.setTop (mkF m 17 #[.val (.ref a0), .val (.ref a1), .val (.long (0 : Int64)), .second, .val (.ref a1), .val (.int (2 : Int32)), .val (.int (0 : Int32)), .unset] [])) _
    refine XS.iload X172.here hx rfl (hb hby d2_17) rfl ?_
    show Steps p.tables e below (T172.setTop (mkF m 19 #[.val (.ref a0), .val (.ref a1), .val (.long (0 : Int64)), .second, .val (.ref a1), .val (.int (2 : Int32)), .val (.int (0 : Int32)), .unset] [(.int (0 : Int32))])) _
    refine XS.iload X172.here hx rfl (hb hby d2_19) rfl ?_
    show Steps p.tables e below (T172.setTop (mkF m 21 #[.val (.ref a0), .val (.ref a1), .val (.long (0 : Int64)), .second, .val (.ref a1), .val (.int (2 : Int32)), .val (.int (0 : Int32)), .unset] [(.int (2 : Int32)), (.int (0 : Int32))])) _
    refine XS.icmpNo X172.here hx rfl (hb hby d2_21) rfl (tlt (by decide)).2.1 ?_
    show Steps p.tables e below (T172.setTop (mkF m 24 #[.val (.ref a0), .val (.ref a1), .val (.long (0 : Int64)), .second, .val (.ref a1), .val (.int (2 : Int32)), .val (.int (0 : Int32)), .unset] [])) _
    refine XS.aload X172.here hx rfl (hb hby d2_24) rfl rfl ?_
    show Steps p.tables e below (T172.setTop (mkF m 26 #[.val (.ref a0), .val (.ref a1), .val (.long (0 : Int64)), .second, .val (.ref a1), .val (.int (2 : Int32)), .val (.int (0 : Int32)), .unset] [(.ref a1)])) _
    refine XS.iload X172.here hx rfl (hb hby d2_26) rfl ?_
    show Steps p.tables e below (T172.setTop (mkF m 28 #[.val (.ref a0), .val (.ref a1), .val (.long (0 : Int64)), .second, .val (.ref a1), .val (.int (2 : Int32)), .val (.int (0 : Int32)), .unset] [(.int (0 : Int32)), (.ref a1)])) _
    refine X172.iaload hx (j := (0 : Int32)) (v := (.int w0)) (by rw [e172]; exact Ar174.1) (State.isArrayOf_alike hZ.alike Ar174.2.1) Ar174.2.2 hin174 hat174 (g := (mkF m 28 #[.val (.ref a0), .val (.ref a1), .val (.long (0 : Int64)), .second, .val (.ref a1), .val (.int (2 : Int32)), .val (.int (0 : Int32)), .unset] [(.int (0 : Int32)), (.ref a1)])) rfl rfl (hb hby d2_28) _ ?_
    show Steps p.tables e below (T172.setTop (mkF m 29 #[.val (.ref a0), .val (.ref a1), .val (.long (0 : Int64)), .second, .val (.ref a1), .val (.int (2 : Int32)), .val (.int (0 : Int32)), .unset] [(.int w0)])) _
    refine XS.istore X172.here hx rfl (hb hby d2_29) rfl (l' := #[.val (.ref a0), .val (.ref a1), .val (.long (0 : Int64)), .second, .val (.ref a1), .val (.int (2 : Int32)), .val (.int (0 : Int32)), .val (.int w0)]) rfl ?_
    show Steps p.tables e below (T172.setTop (mkF m 31 #[.val (.ref a0), .val (.ref a1), .val (.long (0 : Int64)), .second, .val (.ref a1), .val (.int (2 : Int32)), .val (.int (0 : Int32)), .val (.int w0)] [])) _
    refine XS.lloadN X172.here hx rfl (hb hby d2_31) rfl ?_
    show Steps p.tables e below (T172.setTop (mkF m 32 #[.val (.ref a0), .val (.ref a1), .val (.long (0 : Int64)), .second, .val (.ref a1), .val (.int (2 : Int32)), .val (.int (0 : Int32)), .val (.int w0)] [(.long (0 : Int64))])) _
    refine XS.iload X172.here hx rfl (hb hby d2_32) rfl ?_
    show Steps p.tables e below (T172.setTop (mkF m 34 #[.val (.ref a0), .val (.ref a1), .val (.long (0 : Int64)), .second, .val (.ref a1), .val (.int (2 : Int32)), .val (.int (0 : Int32)), .val (.int w0)] [(.int w0), (.long (0 : Int64))])) _
    refine XS.i2l X172.here hx rfl (hb hby d2_34) rfl ?_
    show Steps p.tables e below (T172.setTop (mkF m 35 #[.val (.ref a0), .val (.ref a1), .val (.long (0 : Int64)), .second, .val (.ref a1), .val (.int (2 : Int32)), .val (.int (0 : Int32)), .val (.int w0)] [(.long (w0.toInt64)), (.long (0 : Int64))])) _
    refine XS.ladd X172.here hx rfl (hb hby d2_35) rfl ?_
    show Steps p.tables e below (T172.setTop (mkF m 36 #[.val (.ref a0), .val (.ref a1), .val (.long (0 : Int64)), .second, .val (.ref a1), .val (.int (2 : Int32)), .val (.int (0 : Int32)), .val (.int w0)] [(.long ((0 : Int64) + (w0.toInt64)))])) _
    refine XS.lstoreN X172.here hx rfl (hb hby d2_36) rfl (l' := #[.val (.ref a0), .val (.ref a1), .val (.long ((0 : Int64) + (w0.toInt64))), .second, .val (.ref a1), .val (.int (2 : Int32)), .val (.int (0 : Int32)), .val (.int w0)]) rfl ?_
    show Steps p.tables e below (T172.setTop (mkF m 37 #[.val (.ref a0), .val (.ref a1), .val (.long ((0 : Int64) + (w0.toInt64))), .second, .val (.ref a1), .val (.int (2 : Int32)), .val (.int (0 : Int32)), .val (.int w0)] [])) _
    refine XS.iinc X172.here hx rfl (hb hby d2_37) rfl (l' := #[.val (.ref a0), .val (.ref a1), .val (.long ((0 : Int64) + (w0.toInt64))), .second, .val (.ref a1), .val (.int (2 : Int32)), .val (.int (1 : Int32)), .val (.int w0)]) rfl ?_
    show Steps p.tables e below (T172.setTop (mkF m 40 #[.val (.ref a0), .val (.ref a1), .val (.long ((0 : Int64) + (w0.toInt64))), .second, .val (.ref a1), .val (.int (2 : Int32)), .val (.int (1 : Int32)), .val (.int w0)] [])) _
    refine XS.goto X172.here hx rfl (pc0 := 40) (pc' := 17) rfl (hb hby d2_40) (by decide) (by decide) ?_
    show Steps p.tables e below (T172.setTop (mkF m 17 #[.val (.ref a0), .val (.ref a1), .val (.long ((0 : Int64) + (w0.toInt64))), .second, .val (.ref a1), .val (.int (2 : Int32)), .val (.int (1 : Int32)), .val (.int w0)] [])) _
    refine XS.iload X172.here hx rfl (hb hby d2_17) rfl ?_
    show Steps p.tables e below (T172.setTop (mkF m 19 #[.val (.ref a0), .val (.ref a1), .val (.long ((0 : Int64) + (w0.toInt64))), .second, .val (.ref a1), .val (.int (2 : Int32)), .val (.int (1 : Int32)), .val (.int w0)] [(.int (1 : Int32))])) _
    refine XS.iload X172.here hx rfl (hb hby d2_19) rfl ?_
    show Steps p.tables e below (T172.setTop (mkF m 21 #[.val (.ref a0), .val (.ref a1), .val (.long ((0 : Int64) + (w0.toInt64))), .second, .val (.ref a1), .val (.int (2 : Int32)), .val (.int (1 : Int32)), .val (.int w0)] [(.int (2 : Int32)), (.int (1 : Int32))])) _
    refine XS.icmpNo X172.here hx rfl (hb hby d2_21) rfl (tlt (by decide)).2.1 ?_
    show Steps p.tables e below (T172.setTop (mkF m 24 #[.val (.ref a0), .val (.ref a1), .val (.long ((0 : Int64) + (w0.toInt64))), .second, .val (.ref a1), .val (.int (2 : Int32)), .val (.int (1 : Int32)), .val (.int w0)] [])) _
    refine XS.aload X172.here hx rfl (hb hby d2_24) rfl rfl ?_
    show Steps p.tables e below (T172.setTop (mkF m 26 #[.val (.ref a0), .val (.ref a1), .val (.long ((0 : Int64) + (w0.toInt64))), .second, .val (.ref a1), .val (.int (2 : Int32)), .val (.int (1 : Int32)), .val (.int w0)] [(.ref a1)])) _
    refine XS.iload X172.here hx rfl (hb hby d2_26) rfl ?_
    show Steps p.tables e below (T172.setTop (mkF m 28 #[.val (.ref a0), .val (.ref a1), .val (.long ((0 : Int64) + (w0.toInt64))), .second, .val (.ref a1), .val (.int (2 : Int32)), .val (.int (1 : Int32)), .val (.int w0)] [(.int (1 : Int32)), (.ref a1)])) _
    refine X172.iaload hx (j := (1 : Int32)) (v := (.int w1)) (by rw [e172]; exact Ar175.1) (State.isArrayOf_alike hZ.alike Ar175.2.1) Ar175.2.2 hin175 hat175 (g := (mkF m 28 #[.val (.ref a0), .val (.ref a1), .val (.long ((0 : Int64) + (w0.toInt64))), .second, .val (.ref a1), .val (.int (2 : Int32)), .val (.int (1 : Int32)), .val (.int w0)] [(.int (1 : Int32)), (.ref a1)])) rfl rfl (hb hby d2_28) _ ?_
    show Steps p.tables e below (T172.setTop (mkF m 29 #[.val (.ref a0), .val (.ref a1), .val (.long ((0 : Int64) + (w0.toInt64))), .second, .val (.ref a1), .val (.int (2 : Int32)), .val (.int (1 : Int32)), .val (.int w0)] [(.int w1)])) _
    refine XS.istore X172.here hx rfl (hb hby d2_29) rfl (l' := #[.val (.ref a0), .val (.ref a1), .val (.long ((0 : Int64) + (w0.toInt64))), .second, .val (.ref a1), .val (.int (2 : Int32)), .val (.int (1 : Int32)), .val (.int w1)]) rfl ?_
    show Steps p.tables e below (T172.setTop (mkF m 31 #[.val (.ref a0), .val (.ref a1), .val (.long ((0 : Int64) + (w0.toInt64))), .second, .val (.ref a1), .val (.int (2 : Int32)), .val (.int (1 : Int32)), .val (.int w1)] [])) _
    refine XS.lloadN X172.here hx rfl (hb hby d2_31) rfl ?_
    show Steps p.tables e below (T172.setTop (mkF m 32 #[.val (.ref a0), .val (.ref a1), .val (.long ((0 : Int64) + (w0.toInt64))), .second, .val (.ref a1), .val (.int (2 : Int32)), .val (.int (1 : Int32)), .val (.int w1)] [(.long ((0 : Int64) + (w0.toInt64)))])) _
    refine XS.iload X172.here hx rfl (hb hby d2_32) rfl ?_
    show Steps p.tables e below (T172.setTop (mkF m 34 #[.val (.ref a0), .val (.ref a1), .val (.long ((0 : Int64) + (w0.toInt64))), .second, .val (.ref a1), .val (.int (2 : Int32)), .val (.int (1 : Int32)), .val (.int w1)] [(.int w1), (.long ((0 : Int64) + (w0.toInt64)))])) _
    refine XS.i2l X172.here hx rfl (hb hby d2_34) rfl ?_
    show Steps p.tables e below (T172.setTop (mkF m 35 #[.val (.ref a0), .val (.ref a1), .val (.long ((0 : Int64) + (w0.toInt64))), .second, .val (.ref a1), .val (.int (2 : Int32)), .val (.int (1 : Int32)), .val (.int w1)] [(.long (w1.toInt64)), (.long ((0 : Int64) + (w0.toInt64)))])) _
    refine XS.ladd X172.here hx rfl (hb hby d2_35) rfl ?_
    show Steps p.tables e below (T172.setTop (mkF m 36 #[.val (.ref a0), .val (.ref a1), .val (.long ((0 : Int64) + (w0.toInt64))), .second, .val (.ref a1), .val (.int (2 : Int32)), .val (.int (1 : Int32)), .val (.int w1)] [(.long (((0 : Int64) + (w0.toInt64)) + (w1.toInt64)))])) _
    refine XS.lstoreN X172.here hx rfl (hb hby d2_36) rfl (l' := #[.val (.ref a0), .val (.ref a1), .val (.long (((0 : Int64) + (w0.toInt64)) + (w1.toInt64))), .second, .val (.ref a1), .val (.int (2 : Int32)), .val (.int (1 : Int32)), .val (.int w1)]) rfl ?_
    show Steps p.tables e below (T172.setTop (mkF m 37 #[.val (.ref a0), .val (.ref a1), .val (.long (((0 : Int64) + (w0.toInt64)) + (w1.toInt64))), .second, .val (.ref a1), .val (.int (2 : Int32)), .val (.int (1 : Int32)), .val (.int w1)] [])) _
    refine XS.iinc X172.here hx rfl (hb hby d2_37) rfl (l' := #[.val (.ref a0), .val (.ref a1), .val (.long (((0 : Int64) + (w0.toInt64)) + (w1.toInt64))), .second, .val (.ref a1), .val (.int (2 : Int32)), .val (.int (2 : Int32)), .val (.int w1)]) rfl ?_
    show Steps p.tables e below (T172.setTop (mkF m 40 #[.val (.ref a0), .val (.ref a1), .val (.long (((0 : Int64) + (w0.toInt64)) + (w1.toInt64))), .second, .val (.ref a1), .val (.int (2 : Int32)), .val (.int (2 : Int32)), .val (.int w1)] [])) _
    refine XS.goto X172.here hx rfl (pc0 := 40) (pc' := 17) rfl (hb hby d2_40) (by decide) (by decide) ?_
    show Steps p.tables e below (T172.setTop (mkF m 17 #[.val (.ref a0), .val (.ref a1), .val (.long (((0 : Int64) + (w0.toInt64)) + (w1.toInt64))), .second, .val (.ref a1), .val (.int (2 : Int32)), .val (.int (2 : Int32)), .val (.int w1)] [])) _
    refine XS.iload X172.here hx rfl (hb hby d2_17) rfl ?_
    show Steps p.tables e below (T172.setTop (mkF m 19 #[.val (.ref a0), .val (.ref a1), .val (.long (((0 : Int64) + (w0.toInt64)) + (w1.toInt64))), .second, .val (.ref a1), .val (.int (2 : Int32)), .val (.int (2 : Int32)), .val (.int w1)] [(.int (2 : Int32))])) _
    refine XS.iload X172.here hx rfl (hb hby d2_19) rfl ?_
    show Steps p.tables e below (T172.setTop (mkF m 21 #[.val (.ref a0), .val (.ref a1), .val (.long (((0 : Int64) + (w0.toInt64)) + (w1.toInt64))), .second, .val (.ref a1), .val (.int (2 : Int32)), .val (.int (2 : Int32)), .val (.int w1)] [(.int (2 : Int32)), (.int (2 : Int32))])) _
    refine XS.icmpYes X172.here hx rfl (pc0 := 21) (pc' := 43) rfl (hb hby d2_21) rfl (flt (by decide)).2.1 (by decide) (by decide) ?_
    show Steps p.tables e below (T172.setTop (mkF m 43 #[.val (.ref a0), .val (.ref a1), .val (.long (((0 : Int64) + (w0.toInt64)) + (w1.toInt64))), .second, .val (.ref a1), .val (.int (2 : Int32)), .val (.int (2 : Int32)), .val (.int w1)] [])) _
    refine XS.aloadN X172.here hx rfl (hb hby d2_43) rfl rfl ?_
    show Steps p.tables e below (T172.setTop (mkF m 44 #[.val (.ref a0), .val (.ref a1), .val (.long (((0 : Int64) + (w0.toInt64)) + (w1.toInt64))), .second, .val (.ref a1), .val (.int (2 : Int32)), .val (.int (2 : Int32)), .val (.int w1)] [(.ref a0)])) _
    refine XS.aloadN X172.here hx rfl (hb hby d2_44) rfl rfl ?_
    show Steps p.tables e below (T172.setTop (mkF m 45 #[.val (.ref a0), .val (.ref a1), .val (.long (((0 : Int64) + (w0.toInt64)) + (w1.toInt64))), .second, .val (.ref a1), .val (.int (2 : Int32)), .val (.int (2 : Int32)), .val (.int w1)] [(.ref a1), (.ref a0)])) _
    refine st176 _ ?_
    show Steps p.tables e below (T176.setTop (mkF m 48 #[.val (.ref a0), .val (.ref a1), .val (.long (((0 : Int64) + (w0.toInt64)) + (w1.toInt64))), .second, .val (.ref a1), .val (.int (2 : Int32)), .val (.int (2 : Int32)), .val (.int w1)] [])) _
    refine XS.aloadN X176.here hx rfl (hb hby d2_48) rfl rfl ?_
    show Steps p.tables e below (T176.setTop (mkF m 49 #[.val (.ref a0), .val (.ref a1), .val (.long (((0 : Int64) + (w0.toInt64)) + (w1.toInt64))), .second, .val (.ref a1), .val (.int (2 : Int32)), .val (.int (2 : Int32)), .val (.int w1)] [(.ref a0)])) _
    refine XS.lloadN X176.here hx rfl (hb hby d2_49) rfl ?_
    show Steps p.tables e below (T176.setTop (mkF m 50 #[.val (.ref a0), .val (.ref a1), .val (.long (((0 : Int64) + (w0.toInt64)) + (w1.toInt64))), .second, .val (.ref a1), .val (.int (2 : Int32)), .val (.int (2 : Int32)), .val (.int w1)] [(.long (((0 : Int64) + (w0.toInt64)) + (w1.toInt64))), (.ref a0)])) _
    refine st185 _ ?_
    show Steps p.tables e below (T185.setTop (mkF m 53 #[.val (.ref a0), .val (.ref a1), .val (.long (((0 : Int64) + (w0.toInt64)) + (w1.toInt64))), .second, .val (.ref a1), .val (.int (2 : Int32)), .val (.int (2 : Int32)), .val (.int w1)] [])) _
    refine XS.aloadN X185.here hx rfl (hb hby d2_53) rfl rfl ?_
    show Steps p.tables e below (T185.setTop (mkF m 54 #[.val (.ref a0), .val (.ref a1), .val (.long (((0 : Int64) + (w0.toInt64)) + (w1.toInt64))), .second, .val (.ref a1), .val (.int (2 : Int32)), .val (.int (2 : Int32)), .val (.int w1)] [(.ref a0)])) _
    refine XS.aloadN X185.here hx rfl (hb hby d2_54) rfl rfl ?_
    show Steps p.tables e below (T185.setTop (mkF m 55 #[.val (.ref a0), .val (.ref a1), .val (.long (((0 : Int64) + (w0.toInt64)) + (w1.toInt64))), .second, .val (.ref a1), .val (.int (2 : Int32)), .val (.int (2 : Int32)), .val (.int w1)] [(.ref a1), (.ref a0)])) _
    refine st194 _ ?_
    show Steps p.tables e below (T194.setTop (mkF m 58 #[.val (.ref a0), .val (.ref a1), .val (.long (((0 : Int64) + (w0.toInt64)) + (w1.toInt64))), .second, .val (.ref a1), .val (.int (2 : Int32)), .val (.int (2 : Int32)), .val (.int w1)] [(.int (((31 : Int32) * ((31 : Int32) + w0)) + w1)), (.ref a0)])) _
    refine st195 _ ?_
    show Steps p.tables e below (T195.setTop (mkF m 61 #[.val (.ref a0), .val (.ref a1), .val (.long (((0 : Int64) + (w0.toInt64)) + (w1.toInt64))), .second, .val (.ref a1), .val (.int (2 : Int32)), .val (.int (2 : Int32)), .val (.int w1)] [])) _
    exact X195.returnOut hx Bd.returns (hb hby d2_61) hr
  ·
    show Q_ct2 Z a0 a1 k1 w0 w1 h0 n0 _ T195.heap _
    rw [e195]
    exact ⟨rfl, N202, K201, f196, f198⟩
theorem ef_ha3 (m : MethodId) (a1 : Addr) : entryFrame m #[(.int (1 : Int32)), (.ref a1), (.int (0 : Int32)), (.int (3 : Int32))] 6 = mkF m 0 #[.val (.int (1 : Int32)), .val (.ref a1), .val (.int (0 : Int32)), .val (.int (3 : Int32)), .unset, .unset] [] := by first | (simp [entryFrame, mkF, argsToLocals, Value.category]; done) | rfl
def Q_ha3 (Z : State) (a1 : Addr) (k1 : ClassId) (w0 : Int32) (w1 : Int32) (w2 : Int32) (h0 : Heap) (n0 : Nat) (v : Option Value) (h : Heap) (L : List Loc) : Prop := v = some (.int (((31 : Int32) * (((31 : Int32) * ((31 : Int32) + w0)) + w1)) + w2)) ∧ Fr n0 L ∧ h = h0
set_option maxRecDepth 65536 in
set_option maxHeartbeats 40000000 in
theorem ha3 (l : Launch) (Z : State) (aw : Array Value) (hw : ∀ d ∈ tables_1, d.before aw Z = true) (ws : List Jvm.Cond) (a1 : Addr) (k1 : ClassId) (w0 : Int32) (w1 : Int32) (w2 : Int32) (h0 : Heap) (n0 : Nat) (Z0 : n0 ≤ h0.size) (V_a1 : Arv Z h0 a1 k1 .int (3 : Int32) [(.int w0), (.int w1), (.int w2)] (.int (0 : Int32))) :
    MetFree l (⟨"jdk/internal/util/ArraysSupport", "hashCode", "(I[III)I"⟩ : MethodName) (head1 (Jvm.Cond.code (⟨"jdk/internal/util/ArraysSupport", "hashCode", "(I[III)I"⟩ : MethodName) jdk_48_method_9_code 6 (some .int) :: ws) ({ frames := 0, cells := 0, slots := 0, locals := 0 } : Room)) (fun a U => a = #[(.int (1 : Int32)), (.ref a1), (.int (0 : Int32)), (.int (3 : Int32))] ∧ Z.Warmed39 U.vm ∧ U.heap = h0) (fun _ _ _ _ _ => True) (fun _ U o U' => ∃ v L, o = .returned v ∧ Q_ha3 Z a1 k1 w0 w1 w2 h0 n0 v U'.heap L ∧ FrameEnd U o U' L ({ frames := 0, cells := 0, slots := 0, locals := 0 } : Room).cells ({ frames := 0, cells := 0, slots := 0, locals := 0 } : Room).slots) := by
  refine MetFree.of_bodySF (plainFor_of_name pn_2) hisR ?_
  intro p e s m args below meth c s₁ Bd hml0 hP hK
  obtain ⟨rfl, hZ, hh⟩ := hP
  have hx := Bd.exec
  have hby := Bd.bytes
  have hml : c.maxLocals = 6 := hml0
  have hown : s.vm.findClass "jdk/internal/util/ArraysSupport" = some m.cls := findClass_of_methodNamed Bd.named
  have hnm := (name_of_methodNamed Bd.named Bd.method).1
  have X0 : Stand p l e ({ frames := 0, cells := 0, slots := 0, locals := 0 } : Room) s m #[(.int (1 : Int32)), (.ref a1), (.int (0 : Int32)), (.int (3 : Int32))] below meth c s₁ [] 0 0 := Stand.of_body Bd
  have e0 : s₁.heap = h0 := by rw [← hh, Bd.state]; rfl
  have N0 := Fr.nil n0
  have pre0 : ∀ t, Steps p.tables e below (s₁.setTop (mkF m 0 #[.val (.int (1 : Int32)), .val (.ref a1), .val (.int (0 : Int32)), .val (.int (3 : Int32)), .unset, .unset] [])) t → Steps p.tables e below (s₁.setTop (entryFrame m #[(.int (1 : Int32)), (.ref a1), (.int (0 : Int32)), (.int (3 : Int32))] 6)) t := fun t k => castTop (ef_ha3 m a1) k
  obtain ⟨cl204, Ar204, q204, S204, N204, H204, G204⟩ := id V_a1
  have hin204 : ¬ ((0 : Int32) < 0 ∨ cl204.slots.size ≤ ((0 : Int32)).toNatClampNeg) := inb_of S204 ⟨by decide, by decide⟩
  have hat204 : cl204.slots[((0 : Int32)).toNatClampNeg]? = some (.int w0) := Has.at H204 hin204 rfl
  obtain ⟨cl205, Ar205, q205, S205, N205, H205, G205⟩ := id V_a1
  have hin205 : ¬ ((1 : Int32) < 0 ∨ cl205.slots.size ≤ ((1 : Int32)).toNatClampNeg) := inb_of S205 ⟨by decide, by decide⟩
  have hat205 : cl205.slots[((1 : Int32)).toNatClampNeg]? = some (.int w1) := Has.at H205 hin205 rfl
  obtain ⟨cl206, Ar206, q206, S206, N206, H206, G206⟩ := id V_a1
  have hin206 : ¬ ((2 : Int32) < 0 ∨ cl206.slots.size ≤ ((2 : Int32)).toNatClampNeg) := inb_of S206 ⟨by decide, by decide⟩
  have hat206 : cl206.slots[((2 : Int32)).toNatClampNeg]? = some (.int w2) := Has.at H206 hin206 rfl
  obtain ⟨fs, hr, hrun, hended, hW, hsame⟩ := X0.leave (v := some (.int (((31 : Int32) * (((31 : Int32) * ((31 : Int32) + w0)) + w1)) + w2))) (fun h => by rw [Bd.returns] at h; cases h)
  refine ⟨_, _, pre0 _ ?_, hrun, hended, _, _, rfl, ?_, ⟨_, rfl⟩, hW, hsame.mono (by decide) (by decide)⟩
  ·
    show Steps p.tables e below (s₁.setTop (mkF m 0 #[.val (.int (1 : Int32)), .val (.ref a1), .val (.int (0 : Int32)), .val (.int (3 : Int32)), .unset, .unset] [])) _
    refine XS.iloadN X0.here hx rfl (hb hby d7_0) rfl ?_
    show Steps p.tables e below (s₁.setTop (mkF m 1 #[.val (.int (1 : Int32)), .val (.ref a1), .val (.int (0 : Int32)), .val (.int (3 : Int32)), .unset, .unset] [(.int (0 : Int32))])) _
    refine XS.iloadN X0.here hx rfl (hb hby d7_1) rfl ?_
    show Steps p.tables e below (s₁.setTop (mkF m 2 #[.val (.int (1 : Int32)), .val (.ref a1), .val (.int (0 : Int32)), .val (.int (3 : Int32)), .unset, .unset] [(.int (3 : Int32)), (.int (0 : Int32))])) _
    refine XS.iadd X0.here hx rfl (hb hby d7_2) rfl ?_
    show Steps p.tables e below (s₁.setTop (mkF m 3 #[.val (.int (1 : Int32)), .val (.ref a1), .val (.int (0 : Int32)), .val (.int (3 : Int32)), .unset, .unset] [(.int (3 : Int32))])) _
    refine XS.istore X0.here hx rfl (hb hby d7_3) rfl (l' := #[.val (.int (1 : Int32)), .val (.ref a1), .val (.int (0 : Int32)), .val (.int (3 : Int32)), .val (.int (3 : Int32)), .unset]) rfl ?_
    show Steps p.tables e below (s₁.setTop (mkF m 5 #[.val (.int (1 : Int32)), .val (.ref a1), .val (.int (0 : Int32)), .val (.int (3 : Int32)), .val (.int (3 : Int32)), .unset] [])) _
    refine XS.iloadN X0.here hx rfl (hb hby d7_5) rfl ?_
    show Steps p.tables e below (s₁.setTop (mkF m 6 #[.val (.int (1 : Int32)), .val (.ref a1), .val (.int (0 : Int32)), .val (.int (3 : Int32)), .val (.int (3 : Int32)), .unset] [(.int (0 : Int32))])) _
    refine XS.istore X0.here hx rfl (hb hby d7_6) rfl (l' := #[.val (.int (1 : Int32)), .val (.ref a1), .val (.int (0 : Int32)), .val (.int (3 : Int32)), .val (.int (3 : Int32)), .val (.int (0 : Int32))]) rfl ?_
    show Steps p.tables e below (s₁.setTop (mkF m 8 #[.val (.int (1 : Int32)), .val (.ref a1), .val (.int (0 : Int32)), .val (.int (3 : Int32)), .val (.int (3 : Int32)), .val (.int (0 : Int32))] [])) _
    refine XS.iload X0.here hx rfl (hb hby d7_8) rfl ?_
    show Steps p.tables e below (s₁.setTop (mkF m 10 #[.val (.int (1 : Int32)), .val (.ref a1), .val (.int (0 : Int32)), .val (.int (3 : Int32)), .val (.int (3 : Int32)), .val (.int (0 : Int32))] [(.int (0 : Int32))])) _
    refine XS.iload X0.here hx rfl (hb hby d7_10) rfl ?_
    show Steps p.tables e below (s₁.setTop (mkF m 12 #[.val (.int (1 : Int32)), .val (.ref a1), .val (.int (0 : Int32)), .val (.int (3 : Int32)), .val (.int (3 : Int32)), .val (.int (0 : Int32))] [(.int (3 : Int32)), (.int (0 : Int32))])) _
    refine XS.icmpNo X0.here hx rfl (hb hby d7_12) rfl (tlt (by decide)).2.1 ?_
    show Steps p.tables e below (s₁.setTop (mkF m 15 #[.val (.int (1 : Int32)), .val (.ref a1), .val (.int (0 : Int32)), .val (.int (3 : Int32)), .val (.int (3 : Int32)), .val (.int (0 : Int32))] [])) _
    refine XS.bipush X0.here hx rfl (hb hby d7_15) ?_
    show Steps p.tables e below (s₁.setTop (mkF m 17 #[.val (.int (1 : Int32)), .val (.ref a1), .val (.int (0 : Int32)), .val (.int (3 : Int32)), .val (.int (3 : Int32)), .val (.int (0 : Int32))] [(.int (31 : Int32))])) _
    refine XS.iloadN X0.here hx rfl (hb hby d7_17) rfl ?_
    show Steps p.tables e below (s₁.setTop (mkF m 18 #[.val (.int (1 : Int32)), .val (.ref a1), .val (.int (0 : Int32)), .val (.int (3 : Int32)), .val (.int (3 : Int32)), .val (.int (0 : Int32))] [(.int (1 : Int32)), (.int (31 : Int32))])) _
    refine XS.imul X0.here hx rfl (hb hby d7_18) rfl ?_
    show Steps p.tables e below (s₁.setTop (mkF m 19 #[.val (.int (1 : Int32)), .val (.ref a1), .val (.int (0 : Int32)), .val (.int (3 : Int32)), .val (.int (3 : Int32)), .val (.int (0 : Int32))] [(.int (31 : Int32))])) _
    refine XS.aloadN X0.here hx rfl (hb hby d7_19) rfl rfl ?_
    show Steps p.tables e below (s₁.setTop (mkF m 20 #[.val (.int (1 : Int32)), .val (.ref a1), .val (.int (0 : Int32)), .val (.int (3 : Int32)), .val (.int (3 : Int32)), .val (.int (0 : Int32))] [(.ref a1), (.int (31 : Int32))])) _
    refine XS.iload X0.here hx rfl (hb hby d7_20) rfl ?_
    show Steps p.tables e below (s₁.setTop (mkF m 22 #[.val (.int (1 : Int32)), .val (.ref a1), .val (.int (0 : Int32)), .val (.int (3 : Int32)), .val (.int (3 : Int32)), .val (.int (0 : Int32))] [(.int (0 : Int32)), (.ref a1), (.int (31 : Int32))])) _
    refine X0.iaload hx (j := (0 : Int32)) (v := (.int w0)) (by rw [e0]; exact Ar204.1) (State.isArrayOf_alike hZ.alike Ar204.2.1) Ar204.2.2 hin204 hat204 (g := (mkF m 22 #[.val (.int (1 : Int32)), .val (.ref a1), .val (.int (0 : Int32)), .val (.int (3 : Int32)), .val (.int (3 : Int32)), .val (.int (0 : Int32))] [(.int (0 : Int32)), (.ref a1), (.int (31 : Int32))])) rfl rfl (hb hby d7_22) _ ?_
    show Steps p.tables e below (s₁.setTop (mkF m 23 #[.val (.int (1 : Int32)), .val (.ref a1), .val (.int (0 : Int32)), .val (.int (3 : Int32)), .val (.int (3 : Int32)), .val (.int (0 : Int32))] [(.int w0), (.int (31 : Int32))])) _
    refine XS.iadd X0.here hx rfl (hb hby d7_23) rfl ?_
    show Steps p.tables e below (s₁.setTop (mkF m 24 #[.val (.int (1 : Int32)), .val (.ref a1), .val (.int (0 : Int32)), .val (.int (3 : Int32)), .val (.int (3 : Int32)), .val (.int (0 : Int32))] [(.int ((31 : Int32) + w0))])) _
    refine XS.istoreN X0.here hx rfl (hb hby d7_24) rfl (l' := #[.val (.int ((31 : Int32) + w0)), .val (.ref a1), .val (.int (0 : Int32)), .val (.int (3 : Int32)), .val (.int (3 : Int32)), .val (.int (0 : Int32))]) rfl ?_
    show Steps p.tables e below (s₁.setTop (mkF m 25 #[.val (.int ((31 : Int32) + w0)), .val (.ref a1), .val (.int (0 : Int32)), .val (.int (3 : Int32)), .val (.int (3 : Int32)), .val (.int (0 : Int32))] [])) _
    refine XS.iinc X0.here hx rfl (hb hby d7_25) rfl (l' := #[.val (.int ((31 : Int32) + w0)), .val (.ref a1), .val (.int (0 : Int32)), .val (.int (3 : Int32)), .val (.int (3 : Int32)), .val (.int (1 : Int32))]) rfl ?_
    show Steps p.tables e below (s₁.setTop (mkF m 28 #[.val (.int ((31 : Int32) + w0)), .val (.ref a1), .val (.int (0 : Int32)), .val (.int (3 : Int32)), .val (.int (3 : Int32)), .val (.int (1 : Int32))] [])) _
    refine XS.goto X0.here hx rfl (pc0 := 28) (pc' := 8) rfl (hb hby d7_28) (by decide) (by decide) ?_
    show Steps p.tables e below (s₁.setTop (mkF m 8 #[.val (.int ((31 : Int32) + w0)), .val (.ref a1), .val (.int (0 : Int32)), .val (.int (3 : Int32)), .val (.int (3 : Int32)), .val (.int (1 : Int32))] [])) _
    refine XS.iload X0.here hx rfl (hb hby d7_8) rfl ?_
    show Steps p.tables e below (s₁.setTop (mkF m 10 #[.val (.int ((31 : Int32) + w0)), .val (.ref a1), .val (.int (0 : Int32)), .val (.int (3 : Int32)), .val (.int (3 : Int32)), .val (.int (1 : Int32))] [(.int (1 : Int32))])) _
    refine XS.iload X0.here hx rfl (hb hby d7_10) rfl ?_
    show Steps p.tables e below (s₁.setTop (mkF m 12 #[.val (.int ((31 : Int32) + w0)), .val (.ref a1), .val (.int (0 : Int32)), .val (.int (3 : Int32)), .val (.int (3 : Int32)), .val (.int (1 : Int32))] [(.int (3 : Int32)), (.int (1 : Int32))])) _
    refine XS.icmpNo X0.here hx rfl (hb hby d7_12) rfl (tlt (by decide)).2.1 ?_
    show Steps p.tables e below (s₁.setTop (mkF m 15 #[.val (.int ((31 : Int32) + w0)), .val (.ref a1), .val (.int (0 : Int32)), .val (.int (3 : Int32)), .val (.int (3 : Int32)), .val (.int (1 : Int32))] [])) _
    refine XS.bipush X0.here hx rfl (hb hby d7_15) ?_
    show Steps p.tables e below (s₁.setTop (mkF m 17 #[.val (.int ((31 : Int32) + w0)), .val (.ref a1), .val (.int (0 : Int32)), .val (.int (3 : Int32)), .val (.int (3 : Int32)), .val (.int (1 : Int32))] [(.int (31 : Int32))])) _
    refine XS.iloadN X0.here hx rfl (hb hby d7_17) rfl ?_
    show Steps p.tables e below (s₁.setTop (mkF m 18 #[.val (.int ((31 : Int32) + w0)), .val (.ref a1), .val (.int (0 : Int32)), .val (.int (3 : Int32)), .val (.int (3 : Int32)), .val (.int (1 : Int32))] [(.int ((31 : Int32) + w0)), (.int (31 : Int32))])) _
    refine XS.imul X0.here hx rfl (hb hby d7_18) rfl ?_
    show Steps p.tables e below (s₁.setTop (mkF m 19 #[.val (.int ((31 : Int32) + w0)), .val (.ref a1), .val (.int (0 : Int32)), .val (.int (3 : Int32)), .val (.int (3 : Int32)), .val (.int (1 : Int32))] [(.int ((31 : Int32) * ((31 : Int32) + w0)))])) _
    refine XS.aloadN X0.here hx rfl (hb hby d7_19) rfl rfl ?_
    show Steps p.tables e below (s₁.setTop (mkF m 20 #[.val (.int ((31 : Int32) + w0)), .val (.ref a1), .val (.int (0 : Int32)), .val (.int (3 : Int32)), .val (.int (3 : Int32)), .val (.int (1 : Int32))] [(.ref a1), (.int ((31 : Int32) * ((31 : Int32) + w0)))])) _
    refine XS.iload X0.here hx rfl (hb hby d7_20) rfl ?_
    show Steps p.tables e below (s₁.setTop (mkF m 22 #[.val (.int ((31 : Int32) + w0)), .val (.ref a1), .val (.int (0 : Int32)), .val (.int (3 : Int32)), .val (.int (3 : Int32)), .val (.int (1 : Int32))] [(.int (1 : Int32)), (.ref a1), (.int ((31 : Int32) * ((31 : Int32) + w0)))])) _
    refine X0.iaload hx (j := (1 : Int32)) (v := (.int w1)) (by rw [e0]; exact Ar205.1) (State.isArrayOf_alike hZ.alike Ar205.2.1) Ar205.2.2 hin205 hat205 (g := (mkF m 22 #[.val (.int ((31 : Int32) + w0)), .val (.ref a1), .val (.int (0 : Int32)), .val (.int (3 : Int32)), .val (.int (3 : Int32)), .val (.int (1 : Int32))] [(.int (1 : Int32)), (.ref a1), (.int ((31 : Int32) * ((31 : Int32) + w0)))])) rfl rfl (hb hby d7_22) _ ?_
    show Steps p.tables e below (s₁.setTop (mkF m 23 #[.val (.int ((31 : Int32) + w0)), .val (.ref a1), .val (.int (0 : Int32)), .val (.int (3 : Int32)), .val (.int (3 : Int32)), .val (.int (1 : Int32))] [(.int w1), (.int ((31 : Int32) * ((31 : Int32) + w0)))])) _
    refine XS.iadd X0.here hx rfl (hb hby d7_23) rfl ?_
    show Steps p.tables e below (s₁.setTop (mkF m 24 #[.val (.int ((31 : Int32) + w0)), .val (.ref a1), .val (.int (0 : Int32)), .val (.int (3 : Int32)), .val (.int (3 : Int32)), .val (.int (1 : Int32))] [(.int (((31 : Int32) * ((31 : Int32) + w0)) + w1))])) _
    refine XS.istoreN X0.here hx rfl (hb hby d7_24) rfl (l' := #[.val (.int (((31 : Int32) * ((31 : Int32) + w0)) + w1)), .val (.ref a1), .val (.int (0 : Int32)), .val (.int (3 : Int32)), .val (.int (3 : Int32)), .val (.int (1 : Int32))]) rfl ?_
    show Steps p.tables e below (s₁.setTop (mkF m 25 #[.val (.int (((31 : Int32) * ((31 : Int32) + w0)) + w1)), .val (.ref a1), .val (.int (0 : Int32)), .val (.int (3 : Int32)), .val (.int (3 : Int32)), .val (.int (1 : Int32))] [])) _
    refine XS.iinc X0.here hx rfl (hb hby d7_25) rfl (l' := #[.val (.int (((31 : Int32) * ((31 : Int32) + w0)) + w1)), .val (.ref a1), .val (.int (0 : Int32)), .val (.int (3 : Int32)), .val (.int (3 : Int32)), .val (.int (2 : Int32))]) rfl ?_
    show Steps p.tables e below (s₁.setTop (mkF m 28 #[.val (.int (((31 : Int32) * ((31 : Int32) + w0)) + w1)), .val (.ref a1), .val (.int (0 : Int32)), .val (.int (3 : Int32)), .val (.int (3 : Int32)), .val (.int (2 : Int32))] [])) _
    refine XS.goto X0.here hx rfl (pc0 := 28) (pc' := 8) rfl (hb hby d7_28) (by decide) (by decide) ?_
    show Steps p.tables e below (s₁.setTop (mkF m 8 #[.val (.int (((31 : Int32) * ((31 : Int32) + w0)) + w1)), .val (.ref a1), .val (.int (0 : Int32)), .val (.int (3 : Int32)), .val (.int (3 : Int32)), .val (.int (2 : Int32))] [])) _
    refine XS.iload X0.here hx rfl (hb hby d7_8) rfl ?_
    show Steps p.tables e below (s₁.setTop (mkF m 10 #[.val (.int (((31 : Int32) * ((31 : Int32) + w0)) + w1)), .val (.ref a1), .val (.int (0 : Int32)), .val (.int (3 : Int32)), .val (.int (3 : Int32)), .val (.int (2 : Int32))] [(.int (2 : Int32))])) _
    refine XS.iload X0.here hx rfl (hb hby d7_10) rfl ?_
    show Steps p.tables e below (s₁.setTop (mkF m 12 #[.val (.int (((31 : Int32) * ((31 : Int32) + w0)) + w1)), .val (.ref a1), .val (.int (0 : Int32)), .val (.int (3 : Int32)), .val (.int (3 : Int32)), .val (.int (2 : Int32))] [(.int (3 : Int32)), (.int (2 : Int32))])) _
    refine XS.icmpNo X0.here hx rfl (hb hby d7_12) rfl (tlt (by decide)).2.1 ?_
    show Steps p.tables e below (s₁.setTop (mkF m 15 #[.val (.int (((31 : Int32) * ((31 : Int32) + w0)) + w1)), .val (.ref a1), .val (.int (0 : Int32)), .val (.int (3 : Int32)), .val (.int (3 : Int32)), .val (.int (2 : Int32))] [])) _
    refine XS.bipush X0.here hx rfl (hb hby d7_15) ?_
    show Steps p.tables e below (s₁.setTop (mkF m 17 #[.val (.int (((31 : Int32) * ((31 : Int32) + w0)) + w1)), .val (.ref a1), .val (.int (0 : Int32)), .val (.int (3 : Int32)), .val (.int (3 : Int32)), .val (.int (2 : Int32))] [(.int (31 : Int32))])) _
    refine XS.iloadN X0.here hx rfl (hb hby d7_17) rfl ?_
    show Steps p.tables e below (s₁.setTop (mkF m 18 #[.val (.int (((31 : Int32) * ((31 : Int32) + w0)) + w1)), .val (.ref a1), .val (.int (0 : Int32)), .val (.int (3 : Int32)), .val (.int (3 : Int32)), .val (.int (2 : Int32))] [(.int (((31 : Int32) * ((31 : Int32) + w0)) + w1)), (.int (31 : Int32))])) _
    refine XS.imul X0.here hx rfl (hb hby d7_18) rfl ?_
    show Steps p.tables e below (s₁.setTop (mkF m 19 #[.val (.int (((31 : Int32) * ((31 : Int32) + w0)) + w1)), .val (.ref a1), .val (.int (0 : Int32)), .val (.int (3 : Int32)), .val (.int (3 : Int32)), .val (.int (2 : Int32))] [(.int ((31 : Int32) * (((31 : Int32) * ((31 : Int32) + w0)) + w1)))])) _
    refine XS.aloadN X0.here hx rfl (hb hby d7_19) rfl rfl ?_
    show Steps p.tables e below (s₁.setTop (mkF m 20 #[.val (.int (((31 : Int32) * ((31 : Int32) + w0)) + w1)), .val (.ref a1), .val (.int (0 : Int32)), .val (.int (3 : Int32)), .val (.int (3 : Int32)), .val (.int (2 : Int32))] [(.ref a1), (.int ((31 : Int32) * (((31 : Int32) * ((31 : Int32) + w0)) + w1)))])) _
    refine XS.iload X0.here hx rfl (hb hby d7_20) rfl ?_
    show Steps p.tables e below (s₁.setTop (mkF m 22 #[.val (.int (((31 : Int32) * ((31 : Int32) + w0)) + w1)), .val (.ref a1), .val (.int (0 : Int32)), .val (.int (3 : Int32)), .val (.int (3 : Int32)), .val (.int (2 : Int32))] [(.int (2 : Int32)), (.ref a1), (.int ((31 : Int32) * (((31 : Int32) * ((31 : Int32) + w0)) + w1)))])) _
    refine X0.iaload hx (j := (2 : Int32)) (v := (.int w2)) (by rw [e0]; exact Ar206.1) (State.isArrayOf_alike hZ.alike Ar206.2.1) Ar206.2.2 hin206 hat206 (g := (mkF m 22 #[.val (.int (((31 : Int32) * ((31 : Int32) + w0)) + w1)), .val (.ref a1), .val (.int (0 : Int32)), .val (.int (3 : Int32)), .val (.int (3 : Int32)), .val (.int (2 : Int32))] [(.int (2 : Int32)), (.ref a1), (.int ((31 : Int32) * (((31 : Int32) * ((31 : Int32) + w0)) + w1)))])) rfl rfl (hb hby d7_22) _ ?_
    show Steps p.tables e below (s₁.setTop (mkF m 23 #[.val (.int (((31 : Int32) * ((31 : Int32) + w0)) + w1)), .val (.ref a1), .val (.int (0 : Int32)), .val (.int (3 : Int32)), .val (.int (3 : Int32)), .val (.int (2 : Int32))] [(.int w2), (.int ((31 : Int32) * (((31 : Int32) * ((31 : Int32) + w0)) + w1)))])) _
    refine XS.iadd X0.here hx rfl (hb hby d7_23) rfl ?_
    show Steps p.tables e below (s₁.setTop (mkF m 24 #[.val (.int (((31 : Int32) * ((31 : Int32) + w0)) + w1)), .val (.ref a1), .val (.int (0 : Int32)), .val (.int (3 : Int32)), .val (.int (3 : Int32)), .val (.int (2 : Int32))] [(.int (((31 : Int32) * (((31 : Int32) * ((31 : Int32) + w0)) + w1)) + w2))])) _
    refine XS.istoreN X0.here hx rfl (hb hby d7_24) rfl (l' := #[.val (.int (((31 : Int32) * (((31 : Int32) * ((31 : Int32) + w0)) + w1)) + w2)), .val (.ref a1), .val (.int (0 : Int32)), .val (.int (3 : Int32)), .val (.int (3 : Int32)), .val (.int (2 : Int32))]) rfl ?_
    show Steps p.tables e below (s₁.setTop (mkF m 25 #[.val (.int (((31 : Int32) * (((31 : Int32) * ((31 : Int32) + w0)) + w1)) + w2)), .val (.ref a1), .val (.int (0 : Int32)), .val (.int (3 : Int32)), .val (.int (3 : Int32)), .val (.int (2 : Int32))] [])) _
    refine XS.iinc X0.here hx rfl (hb hby d7_25) rfl (l' := #[.val (.int (((31 : Int32) * (((31 : Int32) * ((31 : Int32) + w0)) + w1)) + w2)), .val (.ref a1), .val (.int (0 : Int32)), .val (.int (3 : Int32)), .val (.int (3 : Int32)), .val (.int (3 : Int32))]) rfl ?_
    show Steps p.tables e below (s₁.setTop (mkF m 28 #[.val (.int (((31 : Int32) * (((31 : Int32) * ((31 : Int32) + w0)) + w1)) + w2)), .val (.ref a1), .val (.int (0 : Int32)), .val (.int (3 : Int32)), .val (.int (3 : Int32)), .val (.int (3 : Int32))] [])) _
    refine XS.goto X0.here hx rfl (pc0 := 28) (pc' := 8) rfl (hb hby d7_28) (by decide) (by decide) ?_
    show Steps p.tables e below (s₁.setTop (mkF m 8 #[.val (.int (((31 : Int32) * (((31 : Int32) * ((31 : Int32) + w0)) + w1)) + w2)), .val (.ref a1), .val (.int (0 : Int32)), .val (.int (3 : Int32)), .val (.int (3 : Int32)), .val (.int (3 : Int32))] [])) _
    refine XS.iload X0.here hx rfl (hb hby d7_8) rfl ?_
    show Steps p.tables e below (s₁.setTop (mkF m 10 #[.val (.int (((31 : Int32) * (((31 : Int32) * ((31 : Int32) + w0)) + w1)) + w2)), .val (.ref a1), .val (.int (0 : Int32)), .val (.int (3 : Int32)), .val (.int (3 : Int32)), .val (.int (3 : Int32))] [(.int (3 : Int32))])) _
    refine XS.iload X0.here hx rfl (hb hby d7_10) rfl ?_
    show Steps p.tables e below (s₁.setTop (mkF m 12 #[.val (.int (((31 : Int32) * (((31 : Int32) * ((31 : Int32) + w0)) + w1)) + w2)), .val (.ref a1), .val (.int (0 : Int32)), .val (.int (3 : Int32)), .val (.int (3 : Int32)), .val (.int (3 : Int32))] [(.int (3 : Int32)), (.int (3 : Int32))])) _
    refine XS.icmpYes X0.here hx rfl (pc0 := 12) (pc' := 31) rfl (hb hby d7_12) rfl (flt (by decide)).2.1 (by decide) (by decide) ?_
    show Steps p.tables e below (s₁.setTop (mkF m 31 #[.val (.int (((31 : Int32) * (((31 : Int32) * ((31 : Int32) + w0)) + w1)) + w2)), .val (.ref a1), .val (.int (0 : Int32)), .val (.int (3 : Int32)), .val (.int (3 : Int32)), .val (.int (3 : Int32))] [])) _
    refine XS.iloadN X0.here hx rfl (hb hby d7_31) rfl ?_
    show Steps p.tables e below (s₁.setTop (mkF m 32 #[.val (.int (((31 : Int32) * (((31 : Int32) * ((31 : Int32) + w0)) + w1)) + w2)), .val (.ref a1), .val (.int (0 : Int32)), .val (.int (3 : Int32)), .val (.int (3 : Int32)), .val (.int (3 : Int32))] [(.int (((31 : Int32) * (((31 : Int32) * ((31 : Int32) + w0)) + w1)) + w2))])) _
    exact retI X0 hx Bd.returns (hb hby d7_32) hr
  ·
    show Q_ha3 Z a1 k1 w0 w1 w2 h0 n0 _ s₁.heap _
    rw [e0]
    exact ⟨rfl, N0, rfl⟩
theorem ef_hv3 (m : MethodId) (a0 : Addr) : entryFrame m #[(.ref a0), (.int (0 : Int32)), (.int (3 : Int32)), (.int (1 : Int32)), (.int (10 : Int32))] 5 = mkF m 0 #[.val (.ref a0), .val (.int (0 : Int32)), .val (.int (3 : Int32)), .val (.int (1 : Int32)), .val (.int (10 : Int32))] [] := by first | (simp [entryFrame, mkF, argsToLocals, Value.category]; done) | rfl
def Q_hv3 (Z : State) (a0 : Addr) (k1 : ClassId) (w0 : Int32) (w1 : Int32) (w2 : Int32) (h0 : Heap) (n0 : Nat) (v : Option Value) (h : Heap) (L : List Loc) : Prop := v = some (.int (((31 : Int32) * (((31 : Int32) * ((31 : Int32) + w0)) + w1)) + w2)) ∧ Fr n0 L ∧ h = h0
set_option maxRecDepth 65536 in
set_option maxHeartbeats 40000000 in
theorem hv3 (l : Launch) (Z : State) (aw : Array Value) (hw : ∀ d ∈ tables_1, d.before aw Z = true) (ws : List Jvm.Cond) (a0 : Addr) (k1 : ClassId) (w0 : Int32) (w1 : Int32) (w2 : Int32) (h0 : Heap) (n0 : Nat) (Z0 : n0 ≤ h0.size) (V_a0 : Arv Z h0 a0 k1 .int (3 : Int32) [(.int w0), (.int w1), (.int w2)] (.int (0 : Int32))) (kc_a0 : Z.vm.findClass "[I" = some k1) :
    MetFree l (⟨"jdk/internal/util/ArraysSupport", "vectorizedHashCode", "(Ljava/lang/Object;IIII)I"⟩ : MethodName) (head1 (Jvm.Cond.code (⟨"jdk/internal/util/ArraysSupport", "vectorizedHashCode", "(Ljava/lang/Object;IIII)I"⟩ : MethodName) jdk_48_method_4_code 5 (some .int) :: ws) ({ frames := 1, cells := 0, slots := 0, locals := 17 } : Room)) (fun a U => a = #[(.ref a0), (.int (0 : Int32)), (.int (3 : Int32)), (.int (1 : Int32)), (.int (10 : Int32))] ∧ Z.Warmed39 U.vm ∧ U.heap = h0) (fun _ _ _ _ _ => True) (fun _ U o U' => ∃ v L, o = .returned v ∧ Q_hv3 Z a0 k1 w0 w1 w2 h0 n0 v U'.heap L ∧ FrameEnd U o U' L ({ frames := 1, cells := 0, slots := 0, locals := 17 } : Room).cells ({ frames := 1, cells := 0, slots := 0, locals := 17 } : Room).slots) := by
  refine MetFree.of_bodySF (plainFor_of_name pn_2) hisR ?_
  intro p e s m args below meth c s₁ Bd hml0 hP hK
  obtain ⟨rfl, hZ, hh⟩ := hP
  have hx := Bd.exec
  have hby := Bd.bytes
  have hml : c.maxLocals = 5 := hml0
  have hown : s.vm.findClass "jdk/internal/util/ArraysSupport" = some m.cls := findClass_of_methodNamed Bd.named
  have hnm := (name_of_methodNamed Bd.named Bd.method).1
  have X0 : Stand p l e ({ frames := 1, cells := 0, slots := 0, locals := 17 } : Room) s m #[(.ref a0), (.int (0 : Int32)), (.int (3 : Int32)), (.int (1 : Int32)), (.int (10 : Int32))] below meth c s₁ [] 0 0 := Stand.of_body Bd
  have e0 : s₁.heap = h0 := by rw [← hh, Bd.state]; rfl
  have N0 := Fr.nil n0
  have pre0 : ∀ t, Steps p.tables e below (s₁.setTop (mkF m 0 #[.val (.ref a0), .val (.int (0 : Int32)), .val (.int (3 : Int32)), .val (.int (1 : Int32)), .val (.int (10 : Int32))] [])) t → Steps p.tables e below (s₁.setTop (entryFrame m #[(.ref a0), (.int (0 : Int32)), (.int (3 : Int32)), (.int (1 : Int32)), (.int (10 : Int32))] 5)) t := fun t k => castTop (ef_hv3 m a0) k
  obtain ⟨T207, X207, e207, st207⟩ := castY X0 hx hZ hown (hw _ (List.mem_of_getElem? (i := 33) rfl)) e0 (insA V_a0 kc_a0) (g := (mkF m 118 #[.val (.ref a0), .val (.int (0 : Int32)), .val (.int (3 : Int32)), .val (.int (1 : Int32)), .val (.int (10 : Int32))] [(.ref a0), (.int (1 : Int32))])) rfl rfl (hb hby d6_118)
  obtain ⟨_, _, ⟨T208, L208, k208, n208⟩, -, X208, ⟨Lc208, hQ208, l208, y208, z208⟩, st208⟩ := Jvm.LawKit.callS X207 hx (y := (⟨"jdk/internal/util/ArraysSupport", "hashCode", "(I[III)I"⟩ : MethodName)) hown (mvT hZ (hw _ (List.mem_of_getElem? (i := 35) rfl))) (mvT hZ (hw _ (List.mem_of_getElem? (i := 36) rfl))) (mvT hZ (hw _ (List.mem_of_getElem? (i := 31) rfl))) (mvT hZ (hw _ (List.mem_of_getElem? (i := 37) rfl))) (by decide) (backOf (W := 0) (ha3 l Z aw hw [] a0 k1 w0 w1 w2 h0 n0 Z0 V_a0) hZ (hw _ (List.mem_of_getElem? (i := 37) rfl)) (hw _ (List.mem_of_getElem? (i := 31) rfl)) (by decide) (by decide)) (g := (mkF m 123 #[.val (.ref a0), .val (.int (0 : Int32)), .val (.int (3 : Int32)), .val (.int (1 : Int32)), .val (.int (10 : Int32))] [(.int (3 : Int32)), (.int (0 : Int32)), (.ref a0), (.int (1 : Int32))])) rfl (by rw [hml]; rfl) (argsL := [(.int (1 : Int32)), (.ref a0), (.int (0 : Int32)), (.int (3 : Int32))]) (rest := []) (lenOf pd_1 rfl) rfl (by show 2 * 0 + _ ≤ _; exact Nat.le_of_eq rfl) (hb hby d6_123) (fun _ _ => ⟨rfl, e207, (by decide : 0 + 0 ≤ _), (by decide : 0 + 0 ≤ _)⟩)
  dsimp only [Pt.U, Pt.locs, Pt.cells, Pt.slots] at X208 l208 y208 z208 st208 hQ208
  subst l208 y208 z208
  obtain ⟨rfl, N208q, e208⟩ := hQ208
  have N208 := Fr.app N0 N208q
  obtain ⟨fs, hr, hrun, hended, hW, hsame⟩ := X208.leave (v := some (.int (((31 : Int32) * (((31 : Int32) * ((31 : Int32) + w0)) + w1)) + w2))) (fun h => by rw [Bd.returns] at h; cases h)
  refine ⟨_, _, pre0 _ ?_, hrun, hended, _, _, rfl, ?_, ⟨_, rfl⟩, hW, hsame.mono (by decide) (by decide)⟩
  ·
    show Steps p.tables e below (s₁.setTop (mkF m 0 #[.val (.ref a0), .val (.int (0 : Int32)), .val (.int (3 : Int32)), .val (.int (1 : Int32)), .val (.int (10 : Int32))] [])) _
    refine XS.iload X0.here hx rfl (hb hby d6_0) rfl ?_
    show Steps p.tables e below (s₁.setTop (mkF m 2 #[.val (.ref a0), .val (.int (0 : Int32)), .val (.int (3 : Int32)), .val (.int (1 : Int32)), .val (.int (10 : Int32))] [(.int (10 : Int32))])) _
    refine XS.tswIn X0.here hx rfl (pc0 := 2) (pc' := 116) (o := 114) rfl (hb hby d6_2) rfl (by decide) (by decide) (by decide) (by decide) ?_
    show Steps p.tables e below (s₁.setTop (mkF m 116 #[.val (.ref a0), .val (.int (0 : Int32)), .val (.int (3 : Int32)), .val (.int (1 : Int32)), .val (.int (10 : Int32))] [])) _
    refine XS.iloadN X0.here hx rfl (hb hby d6_116) rfl ?_
    show Steps p.tables e below (s₁.setTop (mkF m 117 #[.val (.ref a0), .val (.int (0 : Int32)), .val (.int (3 : Int32)), .val (.int (1 : Int32)), .val (.int (10 : Int32))] [(.int (1 : Int32))])) _
    refine XS.aloadN X0.here hx rfl (hb hby d6_117) rfl rfl ?_
    show Steps p.tables e below (s₁.setTop (mkF m 118 #[.val (.ref a0), .val (.int (0 : Int32)), .val (.int (3 : Int32)), .val (.int (1 : Int32)), .val (.int (10 : Int32))] [(.ref a0), (.int (1 : Int32))])) _
    refine st207 _ ?_
    show Steps p.tables e below (T207.setTop (mkF m 121 #[.val (.ref a0), .val (.int (0 : Int32)), .val (.int (3 : Int32)), .val (.int (1 : Int32)), .val (.int (10 : Int32))] [(.ref a0), (.int (1 : Int32))])) _
    refine XS.iloadN X207.here hx rfl (hb hby d6_121) rfl ?_
    show Steps p.tables e below (T207.setTop (mkF m 122 #[.val (.ref a0), .val (.int (0 : Int32)), .val (.int (3 : Int32)), .val (.int (1 : Int32)), .val (.int (10 : Int32))] [(.int (0 : Int32)), (.ref a0), (.int (1 : Int32))])) _
    refine XS.iloadN X207.here hx rfl (hb hby d6_122) rfl ?_
    show Steps p.tables e below (T207.setTop (mkF m 123 #[.val (.ref a0), .val (.int (0 : Int32)), .val (.int (3 : Int32)), .val (.int (1 : Int32)), .val (.int (10 : Int32))] [(.int (3 : Int32)), (.int (0 : Int32)), (.ref a0), (.int (1 : Int32))])) _
    refine st208 _ ?_
    show Steps p.tables e below (T208.setTop (mkF m 126 #[.val (.ref a0), .val (.int (0 : Int32)), .val (.int (3 : Int32)), .val (.int (1 : Int32)), .val (.int (10 : Int32))] [(.int (((31 : Int32) * (((31 : Int32) * ((31 : Int32) + w0)) + w1)) + w2))])) _
    refine XS.goto X208.here hx rfl (pc0 := 126) (pc' := 157) rfl (hb hby d6_126) (by decide) (by decide) ?_
    show Steps p.tables e below (T208.setTop (mkF m 157 #[.val (.ref a0), .val (.int (0 : Int32)), .val (.int (3 : Int32)), .val (.int (1 : Int32)), .val (.int (10 : Int32))] [(.int (((31 : Int32) * (((31 : Int32) * ((31 : Int32) + w0)) + w1)) + w2))])) _
    exact retI X208 hx Bd.returns (hb hby d6_157) hr
  ·
    show Q_hv3 Z a0 k1 w0 w1 w2 h0 n0 _ T208.heap _
    rw [e208]
    exact ⟨rfl, N208, rfl⟩
theorem ef_hh3 (m : MethodId) (a0 : Addr) : entryFrame m #[(.ref a0)] 1 = mkF m 0 #[.val (.ref a0)] [] := by first | (simp [entryFrame, mkF, argsToLocals, Value.category]; done) | rfl
def Q_hh3 (Z : State) (a0 : Addr) (k1 : ClassId) (w0 : Int32) (w1 : Int32) (w2 : Int32) (h0 : Heap) (n0 : Nat) (v : Option Value) (h : Heap) (L : List Loc) : Prop := v = some (.int (((31 : Int32) * (((31 : Int32) * ((31 : Int32) + w0)) + w1)) + w2)) ∧ Fr n0 L ∧ h = h0
set_option maxRecDepth 65536 in
set_option maxHeartbeats 40000000 in
theorem hh3 (l : Launch) (Z : State) (aw : Array Value) (hw : ∀ d ∈ tables_1, d.before aw Z = true) (ws : List Jvm.Cond) (a0 : Addr) (k1 : ClassId) (w0 : Int32) (w1 : Int32) (w2 : Int32) (h0 : Heap) (n0 : Nat) (Z0 : n0 ≤ h0.size) (V_a0 : Arv Z h0 a0 k1 .int (3 : Int32) [(.int w0), (.int w1), (.int w2)] (.int (0 : Int32))) (kc_a0 : Z.vm.findClass "[I" = some k1) :
    MetFree l (⟨"java/util/Arrays", "hashCode", "([I)I"⟩ : MethodName) (head1 (Jvm.Cond.code (⟨"java/util/Arrays", "hashCode", "([I)I"⟩ : MethodName) jdk_65_method_150_code 1 (some .int) :: ws) ({ frames := 2, cells := 0, slots := 0, locals := 33 } : Room)) (fun a U => a = #[(.ref a0)] ∧ Z.Warmed39 U.vm ∧ U.heap = h0) (fun _ _ _ _ _ => True) (fun _ U o U' => ∃ v L, o = .returned v ∧ Q_hh3 Z a0 k1 w0 w1 w2 h0 n0 v U'.heap L ∧ FrameEnd U o U' L ({ frames := 2, cells := 0, slots := 0, locals := 33 } : Room).cells ({ frames := 2, cells := 0, slots := 0, locals := 33 } : Room).slots) := by
  refine MetFree.of_bodySF (plainFor_of_name pn_0) hisR ?_
  intro p e s m args below meth c s₁ Bd hml0 hP hK
  obtain ⟨rfl, hZ, hh⟩ := hP
  have hx := Bd.exec
  have hby := Bd.bytes
  have hml : c.maxLocals = 1 := hml0
  have hown : s.vm.findClass "java/util/Arrays" = some m.cls := findClass_of_methodNamed Bd.named
  have hnm := (name_of_methodNamed Bd.named Bd.method).1
  have X0 : Stand p l e ({ frames := 2, cells := 0, slots := 0, locals := 33 } : Room) s m #[(.ref a0)] below meth c s₁ [] 0 0 := Stand.of_body Bd
  have e0 : s₁.heap = h0 := by rw [← hh, Bd.state]; rfl
  have N0 := Fr.nil n0
  have pre0 : ∀ t, Steps p.tables e below (s₁.setTop (mkF m 0 #[.val (.ref a0)] [])) t → Steps p.tables e below (s₁.setTop (entryFrame m #[(.ref a0)] 1)) t := fun t k => castTop (ef_hh3 m a0) k
  obtain ⟨cl209, Ar209, q209, S209, N209, H209, G209⟩ := id V_a0
  obtain ⟨cl210, Ar210, q210, S210, N210, H210, G210⟩ := id V_a0
  obtain ⟨_, _, ⟨T211, L211, k211, n211⟩, -, X211, ⟨Lc211, hQ211, l211, y211, z211⟩, st211⟩ := Jvm.LawKit.callS X0 hx (y := (⟨"jdk/internal/util/ArraysSupport", "vectorizedHashCode", "(Ljava/lang/Object;IIII)I"⟩ : MethodName)) hown (mvT hZ (hw _ (List.mem_of_getElem? (i := 29) rfl))) (mvT hZ (hw _ (List.mem_of_getElem? (i := 30) rfl))) (mvT hZ (hw _ (List.mem_of_getElem? (i := 31) rfl))) (mvT hZ (hw _ (List.mem_of_getElem? (i := 32) rfl))) (by decide) (backOf (W := 0) (hv3 l Z aw hw [] a0 k1 w0 w1 w2 h0 n0 Z0 V_a0 kc_a0) hZ (hw _ (List.mem_of_getElem? (i := 32) rfl)) (hw _ (List.mem_of_getElem? (i := 31) rfl)) (by decide) (by decide)) (g := (mkF m 56 #[.val (.ref a0)] [(.int (10 : Int32)), (.int (1 : Int32)), (.int (3 : Int32)), (.int (0 : Int32)), (.ref a0)])) rfl (by rw [hml]; rfl) (argsL := [(.ref a0), (.int (0 : Int32)), (.int (3 : Int32)), (.int (1 : Int32)), (.int (10 : Int32))]) (rest := []) (lenOf pd_2 rfl) rfl (by show 2 * 0 + _ ≤ _; exact Nat.le_of_eq rfl) (hb hby d4_56) (fun _ _ => ⟨rfl, e0, (by decide : 0 + 0 ≤ _), (by decide : 0 + 0 ≤ _)⟩)
  dsimp only [Pt.U, Pt.locs, Pt.cells, Pt.slots] at X211 l211 y211 z211 st211 hQ211
  subst l211 y211 z211
  obtain ⟨rfl, N211q, e211⟩ := hQ211
  have N211 := Fr.app N0 N211q
  obtain ⟨fs, hr, hrun, hended, hW, hsame⟩ := X211.leave (v := some (.int (((31 : Int32) * (((31 : Int32) * ((31 : Int32) + w0)) + w1)) + w2))) (fun h => by rw [Bd.returns] at h; cases h)
  refine ⟨_, _, pre0 _ ?_, hrun, hended, _, _, rfl, ?_, ⟨_, rfl⟩, hW, hsame.mono (by decide) (by decide)⟩
  ·
    show Steps p.tables e below (s₁.setTop (mkF m 0 #[.val (.ref a0)] [])) _
    refine XS.aloadN X0.here hx rfl (hb hby d4_0) rfl rfl ?_
    show Steps p.tables e below (s₁.setTop (mkF m 1 #[.val (.ref a0)] [(.ref a0)])) _
    refine XS.ifnonnullYes X0.here hx rfl (pc0 := 1) (pc' := 6) rfl (hb hby d4_1) rfl (by decide) (by decide) ?_
    show Steps p.tables e below (s₁.setTop (mkF m 6 #[.val (.ref a0)] [])) _
    refine XS.aloadN X0.here hx rfl (hb hby d4_6) rfl rfl ?_
    show Steps p.tables e below (s₁.setTop (mkF m 7 #[.val (.ref a0)] [(.ref a0)])) _
    refine X0.arraylength hx (by rw [e0]; exact Ar209.1) (State.isArrayOf_alike hZ.alike Ar209.2.1) (g := (mkF m 7 #[.val (.ref a0)] [(.ref a0)])) rfl rfl (hb hby d4_7) _ ?_
    rw [len_of S209 N209]
    show Steps p.tables e below (s₁.setTop (mkF m 8 #[.val (.ref a0)] [(.int (3 : Int32))])) _
    refine lswMiss X0 hx rfl (pc0 := 8) (pc' := 49) rfl (hb hby d4_8) rfl (by decide) (by decide) (by decide) (by decide) ?_
    show Steps p.tables e below (s₁.setTop (mkF m 49 #[.val (.ref a0)] [])) _
    refine XS.aloadN X0.here hx rfl (hb hby d4_49) rfl rfl ?_
    show Steps p.tables e below (s₁.setTop (mkF m 50 #[.val (.ref a0)] [(.ref a0)])) _
    refine XS.iconst X0.here hx rfl (hb hby d4_50) ?_
    show Steps p.tables e below (s₁.setTop (mkF m 51 #[.val (.ref a0)] [(.int (0 : Int32)), (.ref a0)])) _
    refine XS.aloadN X0.here hx rfl (hb hby d4_51) rfl rfl ?_
    show Steps p.tables e below (s₁.setTop (mkF m 52 #[.val (.ref a0)] [(.ref a0), (.int (0 : Int32)), (.ref a0)])) _
    refine X0.arraylength hx (by rw [e0]; exact Ar210.1) (State.isArrayOf_alike hZ.alike Ar210.2.1) (g := (mkF m 52 #[.val (.ref a0)] [(.ref a0), (.int (0 : Int32)), (.ref a0)])) rfl rfl (hb hby d4_52) _ ?_
    rw [len_of S210 N210]
    show Steps p.tables e below (s₁.setTop (mkF m 53 #[.val (.ref a0)] [(.int (3 : Int32)), (.int (0 : Int32)), (.ref a0)])) _
    refine XS.iconst X0.here hx rfl (hb hby d4_53) ?_
    show Steps p.tables e below (s₁.setTop (mkF m 54 #[.val (.ref a0)] [(.int (1 : Int32)), (.int (3 : Int32)), (.int (0 : Int32)), (.ref a0)])) _
    refine XS.bipush X0.here hx rfl (hb hby d4_54) ?_
    show Steps p.tables e below (s₁.setTop (mkF m 56 #[.val (.ref a0)] [(.int (10 : Int32)), (.int (1 : Int32)), (.int (3 : Int32)), (.int (0 : Int32)), (.ref a0)])) _
    refine st211 _ ?_
    show Steps p.tables e below (T211.setTop (mkF m 59 #[.val (.ref a0)] [(.int (((31 : Int32) * (((31 : Int32) * ((31 : Int32) + w0)) + w1)) + w2))])) _
    exact retI X211 hx Bd.returns (hb hby d4_59) hr
  ·
    show Q_hh3 Z a0 k1 w0 w1 w2 h0 n0 _ T211.heap _
    rw [e211]
    exact ⟨rfl, N211, rfl⟩
theorem ef_ct3 (m : MethodId) (a0 : Addr) (a1 : Addr) : entryFrame m #[(.ref a0), (.ref a1)] 8 = mkF m 0 #[.val (.ref a0), .val (.ref a1), .unset, .unset, .unset, .unset, .unset, .unset] [] := by first | (simp [entryFrame, mkF, argsToLocals, Value.category]; done) | rfl
def Q_ct3 (Z : State) (a0 : Addr) (a1 : Addr) (k1 : ClassId) (w0 : Int32) (w1 : Int32) (w2 : Int32) (h0 : Heap) (n0 : Nat) (v : Option Value) (h : Heap) (L : List Loc) : Prop := v = none ∧ Fr n0 L ∧ Keep h0 h [a0] ∧ Exa Z h a0 "com/example/enact/enact/net/Marking" ∧ Fld Z h a0 "com/example/enact/enact/net/Marking" "tokens" "[I" (.ref a1)
set_option maxRecDepth 65536 in
set_option maxHeartbeats 40000000 in
theorem ct3 (l : Launch) (Z : State) (aw : Array Value) (hw : ∀ d ∈ tables_1, d.before aw Z = true) (ws : List Jvm.Cond) (a0 : Addr) (a1 : Addr) (k1 : ClassId) (w0 : Int32) (w1 : Int32) (w2 : Int32) (h0 : Heap) (n0 : Nat) (Z0 : n0 ≤ h0.size) (E_a0 : Exa Z h0 a0 "com/example/enact/enact/net/Marking") (F_a0_tokens : Fld Z h0 a0 "com/example/enact/enact/net/Marking" "tokens" "[I" .null) (F_a0_total : Fld Z h0 a0 "com/example/enact/enact/net/Marking" "total" "J" (.long (0 : Int64))) (F_a0_hash : Fld Z h0 a0 "com/example/enact/enact/net/Marking" "hash" "I" (.int (0 : Int32))) (g_a0 : n0 ≤ a0) (V_a1 : Arv Z h0 a1 k1 .int (3 : Int32) [(.int w0), (.int w1), (.int w2)] (.int (0 : Int32))) (kc_a1 : Z.vm.findClass "[I" = some k1) (ne_a0_a1 : a0 ≠ a1) :
    MetFree l (⟨"com/example/enact/enact/net/Marking", "<init>", "([I)V"⟩ : MethodName) (head1 (Jvm.Cond.code (⟨"com/example/enact/enact/net/Marking", "<init>", "([I)V"⟩ : MethodName) prog_29_method_1_code 8 none :: ws) ({ frames := 3, cells := 0, slots := 0, locals := 46 } : Room)) (fun a U => a = #[(.ref a0), (.ref a1)] ∧ Z.Warmed39 U.vm ∧ U.heap = h0) (fun _ _ _ _ _ => True) (fun _ U o U' => ∃ v L, o = .returned v ∧ Q_ct3 Z a0 a1 k1 w0 w1 w2 h0 n0 v U'.heap L ∧ FrameEnd U o U' L ({ frames := 3, cells := 0, slots := 0, locals := 46 } : Room).cells ({ frames := 3, cells := 0, slots := 0, locals := 46 } : Room).slots) := by
  refine MetFree.of_bodySF (plainFor_of_name pn_1) hisR ?_
  intro p e s m args below meth c s₁ Bd hml0 hP hK
  obtain ⟨rfl, hZ, hh⟩ := hP
  have hx := Bd.exec
  have hby := Bd.bytes
  have hml : c.maxLocals = 8 := hml0
  have hown : s.vm.findClass "com/example/enact/enact/net/Marking" = some m.cls := findClass_of_methodNamed Bd.named
  have hnm := (name_of_methodNamed Bd.named Bd.method).1
  have X0 : Stand p l e ({ frames := 3, cells := 0, slots := 0, locals := 46 } : Room) s m #[(.ref a0), (.ref a1)] below meth c s₁ [] 0 0 := Stand.of_body Bd
  have e0 : s₁.heap = h0 := by rw [← hh, Bd.state]; rfl
  have N0 := Fr.nil n0
  have pre0 : ∀ t, Steps p.tables e below (s₁.setTop (mkF m 0 #[.val (.ref a0), .val (.ref a1), .unset, .unset, .unset, .unset, .unset, .unset] [])) t → Steps p.tables e below (s₁.setTop (entryFrame m #[(.ref a0), (.ref a1)] 8)) t := fun t k => castTop (ef_ct3 m a0 a1) k
  have KC0 : Keep h0 h0 [a0] := Keep.refl h0 [a0]
  obtain ⟨T212, X212, e212, st212⟩ := initO X0 hx hZ hown (hw _ (List.mem_of_getElem? (i := 11) rfl)) (hw _ (List.mem_of_getElem? (i := 12) rfl)) (hw _ (List.mem_of_getElem? (i := 13) rfl)) e0 (g := (mkF m 1 #[.val (.ref a0), .val (.ref a1), .unset, .unset, .unset, .unset, .unset, .unset] [(.ref a0)])) rfl (by rw [hml]; rfl) rfl (hb hby d2_1) (by decide) (W := 0) (by show 2 * 0 + _ ≤ _; exact Nat.le_of_eq rfl) (by decide)
  obtain ⟨cl213, Ar213, q213, S213, N213, H213, G213⟩ := id V_a1
  obtain ⟨cl214, Ar214, q214, S214, N214, H214, G214⟩ := id V_a1
  have hin214 : ¬ ((0 : Int32) < 0 ∨ cl214.slots.size ≤ ((0 : Int32)).toNatClampNeg) := inb_of S214 ⟨by decide, by decide⟩
  have hat214 : cl214.slots[((0 : Int32)).toNatClampNeg]? = some (.int w0) := Has.at H214 hin214 rfl
  obtain ⟨cl215, Ar215, q215, S215, N215, H215, G215⟩ := id V_a1
  have hin215 : ¬ ((1 : Int32) < 0 ∨ cl215.slots.size ≤ ((1 : Int32)).toNatClampNeg) := inb_of S215 ⟨by decide, by decide⟩
  have hat215 : cl215.slots[((1 : Int32)).toNatClampNeg]? = some (.int w1) := Has.at H215 hin215 rfl
  obtain ⟨cl216, Ar216, q216, S216, N216, H216, G216⟩ := id V_a1
  have hin216 : ¬ ((2 : Int32) < 0 ∨ cl216.slots.size ≤ ((2 : Int32)).toNatClampNeg) := inb_of S216 ⟨by decide, by decide⟩
  have hat216 : cl216.slots[((2 : Int32)).toNatClampNeg]? = some (.int w2) := Has.at H216 hin216 rfl
  obtain ⟨T217, h217, X217, e217, W217, st217⟩ := putF X212 hx hZ hown (host := "") (Or.inl (hw _ (List.mem_of_getElem? (i := 14) rfl))) Via.refl e212 F_a0_tokens E_a0 (Or.inr ⟨(hw _ (List.mem_of_getElem? (i := 15) rfl)), rfl, hnm⟩) (hw _ (List.mem_of_getElem? (i := 6) rfl)) (ty := (.array .int)) (by decide) rfl rfl (g := (mkF m 45 #[.val (.ref a0), .val (.ref a1), .val (.long ((((0 : Int64) + (w0.toInt64)) + (w1.toInt64)) + (w2.toInt64))), .second, .val (.ref a1), .val (.int (3 : Int32)), .val (.int (3 : Int32)), .val (.int w2)] [(.ref a1), (.ref a0)])) rfl rfl (hb hby d2_45)
  have f218 := E_a0.wr W217
  have f219 := F_a0_total.other W217 (Or.inr (slot_ne (Or.inr (hw _ (List.mem_of_getElem? (i := 17) rfl))) (Or.inr (hw _ (List.mem_of_getElem? (i := 15) rfl))) (by decide) (t := .long) (t' := (.array .int)) (by decide) (by decide)))
  have f220 := F_a0_hash.other W217 (Or.inr (slot_ne (Or.inr (hw _ (List.mem_of_getElem? (i := 23) rfl))) (Or.inr (hw _ (List.mem_of_getElem? (i := 15) rfl))) (by decide) (t := .int) (t' := (.array .int)) (by decide) (by decide)))
  have f221 := V_a1.other W217 (Ne.symm ne_a0_a1)
  have Z222 : n0 ≤ h217.size := Nat.le_trans Z0 (Keep.of_wr W217).1
  have K223 : Keep h0 h217 [a0] := Keep.wr KC0 W217 (Or.inl (List.mem_of_getElem? (i := 0) rfl))
  have N224 := Fr.snoc X217 N0 g_a0
  have f225 : Fld Z h217 a0 "com/example/enact/enact/net/Marking" "tokens" "[I" (.ref a1) := F_a0_tokens.same W217
  obtain ⟨T226, h226, X226, e226, W226, st226⟩ := putF X217 hx hZ hown (host := "") (Or.inl (hw _ (List.mem_of_getElem? (i := 16) rfl))) Via.refl e217 f219 f218 (Or.inr ⟨(hw _ (List.mem_of_getElem? (i := 17) rfl)), rfl, hnm⟩) (hw _ (List.mem_of_getElem? (i := 6) rfl)) (ty := .long) (by decide) rfl rfl (g := (mkF m 50 #[.val (.ref a0), .val (.ref a1), .val (.long ((((0 : Int64) + (w0.toInt64)) + (w1.toInt64)) + (w2.toInt64))), .second, .val (.ref a1), .val (.int (3 : Int32)), .val (.int (3 : Int32)), .val (.int w2)] [(.long ((((0 : Int64) + (w0.toInt64)) + (w1.toInt64)) + (w2.toInt64))), (.ref a0)])) rfl rfl (hb hby d2_50)
  have f227 := f218.wr W226
  have f228 := f220.other W226 (Or.inr (slot_ne (Or.inr (hw _ (List.mem_of_getElem? (i := 23) rfl))) (Or.inr (hw _ (List.mem_of_getElem? (i := 17) rfl))) (by decide) (t := .int) (t' := .long) (by decide) (by decide)))
  have f229 := f221.other W226 (Ne.symm ne_a0_a1)
  have f230 := f225.other W226 (Or.inr (slot_ne (Or.inr (hw _ (List.mem_of_getElem? (i := 15) rfl))) (Or.inr (hw _ (List.mem_of_getElem? (i := 17) rfl))) (by decide) (t := (.array .int)) (t' := .long) (by decide) (by decide)))
  have Z231 : n0 ≤ h226.size := Nat.le_trans Z222 (Keep.of_wr W226).1
  have K232 : Keep h0 h226 [a0] := Keep.wr K223 W226 (Or.inl (List.mem_of_getElem? (i := 0) rfl))
  have N233 := Fr.snoc X226 N224 g_a0
  have f234 : Fld Z h226 a0 "com/example/enact/enact/net/Marking" "total" "J" (.long ((((0 : Int64) + (w0.toInt64)) + (w1.toInt64)) + (w2.toInt64))) := f219.same W226
  obtain ⟨_, _, ⟨T235, L235, k235, n235⟩, -, X235, ⟨Lc235, hQ235, l235, y235, z235⟩, st235⟩ := Jvm.LawKit.callS X226 hx (y := (⟨"java/util/Arrays", "hashCode", "([I)I"⟩ : MethodName)) hown (mvT hZ (hw _ (List.mem_of_getElem? (i := 18) rfl))) (mvT hZ (hw _ (List.mem_of_getElem? (i := 19) rfl))) (mvT hZ (hw _ (List.mem_of_getElem? (i := 20) rfl))) (mvT hZ (hw _ (List.mem_of_getElem? (i := 21) rfl))) (by decide) (backOf (W := 1) (hh3 l Z aw hw [] a1 k1 w0 w1 w2 h226 n0 Z231 f229 kc_a1) hZ (hw _ (List.mem_of_getElem? (i := 21) rfl)) (hw _ (List.mem_of_getElem? (i := 20) rfl)) (by decide) (by decide)) (g := (mkF m 55 #[.val (.ref a0), .val (.ref a1), .val (.long ((((0 : Int64) + (w0.toInt64)) + (w1.toInt64)) + (w2.toInt64))), .second, .val (.ref a1), .val (.int (3 : Int32)), .val (.int (3 : Int32)), .val (.int w2)] [(.ref a1), (.ref a0)])) rfl (by rw [hml]; rfl) (argsL := [(.ref a1)]) (rest := [(.ref a0)]) (lenOf pd_0 rfl) rfl (by show 2 * 0 + _ ≤ _; exact Nat.le_of_eq rfl) (hb hby d2_55) (fun _ _ => ⟨rfl, e226, (by decide : 0 + 0 ≤ _), (by decide : 0 + 0 ≤ _)⟩)
  dsimp only [Pt.U, Pt.locs, Pt.cells, Pt.slots] at X235 l235 y235 z235 st235 hQ235
  subst l235 y235 z235
  obtain ⟨rfl, N235q, e235⟩ := hQ235
  have N235 := Fr.app N233 N235q
  obtain ⟨T236, h236, X236, e236, W236, st236⟩ := putF X235 hx hZ hown (host := "") (Or.inl (hw _ (List.mem_of_getElem? (i := 22) rfl))) Via.refl e235 f228 f227 (Or.inr ⟨(hw _ (List.mem_of_getElem? (i := 23) rfl)), rfl, hnm⟩) (hw _ (List.mem_of_getElem? (i := 6) rfl)) (ty := .int) (by decide) rfl rfl (g := (mkF m 58 #[.val (.ref a0), .val (.ref a1), .val (.long ((((0 : Int64) + (w0.toInt64)) + (w1.toInt64)) + (w2.toInt64))), .second, .val (.ref a1), .val (.int (3 : Int32)), .val (.int (3 : Int32)), .val (.int w2)] [(.int (((31 : Int32) * (((31 : Int32) * ((31 : Int32) + w0)) + w1)) + w2)), (.ref a0)])) rfl rfl (hb hby d2_58)
  have f237 := f227.wr W236
  have f238 := f229.other W236 (Ne.symm ne_a0_a1)
  have f239 := f230.other W236 (Or.inr (slot_ne (Or.inr (hw _ (List.mem_of_getElem? (i := 15) rfl))) (Or.inr (hw _ (List.mem_of_getElem? (i := 23) rfl))) (by decide) (t := (.array .int)) (t' := .int) (by decide) (by decide)))
  have f240 := f234.other W236 (Or.inr (slot_ne (Or.inr (hw _ (List.mem_of_getElem? (i := 17) rfl))) (Or.inr (hw _ (List.mem_of_getElem? (i := 23) rfl))) (by decide) (t := .long) (t' := .int) (by decide) (by decide)))
  have Z241 : n0 ≤ h236.size := Nat.le_trans Z231 (Keep.of_wr W236).1
  have K242 : Keep h0 h236 [a0] := Keep.wr K232 W236 (Or.inl (List.mem_of_getElem? (i := 0) rfl))
  have N243 := Fr.snoc X236 N235 g_a0
  have f244 : Fld Z h236 a0 "com/example/enact/enact/net/Marking" "hash" "I" (.int (((31 : Int32) * (((31 : Int32) * ((31 : Int32) + w0)) + w1)) + w2)) := f228.same W236
  obtain ⟨fs, hr, hrun, hended, hW, hsame⟩ := X236.leave (v := none) (fun _ => rfl)
  refine ⟨_, _, pre0 _ ?_, hrun, hended, _, _, rfl, ?_, ⟨_, rfl⟩, hW, hsame.mono (by decide) (by decide)⟩
  ·
    show Steps p.tables e below (s₁.setTop (mkF m 0 #[.val (.ref a0), .val (.ref a1), .unset, .unset, .unset, .unset, .unset, .unset] [])) _
    refine XS.aloadN X0.here hx rfl (hb hby d2_0) rfl rfl ?_
    show Steps p.tables e below (s₁.setTop (mkF m 1 #[.val (.ref a0), .val (.ref a1), .unset, .unset, .unset, .unset, .unset, .unset] [(.ref a0)])) _
    refine st212 _ ?_
    show Steps p.tables e below (T212.setTop (mkF m 4 #[.val (.ref a0), .val (.ref a1), .unset, .unset, .unset, .unset, .unset, .unset] [])) _
    refine XS.lconst X212.here hx rfl (hb hby d2_4) ?_
    show Steps p.tables e below (T212.setTop (mkF m 5 #[.val (.ref a0), .val (.ref a1), .unset, .unset, .unset, .unset, .unset, .unset] [(.long (0 : Int64))])) _
    refine XS.lstoreN X212.here hx rfl (hb hby d2_5) rfl (l' := #[.val (.ref a0), .val (.ref a1), .val (.long (0 : Int64)), .second, .unset, .unset, .unset, .unset]) rfl ?_
    show Steps p.tables e below (T212.setTop (mkF m 6 #[.val (.ref a0), .val (.ref a1), .val (.long (0 : Int64)), .second, .unset, .unset, .unset, .unset] [])) _
    refine XS.aloadN X212.here hx rfl (hb hby d2_6) rfl rfl ?_
    show Steps p.tables e below (T212.setTop (mkF m 7 #[.val (.ref a0), .val (.ref a1), .val (.long (0 : Int64)), .second, .unset, .unset, .unset, .unset] [(.ref a1)])) _
    refine XS.astore X212.here hx rfl (hb hby d2_7) rfl rfl (l' := #[.val (.ref a0), .val (.ref a1), .val (.long (0 : Int64)), .second, .val (.ref a1), .unset, .unset, .unset]) rfl ?_
    show Steps p.tables e below (T212.setTop (mkF m 9 #[.val (.ref a0), .val (.ref a1), .val (.long (0 : Int64)), .second, .val (.ref a1), .unset, .unset, .unset] [])) _
    refine XS.aload X212.here hx rfl (hb hby d2_9) rfl rfl ?_
    show Steps p.tables e below (T212.setTop (mkF m 11 #[.val (.ref a0), .val (.ref a1), .val (.long (0 : Int64)), .second, .val (.ref a1), .unset, .unset, .unset] [(.ref a1)])) _
    refine X212.arraylength hx (by rw [e212]; exact Ar213.1) (State.isArrayOf_alike hZ.alike Ar213.2.1) (g := (mkF m 11 #[.val (.ref a0), .val (.ref a1), .val (.long (0 : Int64)), .second, .val (.ref a1), .unset, .unset, .unset] [(.ref a1)])) rfl rfl (hb hby d2_11) _ ?_
    rw [len_of S213 N213]
    show Steps p.tables e below (T212.setTop (mkF m 12 #[.val (.ref a0), .val (.ref a1), .val (.long (0 : Int64)), .second, .val (.ref a1), .unset, .unset, .unset] [(.int (3 : Int32))])) _
    refine XS.istore X212.here hx rfl (hb hby d2_12) rfl (l' := #[.val (.ref a0), .val (.ref a1), .val (.long (0 : Int64)), .second, .val (.ref a1), .val (.int (3 : Int32)), .unset, .unset]) rfl ?_
    show Steps p.tables e below (T212.setTop (mkF m 14 #[.val (.ref a0), .val (.ref a1), .val (.long (0 : Int64)), .second, .val (.ref a1), .val (.int (3 : Int32)), .unset, .unset] [])) _
    refine XS.iconst X212.here hx rfl (hb hby d2_14) ?_
    show Steps p.tables e below (T212.setTop (mkF m 15 #[.val (.ref a0), .val (.ref a1), .val (.long (0 : Int64)), .second, .val (.ref a1), .val (.int (3 : Int32)), .unset, .unset] [(.int (0 : Int32))])) _
    refine XS.istore X212.here hx rfl (hb hby d2_15) rfl (l' := #[.val (.ref a0), .val (.ref a1), .val (.long (0 : Int64)), .second, .val (.ref a1), .val (.int (3 : Int32)), .val (.int (0 : Int32)), .unset]) rfl ?_
    show Steps p.tables e below (T212.setTop (mkF m 17 #[.val (.ref a0), .val (.ref a1), .val (.long (0 : Int64)), .second, .val (.ref a1), .val (.int (3 : Int32)), .val (.int (0 : Int32)), .unset] [])) _
    refine XS.iload X212.here hx rfl (hb hby d2_17) rfl ?_
    show Steps p.tables e below (T212.setTop (mkF m 19 #[.val (.ref a0), .val (.ref a1), .val (.long (0 : Int64)), .second, .val (.ref a1), .val (.int (3 : Int32)), .val (.int (0 : Int32)), .unset] [(.int (0 : Int32))])) _
    refine XS.iload X212.here hx rfl (hb hby d2_19) rfl ?_
    show Steps p.tables e below (T212.setTop (mkF m 21 #[.val (.ref a0), .val (.ref a1), .val (.long (0 : Int64)), .second, .val (.ref a1), .val (.int (3 : Int32)), .val (.int (0 : Int32)), .unset] [(.int (3 : Int32)), (.int (0 : Int32))])) _
    refine XS.icmpNo X212.here hx rfl (hb hby d2_21) rfl (tlt (by decide)).2.1 ?_
    show Steps p.tables e below (T212.setTop (mkF m 24 #[.val (.ref a0), .val (.ref a1), .val (.long (0 : Int64)), .second, .val (.ref a1), .val (.int (3 : Int32)), .val (.int (0 : Int32)), .unset] [])) _
    refine XS.aload X212.here hx rfl (hb hby d2_24) rfl rfl ?_
    show Steps p.tables e below (T212.setTop (mkF m 26 #[.val (.ref a0), .val (.ref a1), .val (.long (0 : Int64)), .second, .val (.ref a1), .val (.int (3 : Int32)), .val (.int (0 : Int32)), .unset] [(.ref a1)])) _
    refine XS.iload X212.here hx rfl (hb hby d2_26) rfl ?_
    show Steps p.tables e below (T212.setTop (mkF m 28 #[.val (.ref a0), .val (.ref a1), .val (.long (0 : Int64)), .second, .val (.ref a1), .val (.int (3 : Int32)), .val (.int (0 : Int32)), .unset] [(.int (0 : Int32)), (.ref a1)])) _
    refine X212.iaload hx (j := (0 : Int32)) (v := (.int w0)) (by rw [e212]; exact Ar214.1) (State.isArrayOf_alike hZ.alike Ar214.2.1) Ar214.2.2 hin214 hat214 (g := (mkF m 28 #[.val (.ref a0), .val (.ref a1), .val (.long (0 : Int64)), .second, .val (.ref a1), .val (.int (3 : Int32)), .val (.int (0 : Int32)), .unset] [(.int (0 : Int32)), (.ref a1)])) rfl rfl (hb hby d2_28) _ ?_
    show Steps p.tables e below (T212.setTop (mkF m 29 #[.val (.ref a0), .val (.ref a1), .val (.long (0 : Int64)), .second, .val (.ref a1), .val (.int (3 : Int32)), .val (.int (0 : Int32)), .unset] [(.int w0)])) _
    refine XS.istore X212.here hx rfl (hb hby d2_29) rfl (l' := #[.val (.ref a0), .val (.ref a1), .val (.long (0 : Int64)), .second, .val (.ref a1), .val (.int (3 : Int32)), .val (.int (0 : Int32)), .val (.int w0)]) rfl ?_
    show Steps p.tables e below (T212.setTop (mkF m 31 #[.val (.ref a0), .val (.ref a1), .val (.long (0 : Int64)), .second, .val (.ref a1), .val (.int (3 : Int32)), .val (.int (0 : Int32)), .val (.int w0)] [])) _
    refine XS.lloadN X212.here hx rfl (hb hby d2_31) rfl ?_
    show Steps p.tables e below (T212.setTop (mkF m 32 #[.val (.ref a0), .val (.ref a1), .val (.long (0 : Int64)), .second, .val (.ref a1), .val (.int (3 : Int32)), .val (.int (0 : Int32)), .val (.int w0)] [(.long (0 : Int64))])) _
    refine XS.iload X212.here hx rfl (hb hby d2_32) rfl ?_
    show Steps p.tables e below (T212.setTop (mkF m 34 #[.val (.ref a0), .val (.ref a1), .val (.long (0 : Int64)), .second, .val (.ref a1), .val (.int (3 : Int32)), .val (.int (0 : Int32)), .val (.int w0)] [(.int w0), (.long (0 : Int64))])) _
    refine XS.i2l X212.here hx rfl (hb hby d2_34) rfl ?_
    show Steps p.tables e below (T212.setTop (mkF m 35 #[.val (.ref a0), .val (.ref a1), .val (.long (0 : Int64)), .second, .val (.ref a1), .val (.int (3 : Int32)), .val (.int (0 : Int32)), .val (.int w0)] [(.long (w0.toInt64)), (.long (0 : Int64))])) _
    refine XS.ladd X212.here hx rfl (hb hby d2_35) rfl ?_
    show Steps p.tables e below (T212.setTop (mkF m 36 #[.val (.ref a0), .val (.ref a1), .val (.long (0 : Int64)), .second, .val (.ref a1), .val (.int (3 : Int32)), .val (.int (0 : Int32)), .val (.int w0)] [(.long ((0 : Int64) + (w0.toInt64)))])) _
    refine XS.lstoreN X212.here hx rfl (hb hby d2_36) rfl (l' := #[.val (.ref a0), .val (.ref a1), .val (.long ((0 : Int64) + (w0.toInt64))), .second, .val (.ref a1), .val (.int (3 : Int32)), .val (.int (0 : Int32)), .val (.int w0)]) rfl ?_
    show Steps p.tables e below (T212.setTop (mkF m 37 #[.val (.ref a0), .val (.ref a1), .val (.long ((0 : Int64) + (w0.toInt64))), .second, .val (.ref a1), .val (.int (3 : Int32)), .val (.int (0 : Int32)), .val (.int w0)] [])) _
    refine XS.iinc X212.here hx rfl (hb hby d2_37) rfl (l' := #[.val (.ref a0), .val (.ref a1), .val (.long ((0 : Int64) + (w0.toInt64))), .second, .val (.ref a1), .val (.int (3 : Int32)), .val (.int (1 : Int32)), .val (.int w0)]) rfl ?_
    show Steps p.tables e below (T212.setTop (mkF m 40 #[.val (.ref a0), .val (.ref a1), .val (.long ((0 : Int64) + (w0.toInt64))), .second, .val (.ref a1), .val (.int (3 : Int32)), .val (.int (1 : Int32)), .val (.int w0)] [])) _
    refine XS.goto X212.here hx rfl (pc0 := 40) (pc' := 17) rfl (hb hby d2_40) (by decide) (by decide) ?_
    show Steps p.tables e below (T212.setTop (mkF m 17 #[.val (.ref a0), .val (.ref a1), .val (.long ((0 : Int64) + (w0.toInt64))), .second, .val (.ref a1), .val (.int (3 : Int32)), .val (.int (1 : Int32)), .val (.int w0)] [])) _
    refine XS.iload X212.here hx rfl (hb hby d2_17) rfl ?_
    show Steps p.tables e below (T212.setTop (mkF m 19 #[.val (.ref a0), .val (.ref a1), .val (.long ((0 : Int64) + (w0.toInt64))), .second, .val (.ref a1), .val (.int (3 : Int32)), .val (.int (1 : Int32)), .val (.int w0)] [(.int (1 : Int32))])) _
    refine XS.iload X212.here hx rfl (hb hby d2_19) rfl ?_
    show Steps p.tables e below (T212.setTop (mkF m 21 #[.val (.ref a0), .val (.ref a1), .val (.long ((0 : Int64) + (w0.toInt64))), .second, .val (.ref a1), .val (.int (3 : Int32)), .val (.int (1 : Int32)), .val (.int w0)] [(.int (3 : Int32)), (.int (1 : Int32))])) _
    refine XS.icmpNo X212.here hx rfl (hb hby d2_21) rfl (tlt (by decide)).2.1 ?_
    show Steps p.tables e below (T212.setTop (mkF m 24 #[.val (.ref a0), .val (.ref a1), .val (.long ((0 : Int64) + (w0.toInt64))), .second, .val (.ref a1), .val (.int (3 : Int32)), .val (.int (1 : Int32)), .val (.int w0)] [])) _
    refine XS.aload X212.here hx rfl (hb hby d2_24) rfl rfl ?_
    show Steps p.tables e below (T212.setTop (mkF m 26 #[.val (.ref a0), .val (.ref a1), .val (.long ((0 : Int64) + (w0.toInt64))), .second, .val (.ref a1), .val (.int (3 : Int32)), .val (.int (1 : Int32)), .val (.int w0)] [(.ref a1)])) _
    refine XS.iload X212.here hx rfl (hb hby d2_26) rfl ?_
    show Steps p.tables e below (T212.setTop (mkF m 28 #[.val (.ref a0), .val (.ref a1), .val (.long ((0 : Int64) + (w0.toInt64))), .second, .val (.ref a1), .val (.int (3 : Int32)), .val (.int (1 : Int32)), .val (.int w0)] [(.int (1 : Int32)), (.ref a1)])) _
    refine X212.iaload hx (j := (1 : Int32)) (v := (.int w1)) (by rw [e212]; exact Ar215.1) (State.isArrayOf_alike hZ.alike Ar215.2.1) Ar215.2.2 hin215 hat215 (g := (mkF m 28 #[.val (.ref a0), .val (.ref a1), .val (.long ((0 : Int64) + (w0.toInt64))), .second, .val (.ref a1), .val (.int (3 : Int32)), .val (.int (1 : Int32)), .val (.int w0)] [(.int (1 : Int32)), (.ref a1)])) rfl rfl (hb hby d2_28) _ ?_
    show Steps p.tables e below (T212.setTop (mkF m 29 #[.val (.ref a0), .val (.ref a1), .val (.long ((0 : Int64) + (w0.toInt64))), .second, .val (.ref a1), .val (.int (3 : Int32)), .val (.int (1 : Int32)), .val (.int w0)] [(.int w1)])) _
    refine XS.istore X212.here hx rfl (hb hby d2_29) rfl (l' := #[.val (.ref a0), .val (.ref a1), .val (.long ((0 : Int64) + (w0.toInt64))), .second, .val (.ref a1), .val (.int (3 : Int32)), .val (.int (1 : Int32)), .val (.int w1)]) rfl ?_
    show Steps p.tables e below (T212.setTop (mkF m 31 #[.val (.ref a0), .val (.ref a1), .val (.long ((0 : Int64) + (w0.toInt64))), .second, .val (.ref a1), .val (.int (3 : Int32)), .val (.int (1 : Int32)), .val (.int w1)] [])) _
    refine XS.lloadN X212.here hx rfl (hb hby d2_31) rfl ?_
    show Steps p.tables e below (T212.setTop (mkF m 32 #[.val (.ref a0), .val (.ref a1), .val (.long ((0 : Int64) + (w0.toInt64))), .second, .val (.ref a1), .val (.int (3 : Int32)), .val (.int (1 : Int32)), .val (.int w1)] [(.long ((0 : Int64) + (w0.toInt64)))])) _
    refine XS.iload X212.here hx rfl (hb hby d2_32) rfl ?_
    show Steps p.tables e below (T212.setTop (mkF m 34 #[.val (.ref a0), .val (.ref a1), .val (.long ((0 : Int64) + (w0.toInt64))), .second, .val (.ref a1), .val (.int (3 : Int32)), .val (.int (1 : Int32)), .val (.int w1)] [(.int w1), (.long ((0 : Int64) + (w0.toInt64)))])) _
    refine XS.i2l X212.here hx rfl (hb hby d2_34) rfl ?_
    show Steps p.tables e below (T212.setTop (mkF m 35 #[.val (.ref a0), .val (.ref a1), .val (.long ((0 : Int64) + (w0.toInt64))), .second, .val (.ref a1), .val (.int (3 : Int32)), .val (.int (1 : Int32)), .val (.int w1)] [(.long (w1.toInt64)), (.long ((0 : Int64) + (w0.toInt64)))])) _
    refine XS.ladd X212.here hx rfl (hb hby d2_35) rfl ?_
    show Steps p.tables e below (T212.setTop (mkF m 36 #[.val (.ref a0), .val (.ref a1), .val (.long ((0 : Int64) + (w0.toInt64))), .second, .val (.ref a1), .val (.int (3 : Int32)), .val (.int (1 : Int32)), .val (.int w1)] [(.long (((0 : Int64) + (w0.toInt64)) + (w1.toInt64)))])) _
    refine XS.lstoreN X212.here hx rfl (hb hby d2_36) rfl (l' := #[.val (.ref a0), .val (.ref a1), .val (.long (((0 : Int64) + (w0.toInt64)) + (w1.toInt64))), .second, .val (.ref a1), .val (.int (3 : Int32)), .val (.int (1 : Int32)), .val (.int w1)]) rfl ?_
    show Steps p.tables e below (T212.setTop (mkF m 37 #[.val (.ref a0), .val (.ref a1), .val (.long (((0 : Int64) + (w0.toInt64)) + (w1.toInt64))), .second, .val (.ref a1), .val (.int (3 : Int32)), .val (.int (1 : Int32)), .val (.int w1)] [])) _
    refine XS.iinc X212.here hx rfl (hb hby d2_37) rfl (l' := #[.val (.ref a0), .val (.ref a1), .val (.long (((0 : Int64) + (w0.toInt64)) + (w1.toInt64))), .second, .val (.ref a1), .val (.int (3 : Int32)), .val (.int (2 : Int32)), .val (.int w1)]) rfl ?_
    show Steps p.tables e below (T212.setTop (mkF m 40 #[.val (.ref a0), .val (.ref a1), .val (.long (((0 : Int64) + (w0.toInt64)) + (w1.toInt64))), .second, .val (.ref a1), .val (.int (3 : Int32)), .val (.int (2 : Int32)), .val (.int w1)] [])) _
    refine XS.goto X212.here hx rfl (pc0 := 40) (pc' := 17) rfl (hb hby d2_40) (by decide) (by decide) ?_
    show Steps p.tables e below (T212.setTop (mkF m 17 #[.val (.ref a0), .val (.ref a1), .val (.long (((0 : Int64) + (w0.toInt64)) + (w1.toInt64))), .second, .val (.ref a1), .val (.int (3 : Int32)), .val (.int (2 : Int32)), .val (.int w1)] [])) _
    refine XS.iload X212.here hx rfl (hb hby d2_17) rfl ?_
    show Steps p.tables e below (T212.setTop (mkF m 19 #[.val (.ref a0), .val (.ref a1), .val (.long (((0 : Int64) + (w0.toInt64)) + (w1.toInt64))), .second, .val (.ref a1), .val (.int (3 : Int32)), .val (.int (2 : Int32)), .val (.int w1)] [(.int (2 : Int32))])) _
    refine XS.iload X212.here hx rfl (hb hby d2_19) rfl ?_
    show Steps p.tables e below (T212.setTop (mkF m 21 #[.val (.ref a0), .val (.ref a1), .val (.long (((0 : Int64) + (w0.toInt64)) + (w1.toInt64))), .second, .val (.ref a1), .val (.int (3 : Int32)), .val (.int (2 : Int32)), .val (.int w1)] [(.int (3 : Int32)), (.int (2 : Int32))])) _
    refine XS.icmpNo X212.here hx rfl (hb hby d2_21) rfl (tlt (by decide)).2.1 ?_
    show Steps p.tables e below (T212.setTop (mkF m 24 #[.val (.ref a0), .val (.ref a1), .val (.long (((0 : Int64) + (w0.toInt64)) + (w1.toInt64))), .second, .val (.ref a1), .val (.int (3 : Int32)), .val (.int (2 : Int32)), .val (.int w1)] [])) _
    refine XS.aload X212.here hx rfl (hb hby d2_24) rfl rfl ?_
    show Steps p.tables e below (T212.setTop (mkF m 26 #[.val (.ref a0), .val (.ref a1), .val (.long (((0 : Int64) + (w0.toInt64)) + (w1.toInt64))), .second, .val (.ref a1), .val (.int (3 : Int32)), .val (.int (2 : Int32)), .val (.int w1)] [(.ref a1)])) _
    refine XS.iload X212.here hx rfl (hb hby d2_26) rfl ?_
    show Steps p.tables e below (T212.setTop (mkF m 28 #[.val (.ref a0), .val (.ref a1), .val (.long (((0 : Int64) + (w0.toInt64)) + (w1.toInt64))), .second, .val (.ref a1), .val (.int (3 : Int32)), .val (.int (2 : Int32)), .val (.int w1)] [(.int (2 : Int32)), (.ref a1)])) _
    refine X212.iaload hx (j := (2 : Int32)) (v := (.int w2)) (by rw [e212]; exact Ar216.1) (State.isArrayOf_alike hZ.alike Ar216.2.1) Ar216.2.2 hin216 hat216 (g := (mkF m 28 #[.val (.ref a0), .val (.ref a1), .val (.long (((0 : Int64) + (w0.toInt64)) + (w1.toInt64))), .second, .val (.ref a1), .val (.int (3 : Int32)), .val (.int (2 : Int32)), .val (.int w1)] [(.int (2 : Int32)), (.ref a1)])) rfl rfl (hb hby d2_28) _ ?_
    show Steps p.tables e below (T212.setTop (mkF m 29 #[.val (.ref a0), .val (.ref a1), .val (.long (((0 : Int64) + (w0.toInt64)) + (w1.toInt64))), .second, .val (.ref a1), .val (.int (3 : Int32)), .val (.int (2 : Int32)), .val (.int w1)] [(.int w2)])) _
    refine XS.istore X212.here hx rfl (hb hby d2_29) rfl (l' := #[.val (.ref a0), .val (.ref a1), .val (.long (((0 : Int64) + (w0.toInt64)) + (w1.toInt64))), .second, .val (.ref a1), .val (.int (3 : Int32)), .val (.int (2 : Int32)), .val (.int w2)]) rfl ?_
    show Steps p.tables e below (T212.setTop (mkF m 31 #[.val (.ref a0), .val (.ref a1), .val (.long (((0 : Int64) + (w0.toInt64)) + (w1.toInt64))), .second, .val (.ref a1), .val (.int (3 : Int32)), .val (.int (2 : Int32)), .val (.int w2)] [])) _
    refine XS.lloadN X212.here hx rfl (hb hby d2_31) rfl ?_
    show Steps p.tables e below (T212.setTop (mkF m 32 #[.val (.ref a0), .val (.ref a1), .val (.long (((0 : Int64) + (w0.toInt64)) + (w1.toInt64))), .second, .val (.ref a1), .val (.int (3 : Int32)), .val (.int (2 : Int32)), .val (.int w2)] [(.long (((0 : Int64) + (w0.toInt64)) + (w1.toInt64)))])) _
    refine XS.iload X212.here hx rfl (hb hby d2_32) rfl ?_
    show Steps p.tables e below (T212.setTop (mkF m 34 #[.val (.ref a0), .val (.ref a1), .val (.long (((0 : Int64) + (w0.toInt64)) + (w1.toInt64))), .second, .val (.ref a1), .val (.int (3 : Int32)), .val (.int (2 : Int32)), .val (.int w2)] [(.int w2), (.long (((0 : Int64) + (w0.toInt64)) + (w1.toInt64)))])) _
    refine XS.i2l X212.here hx rfl (hb hby d2_34) rfl ?_
    show Steps p.tables e below (T212.setTop (mkF m 35 #[.val (.ref a0), .val (.ref a1), .val (.long (((0 : Int64) + (w0.toInt64)) + (w1.toInt64))), .second, .val (.ref a1), .val (.int (3 : Int32)), .val (.int (2 : Int32)), .val (.int w2)] [(.long (w2.toInt64)), (.long (((0 : Int64) + (w0.toInt64)) + (w1.toInt64)))])) _
    refine XS.ladd X212.here hx rfl (hb hby d2_35) rfl ?_
    show Steps p.tables e below (T212.setTop (mkF m 36 #[.val (.ref a0), .val (.ref a1), .val (.long (((0 : Int64) + (w0.toInt64)) + (w1.toInt64))), .second, .val (.ref a1), .val (.int (3 : Int32)), .val (.int (2 : Int32)), .val (.int w2)] [(.long ((((0 : Int64) + (w0.toInt64)) + (w1.toInt64)) + (w2.toInt64)))])) _
    refine XS.lstoreN X212.here hx rfl (hb hby d2_36) rfl (l' := #[.val (.ref a0), .val (.ref a1), .val (.long ((((0 : Int64) + (w0.toInt64)) + (w1.toInt64)) + (w2.toInt64))), .second, .val (.ref a1), .val (.int (3 : Int32)), .val (.int (2 : Int32)), .val (.int w2)]) rfl ?_
    show Steps p.tables e below (T212.setTop (mkF m 37 #[.val (.ref a0), .val (.ref a1), .val (.long ((((0 : Int64) + (w0.toInt64)) + (w1.toInt64)) + (w2.toInt64))), .second, .val (.ref a1), .val (.int (3 : Int32)), .val (.int (2 : Int32)), .val (.int w2)] [])) _
    refine XS.iinc X212.here hx rfl (hb hby d2_37) rfl (l' := #[.val (.ref a0), .val (.ref a1), .val (.long ((((0 : Int64) + (w0.toInt64)) + (w1.toInt64)) + (w2.toInt64))), .second, .val (.ref a1), .val (.int (3 : Int32)), .val (.int (3 : Int32)), .val (.int w2)]) rfl ?_
    show Steps p.tables e below (T212.setTop (mkF m 40 #[.val (.ref a0), .val (.ref a1), .val (.long ((((0 : Int64) + (w0.toInt64)) + (w1.toInt64)) + (w2.toInt64))), .second, .val (.ref a1), .val (.int (3 : Int32)), .val (.int (3 : Int32)), .val (.int w2)] [])) _
    refine XS.goto X212.here hx rfl (pc0 := 40) (pc' := 17) rfl (hb hby d2_40) (by decide) (by decide) ?_
    show Steps p.tables e below (T212.setTop (mkF m 17 #[.val (.ref a0), .val (.ref a1), .val (.long ((((0 : Int64) + (w0.toInt64)) + (w1.toInt64)) + (w2.toInt64))), .second, .val (.ref a1), .val (.int (3 : Int32)), .val (.int (3 : Int32)), .val (.int w2)] [])) _
    refine XS.iload X212.here hx rfl (hb hby d2_17) rfl ?_
    show Steps p.tables e below (T212.setTop (mkF m 19 #[.val (.ref a0), .val (.ref a1), .val (.long ((((0 : Int64) + (w0.toInt64)) + (w1.toInt64)) + (w2.toInt64))), .second, .val (.ref a1), .val (.int (3 : Int32)), .val (.int (3 : Int32)), .val (.int w2)] [(.int (3 : Int32))])) _
    refine XS.iload X212.here hx rfl (hb hby d2_19) rfl ?_
    show Steps p.tables e below (T212.setTop (mkF m 21 #[.val (.ref a0), .val (.ref a1), .val (.long ((((0 : Int64) + (w0.toInt64)) + (w1.toInt64)) + (w2.toInt64))), .second, .val (.ref a1), .val (.int (3 : Int32)), .val (.int (3 : Int32)), .val (.int w2)] [(.int (3 : Int32)), (.int (3 : Int32))])) _
    refine XS.icmpYes X212.here hx rfl (pc0 := 21) (pc' := 43) rfl (hb hby d2_21) rfl (flt (by decide)).2.1 (by decide) (by decide) ?_
    show Steps p.tables e below (T212.setTop (mkF m 43 #[.val (.ref a0), .val (.ref a1), .val (.long ((((0 : Int64) + (w0.toInt64)) + (w1.toInt64)) + (w2.toInt64))), .second, .val (.ref a1), .val (.int (3 : Int32)), .val (.int (3 : Int32)), .val (.int w2)] [])) _
    refine XS.aloadN X212.here hx rfl (hb hby d2_43) rfl rfl ?_
    show Steps p.tables e below (T212.setTop (mkF m 44 #[.val (.ref a0), .val (.ref a1), .val (.long ((((0 : Int64) + (w0.toInt64)) + (w1.toInt64)) + (w2.toInt64))), .second, .val (.ref a1), .val (.int (3 : Int32)), .val (.int (3 : Int32)), .val (.int w2)] [(.ref a0)])) _
    refine XS.aloadN X212.here hx rfl (hb hby d2_44) rfl rfl ?_
    show Steps p.tables e below (T212.setTop (mkF m 45 #[.val (.ref a0), .val (.ref a1), .val (.long ((((0 : Int64) + (w0.toInt64)) + (w1.toInt64)) + (w2.toInt64))), .second, .val (.ref a1), .val (.int (3 : Int32)), .val (.int (3 : Int32)), .val (.int w2)] [(.ref a1), (.ref a0)])) _
    refine st217 _ ?_
    show Steps p.tables e below (T217.setTop (mkF m 48 #[.val (.ref a0), .val (.ref a1), .val (.long ((((0 : Int64) + (w0.toInt64)) + (w1.toInt64)) + (w2.toInt64))), .second, .val (.ref a1), .val (.int (3 : Int32)), .val (.int (3 : Int32)), .val (.int w2)] [])) _
    refine XS.aloadN X217.here hx rfl (hb hby d2_48) rfl rfl ?_
    show Steps p.tables e below (T217.setTop (mkF m 49 #[.val (.ref a0), .val (.ref a1), .val (.long ((((0 : Int64) + (w0.toInt64)) + (w1.toInt64)) + (w2.toInt64))), .second, .val (.ref a1), .val (.int (3 : Int32)), .val (.int (3 : Int32)), .val (.int w2)] [(.ref a0)])) _
    refine XS.lloadN X217.here hx rfl (hb hby d2_49) rfl ?_
    show Steps p.tables e below (T217.setTop (mkF m 50 #[.val (.ref a0), .val (.ref a1), .val (.long ((((0 : Int64) + (w0.toInt64)) + (w1.toInt64)) + (w2.toInt64))), .second, .val (.ref a1), .val (.int (3 : Int32)), .val (.int (3 : Int32)), .val (.int w2)] [(.long ((((0 : Int64) + (w0.toInt64)) + (w1.toInt64)) + (w2.toInt64))), (.ref a0)])) _
    refine st226 _ ?_
    show Steps p.tables e below (T226.setTop (mkF m 53 #[.val (.ref a0), .val (.ref a1), .val (.long ((((0 : Int64) + (w0.toInt64)) + (w1.toInt64)) + (w2.toInt64))), .second, .val (.ref a1), .val (.int (3 : Int32)), .val (.int (3 : Int32)), .val (.int w2)] [])) _
    refine XS.aloadN X226.here hx rfl (hb hby d2_53) rfl rfl ?_
    show Steps p.tables e below (T226.setTop (mkF m 54 #[.val (.ref a0), .val (.ref a1), .val (.long ((((0 : Int64) + (w0.toInt64)) + (w1.toInt64)) + (w2.toInt64))), .second, .val (.ref a1), .val (.int (3 : Int32)), .val (.int (3 : Int32)), .val (.int w2)] [(.ref a0)])) _
    refine XS.aloadN X226.here hx rfl (hb hby d2_54) rfl rfl ?_
    show Steps p.tables e below (T226.setTop (mkF m 55 #[.val (.ref a0), .val (.ref a1), .val (.long ((((0 : Int64) + (w0.toInt64)) + (w1.toInt64)) + (w2.toInt64))), .second, .val (.ref a1), .val (.int (3 : Int32)), .val (.int (3 : Int32)), .val (.int w2)] [(.ref a1), (.ref a0)])) _
    refine st235 _ ?_
    show Steps p.tables e below (T235.setTop (mkF m 58 #[.val (.ref a0), .val (.ref a1), .val (.long ((((0 : Int64) + (w0.toInt64)) + (w1.toInt64)) + (w2.toInt64))), .second, .val (.ref a1), .val (.int (3 : Int32)), .val (.int (3 : Int32)), .val (.int w2)] [(.int (((31 : Int32) * (((31 : Int32) * ((31 : Int32) + w0)) + w1)) + w2)), (.ref a0)])) _
    refine st236 _ ?_
    show Steps p.tables e below (T236.setTop (mkF m 61 #[.val (.ref a0), .val (.ref a1), .val (.long ((((0 : Int64) + (w0.toInt64)) + (w1.toInt64)) + (w2.toInt64))), .second, .val (.ref a1), .val (.int (3 : Int32)), .val (.int (3 : Int32)), .val (.int w2)] [])) _
    exact X236.returnOut hx Bd.returns (hb hby d2_61) hr
  ·
    show Q_ct3 Z a0 a1 k1 w0 w1 w2 h0 n0 _ T236.heap _
    rw [e236]
    exact ⟨rfl, N243, K242, f237, f239⟩
theorem own_and3 (p : Int32) : p &&& 3 = 0 ∨ p &&& 3 = 1 ∨ p &&& 3 = 2 ∨ p &&& 3 = 3 := by
  have h := c_and p 3 (by decide)
  simp only [← Int32.toInt_inj, Int32.reduceToInt] at *
  omega
theorem d1_0 : decode method_3_code 0 = .ok (.iload_n 0, 1) := by decide +kernel
theorem d1_1 : decode method_3_code 1 = .ok (.ifCond .ne 7, 3) := by decide +kernel
theorem d1_4 : decode method_3_code 4 = .ok (.iconst 0, 1) := by decide +kernel
theorem d1_5 : decode method_3_code 5 = .ok (.newarray .int, 2) := by decide +kernel
theorem d1_7 : decode method_3_code 7 = .ok (.areturn, 1) := by decide +kernel
theorem pn_3 : plainName "com/example/enact/enact/net/MarkingCoversPinLaw" = true := by first | (simp [plainName, overriddenIn]; done) | decide +kernel
theorem ef_mk0 (m : MethodId) (p1 : Int32) (p2 : Int32) (p3 : Int32) : entryFrame m #[(.int (0 : Int32)), (.int p1), (.int p2), (.int p3)] 4 = mkF m 0 #[.val (.int (0 : Int32)), .val (.int p1), .val (.int p2), .val (.int p3)] [] := by first | (simp [entryFrame, mkF, argsToLocals, Value.category]; done) | rfl
def Q_mk0 (Z : State) (p1 : Int32) (p2 : Int32) (p3 : Int32) (h0 : Heap) (n0 : Nat) (v : Option Value) (h : Heap) (L : List Loc) : Prop := ∃ b : Addr, ∃ kb : ClassId, v = some (.ref b) ∧ Fr n0 L ∧ Keep h0 h [] ∧ h0.size ≤ b ∧ Arv Z h b kb .int (0 : Int32) [] (.int (0 : Int32)) ∧ Z.vm.findClass "[I" = some kb
set_option maxRecDepth 65536 in
set_option maxHeartbeats 40000000 in
theorem mk0 (l : Launch) (Z : State) (aw : Array Value) (hw : ∀ d ∈ tables_1, d.before aw Z = true) (ws : List Jvm.Cond) (p1 : Int32) (p2 : Int32) (p3 : Int32) (h0 : Heap) (n0 : Nat) (Z0 : n0 ≤ h0.size) :
    MetFree l (⟨"com/example/enact/enact/net/MarkingCoversPinLaw", "make", "(IIII)[I"⟩ : MethodName) (head1 (Jvm.Cond.code (⟨"com/example/enact/enact/net/MarkingCoversPinLaw", "make", "(IIII)[I"⟩ : MethodName) method_3_code 4 (some (.array .int)) :: ws) ({ frames := 0, cells := 1, slots := 0, locals := 0 } : Room)) (fun a U => a = #[(.int (0 : Int32)), (.int p1), (.int p2), (.int p3)] ∧ Z.Warmed39 U.vm ∧ U.heap = h0) (fun _ _ _ _ _ => True) (fun _ U o U' => ∃ v L, o = .returned v ∧ Q_mk0 Z p1 p2 p3 h0 n0 v U'.heap L ∧ FrameEnd U o U' L ({ frames := 0, cells := 1, slots := 0, locals := 0 } : Room).cells ({ frames := 0, cells := 1, slots := 0, locals := 0 } : Room).slots) := by
  refine MetFree.of_bodySF (plainFor_of_name pn_3) hisR ?_
  intro p e s m args below meth c s₁ Bd hml0 hP hK
  obtain ⟨rfl, hZ, hh⟩ := hP
  have hx := Bd.exec
  have hby := Bd.bytes
  have hml : c.maxLocals = 4 := hml0
  have hown : s.vm.findClass "com/example/enact/enact/net/MarkingCoversPinLaw" = some m.cls := findClass_of_methodNamed Bd.named
  have hnm := (name_of_methodNamed Bd.named Bd.method).1
  have X0 : Stand p l e ({ frames := 0, cells := 1, slots := 0, locals := 0 } : Room) s m #[(.int (0 : Int32)), (.int p1), (.int p2), (.int p3)] below meth c s₁ [] 0 0 := Stand.of_body Bd
  have e0 : s₁.heap = h0 := by rw [← hh, Bd.state]; rfl
  have N0 := Fr.nil n0
  have pre0 : ∀ t, Steps p.tables e below (s₁.setTop (mkF m 0 #[.val (.int (0 : Int32)), .val (.int p1), .val (.int p2), .val (.int p3)] [])) t → Steps p.tables e below (s₁.setTop (entryFrame m #[(.int (0 : Int32)), (.int p1), (.int p2), (.int p3)] 4)) t := fun t k => castTop (ef_mk0 m p1 p2 p3) k
  have KC0 : Keep h0 h0 [] := Keep.refl h0 []
  obtain ⟨T245, h245, k245, X245, e245, E245, A245, kc245, st245⟩ := newPk X0 hx hZ (hw _ (List.mem_of_getElem? (i := 4) rfl)) e0 (g := (mkF m 5 #[.val (.int (0 : Int32)), .val (.int p1), .val (.int p2), .val (.int p3)] [(.int (0 : Int32))])) rfl (hb hby d1_5) rfl (by decide) (cap := 0) (by decide) (by decide) (by decide) (by decide)
  obtain ⟨b245, g245⟩ : ∃ z, z = h0.size := ⟨_, rfl⟩
  rw [← g245] at A245 st245
  have gn246 : n0 ≤ b245 := Nat.le_trans Z0 (Nat.le_of_eq g245.symm)
  have sz247 : h0.size ≤ b245 := Nat.le_trans KC0.1 (Nat.le_of_eq g245.symm)
  have Z248 : n0 ≤ h245.size := Nat.le_trans Z0 E245.1
  have K249 : Keep h0 h245 [] := Keep.ext KC0 E245
  have f250 : Arv Z h245 b245 k245 .int (0 : Int32) [] (.int (0 : Int32)) := Arv.new A245 (by decide)
  obtain ⟨fs, hr, hrun, hended, hW, hsame⟩ := X245.leave (v := some (.ref b245)) (fun h => by rw [Bd.returns] at h; cases h)
  refine ⟨_, _, pre0 _ ?_, hrun, hended, _, _, rfl, ?_, ⟨_, rfl⟩, hW, hsame.mono (by decide) (by decide)⟩
  ·
    show Steps p.tables e below (s₁.setTop (mkF m 0 #[.val (.int (0 : Int32)), .val (.int p1), .val (.int p2), .val (.int p3)] [])) _
    refine XS.iloadN X0.here hx rfl (hb hby d1_0) rfl ?_
    show Steps p.tables e below (s₁.setTop (mkF m 1 #[.val (.int (0 : Int32)), .val (.int p1), .val (.int p2), .val (.int p3)] [(.int (0 : Int32))])) _
    refine XS.ifNo X0.here hx rfl (hb hby d1_1) rfl ((if0 _ _).trans (teq rfl).2) ?_
    show Steps p.tables e below (s₁.setTop (mkF m 4 #[.val (.int (0 : Int32)), .val (.int p1), .val (.int p2), .val (.int p3)] [])) _
    refine XS.iconst X0.here hx rfl (hb hby d1_4) ?_
    show Steps p.tables e below (s₁.setTop (mkF m 5 #[.val (.int (0 : Int32)), .val (.int p1), .val (.int p2), .val (.int p3)] [(.int (0 : Int32))])) _
    refine st245 _ ?_
    show Steps p.tables e below (T245.setTop (mkF m 7 #[.val (.int (0 : Int32)), .val (.int p1), .val (.int p2), .val (.int p3)] [(.ref b245)])) _
    exact retA X245 hx rfl rfl Bd.returns (hb hby d1_7) hr
  ·
    show Q_mk0 Z p1 p2 p3 h0 n0 _ T245.heap _
    rw [e245]
    exact ⟨b245, k245, rfl, N0, K249, sz247, f250, kc245⟩
theorem d5_0 : decode prog_29_method_6_code 0 = .ok (.iconst 0, 1) := by decide +kernel
theorem d5_1 : decode prog_29_method_6_code 1 = .ok (.istore_n 2, 1) := by decide +kernel
theorem d5_2 : decode prog_29_method_6_code 2 = .ok (.iload_n 2, 1) := by decide +kernel
theorem d5_3 : decode prog_29_method_6_code 3 = .ok (.aload_n 0, 1) := by decide +kernel
theorem d5_4 : decode prog_29_method_6_code 4 = .ok (.getfield 7, 3) := by decide +kernel
theorem d5_7 : decode prog_29_method_6_code 7 = .ok (.arraylength, 1) := by decide +kernel
theorem d5_8 : decode prog_29_method_6_code 8 = .ok (.if_icmp .ge 26, 3) := by decide +kernel
theorem d5_34 : decode prog_29_method_6_code 34 = .ok (.iconst 1, 1) := by decide +kernel
theorem d5_35 : decode prog_29_method_6_code 35 = .ok (.ireturn, 1) := by decide +kernel
theorem ef_cv0 (m : MethodId) (a0 : Addr) (a1 : Addr) : entryFrame m #[(.ref a0), (.ref a1)] 3 = mkF m 0 #[.val (.ref a0), .val (.ref a1), .unset] [] := by first | (simp [entryFrame, mkF, argsToLocals, Value.category]; done) | rfl
def Q_cv0 (Z : State) (a0 : Addr) (a1 : Addr) (a2 : Addr) (k1 : ClassId) (a3 : Addr) (k2 : ClassId) (h0 : Heap) (n0 : Nat) (v : Option Value) (h : Heap) (L : List Loc) : Prop := v = some (.int (1 : Int32)) ∧ Fr n0 L ∧ h = h0
set_option maxRecDepth 65536 in
set_option maxHeartbeats 40000000 in
theorem cv0 (l : Launch) (Z : State) (aw : Array Value) (hw : ∀ d ∈ tables_1, d.before aw Z = true) (ws : List Jvm.Cond) (a0 : Addr) (a1 : Addr) (a2 : Addr) (k1 : ClassId) (a3 : Addr) (k2 : ClassId) (h0 : Heap) (n0 : Nat) (Z0 : n0 ≤ h0.size) (F_a0_tokens : Fld Z h0 a0 "com/example/enact/enact/net/Marking" "tokens" "[I" (.ref a2)) (V_a2 : Arv Z h0 a2 k1 .int (0 : Int32) [] (.int (0 : Int32))) (F_a1_tokens : Fld Z h0 a1 "com/example/enact/enact/net/Marking" "tokens" "[I" (.ref a3)) (V_a3 : Arv Z h0 a3 k2 .int (0 : Int32) [] (.int (0 : Int32))) :
    MetFree l (⟨"com/example/enact/enact/net/Marking", "covers", "(Lcom/example/enact/enact/net/Marking;)Z"⟩ : MethodName) (head1 (Jvm.Cond.code (⟨"com/example/enact/enact/net/Marking", "covers", "(Lcom/example/enact/enact/net/Marking;)Z"⟩ : MethodName) prog_29_method_6_code 3 (some .boolean) :: ws) ({ frames := 0, cells := 0, slots := 0, locals := 0 } : Room)) (fun a U => a = #[(.ref a0), (.ref a1)] ∧ Z.Warmed39 U.vm ∧ U.heap = h0) (fun _ _ _ _ _ => True) (fun _ U o U' => ∃ v L, o = .returned v ∧ Q_cv0 Z a0 a1 a2 k1 a3 k2 h0 n0 v U'.heap L ∧ FrameEnd U o U' L ({ frames := 0, cells := 0, slots := 0, locals := 0 } : Room).cells ({ frames := 0, cells := 0, slots := 0, locals := 0 } : Room).slots) := by
  refine MetFree.of_bodySF (plainFor_of_name pn_1) hisR ?_
  intro p e s m args below meth c s₁ Bd hml0 hP hK
  obtain ⟨rfl, hZ, hh⟩ := hP
  have hx := Bd.exec
  have hby := Bd.bytes
  have hml : c.maxLocals = 3 := hml0
  have hown : s.vm.findClass "com/example/enact/enact/net/Marking" = some m.cls := findClass_of_methodNamed Bd.named
  have hnm := (name_of_methodNamed Bd.named Bd.method).1
  have X0 : Stand p l e ({ frames := 0, cells := 0, slots := 0, locals := 0 } : Room) s m #[(.ref a0), (.ref a1)] below meth c s₁ [] 0 0 := Stand.of_body Bd
  have e0 : s₁.heap = h0 := by rw [← hh, Bd.state]; rfl
  have N0 := Fr.nil n0
  have pre0 : ∀ t, Steps p.tables e below (s₁.setTop (mkF m 0 #[.val (.ref a0), .val (.ref a1), .unset] [])) t → Steps p.tables e below (s₁.setTop (entryFrame m #[(.ref a0), (.ref a1)] 3)) t := fun t k => castTop (ef_cv0 m a0 a1) k
  obtain ⟨T251, X251, e251, st251⟩ := getF X0 hx hZ hown (host := "") (Or.inl (hw _ (List.mem_of_getElem? (i := 14) rfl))) Via.refl e0 F_a0_tokens (g := (mkF m 4 #[.val (.ref a0), .val (.ref a1), .val (.int (0 : Int32))] [(.ref a0), (.int (0 : Int32))])) rfl rfl (hb hby d5_4)
  obtain ⟨cl252, Ar252, q252, S252, N252, H252, G252⟩ := id V_a2
  obtain ⟨fs, hr, hrun, hended, hW, hsame⟩ := X251.leave (v := some (.int (1 : Int32))) (fun h => by rw [Bd.returns] at h; cases h)
  refine ⟨_, _, pre0 _ ?_, hrun, hended, _, _, rfl, ?_, ⟨_, rfl⟩, hW, hsame.mono (by decide) (by decide)⟩
  ·
    show Steps p.tables e below (s₁.setTop (mkF m 0 #[.val (.ref a0), .val (.ref a1), .unset] [])) _
    refine XS.iconst X0.here hx rfl (hb hby d5_0) ?_
    show Steps p.tables e below (s₁.setTop (mkF m 1 #[.val (.ref a0), .val (.ref a1), .unset] [(.int (0 : Int32))])) _
    refine XS.istoreN X0.here hx rfl (hb hby d5_1) rfl (l' := #[.val (.ref a0), .val (.ref a1), .val (.int (0 : Int32))]) rfl ?_
    show Steps p.tables e below (s₁.setTop (mkF m 2 #[.val (.ref a0), .val (.ref a1), .val (.int (0 : Int32))] [])) _
    refine XS.iloadN X0.here hx rfl (hb hby d5_2) rfl ?_
    show Steps p.tables e below (s₁.setTop (mkF m 3 #[.val (.ref a0), .val (.ref a1), .val (.int (0 : Int32))] [(.int (0 : Int32))])) _
    refine XS.aloadN X0.here hx rfl (hb hby d5_3) rfl rfl ?_
    show Steps p.tables e below (s₁.setTop (mkF m 4 #[.val (.ref a0), .val (.ref a1), .val (.int (0 : Int32))] [(.ref a0), (.int (0 : Int32))])) _
    refine st251 _ ?_
    show Steps p.tables e below (T251.setTop (mkF m 7 #[.val (.ref a0), .val (.ref a1), .val (.int (0 : Int32))] [(.ref a2), (.int (0 : Int32))])) _
    refine X251.arraylength hx (by rw [e251]; exact Ar252.1) (State.isArrayOf_alike hZ.alike Ar252.2.1) (g := (mkF m 7 #[.val (.ref a0), .val (.ref a1), .val (.int (0 : Int32))] [(.ref a2), (.int (0 : Int32))])) rfl rfl (hb hby d5_7) _ ?_
    rw [len_of S252 N252]
    show Steps p.tables e below (T251.setTop (mkF m 8 #[.val (.ref a0), .val (.ref a1), .val (.int (0 : Int32))] [(.int (0 : Int32)), (.int (0 : Int32))])) _
    refine XS.icmpYes X251.here hx rfl (pc0 := 8) (pc' := 34) rfl (hb hby d5_8) rfl (flt (by decide)).2.1 (by decide) (by decide) ?_
    show Steps p.tables e below (T251.setTop (mkF m 34 #[.val (.ref a0), .val (.ref a1), .val (.int (0 : Int32))] [])) _
    refine XS.iconst X251.here hx rfl (hb hby d5_34) ?_
    show Steps p.tables e below (T251.setTop (mkF m 35 #[.val (.ref a0), .val (.ref a1), .val (.int (0 : Int32))] [(.int (1 : Int32))])) _
    exact retZ X251 hx Bd.returns (by decide) (hb hby d5_35) hr
  ·
    show Q_cv0 Z a0 a1 a2 k1 a3 k2 h0 n0 _ T251.heap _
    rw [e251]
    exact ⟨rfl, N0, rfl⟩
theorem d1_8 : decode method_3_code 8 = .ok (.iload_n 0, 1) := by decide +kernel
theorem d1_9 : decode method_3_code 9 = .ok (.iconst 1, 1) := by decide +kernel
theorem d1_10 : decode method_3_code 10 = .ok (.if_icmp .ne 11, 3) := by decide +kernel
theorem d1_13 : decode method_3_code 13 = .ok (.iconst 1, 1) := by decide +kernel
theorem d1_14 : decode method_3_code 14 = .ok (.newarray .int, 2) := by decide +kernel
theorem d1_16 : decode method_3_code 16 = .ok (.dup, 1) := by decide +kernel
theorem d1_17 : decode method_3_code 17 = .ok (.iconst 0, 1) := by decide +kernel
theorem d1_18 : decode method_3_code 18 = .ok (.iload_n 1, 1) := by decide +kernel
theorem d1_19 : decode method_3_code 19 = .ok (.iastore, 1) := by decide +kernel
theorem d1_20 : decode method_3_code 20 = .ok (.areturn, 1) := by decide +kernel
theorem ef_mk1 (m : MethodId) (p1 : Int32) (p2 : Int32) (p3 : Int32) : entryFrame m #[(.int (1 : Int32)), (.int p1), (.int p2), (.int p3)] 4 = mkF m 0 #[.val (.int (1 : Int32)), .val (.int p1), .val (.int p2), .val (.int p3)] [] := by first | (simp [entryFrame, mkF, argsToLocals, Value.category]; done) | rfl
def Q_mk1 (Z : State) (p1 : Int32) (p2 : Int32) (p3 : Int32) (h0 : Heap) (n0 : Nat) (v : Option Value) (h : Heap) (L : List Loc) : Prop := ∃ b : Addr, ∃ kb : ClassId, v = some (.ref b) ∧ Fr n0 L ∧ Keep h0 h [] ∧ h0.size ≤ b ∧ Arv Z h b kb .int (1 : Int32) [(.int p1)] (.int (0 : Int32)) ∧ Z.vm.findClass "[I" = some kb
set_option maxRecDepth 65536 in
set_option maxHeartbeats 40000000 in
theorem mk1 (l : Launch) (Z : State) (aw : Array Value) (hw : ∀ d ∈ tables_1, d.before aw Z = true) (ws : List Jvm.Cond) (p1 : Int32) (p2 : Int32) (p3 : Int32) (h0 : Heap) (n0 : Nat) (Z0 : n0 ≤ h0.size) :
    MetFree l (⟨"com/example/enact/enact/net/MarkingCoversPinLaw", "make", "(IIII)[I"⟩ : MethodName) (head1 (Jvm.Cond.code (⟨"com/example/enact/enact/net/MarkingCoversPinLaw", "make", "(IIII)[I"⟩ : MethodName) method_3_code 4 (some (.array .int)) :: ws) ({ frames := 0, cells := 1, slots := 1, locals := 0 } : Room)) (fun a U => a = #[(.int (1 : Int32)), (.int p1), (.int p2), (.int p3)] ∧ Z.Warmed39 U.vm ∧ U.heap = h0) (fun _ _ _ _ _ => True) (fun _ U o U' => ∃ v L, o = .returned v ∧ Q_mk1 Z p1 p2 p3 h0 n0 v U'.heap L ∧ FrameEnd U o U' L ({ frames := 0, cells := 1, slots := 1, locals := 0 } : Room).cells ({ frames := 0, cells := 1, slots := 1, locals := 0 } : Room).slots) := by
  refine MetFree.of_bodySF (plainFor_of_name pn_3) hisR ?_
  intro p e s m args below meth c s₁ Bd hml0 hP hK
  obtain ⟨rfl, hZ, hh⟩ := hP
  have hx := Bd.exec
  have hby := Bd.bytes
  have hml : c.maxLocals = 4 := hml0
  have hown : s.vm.findClass "com/example/enact/enact/net/MarkingCoversPinLaw" = some m.cls := findClass_of_methodNamed Bd.named
  have hnm := (name_of_methodNamed Bd.named Bd.method).1
  have X0 : Stand p l e ({ frames := 0, cells := 1, slots := 1, locals := 0 } : Room) s m #[(.int (1 : Int32)), (.int p1), (.int p2), (.int p3)] below meth c s₁ [] 0 0 := Stand.of_body Bd
  have e0 : s₁.heap = h0 := by rw [← hh, Bd.state]; rfl
  have N0 := Fr.nil n0
  have pre0 : ∀ t, Steps p.tables e below (s₁.setTop (mkF m 0 #[.val (.int (1 : Int32)), .val (.int p1), .val (.int p2), .val (.int p3)] [])) t → Steps p.tables e below (s₁.setTop (entryFrame m #[(.int (1 : Int32)), (.int p1), (.int p2), (.int p3)] 4)) t := fun t k => castTop (ef_mk1 m p1 p2 p3) k
  have KC0 : Keep h0 h0 [] := Keep.refl h0 []
  obtain ⟨T253, h253, k253, X253, e253, E253, A253, kc253, st253⟩ := newPk X0 hx hZ (hw _ (List.mem_of_getElem? (i := 4) rfl)) e0 (g := (mkF m 14 #[.val (.int (1 : Int32)), .val (.int p1), .val (.int p2), .val (.int p3)] [(.int (1 : Int32))])) rfl (hb hby d1_14) rfl (by decide) (cap := 1) (by decide) (by decide) (by decide) (by decide)
  obtain ⟨b253, g253⟩ : ∃ z, z = h0.size := ⟨_, rfl⟩
  rw [← g253] at A253 st253
  have gn254 : n0 ≤ b253 := Nat.le_trans Z0 (Nat.le_of_eq g253.symm)
  have sz255 : h0.size ≤ b253 := Nat.le_trans KC0.1 (Nat.le_of_eq g253.symm)
  have Z256 : n0 ≤ h253.size := Nat.le_trans Z0 E253.1
  have K257 : Keep h0 h253 [] := Keep.ext KC0 E253
  have f258 : Arv Z h253 b253 k253 .int (1 : Int32) [(.int (0 : Int32))] (.int (0 : Int32)) := (Arv.new A253 (by decide)).pad (pad_rep [] (.int (0 : Int32)) 1)
  obtain ⟨cl259, Ar259, q259, S259, N259, H259, G259⟩ := id f258
  have hin259 : ¬ ((0 : Int32) < 0 ∨ cl259.slots.size ≤ ((0 : Int32)).toNatClampNeg) := inb_of S259 ⟨by decide, by decide⟩
  obtain ⟨T259, h259, X259, e259, W259, st259⟩ := stI X253 hx hZ e253 Ar259 (j := (0 : Int32)) hin259 (g := (mkF m 19 #[.val (.int (1 : Int32)), .val (.int p1), .val (.int p2), .val (.int p3)] [(.int p1), (.int (0 : Int32)), (.ref b253), (.ref b253)])) rfl rfl (hb hby d1_19)
  have Z260 : n0 ≤ h259.size := Nat.le_trans Z256 (Keep.of_wr W259).1
  have K261 : Keep h0 h259 [] := Keep.wr K257 W259 (Or.inr sz255)
  have N262 := Fr.snoc X259 N0 gn254
  have f263 : Arv Z h259 b253 k253 .int (1 : Int32) [(.int p1)] (.int (0 : Int32)) := Arv.set Ar259 q259 S259 N259 H259 G259 rfl W259 0 rfl (Nat.le_of_ble_eq_true rfl)
  obtain ⟨fs, hr, hrun, hended, hW, hsame⟩ := X259.leave (v := some (.ref b253)) (fun h => by rw [Bd.returns] at h; cases h)
  refine ⟨_, _, pre0 _ ?_, hrun, hended, _, _, rfl, ?_, ⟨_, rfl⟩, hW, hsame.mono (by decide) (by decide)⟩
  ·
    show Steps p.tables e below (s₁.setTop (mkF m 0 #[.val (.int (1 : Int32)), .val (.int p1), .val (.int p2), .val (.int p3)] [])) _
    refine XS.iloadN X0.here hx rfl (hb hby d1_0) rfl ?_
    show Steps p.tables e below (s₁.setTop (mkF m 1 #[.val (.int (1 : Int32)), .val (.int p1), .val (.int p2), .val (.int p3)] [(.int (1 : Int32))])) _
    refine XS.ifYes X0.here hx rfl (pc0 := 1) (pc' := 8) rfl (hb hby d1_1) rfl ((if0 _ _).trans (feq (by decide)).2) (by decide) (by decide) ?_
    show Steps p.tables e below (s₁.setTop (mkF m 8 #[.val (.int (1 : Int32)), .val (.int p1), .val (.int p2), .val (.int p3)] [])) _
    refine XS.iloadN X0.here hx rfl (hb hby d1_8) rfl ?_
    show Steps p.tables e below (s₁.setTop (mkF m 9 #[.val (.int (1 : Int32)), .val (.int p1), .val (.int p2), .val (.int p3)] [(.int (1 : Int32))])) _
    refine XS.iconst X0.here hx rfl (hb hby d1_9) ?_
    show Steps p.tables e below (s₁.setTop (mkF m 10 #[.val (.int (1 : Int32)), .val (.int p1), .val (.int p2), .val (.int p3)] [(.int (1 : Int32)), (.int (1 : Int32))])) _
    refine XS.icmpNo X0.here hx rfl (hb hby d1_10) rfl (teq rfl).2 ?_
    show Steps p.tables e below (s₁.setTop (mkF m 13 #[.val (.int (1 : Int32)), .val (.int p1), .val (.int p2), .val (.int p3)] [])) _
    refine XS.iconst X0.here hx rfl (hb hby d1_13) ?_
    show Steps p.tables e below (s₁.setTop (mkF m 14 #[.val (.int (1 : Int32)), .val (.int p1), .val (.int p2), .val (.int p3)] [(.int (1 : Int32))])) _
    refine st253 _ ?_
    show Steps p.tables e below (T253.setTop (mkF m 16 #[.val (.int (1 : Int32)), .val (.int p1), .val (.int p2), .val (.int p3)] [(.ref b253)])) _
    refine XS.dup X253.here hx rfl (hb hby d1_16) rfl rfl ?_
    show Steps p.tables e below (T253.setTop (mkF m 17 #[.val (.int (1 : Int32)), .val (.int p1), .val (.int p2), .val (.int p3)] [(.ref b253), (.ref b253)])) _
    refine XS.iconst X253.here hx rfl (hb hby d1_17) ?_
    show Steps p.tables e below (T253.setTop (mkF m 18 #[.val (.int (1 : Int32)), .val (.int p1), .val (.int p2), .val (.int p3)] [(.int (0 : Int32)), (.ref b253), (.ref b253)])) _
    refine XS.iloadN X253.here hx rfl (hb hby d1_18) rfl ?_
    show Steps p.tables e below (T253.setTop (mkF m 19 #[.val (.int (1 : Int32)), .val (.int p1), .val (.int p2), .val (.int p3)] [(.int p1), (.int (0 : Int32)), (.ref b253), (.ref b253)])) _
    refine st259 _ ?_
    show Steps p.tables e below (T259.setTop (mkF m 20 #[.val (.int (1 : Int32)), .val (.int p1), .val (.int p2), .val (.int p3)] [(.ref b253)])) _
    exact retA X259 hx rfl rfl Bd.returns (hb hby d1_20) hr
  ·
    show Q_mk1 Z p1 p2 p3 h0 n0 _ T259.heap _
    rw [e259]
    exact ⟨b253, k253, rfl, N262, K261, sz255, f263, kc253⟩
theorem d5_11 : decode prog_29_method_6_code 11 = .ok (.aload_n 0, 1) := by decide +kernel
theorem d5_12 : decode prog_29_method_6_code 12 = .ok (.getfield 7, 3) := by decide +kernel
theorem d5_15 : decode prog_29_method_6_code 15 = .ok (.iload_n 2, 1) := by decide +kernel
theorem d5_16 : decode prog_29_method_6_code 16 = .ok (.iaload, 1) := by decide +kernel
theorem d5_17 : decode prog_29_method_6_code 17 = .ok (.aload_n 1, 1) := by decide +kernel
theorem d5_18 : decode prog_29_method_6_code 18 = .ok (.getfield 7, 3) := by decide +kernel
theorem d5_21 : decode prog_29_method_6_code 21 = .ok (.iload_n 2, 1) := by decide +kernel
theorem d5_22 : decode prog_29_method_6_code 22 = .ok (.iaload, 1) := by decide +kernel
theorem d5_23 : decode prog_29_method_6_code 23 = .ok (.if_icmp .ge 5, 3) := by decide +kernel
theorem d5_26 : decode prog_29_method_6_code 26 = .ok (.iconst 0, 1) := by decide +kernel
theorem d5_27 : decode prog_29_method_6_code 27 = .ok (.ireturn, 1) := by decide +kernel
theorem d5_28 : decode prog_29_method_6_code 28 = .ok (.iinc 2 1, 3) := by decide +kernel
theorem d5_31 : decode prog_29_method_6_code 31 = .ok (.goto (-29), 3) := by decide +kernel
theorem ef_cv1 (m : MethodId) (a0 : Addr) (a1 : Addr) : entryFrame m #[(.ref a0), (.ref a1)] 3 = mkF m 0 #[.val (.ref a0), .val (.ref a1), .unset] [] := by first | (simp [entryFrame, mkF, argsToLocals, Value.category]; done) | rfl
def Q_cv1 (Z : State) (a0 : Addr) (a1 : Addr) (a2 : Addr) (k1 : ClassId) (w0 : Int32) (a3 : Addr) (k2 : ClassId) (v0 : Int32) (h0 : Heap) (n0 : Nat) (v : Option Value) (h : Heap) (L : List Loc) : Prop := v = some (.int (if w0 < v0 then (0 : Int32) else (1 : Int32))) ∧ Fr n0 L ∧ h = h0
set_option maxRecDepth 65536 in
set_option maxHeartbeats 40000000 in
theorem cv1 (l : Launch) (Z : State) (aw : Array Value) (hw : ∀ d ∈ tables_1, d.before aw Z = true) (ws : List Jvm.Cond) (a0 : Addr) (a1 : Addr) (a2 : Addr) (k1 : ClassId) (w0 : Int32) (a3 : Addr) (k2 : ClassId) (v0 : Int32) (h0 : Heap) (n0 : Nat) (Z0 : n0 ≤ h0.size) (F_a0_tokens : Fld Z h0 a0 "com/example/enact/enact/net/Marking" "tokens" "[I" (.ref a2)) (V_a2 : Arv Z h0 a2 k1 .int (1 : Int32) [(.int w0)] (.int (0 : Int32))) (F_a1_tokens : Fld Z h0 a1 "com/example/enact/enact/net/Marking" "tokens" "[I" (.ref a3)) (V_a3 : Arv Z h0 a3 k2 .int (1 : Int32) [(.int v0)] (.int (0 : Int32))) :
    MetFree l (⟨"com/example/enact/enact/net/Marking", "covers", "(Lcom/example/enact/enact/net/Marking;)Z"⟩ : MethodName) (head1 (Jvm.Cond.code (⟨"com/example/enact/enact/net/Marking", "covers", "(Lcom/example/enact/enact/net/Marking;)Z"⟩ : MethodName) prog_29_method_6_code 3 (some .boolean) :: ws) ({ frames := 0, cells := 0, slots := 0, locals := 0 } : Room)) (fun a U => a = #[(.ref a0), (.ref a1)] ∧ Z.Warmed39 U.vm ∧ U.heap = h0) (fun _ _ _ _ _ => True) (fun _ U o U' => ∃ v L, o = .returned v ∧ Q_cv1 Z a0 a1 a2 k1 w0 a3 k2 v0 h0 n0 v U'.heap L ∧ FrameEnd U o U' L ({ frames := 0, cells := 0, slots := 0, locals := 0 } : Room).cells ({ frames := 0, cells := 0, slots := 0, locals := 0 } : Room).slots) := by
  refine MetFree.of_bodySF (plainFor_of_name pn_1) hisR ?_
  intro p e s m args below meth c s₁ Bd hml0 hP hK
  obtain ⟨rfl, hZ, hh⟩ := hP
  have hx := Bd.exec
  have hby := Bd.bytes
  have hml : c.maxLocals = 3 := hml0
  have hown : s.vm.findClass "com/example/enact/enact/net/Marking" = some m.cls := findClass_of_methodNamed Bd.named
  have hnm := (name_of_methodNamed Bd.named Bd.method).1
  have X0 : Stand p l e ({ frames := 0, cells := 0, slots := 0, locals := 0 } : Room) s m #[(.ref a0), (.ref a1)] below meth c s₁ [] 0 0 := Stand.of_body Bd
  have e0 : s₁.heap = h0 := by rw [← hh, Bd.state]; rfl
  have N0 := Fr.nil n0
  have pre0 : ∀ t, Steps p.tables e below (s₁.setTop (mkF m 0 #[.val (.ref a0), .val (.ref a1), .unset] [])) t → Steps p.tables e below (s₁.setTop (entryFrame m #[(.ref a0), (.ref a1)] 3)) t := fun t k => castTop (ef_cv1 m a0 a1) k
  obtain ⟨T264, X264, e264, st264⟩ := getF X0 hx hZ hown (host := "") (Or.inl (hw _ (List.mem_of_getElem? (i := 14) rfl))) Via.refl e0 F_a0_tokens (g := (mkF m 4 #[.val (.ref a0), .val (.ref a1), .val (.int (0 : Int32))] [(.ref a0), (.int (0 : Int32))])) rfl rfl (hb hby d5_4)
  obtain ⟨cl265, Ar265, q265, S265, N265, H265, G265⟩ := id V_a2
  obtain ⟨T266, X266, e266, st266⟩ := getF X264 hx hZ hown (host := "") (Or.inl (hw _ (List.mem_of_getElem? (i := 14) rfl))) Via.refl e264 F_a0_tokens (g := (mkF m 12 #[.val (.ref a0), .val (.ref a1), .val (.int (0 : Int32))] [(.ref a0)])) rfl rfl (hb hby d5_12)
  obtain ⟨cl267, Ar267, q267, S267, N267, H267, G267⟩ := id V_a2
  have hin267 : ¬ ((0 : Int32) < 0 ∨ cl267.slots.size ≤ ((0 : Int32)).toNatClampNeg) := inb_of S267 ⟨by decide, by decide⟩
  have hat267 : cl267.slots[((0 : Int32)).toNatClampNeg]? = some (.int w0) := Has.at H267 hin267 rfl
  obtain ⟨T268, X268, e268, st268⟩ := getF X266 hx hZ hown (host := "") (Or.inl (hw _ (List.mem_of_getElem? (i := 14) rfl))) Via.refl e266 F_a1_tokens (g := (mkF m 18 #[.val (.ref a0), .val (.ref a1), .val (.int (0 : Int32))] [(.ref a1), (.int w0)])) rfl rfl (hb hby d5_18)
  obtain ⟨cl269, Ar269, q269, S269, N269, H269, G269⟩ := id V_a3
  have hin269 : ¬ ((0 : Int32) < 0 ∨ cl269.slots.size ≤ ((0 : Int32)).toNatClampNeg) := inb_of S269 ⟨by decide, by decide⟩
  have hat269 : cl269.slots[((0 : Int32)).toNatClampNeg]? = some (.int v0) := Has.at H269 hin269 rfl
  have pre270 : ∀ t, Steps p.tables e below (T268.setTop (mkF m 23 #[.val (.ref a0), .val (.ref a1), .val (.int (0 : Int32))] [(.int v0), (.int w0)])) t → Steps p.tables e below (s₁.setTop (entryFrame m #[(.ref a0), (.ref a1)] 3)) t := fun t k => by
    refine pre0 t ?_
    show Steps p.tables e below (s₁.setTop (mkF m 0 #[.val (.ref a0), .val (.ref a1), .unset] [])) _
    refine XS.iconst X0.here hx rfl (hb hby d5_0) ?_
    show Steps p.tables e below (s₁.setTop (mkF m 1 #[.val (.ref a0), .val (.ref a1), .unset] [(.int (0 : Int32))])) _
    refine XS.istoreN X0.here hx rfl (hb hby d5_1) rfl (l' := #[.val (.ref a0), .val (.ref a1), .val (.int (0 : Int32))]) rfl ?_
    show Steps p.tables e below (s₁.setTop (mkF m 2 #[.val (.ref a0), .val (.ref a1), .val (.int (0 : Int32))] [])) _
    refine XS.iloadN X0.here hx rfl (hb hby d5_2) rfl ?_
    show Steps p.tables e below (s₁.setTop (mkF m 3 #[.val (.ref a0), .val (.ref a1), .val (.int (0 : Int32))] [(.int (0 : Int32))])) _
    refine XS.aloadN X0.here hx rfl (hb hby d5_3) rfl rfl ?_
    show Steps p.tables e below (s₁.setTop (mkF m 4 #[.val (.ref a0), .val (.ref a1), .val (.int (0 : Int32))] [(.ref a0), (.int (0 : Int32))])) _
    refine st264 _ ?_
    show Steps p.tables e below (T264.setTop (mkF m 7 #[.val (.ref a0), .val (.ref a1), .val (.int (0 : Int32))] [(.ref a2), (.int (0 : Int32))])) _
    refine X264.arraylength hx (by rw [e264]; exact Ar265.1) (State.isArrayOf_alike hZ.alike Ar265.2.1) (g := (mkF m 7 #[.val (.ref a0), .val (.ref a1), .val (.int (0 : Int32))] [(.ref a2), (.int (0 : Int32))])) rfl rfl (hb hby d5_7) _ ?_
    rw [len_of S265 N265]
    show Steps p.tables e below (T264.setTop (mkF m 8 #[.val (.ref a0), .val (.ref a1), .val (.int (0 : Int32))] [(.int (1 : Int32)), (.int (0 : Int32))])) _
    refine XS.icmpNo X264.here hx rfl (hb hby d5_8) rfl (tlt (by decide)).2.1 ?_
    show Steps p.tables e below (T264.setTop (mkF m 11 #[.val (.ref a0), .val (.ref a1), .val (.int (0 : Int32))] [])) _
    refine XS.aloadN X264.here hx rfl (hb hby d5_11) rfl rfl ?_
    show Steps p.tables e below (T264.setTop (mkF m 12 #[.val (.ref a0), .val (.ref a1), .val (.int (0 : Int32))] [(.ref a0)])) _
    refine st266 _ ?_
    show Steps p.tables e below (T266.setTop (mkF m 15 #[.val (.ref a0), .val (.ref a1), .val (.int (0 : Int32))] [(.ref a2)])) _
    refine XS.iloadN X266.here hx rfl (hb hby d5_15) rfl ?_
    show Steps p.tables e below (T266.setTop (mkF m 16 #[.val (.ref a0), .val (.ref a1), .val (.int (0 : Int32))] [(.int (0 : Int32)), (.ref a2)])) _
    refine X266.iaload hx (j := (0 : Int32)) (v := (.int w0)) (by rw [e266]; exact Ar267.1) (State.isArrayOf_alike hZ.alike Ar267.2.1) Ar267.2.2 hin267 hat267 (g := (mkF m 16 #[.val (.ref a0), .val (.ref a1), .val (.int (0 : Int32))] [(.int (0 : Int32)), (.ref a2)])) rfl rfl (hb hby d5_16) _ ?_
    show Steps p.tables e below (T266.setTop (mkF m 17 #[.val (.ref a0), .val (.ref a1), .val (.int (0 : Int32))] [(.int w0)])) _
    refine XS.aloadN X266.here hx rfl (hb hby d5_17) rfl rfl ?_
    show Steps p.tables e below (T266.setTop (mkF m 18 #[.val (.ref a0), .val (.ref a1), .val (.int (0 : Int32))] [(.ref a1), (.int w0)])) _
    refine st268 _ ?_
    show Steps p.tables e below (T268.setTop (mkF m 21 #[.val (.ref a0), .val (.ref a1), .val (.int (0 : Int32))] [(.ref a3), (.int w0)])) _
    refine XS.iloadN X268.here hx rfl (hb hby d5_21) rfl ?_
    show Steps p.tables e below (T268.setTop (mkF m 22 #[.val (.ref a0), .val (.ref a1), .val (.int (0 : Int32))] [(.int (0 : Int32)), (.ref a3), (.int w0)])) _
    refine X268.iaload hx (j := (0 : Int32)) (v := (.int v0)) (by rw [e268]; exact Ar269.1) (State.isArrayOf_alike hZ.alike Ar269.2.1) Ar269.2.2 hin269 hat269 (g := (mkF m 22 #[.val (.ref a0), .val (.ref a1), .val (.int (0 : Int32))] [(.int (0 : Int32)), (.ref a3), (.int w0)])) rfl rfl (hb hby d5_22) _ ?_
    exact k
  by_cases c271 : w0 < v0
  ·
    obtain ⟨fs, hr, hrun, hended, hW, hsame⟩ := X268.leave (v := some (.int (0 : Int32))) (fun h => by rw [Bd.returns] at h; cases h)
    refine ⟨_, _, pre270 _ ?_, hrun, hended, _, _, rfl, ?_, ⟨_, rfl⟩, hW, hsame.mono (by decide) (by decide)⟩
    ·
      show Steps p.tables e below (T268.setTop (mkF m 23 #[.val (.ref a0), .val (.ref a1), .val (.int (0 : Int32))] [(.int v0), (.int w0)])) _
      refine XS.icmpNo X268.here hx rfl (hb hby d5_23) rfl (tlt c271).2.1 ?_
      show Steps p.tables e below (T268.setTop (mkF m 26 #[.val (.ref a0), .val (.ref a1), .val (.int (0 : Int32))] [])) _
      refine XS.iconst X268.here hx rfl (hb hby d5_26) ?_
      show Steps p.tables e below (T268.setTop (mkF m 27 #[.val (.ref a0), .val (.ref a1), .val (.int (0 : Int32))] [(.int (0 : Int32))])) _
      exact retZ X268 hx Bd.returns (by decide) (hb hby d5_27) hr
    ·
      show Q_cv1 Z a0 a1 a2 k1 w0 a3 k2 v0 h0 n0 _ T268.heap _
      rw [e268]
      exact ⟨(by simp only [if_pos c271]), N0, rfl⟩
  ·
    obtain ⟨T272, X272, e272, st272⟩ := getF X268 hx hZ hown (host := "") (Or.inl (hw _ (List.mem_of_getElem? (i := 14) rfl))) Via.refl e268 F_a0_tokens (g := (mkF m 4 #[.val (.ref a0), .val (.ref a1), .val (.int (1 : Int32))] [(.ref a0), (.int (1 : Int32))])) rfl rfl (hb hby d5_4)
    obtain ⟨cl273, Ar273, q273, S273, N273, H273, G273⟩ := id V_a2
    obtain ⟨fs, hr, hrun, hended, hW, hsame⟩ := X272.leave (v := some (.int (1 : Int32))) (fun h => by rw [Bd.returns] at h; cases h)
    refine ⟨_, _, pre270 _ ?_, hrun, hended, _, _, rfl, ?_, ⟨_, rfl⟩, hW, hsame.mono (by decide) (by decide)⟩
    ·
      show Steps p.tables e below (T268.setTop (mkF m 23 #[.val (.ref a0), .val (.ref a1), .val (.int (0 : Int32))] [(.int v0), (.int w0)])) _
      refine XS.icmpYes X268.here hx rfl (pc0 := 23) (pc' := 28) rfl (hb hby d5_23) rfl (flt c271).2.1 (by decide) (by decide) ?_
      show Steps p.tables e below (T268.setTop (mkF m 28 #[.val (.ref a0), .val (.ref a1), .val (.int (0 : Int32))] [])) _
      refine XS.iinc X268.here hx rfl (hb hby d5_28) rfl (l' := #[.val (.ref a0), .val (.ref a1), .val (.int (1 : Int32))]) rfl ?_
      show Steps p.tables e below (T268.setTop (mkF m 31 #[.val (.ref a0), .val (.ref a1), .val (.int (1 : Int32))] [])) _
      refine XS.goto X268.here hx rfl (pc0 := 31) (pc' := 2) rfl (hb hby d5_31) (by decide) (by decide) ?_
      show Steps p.tables e below (T268.setTop (mkF m 2 #[.val (.ref a0), .val (.ref a1), .val (.int (1 : Int32))] [])) _
      refine XS.iloadN X268.here hx rfl (hb hby d5_2) rfl ?_
      show Steps p.tables e below (T268.setTop (mkF m 3 #[.val (.ref a0), .val (.ref a1), .val (.int (1 : Int32))] [(.int (1 : Int32))])) _
      refine XS.aloadN X268.here hx rfl (hb hby d5_3) rfl rfl ?_
      show Steps p.tables e below (T268.setTop (mkF m 4 #[.val (.ref a0), .val (.ref a1), .val (.int (1 : Int32))] [(.ref a0), (.int (1 : Int32))])) _
      refine st272 _ ?_
      show Steps p.tables e below (T272.setTop (mkF m 7 #[.val (.ref a0), .val (.ref a1), .val (.int (1 : Int32))] [(.ref a2), (.int (1 : Int32))])) _
      refine X272.arraylength hx (by rw [e272]; exact Ar273.1) (State.isArrayOf_alike hZ.alike Ar273.2.1) (g := (mkF m 7 #[.val (.ref a0), .val (.ref a1), .val (.int (1 : Int32))] [(.ref a2), (.int (1 : Int32))])) rfl rfl (hb hby d5_7) _ ?_
      rw [len_of S273 N273]
      show Steps p.tables e below (T272.setTop (mkF m 8 #[.val (.ref a0), .val (.ref a1), .val (.int (1 : Int32))] [(.int (1 : Int32)), (.int (1 : Int32))])) _
      refine XS.icmpYes X272.here hx rfl (pc0 := 8) (pc' := 34) rfl (hb hby d5_8) rfl (flt (by decide)).2.1 (by decide) (by decide) ?_
      show Steps p.tables e below (T272.setTop (mkF m 34 #[.val (.ref a0), .val (.ref a1), .val (.int (1 : Int32))] [])) _
      refine XS.iconst X272.here hx rfl (hb hby d5_34) ?_
      show Steps p.tables e below (T272.setTop (mkF m 35 #[.val (.ref a0), .val (.ref a1), .val (.int (1 : Int32))] [(.int (1 : Int32))])) _
      exact retZ X272 hx Bd.returns (by decide) (hb hby d5_35) hr
    ·
      show Q_cv1 Z a0 a1 a2 k1 w0 a3 k2 v0 h0 n0 _ T272.heap _
      rw [e272]
      exact ⟨(by simp only [if_neg c271]), N0, rfl⟩
theorem d1_21 : decode method_3_code 21 = .ok (.iload_n 0, 1) := by decide +kernel
theorem d1_22 : decode method_3_code 22 = .ok (.iconst 2, 1) := by decide +kernel
theorem d1_23 : decode method_3_code 23 = .ok (.if_icmp .ne 15, 3) := by decide +kernel
theorem d1_26 : decode method_3_code 26 = .ok (.iconst 2, 1) := by decide +kernel
theorem d1_27 : decode method_3_code 27 = .ok (.newarray .int, 2) := by decide +kernel
theorem d1_29 : decode method_3_code 29 = .ok (.dup, 1) := by decide +kernel
theorem d1_30 : decode method_3_code 30 = .ok (.iconst 0, 1) := by decide +kernel
theorem d1_31 : decode method_3_code 31 = .ok (.iload_n 1, 1) := by decide +kernel
theorem d1_32 : decode method_3_code 32 = .ok (.iastore, 1) := by decide +kernel
theorem d1_33 : decode method_3_code 33 = .ok (.dup, 1) := by decide +kernel
theorem d1_34 : decode method_3_code 34 = .ok (.iconst 1, 1) := by decide +kernel
theorem d1_35 : decode method_3_code 35 = .ok (.iload_n 2, 1) := by decide +kernel
theorem d1_36 : decode method_3_code 36 = .ok (.iastore, 1) := by decide +kernel
theorem d1_37 : decode method_3_code 37 = .ok (.areturn, 1) := by decide +kernel
theorem ef_mk2 (m : MethodId) (p1 : Int32) (p2 : Int32) (p3 : Int32) : entryFrame m #[(.int (2 : Int32)), (.int p1), (.int p2), (.int p3)] 4 = mkF m 0 #[.val (.int (2 : Int32)), .val (.int p1), .val (.int p2), .val (.int p3)] [] := by first | (simp [entryFrame, mkF, argsToLocals, Value.category]; done) | rfl
def Q_mk2 (Z : State) (p1 : Int32) (p2 : Int32) (p3 : Int32) (h0 : Heap) (n0 : Nat) (v : Option Value) (h : Heap) (L : List Loc) : Prop := ∃ b : Addr, ∃ kb : ClassId, v = some (.ref b) ∧ Fr n0 L ∧ Keep h0 h [] ∧ h0.size ≤ b ∧ Arv Z h b kb .int (2 : Int32) [(.int p1), (.int p2)] (.int (0 : Int32)) ∧ Z.vm.findClass "[I" = some kb
set_option maxRecDepth 65536 in
set_option maxHeartbeats 40000000 in
theorem mk2 (l : Launch) (Z : State) (aw : Array Value) (hw : ∀ d ∈ tables_1, d.before aw Z = true) (ws : List Jvm.Cond) (p1 : Int32) (p2 : Int32) (p3 : Int32) (h0 : Heap) (n0 : Nat) (Z0 : n0 ≤ h0.size) :
    MetFree l (⟨"com/example/enact/enact/net/MarkingCoversPinLaw", "make", "(IIII)[I"⟩ : MethodName) (head1 (Jvm.Cond.code (⟨"com/example/enact/enact/net/MarkingCoversPinLaw", "make", "(IIII)[I"⟩ : MethodName) method_3_code 4 (some (.array .int)) :: ws) ({ frames := 0, cells := 1, slots := 2, locals := 0 } : Room)) (fun a U => a = #[(.int (2 : Int32)), (.int p1), (.int p2), (.int p3)] ∧ Z.Warmed39 U.vm ∧ U.heap = h0) (fun _ _ _ _ _ => True) (fun _ U o U' => ∃ v L, o = .returned v ∧ Q_mk2 Z p1 p2 p3 h0 n0 v U'.heap L ∧ FrameEnd U o U' L ({ frames := 0, cells := 1, slots := 2, locals := 0 } : Room).cells ({ frames := 0, cells := 1, slots := 2, locals := 0 } : Room).slots) := by
  refine MetFree.of_bodySF (plainFor_of_name pn_3) hisR ?_
  intro p e s m args below meth c s₁ Bd hml0 hP hK
  obtain ⟨rfl, hZ, hh⟩ := hP
  have hx := Bd.exec
  have hby := Bd.bytes
  have hml : c.maxLocals = 4 := hml0
  have hown : s.vm.findClass "com/example/enact/enact/net/MarkingCoversPinLaw" = some m.cls := findClass_of_methodNamed Bd.named
  have hnm := (name_of_methodNamed Bd.named Bd.method).1
  have X0 : Stand p l e ({ frames := 0, cells := 1, slots := 2, locals := 0 } : Room) s m #[(.int (2 : Int32)), (.int p1), (.int p2), (.int p3)] below meth c s₁ [] 0 0 := Stand.of_body Bd
  have e0 : s₁.heap = h0 := by rw [← hh, Bd.state]; rfl
  have N0 := Fr.nil n0
  have pre0 : ∀ t, Steps p.tables e below (s₁.setTop (mkF m 0 #[.val (.int (2 : Int32)), .val (.int p1), .val (.int p2), .val (.int p3)] [])) t → Steps p.tables e below (s₁.setTop (entryFrame m #[(.int (2 : Int32)), (.int p1), (.int p2), (.int p3)] 4)) t := fun t k => castTop (ef_mk2 m p1 p2 p3) k
  have KC0 : Keep h0 h0 [] := Keep.refl h0 []
  obtain ⟨T274, h274, k274, X274, e274, E274, A274, kc274, st274⟩ := newPk X0 hx hZ (hw _ (List.mem_of_getElem? (i := 4) rfl)) e0 (g := (mkF m 27 #[.val (.int (2 : Int32)), .val (.int p1), .val (.int p2), .val (.int p3)] [(.int (2 : Int32))])) rfl (hb hby d1_27) rfl (by decide) (cap := 2) (by decide) (by decide) (by decide) (by decide)
  obtain ⟨b274, g274⟩ : ∃ z, z = h0.size := ⟨_, rfl⟩
  rw [← g274] at A274 st274
  have gn275 : n0 ≤ b274 := Nat.le_trans Z0 (Nat.le_of_eq g274.symm)
  have sz276 : h0.size ≤ b274 := Nat.le_trans KC0.1 (Nat.le_of_eq g274.symm)
  have Z277 : n0 ≤ h274.size := Nat.le_trans Z0 E274.1
  have K278 : Keep h0 h274 [] := Keep.ext KC0 E274
  have f279 : Arv Z h274 b274 k274 .int (2 : Int32) [(.int (0 : Int32)), (.int (0 : Int32))] (.int (0 : Int32)) := (Arv.new A274 (by decide)).pad (pad_rep [] (.int (0 : Int32)) 2)
  obtain ⟨cl280, Ar280, q280, S280, N280, H280, G280⟩ := id f279
  have hin280 : ¬ ((0 : Int32) < 0 ∨ cl280.slots.size ≤ ((0 : Int32)).toNatClampNeg) := inb_of S280 ⟨by decide, by decide⟩
  obtain ⟨T280, h280, X280, e280, W280, st280⟩ := stI X274 hx hZ e274 Ar280 (j := (0 : Int32)) hin280 (g := (mkF m 32 #[.val (.int (2 : Int32)), .val (.int p1), .val (.int p2), .val (.int p3)] [(.int p1), (.int (0 : Int32)), (.ref b274), (.ref b274)])) rfl rfl (hb hby d1_32)
  have Z281 : n0 ≤ h280.size := Nat.le_trans Z277 (Keep.of_wr W280).1
  have K282 : Keep h0 h280 [] := Keep.wr K278 W280 (Or.inr sz276)
  have N283 := Fr.snoc X280 N0 gn275
  have f284 : Arv Z h280 b274 k274 .int (2 : Int32) [(.int p1), (.int (0 : Int32))] (.int (0 : Int32)) := Arv.set Ar280 q280 S280 N280 H280 G280 rfl W280 0 rfl (Nat.le_of_ble_eq_true rfl)
  obtain ⟨cl285, Ar285, q285, S285, N285, H285, G285⟩ := id f284
  have hin285 : ¬ ((1 : Int32) < 0 ∨ cl285.slots.size ≤ ((1 : Int32)).toNatClampNeg) := inb_of S285 ⟨by decide, by decide⟩
  obtain ⟨T285, h285, X285, e285, W285, st285⟩ := stI X280 hx hZ e280 Ar285 (j := (1 : Int32)) hin285 (g := (mkF m 36 #[.val (.int (2 : Int32)), .val (.int p1), .val (.int p2), .val (.int p3)] [(.int p2), (.int (1 : Int32)), (.ref b274), (.ref b274)])) rfl rfl (hb hby d1_36)
  have Z286 : n0 ≤ h285.size := Nat.le_trans Z281 (Keep.of_wr W285).1
  have K287 : Keep h0 h285 [] := Keep.wr K282 W285 (Or.inr sz276)
  have N288 := Fr.snoc X285 N283 gn275
  have f289 : Arv Z h285 b274 k274 .int (2 : Int32) [(.int p1), (.int p2)] (.int (0 : Int32)) := Arv.set Ar285 q285 S285 N285 H285 G285 rfl W285 1 rfl (Nat.le_of_ble_eq_true rfl)
  obtain ⟨fs, hr, hrun, hended, hW, hsame⟩ := X285.leave (v := some (.ref b274)) (fun h => by rw [Bd.returns] at h; cases h)
  refine ⟨_, _, pre0 _ ?_, hrun, hended, _, _, rfl, ?_, ⟨_, rfl⟩, hW, hsame.mono (by decide) (by decide)⟩
  ·
    show Steps p.tables e below (s₁.setTop (mkF m 0 #[.val (.int (2 : Int32)), .val (.int p1), .val (.int p2), .val (.int p3)] [])) _
    refine XS.iloadN X0.here hx rfl (hb hby d1_0) rfl ?_
    show Steps p.tables e below (s₁.setTop (mkF m 1 #[.val (.int (2 : Int32)), .val (.int p1), .val (.int p2), .val (.int p3)] [(.int (2 : Int32))])) _
    refine XS.ifYes X0.here hx rfl (pc0 := 1) (pc' := 8) rfl (hb hby d1_1) rfl ((if0 _ _).trans (feq (by decide)).2) (by decide) (by decide) ?_
    show Steps p.tables e below (s₁.setTop (mkF m 8 #[.val (.int (2 : Int32)), .val (.int p1), .val (.int p2), .val (.int p3)] [])) _
    refine XS.iloadN X0.here hx rfl (hb hby d1_8) rfl ?_
    show Steps p.tables e below (s₁.setTop (mkF m 9 #[.val (.int (2 : Int32)), .val (.int p1), .val (.int p2), .val (.int p3)] [(.int (2 : Int32))])) _
    refine XS.iconst X0.here hx rfl (hb hby d1_9) ?_
    show Steps p.tables e below (s₁.setTop (mkF m 10 #[.val (.int (2 : Int32)), .val (.int p1), .val (.int p2), .val (.int p3)] [(.int (1 : Int32)), (.int (2 : Int32))])) _
    refine XS.icmpYes X0.here hx rfl (pc0 := 10) (pc' := 21) rfl (hb hby d1_10) rfl (feq (by decide)).2 (by decide) (by decide) ?_
    show Steps p.tables e below (s₁.setTop (mkF m 21 #[.val (.int (2 : Int32)), .val (.int p1), .val (.int p2), .val (.int p3)] [])) _
    refine XS.iloadN X0.here hx rfl (hb hby d1_21) rfl ?_
    show Steps p.tables e below (s₁.setTop (mkF m 22 #[.val (.int (2 : Int32)), .val (.int p1), .val (.int p2), .val (.int p3)] [(.int (2 : Int32))])) _
    refine XS.iconst X0.here hx rfl (hb hby d1_22) ?_
    show Steps p.tables e below (s₁.setTop (mkF m 23 #[.val (.int (2 : Int32)), .val (.int p1), .val (.int p2), .val (.int p3)] [(.int (2 : Int32)), (.int (2 : Int32))])) _
    refine XS.icmpNo X0.here hx rfl (hb hby d1_23) rfl (teq rfl).2 ?_
    show Steps p.tables e below (s₁.setTop (mkF m 26 #[.val (.int (2 : Int32)), .val (.int p1), .val (.int p2), .val (.int p3)] [])) _
    refine XS.iconst X0.here hx rfl (hb hby d1_26) ?_
    show Steps p.tables e below (s₁.setTop (mkF m 27 #[.val (.int (2 : Int32)), .val (.int p1), .val (.int p2), .val (.int p3)] [(.int (2 : Int32))])) _
    refine st274 _ ?_
    show Steps p.tables e below (T274.setTop (mkF m 29 #[.val (.int (2 : Int32)), .val (.int p1), .val (.int p2), .val (.int p3)] [(.ref b274)])) _
    refine XS.dup X274.here hx rfl (hb hby d1_29) rfl rfl ?_
    show Steps p.tables e below (T274.setTop (mkF m 30 #[.val (.int (2 : Int32)), .val (.int p1), .val (.int p2), .val (.int p3)] [(.ref b274), (.ref b274)])) _
    refine XS.iconst X274.here hx rfl (hb hby d1_30) ?_
    show Steps p.tables e below (T274.setTop (mkF m 31 #[.val (.int (2 : Int32)), .val (.int p1), .val (.int p2), .val (.int p3)] [(.int (0 : Int32)), (.ref b274), (.ref b274)])) _
    refine XS.iloadN X274.here hx rfl (hb hby d1_31) rfl ?_
    show Steps p.tables e below (T274.setTop (mkF m 32 #[.val (.int (2 : Int32)), .val (.int p1), .val (.int p2), .val (.int p3)] [(.int p1), (.int (0 : Int32)), (.ref b274), (.ref b274)])) _
    refine st280 _ ?_
    show Steps p.tables e below (T280.setTop (mkF m 33 #[.val (.int (2 : Int32)), .val (.int p1), .val (.int p2), .val (.int p3)] [(.ref b274)])) _
    refine XS.dup X280.here hx rfl (hb hby d1_33) rfl rfl ?_
    show Steps p.tables e below (T280.setTop (mkF m 34 #[.val (.int (2 : Int32)), .val (.int p1), .val (.int p2), .val (.int p3)] [(.ref b274), (.ref b274)])) _
    refine XS.iconst X280.here hx rfl (hb hby d1_34) ?_
    show Steps p.tables e below (T280.setTop (mkF m 35 #[.val (.int (2 : Int32)), .val (.int p1), .val (.int p2), .val (.int p3)] [(.int (1 : Int32)), (.ref b274), (.ref b274)])) _
    refine XS.iloadN X280.here hx rfl (hb hby d1_35) rfl ?_
    show Steps p.tables e below (T280.setTop (mkF m 36 #[.val (.int (2 : Int32)), .val (.int p1), .val (.int p2), .val (.int p3)] [(.int p2), (.int (1 : Int32)), (.ref b274), (.ref b274)])) _
    refine st285 _ ?_
    show Steps p.tables e below (T285.setTop (mkF m 37 #[.val (.int (2 : Int32)), .val (.int p1), .val (.int p2), .val (.int p3)] [(.ref b274)])) _
    exact retA X285 hx rfl rfl Bd.returns (hb hby d1_37) hr
  ·
    show Q_mk2 Z p1 p2 p3 h0 n0 _ T285.heap _
    rw [e285]
    exact ⟨b274, k274, rfl, N288, K287, sz276, f289, kc274⟩
theorem ef_cv2 (m : MethodId) (a0 : Addr) (a1 : Addr) : entryFrame m #[(.ref a0), (.ref a1)] 3 = mkF m 0 #[.val (.ref a0), .val (.ref a1), .unset] [] := by first | (simp [entryFrame, mkF, argsToLocals, Value.category]; done) | rfl
def Q_cv2 (Z : State) (a0 : Addr) (a1 : Addr) (a2 : Addr) (k1 : ClassId) (w0 : Int32) (w1 : Int32) (a3 : Addr) (k2 : ClassId) (v0 : Int32) (v1 : Int32) (h0 : Heap) (n0 : Nat) (v : Option Value) (h : Heap) (L : List Loc) : Prop := v = some (.int (if w0 < v0 then (0 : Int32) else (if w1 < v1 then (0 : Int32) else (1 : Int32)))) ∧ Fr n0 L ∧ h = h0
set_option maxRecDepth 65536 in
set_option maxHeartbeats 40000000 in
theorem cv2 (l : Launch) (Z : State) (aw : Array Value) (hw : ∀ d ∈ tables_1, d.before aw Z = true) (ws : List Jvm.Cond) (a0 : Addr) (a1 : Addr) (a2 : Addr) (k1 : ClassId) (w0 : Int32) (w1 : Int32) (a3 : Addr) (k2 : ClassId) (v0 : Int32) (v1 : Int32) (h0 : Heap) (n0 : Nat) (Z0 : n0 ≤ h0.size) (F_a0_tokens : Fld Z h0 a0 "com/example/enact/enact/net/Marking" "tokens" "[I" (.ref a2)) (V_a2 : Arv Z h0 a2 k1 .int (2 : Int32) [(.int w0), (.int w1)] (.int (0 : Int32))) (F_a1_tokens : Fld Z h0 a1 "com/example/enact/enact/net/Marking" "tokens" "[I" (.ref a3)) (V_a3 : Arv Z h0 a3 k2 .int (2 : Int32) [(.int v0), (.int v1)] (.int (0 : Int32))) :
    MetFree l (⟨"com/example/enact/enact/net/Marking", "covers", "(Lcom/example/enact/enact/net/Marking;)Z"⟩ : MethodName) (head1 (Jvm.Cond.code (⟨"com/example/enact/enact/net/Marking", "covers", "(Lcom/example/enact/enact/net/Marking;)Z"⟩ : MethodName) prog_29_method_6_code 3 (some .boolean) :: ws) ({ frames := 0, cells := 0, slots := 0, locals := 0 } : Room)) (fun a U => a = #[(.ref a0), (.ref a1)] ∧ Z.Warmed39 U.vm ∧ U.heap = h0) (fun _ _ _ _ _ => True) (fun _ U o U' => ∃ v L, o = .returned v ∧ Q_cv2 Z a0 a1 a2 k1 w0 w1 a3 k2 v0 v1 h0 n0 v U'.heap L ∧ FrameEnd U o U' L ({ frames := 0, cells := 0, slots := 0, locals := 0 } : Room).cells ({ frames := 0, cells := 0, slots := 0, locals := 0 } : Room).slots) := by
  refine MetFree.of_bodySF (plainFor_of_name pn_1) hisR ?_
  intro p e s m args below meth c s₁ Bd hml0 hP hK
  obtain ⟨rfl, hZ, hh⟩ := hP
  have hx := Bd.exec
  have hby := Bd.bytes
  have hml : c.maxLocals = 3 := hml0
  have hown : s.vm.findClass "com/example/enact/enact/net/Marking" = some m.cls := findClass_of_methodNamed Bd.named
  have hnm := (name_of_methodNamed Bd.named Bd.method).1
  have X0 : Stand p l e ({ frames := 0, cells := 0, slots := 0, locals := 0 } : Room) s m #[(.ref a0), (.ref a1)] below meth c s₁ [] 0 0 := Stand.of_body Bd
  have e0 : s₁.heap = h0 := by rw [← hh, Bd.state]; rfl
  have N0 := Fr.nil n0
  have pre0 : ∀ t, Steps p.tables e below (s₁.setTop (mkF m 0 #[.val (.ref a0), .val (.ref a1), .unset] [])) t → Steps p.tables e below (s₁.setTop (entryFrame m #[(.ref a0), (.ref a1)] 3)) t := fun t k => castTop (ef_cv2 m a0 a1) k
  obtain ⟨T290, X290, e290, st290⟩ := getF X0 hx hZ hown (host := "") (Or.inl (hw _ (List.mem_of_getElem? (i := 14) rfl))) Via.refl e0 F_a0_tokens (g := (mkF m 4 #[.val (.ref a0), .val (.ref a1), .val (.int (0 : Int32))] [(.ref a0), (.int (0 : Int32))])) rfl rfl (hb hby d5_4)
  obtain ⟨cl291, Ar291, q291, S291, N291, H291, G291⟩ := id V_a2
  obtain ⟨T292, X292, e292, st292⟩ := getF X290 hx hZ hown (host := "") (Or.inl (hw _ (List.mem_of_getElem? (i := 14) rfl))) Via.refl e290 F_a0_tokens (g := (mkF m 12 #[.val (.ref a0), .val (.ref a1), .val (.int (0 : Int32))] [(.ref a0)])) rfl rfl (hb hby d5_12)
  obtain ⟨cl293, Ar293, q293, S293, N293, H293, G293⟩ := id V_a2
  have hin293 : ¬ ((0 : Int32) < 0 ∨ cl293.slots.size ≤ ((0 : Int32)).toNatClampNeg) := inb_of S293 ⟨by decide, by decide⟩
  have hat293 : cl293.slots[((0 : Int32)).toNatClampNeg]? = some (.int w0) := Has.at H293 hin293 rfl
  obtain ⟨T294, X294, e294, st294⟩ := getF X292 hx hZ hown (host := "") (Or.inl (hw _ (List.mem_of_getElem? (i := 14) rfl))) Via.refl e292 F_a1_tokens (g := (mkF m 18 #[.val (.ref a0), .val (.ref a1), .val (.int (0 : Int32))] [(.ref a1), (.int w0)])) rfl rfl (hb hby d5_18)
  obtain ⟨cl295, Ar295, q295, S295, N295, H295, G295⟩ := id V_a3
  have hin295 : ¬ ((0 : Int32) < 0 ∨ cl295.slots.size ≤ ((0 : Int32)).toNatClampNeg) := inb_of S295 ⟨by decide, by decide⟩
  have hat295 : cl295.slots[((0 : Int32)).toNatClampNeg]? = some (.int v0) := Has.at H295 hin295 rfl
  have pre296 : ∀ t, Steps p.tables e below (T294.setTop (mkF m 23 #[.val (.ref a0), .val (.ref a1), .val (.int (0 : Int32))] [(.int v0), (.int w0)])) t → Steps p.tables e below (s₁.setTop (entryFrame m #[(.ref a0), (.ref a1)] 3)) t := fun t k => by
    refine pre0 t ?_
    show Steps p.tables e below (s₁.setTop (mkF m 0 #[.val (.ref a0), .val (.ref a1), .unset] [])) _
    refine XS.iconst X0.here hx rfl (hb hby d5_0) ?_
    show Steps p.tables e below (s₁.setTop (mkF m 1 #[.val (.ref a0), .val (.ref a1), .unset] [(.int (0 : Int32))])) _
    refine XS.istoreN X0.here hx rfl (hb hby d5_1) rfl (l' := #[.val (.ref a0), .val (.ref a1), .val (.int (0 : Int32))]) rfl ?_
    show Steps p.tables e below (s₁.setTop (mkF m 2 #[.val (.ref a0), .val (.ref a1), .val (.int (0 : Int32))] [])) _
    refine XS.iloadN X0.here hx rfl (hb hby d5_2) rfl ?_
    show Steps p.tables e below (s₁.setTop (mkF m 3 #[.val (.ref a0), .val (.ref a1), .val (.int (0 : Int32))] [(.int (0 : Int32))])) _
    refine XS.aloadN X0.here hx rfl (hb hby d5_3) rfl rfl ?_
    show Steps p.tables e below (s₁.setTop (mkF m 4 #[.val (.ref a0), .val (.ref a1), .val (.int (0 : Int32))] [(.ref a0), (.int (0 : Int32))])) _
    refine st290 _ ?_
    show Steps p.tables e below (T290.setTop (mkF m 7 #[.val (.ref a0), .val (.ref a1), .val (.int (0 : Int32))] [(.ref a2), (.int (0 : Int32))])) _
    refine X290.arraylength hx (by rw [e290]; exact Ar291.1) (State.isArrayOf_alike hZ.alike Ar291.2.1) (g := (mkF m 7 #[.val (.ref a0), .val (.ref a1), .val (.int (0 : Int32))] [(.ref a2), (.int (0 : Int32))])) rfl rfl (hb hby d5_7) _ ?_
    rw [len_of S291 N291]
    show Steps p.tables e below (T290.setTop (mkF m 8 #[.val (.ref a0), .val (.ref a1), .val (.int (0 : Int32))] [(.int (2 : Int32)), (.int (0 : Int32))])) _
    refine XS.icmpNo X290.here hx rfl (hb hby d5_8) rfl (tlt (by decide)).2.1 ?_
    show Steps p.tables e below (T290.setTop (mkF m 11 #[.val (.ref a0), .val (.ref a1), .val (.int (0 : Int32))] [])) _
    refine XS.aloadN X290.here hx rfl (hb hby d5_11) rfl rfl ?_
    show Steps p.tables e below (T290.setTop (mkF m 12 #[.val (.ref a0), .val (.ref a1), .val (.int (0 : Int32))] [(.ref a0)])) _
    refine st292 _ ?_
    show Steps p.tables e below (T292.setTop (mkF m 15 #[.val (.ref a0), .val (.ref a1), .val (.int (0 : Int32))] [(.ref a2)])) _
    refine XS.iloadN X292.here hx rfl (hb hby d5_15) rfl ?_
    show Steps p.tables e below (T292.setTop (mkF m 16 #[.val (.ref a0), .val (.ref a1), .val (.int (0 : Int32))] [(.int (0 : Int32)), (.ref a2)])) _
    refine X292.iaload hx (j := (0 : Int32)) (v := (.int w0)) (by rw [e292]; exact Ar293.1) (State.isArrayOf_alike hZ.alike Ar293.2.1) Ar293.2.2 hin293 hat293 (g := (mkF m 16 #[.val (.ref a0), .val (.ref a1), .val (.int (0 : Int32))] [(.int (0 : Int32)), (.ref a2)])) rfl rfl (hb hby d5_16) _ ?_
    show Steps p.tables e below (T292.setTop (mkF m 17 #[.val (.ref a0), .val (.ref a1), .val (.int (0 : Int32))] [(.int w0)])) _
    refine XS.aloadN X292.here hx rfl (hb hby d5_17) rfl rfl ?_
    show Steps p.tables e below (T292.setTop (mkF m 18 #[.val (.ref a0), .val (.ref a1), .val (.int (0 : Int32))] [(.ref a1), (.int w0)])) _
    refine st294 _ ?_
    show Steps p.tables e below (T294.setTop (mkF m 21 #[.val (.ref a0), .val (.ref a1), .val (.int (0 : Int32))] [(.ref a3), (.int w0)])) _
    refine XS.iloadN X294.here hx rfl (hb hby d5_21) rfl ?_
    show Steps p.tables e below (T294.setTop (mkF m 22 #[.val (.ref a0), .val (.ref a1), .val (.int (0 : Int32))] [(.int (0 : Int32)), (.ref a3), (.int w0)])) _
    refine X294.iaload hx (j := (0 : Int32)) (v := (.int v0)) (by rw [e294]; exact Ar295.1) (State.isArrayOf_alike hZ.alike Ar295.2.1) Ar295.2.2 hin295 hat295 (g := (mkF m 22 #[.val (.ref a0), .val (.ref a1), .val (.int (0 : Int32))] [(.int (0 : Int32)), (.ref a3), (.int w0)])) rfl rfl (hb hby d5_22) _ ?_
    exact k
  by_cases c297 : w0 < v0
  ·
    obtain ⟨fs, hr, hrun, hended, hW, hsame⟩ := X294.leave (v := some (.int (0 : Int32))) (fun h => by rw [Bd.returns] at h; cases h)
    refine ⟨_, _, pre296 _ ?_, hrun, hended, _, _, rfl, ?_, ⟨_, rfl⟩, hW, hsame.mono (by decide) (by decide)⟩
    ·
      show Steps p.tables e below (T294.setTop (mkF m 23 #[.val (.ref a0), .val (.ref a1), .val (.int (0 : Int32))] [(.int v0), (.int w0)])) _
      refine XS.icmpNo X294.here hx rfl (hb hby d5_23) rfl (tlt c297).2.1 ?_
      show Steps p.tables e below (T294.setTop (mkF m 26 #[.val (.ref a0), .val (.ref a1), .val (.int (0 : Int32))] [])) _
      refine XS.iconst X294.here hx rfl (hb hby d5_26) ?_
      show Steps p.tables e below (T294.setTop (mkF m 27 #[.val (.ref a0), .val (.ref a1), .val (.int (0 : Int32))] [(.int (0 : Int32))])) _
      exact retZ X294 hx Bd.returns (by decide) (hb hby d5_27) hr
    ·
      show Q_cv2 Z a0 a1 a2 k1 w0 w1 a3 k2 v0 v1 h0 n0 _ T294.heap _
      rw [e294]
      exact ⟨(by simp only [if_pos c297]), N0, rfl⟩
  ·
    obtain ⟨T298, X298, e298, st298⟩ := getF X294 hx hZ hown (host := "") (Or.inl (hw _ (List.mem_of_getElem? (i := 14) rfl))) Via.refl e294 F_a0_tokens (g := (mkF m 4 #[.val (.ref a0), .val (.ref a1), .val (.int (1 : Int32))] [(.ref a0), (.int (1 : Int32))])) rfl rfl (hb hby d5_4)
    obtain ⟨cl299, Ar299, q299, S299, N299, H299, G299⟩ := id V_a2
    obtain ⟨T300, X300, e300, st300⟩ := getF X298 hx hZ hown (host := "") (Or.inl (hw _ (List.mem_of_getElem? (i := 14) rfl))) Via.refl e298 F_a0_tokens (g := (mkF m 12 #[.val (.ref a0), .val (.ref a1), .val (.int (1 : Int32))] [(.ref a0)])) rfl rfl (hb hby d5_12)
    obtain ⟨cl301, Ar301, q301, S301, N301, H301, G301⟩ := id V_a2
    have hin301 : ¬ ((1 : Int32) < 0 ∨ cl301.slots.size ≤ ((1 : Int32)).toNatClampNeg) := inb_of S301 ⟨by decide, by decide⟩
    have hat301 : cl301.slots[((1 : Int32)).toNatClampNeg]? = some (.int w1) := Has.at H301 hin301 rfl
    obtain ⟨T302, X302, e302, st302⟩ := getF X300 hx hZ hown (host := "") (Or.inl (hw _ (List.mem_of_getElem? (i := 14) rfl))) Via.refl e300 F_a1_tokens (g := (mkF m 18 #[.val (.ref a0), .val (.ref a1), .val (.int (1 : Int32))] [(.ref a1), (.int w1)])) rfl rfl (hb hby d5_18)
    obtain ⟨cl303, Ar303, q303, S303, N303, H303, G303⟩ := id V_a3
    have hin303 : ¬ ((1 : Int32) < 0 ∨ cl303.slots.size ≤ ((1 : Int32)).toNatClampNeg) := inb_of S303 ⟨by decide, by decide⟩
    have hat303 : cl303.slots[((1 : Int32)).toNatClampNeg]? = some (.int v1) := Has.at H303 hin303 rfl
    have pre304 : ∀ t, Steps p.tables e below (T302.setTop (mkF m 23 #[.val (.ref a0), .val (.ref a1), .val (.int (1 : Int32))] [(.int v1), (.int w1)])) t → Steps p.tables e below (s₁.setTop (entryFrame m #[(.ref a0), (.ref a1)] 3)) t := fun t k => by
      refine pre296 t ?_
      show Steps p.tables e below (T294.setTop (mkF m 23 #[.val (.ref a0), .val (.ref a1), .val (.int (0 : Int32))] [(.int v0), (.int w0)])) _
      refine XS.icmpYes X294.here hx rfl (pc0 := 23) (pc' := 28) rfl (hb hby d5_23) rfl (flt c297).2.1 (by decide) (by decide) ?_
      show Steps p.tables e below (T294.setTop (mkF m 28 #[.val (.ref a0), .val (.ref a1), .val (.int (0 : Int32))] [])) _
      refine XS.iinc X294.here hx rfl (hb hby d5_28) rfl (l' := #[.val (.ref a0), .val (.ref a1), .val (.int (1 : Int32))]) rfl ?_
      show Steps p.tables e below (T294.setTop (mkF m 31 #[.val (.ref a0), .val (.ref a1), .val (.int (1 : Int32))] [])) _
      refine XS.goto X294.here hx rfl (pc0 := 31) (pc' := 2) rfl (hb hby d5_31) (by decide) (by decide) ?_
      show Steps p.tables e below (T294.setTop (mkF m 2 #[.val (.ref a0), .val (.ref a1), .val (.int (1 : Int32))] [])) _
      refine XS.iloadN X294.here hx rfl (hb hby d5_2) rfl ?_
      show Steps p.tables e below (T294.setTop (mkF m 3 #[.val (.ref a0), .val (.ref a1), .val (.int (1 : Int32))] [(.int (1 : Int32))])) _
      refine XS.aloadN X294.here hx rfl (hb hby d5_3) rfl rfl ?_
      show Steps p.tables e below (T294.setTop (mkF m 4 #[.val (.ref a0), .val (.ref a1), .val (.int (1 : Int32))] [(.ref a0), (.int (1 : Int32))])) _
      refine st298 _ ?_
      show Steps p.tables e below (T298.setTop (mkF m 7 #[.val (.ref a0), .val (.ref a1), .val (.int (1 : Int32))] [(.ref a2), (.int (1 : Int32))])) _
      refine X298.arraylength hx (by rw [e298]; exact Ar299.1) (State.isArrayOf_alike hZ.alike Ar299.2.1) (g := (mkF m 7 #[.val (.ref a0), .val (.ref a1), .val (.int (1 : Int32))] [(.ref a2), (.int (1 : Int32))])) rfl rfl (hb hby d5_7) _ ?_
      rw [len_of S299 N299]
      show Steps p.tables e below (T298.setTop (mkF m 8 #[.val (.ref a0), .val (.ref a1), .val (.int (1 : Int32))] [(.int (2 : Int32)), (.int (1 : Int32))])) _
      refine XS.icmpNo X298.here hx rfl (hb hby d5_8) rfl (tlt (by decide)).2.1 ?_
      show Steps p.tables e below (T298.setTop (mkF m 11 #[.val (.ref a0), .val (.ref a1), .val (.int (1 : Int32))] [])) _
      refine XS.aloadN X298.here hx rfl (hb hby d5_11) rfl rfl ?_
      show Steps p.tables e below (T298.setTop (mkF m 12 #[.val (.ref a0), .val (.ref a1), .val (.int (1 : Int32))] [(.ref a0)])) _
      refine st300 _ ?_
      show Steps p.tables e below (T300.setTop (mkF m 15 #[.val (.ref a0), .val (.ref a1), .val (.int (1 : Int32))] [(.ref a2)])) _
      refine XS.iloadN X300.here hx rfl (hb hby d5_15) rfl ?_
      show Steps p.tables e below (T300.setTop (mkF m 16 #[.val (.ref a0), .val (.ref a1), .val (.int (1 : Int32))] [(.int (1 : Int32)), (.ref a2)])) _
      refine X300.iaload hx (j := (1 : Int32)) (v := (.int w1)) (by rw [e300]; exact Ar301.1) (State.isArrayOf_alike hZ.alike Ar301.2.1) Ar301.2.2 hin301 hat301 (g := (mkF m 16 #[.val (.ref a0), .val (.ref a1), .val (.int (1 : Int32))] [(.int (1 : Int32)), (.ref a2)])) rfl rfl (hb hby d5_16) _ ?_
      show Steps p.tables e below (T300.setTop (mkF m 17 #[.val (.ref a0), .val (.ref a1), .val (.int (1 : Int32))] [(.int w1)])) _
      refine XS.aloadN X300.here hx rfl (hb hby d5_17) rfl rfl ?_
      show Steps p.tables e below (T300.setTop (mkF m 18 #[.val (.ref a0), .val (.ref a1), .val (.int (1 : Int32))] [(.ref a1), (.int w1)])) _
      refine st302 _ ?_
      show Steps p.tables e below (T302.setTop (mkF m 21 #[.val (.ref a0), .val (.ref a1), .val (.int (1 : Int32))] [(.ref a3), (.int w1)])) _
      refine XS.iloadN X302.here hx rfl (hb hby d5_21) rfl ?_
      show Steps p.tables e below (T302.setTop (mkF m 22 #[.val (.ref a0), .val (.ref a1), .val (.int (1 : Int32))] [(.int (1 : Int32)), (.ref a3), (.int w1)])) _
      refine X302.iaload hx (j := (1 : Int32)) (v := (.int v1)) (by rw [e302]; exact Ar303.1) (State.isArrayOf_alike hZ.alike Ar303.2.1) Ar303.2.2 hin303 hat303 (g := (mkF m 22 #[.val (.ref a0), .val (.ref a1), .val (.int (1 : Int32))] [(.int (1 : Int32)), (.ref a3), (.int w1)])) rfl rfl (hb hby d5_22) _ ?_
      exact k
    by_cases c305 : w1 < v1
    ·
      obtain ⟨fs, hr, hrun, hended, hW, hsame⟩ := X302.leave (v := some (.int (0 : Int32))) (fun h => by rw [Bd.returns] at h; cases h)
      refine ⟨_, _, pre304 _ ?_, hrun, hended, _, _, rfl, ?_, ⟨_, rfl⟩, hW, hsame.mono (by decide) (by decide)⟩
      ·
        show Steps p.tables e below (T302.setTop (mkF m 23 #[.val (.ref a0), .val (.ref a1), .val (.int (1 : Int32))] [(.int v1), (.int w1)])) _
        refine XS.icmpNo X302.here hx rfl (hb hby d5_23) rfl (tlt c305).2.1 ?_
        show Steps p.tables e below (T302.setTop (mkF m 26 #[.val (.ref a0), .val (.ref a1), .val (.int (1 : Int32))] [])) _
        refine XS.iconst X302.here hx rfl (hb hby d5_26) ?_
        show Steps p.tables e below (T302.setTop (mkF m 27 #[.val (.ref a0), .val (.ref a1), .val (.int (1 : Int32))] [(.int (0 : Int32))])) _
        exact retZ X302 hx Bd.returns (by decide) (hb hby d5_27) hr
      ·
        show Q_cv2 Z a0 a1 a2 k1 w0 w1 a3 k2 v0 v1 h0 n0 _ T302.heap _
        rw [e302]
        exact ⟨(by simp only [if_neg c297, if_pos c305]), N0, rfl⟩
    ·
      obtain ⟨T306, X306, e306, st306⟩ := getF X302 hx hZ hown (host := "") (Or.inl (hw _ (List.mem_of_getElem? (i := 14) rfl))) Via.refl e302 F_a0_tokens (g := (mkF m 4 #[.val (.ref a0), .val (.ref a1), .val (.int (2 : Int32))] [(.ref a0), (.int (2 : Int32))])) rfl rfl (hb hby d5_4)
      obtain ⟨cl307, Ar307, q307, S307, N307, H307, G307⟩ := id V_a2
      obtain ⟨fs, hr, hrun, hended, hW, hsame⟩ := X306.leave (v := some (.int (1 : Int32))) (fun h => by rw [Bd.returns] at h; cases h)
      refine ⟨_, _, pre304 _ ?_, hrun, hended, _, _, rfl, ?_, ⟨_, rfl⟩, hW, hsame.mono (by decide) (by decide)⟩
      ·
        show Steps p.tables e below (T302.setTop (mkF m 23 #[.val (.ref a0), .val (.ref a1), .val (.int (1 : Int32))] [(.int v1), (.int w1)])) _
        refine XS.icmpYes X302.here hx rfl (pc0 := 23) (pc' := 28) rfl (hb hby d5_23) rfl (flt c305).2.1 (by decide) (by decide) ?_
        show Steps p.tables e below (T302.setTop (mkF m 28 #[.val (.ref a0), .val (.ref a1), .val (.int (1 : Int32))] [])) _
        refine XS.iinc X302.here hx rfl (hb hby d5_28) rfl (l' := #[.val (.ref a0), .val (.ref a1), .val (.int (2 : Int32))]) rfl ?_
        show Steps p.tables e below (T302.setTop (mkF m 31 #[.val (.ref a0), .val (.ref a1), .val (.int (2 : Int32))] [])) _
        refine XS.goto X302.here hx rfl (pc0 := 31) (pc' := 2) rfl (hb hby d5_31) (by decide) (by decide) ?_
        show Steps p.tables e below (T302.setTop (mkF m 2 #[.val (.ref a0), .val (.ref a1), .val (.int (2 : Int32))] [])) _
        refine XS.iloadN X302.here hx rfl (hb hby d5_2) rfl ?_
        show Steps p.tables e below (T302.setTop (mkF m 3 #[.val (.ref a0), .val (.ref a1), .val (.int (2 : Int32))] [(.int (2 : Int32))])) _
        refine XS.aloadN X302.here hx rfl (hb hby d5_3) rfl rfl ?_
        show Steps p.tables e below (T302.setTop (mkF m 4 #[.val (.ref a0), .val (.ref a1), .val (.int (2 : Int32))] [(.ref a0), (.int (2 : Int32))])) _
        refine st306 _ ?_
        show Steps p.tables e below (T306.setTop (mkF m 7 #[.val (.ref a0), .val (.ref a1), .val (.int (2 : Int32))] [(.ref a2), (.int (2 : Int32))])) _
        refine X306.arraylength hx (by rw [e306]; exact Ar307.1) (State.isArrayOf_alike hZ.alike Ar307.2.1) (g := (mkF m 7 #[.val (.ref a0), .val (.ref a1), .val (.int (2 : Int32))] [(.ref a2), (.int (2 : Int32))])) rfl rfl (hb hby d5_7) _ ?_
        rw [len_of S307 N307]
        show Steps p.tables e below (T306.setTop (mkF m 8 #[.val (.ref a0), .val (.ref a1), .val (.int (2 : Int32))] [(.int (2 : Int32)), (.int (2 : Int32))])) _
        refine XS.icmpYes X306.here hx rfl (pc0 := 8) (pc' := 34) rfl (hb hby d5_8) rfl (flt (by decide)).2.1 (by decide) (by decide) ?_
        show Steps p.tables e below (T306.setTop (mkF m 34 #[.val (.ref a0), .val (.ref a1), .val (.int (2 : Int32))] [])) _
        refine XS.iconst X306.here hx rfl (hb hby d5_34) ?_
        show Steps p.tables e below (T306.setTop (mkF m 35 #[.val (.ref a0), .val (.ref a1), .val (.int (2 : Int32))] [(.int (1 : Int32))])) _
        exact retZ X306 hx Bd.returns (by decide) (hb hby d5_35) hr
      ·
        show Q_cv2 Z a0 a1 a2 k1 w0 w1 a3 k2 v0 v1 h0 n0 _ T306.heap _
        rw [e306]
        exact ⟨(by simp only [if_neg c297, if_neg c305]), N0, rfl⟩
theorem d1_38 : decode method_3_code 38 = .ok (.iconst 3, 1) := by decide +kernel
theorem d1_39 : decode method_3_code 39 = .ok (.newarray .int, 2) := by decide +kernel
theorem d1_41 : decode method_3_code 41 = .ok (.dup, 1) := by decide +kernel
theorem d1_42 : decode method_3_code 42 = .ok (.iconst 0, 1) := by decide +kernel
theorem d1_43 : decode method_3_code 43 = .ok (.iload_n 1, 1) := by decide +kernel
theorem d1_44 : decode method_3_code 44 = .ok (.iastore, 1) := by decide +kernel
theorem d1_45 : decode method_3_code 45 = .ok (.dup, 1) := by decide +kernel
theorem d1_46 : decode method_3_code 46 = .ok (.iconst 1, 1) := by decide +kernel
theorem d1_47 : decode method_3_code 47 = .ok (.iload_n 2, 1) := by decide +kernel
theorem d1_48 : decode method_3_code 48 = .ok (.iastore, 1) := by decide +kernel
theorem d1_49 : decode method_3_code 49 = .ok (.dup, 1) := by decide +kernel
theorem d1_50 : decode method_3_code 50 = .ok (.iconst 2, 1) := by decide +kernel
theorem d1_51 : decode method_3_code 51 = .ok (.iload_n 3, 1) := by decide +kernel
theorem d1_52 : decode method_3_code 52 = .ok (.iastore, 1) := by decide +kernel
theorem d1_53 : decode method_3_code 53 = .ok (.areturn, 1) := by decide +kernel
theorem ef_mk3 (m : MethodId) (p1 : Int32) (p2 : Int32) (p3 : Int32) : entryFrame m #[(.int (3 : Int32)), (.int p1), (.int p2), (.int p3)] 4 = mkF m 0 #[.val (.int (3 : Int32)), .val (.int p1), .val (.int p2), .val (.int p3)] [] := by first | (simp [entryFrame, mkF, argsToLocals, Value.category]; done) | rfl
def Q_mk3 (Z : State) (p1 : Int32) (p2 : Int32) (p3 : Int32) (h0 : Heap) (n0 : Nat) (v : Option Value) (h : Heap) (L : List Loc) : Prop := ∃ b : Addr, ∃ kb : ClassId, v = some (.ref b) ∧ Fr n0 L ∧ Keep h0 h [] ∧ h0.size ≤ b ∧ Arv Z h b kb .int (3 : Int32) [(.int p1), (.int p2), (.int p3)] (.int (0 : Int32)) ∧ Z.vm.findClass "[I" = some kb
set_option maxRecDepth 65536 in
set_option maxHeartbeats 40000000 in
theorem mk3 (l : Launch) (Z : State) (aw : Array Value) (hw : ∀ d ∈ tables_1, d.before aw Z = true) (ws : List Jvm.Cond) (p1 : Int32) (p2 : Int32) (p3 : Int32) (h0 : Heap) (n0 : Nat) (Z0 : n0 ≤ h0.size) :
    MetFree l (⟨"com/example/enact/enact/net/MarkingCoversPinLaw", "make", "(IIII)[I"⟩ : MethodName) (head1 (Jvm.Cond.code (⟨"com/example/enact/enact/net/MarkingCoversPinLaw", "make", "(IIII)[I"⟩ : MethodName) method_3_code 4 (some (.array .int)) :: ws) ({ frames := 0, cells := 1, slots := 3, locals := 0 } : Room)) (fun a U => a = #[(.int (3 : Int32)), (.int p1), (.int p2), (.int p3)] ∧ Z.Warmed39 U.vm ∧ U.heap = h0) (fun _ _ _ _ _ => True) (fun _ U o U' => ∃ v L, o = .returned v ∧ Q_mk3 Z p1 p2 p3 h0 n0 v U'.heap L ∧ FrameEnd U o U' L ({ frames := 0, cells := 1, slots := 3, locals := 0 } : Room).cells ({ frames := 0, cells := 1, slots := 3, locals := 0 } : Room).slots) := by
  refine MetFree.of_bodySF (plainFor_of_name pn_3) hisR ?_
  intro p e s m args below meth c s₁ Bd hml0 hP hK
  obtain ⟨rfl, hZ, hh⟩ := hP
  have hx := Bd.exec
  have hby := Bd.bytes
  have hml : c.maxLocals = 4 := hml0
  have hown : s.vm.findClass "com/example/enact/enact/net/MarkingCoversPinLaw" = some m.cls := findClass_of_methodNamed Bd.named
  have hnm := (name_of_methodNamed Bd.named Bd.method).1
  have X0 : Stand p l e ({ frames := 0, cells := 1, slots := 3, locals := 0 } : Room) s m #[(.int (3 : Int32)), (.int p1), (.int p2), (.int p3)] below meth c s₁ [] 0 0 := Stand.of_body Bd
  have e0 : s₁.heap = h0 := by rw [← hh, Bd.state]; rfl
  have N0 := Fr.nil n0
  have pre0 : ∀ t, Steps p.tables e below (s₁.setTop (mkF m 0 #[.val (.int (3 : Int32)), .val (.int p1), .val (.int p2), .val (.int p3)] [])) t → Steps p.tables e below (s₁.setTop (entryFrame m #[(.int (3 : Int32)), (.int p1), (.int p2), (.int p3)] 4)) t := fun t k => castTop (ef_mk3 m p1 p2 p3) k
  have KC0 : Keep h0 h0 [] := Keep.refl h0 []
  obtain ⟨T308, h308, k308, X308, e308, E308, A308, kc308, st308⟩ := newPk X0 hx hZ (hw _ (List.mem_of_getElem? (i := 4) rfl)) e0 (g := (mkF m 39 #[.val (.int (3 : Int32)), .val (.int p1), .val (.int p2), .val (.int p3)] [(.int (3 : Int32))])) rfl (hb hby d1_39) rfl (by decide) (cap := 3) (by decide) (by decide) (by decide) (by decide)
  obtain ⟨b308, g308⟩ : ∃ z, z = h0.size := ⟨_, rfl⟩
  rw [← g308] at A308 st308
  have gn309 : n0 ≤ b308 := Nat.le_trans Z0 (Nat.le_of_eq g308.symm)
  have sz310 : h0.size ≤ b308 := Nat.le_trans KC0.1 (Nat.le_of_eq g308.symm)
  have Z311 : n0 ≤ h308.size := Nat.le_trans Z0 E308.1
  have K312 : Keep h0 h308 [] := Keep.ext KC0 E308
  have f313 : Arv Z h308 b308 k308 .int (3 : Int32) [(.int (0 : Int32)), (.int (0 : Int32)), (.int (0 : Int32))] (.int (0 : Int32)) := (Arv.new A308 (by decide)).pad (pad_rep [] (.int (0 : Int32)) 3)
  obtain ⟨cl314, Ar314, q314, S314, N314, H314, G314⟩ := id f313
  have hin314 : ¬ ((0 : Int32) < 0 ∨ cl314.slots.size ≤ ((0 : Int32)).toNatClampNeg) := inb_of S314 ⟨by decide, by decide⟩
  obtain ⟨T314, h314, X314, e314, W314, st314⟩ := stI X308 hx hZ e308 Ar314 (j := (0 : Int32)) hin314 (g := (mkF m 44 #[.val (.int (3 : Int32)), .val (.int p1), .val (.int p2), .val (.int p3)] [(.int p1), (.int (0 : Int32)), (.ref b308), (.ref b308)])) rfl rfl (hb hby d1_44)
  have Z315 : n0 ≤ h314.size := Nat.le_trans Z311 (Keep.of_wr W314).1
  have K316 : Keep h0 h314 [] := Keep.wr K312 W314 (Or.inr sz310)
  have N317 := Fr.snoc X314 N0 gn309
  have f318 : Arv Z h314 b308 k308 .int (3 : Int32) [(.int p1), (.int (0 : Int32)), (.int (0 : Int32))] (.int (0 : Int32)) := Arv.set Ar314 q314 S314 N314 H314 G314 rfl W314 0 rfl (Nat.le_of_ble_eq_true rfl)
  obtain ⟨cl319, Ar319, q319, S319, N319, H319, G319⟩ := id f318
  have hin319 : ¬ ((1 : Int32) < 0 ∨ cl319.slots.size ≤ ((1 : Int32)).toNatClampNeg) := inb_of S319 ⟨by decide, by decide⟩
  obtain ⟨T319, h319, X319, e319, W319, st319⟩ := stI X314 hx hZ e314 Ar319 (j := (1 : Int32)) hin319 (g := (mkF m 48 #[.val (.int (3 : Int32)), .val (.int p1), .val (.int p2), .val (.int p3)] [(.int p2), (.int (1 : Int32)), (.ref b308), (.ref b308)])) rfl rfl (hb hby d1_48)
  have Z320 : n0 ≤ h319.size := Nat.le_trans Z315 (Keep.of_wr W319).1
  have K321 : Keep h0 h319 [] := Keep.wr K316 W319 (Or.inr sz310)
  have N322 := Fr.snoc X319 N317 gn309
  have f323 : Arv Z h319 b308 k308 .int (3 : Int32) [(.int p1), (.int p2), (.int (0 : Int32))] (.int (0 : Int32)) := Arv.set Ar319 q319 S319 N319 H319 G319 rfl W319 1 rfl (Nat.le_of_ble_eq_true rfl)
  obtain ⟨cl324, Ar324, q324, S324, N324, H324, G324⟩ := id f323
  have hin324 : ¬ ((2 : Int32) < 0 ∨ cl324.slots.size ≤ ((2 : Int32)).toNatClampNeg) := inb_of S324 ⟨by decide, by decide⟩
  obtain ⟨T324, h324, X324, e324, W324, st324⟩ := stI X319 hx hZ e319 Ar324 (j := (2 : Int32)) hin324 (g := (mkF m 52 #[.val (.int (3 : Int32)), .val (.int p1), .val (.int p2), .val (.int p3)] [(.int p3), (.int (2 : Int32)), (.ref b308), (.ref b308)])) rfl rfl (hb hby d1_52)
  have Z325 : n0 ≤ h324.size := Nat.le_trans Z320 (Keep.of_wr W324).1
  have K326 : Keep h0 h324 [] := Keep.wr K321 W324 (Or.inr sz310)
  have N327 := Fr.snoc X324 N322 gn309
  have f328 : Arv Z h324 b308 k308 .int (3 : Int32) [(.int p1), (.int p2), (.int p3)] (.int (0 : Int32)) := Arv.set Ar324 q324 S324 N324 H324 G324 rfl W324 2 rfl (Nat.le_of_ble_eq_true rfl)
  obtain ⟨fs, hr, hrun, hended, hW, hsame⟩ := X324.leave (v := some (.ref b308)) (fun h => by rw [Bd.returns] at h; cases h)
  refine ⟨_, _, pre0 _ ?_, hrun, hended, _, _, rfl, ?_, ⟨_, rfl⟩, hW, hsame.mono (by decide) (by decide)⟩
  ·
    show Steps p.tables e below (s₁.setTop (mkF m 0 #[.val (.int (3 : Int32)), .val (.int p1), .val (.int p2), .val (.int p3)] [])) _
    refine XS.iloadN X0.here hx rfl (hb hby d1_0) rfl ?_
    show Steps p.tables e below (s₁.setTop (mkF m 1 #[.val (.int (3 : Int32)), .val (.int p1), .val (.int p2), .val (.int p3)] [(.int (3 : Int32))])) _
    refine XS.ifYes X0.here hx rfl (pc0 := 1) (pc' := 8) rfl (hb hby d1_1) rfl ((if0 _ _).trans (feq (by decide)).2) (by decide) (by decide) ?_
    show Steps p.tables e below (s₁.setTop (mkF m 8 #[.val (.int (3 : Int32)), .val (.int p1), .val (.int p2), .val (.int p3)] [])) _
    refine XS.iloadN X0.here hx rfl (hb hby d1_8) rfl ?_
    show Steps p.tables e below (s₁.setTop (mkF m 9 #[.val (.int (3 : Int32)), .val (.int p1), .val (.int p2), .val (.int p3)] [(.int (3 : Int32))])) _
    refine XS.iconst X0.here hx rfl (hb hby d1_9) ?_
    show Steps p.tables e below (s₁.setTop (mkF m 10 #[.val (.int (3 : Int32)), .val (.int p1), .val (.int p2), .val (.int p3)] [(.int (1 : Int32)), (.int (3 : Int32))])) _
    refine XS.icmpYes X0.here hx rfl (pc0 := 10) (pc' := 21) rfl (hb hby d1_10) rfl (feq (by decide)).2 (by decide) (by decide) ?_
    show Steps p.tables e below (s₁.setTop (mkF m 21 #[.val (.int (3 : Int32)), .val (.int p1), .val (.int p2), .val (.int p3)] [])) _
    refine XS.iloadN X0.here hx rfl (hb hby d1_21) rfl ?_
    show Steps p.tables e below (s₁.setTop (mkF m 22 #[.val (.int (3 : Int32)), .val (.int p1), .val (.int p2), .val (.int p3)] [(.int (3 : Int32))])) _
    refine XS.iconst X0.here hx rfl (hb hby d1_22) ?_
    show Steps p.tables e below (s₁.setTop (mkF m 23 #[.val (.int (3 : Int32)), .val (.int p1), .val (.int p2), .val (.int p3)] [(.int (2 : Int32)), (.int (3 : Int32))])) _
    refine XS.icmpYes X0.here hx rfl (pc0 := 23) (pc' := 38) rfl (hb hby d1_23) rfl (feq (by decide)).2 (by decide) (by decide) ?_
    show Steps p.tables e below (s₁.setTop (mkF m 38 #[.val (.int (3 : Int32)), .val (.int p1), .val (.int p2), .val (.int p3)] [])) _
    refine XS.iconst X0.here hx rfl (hb hby d1_38) ?_
    show Steps p.tables e below (s₁.setTop (mkF m 39 #[.val (.int (3 : Int32)), .val (.int p1), .val (.int p2), .val (.int p3)] [(.int (3 : Int32))])) _
    refine st308 _ ?_
    show Steps p.tables e below (T308.setTop (mkF m 41 #[.val (.int (3 : Int32)), .val (.int p1), .val (.int p2), .val (.int p3)] [(.ref b308)])) _
    refine XS.dup X308.here hx rfl (hb hby d1_41) rfl rfl ?_
    show Steps p.tables e below (T308.setTop (mkF m 42 #[.val (.int (3 : Int32)), .val (.int p1), .val (.int p2), .val (.int p3)] [(.ref b308), (.ref b308)])) _
    refine XS.iconst X308.here hx rfl (hb hby d1_42) ?_
    show Steps p.tables e below (T308.setTop (mkF m 43 #[.val (.int (3 : Int32)), .val (.int p1), .val (.int p2), .val (.int p3)] [(.int (0 : Int32)), (.ref b308), (.ref b308)])) _
    refine XS.iloadN X308.here hx rfl (hb hby d1_43) rfl ?_
    show Steps p.tables e below (T308.setTop (mkF m 44 #[.val (.int (3 : Int32)), .val (.int p1), .val (.int p2), .val (.int p3)] [(.int p1), (.int (0 : Int32)), (.ref b308), (.ref b308)])) _
    refine st314 _ ?_
    show Steps p.tables e below (T314.setTop (mkF m 45 #[.val (.int (3 : Int32)), .val (.int p1), .val (.int p2), .val (.int p3)] [(.ref b308)])) _
    refine XS.dup X314.here hx rfl (hb hby d1_45) rfl rfl ?_
    show Steps p.tables e below (T314.setTop (mkF m 46 #[.val (.int (3 : Int32)), .val (.int p1), .val (.int p2), .val (.int p3)] [(.ref b308), (.ref b308)])) _
    refine XS.iconst X314.here hx rfl (hb hby d1_46) ?_
    show Steps p.tables e below (T314.setTop (mkF m 47 #[.val (.int (3 : Int32)), .val (.int p1), .val (.int p2), .val (.int p3)] [(.int (1 : Int32)), (.ref b308), (.ref b308)])) _
    refine XS.iloadN X314.here hx rfl (hb hby d1_47) rfl ?_
    show Steps p.tables e below (T314.setTop (mkF m 48 #[.val (.int (3 : Int32)), .val (.int p1), .val (.int p2), .val (.int p3)] [(.int p2), (.int (1 : Int32)), (.ref b308), (.ref b308)])) _
    refine st319 _ ?_
    show Steps p.tables e below (T319.setTop (mkF m 49 #[.val (.int (3 : Int32)), .val (.int p1), .val (.int p2), .val (.int p3)] [(.ref b308)])) _
    refine XS.dup X319.here hx rfl (hb hby d1_49) rfl rfl ?_
    show Steps p.tables e below (T319.setTop (mkF m 50 #[.val (.int (3 : Int32)), .val (.int p1), .val (.int p2), .val (.int p3)] [(.ref b308), (.ref b308)])) _
    refine XS.iconst X319.here hx rfl (hb hby d1_50) ?_
    show Steps p.tables e below (T319.setTop (mkF m 51 #[.val (.int (3 : Int32)), .val (.int p1), .val (.int p2), .val (.int p3)] [(.int (2 : Int32)), (.ref b308), (.ref b308)])) _
    refine XS.iloadN X319.here hx rfl (hb hby d1_51) rfl ?_
    show Steps p.tables e below (T319.setTop (mkF m 52 #[.val (.int (3 : Int32)), .val (.int p1), .val (.int p2), .val (.int p3)] [(.int p3), (.int (2 : Int32)), (.ref b308), (.ref b308)])) _
    refine st324 _ ?_
    show Steps p.tables e below (T324.setTop (mkF m 53 #[.val (.int (3 : Int32)), .val (.int p1), .val (.int p2), .val (.int p3)] [(.ref b308)])) _
    exact retA X324 hx rfl rfl Bd.returns (hb hby d1_53) hr
  ·
    show Q_mk3 Z p1 p2 p3 h0 n0 _ T324.heap _
    rw [e324]
    exact ⟨b308, k308, rfl, N327, K326, sz310, f328, kc308⟩
theorem ef_cv3 (m : MethodId) (a0 : Addr) (a1 : Addr) : entryFrame m #[(.ref a0), (.ref a1)] 3 = mkF m 0 #[.val (.ref a0), .val (.ref a1), .unset] [] := by first | (simp [entryFrame, mkF, argsToLocals, Value.category]; done) | rfl
def Q_cv3 (Z : State) (a0 : Addr) (a1 : Addr) (a2 : Addr) (k1 : ClassId) (w0 : Int32) (w1 : Int32) (w2 : Int32) (a3 : Addr) (k2 : ClassId) (v0 : Int32) (v1 : Int32) (v2 : Int32) (h0 : Heap) (n0 : Nat) (v : Option Value) (h : Heap) (L : List Loc) : Prop := v = some (.int (if w0 < v0 then (0 : Int32) else (if w1 < v1 then (0 : Int32) else (if w2 < v2 then (0 : Int32) else (1 : Int32))))) ∧ Fr n0 L ∧ h = h0
set_option maxRecDepth 65536 in
set_option maxHeartbeats 40000000 in
theorem cv3 (l : Launch) (Z : State) (aw : Array Value) (hw : ∀ d ∈ tables_1, d.before aw Z = true) (ws : List Jvm.Cond) (a0 : Addr) (a1 : Addr) (a2 : Addr) (k1 : ClassId) (w0 : Int32) (w1 : Int32) (w2 : Int32) (a3 : Addr) (k2 : ClassId) (v0 : Int32) (v1 : Int32) (v2 : Int32) (h0 : Heap) (n0 : Nat) (Z0 : n0 ≤ h0.size) (F_a0_tokens : Fld Z h0 a0 "com/example/enact/enact/net/Marking" "tokens" "[I" (.ref a2)) (V_a2 : Arv Z h0 a2 k1 .int (3 : Int32) [(.int w0), (.int w1), (.int w2)] (.int (0 : Int32))) (F_a1_tokens : Fld Z h0 a1 "com/example/enact/enact/net/Marking" "tokens" "[I" (.ref a3)) (V_a3 : Arv Z h0 a3 k2 .int (3 : Int32) [(.int v0), (.int v1), (.int v2)] (.int (0 : Int32))) :
    MetFree l (⟨"com/example/enact/enact/net/Marking", "covers", "(Lcom/example/enact/enact/net/Marking;)Z"⟩ : MethodName) (head1 (Jvm.Cond.code (⟨"com/example/enact/enact/net/Marking", "covers", "(Lcom/example/enact/enact/net/Marking;)Z"⟩ : MethodName) prog_29_method_6_code 3 (some .boolean) :: ws) ({ frames := 0, cells := 0, slots := 0, locals := 0 } : Room)) (fun a U => a = #[(.ref a0), (.ref a1)] ∧ Z.Warmed39 U.vm ∧ U.heap = h0) (fun _ _ _ _ _ => True) (fun _ U o U' => ∃ v L, o = .returned v ∧ Q_cv3 Z a0 a1 a2 k1 w0 w1 w2 a3 k2 v0 v1 v2 h0 n0 v U'.heap L ∧ FrameEnd U o U' L ({ frames := 0, cells := 0, slots := 0, locals := 0 } : Room).cells ({ frames := 0, cells := 0, slots := 0, locals := 0 } : Room).slots) := by
  refine MetFree.of_bodySF (plainFor_of_name pn_1) hisR ?_
  intro p e s m args below meth c s₁ Bd hml0 hP hK
  obtain ⟨rfl, hZ, hh⟩ := hP
  have hx := Bd.exec
  have hby := Bd.bytes
  have hml : c.maxLocals = 3 := hml0
  have hown : s.vm.findClass "com/example/enact/enact/net/Marking" = some m.cls := findClass_of_methodNamed Bd.named
  have hnm := (name_of_methodNamed Bd.named Bd.method).1
  have X0 : Stand p l e ({ frames := 0, cells := 0, slots := 0, locals := 0 } : Room) s m #[(.ref a0), (.ref a1)] below meth c s₁ [] 0 0 := Stand.of_body Bd
  have e0 : s₁.heap = h0 := by rw [← hh, Bd.state]; rfl
  have N0 := Fr.nil n0
  have pre0 : ∀ t, Steps p.tables e below (s₁.setTop (mkF m 0 #[.val (.ref a0), .val (.ref a1), .unset] [])) t → Steps p.tables e below (s₁.setTop (entryFrame m #[(.ref a0), (.ref a1)] 3)) t := fun t k => castTop (ef_cv3 m a0 a1) k
  obtain ⟨T329, X329, e329, st329⟩ := getF X0 hx hZ hown (host := "") (Or.inl (hw _ (List.mem_of_getElem? (i := 14) rfl))) Via.refl e0 F_a0_tokens (g := (mkF m 4 #[.val (.ref a0), .val (.ref a1), .val (.int (0 : Int32))] [(.ref a0), (.int (0 : Int32))])) rfl rfl (hb hby d5_4)
  obtain ⟨cl330, Ar330, q330, S330, N330, H330, G330⟩ := id V_a2
  obtain ⟨T331, X331, e331, st331⟩ := getF X329 hx hZ hown (host := "") (Or.inl (hw _ (List.mem_of_getElem? (i := 14) rfl))) Via.refl e329 F_a0_tokens (g := (mkF m 12 #[.val (.ref a0), .val (.ref a1), .val (.int (0 : Int32))] [(.ref a0)])) rfl rfl (hb hby d5_12)
  obtain ⟨cl332, Ar332, q332, S332, N332, H332, G332⟩ := id V_a2
  have hin332 : ¬ ((0 : Int32) < 0 ∨ cl332.slots.size ≤ ((0 : Int32)).toNatClampNeg) := inb_of S332 ⟨by decide, by decide⟩
  have hat332 : cl332.slots[((0 : Int32)).toNatClampNeg]? = some (.int w0) := Has.at H332 hin332 rfl
  obtain ⟨T333, X333, e333, st333⟩ := getF X331 hx hZ hown (host := "") (Or.inl (hw _ (List.mem_of_getElem? (i := 14) rfl))) Via.refl e331 F_a1_tokens (g := (mkF m 18 #[.val (.ref a0), .val (.ref a1), .val (.int (0 : Int32))] [(.ref a1), (.int w0)])) rfl rfl (hb hby d5_18)
  obtain ⟨cl334, Ar334, q334, S334, N334, H334, G334⟩ := id V_a3
  have hin334 : ¬ ((0 : Int32) < 0 ∨ cl334.slots.size ≤ ((0 : Int32)).toNatClampNeg) := inb_of S334 ⟨by decide, by decide⟩
  have hat334 : cl334.slots[((0 : Int32)).toNatClampNeg]? = some (.int v0) := Has.at H334 hin334 rfl
  have pre335 : ∀ t, Steps p.tables e below (T333.setTop (mkF m 23 #[.val (.ref a0), .val (.ref a1), .val (.int (0 : Int32))] [(.int v0), (.int w0)])) t → Steps p.tables e below (s₁.setTop (entryFrame m #[(.ref a0), (.ref a1)] 3)) t := fun t k => by
    refine pre0 t ?_
    show Steps p.tables e below (s₁.setTop (mkF m 0 #[.val (.ref a0), .val (.ref a1), .unset] [])) _
    refine XS.iconst X0.here hx rfl (hb hby d5_0) ?_
    show Steps p.tables e below (s₁.setTop (mkF m 1 #[.val (.ref a0), .val (.ref a1), .unset] [(.int (0 : Int32))])) _
    refine XS.istoreN X0.here hx rfl (hb hby d5_1) rfl (l' := #[.val (.ref a0), .val (.ref a1), .val (.int (0 : Int32))]) rfl ?_
    show Steps p.tables e below (s₁.setTop (mkF m 2 #[.val (.ref a0), .val (.ref a1), .val (.int (0 : Int32))] [])) _
    refine XS.iloadN X0.here hx rfl (hb hby d5_2) rfl ?_
    show Steps p.tables e below (s₁.setTop (mkF m 3 #[.val (.ref a0), .val (.ref a1), .val (.int (0 : Int32))] [(.int (0 : Int32))])) _
    refine XS.aloadN X0.here hx rfl (hb hby d5_3) rfl rfl ?_
    show Steps p.tables e below (s₁.setTop (mkF m 4 #[.val (.ref a0), .val (.ref a1), .val (.int (0 : Int32))] [(.ref a0), (.int (0 : Int32))])) _
    refine st329 _ ?_
    show Steps p.tables e below (T329.setTop (mkF m 7 #[.val (.ref a0), .val (.ref a1), .val (.int (0 : Int32))] [(.ref a2), (.int (0 : Int32))])) _
    refine X329.arraylength hx (by rw [e329]; exact Ar330.1) (State.isArrayOf_alike hZ.alike Ar330.2.1) (g := (mkF m 7 #[.val (.ref a0), .val (.ref a1), .val (.int (0 : Int32))] [(.ref a2), (.int (0 : Int32))])) rfl rfl (hb hby d5_7) _ ?_
    rw [len_of S330 N330]
    show Steps p.tables e below (T329.setTop (mkF m 8 #[.val (.ref a0), .val (.ref a1), .val (.int (0 : Int32))] [(.int (3 : Int32)), (.int (0 : Int32))])) _
    refine XS.icmpNo X329.here hx rfl (hb hby d5_8) rfl (tlt (by decide)).2.1 ?_
    show Steps p.tables e below (T329.setTop (mkF m 11 #[.val (.ref a0), .val (.ref a1), .val (.int (0 : Int32))] [])) _
    refine XS.aloadN X329.here hx rfl (hb hby d5_11) rfl rfl ?_
    show Steps p.tables e below (T329.setTop (mkF m 12 #[.val (.ref a0), .val (.ref a1), .val (.int (0 : Int32))] [(.ref a0)])) _
    refine st331 _ ?_
    show Steps p.tables e below (T331.setTop (mkF m 15 #[.val (.ref a0), .val (.ref a1), .val (.int (0 : Int32))] [(.ref a2)])) _
    refine XS.iloadN X331.here hx rfl (hb hby d5_15) rfl ?_
    show Steps p.tables e below (T331.setTop (mkF m 16 #[.val (.ref a0), .val (.ref a1), .val (.int (0 : Int32))] [(.int (0 : Int32)), (.ref a2)])) _
    refine X331.iaload hx (j := (0 : Int32)) (v := (.int w0)) (by rw [e331]; exact Ar332.1) (State.isArrayOf_alike hZ.alike Ar332.2.1) Ar332.2.2 hin332 hat332 (g := (mkF m 16 #[.val (.ref a0), .val (.ref a1), .val (.int (0 : Int32))] [(.int (0 : Int32)), (.ref a2)])) rfl rfl (hb hby d5_16) _ ?_
    show Steps p.tables e below (T331.setTop (mkF m 17 #[.val (.ref a0), .val (.ref a1), .val (.int (0 : Int32))] [(.int w0)])) _
    refine XS.aloadN X331.here hx rfl (hb hby d5_17) rfl rfl ?_
    show Steps p.tables e below (T331.setTop (mkF m 18 #[.val (.ref a0), .val (.ref a1), .val (.int (0 : Int32))] [(.ref a1), (.int w0)])) _
    refine st333 _ ?_
    show Steps p.tables e below (T333.setTop (mkF m 21 #[.val (.ref a0), .val (.ref a1), .val (.int (0 : Int32))] [(.ref a3), (.int w0)])) _
    refine XS.iloadN X333.here hx rfl (hb hby d5_21) rfl ?_
    show Steps p.tables e below (T333.setTop (mkF m 22 #[.val (.ref a0), .val (.ref a1), .val (.int (0 : Int32))] [(.int (0 : Int32)), (.ref a3), (.int w0)])) _
    refine X333.iaload hx (j := (0 : Int32)) (v := (.int v0)) (by rw [e333]; exact Ar334.1) (State.isArrayOf_alike hZ.alike Ar334.2.1) Ar334.2.2 hin334 hat334 (g := (mkF m 22 #[.val (.ref a0), .val (.ref a1), .val (.int (0 : Int32))] [(.int (0 : Int32)), (.ref a3), (.int w0)])) rfl rfl (hb hby d5_22) _ ?_
    exact k
  by_cases c336 : w0 < v0
  ·
    obtain ⟨fs, hr, hrun, hended, hW, hsame⟩ := X333.leave (v := some (.int (0 : Int32))) (fun h => by rw [Bd.returns] at h; cases h)
    refine ⟨_, _, pre335 _ ?_, hrun, hended, _, _, rfl, ?_, ⟨_, rfl⟩, hW, hsame.mono (by decide) (by decide)⟩
    ·
      show Steps p.tables e below (T333.setTop (mkF m 23 #[.val (.ref a0), .val (.ref a1), .val (.int (0 : Int32))] [(.int v0), (.int w0)])) _
      refine XS.icmpNo X333.here hx rfl (hb hby d5_23) rfl (tlt c336).2.1 ?_
      show Steps p.tables e below (T333.setTop (mkF m 26 #[.val (.ref a0), .val (.ref a1), .val (.int (0 : Int32))] [])) _
      refine XS.iconst X333.here hx rfl (hb hby d5_26) ?_
      show Steps p.tables e below (T333.setTop (mkF m 27 #[.val (.ref a0), .val (.ref a1), .val (.int (0 : Int32))] [(.int (0 : Int32))])) _
      exact retZ X333 hx Bd.returns (by decide) (hb hby d5_27) hr
    ·
      show Q_cv3 Z a0 a1 a2 k1 w0 w1 w2 a3 k2 v0 v1 v2 h0 n0 _ T333.heap _
      rw [e333]
      exact ⟨(by simp only [if_pos c336]), N0, rfl⟩
  ·
    obtain ⟨T337, X337, e337, st337⟩ := getF X333 hx hZ hown (host := "") (Or.inl (hw _ (List.mem_of_getElem? (i := 14) rfl))) Via.refl e333 F_a0_tokens (g := (mkF m 4 #[.val (.ref a0), .val (.ref a1), .val (.int (1 : Int32))] [(.ref a0), (.int (1 : Int32))])) rfl rfl (hb hby d5_4)
    obtain ⟨cl338, Ar338, q338, S338, N338, H338, G338⟩ := id V_a2
    obtain ⟨T339, X339, e339, st339⟩ := getF X337 hx hZ hown (host := "") (Or.inl (hw _ (List.mem_of_getElem? (i := 14) rfl))) Via.refl e337 F_a0_tokens (g := (mkF m 12 #[.val (.ref a0), .val (.ref a1), .val (.int (1 : Int32))] [(.ref a0)])) rfl rfl (hb hby d5_12)
    obtain ⟨cl340, Ar340, q340, S340, N340, H340, G340⟩ := id V_a2
    have hin340 : ¬ ((1 : Int32) < 0 ∨ cl340.slots.size ≤ ((1 : Int32)).toNatClampNeg) := inb_of S340 ⟨by decide, by decide⟩
    have hat340 : cl340.slots[((1 : Int32)).toNatClampNeg]? = some (.int w1) := Has.at H340 hin340 rfl
    obtain ⟨T341, X341, e341, st341⟩ := getF X339 hx hZ hown (host := "") (Or.inl (hw _ (List.mem_of_getElem? (i := 14) rfl))) Via.refl e339 F_a1_tokens (g := (mkF m 18 #[.val (.ref a0), .val (.ref a1), .val (.int (1 : Int32))] [(.ref a1), (.int w1)])) rfl rfl (hb hby d5_18)
    obtain ⟨cl342, Ar342, q342, S342, N342, H342, G342⟩ := id V_a3
    have hin342 : ¬ ((1 : Int32) < 0 ∨ cl342.slots.size ≤ ((1 : Int32)).toNatClampNeg) := inb_of S342 ⟨by decide, by decide⟩
    have hat342 : cl342.slots[((1 : Int32)).toNatClampNeg]? = some (.int v1) := Has.at H342 hin342 rfl
    have pre343 : ∀ t, Steps p.tables e below (T341.setTop (mkF m 23 #[.val (.ref a0), .val (.ref a1), .val (.int (1 : Int32))] [(.int v1), (.int w1)])) t → Steps p.tables e below (s₁.setTop (entryFrame m #[(.ref a0), (.ref a1)] 3)) t := fun t k => by
      refine pre335 t ?_
      show Steps p.tables e below (T333.setTop (mkF m 23 #[.val (.ref a0), .val (.ref a1), .val (.int (0 : Int32))] [(.int v0), (.int w0)])) _
      refine XS.icmpYes X333.here hx rfl (pc0 := 23) (pc' := 28) rfl (hb hby d5_23) rfl (flt c336).2.1 (by decide) (by decide) ?_
      show Steps p.tables e below (T333.setTop (mkF m 28 #[.val (.ref a0), .val (.ref a1), .val (.int (0 : Int32))] [])) _
      refine XS.iinc X333.here hx rfl (hb hby d5_28) rfl (l' := #[.val (.ref a0), .val (.ref a1), .val (.int (1 : Int32))]) rfl ?_
      show Steps p.tables e below (T333.setTop (mkF m 31 #[.val (.ref a0), .val (.ref a1), .val (.int (1 : Int32))] [])) _
      refine XS.goto X333.here hx rfl (pc0 := 31) (pc' := 2) rfl (hb hby d5_31) (by decide) (by decide) ?_
      show Steps p.tables e below (T333.setTop (mkF m 2 #[.val (.ref a0), .val (.ref a1), .val (.int (1 : Int32))] [])) _
      refine XS.iloadN X333.here hx rfl (hb hby d5_2) rfl ?_
      show Steps p.tables e below (T333.setTop (mkF m 3 #[.val (.ref a0), .val (.ref a1), .val (.int (1 : Int32))] [(.int (1 : Int32))])) _
      refine XS.aloadN X333.here hx rfl (hb hby d5_3) rfl rfl ?_
      show Steps p.tables e below (T333.setTop (mkF m 4 #[.val (.ref a0), .val (.ref a1), .val (.int (1 : Int32))] [(.ref a0), (.int (1 : Int32))])) _
      refine st337 _ ?_
      show Steps p.tables e below (T337.setTop (mkF m 7 #[.val (.ref a0), .val (.ref a1), .val (.int (1 : Int32))] [(.ref a2), (.int (1 : Int32))])) _
      refine X337.arraylength hx (by rw [e337]; exact Ar338.1) (State.isArrayOf_alike hZ.alike Ar338.2.1) (g := (mkF m 7 #[.val (.ref a0), .val (.ref a1), .val (.int (1 : Int32))] [(.ref a2), (.int (1 : Int32))])) rfl rfl (hb hby d5_7) _ ?_
      rw [len_of S338 N338]
      show Steps p.tables e below (T337.setTop (mkF m 8 #[.val (.ref a0), .val (.ref a1), .val (.int (1 : Int32))] [(.int (3 : Int32)), (.int (1 : Int32))])) _
      refine XS.icmpNo X337.here hx rfl (hb hby d5_8) rfl (tlt (by decide)).2.1 ?_
      show Steps p.tables e below (T337.setTop (mkF m 11 #[.val (.ref a0), .val (.ref a1), .val (.int (1 : Int32))] [])) _
      refine XS.aloadN X337.here hx rfl (hb hby d5_11) rfl rfl ?_
      show Steps p.tables e below (T337.setTop (mkF m 12 #[.val (.ref a0), .val (.ref a1), .val (.int (1 : Int32))] [(.ref a0)])) _
      refine st339 _ ?_
      show Steps p.tables e below (T339.setTop (mkF m 15 #[.val (.ref a0), .val (.ref a1), .val (.int (1 : Int32))] [(.ref a2)])) _
      refine XS.iloadN X339.here hx rfl (hb hby d5_15) rfl ?_
      show Steps p.tables e below (T339.setTop (mkF m 16 #[.val (.ref a0), .val (.ref a1), .val (.int (1 : Int32))] [(.int (1 : Int32)), (.ref a2)])) _
      refine X339.iaload hx (j := (1 : Int32)) (v := (.int w1)) (by rw [e339]; exact Ar340.1) (State.isArrayOf_alike hZ.alike Ar340.2.1) Ar340.2.2 hin340 hat340 (g := (mkF m 16 #[.val (.ref a0), .val (.ref a1), .val (.int (1 : Int32))] [(.int (1 : Int32)), (.ref a2)])) rfl rfl (hb hby d5_16) _ ?_
      show Steps p.tables e below (T339.setTop (mkF m 17 #[.val (.ref a0), .val (.ref a1), .val (.int (1 : Int32))] [(.int w1)])) _
      refine XS.aloadN X339.here hx rfl (hb hby d5_17) rfl rfl ?_
      show Steps p.tables e below (T339.setTop (mkF m 18 #[.val (.ref a0), .val (.ref a1), .val (.int (1 : Int32))] [(.ref a1), (.int w1)])) _
      refine st341 _ ?_
      show Steps p.tables e below (T341.setTop (mkF m 21 #[.val (.ref a0), .val (.ref a1), .val (.int (1 : Int32))] [(.ref a3), (.int w1)])) _
      refine XS.iloadN X341.here hx rfl (hb hby d5_21) rfl ?_
      show Steps p.tables e below (T341.setTop (mkF m 22 #[.val (.ref a0), .val (.ref a1), .val (.int (1 : Int32))] [(.int (1 : Int32)), (.ref a3), (.int w1)])) _
      refine X341.iaload hx (j := (1 : Int32)) (v := (.int v1)) (by rw [e341]; exact Ar342.1) (State.isArrayOf_alike hZ.alike Ar342.2.1) Ar342.2.2 hin342 hat342 (g := (mkF m 22 #[.val (.ref a0), .val (.ref a1), .val (.int (1 : Int32))] [(.int (1 : Int32)), (.ref a3), (.int w1)])) rfl rfl (hb hby d5_22) _ ?_
      exact k
    by_cases c344 : w1 < v1
    ·
      obtain ⟨fs, hr, hrun, hended, hW, hsame⟩ := X341.leave (v := some (.int (0 : Int32))) (fun h => by rw [Bd.returns] at h; cases h)
      refine ⟨_, _, pre343 _ ?_, hrun, hended, _, _, rfl, ?_, ⟨_, rfl⟩, hW, hsame.mono (by decide) (by decide)⟩
      ·
        show Steps p.tables e below (T341.setTop (mkF m 23 #[.val (.ref a0), .val (.ref a1), .val (.int (1 : Int32))] [(.int v1), (.int w1)])) _
        refine XS.icmpNo X341.here hx rfl (hb hby d5_23) rfl (tlt c344).2.1 ?_
        show Steps p.tables e below (T341.setTop (mkF m 26 #[.val (.ref a0), .val (.ref a1), .val (.int (1 : Int32))] [])) _
        refine XS.iconst X341.here hx rfl (hb hby d5_26) ?_
        show Steps p.tables e below (T341.setTop (mkF m 27 #[.val (.ref a0), .val (.ref a1), .val (.int (1 : Int32))] [(.int (0 : Int32))])) _
        exact retZ X341 hx Bd.returns (by decide) (hb hby d5_27) hr
      ·
        show Q_cv3 Z a0 a1 a2 k1 w0 w1 w2 a3 k2 v0 v1 v2 h0 n0 _ T341.heap _
        rw [e341]
        exact ⟨(by simp only [if_neg c336, if_pos c344]), N0, rfl⟩
    ·
      obtain ⟨T345, X345, e345, st345⟩ := getF X341 hx hZ hown (host := "") (Or.inl (hw _ (List.mem_of_getElem? (i := 14) rfl))) Via.refl e341 F_a0_tokens (g := (mkF m 4 #[.val (.ref a0), .val (.ref a1), .val (.int (2 : Int32))] [(.ref a0), (.int (2 : Int32))])) rfl rfl (hb hby d5_4)
      obtain ⟨cl346, Ar346, q346, S346, N346, H346, G346⟩ := id V_a2
      obtain ⟨T347, X347, e347, st347⟩ := getF X345 hx hZ hown (host := "") (Or.inl (hw _ (List.mem_of_getElem? (i := 14) rfl))) Via.refl e345 F_a0_tokens (g := (mkF m 12 #[.val (.ref a0), .val (.ref a1), .val (.int (2 : Int32))] [(.ref a0)])) rfl rfl (hb hby d5_12)
      obtain ⟨cl348, Ar348, q348, S348, N348, H348, G348⟩ := id V_a2
      have hin348 : ¬ ((2 : Int32) < 0 ∨ cl348.slots.size ≤ ((2 : Int32)).toNatClampNeg) := inb_of S348 ⟨by decide, by decide⟩
      have hat348 : cl348.slots[((2 : Int32)).toNatClampNeg]? = some (.int w2) := Has.at H348 hin348 rfl
      obtain ⟨T349, X349, e349, st349⟩ := getF X347 hx hZ hown (host := "") (Or.inl (hw _ (List.mem_of_getElem? (i := 14) rfl))) Via.refl e347 F_a1_tokens (g := (mkF m 18 #[.val (.ref a0), .val (.ref a1), .val (.int (2 : Int32))] [(.ref a1), (.int w2)])) rfl rfl (hb hby d5_18)
      obtain ⟨cl350, Ar350, q350, S350, N350, H350, G350⟩ := id V_a3
      have hin350 : ¬ ((2 : Int32) < 0 ∨ cl350.slots.size ≤ ((2 : Int32)).toNatClampNeg) := inb_of S350 ⟨by decide, by decide⟩
      have hat350 : cl350.slots[((2 : Int32)).toNatClampNeg]? = some (.int v2) := Has.at H350 hin350 rfl
      have pre351 : ∀ t, Steps p.tables e below (T349.setTop (mkF m 23 #[.val (.ref a0), .val (.ref a1), .val (.int (2 : Int32))] [(.int v2), (.int w2)])) t → Steps p.tables e below (s₁.setTop (entryFrame m #[(.ref a0), (.ref a1)] 3)) t := fun t k => by
        refine pre343 t ?_
        show Steps p.tables e below (T341.setTop (mkF m 23 #[.val (.ref a0), .val (.ref a1), .val (.int (1 : Int32))] [(.int v1), (.int w1)])) _
        refine XS.icmpYes X341.here hx rfl (pc0 := 23) (pc' := 28) rfl (hb hby d5_23) rfl (flt c344).2.1 (by decide) (by decide) ?_
        show Steps p.tables e below (T341.setTop (mkF m 28 #[.val (.ref a0), .val (.ref a1), .val (.int (1 : Int32))] [])) _
        refine XS.iinc X341.here hx rfl (hb hby d5_28) rfl (l' := #[.val (.ref a0), .val (.ref a1), .val (.int (2 : Int32))]) rfl ?_
        show Steps p.tables e below (T341.setTop (mkF m 31 #[.val (.ref a0), .val (.ref a1), .val (.int (2 : Int32))] [])) _
        refine XS.goto X341.here hx rfl (pc0 := 31) (pc' := 2) rfl (hb hby d5_31) (by decide) (by decide) ?_
        show Steps p.tables e below (T341.setTop (mkF m 2 #[.val (.ref a0), .val (.ref a1), .val (.int (2 : Int32))] [])) _
        refine XS.iloadN X341.here hx rfl (hb hby d5_2) rfl ?_
        show Steps p.tables e below (T341.setTop (mkF m 3 #[.val (.ref a0), .val (.ref a1), .val (.int (2 : Int32))] [(.int (2 : Int32))])) _
        refine XS.aloadN X341.here hx rfl (hb hby d5_3) rfl rfl ?_
        show Steps p.tables e below (T341.setTop (mkF m 4 #[.val (.ref a0), .val (.ref a1), .val (.int (2 : Int32))] [(.ref a0), (.int (2 : Int32))])) _
        refine st345 _ ?_
        show Steps p.tables e below (T345.setTop (mkF m 7 #[.val (.ref a0), .val (.ref a1), .val (.int (2 : Int32))] [(.ref a2), (.int (2 : Int32))])) _
        refine X345.arraylength hx (by rw [e345]; exact Ar346.1) (State.isArrayOf_alike hZ.alike Ar346.2.1) (g := (mkF m 7 #[.val (.ref a0), .val (.ref a1), .val (.int (2 : Int32))] [(.ref a2), (.int (2 : Int32))])) rfl rfl (hb hby d5_7) _ ?_
        rw [len_of S346 N346]
        show Steps p.tables e below (T345.setTop (mkF m 8 #[.val (.ref a0), .val (.ref a1), .val (.int (2 : Int32))] [(.int (3 : Int32)), (.int (2 : Int32))])) _
        refine XS.icmpNo X345.here hx rfl (hb hby d5_8) rfl (tlt (by decide)).2.1 ?_
        show Steps p.tables e below (T345.setTop (mkF m 11 #[.val (.ref a0), .val (.ref a1), .val (.int (2 : Int32))] [])) _
        refine XS.aloadN X345.here hx rfl (hb hby d5_11) rfl rfl ?_
        show Steps p.tables e below (T345.setTop (mkF m 12 #[.val (.ref a0), .val (.ref a1), .val (.int (2 : Int32))] [(.ref a0)])) _
        refine st347 _ ?_
        show Steps p.tables e below (T347.setTop (mkF m 15 #[.val (.ref a0), .val (.ref a1), .val (.int (2 : Int32))] [(.ref a2)])) _
        refine XS.iloadN X347.here hx rfl (hb hby d5_15) rfl ?_
        show Steps p.tables e below (T347.setTop (mkF m 16 #[.val (.ref a0), .val (.ref a1), .val (.int (2 : Int32))] [(.int (2 : Int32)), (.ref a2)])) _
        refine X347.iaload hx (j := (2 : Int32)) (v := (.int w2)) (by rw [e347]; exact Ar348.1) (State.isArrayOf_alike hZ.alike Ar348.2.1) Ar348.2.2 hin348 hat348 (g := (mkF m 16 #[.val (.ref a0), .val (.ref a1), .val (.int (2 : Int32))] [(.int (2 : Int32)), (.ref a2)])) rfl rfl (hb hby d5_16) _ ?_
        show Steps p.tables e below (T347.setTop (mkF m 17 #[.val (.ref a0), .val (.ref a1), .val (.int (2 : Int32))] [(.int w2)])) _
        refine XS.aloadN X347.here hx rfl (hb hby d5_17) rfl rfl ?_
        show Steps p.tables e below (T347.setTop (mkF m 18 #[.val (.ref a0), .val (.ref a1), .val (.int (2 : Int32))] [(.ref a1), (.int w2)])) _
        refine st349 _ ?_
        show Steps p.tables e below (T349.setTop (mkF m 21 #[.val (.ref a0), .val (.ref a1), .val (.int (2 : Int32))] [(.ref a3), (.int w2)])) _
        refine XS.iloadN X349.here hx rfl (hb hby d5_21) rfl ?_
        show Steps p.tables e below (T349.setTop (mkF m 22 #[.val (.ref a0), .val (.ref a1), .val (.int (2 : Int32))] [(.int (2 : Int32)), (.ref a3), (.int w2)])) _
        refine X349.iaload hx (j := (2 : Int32)) (v := (.int v2)) (by rw [e349]; exact Ar350.1) (State.isArrayOf_alike hZ.alike Ar350.2.1) Ar350.2.2 hin350 hat350 (g := (mkF m 22 #[.val (.ref a0), .val (.ref a1), .val (.int (2 : Int32))] [(.int (2 : Int32)), (.ref a3), (.int w2)])) rfl rfl (hb hby d5_22) _ ?_
        exact k
      by_cases c352 : w2 < v2
      ·
        obtain ⟨fs, hr, hrun, hended, hW, hsame⟩ := X349.leave (v := some (.int (0 : Int32))) (fun h => by rw [Bd.returns] at h; cases h)
        refine ⟨_, _, pre351 _ ?_, hrun, hended, _, _, rfl, ?_, ⟨_, rfl⟩, hW, hsame.mono (by decide) (by decide)⟩
        ·
          show Steps p.tables e below (T349.setTop (mkF m 23 #[.val (.ref a0), .val (.ref a1), .val (.int (2 : Int32))] [(.int v2), (.int w2)])) _
          refine XS.icmpNo X349.here hx rfl (hb hby d5_23) rfl (tlt c352).2.1 ?_
          show Steps p.tables e below (T349.setTop (mkF m 26 #[.val (.ref a0), .val (.ref a1), .val (.int (2 : Int32))] [])) _
          refine XS.iconst X349.here hx rfl (hb hby d5_26) ?_
          show Steps p.tables e below (T349.setTop (mkF m 27 #[.val (.ref a0), .val (.ref a1), .val (.int (2 : Int32))] [(.int (0 : Int32))])) _
          exact retZ X349 hx Bd.returns (by decide) (hb hby d5_27) hr
        ·
          show Q_cv3 Z a0 a1 a2 k1 w0 w1 w2 a3 k2 v0 v1 v2 h0 n0 _ T349.heap _
          rw [e349]
          exact ⟨(by simp only [if_neg c336, if_neg c344, if_pos c352]), N0, rfl⟩
      ·
        obtain ⟨T353, X353, e353, st353⟩ := getF X349 hx hZ hown (host := "") (Or.inl (hw _ (List.mem_of_getElem? (i := 14) rfl))) Via.refl e349 F_a0_tokens (g := (mkF m 4 #[.val (.ref a0), .val (.ref a1), .val (.int (3 : Int32))] [(.ref a0), (.int (3 : Int32))])) rfl rfl (hb hby d5_4)
        obtain ⟨cl354, Ar354, q354, S354, N354, H354, G354⟩ := id V_a2
        obtain ⟨fs, hr, hrun, hended, hW, hsame⟩ := X353.leave (v := some (.int (1 : Int32))) (fun h => by rw [Bd.returns] at h; cases h)
        refine ⟨_, _, pre351 _ ?_, hrun, hended, _, _, rfl, ?_, ⟨_, rfl⟩, hW, hsame.mono (by decide) (by decide)⟩
        ·
          show Steps p.tables e below (T349.setTop (mkF m 23 #[.val (.ref a0), .val (.ref a1), .val (.int (2 : Int32))] [(.int v2), (.int w2)])) _
          refine XS.icmpYes X349.here hx rfl (pc0 := 23) (pc' := 28) rfl (hb hby d5_23) rfl (flt c352).2.1 (by decide) (by decide) ?_
          show Steps p.tables e below (T349.setTop (mkF m 28 #[.val (.ref a0), .val (.ref a1), .val (.int (2 : Int32))] [])) _
          refine XS.iinc X349.here hx rfl (hb hby d5_28) rfl (l' := #[.val (.ref a0), .val (.ref a1), .val (.int (3 : Int32))]) rfl ?_
          show Steps p.tables e below (T349.setTop (mkF m 31 #[.val (.ref a0), .val (.ref a1), .val (.int (3 : Int32))] [])) _
          refine XS.goto X349.here hx rfl (pc0 := 31) (pc' := 2) rfl (hb hby d5_31) (by decide) (by decide) ?_
          show Steps p.tables e below (T349.setTop (mkF m 2 #[.val (.ref a0), .val (.ref a1), .val (.int (3 : Int32))] [])) _
          refine XS.iloadN X349.here hx rfl (hb hby d5_2) rfl ?_
          show Steps p.tables e below (T349.setTop (mkF m 3 #[.val (.ref a0), .val (.ref a1), .val (.int (3 : Int32))] [(.int (3 : Int32))])) _
          refine XS.aloadN X349.here hx rfl (hb hby d5_3) rfl rfl ?_
          show Steps p.tables e below (T349.setTop (mkF m 4 #[.val (.ref a0), .val (.ref a1), .val (.int (3 : Int32))] [(.ref a0), (.int (3 : Int32))])) _
          refine st353 _ ?_
          show Steps p.tables e below (T353.setTop (mkF m 7 #[.val (.ref a0), .val (.ref a1), .val (.int (3 : Int32))] [(.ref a2), (.int (3 : Int32))])) _
          refine X353.arraylength hx (by rw [e353]; exact Ar354.1) (State.isArrayOf_alike hZ.alike Ar354.2.1) (g := (mkF m 7 #[.val (.ref a0), .val (.ref a1), .val (.int (3 : Int32))] [(.ref a2), (.int (3 : Int32))])) rfl rfl (hb hby d5_7) _ ?_
          rw [len_of S354 N354]
          show Steps p.tables e below (T353.setTop (mkF m 8 #[.val (.ref a0), .val (.ref a1), .val (.int (3 : Int32))] [(.int (3 : Int32)), (.int (3 : Int32))])) _
          refine XS.icmpYes X353.here hx rfl (pc0 := 8) (pc' := 34) rfl (hb hby d5_8) rfl (flt (by decide)).2.1 (by decide) (by decide) ?_
          show Steps p.tables e below (T353.setTop (mkF m 34 #[.val (.ref a0), .val (.ref a1), .val (.int (3 : Int32))] [])) _
          refine XS.iconst X353.here hx rfl (hb hby d5_34) ?_
          show Steps p.tables e below (T353.setTop (mkF m 35 #[.val (.ref a0), .val (.ref a1), .val (.int (3 : Int32))] [(.int (1 : Int32))])) _
          exact retZ X353 hx Bd.returns (by decide) (hb hby d5_35) hr
        ·
          show Q_cv3 Z a0 a1 a2 k1 w0 w1 w2 a3 k2 v0 v1 v2 h0 n0 _ T353.heap _
          rw [e353]
          exact ⟨(by simp only [if_neg c336, if_neg c344, if_neg c352]), N0, rfl⟩
theorem pd_3 : parseMethodDescriptor "(IIII)[I" = some ⟨[.int, .int, .int, .int], some (.array .int)⟩ := by decide +kernel
theorem pd_4 : parseMethodDescriptor "([I)V" = some ⟨[(.array .int)], none⟩ := by decide +kernel
theorem pd_5 : parseMethodDescriptor "(Lcom/example/enact/enact/net/Marking;)Z" = some ⟨[(.object "com/example/enact/enact/net/Marking")], some .boolean⟩ := by decide +kernel
theorem ef_rm0 (m : MethodId) (q0 : Int64) (q1 : Int64) (p2 : Int32) (p3 : Int32) (p4 : Int32) : entryFrame m #[(.long q0), (.long q1), (.int p2), (.int p3), (.int p4)] maxLocals = mkF m 0 #[.val (.long q0), .second, .val (.long q1), .second, .val (.int p2), .val (.int p3), .val (.int p4), .unset, .unset, .unset, .unset, .unset, .unset, .unset, .unset, .unset, .unset, .unset] [] := by first | (simp [entryFrame, mkF, argsToLocals, Value.category, maxLocals]; done) | rfl
def Q_rm0 (Z : State) (q0 : Int64) (q1 : Int64) (p2 : Int32) (p3 : Int32) (p4 : Int32) (h0 : Heap) (n0 : Nat) (v : Option Value) (h : Heap) (L : List Loc) : Prop := v = some (.int (1 : Int32)) ∧ Fr n0 L
set_option maxRecDepth 65536 in
set_option maxHeartbeats 40000000 in
theorem rm0 (l : Launch) (Z : State) (aw : Array Value) (hw : ∀ d ∈ tables_1, d.before aw Z = true) (ws : List Jvm.Cond) (q0 : Int64) (q1 : Int64) (p2 : Int32) (p3 : Int32) (p4 : Int32) (h0 : Heap) (n0 : Nat) (Z0 : n0 ≤ h0.size) :
    MetFree l x (head1 (Jvm.Cond.code x code maxLocals ret :: ws) room_1) (fun a U => a = #[(.long q0), (.long q1), (.int p2), (.int p3), (.int p4)] ∧ Z.Warmed39 U.vm ∧ U.heap = h0) (fun _ _ _ _ _ => True) (fun _ U o U' => ∃ v L, o = .returned v ∧ Q_rm0 Z q0 q1 p2 p3 p4 h0 n0 v U'.heap L ∧ FrameEnd U o U' L room_1.cells room_1.slots) := by
  refine MetFree.of_bodySF (plainFor_of_name pn_3) hisR ?_
  intro p e s m args below meth c s₁ Bd hml0 hP hK
  obtain ⟨rfl, hZ, hh⟩ := hP
  have hx := Bd.exec
  have hby := Bd.bytes
  have hml : c.maxLocals = 18 := hml0
  have hown : s.vm.findClass "com/example/enact/enact/net/MarkingCoversPinLaw" = some m.cls := findClass_of_methodNamed Bd.named
  have hnm := (name_of_methodNamed Bd.named Bd.method).1
  have X0 : Stand p l e room_1 s m #[(.long q0), (.long q1), (.int p2), (.int p3), (.int p4)] below meth c s₁ [] 0 0 := Stand.of_body Bd
  have e0 : s₁.heap = h0 := by rw [← hh, Bd.state]; rfl
  have N0 := Fr.nil n0
  have pre0 : ∀ t, Steps p.tables e below (s₁.setTop (mkF m 0 #[.val (.long q0), .second, .val (.long q1), .second, .val (.int p2), .val (.int p3), .val (.int p4), .unset, .unset, .unset, .unset, .unset, .unset, .unset, .unset, .unset, .unset, .unset] [])) t → Steps p.tables e below (s₁.setTop (entryFrame m #[(.long q0), (.long q1), (.int p2), (.int p3), (.int p4)] maxLocals)) t := fun t k => castTop (ef_rm0 m q0 q1 p2 p3 p4) k
  obtain ⟨x355, hx355⟩ : ∃ z : Int32, z = (((q0.toUInt64 >>> ((32 : Int32) &&& 0x3f).toInt64.toUInt64).toInt64).toInt32) := ⟨_, rfl⟩
  have pre356 : ∀ t, Steps p.tables e below (s₁.setTop (mkF m 7 #[.val (.long q0), .second, .val (.long q1), .second, .val (.int p2), .val (.int p3), .val (.int p4), .val (.int x355), .unset, .unset, .unset, .unset, .unset, .unset, .unset, .unset, .unset, .unset] [])) t → Steps p.tables e below (s₁.setTop (entryFrame m #[(.long q0), (.long q1), (.int p2), (.int p3), (.int p4)] maxLocals)) t := fun t k => by
    refine pre0 t ?_
    show Steps p.tables e below (s₁.setTop (mkF m 0 #[.val (.long q0), .second, .val (.long q1), .second, .val (.int p2), .val (.int p3), .val (.int p4), .unset, .unset, .unset, .unset, .unset, .unset, .unset, .unset, .unset, .unset, .unset] [])) _
    refine XS.lloadN X0.here hx rfl (hb hby at_0) rfl ?_
    show Steps p.tables e below (s₁.setTop (mkF m 1 #[.val (.long q0), .second, .val (.long q1), .second, .val (.int p2), .val (.int p3), .val (.int p4), .unset, .unset, .unset, .unset, .unset, .unset, .unset, .unset, .unset, .unset, .unset] [(.long q0)])) _
    refine XS.bipush X0.here hx rfl (hb hby at_1) ?_
    show Steps p.tables e below (s₁.setTop (mkF m 3 #[.val (.long q0), .second, .val (.long q1), .second, .val (.int p2), .val (.int p3), .val (.int p4), .unset, .unset, .unset, .unset, .unset, .unset, .unset, .unset, .unset, .unset, .unset] [(.int (32 : Int32)), (.long q0)])) _
    refine XS.lushr X0.here hx rfl (hb hby at_3) rfl ?_
    show Steps p.tables e below (s₁.setTop (mkF m 4 #[.val (.long q0), .second, .val (.long q1), .second, .val (.int p2), .val (.int p3), .val (.int p4), .unset, .unset, .unset, .unset, .unset, .unset, .unset, .unset, .unset, .unset, .unset] [(.long ((q0.toUInt64 >>> ((32 : Int32) &&& 0x3f).toInt64.toUInt64).toInt64))])) _
    refine XS.l2i X0.here hx rfl (hb hby at_4) rfl ?_
    show Steps p.tables e below (s₁.setTop (mkF m 5 #[.val (.long q0), .second, .val (.long q1), .second, .val (.int p2), .val (.int p3), .val (.int p4), .unset, .unset, .unset, .unset, .unset, .unset, .unset, .unset, .unset, .unset, .unset] [(.int (((q0.toUInt64 >>> ((32 : Int32) &&& 0x3f).toInt64.toUInt64).toInt64).toInt32))])) _
    refine XS.istore X0.here hx rfl (hb hby at_5) rfl (l' := #[.val (.long q0), .second, .val (.long q1), .second, .val (.int p2), .val (.int p3), .val (.int p4), .val (.int (((q0.toUInt64 >>> ((32 : Int32) &&& 0x3f).toInt64.toUInt64).toInt64).toInt32)), .unset, .unset, .unset, .unset, .unset, .unset, .unset, .unset, .unset, .unset]) rfl ?_
    subst hx355
    exact k
  obtain ⟨x357, hx357⟩ : ∃ z : Int32, z = (q0.toInt32) := ⟨_, rfl⟩
  have pre358 : ∀ t, Steps p.tables e below (s₁.setTop (mkF m 11 #[.val (.long q0), .second, .val (.long q1), .second, .val (.int p2), .val (.int p3), .val (.int p4), .val (.int x355), .val (.int x357), .unset, .unset, .unset, .unset, .unset, .unset, .unset, .unset, .unset] [])) t → Steps p.tables e below (s₁.setTop (entryFrame m #[(.long q0), (.long q1), (.int p2), (.int p3), (.int p4)] maxLocals)) t := fun t k => by
    refine pre356 t ?_
    show Steps p.tables e below (s₁.setTop (mkF m 7 #[.val (.long q0), .second, .val (.long q1), .second, .val (.int p2), .val (.int p3), .val (.int p4), .val (.int x355), .unset, .unset, .unset, .unset, .unset, .unset, .unset, .unset, .unset, .unset] [])) _
    refine XS.lloadN X0.here hx rfl (hb hby at_7) rfl ?_
    show Steps p.tables e below (s₁.setTop (mkF m 8 #[.val (.long q0), .second, .val (.long q1), .second, .val (.int p2), .val (.int p3), .val (.int p4), .val (.int x355), .unset, .unset, .unset, .unset, .unset, .unset, .unset, .unset, .unset, .unset] [(.long q0)])) _
    refine XS.l2i X0.here hx rfl (hb hby at_8) rfl ?_
    show Steps p.tables e below (s₁.setTop (mkF m 9 #[.val (.long q0), .second, .val (.long q1), .second, .val (.int p2), .val (.int p3), .val (.int p4), .val (.int x355), .unset, .unset, .unset, .unset, .unset, .unset, .unset, .unset, .unset, .unset] [(.int (q0.toInt32))])) _
    refine XS.istore X0.here hx rfl (hb hby at_9) rfl (l' := #[.val (.long q0), .second, .val (.long q1), .second, .val (.int p2), .val (.int p3), .val (.int p4), .val (.int x355), .val (.int (q0.toInt32)), .unset, .unset, .unset, .unset, .unset, .unset, .unset, .unset, .unset]) rfl ?_
    subst hx357
    exact k
  obtain ⟨x359, hx359⟩ : ∃ z : Int32, z = (((q1.toUInt64 >>> ((32 : Int32) &&& 0x3f).toInt64.toUInt64).toInt64).toInt32) := ⟨_, rfl⟩
  have pre360 : ∀ t, Steps p.tables e below (s₁.setTop (mkF m 18 #[.val (.long q0), .second, .val (.long q1), .second, .val (.int p2), .val (.int p3), .val (.int p4), .val (.int x355), .val (.int x357), .val (.int x359), .unset, .unset, .unset, .unset, .unset, .unset, .unset, .unset] [])) t → Steps p.tables e below (s₁.setTop (entryFrame m #[(.long q0), (.long q1), (.int p2), (.int p3), (.int p4)] maxLocals)) t := fun t k => by
    refine pre358 t ?_
    show Steps p.tables e below (s₁.setTop (mkF m 11 #[.val (.long q0), .second, .val (.long q1), .second, .val (.int p2), .val (.int p3), .val (.int p4), .val (.int x355), .val (.int x357), .unset, .unset, .unset, .unset, .unset, .unset, .unset, .unset, .unset] [])) _
    refine XS.lloadN X0.here hx rfl (hb hby at_11) rfl ?_
    show Steps p.tables e below (s₁.setTop (mkF m 12 #[.val (.long q0), .second, .val (.long q1), .second, .val (.int p2), .val (.int p3), .val (.int p4), .val (.int x355), .val (.int x357), .unset, .unset, .unset, .unset, .unset, .unset, .unset, .unset, .unset] [(.long q1)])) _
    refine XS.bipush X0.here hx rfl (hb hby at_12) ?_
    show Steps p.tables e below (s₁.setTop (mkF m 14 #[.val (.long q0), .second, .val (.long q1), .second, .val (.int p2), .val (.int p3), .val (.int p4), .val (.int x355), .val (.int x357), .unset, .unset, .unset, .unset, .unset, .unset, .unset, .unset, .unset] [(.int (32 : Int32)), (.long q1)])) _
    refine XS.lushr X0.here hx rfl (hb hby at_14) rfl ?_
    show Steps p.tables e below (s₁.setTop (mkF m 15 #[.val (.long q0), .second, .val (.long q1), .second, .val (.int p2), .val (.int p3), .val (.int p4), .val (.int x355), .val (.int x357), .unset, .unset, .unset, .unset, .unset, .unset, .unset, .unset, .unset] [(.long ((q1.toUInt64 >>> ((32 : Int32) &&& 0x3f).toInt64.toUInt64).toInt64))])) _
    refine XS.l2i X0.here hx rfl (hb hby at_15) rfl ?_
    show Steps p.tables e below (s₁.setTop (mkF m 16 #[.val (.long q0), .second, .val (.long q1), .second, .val (.int p2), .val (.int p3), .val (.int p4), .val (.int x355), .val (.int x357), .unset, .unset, .unset, .unset, .unset, .unset, .unset, .unset, .unset] [(.int (((q1.toUInt64 >>> ((32 : Int32) &&& 0x3f).toInt64.toUInt64).toInt64).toInt32))])) _
    refine XS.istore X0.here hx rfl (hb hby at_16) rfl (l' := #[.val (.long q0), .second, .val (.long q1), .second, .val (.int p2), .val (.int p3), .val (.int p4), .val (.int x355), .val (.int x357), .val (.int (((q1.toUInt64 >>> ((32 : Int32) &&& 0x3f).toInt64.toUInt64).toInt64).toInt32)), .unset, .unset, .unset, .unset, .unset, .unset, .unset, .unset]) rfl ?_
    subst hx359
    exact k
  obtain ⟨x361, hx361⟩ : ∃ z : Int32, z = (q1.toInt32) := ⟨_, rfl⟩
  have pre362 : ∀ t, Steps p.tables e below (s₁.setTop (mkF m 22 #[.val (.long q0), .second, .val (.long q1), .second, .val (.int p2), .val (.int p3), .val (.int p4), .val (.int x355), .val (.int x357), .val (.int x359), .val (.int x361), .unset, .unset, .unset, .unset, .unset, .unset, .unset] [])) t → Steps p.tables e below (s₁.setTop (entryFrame m #[(.long q0), (.long q1), (.int p2), (.int p3), (.int p4)] maxLocals)) t := fun t k => by
    refine pre360 t ?_
    show Steps p.tables e below (s₁.setTop (mkF m 18 #[.val (.long q0), .second, .val (.long q1), .second, .val (.int p2), .val (.int p3), .val (.int p4), .val (.int x355), .val (.int x357), .val (.int x359), .unset, .unset, .unset, .unset, .unset, .unset, .unset, .unset] [])) _
    refine XS.lloadN X0.here hx rfl (hb hby at_18) rfl ?_
    show Steps p.tables e below (s₁.setTop (mkF m 19 #[.val (.long q0), .second, .val (.long q1), .second, .val (.int p2), .val (.int p3), .val (.int p4), .val (.int x355), .val (.int x357), .val (.int x359), .unset, .unset, .unset, .unset, .unset, .unset, .unset, .unset] [(.long q1)])) _
    refine XS.l2i X0.here hx rfl (hb hby at_19) rfl ?_
    show Steps p.tables e below (s₁.setTop (mkF m 20 #[.val (.long q0), .second, .val (.long q1), .second, .val (.int p2), .val (.int p3), .val (.int p4), .val (.int x355), .val (.int x357), .val (.int x359), .unset, .unset, .unset, .unset, .unset, .unset, .unset, .unset] [(.int (q1.toInt32))])) _
    refine XS.istore X0.here hx rfl (hb hby at_20) rfl (l' := #[.val (.long q0), .second, .val (.long q1), .second, .val (.int p2), .val (.int p3), .val (.int p4), .val (.int x355), .val (.int x357), .val (.int x359), .val (.int (q1.toInt32)), .unset, .unset, .unset, .unset, .unset, .unset, .unset]) rfl ?_
    subst hx361
    exact k
  obtain ⟨x364, hx364⟩ : ∃ z : Int32, z = (if (((p4.toUInt32 >>> ((2 : Int32) &&& 31).toUInt32).toInt32) &&& (1 : Int32)) = (0 : Int32) then x359 else x355) := ⟨_, rfl⟩
  have pre365 : ∀ t, Steps p.tables e below (s₁.setTop (mkF m 39 #[.val (.long q0), .second, .val (.long q1), .second, .val (.int p2), .val (.int p3), .val (.int p4), .val (.int x355), .val (.int x357), .val (.int x364), .val (.int x361), .val (.int p3), .unset, .unset, .unset, .unset, .unset, .unset] [])) t → Steps p.tables e below (s₁.setTop (entryFrame m #[(.long q0), (.long q1), (.int p2), (.int p3), (.int p4)] maxLocals)) t := fun t k => by
    refine pre362 t ?_
    show Steps p.tables e below (s₁.setTop (mkF m 22 #[.val (.long q0), .second, .val (.long q1), .second, .val (.int p2), .val (.int p3), .val (.int p4), .val (.int x355), .val (.int x357), .val (.int x359), .val (.int x361), .unset, .unset, .unset, .unset, .unset, .unset, .unset] [])) _
    refine XS.iload X0.here hx rfl (hb hby at_22) rfl ?_
    show Steps p.tables e below (s₁.setTop (mkF m 24 #[.val (.long q0), .second, .val (.long q1), .second, .val (.int p2), .val (.int p3), .val (.int p4), .val (.int x355), .val (.int x357), .val (.int x359), .val (.int x361), .unset, .unset, .unset, .unset, .unset, .unset, .unset] [(.int p3)])) _
    refine XS.istore X0.here hx rfl (hb hby at_24) rfl (l' := #[.val (.long q0), .second, .val (.long q1), .second, .val (.int p2), .val (.int p3), .val (.int p4), .val (.int x355), .val (.int x357), .val (.int x359), .val (.int x361), .val (.int p3), .unset, .unset, .unset, .unset, .unset, .unset]) rfl ?_
    show Steps p.tables e below (s₁.setTop (mkF m 26 #[.val (.long q0), .second, .val (.long q1), .second, .val (.int p2), .val (.int p3), .val (.int p4), .val (.int x355), .val (.int x357), .val (.int x359), .val (.int x361), .val (.int p3), .unset, .unset, .unset, .unset, .unset, .unset] [])) _
    refine XS.iload X0.here hx rfl (hb hby at_26) rfl ?_
    show Steps p.tables e below (s₁.setTop (mkF m 28 #[.val (.long q0), .second, .val (.long q1), .second, .val (.int p2), .val (.int p3), .val (.int p4), .val (.int x355), .val (.int x357), .val (.int x359), .val (.int x361), .val (.int p3), .unset, .unset, .unset, .unset, .unset, .unset] [(.int p4)])) _
    refine XS.iconst X0.here hx rfl (hb hby at_28) ?_
    show Steps p.tables e below (s₁.setTop (mkF m 29 #[.val (.long q0), .second, .val (.long q1), .second, .val (.int p2), .val (.int p3), .val (.int p4), .val (.int x355), .val (.int x357), .val (.int x359), .val (.int x361), .val (.int p3), .unset, .unset, .unset, .unset, .unset, .unset] [(.int (2 : Int32)), (.int p4)])) _
    refine XS.iushr X0.here hx rfl (hb hby at_29) rfl ?_
    show Steps p.tables e below (s₁.setTop (mkF m 30 #[.val (.long q0), .second, .val (.long q1), .second, .val (.int p2), .val (.int p3), .val (.int p4), .val (.int x355), .val (.int x357), .val (.int x359), .val (.int x361), .val (.int p3), .unset, .unset, .unset, .unset, .unset, .unset] [(.int ((p4.toUInt32 >>> ((2 : Int32) &&& 31).toUInt32).toInt32))])) _
    refine XS.iconst X0.here hx rfl (hb hby at_30) ?_
    show Steps p.tables e below (s₁.setTop (mkF m 31 #[.val (.long q0), .second, .val (.long q1), .second, .val (.int p2), .val (.int p3), .val (.int p4), .val (.int x355), .val (.int x357), .val (.int x359), .val (.int x361), .val (.int p3), .unset, .unset, .unset, .unset, .unset, .unset] [(.int (1 : Int32)), (.int ((p4.toUInt32 >>> ((2 : Int32) &&& 31).toUInt32).toInt32))])) _
    refine XS.iand X0.here hx rfl (hb hby at_31) rfl ?_
    by_cases c363 : (((p4.toUInt32 >>> ((2 : Int32) &&& 31).toUInt32).toInt32) &&& (1 : Int32)) = (0 : Int32)
    ·
      show Steps p.tables e below (s₁.setTop (mkF m 32 #[.val (.long q0), .second, .val (.long q1), .second, .val (.int p2), .val (.int p3), .val (.int p4), .val (.int x355), .val (.int x357), .val (.int x359), .val (.int x361), .val (.int p3), .unset, .unset, .unset, .unset, .unset, .unset] [(.int (((p4.toUInt32 >>> ((2 : Int32) &&& 31).toUInt32).toInt32) &&& (1 : Int32)))])) _
      refine XS.ifYes X0.here hx rfl (pc0 := 32) (pc' := 39) rfl (hb hby at_32) rfl ((if0 _ _).trans (teq c363).1) (by decide) (by decide) ?_
      rw [show x364 = x359 from hx364.trans (by simp only [if_pos c363])] at k
      exact k
    ·
      show Steps p.tables e below (s₁.setTop (mkF m 32 #[.val (.long q0), .second, .val (.long q1), .second, .val (.int p2), .val (.int p3), .val (.int p4), .val (.int x355), .val (.int x357), .val (.int x359), .val (.int x361), .val (.int p3), .unset, .unset, .unset, .unset, .unset, .unset] [(.int (((p4.toUInt32 >>> ((2 : Int32) &&& 31).toUInt32).toInt32) &&& (1 : Int32)))])) _
      refine XS.ifNo X0.here hx rfl (hb hby at_32) rfl ((if0 _ _).trans (feq c363).1) ?_
      show Steps p.tables e below (s₁.setTop (mkF m 35 #[.val (.long q0), .second, .val (.long q1), .second, .val (.int p2), .val (.int p3), .val (.int p4), .val (.int x355), .val (.int x357), .val (.int x359), .val (.int x361), .val (.int p3), .unset, .unset, .unset, .unset, .unset, .unset] [])) _
      refine XS.iload X0.here hx rfl (hb hby at_35) rfl ?_
      show Steps p.tables e below (s₁.setTop (mkF m 37 #[.val (.long q0), .second, .val (.long q1), .second, .val (.int p2), .val (.int p3), .val (.int p4), .val (.int x355), .val (.int x357), .val (.int x359), .val (.int x361), .val (.int p3), .unset, .unset, .unset, .unset, .unset, .unset] [(.int x355)])) _
      refine XS.istore X0.here hx rfl (hb hby at_37) rfl (l' := #[.val (.long q0), .second, .val (.long q1), .second, .val (.int p2), .val (.int p3), .val (.int p4), .val (.int x355), .val (.int x357), .val (.int x355), .val (.int x361), .val (.int p3), .unset, .unset, .unset, .unset, .unset, .unset]) rfl ?_
      rw [show x364 = x355 from hx364.trans (by simp only [if_neg c363])] at k
      exact k
  obtain ⟨x367, hx367⟩ : ∃ z : Int32, z = (if (((p4.toUInt32 >>> ((3 : Int32) &&& 31).toUInt32).toInt32) &&& (1 : Int32)) = (0 : Int32) then x361 else x357) := ⟨_, rfl⟩
  have pre368 : ∀ t, Steps p.tables e below (s₁.setTop (mkF m 52 #[.val (.long q0), .second, .val (.long q1), .second, .val (.int p2), .val (.int p3), .val (.int p4), .val (.int x355), .val (.int x357), .val (.int x364), .val (.int x367), .val (.int p3), .unset, .unset, .unset, .unset, .unset, .unset] [])) t → Steps p.tables e below (s₁.setTop (entryFrame m #[(.long q0), (.long q1), (.int p2), (.int p3), (.int p4)] maxLocals)) t := fun t k => by
    refine pre365 t ?_
    show Steps p.tables e below (s₁.setTop (mkF m 39 #[.val (.long q0), .second, .val (.long q1), .second, .val (.int p2), .val (.int p3), .val (.int p4), .val (.int x355), .val (.int x357), .val (.int x364), .val (.int x361), .val (.int p3), .unset, .unset, .unset, .unset, .unset, .unset] [])) _
    refine XS.iload X0.here hx rfl (hb hby at_39) rfl ?_
    show Steps p.tables e below (s₁.setTop (mkF m 41 #[.val (.long q0), .second, .val (.long q1), .second, .val (.int p2), .val (.int p3), .val (.int p4), .val (.int x355), .val (.int x357), .val (.int x364), .val (.int x361), .val (.int p3), .unset, .unset, .unset, .unset, .unset, .unset] [(.int p4)])) _
    refine XS.iconst X0.here hx rfl (hb hby at_41) ?_
    show Steps p.tables e below (s₁.setTop (mkF m 42 #[.val (.long q0), .second, .val (.long q1), .second, .val (.int p2), .val (.int p3), .val (.int p4), .val (.int x355), .val (.int x357), .val (.int x364), .val (.int x361), .val (.int p3), .unset, .unset, .unset, .unset, .unset, .unset] [(.int (3 : Int32)), (.int p4)])) _
    refine XS.iushr X0.here hx rfl (hb hby at_42) rfl ?_
    show Steps p.tables e below (s₁.setTop (mkF m 43 #[.val (.long q0), .second, .val (.long q1), .second, .val (.int p2), .val (.int p3), .val (.int p4), .val (.int x355), .val (.int x357), .val (.int x364), .val (.int x361), .val (.int p3), .unset, .unset, .unset, .unset, .unset, .unset] [(.int ((p4.toUInt32 >>> ((3 : Int32) &&& 31).toUInt32).toInt32))])) _
    refine XS.iconst X0.here hx rfl (hb hby at_43) ?_
    show Steps p.tables e below (s₁.setTop (mkF m 44 #[.val (.long q0), .second, .val (.long q1), .second, .val (.int p2), .val (.int p3), .val (.int p4), .val (.int x355), .val (.int x357), .val (.int x364), .val (.int x361), .val (.int p3), .unset, .unset, .unset, .unset, .unset, .unset] [(.int (1 : Int32)), (.int ((p4.toUInt32 >>> ((3 : Int32) &&& 31).toUInt32).toInt32))])) _
    refine XS.iand X0.here hx rfl (hb hby at_44) rfl ?_
    by_cases c366 : (((p4.toUInt32 >>> ((3 : Int32) &&& 31).toUInt32).toInt32) &&& (1 : Int32)) = (0 : Int32)
    ·
      show Steps p.tables e below (s₁.setTop (mkF m 45 #[.val (.long q0), .second, .val (.long q1), .second, .val (.int p2), .val (.int p3), .val (.int p4), .val (.int x355), .val (.int x357), .val (.int x364), .val (.int x361), .val (.int p3), .unset, .unset, .unset, .unset, .unset, .unset] [(.int (((p4.toUInt32 >>> ((3 : Int32) &&& 31).toUInt32).toInt32) &&& (1 : Int32)))])) _
      refine XS.ifYes X0.here hx rfl (pc0 := 45) (pc' := 52) rfl (hb hby at_45) rfl ((if0 _ _).trans (teq c366).1) (by decide) (by decide) ?_
      rw [show x367 = x361 from hx367.trans (by simp only [if_pos c366])] at k
      exact k
    ·
      show Steps p.tables e below (s₁.setTop (mkF m 45 #[.val (.long q0), .second, .val (.long q1), .second, .val (.int p2), .val (.int p3), .val (.int p4), .val (.int x355), .val (.int x357), .val (.int x364), .val (.int x361), .val (.int p3), .unset, .unset, .unset, .unset, .unset, .unset] [(.int (((p4.toUInt32 >>> ((3 : Int32) &&& 31).toUInt32).toInt32) &&& (1 : Int32)))])) _
      refine XS.ifNo X0.here hx rfl (hb hby at_45) rfl ((if0 _ _).trans (feq c366).1) ?_
      show Steps p.tables e below (s₁.setTop (mkF m 48 #[.val (.long q0), .second, .val (.long q1), .second, .val (.int p2), .val (.int p3), .val (.int p4), .val (.int x355), .val (.int x357), .val (.int x364), .val (.int x361), .val (.int p3), .unset, .unset, .unset, .unset, .unset, .unset] [])) _
      refine XS.iload X0.here hx rfl (hb hby at_48) rfl ?_
      show Steps p.tables e below (s₁.setTop (mkF m 50 #[.val (.long q0), .second, .val (.long q1), .second, .val (.int p2), .val (.int p3), .val (.int p4), .val (.int x355), .val (.int x357), .val (.int x364), .val (.int x361), .val (.int p3), .unset, .unset, .unset, .unset, .unset, .unset] [(.int x357)])) _
      refine XS.istore X0.here hx rfl (hb hby at_50) rfl (l' := #[.val (.long q0), .second, .val (.long q1), .second, .val (.int p2), .val (.int p3), .val (.int p4), .val (.int x355), .val (.int x357), .val (.int x364), .val (.int x357), .val (.int p3), .unset, .unset, .unset, .unset, .unset, .unset]) rfl ?_
      rw [show x367 = x357 from hx367.trans (by simp only [if_neg c366])] at k
      exact k
  obtain ⟨x370, hx370⟩ : ∃ z : Int32, z = (if (((p4.toUInt32 >>> ((4 : Int32) &&& 31).toUInt32).toInt32) &&& (1 : Int32)) = (0 : Int32) then p3 else p2) := ⟨_, rfl⟩
  have pre371 : ∀ t, Steps p.tables e below (s₁.setTop (mkF m 65 #[.val (.long q0), .second, .val (.long q1), .second, .val (.int p2), .val (.int p3), .val (.int p4), .val (.int x355), .val (.int x357), .val (.int x364), .val (.int x367), .val (.int x370), .unset, .unset, .unset, .unset, .unset, .unset] [])) t → Steps p.tables e below (s₁.setTop (entryFrame m #[(.long q0), (.long q1), (.int p2), (.int p3), (.int p4)] maxLocals)) t := fun t k => by
    refine pre368 t ?_
    show Steps p.tables e below (s₁.setTop (mkF m 52 #[.val (.long q0), .second, .val (.long q1), .second, .val (.int p2), .val (.int p3), .val (.int p4), .val (.int x355), .val (.int x357), .val (.int x364), .val (.int x367), .val (.int p3), .unset, .unset, .unset, .unset, .unset, .unset] [])) _
    refine XS.iload X0.here hx rfl (hb hby at_52) rfl ?_
    show Steps p.tables e below (s₁.setTop (mkF m 54 #[.val (.long q0), .second, .val (.long q1), .second, .val (.int p2), .val (.int p3), .val (.int p4), .val (.int x355), .val (.int x357), .val (.int x364), .val (.int x367), .val (.int p3), .unset, .unset, .unset, .unset, .unset, .unset] [(.int p4)])) _
    refine XS.iconst X0.here hx rfl (hb hby at_54) ?_
    show Steps p.tables e below (s₁.setTop (mkF m 55 #[.val (.long q0), .second, .val (.long q1), .second, .val (.int p2), .val (.int p3), .val (.int p4), .val (.int x355), .val (.int x357), .val (.int x364), .val (.int x367), .val (.int p3), .unset, .unset, .unset, .unset, .unset, .unset] [(.int (4 : Int32)), (.int p4)])) _
    refine XS.iushr X0.here hx rfl (hb hby at_55) rfl ?_
    show Steps p.tables e below (s₁.setTop (mkF m 56 #[.val (.long q0), .second, .val (.long q1), .second, .val (.int p2), .val (.int p3), .val (.int p4), .val (.int x355), .val (.int x357), .val (.int x364), .val (.int x367), .val (.int p3), .unset, .unset, .unset, .unset, .unset, .unset] [(.int ((p4.toUInt32 >>> ((4 : Int32) &&& 31).toUInt32).toInt32))])) _
    refine XS.iconst X0.here hx rfl (hb hby at_56) ?_
    show Steps p.tables e below (s₁.setTop (mkF m 57 #[.val (.long q0), .second, .val (.long q1), .second, .val (.int p2), .val (.int p3), .val (.int p4), .val (.int x355), .val (.int x357), .val (.int x364), .val (.int x367), .val (.int p3), .unset, .unset, .unset, .unset, .unset, .unset] [(.int (1 : Int32)), (.int ((p4.toUInt32 >>> ((4 : Int32) &&& 31).toUInt32).toInt32))])) _
    refine XS.iand X0.here hx rfl (hb hby at_57) rfl ?_
    by_cases c369 : (((p4.toUInt32 >>> ((4 : Int32) &&& 31).toUInt32).toInt32) &&& (1 : Int32)) = (0 : Int32)
    ·
      show Steps p.tables e below (s₁.setTop (mkF m 58 #[.val (.long q0), .second, .val (.long q1), .second, .val (.int p2), .val (.int p3), .val (.int p4), .val (.int x355), .val (.int x357), .val (.int x364), .val (.int x367), .val (.int p3), .unset, .unset, .unset, .unset, .unset, .unset] [(.int (((p4.toUInt32 >>> ((4 : Int32) &&& 31).toUInt32).toInt32) &&& (1 : Int32)))])) _
      refine XS.ifYes X0.here hx rfl (pc0 := 58) (pc' := 65) rfl (hb hby at_58) rfl ((if0 _ _).trans (teq c369).1) (by decide) (by decide) ?_
      rw [show x370 = p3 from hx370.trans (by simp only [if_pos c369])] at k
      exact k
    ·
      show Steps p.tables e below (s₁.setTop (mkF m 58 #[.val (.long q0), .second, .val (.long q1), .second, .val (.int p2), .val (.int p3), .val (.int p4), .val (.int x355), .val (.int x357), .val (.int x364), .val (.int x367), .val (.int p3), .unset, .unset, .unset, .unset, .unset, .unset] [(.int (((p4.toUInt32 >>> ((4 : Int32) &&& 31).toUInt32).toInt32) &&& (1 : Int32)))])) _
      refine XS.ifNo X0.here hx rfl (hb hby at_58) rfl ((if0 _ _).trans (feq c369).1) ?_
      show Steps p.tables e below (s₁.setTop (mkF m 61 #[.val (.long q0), .second, .val (.long q1), .second, .val (.int p2), .val (.int p3), .val (.int p4), .val (.int x355), .val (.int x357), .val (.int x364), .val (.int x367), .val (.int p3), .unset, .unset, .unset, .unset, .unset, .unset] [])) _
      refine XS.iload X0.here hx rfl (hb hby at_61) rfl ?_
      show Steps p.tables e below (s₁.setTop (mkF m 63 #[.val (.long q0), .second, .val (.long q1), .second, .val (.int p2), .val (.int p3), .val (.int p4), .val (.int x355), .val (.int x357), .val (.int x364), .val (.int x367), .val (.int p3), .unset, .unset, .unset, .unset, .unset, .unset] [(.int p2)])) _
      refine XS.istore X0.here hx rfl (hb hby at_63) rfl (l' := #[.val (.long q0), .second, .val (.long q1), .second, .val (.int p2), .val (.int p3), .val (.int p4), .val (.int x355), .val (.int x357), .val (.int x364), .val (.int x367), .val (.int p2), .unset, .unset, .unset, .unset, .unset, .unset]) rfl ?_
      rw [show x370 = p2 from hx370.trans (by simp only [if_neg c369])] at k
      exact k
  obtain ⟨x372, hx372⟩ : ∃ z : Int32, z = (p4 &&& (3 : Int32)) := ⟨_, rfl⟩
  have pre373 : ∀ t, Steps p.tables e below (s₁.setTop (mkF m 71 #[.val (.long q0), .second, .val (.long q1), .second, .val (.int p2), .val (.int p3), .val (.int p4), .val (.int x355), .val (.int x357), .val (.int x364), .val (.int x367), .val (.int x370), .val (.int x372), .unset, .unset, .unset, .unset, .unset] [])) t → Steps p.tables e below (s₁.setTop (entryFrame m #[(.long q0), (.long q1), (.int p2), (.int p3), (.int p4)] maxLocals)) t := fun t k => by
    refine pre371 t ?_
    show Steps p.tables e below (s₁.setTop (mkF m 65 #[.val (.long q0), .second, .val (.long q1), .second, .val (.int p2), .val (.int p3), .val (.int p4), .val (.int x355), .val (.int x357), .val (.int x364), .val (.int x367), .val (.int x370), .unset, .unset, .unset, .unset, .unset, .unset] [])) _
    refine XS.iload X0.here hx rfl (hb hby at_65) rfl ?_
    show Steps p.tables e below (s₁.setTop (mkF m 67 #[.val (.long q0), .second, .val (.long q1), .second, .val (.int p2), .val (.int p3), .val (.int p4), .val (.int x355), .val (.int x357), .val (.int x364), .val (.int x367), .val (.int x370), .unset, .unset, .unset, .unset, .unset, .unset] [(.int p4)])) _
    refine XS.iconst X0.here hx rfl (hb hby at_67) ?_
    show Steps p.tables e below (s₁.setTop (mkF m 68 #[.val (.long q0), .second, .val (.long q1), .second, .val (.int p2), .val (.int p3), .val (.int p4), .val (.int x355), .val (.int x357), .val (.int x364), .val (.int x367), .val (.int x370), .unset, .unset, .unset, .unset, .unset, .unset] [(.int (3 : Int32)), (.int p4)])) _
    refine XS.iand X0.here hx rfl (hb hby at_68) rfl ?_
    show Steps p.tables e below (s₁.setTop (mkF m 69 #[.val (.long q0), .second, .val (.long q1), .second, .val (.int p2), .val (.int p3), .val (.int p4), .val (.int x355), .val (.int x357), .val (.int x364), .val (.int x367), .val (.int x370), .unset, .unset, .unset, .unset, .unset, .unset] [(.int (p4 &&& (3 : Int32)))])) _
    refine XS.istore X0.here hx rfl (hb hby at_69) rfl (l' := #[.val (.long q0), .second, .val (.long q1), .second, .val (.int p2), .val (.int p3), .val (.int p4), .val (.int x355), .val (.int x357), .val (.int x364), .val (.int x367), .val (.int x370), .val (.int (p4 &&& (3 : Int32))), .unset, .unset, .unset, .unset, .unset]) rfl ?_
    subst hx372
    exact k
  rcases own_and3 p4 with q | q | q | q
  ·
    obtain rfl : x372 = (0 : Int32) := hx372.trans q
    obtain ⟨_, _, ⟨T374, L374, k374, n374⟩, -, X374, ⟨Lc374, hQ374, l374, y374, z374⟩, st374⟩ := Jvm.LawKit.callS X0 hx (y := (⟨"com/example/enact/enact/net/MarkingCoversPinLaw", "make", "(IIII)[I"⟩ : MethodName)) hown (mvT hZ (hw _ (List.mem_of_getElem? (i := 0) rfl))) (mvT hZ (hw _ (List.mem_of_getElem? (i := 1) rfl))) (mvT hZ (hw _ (List.mem_of_getElem? (i := 2) rfl))) (mvT hZ (hw _ (List.mem_of_getElem? (i := 3) rfl))) (by decide) (backOf (W := 0) (mk0 l Z aw hw [] x355 x357 p2 h0 n0 Z0) hZ (hw _ (List.mem_of_getElem? (i := 3) rfl)) (hw _ (List.mem_of_getElem? (i := 2) rfl)) (by decide) (by decide)) (g := (mkF m 79 #[.val (.long q0), .second, .val (.long q1), .second, .val (.int p2), .val (.int p3), .val (.int p4), .val (.int x355), .val (.int x357), .val (.int x364), .val (.int x367), .val (.int x370), .val (.int (0 : Int32)), .unset, .unset, .unset, .unset, .unset] [(.int p2), (.int x357), (.int x355), (.int (0 : Int32))])) rfl (by rw [hml]; rfl) (argsL := [(.int (0 : Int32)), (.int x355), (.int x357), (.int p2)]) (rest := []) (lenOf pd_3 rfl) rfl (by show 2 * 0 + _ ≤ _; exact Nat.le_of_eq rfl) (hb hby at_79) (fun _ _ => ⟨rfl, e0, (by decide : 0 + 1 ≤ _), (by decide : 0 + 0 ≤ _)⟩)
    dsimp only [Pt.U, Pt.locs, Pt.cells, Pt.slots] at X374 l374 y374 z374 st374 hQ374
    subst l374 y374 z374
    obtain ⟨r374, kb374, rfl, N374q, K374, sz374, f375, f376⟩ := hQ374
    have N374 := Fr.app N0 N374q
    have gn377 : n0 ≤ r374 := Nat.le_trans Z0 sz374
    have Z378 : n0 ≤ T374.heap.size := Nat.le_trans Z0 K374.1
    obtain ⟨_, _, ⟨T379, L379, k379, n379⟩, -, X379, ⟨Lc379, hQ379, l379, y379, z379⟩, st379⟩ := Jvm.LawKit.callS X374 hx (y := (⟨"com/example/enact/enact/net/MarkingCoversPinLaw", "make", "(IIII)[I"⟩ : MethodName)) hown (mvT hZ (hw _ (List.mem_of_getElem? (i := 0) rfl))) (mvT hZ (hw _ (List.mem_of_getElem? (i := 1) rfl))) (mvT hZ (hw _ (List.mem_of_getElem? (i := 2) rfl))) (mvT hZ (hw _ (List.mem_of_getElem? (i := 3) rfl))) (by decide) (backOf (W := 0) (mk0 l Z aw hw [] x364 x367 x370 T374.heap n0 Z378) hZ (hw _ (List.mem_of_getElem? (i := 3) rfl)) (hw _ (List.mem_of_getElem? (i := 2) rfl)) (by decide) (by decide)) (g := (mkF m 92 #[.val (.long q0), .second, .val (.long q1), .second, .val (.int p2), .val (.int p3), .val (.int p4), .val (.int x355), .val (.int x357), .val (.int x364), .val (.int x367), .val (.int x370), .val (.int (0 : Int32)), .val (.ref r374), .unset, .unset, .unset, .unset] [(.int x370), (.int x367), (.int x364), (.int (0 : Int32))])) rfl (by rw [hml]; rfl) (argsL := [(.int (0 : Int32)), (.int x364), (.int x367), (.int x370)]) (rest := []) (lenOf pd_3 rfl) rfl (by show 2 * 0 + _ ≤ _; exact Nat.le_of_eq rfl) (hb hby at_92) (fun _ _ => ⟨rfl, rfl, (by decide : 1 + 1 ≤ _), (by decide : 0 + 0 ≤ _)⟩)
    dsimp only [Pt.U, Pt.locs, Pt.cells, Pt.slots] at X379 l379 y379 z379 st379 hQ379
    subst l379 y379 z379
    obtain ⟨r379, kb379, rfl, N379q, K379, sz379, f380, f381⟩ := hQ379
    have N379 := Fr.app N374 N379q
    have ne382 : r374 ≠ r379 := Nat.ne_of_lt (Nat.lt_of_lt_of_le f375.lt sz379)
    have gn383 : n0 ≤ r379 := Nat.le_trans Z378 sz379
    have f384 := f375.keep K379 nin0
    have Z385 : n0 ≤ T379.heap.size := Nat.le_trans Z378 K379.1
    obtain ⟨T386, h386, X386, e386, E386, A386, D386, -, st386⟩ := newO X379 hx hZ hown (hw _ (List.mem_of_getElem? (i := 5) rfl)) (hw _ (List.mem_of_getElem? (i := 6) rfl)) (hw _ (List.mem_of_getElem? (i := 7) rfl)) rfl (g := (mkF m 97 #[.val (.long q0), .second, .val (.long q1), .second, .val (.int p2), .val (.int p3), .val (.int p4), .val (.int x355), .val (.int x357), .val (.int x364), .val (.int x367), .val (.int x370), .val (.int (0 : Int32)), .val (.ref r374), .val (.ref r379), .unset, .unset, .unset] [])) rfl (hb hby at_97) (by decide) (by decide)
    obtain ⟨b386, g386⟩ : ∃ z, z = T379.heap.size := ⟨_, rfl⟩
    rw [← g386] at A386 D386 st386
    have ne387 : r374 ≠ b386 := Nat.ne_of_lt (Nat.lt_of_lt_of_le f384.lt (Nat.le_of_eq g386.symm))
    have ne388 : r379 ≠ b386 := Nat.ne_of_lt (Nat.lt_of_lt_of_le f380.lt (Nat.le_of_eq g386.symm))
    have gn389 : n0 ≤ b386 := Nat.le_trans Z385 (Nat.le_of_eq g386.symm)
    have f390 := f384.ext E386
    have f391 := f380.ext E386
    have Z392 : n0 ≤ h386.size := Nat.le_trans Z385 E386.1
    have f393 : Fld Z h386 b386 "com/example/enact/enact/net/Marking" "tokens" "[I" .null := D386 (Or.inr (hw _ (List.mem_of_getElem? (i := 15) rfl))) (ty := (.array .int)) (by decide)
    have f394 : Fld Z h386 b386 "com/example/enact/enact/net/Marking" "total" "J" (.long (0 : Int64)) := D386 (Or.inr (hw _ (List.mem_of_getElem? (i := 17) rfl))) (ty := .long) (by decide)
    have f395 : Fld Z h386 b386 "com/example/enact/enact/net/Marking" "hash" "I" (.int (0 : Int32)) := D386 (Or.inr (hw _ (List.mem_of_getElem? (i := 23) rfl))) (ty := .int) (by decide)
    obtain ⟨_, _, ⟨T396, L396, k396, n396⟩, -, X396, ⟨Lc396, hQ396, l396, y396, z396⟩, st396⟩ := X386.specialBack hx (y := (⟨"com/example/enact/enact/net/Marking", "<init>", "([I)V"⟩ : MethodName)) rfl hown (mvT hZ (hw _ (List.mem_of_getElem? (i := 8) rfl))) (mvT hZ (hw _ (List.mem_of_getElem? (i := 9) rfl))) (mvT hZ (hw _ (List.mem_of_getElem? (i := 10) rfl))) (by decide) (backOf (W := 1) (ct0 l Z aw hw [] b386 r374 kb374 h386 n0 Z392 A386 f393 f394 f395 gn389 f390 f376 (Ne.symm ne387)) hZ (hw _ (List.mem_of_getElem? (i := 10) rfl)) (hw _ (List.mem_of_getElem? (i := 7) rfl)) (by decide) (by decide)) (g := (mkF m 103 #[.val (.long q0), .second, .val (.long q1), .second, .val (.int p2), .val (.int p3), .val (.int p4), .val (.int x355), .val (.int x357), .val (.int x364), .val (.int x367), .val (.int x370), .val (.int (0 : Int32)), .val (.ref r374), .val (.ref r379), .unset, .unset, .unset] [(.ref r374), (.ref b386), (.ref b386)])) rfl (by rw [hml]; rfl) (Steps.refl _) (a := b386) (argsL := [(.ref r374)]) (rest := [(.ref b386)]) (lenOf pd_4 rfl) rfl (by show 2 * 0 + _ ≤ _; exact Nat.le_of_eq rfl) (hb hby at_103) (fun _ _ => ⟨rfl, e386, (by decide : 3 + 0 ≤ _), (by decide : 3 + 0 ≤ _)⟩)
    dsimp only [Pt.U, Pt.locs, Pt.cells, Pt.slots] at X396 l396 y396 z396 st396 hQ396
    subst l396 y396 z396
    obtain ⟨rfl, N396q, K396, f397, f398⟩ := hQ396
    have N396 := Fr.app N379 N396q
    have f399 := f390.keep K396 (ninS ne387 nin0)
    have f400 := f391.keep K396 (ninS ne388 nin0)
    have Z401 : n0 ≤ T396.heap.size := Nat.le_trans Z392 K396.1
    obtain ⟨T402, h402, X402, e402, E402, A402, D402, -, st402⟩ := newO X396 hx hZ hown (hw _ (List.mem_of_getElem? (i := 5) rfl)) (hw _ (List.mem_of_getElem? (i := 6) rfl)) (hw _ (List.mem_of_getElem? (i := 7) rfl)) rfl (g := (mkF m 108 #[.val (.long q0), .second, .val (.long q1), .second, .val (.int p2), .val (.int p3), .val (.int p4), .val (.int x355), .val (.int x357), .val (.int x364), .val (.int x367), .val (.int x370), .val (.int (0 : Int32)), .val (.ref r374), .val (.ref r379), .val (.ref b386), .unset, .unset] [])) rfl (hb hby at_108) (by decide) (by decide)
    obtain ⟨b402, g402⟩ : ∃ z, z = T396.heap.size := ⟨_, rfl⟩
    rw [← g402] at A402 D402 st402
    have ne403 : r374 ≠ b402 := Nat.ne_of_lt (Nat.lt_of_lt_of_le f399.lt (Nat.le_of_eq g402.symm))
    have ne404 : r379 ≠ b402 := Nat.ne_of_lt (Nat.lt_of_lt_of_le f400.lt (Nat.le_of_eq g402.symm))
    have ne405 : b386 ≠ b402 := Nat.ne_of_lt (Nat.lt_of_lt_of_le f397.lt (Nat.le_of_eq g402.symm))
    have gn406 : n0 ≤ b402 := Nat.le_trans Z401 (Nat.le_of_eq g402.symm)
    have f407 := f399.ext E402
    have f408 := f400.ext E402
    have f409 := f397.ext E402
    have f410 := f398.ext E402
    have Z411 : n0 ≤ h402.size := Nat.le_trans Z401 E402.1
    have f412 : Fld Z h402 b402 "com/example/enact/enact/net/Marking" "tokens" "[I" .null := D402 (Or.inr (hw _ (List.mem_of_getElem? (i := 15) rfl))) (ty := (.array .int)) (by decide)
    have f413 : Fld Z h402 b402 "com/example/enact/enact/net/Marking" "total" "J" (.long (0 : Int64)) := D402 (Or.inr (hw _ (List.mem_of_getElem? (i := 17) rfl))) (ty := .long) (by decide)
    have f414 : Fld Z h402 b402 "com/example/enact/enact/net/Marking" "hash" "I" (.int (0 : Int32)) := D402 (Or.inr (hw _ (List.mem_of_getElem? (i := 23) rfl))) (ty := .int) (by decide)
    obtain ⟨_, _, ⟨T415, L415, k415, n415⟩, -, X415, ⟨Lc415, hQ415, l415, y415, z415⟩, st415⟩ := X402.specialBack hx (y := (⟨"com/example/enact/enact/net/Marking", "<init>", "([I)V"⟩ : MethodName)) rfl hown (mvT hZ (hw _ (List.mem_of_getElem? (i := 8) rfl))) (mvT hZ (hw _ (List.mem_of_getElem? (i := 9) rfl))) (mvT hZ (hw _ (List.mem_of_getElem? (i := 10) rfl))) (by decide) (backOf (W := 1) (ct0 l Z aw hw [] b402 r379 kb379 h402 n0 Z411 A402 f412 f413 f414 gn406 f408 f381 (Ne.symm ne404)) hZ (hw _ (List.mem_of_getElem? (i := 10) rfl)) (hw _ (List.mem_of_getElem? (i := 7) rfl)) (by decide) (by decide)) (g := (mkF m 114 #[.val (.long q0), .second, .val (.long q1), .second, .val (.int p2), .val (.int p3), .val (.int p4), .val (.int x355), .val (.int x357), .val (.int x364), .val (.int x367), .val (.int x370), .val (.int (0 : Int32)), .val (.ref r374), .val (.ref r379), .val (.ref b386), .unset, .unset] [(.ref r379), (.ref b402), (.ref b402)])) rfl (by rw [hml]; rfl) (Steps.refl _) (a := b402) (argsL := [(.ref r379)]) (rest := [(.ref b402)]) (lenOf pd_4 rfl) rfl (by show 2 * 0 + _ ≤ _; exact Nat.le_of_eq rfl) (hb hby at_114) (fun _ _ => ⟨rfl, e402, (by decide : 4 + 0 ≤ _), (by decide : 6 + 0 ≤ _)⟩)
    dsimp only [Pt.U, Pt.locs, Pt.cells, Pt.slots] at X415 l415 y415 z415 st415 hQ415
    subst l415 y415 z415
    obtain ⟨rfl, N415q, K415, f416, f417⟩ := hQ415
    have N415 := Fr.app N396 N415q
    have f418 := f407.keep K415 (ninS ne403 nin0)
    have f419 := f408.keep K415 (ninS ne404 nin0)
    have f420 := f409.keep K415
    have f421 := f410.keep K415 (ninS ne405 nin0)
    have Z422 : n0 ≤ T415.heap.size := Nat.le_trans Z411 K415.1
    obtain ⟨cq423, kq423, q423a, q423b, q423c⟩ := isOf hZ rfl f420
    obtain ⟨_, _, ⟨T423, L423, k423, n423⟩, -, X423, ⟨Lc423, hQ423, l423, y423, z423⟩, st423⟩ := X415.virtualBack hx (y := (⟨"com/example/enact/enact/net/Marking", "covers", "(Lcom/example/enact/enact/net/Marking;)Z"⟩ : MethodName)) (z := (⟨"com/example/enact/enact/net/Marking", "covers", "(Lcom/example/enact/enact/net/Marking;)Z"⟩ : MethodName)) hown (mvT hZ (hw _ (List.mem_of_getElem? (i := 24) rfl))) (mvT hZ (hw _ (List.mem_of_getElem? (i := 25) rfl))) (notFace_of_selects (args := #[]) (mvT hZ (hw _ (List.mem_of_getElem? (i := 27) rfl)))) (mvT hZ (hw _ (List.mem_of_getElem? (i := 27) rfl))) (mvT hZ (hw _ (List.mem_of_getElem? (i := 26) rfl))) (by decide) (backOf (W := 0) (cv0 l Z aw hw [] b386 b402 r374 kb374 r379 kb379 T415.heap n0 Z422 f421 f418 f417 f419) hZ (hw _ (List.mem_of_getElem? (i := 28) rfl)) (hw _ (List.mem_of_getElem? (i := 7) rfl)) (by decide) (by decide)) q423a q423c (g := (mkF m 169 #[.val (.long q0), .second, .val (.long q1), .second, .val (.int p2), .val (.int p3), .val (.int p4), .val (.int x355), .val (.int x357), .val (.int x364), .val (.int x367), .val (.int x370), .val (.int (0 : Int32)), .val (.ref r374), .val (.ref r379), .val (.ref b386), .val (.ref b402), .val (.int (1 : Int32))] [(.ref b402), (.ref b386)])) rfl (by rw [hml]; rfl) (Steps.refl _) (argsL := [(.ref b402)]) (rest := []) (lenOf pd_5 rfl) rfl (by show 2 * 0 + _ ≤ _; exact Nat.le_of_eq rfl) (hb hby at_169) (fun _ _ => ⟨rfl, rfl, (by decide : 4 + 0 ≤ _), (by decide : 6 + 0 ≤ _)⟩)
    dsimp only [Pt.U, Pt.locs, Pt.cells, Pt.slots] at X423 l423 y423 z423 st423 hQ423
    subst l423 y423 z423
    obtain ⟨rfl, N423q, e423⟩ := hQ423
    have N423 := Fr.app N415 N423q
    obtain ⟨fs, hr, hrun, hended, hW, hsame⟩ := X423.leave (v := some (.int (1 : Int32))) (fun h => by rw [Bd.returns] at h; cases h)
    refine ⟨_, _, pre373 _ ?_, hrun, hended, _, _, rfl, ?_, ⟨_, rfl⟩, hW, hsame.mono (by decide) (by decide)⟩
    ·
      show Steps p.tables e below (s₁.setTop (mkF m 71 #[.val (.long q0), .second, .val (.long q1), .second, .val (.int p2), .val (.int p3), .val (.int p4), .val (.int x355), .val (.int x357), .val (.int x364), .val (.int x367), .val (.int x370), .val (.int (0 : Int32)), .unset, .unset, .unset, .unset, .unset] [])) _
      refine XS.iload X0.here hx rfl (hb hby at_71) rfl ?_
      show Steps p.tables e below (s₁.setTop (mkF m 73 #[.val (.long q0), .second, .val (.long q1), .second, .val (.int p2), .val (.int p3), .val (.int p4), .val (.int x355), .val (.int x357), .val (.int x364), .val (.int x367), .val (.int x370), .val (.int (0 : Int32)), .unset, .unset, .unset, .unset, .unset] [(.int (0 : Int32))])) _
      refine XS.iload X0.here hx rfl (hb hby at_73) rfl ?_
      show Steps p.tables e below (s₁.setTop (mkF m 75 #[.val (.long q0), .second, .val (.long q1), .second, .val (.int p2), .val (.int p3), .val (.int p4), .val (.int x355), .val (.int x357), .val (.int x364), .val (.int x367), .val (.int x370), .val (.int (0 : Int32)), .unset, .unset, .unset, .unset, .unset] [(.int x355), (.int (0 : Int32))])) _
      refine XS.iload X0.here hx rfl (hb hby at_75) rfl ?_
      show Steps p.tables e below (s₁.setTop (mkF m 77 #[.val (.long q0), .second, .val (.long q1), .second, .val (.int p2), .val (.int p3), .val (.int p4), .val (.int x355), .val (.int x357), .val (.int x364), .val (.int x367), .val (.int x370), .val (.int (0 : Int32)), .unset, .unset, .unset, .unset, .unset] [(.int x357), (.int x355), (.int (0 : Int32))])) _
      refine XS.iload X0.here hx rfl (hb hby at_77) rfl ?_
      show Steps p.tables e below (s₁.setTop (mkF m 79 #[.val (.long q0), .second, .val (.long q1), .second, .val (.int p2), .val (.int p3), .val (.int p4), .val (.int x355), .val (.int x357), .val (.int x364), .val (.int x367), .val (.int x370), .val (.int (0 : Int32)), .unset, .unset, .unset, .unset, .unset] [(.int p2), (.int x357), (.int x355), (.int (0 : Int32))])) _
      refine st374 _ ?_
      show Steps p.tables e below (T374.setTop (mkF m 82 #[.val (.long q0), .second, .val (.long q1), .second, .val (.int p2), .val (.int p3), .val (.int p4), .val (.int x355), .val (.int x357), .val (.int x364), .val (.int x367), .val (.int x370), .val (.int (0 : Int32)), .unset, .unset, .unset, .unset, .unset] [(.ref r374)])) _
      refine XS.astore X374.here hx rfl (hb hby at_82) rfl rfl (l' := #[.val (.long q0), .second, .val (.long q1), .second, .val (.int p2), .val (.int p3), .val (.int p4), .val (.int x355), .val (.int x357), .val (.int x364), .val (.int x367), .val (.int x370), .val (.int (0 : Int32)), .val (.ref r374), .unset, .unset, .unset, .unset]) rfl ?_
      show Steps p.tables e below (T374.setTop (mkF m 84 #[.val (.long q0), .second, .val (.long q1), .second, .val (.int p2), .val (.int p3), .val (.int p4), .val (.int x355), .val (.int x357), .val (.int x364), .val (.int x367), .val (.int x370), .val (.int (0 : Int32)), .val (.ref r374), .unset, .unset, .unset, .unset] [])) _
      refine XS.iload X374.here hx rfl (hb hby at_84) rfl ?_
      show Steps p.tables e below (T374.setTop (mkF m 86 #[.val (.long q0), .second, .val (.long q1), .second, .val (.int p2), .val (.int p3), .val (.int p4), .val (.int x355), .val (.int x357), .val (.int x364), .val (.int x367), .val (.int x370), .val (.int (0 : Int32)), .val (.ref r374), .unset, .unset, .unset, .unset] [(.int (0 : Int32))])) _
      refine XS.iload X374.here hx rfl (hb hby at_86) rfl ?_
      show Steps p.tables e below (T374.setTop (mkF m 88 #[.val (.long q0), .second, .val (.long q1), .second, .val (.int p2), .val (.int p3), .val (.int p4), .val (.int x355), .val (.int x357), .val (.int x364), .val (.int x367), .val (.int x370), .val (.int (0 : Int32)), .val (.ref r374), .unset, .unset, .unset, .unset] [(.int x364), (.int (0 : Int32))])) _
      refine XS.iload X374.here hx rfl (hb hby at_88) rfl ?_
      show Steps p.tables e below (T374.setTop (mkF m 90 #[.val (.long q0), .second, .val (.long q1), .second, .val (.int p2), .val (.int p3), .val (.int p4), .val (.int x355), .val (.int x357), .val (.int x364), .val (.int x367), .val (.int x370), .val (.int (0 : Int32)), .val (.ref r374), .unset, .unset, .unset, .unset] [(.int x367), (.int x364), (.int (0 : Int32))])) _
      refine XS.iload X374.here hx rfl (hb hby at_90) rfl ?_
      show Steps p.tables e below (T374.setTop (mkF m 92 #[.val (.long q0), .second, .val (.long q1), .second, .val (.int p2), .val (.int p3), .val (.int p4), .val (.int x355), .val (.int x357), .val (.int x364), .val (.int x367), .val (.int x370), .val (.int (0 : Int32)), .val (.ref r374), .unset, .unset, .unset, .unset] [(.int x370), (.int x367), (.int x364), (.int (0 : Int32))])) _
      refine st379 _ ?_
      show Steps p.tables e below (T379.setTop (mkF m 95 #[.val (.long q0), .second, .val (.long q1), .second, .val (.int p2), .val (.int p3), .val (.int p4), .val (.int x355), .val (.int x357), .val (.int x364), .val (.int x367), .val (.int x370), .val (.int (0 : Int32)), .val (.ref r374), .unset, .unset, .unset, .unset] [(.ref r379)])) _
      refine XS.astore X379.here hx rfl (hb hby at_95) rfl rfl (l' := #[.val (.long q0), .second, .val (.long q1), .second, .val (.int p2), .val (.int p3), .val (.int p4), .val (.int x355), .val (.int x357), .val (.int x364), .val (.int x367), .val (.int x370), .val (.int (0 : Int32)), .val (.ref r374), .val (.ref r379), .unset, .unset, .unset]) rfl ?_
      show Steps p.tables e below (T379.setTop (mkF m 97 #[.val (.long q0), .second, .val (.long q1), .second, .val (.int p2), .val (.int p3), .val (.int p4), .val (.int x355), .val (.int x357), .val (.int x364), .val (.int x367), .val (.int x370), .val (.int (0 : Int32)), .val (.ref r374), .val (.ref r379), .unset, .unset, .unset] [])) _
      refine st386 _ ?_
      show Steps p.tables e below (T386.setTop (mkF m 100 #[.val (.long q0), .second, .val (.long q1), .second, .val (.int p2), .val (.int p3), .val (.int p4), .val (.int x355), .val (.int x357), .val (.int x364), .val (.int x367), .val (.int x370), .val (.int (0 : Int32)), .val (.ref r374), .val (.ref r379), .unset, .unset, .unset] [(.ref b386)])) _
      refine XS.dup X386.here hx rfl (hb hby at_100) rfl rfl ?_
      show Steps p.tables e below (T386.setTop (mkF m 101 #[.val (.long q0), .second, .val (.long q1), .second, .val (.int p2), .val (.int p3), .val (.int p4), .val (.int x355), .val (.int x357), .val (.int x364), .val (.int x367), .val (.int x370), .val (.int (0 : Int32)), .val (.ref r374), .val (.ref r379), .unset, .unset, .unset] [(.ref b386), (.ref b386)])) _
      refine XS.aload X386.here hx rfl (hb hby at_101) rfl rfl ?_
      show Steps p.tables e below (T386.setTop (mkF m 103 #[.val (.long q0), .second, .val (.long q1), .second, .val (.int p2), .val (.int p3), .val (.int p4), .val (.int x355), .val (.int x357), .val (.int x364), .val (.int x367), .val (.int x370), .val (.int (0 : Int32)), .val (.ref r374), .val (.ref r379), .unset, .unset, .unset] [(.ref r374), (.ref b386), (.ref b386)])) _
      refine st396.trans ?_
      show Steps p.tables e below (T396.setTop (mkF m 106 #[.val (.long q0), .second, .val (.long q1), .second, .val (.int p2), .val (.int p3), .val (.int p4), .val (.int x355), .val (.int x357), .val (.int x364), .val (.int x367), .val (.int x370), .val (.int (0 : Int32)), .val (.ref r374), .val (.ref r379), .unset, .unset, .unset] [(.ref b386)])) _
      refine XS.astore X396.here hx rfl (hb hby at_106) rfl rfl (l' := #[.val (.long q0), .second, .val (.long q1), .second, .val (.int p2), .val (.int p3), .val (.int p4), .val (.int x355), .val (.int x357), .val (.int x364), .val (.int x367), .val (.int x370), .val (.int (0 : Int32)), .val (.ref r374), .val (.ref r379), .val (.ref b386), .unset, .unset]) rfl ?_
      show Steps p.tables e below (T396.setTop (mkF m 108 #[.val (.long q0), .second, .val (.long q1), .second, .val (.int p2), .val (.int p3), .val (.int p4), .val (.int x355), .val (.int x357), .val (.int x364), .val (.int x367), .val (.int x370), .val (.int (0 : Int32)), .val (.ref r374), .val (.ref r379), .val (.ref b386), .unset, .unset] [])) _
      refine st402 _ ?_
      show Steps p.tables e below (T402.setTop (mkF m 111 #[.val (.long q0), .second, .val (.long q1), .second, .val (.int p2), .val (.int p3), .val (.int p4), .val (.int x355), .val (.int x357), .val (.int x364), .val (.int x367), .val (.int x370), .val (.int (0 : Int32)), .val (.ref r374), .val (.ref r379), .val (.ref b386), .unset, .unset] [(.ref b402)])) _
      refine XS.dup X402.here hx rfl (hb hby at_111) rfl rfl ?_
      show Steps p.tables e below (T402.setTop (mkF m 112 #[.val (.long q0), .second, .val (.long q1), .second, .val (.int p2), .val (.int p3), .val (.int p4), .val (.int x355), .val (.int x357), .val (.int x364), .val (.int x367), .val (.int x370), .val (.int (0 : Int32)), .val (.ref r374), .val (.ref r379), .val (.ref b386), .unset, .unset] [(.ref b402), (.ref b402)])) _
      refine XS.aload X402.here hx rfl (hb hby at_112) rfl rfl ?_
      show Steps p.tables e below (T402.setTop (mkF m 114 #[.val (.long q0), .second, .val (.long q1), .second, .val (.int p2), .val (.int p3), .val (.int p4), .val (.int x355), .val (.int x357), .val (.int x364), .val (.int x367), .val (.int x370), .val (.int (0 : Int32)), .val (.ref r374), .val (.ref r379), .val (.ref b386), .unset, .unset] [(.ref r379), (.ref b402), (.ref b402)])) _
      refine st415.trans ?_
      show Steps p.tables e below (T415.setTop (mkF m 117 #[.val (.long q0), .second, .val (.long q1), .second, .val (.int p2), .val (.int p3), .val (.int p4), .val (.int x355), .val (.int x357), .val (.int x364), .val (.int x367), .val (.int x370), .val (.int (0 : Int32)), .val (.ref r374), .val (.ref r379), .val (.ref b386), .unset, .unset] [(.ref b402)])) _
      refine XS.astore X415.here hx rfl (hb hby at_117) rfl rfl (l' := #[.val (.long q0), .second, .val (.long q1), .second, .val (.int p2), .val (.int p3), .val (.int p4), .val (.int x355), .val (.int x357), .val (.int x364), .val (.int x367), .val (.int x370), .val (.int (0 : Int32)), .val (.ref r374), .val (.ref r379), .val (.ref b386), .val (.ref b402), .unset]) rfl ?_
      show Steps p.tables e below (T415.setTop (mkF m 119 #[.val (.long q0), .second, .val (.long q1), .second, .val (.int p2), .val (.int p3), .val (.int p4), .val (.int x355), .val (.int x357), .val (.int x364), .val (.int x367), .val (.int x370), .val (.int (0 : Int32)), .val (.ref r374), .val (.ref r379), .val (.ref b386), .val (.ref b402), .unset] [])) _
      refine XS.iload X415.here hx rfl (hb hby at_119) rfl ?_
      show Steps p.tables e below (T415.setTop (mkF m 121 #[.val (.long q0), .second, .val (.long q1), .second, .val (.int p2), .val (.int p3), .val (.int p4), .val (.int x355), .val (.int x357), .val (.int x364), .val (.int x367), .val (.int x370), .val (.int (0 : Int32)), .val (.ref r374), .val (.ref r379), .val (.ref b386), .val (.ref b402), .unset] [(.int (0 : Int32))])) _
      refine XS.iconst X415.here hx rfl (hb hby at_121) ?_
      show Steps p.tables e below (T415.setTop (mkF m 122 #[.val (.long q0), .second, .val (.long q1), .second, .val (.int p2), .val (.int p3), .val (.int p4), .val (.int x355), .val (.int x357), .val (.int x364), .val (.int x367), .val (.int x370), .val (.int (0 : Int32)), .val (.ref r374), .val (.ref r379), .val (.ref b386), .val (.ref b402), .unset] [(.int (1 : Int32)), (.int (0 : Int32))])) _
      refine XS.icmpYes X415.here hx rfl (pc0 := 122) (pc' := 132) rfl (hb hby at_122) rfl (tlt (by decide)).1 (by decide) (by decide) ?_
      show Steps p.tables e below (T415.setTop (mkF m 132 #[.val (.long q0), .second, .val (.long q1), .second, .val (.int p2), .val (.int p3), .val (.int p4), .val (.int x355), .val (.int x357), .val (.int x364), .val (.int x367), .val (.int x370), .val (.int (0 : Int32)), .val (.ref r374), .val (.ref r379), .val (.ref b386), .val (.ref b402), .unset] [])) _
      refine XS.iload X415.here hx rfl (hb hby at_132) rfl ?_
      show Steps p.tables e below (T415.setTop (mkF m 134 #[.val (.long q0), .second, .val (.long q1), .second, .val (.int p2), .val (.int p3), .val (.int p4), .val (.int x355), .val (.int x357), .val (.int x364), .val (.int x367), .val (.int x370), .val (.int (0 : Int32)), .val (.ref r374), .val (.ref r379), .val (.ref b386), .val (.ref b402), .unset] [(.int (0 : Int32))])) _
      refine XS.iconst X415.here hx rfl (hb hby at_134) ?_
      show Steps p.tables e below (T415.setTop (mkF m 135 #[.val (.long q0), .second, .val (.long q1), .second, .val (.int p2), .val (.int p3), .val (.int p4), .val (.int x355), .val (.int x357), .val (.int x364), .val (.int x367), .val (.int x370), .val (.int (0 : Int32)), .val (.ref r374), .val (.ref r379), .val (.ref b386), .val (.ref b402), .unset] [(.int (2 : Int32)), (.int (0 : Int32))])) _
      refine XS.icmpYes X415.here hx rfl (pc0 := 135) (pc' := 145) rfl (hb hby at_135) rfl (tlt (by decide)).1 (by decide) (by decide) ?_
      show Steps p.tables e below (T415.setTop (mkF m 145 #[.val (.long q0), .second, .val (.long q1), .second, .val (.int p2), .val (.int p3), .val (.int p4), .val (.int x355), .val (.int x357), .val (.int x364), .val (.int x367), .val (.int x370), .val (.int (0 : Int32)), .val (.ref r374), .val (.ref r379), .val (.ref b386), .val (.ref b402), .unset] [])) _
      refine XS.iload X415.here hx rfl (hb hby at_145) rfl ?_
      show Steps p.tables e below (T415.setTop (mkF m 147 #[.val (.long q0), .second, .val (.long q1), .second, .val (.int p2), .val (.int p3), .val (.int p4), .val (.int x355), .val (.int x357), .val (.int x364), .val (.int x367), .val (.int x370), .val (.int (0 : Int32)), .val (.ref r374), .val (.ref r379), .val (.ref b386), .val (.ref b402), .unset] [(.int (0 : Int32))])) _
      refine XS.iconst X415.here hx rfl (hb hby at_147) ?_
      show Steps p.tables e below (T415.setTop (mkF m 148 #[.val (.long q0), .second, .val (.long q1), .second, .val (.int p2), .val (.int p3), .val (.int p4), .val (.int x355), .val (.int x357), .val (.int x364), .val (.int x367), .val (.int x370), .val (.int (0 : Int32)), .val (.ref r374), .val (.ref r379), .val (.ref b386), .val (.ref b402), .unset] [(.int (3 : Int32)), (.int (0 : Int32))])) _
      refine XS.icmpYes X415.here hx rfl (pc0 := 148) (pc' := 158) rfl (hb hby at_148) rfl (tlt (by decide)).1 (by decide) (by decide) ?_
      show Steps p.tables e below (T415.setTop (mkF m 158 #[.val (.long q0), .second, .val (.long q1), .second, .val (.int p2), .val (.int p3), .val (.int p4), .val (.int x355), .val (.int x357), .val (.int x364), .val (.int x367), .val (.int x370), .val (.int (0 : Int32)), .val (.ref r374), .val (.ref r379), .val (.ref b386), .val (.ref b402), .unset] [])) _
      refine XS.iconst X415.here hx rfl (hb hby at_158) ?_
      show Steps p.tables e below (T415.setTop (mkF m 159 #[.val (.long q0), .second, .val (.long q1), .second, .val (.int p2), .val (.int p3), .val (.int p4), .val (.int x355), .val (.int x357), .val (.int x364), .val (.int x367), .val (.int x370), .val (.int (0 : Int32)), .val (.ref r374), .val (.ref r379), .val (.ref b386), .val (.ref b402), .unset] [(.int (1 : Int32))])) _
      refine XS.goto X415.here hx rfl (pc0 := 159) (pc' := 163) rfl (hb hby at_159) (by decide) (by decide) ?_
      show Steps p.tables e below (T415.setTop (mkF m 163 #[.val (.long q0), .second, .val (.long q1), .second, .val (.int p2), .val (.int p3), .val (.int p4), .val (.int x355), .val (.int x357), .val (.int x364), .val (.int x367), .val (.int x370), .val (.int (0 : Int32)), .val (.ref r374), .val (.ref r379), .val (.ref b386), .val (.ref b402), .unset] [(.int (1 : Int32))])) _
      refine XS.istore X415.here hx rfl (hb hby at_163) rfl (l' := #[.val (.long q0), .second, .val (.long q1), .second, .val (.int p2), .val (.int p3), .val (.int p4), .val (.int x355), .val (.int x357), .val (.int x364), .val (.int x367), .val (.int x370), .val (.int (0 : Int32)), .val (.ref r374), .val (.ref r379), .val (.ref b386), .val (.ref b402), .val (.int (1 : Int32))]) rfl ?_
      show Steps p.tables e below (T415.setTop (mkF m 165 #[.val (.long q0), .second, .val (.long q1), .second, .val (.int p2), .val (.int p3), .val (.int p4), .val (.int x355), .val (.int x357), .val (.int x364), .val (.int x367), .val (.int x370), .val (.int (0 : Int32)), .val (.ref r374), .val (.ref r379), .val (.ref b386), .val (.ref b402), .val (.int (1 : Int32))] [])) _
      refine XS.aload X415.here hx rfl (hb hby at_165) rfl rfl ?_
      show Steps p.tables e below (T415.setTop (mkF m 167 #[.val (.long q0), .second, .val (.long q1), .second, .val (.int p2), .val (.int p3), .val (.int p4), .val (.int x355), .val (.int x357), .val (.int x364), .val (.int x367), .val (.int x370), .val (.int (0 : Int32)), .val (.ref r374), .val (.ref r379), .val (.ref b386), .val (.ref b402), .val (.int (1 : Int32))] [(.ref b386)])) _
      refine XS.aload X415.here hx rfl (hb hby at_167) rfl rfl ?_
      show Steps p.tables e below (T415.setTop (mkF m 169 #[.val (.long q0), .second, .val (.long q1), .second, .val (.int p2), .val (.int p3), .val (.int p4), .val (.int x355), .val (.int x357), .val (.int x364), .val (.int x367), .val (.int x370), .val (.int (0 : Int32)), .val (.ref r374), .val (.ref r379), .val (.ref b386), .val (.ref b402), .val (.int (1 : Int32))] [(.ref b402), (.ref b386)])) _
      refine st423.trans ?_
      show Steps p.tables e below (T423.setTop (mkF m 172 #[.val (.long q0), .second, .val (.long q1), .second, .val (.int p2), .val (.int p3), .val (.int p4), .val (.int x355), .val (.int x357), .val (.int x364), .val (.int x367), .val (.int x370), .val (.int (0 : Int32)), .val (.ref r374), .val (.ref r379), .val (.ref b386), .val (.ref b402), .val (.int (1 : Int32))] [(.int (1 : Int32))])) _
      refine XS.iload X423.here hx rfl (hb hby at_172) rfl ?_
      show Steps p.tables e below (T423.setTop (mkF m 174 #[.val (.long q0), .second, .val (.long q1), .second, .val (.int p2), .val (.int p3), .val (.int p4), .val (.int x355), .val (.int x357), .val (.int x364), .val (.int x367), .val (.int x370), .val (.int (0 : Int32)), .val (.ref r374), .val (.ref r379), .val (.ref b386), .val (.ref b402), .val (.int (1 : Int32))] [(.int (1 : Int32)), (.int (1 : Int32))])) _
      refine XS.icmpNo X423.here hx rfl (hb hby at_174) rfl (teq rfl).2 ?_
      show Steps p.tables e below (T423.setTop (mkF m 177 #[.val (.long q0), .second, .val (.long q1), .second, .val (.int p2), .val (.int p3), .val (.int p4), .val (.int x355), .val (.int x357), .val (.int x364), .val (.int x367), .val (.int x370), .val (.int (0 : Int32)), .val (.ref r374), .val (.ref r379), .val (.ref b386), .val (.ref b402), .val (.int (1 : Int32))] [])) _
      refine XS.iconst X423.here hx rfl (hb hby at_177) ?_
      show Steps p.tables e below (T423.setTop (mkF m 178 #[.val (.long q0), .second, .val (.long q1), .second, .val (.int p2), .val (.int p3), .val (.int p4), .val (.int x355), .val (.int x357), .val (.int x364), .val (.int x367), .val (.int x370), .val (.int (0 : Int32)), .val (.ref r374), .val (.ref r379), .val (.ref b386), .val (.ref b402), .val (.int (1 : Int32))] [(.int (1 : Int32))])) _
      refine XS.goto X423.here hx rfl (pc0 := 178) (pc' := 182) rfl (hb hby at_178) (by decide) (by decide) ?_
      show Steps p.tables e below (T423.setTop (mkF m 182 #[.val (.long q0), .second, .val (.long q1), .second, .val (.int p2), .val (.int p3), .val (.int p4), .val (.int x355), .val (.int x357), .val (.int x364), .val (.int x367), .val (.int x370), .val (.int (0 : Int32)), .val (.ref r374), .val (.ref r379), .val (.ref b386), .val (.ref b402), .val (.int (1 : Int32))] [(.int (1 : Int32))])) _
      exact retZ X423 hx Bd.returns (by decide) (hb hby at_182) hr
    ·
      show Q_rm0 Z q0 q1 p2 p3 p4 h0 n0 _ T423.heap _
      rw [e423]
      exact ⟨rfl, N423⟩
  ·
    obtain rfl : x372 = (1 : Int32) := hx372.trans q
    obtain ⟨_, _, ⟨T424, L424, k424, n424⟩, -, X424, ⟨Lc424, hQ424, l424, y424, z424⟩, st424⟩ := Jvm.LawKit.callS X0 hx (y := (⟨"com/example/enact/enact/net/MarkingCoversPinLaw", "make", "(IIII)[I"⟩ : MethodName)) hown (mvT hZ (hw _ (List.mem_of_getElem? (i := 0) rfl))) (mvT hZ (hw _ (List.mem_of_getElem? (i := 1) rfl))) (mvT hZ (hw _ (List.mem_of_getElem? (i := 2) rfl))) (mvT hZ (hw _ (List.mem_of_getElem? (i := 3) rfl))) (by decide) (backOf (W := 0) (mk1 l Z aw hw [] x355 x357 p2 h0 n0 Z0) hZ (hw _ (List.mem_of_getElem? (i := 3) rfl)) (hw _ (List.mem_of_getElem? (i := 2) rfl)) (by decide) (by decide)) (g := (mkF m 79 #[.val (.long q0), .second, .val (.long q1), .second, .val (.int p2), .val (.int p3), .val (.int p4), .val (.int x355), .val (.int x357), .val (.int x364), .val (.int x367), .val (.int x370), .val (.int (1 : Int32)), .unset, .unset, .unset, .unset, .unset] [(.int p2), (.int x357), (.int x355), (.int (1 : Int32))])) rfl (by rw [hml]; rfl) (argsL := [(.int (1 : Int32)), (.int x355), (.int x357), (.int p2)]) (rest := []) (lenOf pd_3 rfl) rfl (by show 2 * 0 + _ ≤ _; exact Nat.le_of_eq rfl) (hb hby at_79) (fun _ _ => ⟨rfl, e0, (by decide : 0 + 1 ≤ _), (by decide : 0 + 1 ≤ _)⟩)
    dsimp only [Pt.U, Pt.locs, Pt.cells, Pt.slots] at X424 l424 y424 z424 st424 hQ424
    subst l424 y424 z424
    obtain ⟨r424, kb424, rfl, N424q, K424, sz424, f425, f426⟩ := hQ424
    have N424 := Fr.app N0 N424q
    have gn427 : n0 ≤ r424 := Nat.le_trans Z0 sz424
    have Z428 : n0 ≤ T424.heap.size := Nat.le_trans Z0 K424.1
    obtain ⟨_, _, ⟨T429, L429, k429, n429⟩, -, X429, ⟨Lc429, hQ429, l429, y429, z429⟩, st429⟩ := Jvm.LawKit.callS X424 hx (y := (⟨"com/example/enact/enact/net/MarkingCoversPinLaw", "make", "(IIII)[I"⟩ : MethodName)) hown (mvT hZ (hw _ (List.mem_of_getElem? (i := 0) rfl))) (mvT hZ (hw _ (List.mem_of_getElem? (i := 1) rfl))) (mvT hZ (hw _ (List.mem_of_getElem? (i := 2) rfl))) (mvT hZ (hw _ (List.mem_of_getElem? (i := 3) rfl))) (by decide) (backOf (W := 0) (mk1 l Z aw hw [] x364 x367 x370 T424.heap n0 Z428) hZ (hw _ (List.mem_of_getElem? (i := 3) rfl)) (hw _ (List.mem_of_getElem? (i := 2) rfl)) (by decide) (by decide)) (g := (mkF m 92 #[.val (.long q0), .second, .val (.long q1), .second, .val (.int p2), .val (.int p3), .val (.int p4), .val (.int x355), .val (.int x357), .val (.int x364), .val (.int x367), .val (.int x370), .val (.int (1 : Int32)), .val (.ref r424), .unset, .unset, .unset, .unset] [(.int x370), (.int x367), (.int x364), (.int (1 : Int32))])) rfl (by rw [hml]; rfl) (argsL := [(.int (1 : Int32)), (.int x364), (.int x367), (.int x370)]) (rest := []) (lenOf pd_3 rfl) rfl (by show 2 * 0 + _ ≤ _; exact Nat.le_of_eq rfl) (hb hby at_92) (fun _ _ => ⟨rfl, rfl, (by decide : 1 + 1 ≤ _), (by decide : 1 + 1 ≤ _)⟩)
    dsimp only [Pt.U, Pt.locs, Pt.cells, Pt.slots] at X429 l429 y429 z429 st429 hQ429
    subst l429 y429 z429
    obtain ⟨r429, kb429, rfl, N429q, K429, sz429, f430, f431⟩ := hQ429
    have N429 := Fr.app N424 N429q
    have ne432 : r424 ≠ r429 := Nat.ne_of_lt (Nat.lt_of_lt_of_le f425.lt sz429)
    have gn433 : n0 ≤ r429 := Nat.le_trans Z428 sz429
    have f434 := f425.keep K429 nin0
    have Z435 : n0 ≤ T429.heap.size := Nat.le_trans Z428 K429.1
    obtain ⟨T436, h436, X436, e436, E436, A436, D436, -, st436⟩ := newO X429 hx hZ hown (hw _ (List.mem_of_getElem? (i := 5) rfl)) (hw _ (List.mem_of_getElem? (i := 6) rfl)) (hw _ (List.mem_of_getElem? (i := 7) rfl)) rfl (g := (mkF m 97 #[.val (.long q0), .second, .val (.long q1), .second, .val (.int p2), .val (.int p3), .val (.int p4), .val (.int x355), .val (.int x357), .val (.int x364), .val (.int x367), .val (.int x370), .val (.int (1 : Int32)), .val (.ref r424), .val (.ref r429), .unset, .unset, .unset] [])) rfl (hb hby at_97) (by decide) (by decide)
    obtain ⟨b436, g436⟩ : ∃ z, z = T429.heap.size := ⟨_, rfl⟩
    rw [← g436] at A436 D436 st436
    have ne437 : r424 ≠ b436 := Nat.ne_of_lt (Nat.lt_of_lt_of_le f434.lt (Nat.le_of_eq g436.symm))
    have ne438 : r429 ≠ b436 := Nat.ne_of_lt (Nat.lt_of_lt_of_le f430.lt (Nat.le_of_eq g436.symm))
    have gn439 : n0 ≤ b436 := Nat.le_trans Z435 (Nat.le_of_eq g436.symm)
    have f440 := f434.ext E436
    have f441 := f430.ext E436
    have Z442 : n0 ≤ h436.size := Nat.le_trans Z435 E436.1
    have f443 : Fld Z h436 b436 "com/example/enact/enact/net/Marking" "tokens" "[I" .null := D436 (Or.inr (hw _ (List.mem_of_getElem? (i := 15) rfl))) (ty := (.array .int)) (by decide)
    have f444 : Fld Z h436 b436 "com/example/enact/enact/net/Marking" "total" "J" (.long (0 : Int64)) := D436 (Or.inr (hw _ (List.mem_of_getElem? (i := 17) rfl))) (ty := .long) (by decide)
    have f445 : Fld Z h436 b436 "com/example/enact/enact/net/Marking" "hash" "I" (.int (0 : Int32)) := D436 (Or.inr (hw _ (List.mem_of_getElem? (i := 23) rfl))) (ty := .int) (by decide)
    obtain ⟨_, _, ⟨T446, L446, k446, n446⟩, -, X446, ⟨Lc446, hQ446, l446, y446, z446⟩, st446⟩ := X436.specialBack hx (y := (⟨"com/example/enact/enact/net/Marking", "<init>", "([I)V"⟩ : MethodName)) rfl hown (mvT hZ (hw _ (List.mem_of_getElem? (i := 8) rfl))) (mvT hZ (hw _ (List.mem_of_getElem? (i := 9) rfl))) (mvT hZ (hw _ (List.mem_of_getElem? (i := 10) rfl))) (by decide) (backOf (W := 1) (ct1 l Z aw hw [] b436 r424 kb424 x355 h436 n0 Z442 A436 f443 f444 f445 gn439 f440 f426 (Ne.symm ne437)) hZ (hw _ (List.mem_of_getElem? (i := 10) rfl)) (hw _ (List.mem_of_getElem? (i := 7) rfl)) (by decide) (by decide)) (g := (mkF m 103 #[.val (.long q0), .second, .val (.long q1), .second, .val (.int p2), .val (.int p3), .val (.int p4), .val (.int x355), .val (.int x357), .val (.int x364), .val (.int x367), .val (.int x370), .val (.int (1 : Int32)), .val (.ref r424), .val (.ref r429), .unset, .unset, .unset] [(.ref r424), (.ref b436), (.ref b436)])) rfl (by rw [hml]; rfl) (Steps.refl _) (a := b436) (argsL := [(.ref r424)]) (rest := [(.ref b436)]) (lenOf pd_4 rfl) rfl (by show 2 * 0 + _ ≤ _; exact Nat.le_of_eq rfl) (hb hby at_103) (fun _ _ => ⟨rfl, e436, (by decide : 3 + 0 ≤ _), (by decide : 5 + 0 ≤ _)⟩)
    dsimp only [Pt.U, Pt.locs, Pt.cells, Pt.slots] at X446 l446 y446 z446 st446 hQ446
    subst l446 y446 z446
    obtain ⟨rfl, N446q, K446, f447, f448⟩ := hQ446
    have N446 := Fr.app N429 N446q
    have f449 := f440.keep K446 (ninS ne437 nin0)
    have f450 := f441.keep K446 (ninS ne438 nin0)
    have Z451 : n0 ≤ T446.heap.size := Nat.le_trans Z442 K446.1
    obtain ⟨T452, h452, X452, e452, E452, A452, D452, -, st452⟩ := newO X446 hx hZ hown (hw _ (List.mem_of_getElem? (i := 5) rfl)) (hw _ (List.mem_of_getElem? (i := 6) rfl)) (hw _ (List.mem_of_getElem? (i := 7) rfl)) rfl (g := (mkF m 108 #[.val (.long q0), .second, .val (.long q1), .second, .val (.int p2), .val (.int p3), .val (.int p4), .val (.int x355), .val (.int x357), .val (.int x364), .val (.int x367), .val (.int x370), .val (.int (1 : Int32)), .val (.ref r424), .val (.ref r429), .val (.ref b436), .unset, .unset] [])) rfl (hb hby at_108) (by decide) (by decide)
    obtain ⟨b452, g452⟩ : ∃ z, z = T446.heap.size := ⟨_, rfl⟩
    rw [← g452] at A452 D452 st452
    have ne453 : r424 ≠ b452 := Nat.ne_of_lt (Nat.lt_of_lt_of_le f449.lt (Nat.le_of_eq g452.symm))
    have ne454 : r429 ≠ b452 := Nat.ne_of_lt (Nat.lt_of_lt_of_le f450.lt (Nat.le_of_eq g452.symm))
    have ne455 : b436 ≠ b452 := Nat.ne_of_lt (Nat.lt_of_lt_of_le f447.lt (Nat.le_of_eq g452.symm))
    have gn456 : n0 ≤ b452 := Nat.le_trans Z451 (Nat.le_of_eq g452.symm)
    have f457 := f449.ext E452
    have f458 := f450.ext E452
    have f459 := f447.ext E452
    have f460 := f448.ext E452
    have Z461 : n0 ≤ h452.size := Nat.le_trans Z451 E452.1
    have f462 : Fld Z h452 b452 "com/example/enact/enact/net/Marking" "tokens" "[I" .null := D452 (Or.inr (hw _ (List.mem_of_getElem? (i := 15) rfl))) (ty := (.array .int)) (by decide)
    have f463 : Fld Z h452 b452 "com/example/enact/enact/net/Marking" "total" "J" (.long (0 : Int64)) := D452 (Or.inr (hw _ (List.mem_of_getElem? (i := 17) rfl))) (ty := .long) (by decide)
    have f464 : Fld Z h452 b452 "com/example/enact/enact/net/Marking" "hash" "I" (.int (0 : Int32)) := D452 (Or.inr (hw _ (List.mem_of_getElem? (i := 23) rfl))) (ty := .int) (by decide)
    obtain ⟨_, _, ⟨T465, L465, k465, n465⟩, -, X465, ⟨Lc465, hQ465, l465, y465, z465⟩, st465⟩ := X452.specialBack hx (y := (⟨"com/example/enact/enact/net/Marking", "<init>", "([I)V"⟩ : MethodName)) rfl hown (mvT hZ (hw _ (List.mem_of_getElem? (i := 8) rfl))) (mvT hZ (hw _ (List.mem_of_getElem? (i := 9) rfl))) (mvT hZ (hw _ (List.mem_of_getElem? (i := 10) rfl))) (by decide) (backOf (W := 1) (ct1 l Z aw hw [] b452 r429 kb429 x364 h452 n0 Z461 A452 f462 f463 f464 gn456 f458 f431 (Ne.symm ne454)) hZ (hw _ (List.mem_of_getElem? (i := 10) rfl)) (hw _ (List.mem_of_getElem? (i := 7) rfl)) (by decide) (by decide)) (g := (mkF m 114 #[.val (.long q0), .second, .val (.long q1), .second, .val (.int p2), .val (.int p3), .val (.int p4), .val (.int x355), .val (.int x357), .val (.int x364), .val (.int x367), .val (.int x370), .val (.int (1 : Int32)), .val (.ref r424), .val (.ref r429), .val (.ref b436), .unset, .unset] [(.ref r429), (.ref b452), (.ref b452)])) rfl (by rw [hml]; rfl) (Steps.refl _) (a := b452) (argsL := [(.ref r429)]) (rest := [(.ref b452)]) (lenOf pd_4 rfl) rfl (by show 2 * 0 + _ ≤ _; exact Nat.le_of_eq rfl) (hb hby at_114) (fun _ _ => ⟨rfl, e452, (by decide : 4 + 0 ≤ _), (by decide : 8 + 0 ≤ _)⟩)
    dsimp only [Pt.U, Pt.locs, Pt.cells, Pt.slots] at X465 l465 y465 z465 st465 hQ465
    subst l465 y465 z465
    obtain ⟨rfl, N465q, K465, f466, f467⟩ := hQ465
    have N465 := Fr.app N446 N465q
    have f468 := f457.keep K465 (ninS ne453 nin0)
    have f469 := f458.keep K465 (ninS ne454 nin0)
    have f470 := f459.keep K465
    have f471 := f460.keep K465 (ninS ne455 nin0)
    have Z472 : n0 ≤ T465.heap.size := Nat.le_trans Z461 K465.1
    obtain ⟨x474, hx474⟩ : ∃ z : Int32, z = (if x355 < x364 then (0 : Int32) else (1 : Int32)) := ⟨_, rfl⟩
    have pre475 : ∀ t, Steps p.tables e below (T465.setTop (mkF m 163 #[.val (.long q0), .second, .val (.long q1), .second, .val (.int p2), .val (.int p3), .val (.int p4), .val (.int x355), .val (.int x357), .val (.int x364), .val (.int x367), .val (.int x370), .val (.int (1 : Int32)), .val (.ref r424), .val (.ref r429), .val (.ref b436), .val (.ref b452), .unset] [(.int x474)])) t → Steps p.tables e below (s₁.setTop (entryFrame m #[(.long q0), (.long q1), (.int p2), (.int p3), (.int p4)] maxLocals)) t := fun t k => by
      refine pre373 t ?_
      show Steps p.tables e below (s₁.setTop (mkF m 71 #[.val (.long q0), .second, .val (.long q1), .second, .val (.int p2), .val (.int p3), .val (.int p4), .val (.int x355), .val (.int x357), .val (.int x364), .val (.int x367), .val (.int x370), .val (.int (1 : Int32)), .unset, .unset, .unset, .unset, .unset] [])) _
      refine XS.iload X0.here hx rfl (hb hby at_71) rfl ?_
      show Steps p.tables e below (s₁.setTop (mkF m 73 #[.val (.long q0), .second, .val (.long q1), .second, .val (.int p2), .val (.int p3), .val (.int p4), .val (.int x355), .val (.int x357), .val (.int x364), .val (.int x367), .val (.int x370), .val (.int (1 : Int32)), .unset, .unset, .unset, .unset, .unset] [(.int (1 : Int32))])) _
      refine XS.iload X0.here hx rfl (hb hby at_73) rfl ?_
      show Steps p.tables e below (s₁.setTop (mkF m 75 #[.val (.long q0), .second, .val (.long q1), .second, .val (.int p2), .val (.int p3), .val (.int p4), .val (.int x355), .val (.int x357), .val (.int x364), .val (.int x367), .val (.int x370), .val (.int (1 : Int32)), .unset, .unset, .unset, .unset, .unset] [(.int x355), (.int (1 : Int32))])) _
      refine XS.iload X0.here hx rfl (hb hby at_75) rfl ?_
      show Steps p.tables e below (s₁.setTop (mkF m 77 #[.val (.long q0), .second, .val (.long q1), .second, .val (.int p2), .val (.int p3), .val (.int p4), .val (.int x355), .val (.int x357), .val (.int x364), .val (.int x367), .val (.int x370), .val (.int (1 : Int32)), .unset, .unset, .unset, .unset, .unset] [(.int x357), (.int x355), (.int (1 : Int32))])) _
      refine XS.iload X0.here hx rfl (hb hby at_77) rfl ?_
      show Steps p.tables e below (s₁.setTop (mkF m 79 #[.val (.long q0), .second, .val (.long q1), .second, .val (.int p2), .val (.int p3), .val (.int p4), .val (.int x355), .val (.int x357), .val (.int x364), .val (.int x367), .val (.int x370), .val (.int (1 : Int32)), .unset, .unset, .unset, .unset, .unset] [(.int p2), (.int x357), (.int x355), (.int (1 : Int32))])) _
      refine st424 _ ?_
      show Steps p.tables e below (T424.setTop (mkF m 82 #[.val (.long q0), .second, .val (.long q1), .second, .val (.int p2), .val (.int p3), .val (.int p4), .val (.int x355), .val (.int x357), .val (.int x364), .val (.int x367), .val (.int x370), .val (.int (1 : Int32)), .unset, .unset, .unset, .unset, .unset] [(.ref r424)])) _
      refine XS.astore X424.here hx rfl (hb hby at_82) rfl rfl (l' := #[.val (.long q0), .second, .val (.long q1), .second, .val (.int p2), .val (.int p3), .val (.int p4), .val (.int x355), .val (.int x357), .val (.int x364), .val (.int x367), .val (.int x370), .val (.int (1 : Int32)), .val (.ref r424), .unset, .unset, .unset, .unset]) rfl ?_
      show Steps p.tables e below (T424.setTop (mkF m 84 #[.val (.long q0), .second, .val (.long q1), .second, .val (.int p2), .val (.int p3), .val (.int p4), .val (.int x355), .val (.int x357), .val (.int x364), .val (.int x367), .val (.int x370), .val (.int (1 : Int32)), .val (.ref r424), .unset, .unset, .unset, .unset] [])) _
      refine XS.iload X424.here hx rfl (hb hby at_84) rfl ?_
      show Steps p.tables e below (T424.setTop (mkF m 86 #[.val (.long q0), .second, .val (.long q1), .second, .val (.int p2), .val (.int p3), .val (.int p4), .val (.int x355), .val (.int x357), .val (.int x364), .val (.int x367), .val (.int x370), .val (.int (1 : Int32)), .val (.ref r424), .unset, .unset, .unset, .unset] [(.int (1 : Int32))])) _
      refine XS.iload X424.here hx rfl (hb hby at_86) rfl ?_
      show Steps p.tables e below (T424.setTop (mkF m 88 #[.val (.long q0), .second, .val (.long q1), .second, .val (.int p2), .val (.int p3), .val (.int p4), .val (.int x355), .val (.int x357), .val (.int x364), .val (.int x367), .val (.int x370), .val (.int (1 : Int32)), .val (.ref r424), .unset, .unset, .unset, .unset] [(.int x364), (.int (1 : Int32))])) _
      refine XS.iload X424.here hx rfl (hb hby at_88) rfl ?_
      show Steps p.tables e below (T424.setTop (mkF m 90 #[.val (.long q0), .second, .val (.long q1), .second, .val (.int p2), .val (.int p3), .val (.int p4), .val (.int x355), .val (.int x357), .val (.int x364), .val (.int x367), .val (.int x370), .val (.int (1 : Int32)), .val (.ref r424), .unset, .unset, .unset, .unset] [(.int x367), (.int x364), (.int (1 : Int32))])) _
      refine XS.iload X424.here hx rfl (hb hby at_90) rfl ?_
      show Steps p.tables e below (T424.setTop (mkF m 92 #[.val (.long q0), .second, .val (.long q1), .second, .val (.int p2), .val (.int p3), .val (.int p4), .val (.int x355), .val (.int x357), .val (.int x364), .val (.int x367), .val (.int x370), .val (.int (1 : Int32)), .val (.ref r424), .unset, .unset, .unset, .unset] [(.int x370), (.int x367), (.int x364), (.int (1 : Int32))])) _
      refine st429 _ ?_
      show Steps p.tables e below (T429.setTop (mkF m 95 #[.val (.long q0), .second, .val (.long q1), .second, .val (.int p2), .val (.int p3), .val (.int p4), .val (.int x355), .val (.int x357), .val (.int x364), .val (.int x367), .val (.int x370), .val (.int (1 : Int32)), .val (.ref r424), .unset, .unset, .unset, .unset] [(.ref r429)])) _
      refine XS.astore X429.here hx rfl (hb hby at_95) rfl rfl (l' := #[.val (.long q0), .second, .val (.long q1), .second, .val (.int p2), .val (.int p3), .val (.int p4), .val (.int x355), .val (.int x357), .val (.int x364), .val (.int x367), .val (.int x370), .val (.int (1 : Int32)), .val (.ref r424), .val (.ref r429), .unset, .unset, .unset]) rfl ?_
      show Steps p.tables e below (T429.setTop (mkF m 97 #[.val (.long q0), .second, .val (.long q1), .second, .val (.int p2), .val (.int p3), .val (.int p4), .val (.int x355), .val (.int x357), .val (.int x364), .val (.int x367), .val (.int x370), .val (.int (1 : Int32)), .val (.ref r424), .val (.ref r429), .unset, .unset, .unset] [])) _
      refine st436 _ ?_
      show Steps p.tables e below (T436.setTop (mkF m 100 #[.val (.long q0), .second, .val (.long q1), .second, .val (.int p2), .val (.int p3), .val (.int p4), .val (.int x355), .val (.int x357), .val (.int x364), .val (.int x367), .val (.int x370), .val (.int (1 : Int32)), .val (.ref r424), .val (.ref r429), .unset, .unset, .unset] [(.ref b436)])) _
      refine XS.dup X436.here hx rfl (hb hby at_100) rfl rfl ?_
      show Steps p.tables e below (T436.setTop (mkF m 101 #[.val (.long q0), .second, .val (.long q1), .second, .val (.int p2), .val (.int p3), .val (.int p4), .val (.int x355), .val (.int x357), .val (.int x364), .val (.int x367), .val (.int x370), .val (.int (1 : Int32)), .val (.ref r424), .val (.ref r429), .unset, .unset, .unset] [(.ref b436), (.ref b436)])) _
      refine XS.aload X436.here hx rfl (hb hby at_101) rfl rfl ?_
      show Steps p.tables e below (T436.setTop (mkF m 103 #[.val (.long q0), .second, .val (.long q1), .second, .val (.int p2), .val (.int p3), .val (.int p4), .val (.int x355), .val (.int x357), .val (.int x364), .val (.int x367), .val (.int x370), .val (.int (1 : Int32)), .val (.ref r424), .val (.ref r429), .unset, .unset, .unset] [(.ref r424), (.ref b436), (.ref b436)])) _
      refine st446.trans ?_
      show Steps p.tables e below (T446.setTop (mkF m 106 #[.val (.long q0), .second, .val (.long q1), .second, .val (.int p2), .val (.int p3), .val (.int p4), .val (.int x355), .val (.int x357), .val (.int x364), .val (.int x367), .val (.int x370), .val (.int (1 : Int32)), .val (.ref r424), .val (.ref r429), .unset, .unset, .unset] [(.ref b436)])) _
      refine XS.astore X446.here hx rfl (hb hby at_106) rfl rfl (l' := #[.val (.long q0), .second, .val (.long q1), .second, .val (.int p2), .val (.int p3), .val (.int p4), .val (.int x355), .val (.int x357), .val (.int x364), .val (.int x367), .val (.int x370), .val (.int (1 : Int32)), .val (.ref r424), .val (.ref r429), .val (.ref b436), .unset, .unset]) rfl ?_
      show Steps p.tables e below (T446.setTop (mkF m 108 #[.val (.long q0), .second, .val (.long q1), .second, .val (.int p2), .val (.int p3), .val (.int p4), .val (.int x355), .val (.int x357), .val (.int x364), .val (.int x367), .val (.int x370), .val (.int (1 : Int32)), .val (.ref r424), .val (.ref r429), .val (.ref b436), .unset, .unset] [])) _
      refine st452 _ ?_
      show Steps p.tables e below (T452.setTop (mkF m 111 #[.val (.long q0), .second, .val (.long q1), .second, .val (.int p2), .val (.int p3), .val (.int p4), .val (.int x355), .val (.int x357), .val (.int x364), .val (.int x367), .val (.int x370), .val (.int (1 : Int32)), .val (.ref r424), .val (.ref r429), .val (.ref b436), .unset, .unset] [(.ref b452)])) _
      refine XS.dup X452.here hx rfl (hb hby at_111) rfl rfl ?_
      show Steps p.tables e below (T452.setTop (mkF m 112 #[.val (.long q0), .second, .val (.long q1), .second, .val (.int p2), .val (.int p3), .val (.int p4), .val (.int x355), .val (.int x357), .val (.int x364), .val (.int x367), .val (.int x370), .val (.int (1 : Int32)), .val (.ref r424), .val (.ref r429), .val (.ref b436), .unset, .unset] [(.ref b452), (.ref b452)])) _
      refine XS.aload X452.here hx rfl (hb hby at_112) rfl rfl ?_
      show Steps p.tables e below (T452.setTop (mkF m 114 #[.val (.long q0), .second, .val (.long q1), .second, .val (.int p2), .val (.int p3), .val (.int p4), .val (.int x355), .val (.int x357), .val (.int x364), .val (.int x367), .val (.int x370), .val (.int (1 : Int32)), .val (.ref r424), .val (.ref r429), .val (.ref b436), .unset, .unset] [(.ref r429), (.ref b452), (.ref b452)])) _
      refine st465.trans ?_
      show Steps p.tables e below (T465.setTop (mkF m 117 #[.val (.long q0), .second, .val (.long q1), .second, .val (.int p2), .val (.int p3), .val (.int p4), .val (.int x355), .val (.int x357), .val (.int x364), .val (.int x367), .val (.int x370), .val (.int (1 : Int32)), .val (.ref r424), .val (.ref r429), .val (.ref b436), .unset, .unset] [(.ref b452)])) _
      refine XS.astore X465.here hx rfl (hb hby at_117) rfl rfl (l' := #[.val (.long q0), .second, .val (.long q1), .second, .val (.int p2), .val (.int p3), .val (.int p4), .val (.int x355), .val (.int x357), .val (.int x364), .val (.int x367), .val (.int x370), .val (.int (1 : Int32)), .val (.ref r424), .val (.ref r429), .val (.ref b436), .val (.ref b452), .unset]) rfl ?_
      show Steps p.tables e below (T465.setTop (mkF m 119 #[.val (.long q0), .second, .val (.long q1), .second, .val (.int p2), .val (.int p3), .val (.int p4), .val (.int x355), .val (.int x357), .val (.int x364), .val (.int x367), .val (.int x370), .val (.int (1 : Int32)), .val (.ref r424), .val (.ref r429), .val (.ref b436), .val (.ref b452), .unset] [])) _
      refine XS.iload X465.here hx rfl (hb hby at_119) rfl ?_
      show Steps p.tables e below (T465.setTop (mkF m 121 #[.val (.long q0), .second, .val (.long q1), .second, .val (.int p2), .val (.int p3), .val (.int p4), .val (.int x355), .val (.int x357), .val (.int x364), .val (.int x367), .val (.int x370), .val (.int (1 : Int32)), .val (.ref r424), .val (.ref r429), .val (.ref b436), .val (.ref b452), .unset] [(.int (1 : Int32))])) _
      refine XS.iconst X465.here hx rfl (hb hby at_121) ?_
      show Steps p.tables e below (T465.setTop (mkF m 122 #[.val (.long q0), .second, .val (.long q1), .second, .val (.int p2), .val (.int p3), .val (.int p4), .val (.int x355), .val (.int x357), .val (.int x364), .val (.int x367), .val (.int x370), .val (.int (1 : Int32)), .val (.ref r424), .val (.ref r429), .val (.ref b436), .val (.ref b452), .unset] [(.int (1 : Int32)), (.int (1 : Int32))])) _
      refine XS.icmpNo X465.here hx rfl (hb hby at_122) rfl (flt (by decide)).1 ?_
      show Steps p.tables e below (T465.setTop (mkF m 125 #[.val (.long q0), .second, .val (.long q1), .second, .val (.int p2), .val (.int p3), .val (.int p4), .val (.int x355), .val (.int x357), .val (.int x364), .val (.int x367), .val (.int x370), .val (.int (1 : Int32)), .val (.ref r424), .val (.ref r429), .val (.ref b436), .val (.ref b452), .unset] [])) _
      refine XS.iload X465.here hx rfl (hb hby at_125) rfl ?_
      show Steps p.tables e below (T465.setTop (mkF m 127 #[.val (.long q0), .second, .val (.long q1), .second, .val (.int p2), .val (.int p3), .val (.int p4), .val (.int x355), .val (.int x357), .val (.int x364), .val (.int x367), .val (.int x370), .val (.int (1 : Int32)), .val (.ref r424), .val (.ref r429), .val (.ref b436), .val (.ref b452), .unset] [(.int x355)])) _
      refine XS.iload X465.here hx rfl (hb hby at_127) rfl ?_
      by_cases c473 : x355 < x364
      ·
        show Steps p.tables e below (T465.setTop (mkF m 129 #[.val (.long q0), .second, .val (.long q1), .second, .val (.int p2), .val (.int p3), .val (.int p4), .val (.int x355), .val (.int x357), .val (.int x364), .val (.int x367), .val (.int x370), .val (.int (1 : Int32)), .val (.ref r424), .val (.ref r429), .val (.ref b436), .val (.ref b452), .unset] [(.int x364), (.int x355)])) _
        refine XS.icmpYes X465.here hx rfl (pc0 := 129) (pc' := 162) rfl (hb hby at_129) rfl (tlt c473).1 (by decide) (by decide) ?_
        show Steps p.tables e below (T465.setTop (mkF m 162 #[.val (.long q0), .second, .val (.long q1), .second, .val (.int p2), .val (.int p3), .val (.int p4), .val (.int x355), .val (.int x357), .val (.int x364), .val (.int x367), .val (.int x370), .val (.int (1 : Int32)), .val (.ref r424), .val (.ref r429), .val (.ref b436), .val (.ref b452), .unset] [])) _
        refine XS.iconst X465.here hx rfl (hb hby at_162) ?_
        rw [show x474 = (0 : Int32) from hx474.trans (by simp only [if_pos c473])] at k
        exact k
      ·
        show Steps p.tables e below (T465.setTop (mkF m 129 #[.val (.long q0), .second, .val (.long q1), .second, .val (.int p2), .val (.int p3), .val (.int p4), .val (.int x355), .val (.int x357), .val (.int x364), .val (.int x367), .val (.int x370), .val (.int (1 : Int32)), .val (.ref r424), .val (.ref r429), .val (.ref b436), .val (.ref b452), .unset] [(.int x364), (.int x355)])) _
        refine XS.icmpNo X465.here hx rfl (hb hby at_129) rfl (flt c473).1 ?_
        show Steps p.tables e below (T465.setTop (mkF m 132 #[.val (.long q0), .second, .val (.long q1), .second, .val (.int p2), .val (.int p3), .val (.int p4), .val (.int x355), .val (.int x357), .val (.int x364), .val (.int x367), .val (.int x370), .val (.int (1 : Int32)), .val (.ref r424), .val (.ref r429), .val (.ref b436), .val (.ref b452), .unset] [])) _
        refine XS.iload X465.here hx rfl (hb hby at_132) rfl ?_
        show Steps p.tables e below (T465.setTop (mkF m 134 #[.val (.long q0), .second, .val (.long q1), .second, .val (.int p2), .val (.int p3), .val (.int p4), .val (.int x355), .val (.int x357), .val (.int x364), .val (.int x367), .val (.int x370), .val (.int (1 : Int32)), .val (.ref r424), .val (.ref r429), .val (.ref b436), .val (.ref b452), .unset] [(.int (1 : Int32))])) _
        refine XS.iconst X465.here hx rfl (hb hby at_134) ?_
        show Steps p.tables e below (T465.setTop (mkF m 135 #[.val (.long q0), .second, .val (.long q1), .second, .val (.int p2), .val (.int p3), .val (.int p4), .val (.int x355), .val (.int x357), .val (.int x364), .val (.int x367), .val (.int x370), .val (.int (1 : Int32)), .val (.ref r424), .val (.ref r429), .val (.ref b436), .val (.ref b452), .unset] [(.int (2 : Int32)), (.int (1 : Int32))])) _
        refine XS.icmpYes X465.here hx rfl (pc0 := 135) (pc' := 145) rfl (hb hby at_135) rfl (tlt (by decide)).1 (by decide) (by decide) ?_
        show Steps p.tables e below (T465.setTop (mkF m 145 #[.val (.long q0), .second, .val (.long q1), .second, .val (.int p2), .val (.int p3), .val (.int p4), .val (.int x355), .val (.int x357), .val (.int x364), .val (.int x367), .val (.int x370), .val (.int (1 : Int32)), .val (.ref r424), .val (.ref r429), .val (.ref b436), .val (.ref b452), .unset] [])) _
        refine XS.iload X465.here hx rfl (hb hby at_145) rfl ?_
        show Steps p.tables e below (T465.setTop (mkF m 147 #[.val (.long q0), .second, .val (.long q1), .second, .val (.int p2), .val (.int p3), .val (.int p4), .val (.int x355), .val (.int x357), .val (.int x364), .val (.int x367), .val (.int x370), .val (.int (1 : Int32)), .val (.ref r424), .val (.ref r429), .val (.ref b436), .val (.ref b452), .unset] [(.int (1 : Int32))])) _
        refine XS.iconst X465.here hx rfl (hb hby at_147) ?_
        show Steps p.tables e below (T465.setTop (mkF m 148 #[.val (.long q0), .second, .val (.long q1), .second, .val (.int p2), .val (.int p3), .val (.int p4), .val (.int x355), .val (.int x357), .val (.int x364), .val (.int x367), .val (.int x370), .val (.int (1 : Int32)), .val (.ref r424), .val (.ref r429), .val (.ref b436), .val (.ref b452), .unset] [(.int (3 : Int32)), (.int (1 : Int32))])) _
        refine XS.icmpYes X465.here hx rfl (pc0 := 148) (pc' := 158) rfl (hb hby at_148) rfl (tlt (by decide)).1 (by decide) (by decide) ?_
        show Steps p.tables e below (T465.setTop (mkF m 158 #[.val (.long q0), .second, .val (.long q1), .second, .val (.int p2), .val (.int p3), .val (.int p4), .val (.int x355), .val (.int x357), .val (.int x364), .val (.int x367), .val (.int x370), .val (.int (1 : Int32)), .val (.ref r424), .val (.ref r429), .val (.ref b436), .val (.ref b452), .unset] [])) _
        refine XS.iconst X465.here hx rfl (hb hby at_158) ?_
        show Steps p.tables e below (T465.setTop (mkF m 159 #[.val (.long q0), .second, .val (.long q1), .second, .val (.int p2), .val (.int p3), .val (.int p4), .val (.int x355), .val (.int x357), .val (.int x364), .val (.int x367), .val (.int x370), .val (.int (1 : Int32)), .val (.ref r424), .val (.ref r429), .val (.ref b436), .val (.ref b452), .unset] [(.int (1 : Int32))])) _
        refine XS.goto X465.here hx rfl (pc0 := 159) (pc' := 163) rfl (hb hby at_159) (by decide) (by decide) ?_
        rw [show x474 = (1 : Int32) from hx474.trans (by simp only [if_neg c473])] at k
        exact k
    obtain ⟨cq476, kq476, q476a, q476b, q476c⟩ := isOf hZ rfl f470
    obtain ⟨_, _, ⟨T476, L476, k476, n476⟩, -, X476, ⟨Lc476, hQ476, l476, y476, z476⟩, st476⟩ := X465.virtualBack hx (y := (⟨"com/example/enact/enact/net/Marking", "covers", "(Lcom/example/enact/enact/net/Marking;)Z"⟩ : MethodName)) (z := (⟨"com/example/enact/enact/net/Marking", "covers", "(Lcom/example/enact/enact/net/Marking;)Z"⟩ : MethodName)) hown (mvT hZ (hw _ (List.mem_of_getElem? (i := 24) rfl))) (mvT hZ (hw _ (List.mem_of_getElem? (i := 25) rfl))) (notFace_of_selects (args := #[]) (mvT hZ (hw _ (List.mem_of_getElem? (i := 27) rfl)))) (mvT hZ (hw _ (List.mem_of_getElem? (i := 27) rfl))) (mvT hZ (hw _ (List.mem_of_getElem? (i := 26) rfl))) (by decide) (backOf (W := 0) (cv1 l Z aw hw [] b436 b452 r424 kb424 x355 r429 kb429 x364 T465.heap n0 Z472 f471 f468 f467 f469) hZ (hw _ (List.mem_of_getElem? (i := 28) rfl)) (hw _ (List.mem_of_getElem? (i := 7) rfl)) (by decide) (by decide)) q476a q476c (g := (mkF m 169 #[.val (.long q0), .second, .val (.long q1), .second, .val (.int p2), .val (.int p3), .val (.int p4), .val (.int x355), .val (.int x357), .val (.int x364), .val (.int x367), .val (.int x370), .val (.int (1 : Int32)), .val (.ref r424), .val (.ref r429), .val (.ref b436), .val (.ref b452), .val (.int x474)] [(.ref b452), (.ref b436)])) rfl (by rw [hml]; rfl) (Steps.refl _) (argsL := [(.ref b452)]) (rest := []) (lenOf pd_5 rfl) rfl (by show 2 * 0 + _ ≤ _; exact Nat.le_of_eq rfl) (hb hby at_169) (fun _ _ => ⟨rfl, rfl, (by decide : 4 + 0 ≤ _), (by decide : 8 + 0 ≤ _)⟩)
    dsimp only [Pt.U, Pt.locs, Pt.cells, Pt.slots] at X476 l476 y476 z476 st476 hQ476
    subst l476 y476 z476
    obtain ⟨rfl, N476q, e476⟩ := hQ476
    have N476 := Fr.app N465 N476q
    have c477 : (if x355 < x364 then (0 : Int32) else (1 : Int32)) = x474 := by
      exact hx474.symm
    obtain ⟨fs, hr, hrun, hended, hW, hsame⟩ := X476.leave (v := some (.int (1 : Int32))) (fun h => by rw [Bd.returns] at h; cases h)
    refine ⟨_, _, pre475 _ ?_, hrun, hended, _, _, rfl, ?_, ⟨_, rfl⟩, hW, hsame.mono (by decide) (by decide)⟩
    ·
      show Steps p.tables e below (T465.setTop (mkF m 163 #[.val (.long q0), .second, .val (.long q1), .second, .val (.int p2), .val (.int p3), .val (.int p4), .val (.int x355), .val (.int x357), .val (.int x364), .val (.int x367), .val (.int x370), .val (.int (1 : Int32)), .val (.ref r424), .val (.ref r429), .val (.ref b436), .val (.ref b452), .unset] [(.int x474)])) _
      refine XS.istore X465.here hx rfl (hb hby at_163) rfl (l' := #[.val (.long q0), .second, .val (.long q1), .second, .val (.int p2), .val (.int p3), .val (.int p4), .val (.int x355), .val (.int x357), .val (.int x364), .val (.int x367), .val (.int x370), .val (.int (1 : Int32)), .val (.ref r424), .val (.ref r429), .val (.ref b436), .val (.ref b452), .val (.int x474)]) rfl ?_
      show Steps p.tables e below (T465.setTop (mkF m 165 #[.val (.long q0), .second, .val (.long q1), .second, .val (.int p2), .val (.int p3), .val (.int p4), .val (.int x355), .val (.int x357), .val (.int x364), .val (.int x367), .val (.int x370), .val (.int (1 : Int32)), .val (.ref r424), .val (.ref r429), .val (.ref b436), .val (.ref b452), .val (.int x474)] [])) _
      refine XS.aload X465.here hx rfl (hb hby at_165) rfl rfl ?_
      show Steps p.tables e below (T465.setTop (mkF m 167 #[.val (.long q0), .second, .val (.long q1), .second, .val (.int p2), .val (.int p3), .val (.int p4), .val (.int x355), .val (.int x357), .val (.int x364), .val (.int x367), .val (.int x370), .val (.int (1 : Int32)), .val (.ref r424), .val (.ref r429), .val (.ref b436), .val (.ref b452), .val (.int x474)] [(.ref b436)])) _
      refine XS.aload X465.here hx rfl (hb hby at_167) rfl rfl ?_
      show Steps p.tables e below (T465.setTop (mkF m 169 #[.val (.long q0), .second, .val (.long q1), .second, .val (.int p2), .val (.int p3), .val (.int p4), .val (.int x355), .val (.int x357), .val (.int x364), .val (.int x367), .val (.int x370), .val (.int (1 : Int32)), .val (.ref r424), .val (.ref r429), .val (.ref b436), .val (.ref b452), .val (.int x474)] [(.ref b452), (.ref b436)])) _
      refine st476.trans ?_
      show Steps p.tables e below (T476.setTop (mkF m 172 #[.val (.long q0), .second, .val (.long q1), .second, .val (.int p2), .val (.int p3), .val (.int p4), .val (.int x355), .val (.int x357), .val (.int x364), .val (.int x367), .val (.int x370), .val (.int (1 : Int32)), .val (.ref r424), .val (.ref r429), .val (.ref b436), .val (.ref b452), .val (.int x474)] [(.int (if x355 < x364 then (0 : Int32) else (1 : Int32)))])) _
      refine XS.iload X476.here hx rfl (hb hby at_172) rfl ?_
      show Steps p.tables e below (T476.setTop (mkF m 174 #[.val (.long q0), .second, .val (.long q1), .second, .val (.int p2), .val (.int p3), .val (.int p4), .val (.int x355), .val (.int x357), .val (.int x364), .val (.int x367), .val (.int x370), .val (.int (1 : Int32)), .val (.ref r424), .val (.ref r429), .val (.ref b436), .val (.ref b452), .val (.int x474)] [(.int x474), (.int (if x355 < x364 then (0 : Int32) else (1 : Int32)))])) _
      refine XS.icmpNo X476.here hx rfl (hb hby at_174) rfl (teq c477).2 ?_
      show Steps p.tables e below (T476.setTop (mkF m 177 #[.val (.long q0), .second, .val (.long q1), .second, .val (.int p2), .val (.int p3), .val (.int p4), .val (.int x355), .val (.int x357), .val (.int x364), .val (.int x367), .val (.int x370), .val (.int (1 : Int32)), .val (.ref r424), .val (.ref r429), .val (.ref b436), .val (.ref b452), .val (.int x474)] [])) _
      refine XS.iconst X476.here hx rfl (hb hby at_177) ?_
      show Steps p.tables e below (T476.setTop (mkF m 178 #[.val (.long q0), .second, .val (.long q1), .second, .val (.int p2), .val (.int p3), .val (.int p4), .val (.int x355), .val (.int x357), .val (.int x364), .val (.int x367), .val (.int x370), .val (.int (1 : Int32)), .val (.ref r424), .val (.ref r429), .val (.ref b436), .val (.ref b452), .val (.int x474)] [(.int (1 : Int32))])) _
      refine XS.goto X476.here hx rfl (pc0 := 178) (pc' := 182) rfl (hb hby at_178) (by decide) (by decide) ?_
      show Steps p.tables e below (T476.setTop (mkF m 182 #[.val (.long q0), .second, .val (.long q1), .second, .val (.int p2), .val (.int p3), .val (.int p4), .val (.int x355), .val (.int x357), .val (.int x364), .val (.int x367), .val (.int x370), .val (.int (1 : Int32)), .val (.ref r424), .val (.ref r429), .val (.ref b436), .val (.ref b452), .val (.int x474)] [(.int (1 : Int32))])) _
      exact retZ X476 hx Bd.returns (by decide) (hb hby at_182) hr
    ·
      show Q_rm0 Z q0 q1 p2 p3 p4 h0 n0 _ T476.heap _
      rw [e476]
      exact ⟨rfl, N476⟩
  ·
    obtain rfl : x372 = (2 : Int32) := hx372.trans q
    obtain ⟨_, _, ⟨T478, L478, k478, n478⟩, -, X478, ⟨Lc478, hQ478, l478, y478, z478⟩, st478⟩ := Jvm.LawKit.callS X0 hx (y := (⟨"com/example/enact/enact/net/MarkingCoversPinLaw", "make", "(IIII)[I"⟩ : MethodName)) hown (mvT hZ (hw _ (List.mem_of_getElem? (i := 0) rfl))) (mvT hZ (hw _ (List.mem_of_getElem? (i := 1) rfl))) (mvT hZ (hw _ (List.mem_of_getElem? (i := 2) rfl))) (mvT hZ (hw _ (List.mem_of_getElem? (i := 3) rfl))) (by decide) (backOf (W := 0) (mk2 l Z aw hw [] x355 x357 p2 h0 n0 Z0) hZ (hw _ (List.mem_of_getElem? (i := 3) rfl)) (hw _ (List.mem_of_getElem? (i := 2) rfl)) (by decide) (by decide)) (g := (mkF m 79 #[.val (.long q0), .second, .val (.long q1), .second, .val (.int p2), .val (.int p3), .val (.int p4), .val (.int x355), .val (.int x357), .val (.int x364), .val (.int x367), .val (.int x370), .val (.int (2 : Int32)), .unset, .unset, .unset, .unset, .unset] [(.int p2), (.int x357), (.int x355), (.int (2 : Int32))])) rfl (by rw [hml]; rfl) (argsL := [(.int (2 : Int32)), (.int x355), (.int x357), (.int p2)]) (rest := []) (lenOf pd_3 rfl) rfl (by show 2 * 0 + _ ≤ _; exact Nat.le_of_eq rfl) (hb hby at_79) (fun _ _ => ⟨rfl, e0, (by decide : 0 + 1 ≤ _), (by decide : 0 + 2 ≤ _)⟩)
    dsimp only [Pt.U, Pt.locs, Pt.cells, Pt.slots] at X478 l478 y478 z478 st478 hQ478
    subst l478 y478 z478
    obtain ⟨r478, kb478, rfl, N478q, K478, sz478, f479, f480⟩ := hQ478
    have N478 := Fr.app N0 N478q
    have gn481 : n0 ≤ r478 := Nat.le_trans Z0 sz478
    have Z482 : n0 ≤ T478.heap.size := Nat.le_trans Z0 K478.1
    obtain ⟨_, _, ⟨T483, L483, k483, n483⟩, -, X483, ⟨Lc483, hQ483, l483, y483, z483⟩, st483⟩ := Jvm.LawKit.callS X478 hx (y := (⟨"com/example/enact/enact/net/MarkingCoversPinLaw", "make", "(IIII)[I"⟩ : MethodName)) hown (mvT hZ (hw _ (List.mem_of_getElem? (i := 0) rfl))) (mvT hZ (hw _ (List.mem_of_getElem? (i := 1) rfl))) (mvT hZ (hw _ (List.mem_of_getElem? (i := 2) rfl))) (mvT hZ (hw _ (List.mem_of_getElem? (i := 3) rfl))) (by decide) (backOf (W := 0) (mk2 l Z aw hw [] x364 x367 x370 T478.heap n0 Z482) hZ (hw _ (List.mem_of_getElem? (i := 3) rfl)) (hw _ (List.mem_of_getElem? (i := 2) rfl)) (by decide) (by decide)) (g := (mkF m 92 #[.val (.long q0), .second, .val (.long q1), .second, .val (.int p2), .val (.int p3), .val (.int p4), .val (.int x355), .val (.int x357), .val (.int x364), .val (.int x367), .val (.int x370), .val (.int (2 : Int32)), .val (.ref r478), .unset, .unset, .unset, .unset] [(.int x370), (.int x367), (.int x364), (.int (2 : Int32))])) rfl (by rw [hml]; rfl) (argsL := [(.int (2 : Int32)), (.int x364), (.int x367), (.int x370)]) (rest := []) (lenOf pd_3 rfl) rfl (by show 2 * 0 + _ ≤ _; exact Nat.le_of_eq rfl) (hb hby at_92) (fun _ _ => ⟨rfl, rfl, (by decide : 1 + 1 ≤ _), (by decide : 2 + 2 ≤ _)⟩)
    dsimp only [Pt.U, Pt.locs, Pt.cells, Pt.slots] at X483 l483 y483 z483 st483 hQ483
    subst l483 y483 z483
    obtain ⟨r483, kb483, rfl, N483q, K483, sz483, f484, f485⟩ := hQ483
    have N483 := Fr.app N478 N483q
    have ne486 : r478 ≠ r483 := Nat.ne_of_lt (Nat.lt_of_lt_of_le f479.lt sz483)
    have gn487 : n0 ≤ r483 := Nat.le_trans Z482 sz483
    have f488 := f479.keep K483 nin0
    have Z489 : n0 ≤ T483.heap.size := Nat.le_trans Z482 K483.1
    obtain ⟨T490, h490, X490, e490, E490, A490, D490, -, st490⟩ := newO X483 hx hZ hown (hw _ (List.mem_of_getElem? (i := 5) rfl)) (hw _ (List.mem_of_getElem? (i := 6) rfl)) (hw _ (List.mem_of_getElem? (i := 7) rfl)) rfl (g := (mkF m 97 #[.val (.long q0), .second, .val (.long q1), .second, .val (.int p2), .val (.int p3), .val (.int p4), .val (.int x355), .val (.int x357), .val (.int x364), .val (.int x367), .val (.int x370), .val (.int (2 : Int32)), .val (.ref r478), .val (.ref r483), .unset, .unset, .unset] [])) rfl (hb hby at_97) (by decide) (by decide)
    obtain ⟨b490, g490⟩ : ∃ z, z = T483.heap.size := ⟨_, rfl⟩
    rw [← g490] at A490 D490 st490
    have ne491 : r478 ≠ b490 := Nat.ne_of_lt (Nat.lt_of_lt_of_le f488.lt (Nat.le_of_eq g490.symm))
    have ne492 : r483 ≠ b490 := Nat.ne_of_lt (Nat.lt_of_lt_of_le f484.lt (Nat.le_of_eq g490.symm))
    have gn493 : n0 ≤ b490 := Nat.le_trans Z489 (Nat.le_of_eq g490.symm)
    have f494 := f488.ext E490
    have f495 := f484.ext E490
    have Z496 : n0 ≤ h490.size := Nat.le_trans Z489 E490.1
    have f497 : Fld Z h490 b490 "com/example/enact/enact/net/Marking" "tokens" "[I" .null := D490 (Or.inr (hw _ (List.mem_of_getElem? (i := 15) rfl))) (ty := (.array .int)) (by decide)
    have f498 : Fld Z h490 b490 "com/example/enact/enact/net/Marking" "total" "J" (.long (0 : Int64)) := D490 (Or.inr (hw _ (List.mem_of_getElem? (i := 17) rfl))) (ty := .long) (by decide)
    have f499 : Fld Z h490 b490 "com/example/enact/enact/net/Marking" "hash" "I" (.int (0 : Int32)) := D490 (Or.inr (hw _ (List.mem_of_getElem? (i := 23) rfl))) (ty := .int) (by decide)
    obtain ⟨_, _, ⟨T500, L500, k500, n500⟩, -, X500, ⟨Lc500, hQ500, l500, y500, z500⟩, st500⟩ := X490.specialBack hx (y := (⟨"com/example/enact/enact/net/Marking", "<init>", "([I)V"⟩ : MethodName)) rfl hown (mvT hZ (hw _ (List.mem_of_getElem? (i := 8) rfl))) (mvT hZ (hw _ (List.mem_of_getElem? (i := 9) rfl))) (mvT hZ (hw _ (List.mem_of_getElem? (i := 10) rfl))) (by decide) (backOf (W := 1) (ct2 l Z aw hw [] b490 r478 kb478 x355 x357 h490 n0 Z496 A490 f497 f498 f499 gn493 f494 f480 (Ne.symm ne491)) hZ (hw _ (List.mem_of_getElem? (i := 10) rfl)) (hw _ (List.mem_of_getElem? (i := 7) rfl)) (by decide) (by decide)) (g := (mkF m 103 #[.val (.long q0), .second, .val (.long q1), .second, .val (.int p2), .val (.int p3), .val (.int p4), .val (.int x355), .val (.int x357), .val (.int x364), .val (.int x367), .val (.int x370), .val (.int (2 : Int32)), .val (.ref r478), .val (.ref r483), .unset, .unset, .unset] [(.ref r478), (.ref b490), (.ref b490)])) rfl (by rw [hml]; rfl) (Steps.refl _) (a := b490) (argsL := [(.ref r478)]) (rest := [(.ref b490)]) (lenOf pd_4 rfl) rfl (by show 2 * 0 + _ ≤ _; exact Nat.le_of_eq rfl) (hb hby at_103) (fun _ _ => ⟨rfl, e490, (by decide : 3 + 0 ≤ _), (by decide : 7 + 0 ≤ _)⟩)
    dsimp only [Pt.U, Pt.locs, Pt.cells, Pt.slots] at X500 l500 y500 z500 st500 hQ500
    subst l500 y500 z500
    obtain ⟨rfl, N500q, K500, f501, f502⟩ := hQ500
    have N500 := Fr.app N483 N500q
    have f503 := f494.keep K500 (ninS ne491 nin0)
    have f504 := f495.keep K500 (ninS ne492 nin0)
    have Z505 : n0 ≤ T500.heap.size := Nat.le_trans Z496 K500.1
    obtain ⟨T506, h506, X506, e506, E506, A506, D506, -, st506⟩ := newO X500 hx hZ hown (hw _ (List.mem_of_getElem? (i := 5) rfl)) (hw _ (List.mem_of_getElem? (i := 6) rfl)) (hw _ (List.mem_of_getElem? (i := 7) rfl)) rfl (g := (mkF m 108 #[.val (.long q0), .second, .val (.long q1), .second, .val (.int p2), .val (.int p3), .val (.int p4), .val (.int x355), .val (.int x357), .val (.int x364), .val (.int x367), .val (.int x370), .val (.int (2 : Int32)), .val (.ref r478), .val (.ref r483), .val (.ref b490), .unset, .unset] [])) rfl (hb hby at_108) (by decide) (by decide)
    obtain ⟨b506, g506⟩ : ∃ z, z = T500.heap.size := ⟨_, rfl⟩
    rw [← g506] at A506 D506 st506
    have ne507 : r478 ≠ b506 := Nat.ne_of_lt (Nat.lt_of_lt_of_le f503.lt (Nat.le_of_eq g506.symm))
    have ne508 : r483 ≠ b506 := Nat.ne_of_lt (Nat.lt_of_lt_of_le f504.lt (Nat.le_of_eq g506.symm))
    have ne509 : b490 ≠ b506 := Nat.ne_of_lt (Nat.lt_of_lt_of_le f501.lt (Nat.le_of_eq g506.symm))
    have gn510 : n0 ≤ b506 := Nat.le_trans Z505 (Nat.le_of_eq g506.symm)
    have f511 := f503.ext E506
    have f512 := f504.ext E506
    have f513 := f501.ext E506
    have f514 := f502.ext E506
    have Z515 : n0 ≤ h506.size := Nat.le_trans Z505 E506.1
    have f516 : Fld Z h506 b506 "com/example/enact/enact/net/Marking" "tokens" "[I" .null := D506 (Or.inr (hw _ (List.mem_of_getElem? (i := 15) rfl))) (ty := (.array .int)) (by decide)
    have f517 : Fld Z h506 b506 "com/example/enact/enact/net/Marking" "total" "J" (.long (0 : Int64)) := D506 (Or.inr (hw _ (List.mem_of_getElem? (i := 17) rfl))) (ty := .long) (by decide)
    have f518 : Fld Z h506 b506 "com/example/enact/enact/net/Marking" "hash" "I" (.int (0 : Int32)) := D506 (Or.inr (hw _ (List.mem_of_getElem? (i := 23) rfl))) (ty := .int) (by decide)
    obtain ⟨_, _, ⟨T519, L519, k519, n519⟩, -, X519, ⟨Lc519, hQ519, l519, y519, z519⟩, st519⟩ := X506.specialBack hx (y := (⟨"com/example/enact/enact/net/Marking", "<init>", "([I)V"⟩ : MethodName)) rfl hown (mvT hZ (hw _ (List.mem_of_getElem? (i := 8) rfl))) (mvT hZ (hw _ (List.mem_of_getElem? (i := 9) rfl))) (mvT hZ (hw _ (List.mem_of_getElem? (i := 10) rfl))) (by decide) (backOf (W := 1) (ct2 l Z aw hw [] b506 r483 kb483 x364 x367 h506 n0 Z515 A506 f516 f517 f518 gn510 f512 f485 (Ne.symm ne508)) hZ (hw _ (List.mem_of_getElem? (i := 10) rfl)) (hw _ (List.mem_of_getElem? (i := 7) rfl)) (by decide) (by decide)) (g := (mkF m 114 #[.val (.long q0), .second, .val (.long q1), .second, .val (.int p2), .val (.int p3), .val (.int p4), .val (.int x355), .val (.int x357), .val (.int x364), .val (.int x367), .val (.int x370), .val (.int (2 : Int32)), .val (.ref r478), .val (.ref r483), .val (.ref b490), .unset, .unset] [(.ref r483), (.ref b506), (.ref b506)])) rfl (by rw [hml]; rfl) (Steps.refl _) (a := b506) (argsL := [(.ref r483)]) (rest := [(.ref b506)]) (lenOf pd_4 rfl) rfl (by show 2 * 0 + _ ≤ _; exact Nat.le_of_eq rfl) (hb hby at_114) (fun _ _ => ⟨rfl, e506, (by decide : 4 + 0 ≤ _), (by decide : 10 + 0 ≤ _)⟩)
    dsimp only [Pt.U, Pt.locs, Pt.cells, Pt.slots] at X519 l519 y519 z519 st519 hQ519
    subst l519 y519 z519
    obtain ⟨rfl, N519q, K519, f520, f521⟩ := hQ519
    have N519 := Fr.app N500 N519q
    have f522 := f511.keep K519 (ninS ne507 nin0)
    have f523 := f512.keep K519 (ninS ne508 nin0)
    have f524 := f513.keep K519
    have f525 := f514.keep K519 (ninS ne509 nin0)
    have Z526 : n0 ≤ T519.heap.size := Nat.le_trans Z515 K519.1
    obtain ⟨x529, hx529⟩ : ∃ z : Int32, z = (if x355 < x364 then (0 : Int32) else (if x357 < x367 then (0 : Int32) else (1 : Int32))) := ⟨_, rfl⟩
    have pre530 : ∀ t, Steps p.tables e below (T519.setTop (mkF m 163 #[.val (.long q0), .second, .val (.long q1), .second, .val (.int p2), .val (.int p3), .val (.int p4), .val (.int x355), .val (.int x357), .val (.int x364), .val (.int x367), .val (.int x370), .val (.int (2 : Int32)), .val (.ref r478), .val (.ref r483), .val (.ref b490), .val (.ref b506), .unset] [(.int x529)])) t → Steps p.tables e below (s₁.setTop (entryFrame m #[(.long q0), (.long q1), (.int p2), (.int p3), (.int p4)] maxLocals)) t := fun t k => by
      refine pre373 t ?_
      show Steps p.tables e below (s₁.setTop (mkF m 71 #[.val (.long q0), .second, .val (.long q1), .second, .val (.int p2), .val (.int p3), .val (.int p4), .val (.int x355), .val (.int x357), .val (.int x364), .val (.int x367), .val (.int x370), .val (.int (2 : Int32)), .unset, .unset, .unset, .unset, .unset] [])) _
      refine XS.iload X0.here hx rfl (hb hby at_71) rfl ?_
      show Steps p.tables e below (s₁.setTop (mkF m 73 #[.val (.long q0), .second, .val (.long q1), .second, .val (.int p2), .val (.int p3), .val (.int p4), .val (.int x355), .val (.int x357), .val (.int x364), .val (.int x367), .val (.int x370), .val (.int (2 : Int32)), .unset, .unset, .unset, .unset, .unset] [(.int (2 : Int32))])) _
      refine XS.iload X0.here hx rfl (hb hby at_73) rfl ?_
      show Steps p.tables e below (s₁.setTop (mkF m 75 #[.val (.long q0), .second, .val (.long q1), .second, .val (.int p2), .val (.int p3), .val (.int p4), .val (.int x355), .val (.int x357), .val (.int x364), .val (.int x367), .val (.int x370), .val (.int (2 : Int32)), .unset, .unset, .unset, .unset, .unset] [(.int x355), (.int (2 : Int32))])) _
      refine XS.iload X0.here hx rfl (hb hby at_75) rfl ?_
      show Steps p.tables e below (s₁.setTop (mkF m 77 #[.val (.long q0), .second, .val (.long q1), .second, .val (.int p2), .val (.int p3), .val (.int p4), .val (.int x355), .val (.int x357), .val (.int x364), .val (.int x367), .val (.int x370), .val (.int (2 : Int32)), .unset, .unset, .unset, .unset, .unset] [(.int x357), (.int x355), (.int (2 : Int32))])) _
      refine XS.iload X0.here hx rfl (hb hby at_77) rfl ?_
      show Steps p.tables e below (s₁.setTop (mkF m 79 #[.val (.long q0), .second, .val (.long q1), .second, .val (.int p2), .val (.int p3), .val (.int p4), .val (.int x355), .val (.int x357), .val (.int x364), .val (.int x367), .val (.int x370), .val (.int (2 : Int32)), .unset, .unset, .unset, .unset, .unset] [(.int p2), (.int x357), (.int x355), (.int (2 : Int32))])) _
      refine st478 _ ?_
      show Steps p.tables e below (T478.setTop (mkF m 82 #[.val (.long q0), .second, .val (.long q1), .second, .val (.int p2), .val (.int p3), .val (.int p4), .val (.int x355), .val (.int x357), .val (.int x364), .val (.int x367), .val (.int x370), .val (.int (2 : Int32)), .unset, .unset, .unset, .unset, .unset] [(.ref r478)])) _
      refine XS.astore X478.here hx rfl (hb hby at_82) rfl rfl (l' := #[.val (.long q0), .second, .val (.long q1), .second, .val (.int p2), .val (.int p3), .val (.int p4), .val (.int x355), .val (.int x357), .val (.int x364), .val (.int x367), .val (.int x370), .val (.int (2 : Int32)), .val (.ref r478), .unset, .unset, .unset, .unset]) rfl ?_
      show Steps p.tables e below (T478.setTop (mkF m 84 #[.val (.long q0), .second, .val (.long q1), .second, .val (.int p2), .val (.int p3), .val (.int p4), .val (.int x355), .val (.int x357), .val (.int x364), .val (.int x367), .val (.int x370), .val (.int (2 : Int32)), .val (.ref r478), .unset, .unset, .unset, .unset] [])) _
      refine XS.iload X478.here hx rfl (hb hby at_84) rfl ?_
      show Steps p.tables e below (T478.setTop (mkF m 86 #[.val (.long q0), .second, .val (.long q1), .second, .val (.int p2), .val (.int p3), .val (.int p4), .val (.int x355), .val (.int x357), .val (.int x364), .val (.int x367), .val (.int x370), .val (.int (2 : Int32)), .val (.ref r478), .unset, .unset, .unset, .unset] [(.int (2 : Int32))])) _
      refine XS.iload X478.here hx rfl (hb hby at_86) rfl ?_
      show Steps p.tables e below (T478.setTop (mkF m 88 #[.val (.long q0), .second, .val (.long q1), .second, .val (.int p2), .val (.int p3), .val (.int p4), .val (.int x355), .val (.int x357), .val (.int x364), .val (.int x367), .val (.int x370), .val (.int (2 : Int32)), .val (.ref r478), .unset, .unset, .unset, .unset] [(.int x364), (.int (2 : Int32))])) _
      refine XS.iload X478.here hx rfl (hb hby at_88) rfl ?_
      show Steps p.tables e below (T478.setTop (mkF m 90 #[.val (.long q0), .second, .val (.long q1), .second, .val (.int p2), .val (.int p3), .val (.int p4), .val (.int x355), .val (.int x357), .val (.int x364), .val (.int x367), .val (.int x370), .val (.int (2 : Int32)), .val (.ref r478), .unset, .unset, .unset, .unset] [(.int x367), (.int x364), (.int (2 : Int32))])) _
      refine XS.iload X478.here hx rfl (hb hby at_90) rfl ?_
      show Steps p.tables e below (T478.setTop (mkF m 92 #[.val (.long q0), .second, .val (.long q1), .second, .val (.int p2), .val (.int p3), .val (.int p4), .val (.int x355), .val (.int x357), .val (.int x364), .val (.int x367), .val (.int x370), .val (.int (2 : Int32)), .val (.ref r478), .unset, .unset, .unset, .unset] [(.int x370), (.int x367), (.int x364), (.int (2 : Int32))])) _
      refine st483 _ ?_
      show Steps p.tables e below (T483.setTop (mkF m 95 #[.val (.long q0), .second, .val (.long q1), .second, .val (.int p2), .val (.int p3), .val (.int p4), .val (.int x355), .val (.int x357), .val (.int x364), .val (.int x367), .val (.int x370), .val (.int (2 : Int32)), .val (.ref r478), .unset, .unset, .unset, .unset] [(.ref r483)])) _
      refine XS.astore X483.here hx rfl (hb hby at_95) rfl rfl (l' := #[.val (.long q0), .second, .val (.long q1), .second, .val (.int p2), .val (.int p3), .val (.int p4), .val (.int x355), .val (.int x357), .val (.int x364), .val (.int x367), .val (.int x370), .val (.int (2 : Int32)), .val (.ref r478), .val (.ref r483), .unset, .unset, .unset]) rfl ?_
      show Steps p.tables e below (T483.setTop (mkF m 97 #[.val (.long q0), .second, .val (.long q1), .second, .val (.int p2), .val (.int p3), .val (.int p4), .val (.int x355), .val (.int x357), .val (.int x364), .val (.int x367), .val (.int x370), .val (.int (2 : Int32)), .val (.ref r478), .val (.ref r483), .unset, .unset, .unset] [])) _
      refine st490 _ ?_
      show Steps p.tables e below (T490.setTop (mkF m 100 #[.val (.long q0), .second, .val (.long q1), .second, .val (.int p2), .val (.int p3), .val (.int p4), .val (.int x355), .val (.int x357), .val (.int x364), .val (.int x367), .val (.int x370), .val (.int (2 : Int32)), .val (.ref r478), .val (.ref r483), .unset, .unset, .unset] [(.ref b490)])) _
      refine XS.dup X490.here hx rfl (hb hby at_100) rfl rfl ?_
      show Steps p.tables e below (T490.setTop (mkF m 101 #[.val (.long q0), .second, .val (.long q1), .second, .val (.int p2), .val (.int p3), .val (.int p4), .val (.int x355), .val (.int x357), .val (.int x364), .val (.int x367), .val (.int x370), .val (.int (2 : Int32)), .val (.ref r478), .val (.ref r483), .unset, .unset, .unset] [(.ref b490), (.ref b490)])) _
      refine XS.aload X490.here hx rfl (hb hby at_101) rfl rfl ?_
      show Steps p.tables e below (T490.setTop (mkF m 103 #[.val (.long q0), .second, .val (.long q1), .second, .val (.int p2), .val (.int p3), .val (.int p4), .val (.int x355), .val (.int x357), .val (.int x364), .val (.int x367), .val (.int x370), .val (.int (2 : Int32)), .val (.ref r478), .val (.ref r483), .unset, .unset, .unset] [(.ref r478), (.ref b490), (.ref b490)])) _
      refine st500.trans ?_
      show Steps p.tables e below (T500.setTop (mkF m 106 #[.val (.long q0), .second, .val (.long q1), .second, .val (.int p2), .val (.int p3), .val (.int p4), .val (.int x355), .val (.int x357), .val (.int x364), .val (.int x367), .val (.int x370), .val (.int (2 : Int32)), .val (.ref r478), .val (.ref r483), .unset, .unset, .unset] [(.ref b490)])) _
      refine XS.astore X500.here hx rfl (hb hby at_106) rfl rfl (l' := #[.val (.long q0), .second, .val (.long q1), .second, .val (.int p2), .val (.int p3), .val (.int p4), .val (.int x355), .val (.int x357), .val (.int x364), .val (.int x367), .val (.int x370), .val (.int (2 : Int32)), .val (.ref r478), .val (.ref r483), .val (.ref b490), .unset, .unset]) rfl ?_
      show Steps p.tables e below (T500.setTop (mkF m 108 #[.val (.long q0), .second, .val (.long q1), .second, .val (.int p2), .val (.int p3), .val (.int p4), .val (.int x355), .val (.int x357), .val (.int x364), .val (.int x367), .val (.int x370), .val (.int (2 : Int32)), .val (.ref r478), .val (.ref r483), .val (.ref b490), .unset, .unset] [])) _
      refine st506 _ ?_
      show Steps p.tables e below (T506.setTop (mkF m 111 #[.val (.long q0), .second, .val (.long q1), .second, .val (.int p2), .val (.int p3), .val (.int p4), .val (.int x355), .val (.int x357), .val (.int x364), .val (.int x367), .val (.int x370), .val (.int (2 : Int32)), .val (.ref r478), .val (.ref r483), .val (.ref b490), .unset, .unset] [(.ref b506)])) _
      refine XS.dup X506.here hx rfl (hb hby at_111) rfl rfl ?_
      show Steps p.tables e below (T506.setTop (mkF m 112 #[.val (.long q0), .second, .val (.long q1), .second, .val (.int p2), .val (.int p3), .val (.int p4), .val (.int x355), .val (.int x357), .val (.int x364), .val (.int x367), .val (.int x370), .val (.int (2 : Int32)), .val (.ref r478), .val (.ref r483), .val (.ref b490), .unset, .unset] [(.ref b506), (.ref b506)])) _
      refine XS.aload X506.here hx rfl (hb hby at_112) rfl rfl ?_
      show Steps p.tables e below (T506.setTop (mkF m 114 #[.val (.long q0), .second, .val (.long q1), .second, .val (.int p2), .val (.int p3), .val (.int p4), .val (.int x355), .val (.int x357), .val (.int x364), .val (.int x367), .val (.int x370), .val (.int (2 : Int32)), .val (.ref r478), .val (.ref r483), .val (.ref b490), .unset, .unset] [(.ref r483), (.ref b506), (.ref b506)])) _
      refine st519.trans ?_
      show Steps p.tables e below (T519.setTop (mkF m 117 #[.val (.long q0), .second, .val (.long q1), .second, .val (.int p2), .val (.int p3), .val (.int p4), .val (.int x355), .val (.int x357), .val (.int x364), .val (.int x367), .val (.int x370), .val (.int (2 : Int32)), .val (.ref r478), .val (.ref r483), .val (.ref b490), .unset, .unset] [(.ref b506)])) _
      refine XS.astore X519.here hx rfl (hb hby at_117) rfl rfl (l' := #[.val (.long q0), .second, .val (.long q1), .second, .val (.int p2), .val (.int p3), .val (.int p4), .val (.int x355), .val (.int x357), .val (.int x364), .val (.int x367), .val (.int x370), .val (.int (2 : Int32)), .val (.ref r478), .val (.ref r483), .val (.ref b490), .val (.ref b506), .unset]) rfl ?_
      show Steps p.tables e below (T519.setTop (mkF m 119 #[.val (.long q0), .second, .val (.long q1), .second, .val (.int p2), .val (.int p3), .val (.int p4), .val (.int x355), .val (.int x357), .val (.int x364), .val (.int x367), .val (.int x370), .val (.int (2 : Int32)), .val (.ref r478), .val (.ref r483), .val (.ref b490), .val (.ref b506), .unset] [])) _
      refine XS.iload X519.here hx rfl (hb hby at_119) rfl ?_
      show Steps p.tables e below (T519.setTop (mkF m 121 #[.val (.long q0), .second, .val (.long q1), .second, .val (.int p2), .val (.int p3), .val (.int p4), .val (.int x355), .val (.int x357), .val (.int x364), .val (.int x367), .val (.int x370), .val (.int (2 : Int32)), .val (.ref r478), .val (.ref r483), .val (.ref b490), .val (.ref b506), .unset] [(.int (2 : Int32))])) _
      refine XS.iconst X519.here hx rfl (hb hby at_121) ?_
      show Steps p.tables e below (T519.setTop (mkF m 122 #[.val (.long q0), .second, .val (.long q1), .second, .val (.int p2), .val (.int p3), .val (.int p4), .val (.int x355), .val (.int x357), .val (.int x364), .val (.int x367), .val (.int x370), .val (.int (2 : Int32)), .val (.ref r478), .val (.ref r483), .val (.ref b490), .val (.ref b506), .unset] [(.int (1 : Int32)), (.int (2 : Int32))])) _
      refine XS.icmpNo X519.here hx rfl (hb hby at_122) rfl (flt (by decide)).1 ?_
      show Steps p.tables e below (T519.setTop (mkF m 125 #[.val (.long q0), .second, .val (.long q1), .second, .val (.int p2), .val (.int p3), .val (.int p4), .val (.int x355), .val (.int x357), .val (.int x364), .val (.int x367), .val (.int x370), .val (.int (2 : Int32)), .val (.ref r478), .val (.ref r483), .val (.ref b490), .val (.ref b506), .unset] [])) _
      refine XS.iload X519.here hx rfl (hb hby at_125) rfl ?_
      show Steps p.tables e below (T519.setTop (mkF m 127 #[.val (.long q0), .second, .val (.long q1), .second, .val (.int p2), .val (.int p3), .val (.int p4), .val (.int x355), .val (.int x357), .val (.int x364), .val (.int x367), .val (.int x370), .val (.int (2 : Int32)), .val (.ref r478), .val (.ref r483), .val (.ref b490), .val (.ref b506), .unset] [(.int x355)])) _
      refine XS.iload X519.here hx rfl (hb hby at_127) rfl ?_
      by_cases c527 : x355 < x364
      ·
        show Steps p.tables e below (T519.setTop (mkF m 129 #[.val (.long q0), .second, .val (.long q1), .second, .val (.int p2), .val (.int p3), .val (.int p4), .val (.int x355), .val (.int x357), .val (.int x364), .val (.int x367), .val (.int x370), .val (.int (2 : Int32)), .val (.ref r478), .val (.ref r483), .val (.ref b490), .val (.ref b506), .unset] [(.int x364), (.int x355)])) _
        refine XS.icmpYes X519.here hx rfl (pc0 := 129) (pc' := 162) rfl (hb hby at_129) rfl (tlt c527).1 (by decide) (by decide) ?_
        show Steps p.tables e below (T519.setTop (mkF m 162 #[.val (.long q0), .second, .val (.long q1), .second, .val (.int p2), .val (.int p3), .val (.int p4), .val (.int x355), .val (.int x357), .val (.int x364), .val (.int x367), .val (.int x370), .val (.int (2 : Int32)), .val (.ref r478), .val (.ref r483), .val (.ref b490), .val (.ref b506), .unset] [])) _
        refine XS.iconst X519.here hx rfl (hb hby at_162) ?_
        rw [show x529 = (0 : Int32) from hx529.trans (by simp only [if_pos c527])] at k
        exact k
      ·
        show Steps p.tables e below (T519.setTop (mkF m 129 #[.val (.long q0), .second, .val (.long q1), .second, .val (.int p2), .val (.int p3), .val (.int p4), .val (.int x355), .val (.int x357), .val (.int x364), .val (.int x367), .val (.int x370), .val (.int (2 : Int32)), .val (.ref r478), .val (.ref r483), .val (.ref b490), .val (.ref b506), .unset] [(.int x364), (.int x355)])) _
        refine XS.icmpNo X519.here hx rfl (hb hby at_129) rfl (flt c527).1 ?_
        show Steps p.tables e below (T519.setTop (mkF m 132 #[.val (.long q0), .second, .val (.long q1), .second, .val (.int p2), .val (.int p3), .val (.int p4), .val (.int x355), .val (.int x357), .val (.int x364), .val (.int x367), .val (.int x370), .val (.int (2 : Int32)), .val (.ref r478), .val (.ref r483), .val (.ref b490), .val (.ref b506), .unset] [])) _
        refine XS.iload X519.here hx rfl (hb hby at_132) rfl ?_
        show Steps p.tables e below (T519.setTop (mkF m 134 #[.val (.long q0), .second, .val (.long q1), .second, .val (.int p2), .val (.int p3), .val (.int p4), .val (.int x355), .val (.int x357), .val (.int x364), .val (.int x367), .val (.int x370), .val (.int (2 : Int32)), .val (.ref r478), .val (.ref r483), .val (.ref b490), .val (.ref b506), .unset] [(.int (2 : Int32))])) _
        refine XS.iconst X519.here hx rfl (hb hby at_134) ?_
        show Steps p.tables e below (T519.setTop (mkF m 135 #[.val (.long q0), .second, .val (.long q1), .second, .val (.int p2), .val (.int p3), .val (.int p4), .val (.int x355), .val (.int x357), .val (.int x364), .val (.int x367), .val (.int x370), .val (.int (2 : Int32)), .val (.ref r478), .val (.ref r483), .val (.ref b490), .val (.ref b506), .unset] [(.int (2 : Int32)), (.int (2 : Int32))])) _
        refine XS.icmpNo X519.here hx rfl (hb hby at_135) rfl (flt (by decide)).1 ?_
        show Steps p.tables e below (T519.setTop (mkF m 138 #[.val (.long q0), .second, .val (.long q1), .second, .val (.int p2), .val (.int p3), .val (.int p4), .val (.int x355), .val (.int x357), .val (.int x364), .val (.int x367), .val (.int x370), .val (.int (2 : Int32)), .val (.ref r478), .val (.ref r483), .val (.ref b490), .val (.ref b506), .unset] [])) _
        refine XS.iload X519.here hx rfl (hb hby at_138) rfl ?_
        show Steps p.tables e below (T519.setTop (mkF m 140 #[.val (.long q0), .second, .val (.long q1), .second, .val (.int p2), .val (.int p3), .val (.int p4), .val (.int x355), .val (.int x357), .val (.int x364), .val (.int x367), .val (.int x370), .val (.int (2 : Int32)), .val (.ref r478), .val (.ref r483), .val (.ref b490), .val (.ref b506), .unset] [(.int x357)])) _
        refine XS.iload X519.here hx rfl (hb hby at_140) rfl ?_
        by_cases c528 : x357 < x367
        ·
          show Steps p.tables e below (T519.setTop (mkF m 142 #[.val (.long q0), .second, .val (.long q1), .second, .val (.int p2), .val (.int p3), .val (.int p4), .val (.int x355), .val (.int x357), .val (.int x364), .val (.int x367), .val (.int x370), .val (.int (2 : Int32)), .val (.ref r478), .val (.ref r483), .val (.ref b490), .val (.ref b506), .unset] [(.int x367), (.int x357)])) _
          refine XS.icmpYes X519.here hx rfl (pc0 := 142) (pc' := 162) rfl (hb hby at_142) rfl (tlt c528).1 (by decide) (by decide) ?_
          show Steps p.tables e below (T519.setTop (mkF m 162 #[.val (.long q0), .second, .val (.long q1), .second, .val (.int p2), .val (.int p3), .val (.int p4), .val (.int x355), .val (.int x357), .val (.int x364), .val (.int x367), .val (.int x370), .val (.int (2 : Int32)), .val (.ref r478), .val (.ref r483), .val (.ref b490), .val (.ref b506), .unset] [])) _
          refine XS.iconst X519.here hx rfl (hb hby at_162) ?_
          rw [show x529 = (0 : Int32) from hx529.trans (by simp only [if_neg c527, if_pos c528])] at k
          exact k
        ·
          show Steps p.tables e below (T519.setTop (mkF m 142 #[.val (.long q0), .second, .val (.long q1), .second, .val (.int p2), .val (.int p3), .val (.int p4), .val (.int x355), .val (.int x357), .val (.int x364), .val (.int x367), .val (.int x370), .val (.int (2 : Int32)), .val (.ref r478), .val (.ref r483), .val (.ref b490), .val (.ref b506), .unset] [(.int x367), (.int x357)])) _
          refine XS.icmpNo X519.here hx rfl (hb hby at_142) rfl (flt c528).1 ?_
          show Steps p.tables e below (T519.setTop (mkF m 145 #[.val (.long q0), .second, .val (.long q1), .second, .val (.int p2), .val (.int p3), .val (.int p4), .val (.int x355), .val (.int x357), .val (.int x364), .val (.int x367), .val (.int x370), .val (.int (2 : Int32)), .val (.ref r478), .val (.ref r483), .val (.ref b490), .val (.ref b506), .unset] [])) _
          refine XS.iload X519.here hx rfl (hb hby at_145) rfl ?_
          show Steps p.tables e below (T519.setTop (mkF m 147 #[.val (.long q0), .second, .val (.long q1), .second, .val (.int p2), .val (.int p3), .val (.int p4), .val (.int x355), .val (.int x357), .val (.int x364), .val (.int x367), .val (.int x370), .val (.int (2 : Int32)), .val (.ref r478), .val (.ref r483), .val (.ref b490), .val (.ref b506), .unset] [(.int (2 : Int32))])) _
          refine XS.iconst X519.here hx rfl (hb hby at_147) ?_
          show Steps p.tables e below (T519.setTop (mkF m 148 #[.val (.long q0), .second, .val (.long q1), .second, .val (.int p2), .val (.int p3), .val (.int p4), .val (.int x355), .val (.int x357), .val (.int x364), .val (.int x367), .val (.int x370), .val (.int (2 : Int32)), .val (.ref r478), .val (.ref r483), .val (.ref b490), .val (.ref b506), .unset] [(.int (3 : Int32)), (.int (2 : Int32))])) _
          refine XS.icmpYes X519.here hx rfl (pc0 := 148) (pc' := 158) rfl (hb hby at_148) rfl (tlt (by decide)).1 (by decide) (by decide) ?_
          show Steps p.tables e below (T519.setTop (mkF m 158 #[.val (.long q0), .second, .val (.long q1), .second, .val (.int p2), .val (.int p3), .val (.int p4), .val (.int x355), .val (.int x357), .val (.int x364), .val (.int x367), .val (.int x370), .val (.int (2 : Int32)), .val (.ref r478), .val (.ref r483), .val (.ref b490), .val (.ref b506), .unset] [])) _
          refine XS.iconst X519.here hx rfl (hb hby at_158) ?_
          show Steps p.tables e below (T519.setTop (mkF m 159 #[.val (.long q0), .second, .val (.long q1), .second, .val (.int p2), .val (.int p3), .val (.int p4), .val (.int x355), .val (.int x357), .val (.int x364), .val (.int x367), .val (.int x370), .val (.int (2 : Int32)), .val (.ref r478), .val (.ref r483), .val (.ref b490), .val (.ref b506), .unset] [(.int (1 : Int32))])) _
          refine XS.goto X519.here hx rfl (pc0 := 159) (pc' := 163) rfl (hb hby at_159) (by decide) (by decide) ?_
          rw [show x529 = (1 : Int32) from hx529.trans (by simp only [if_neg c527, if_neg c528])] at k
          exact k
    obtain ⟨cq531, kq531, q531a, q531b, q531c⟩ := isOf hZ rfl f524
    obtain ⟨_, _, ⟨T531, L531, k531, n531⟩, -, X531, ⟨Lc531, hQ531, l531, y531, z531⟩, st531⟩ := X519.virtualBack hx (y := (⟨"com/example/enact/enact/net/Marking", "covers", "(Lcom/example/enact/enact/net/Marking;)Z"⟩ : MethodName)) (z := (⟨"com/example/enact/enact/net/Marking", "covers", "(Lcom/example/enact/enact/net/Marking;)Z"⟩ : MethodName)) hown (mvT hZ (hw _ (List.mem_of_getElem? (i := 24) rfl))) (mvT hZ (hw _ (List.mem_of_getElem? (i := 25) rfl))) (notFace_of_selects (args := #[]) (mvT hZ (hw _ (List.mem_of_getElem? (i := 27) rfl)))) (mvT hZ (hw _ (List.mem_of_getElem? (i := 27) rfl))) (mvT hZ (hw _ (List.mem_of_getElem? (i := 26) rfl))) (by decide) (backOf (W := 0) (cv2 l Z aw hw [] b490 b506 r478 kb478 x355 x357 r483 kb483 x364 x367 T519.heap n0 Z526 f525 f522 f521 f523) hZ (hw _ (List.mem_of_getElem? (i := 28) rfl)) (hw _ (List.mem_of_getElem? (i := 7) rfl)) (by decide) (by decide)) q531a q531c (g := (mkF m 169 #[.val (.long q0), .second, .val (.long q1), .second, .val (.int p2), .val (.int p3), .val (.int p4), .val (.int x355), .val (.int x357), .val (.int x364), .val (.int x367), .val (.int x370), .val (.int (2 : Int32)), .val (.ref r478), .val (.ref r483), .val (.ref b490), .val (.ref b506), .val (.int x529)] [(.ref b506), (.ref b490)])) rfl (by rw [hml]; rfl) (Steps.refl _) (argsL := [(.ref b506)]) (rest := []) (lenOf pd_5 rfl) rfl (by show 2 * 0 + _ ≤ _; exact Nat.le_of_eq rfl) (hb hby at_169) (fun _ _ => ⟨rfl, rfl, (by decide : 4 + 0 ≤ _), (by decide : 10 + 0 ≤ _)⟩)
    dsimp only [Pt.U, Pt.locs, Pt.cells, Pt.slots] at X531 l531 y531 z531 st531 hQ531
    subst l531 y531 z531
    obtain ⟨rfl, N531q, e531⟩ := hQ531
    have N531 := Fr.app N519 N531q
    have c532 : (if x355 < x364 then (0 : Int32) else (if x357 < x367 then (0 : Int32) else (1 : Int32))) = x529 := by
      exact hx529.symm
    obtain ⟨fs, hr, hrun, hended, hW, hsame⟩ := X531.leave (v := some (.int (1 : Int32))) (fun h => by rw [Bd.returns] at h; cases h)
    refine ⟨_, _, pre530 _ ?_, hrun, hended, _, _, rfl, ?_, ⟨_, rfl⟩, hW, hsame.mono (by decide) (by decide)⟩
    ·
      show Steps p.tables e below (T519.setTop (mkF m 163 #[.val (.long q0), .second, .val (.long q1), .second, .val (.int p2), .val (.int p3), .val (.int p4), .val (.int x355), .val (.int x357), .val (.int x364), .val (.int x367), .val (.int x370), .val (.int (2 : Int32)), .val (.ref r478), .val (.ref r483), .val (.ref b490), .val (.ref b506), .unset] [(.int x529)])) _
      refine XS.istore X519.here hx rfl (hb hby at_163) rfl (l' := #[.val (.long q0), .second, .val (.long q1), .second, .val (.int p2), .val (.int p3), .val (.int p4), .val (.int x355), .val (.int x357), .val (.int x364), .val (.int x367), .val (.int x370), .val (.int (2 : Int32)), .val (.ref r478), .val (.ref r483), .val (.ref b490), .val (.ref b506), .val (.int x529)]) rfl ?_
      show Steps p.tables e below (T519.setTop (mkF m 165 #[.val (.long q0), .second, .val (.long q1), .second, .val (.int p2), .val (.int p3), .val (.int p4), .val (.int x355), .val (.int x357), .val (.int x364), .val (.int x367), .val (.int x370), .val (.int (2 : Int32)), .val (.ref r478), .val (.ref r483), .val (.ref b490), .val (.ref b506), .val (.int x529)] [])) _
      refine XS.aload X519.here hx rfl (hb hby at_165) rfl rfl ?_
      show Steps p.tables e below (T519.setTop (mkF m 167 #[.val (.long q0), .second, .val (.long q1), .second, .val (.int p2), .val (.int p3), .val (.int p4), .val (.int x355), .val (.int x357), .val (.int x364), .val (.int x367), .val (.int x370), .val (.int (2 : Int32)), .val (.ref r478), .val (.ref r483), .val (.ref b490), .val (.ref b506), .val (.int x529)] [(.ref b490)])) _
      refine XS.aload X519.here hx rfl (hb hby at_167) rfl rfl ?_
      show Steps p.tables e below (T519.setTop (mkF m 169 #[.val (.long q0), .second, .val (.long q1), .second, .val (.int p2), .val (.int p3), .val (.int p4), .val (.int x355), .val (.int x357), .val (.int x364), .val (.int x367), .val (.int x370), .val (.int (2 : Int32)), .val (.ref r478), .val (.ref r483), .val (.ref b490), .val (.ref b506), .val (.int x529)] [(.ref b506), (.ref b490)])) _
      refine st531.trans ?_
      show Steps p.tables e below (T531.setTop (mkF m 172 #[.val (.long q0), .second, .val (.long q1), .second, .val (.int p2), .val (.int p3), .val (.int p4), .val (.int x355), .val (.int x357), .val (.int x364), .val (.int x367), .val (.int x370), .val (.int (2 : Int32)), .val (.ref r478), .val (.ref r483), .val (.ref b490), .val (.ref b506), .val (.int x529)] [(.int (if x355 < x364 then (0 : Int32) else (if x357 < x367 then (0 : Int32) else (1 : Int32))))])) _
      refine XS.iload X531.here hx rfl (hb hby at_172) rfl ?_
      show Steps p.tables e below (T531.setTop (mkF m 174 #[.val (.long q0), .second, .val (.long q1), .second, .val (.int p2), .val (.int p3), .val (.int p4), .val (.int x355), .val (.int x357), .val (.int x364), .val (.int x367), .val (.int x370), .val (.int (2 : Int32)), .val (.ref r478), .val (.ref r483), .val (.ref b490), .val (.ref b506), .val (.int x529)] [(.int x529), (.int (if x355 < x364 then (0 : Int32) else (if x357 < x367 then (0 : Int32) else (1 : Int32))))])) _
      refine XS.icmpNo X531.here hx rfl (hb hby at_174) rfl (teq c532).2 ?_
      show Steps p.tables e below (T531.setTop (mkF m 177 #[.val (.long q0), .second, .val (.long q1), .second, .val (.int p2), .val (.int p3), .val (.int p4), .val (.int x355), .val (.int x357), .val (.int x364), .val (.int x367), .val (.int x370), .val (.int (2 : Int32)), .val (.ref r478), .val (.ref r483), .val (.ref b490), .val (.ref b506), .val (.int x529)] [])) _
      refine XS.iconst X531.here hx rfl (hb hby at_177) ?_
      show Steps p.tables e below (T531.setTop (mkF m 178 #[.val (.long q0), .second, .val (.long q1), .second, .val (.int p2), .val (.int p3), .val (.int p4), .val (.int x355), .val (.int x357), .val (.int x364), .val (.int x367), .val (.int x370), .val (.int (2 : Int32)), .val (.ref r478), .val (.ref r483), .val (.ref b490), .val (.ref b506), .val (.int x529)] [(.int (1 : Int32))])) _
      refine XS.goto X531.here hx rfl (pc0 := 178) (pc' := 182) rfl (hb hby at_178) (by decide) (by decide) ?_
      show Steps p.tables e below (T531.setTop (mkF m 182 #[.val (.long q0), .second, .val (.long q1), .second, .val (.int p2), .val (.int p3), .val (.int p4), .val (.int x355), .val (.int x357), .val (.int x364), .val (.int x367), .val (.int x370), .val (.int (2 : Int32)), .val (.ref r478), .val (.ref r483), .val (.ref b490), .val (.ref b506), .val (.int x529)] [(.int (1 : Int32))])) _
      exact retZ X531 hx Bd.returns (by decide) (hb hby at_182) hr
    ·
      show Q_rm0 Z q0 q1 p2 p3 p4 h0 n0 _ T531.heap _
      rw [e531]
      exact ⟨rfl, N531⟩
  ·
    obtain rfl : x372 = (3 : Int32) := hx372.trans q
    obtain ⟨_, _, ⟨T533, L533, k533, n533⟩, -, X533, ⟨Lc533, hQ533, l533, y533, z533⟩, st533⟩ := Jvm.LawKit.callS X0 hx (y := (⟨"com/example/enact/enact/net/MarkingCoversPinLaw", "make", "(IIII)[I"⟩ : MethodName)) hown (mvT hZ (hw _ (List.mem_of_getElem? (i := 0) rfl))) (mvT hZ (hw _ (List.mem_of_getElem? (i := 1) rfl))) (mvT hZ (hw _ (List.mem_of_getElem? (i := 2) rfl))) (mvT hZ (hw _ (List.mem_of_getElem? (i := 3) rfl))) (by decide) (backOf (W := 0) (mk3 l Z aw hw [] x355 x357 p2 h0 n0 Z0) hZ (hw _ (List.mem_of_getElem? (i := 3) rfl)) (hw _ (List.mem_of_getElem? (i := 2) rfl)) (by decide) (by decide)) (g := (mkF m 79 #[.val (.long q0), .second, .val (.long q1), .second, .val (.int p2), .val (.int p3), .val (.int p4), .val (.int x355), .val (.int x357), .val (.int x364), .val (.int x367), .val (.int x370), .val (.int (3 : Int32)), .unset, .unset, .unset, .unset, .unset] [(.int p2), (.int x357), (.int x355), (.int (3 : Int32))])) rfl (by rw [hml]; rfl) (argsL := [(.int (3 : Int32)), (.int x355), (.int x357), (.int p2)]) (rest := []) (lenOf pd_3 rfl) rfl (by show 2 * 0 + _ ≤ _; exact Nat.le_of_eq rfl) (hb hby at_79) (fun _ _ => ⟨rfl, e0, (by decide : 0 + 1 ≤ _), (by decide : 0 + 3 ≤ _)⟩)
    dsimp only [Pt.U, Pt.locs, Pt.cells, Pt.slots] at X533 l533 y533 z533 st533 hQ533
    subst l533 y533 z533
    obtain ⟨r533, kb533, rfl, N533q, K533, sz533, f534, f535⟩ := hQ533
    have N533 := Fr.app N0 N533q
    have gn536 : n0 ≤ r533 := Nat.le_trans Z0 sz533
    have Z537 : n0 ≤ T533.heap.size := Nat.le_trans Z0 K533.1
    obtain ⟨_, _, ⟨T538, L538, k538, n538⟩, -, X538, ⟨Lc538, hQ538, l538, y538, z538⟩, st538⟩ := Jvm.LawKit.callS X533 hx (y := (⟨"com/example/enact/enact/net/MarkingCoversPinLaw", "make", "(IIII)[I"⟩ : MethodName)) hown (mvT hZ (hw _ (List.mem_of_getElem? (i := 0) rfl))) (mvT hZ (hw _ (List.mem_of_getElem? (i := 1) rfl))) (mvT hZ (hw _ (List.mem_of_getElem? (i := 2) rfl))) (mvT hZ (hw _ (List.mem_of_getElem? (i := 3) rfl))) (by decide) (backOf (W := 0) (mk3 l Z aw hw [] x364 x367 x370 T533.heap n0 Z537) hZ (hw _ (List.mem_of_getElem? (i := 3) rfl)) (hw _ (List.mem_of_getElem? (i := 2) rfl)) (by decide) (by decide)) (g := (mkF m 92 #[.val (.long q0), .second, .val (.long q1), .second, .val (.int p2), .val (.int p3), .val (.int p4), .val (.int x355), .val (.int x357), .val (.int x364), .val (.int x367), .val (.int x370), .val (.int (3 : Int32)), .val (.ref r533), .unset, .unset, .unset, .unset] [(.int x370), (.int x367), (.int x364), (.int (3 : Int32))])) rfl (by rw [hml]; rfl) (argsL := [(.int (3 : Int32)), (.int x364), (.int x367), (.int x370)]) (rest := []) (lenOf pd_3 rfl) rfl (by show 2 * 0 + _ ≤ _; exact Nat.le_of_eq rfl) (hb hby at_92) (fun _ _ => ⟨rfl, rfl, (by decide : 1 + 1 ≤ _), (by decide : 3 + 3 ≤ _)⟩)
    dsimp only [Pt.U, Pt.locs, Pt.cells, Pt.slots] at X538 l538 y538 z538 st538 hQ538
    subst l538 y538 z538
    obtain ⟨r538, kb538, rfl, N538q, K538, sz538, f539, f540⟩ := hQ538
    have N538 := Fr.app N533 N538q
    have ne541 : r533 ≠ r538 := Nat.ne_of_lt (Nat.lt_of_lt_of_le f534.lt sz538)
    have gn542 : n0 ≤ r538 := Nat.le_trans Z537 sz538
    have f543 := f534.keep K538 nin0
    have Z544 : n0 ≤ T538.heap.size := Nat.le_trans Z537 K538.1
    obtain ⟨T545, h545, X545, e545, E545, A545, D545, -, st545⟩ := newO X538 hx hZ hown (hw _ (List.mem_of_getElem? (i := 5) rfl)) (hw _ (List.mem_of_getElem? (i := 6) rfl)) (hw _ (List.mem_of_getElem? (i := 7) rfl)) rfl (g := (mkF m 97 #[.val (.long q0), .second, .val (.long q1), .second, .val (.int p2), .val (.int p3), .val (.int p4), .val (.int x355), .val (.int x357), .val (.int x364), .val (.int x367), .val (.int x370), .val (.int (3 : Int32)), .val (.ref r533), .val (.ref r538), .unset, .unset, .unset] [])) rfl (hb hby at_97) (by decide) (by decide)
    obtain ⟨b545, g545⟩ : ∃ z, z = T538.heap.size := ⟨_, rfl⟩
    rw [← g545] at A545 D545 st545
    have ne546 : r533 ≠ b545 := Nat.ne_of_lt (Nat.lt_of_lt_of_le f543.lt (Nat.le_of_eq g545.symm))
    have ne547 : r538 ≠ b545 := Nat.ne_of_lt (Nat.lt_of_lt_of_le f539.lt (Nat.le_of_eq g545.symm))
    have gn548 : n0 ≤ b545 := Nat.le_trans Z544 (Nat.le_of_eq g545.symm)
    have f549 := f543.ext E545
    have f550 := f539.ext E545
    have Z551 : n0 ≤ h545.size := Nat.le_trans Z544 E545.1
    have f552 : Fld Z h545 b545 "com/example/enact/enact/net/Marking" "tokens" "[I" .null := D545 (Or.inr (hw _ (List.mem_of_getElem? (i := 15) rfl))) (ty := (.array .int)) (by decide)
    have f553 : Fld Z h545 b545 "com/example/enact/enact/net/Marking" "total" "J" (.long (0 : Int64)) := D545 (Or.inr (hw _ (List.mem_of_getElem? (i := 17) rfl))) (ty := .long) (by decide)
    have f554 : Fld Z h545 b545 "com/example/enact/enact/net/Marking" "hash" "I" (.int (0 : Int32)) := D545 (Or.inr (hw _ (List.mem_of_getElem? (i := 23) rfl))) (ty := .int) (by decide)
    obtain ⟨_, _, ⟨T555, L555, k555, n555⟩, -, X555, ⟨Lc555, hQ555, l555, y555, z555⟩, st555⟩ := X545.specialBack hx (y := (⟨"com/example/enact/enact/net/Marking", "<init>", "([I)V"⟩ : MethodName)) rfl hown (mvT hZ (hw _ (List.mem_of_getElem? (i := 8) rfl))) (mvT hZ (hw _ (List.mem_of_getElem? (i := 9) rfl))) (mvT hZ (hw _ (List.mem_of_getElem? (i := 10) rfl))) (by decide) (backOf (W := 1) (ct3 l Z aw hw [] b545 r533 kb533 x355 x357 p2 h545 n0 Z551 A545 f552 f553 f554 gn548 f549 f535 (Ne.symm ne546)) hZ (hw _ (List.mem_of_getElem? (i := 10) rfl)) (hw _ (List.mem_of_getElem? (i := 7) rfl)) (by decide) (by decide)) (g := (mkF m 103 #[.val (.long q0), .second, .val (.long q1), .second, .val (.int p2), .val (.int p3), .val (.int p4), .val (.int x355), .val (.int x357), .val (.int x364), .val (.int x367), .val (.int x370), .val (.int (3 : Int32)), .val (.ref r533), .val (.ref r538), .unset, .unset, .unset] [(.ref r533), (.ref b545), (.ref b545)])) rfl (by rw [hml]; rfl) (Steps.refl _) (a := b545) (argsL := [(.ref r533)]) (rest := [(.ref b545)]) (lenOf pd_4 rfl) rfl (by show 2 * 0 + _ ≤ _; exact Nat.le_of_eq rfl) (hb hby at_103) (fun _ _ => ⟨rfl, e545, (by decide : 3 + 0 ≤ _), (by decide : 9 + 0 ≤ _)⟩)
    dsimp only [Pt.U, Pt.locs, Pt.cells, Pt.slots] at X555 l555 y555 z555 st555 hQ555
    subst l555 y555 z555
    obtain ⟨rfl, N555q, K555, f556, f557⟩ := hQ555
    have N555 := Fr.app N538 N555q
    have f558 := f549.keep K555 (ninS ne546 nin0)
    have f559 := f550.keep K555 (ninS ne547 nin0)
    have Z560 : n0 ≤ T555.heap.size := Nat.le_trans Z551 K555.1
    obtain ⟨T561, h561, X561, e561, E561, A561, D561, -, st561⟩ := newO X555 hx hZ hown (hw _ (List.mem_of_getElem? (i := 5) rfl)) (hw _ (List.mem_of_getElem? (i := 6) rfl)) (hw _ (List.mem_of_getElem? (i := 7) rfl)) rfl (g := (mkF m 108 #[.val (.long q0), .second, .val (.long q1), .second, .val (.int p2), .val (.int p3), .val (.int p4), .val (.int x355), .val (.int x357), .val (.int x364), .val (.int x367), .val (.int x370), .val (.int (3 : Int32)), .val (.ref r533), .val (.ref r538), .val (.ref b545), .unset, .unset] [])) rfl (hb hby at_108) (by decide) (by decide)
    obtain ⟨b561, g561⟩ : ∃ z, z = T555.heap.size := ⟨_, rfl⟩
    rw [← g561] at A561 D561 st561
    have ne562 : r533 ≠ b561 := Nat.ne_of_lt (Nat.lt_of_lt_of_le f558.lt (Nat.le_of_eq g561.symm))
    have ne563 : r538 ≠ b561 := Nat.ne_of_lt (Nat.lt_of_lt_of_le f559.lt (Nat.le_of_eq g561.symm))
    have ne564 : b545 ≠ b561 := Nat.ne_of_lt (Nat.lt_of_lt_of_le f556.lt (Nat.le_of_eq g561.symm))
    have gn565 : n0 ≤ b561 := Nat.le_trans Z560 (Nat.le_of_eq g561.symm)
    have f566 := f558.ext E561
    have f567 := f559.ext E561
    have f568 := f556.ext E561
    have f569 := f557.ext E561
    have Z570 : n0 ≤ h561.size := Nat.le_trans Z560 E561.1
    have f571 : Fld Z h561 b561 "com/example/enact/enact/net/Marking" "tokens" "[I" .null := D561 (Or.inr (hw _ (List.mem_of_getElem? (i := 15) rfl))) (ty := (.array .int)) (by decide)
    have f572 : Fld Z h561 b561 "com/example/enact/enact/net/Marking" "total" "J" (.long (0 : Int64)) := D561 (Or.inr (hw _ (List.mem_of_getElem? (i := 17) rfl))) (ty := .long) (by decide)
    have f573 : Fld Z h561 b561 "com/example/enact/enact/net/Marking" "hash" "I" (.int (0 : Int32)) := D561 (Or.inr (hw _ (List.mem_of_getElem? (i := 23) rfl))) (ty := .int) (by decide)
    obtain ⟨_, _, ⟨T574, L574, k574, n574⟩, -, X574, ⟨Lc574, hQ574, l574, y574, z574⟩, st574⟩ := X561.specialBack hx (y := (⟨"com/example/enact/enact/net/Marking", "<init>", "([I)V"⟩ : MethodName)) rfl hown (mvT hZ (hw _ (List.mem_of_getElem? (i := 8) rfl))) (mvT hZ (hw _ (List.mem_of_getElem? (i := 9) rfl))) (mvT hZ (hw _ (List.mem_of_getElem? (i := 10) rfl))) (by decide) (backOf (W := 1) (ct3 l Z aw hw [] b561 r538 kb538 x364 x367 x370 h561 n0 Z570 A561 f571 f572 f573 gn565 f567 f540 (Ne.symm ne563)) hZ (hw _ (List.mem_of_getElem? (i := 10) rfl)) (hw _ (List.mem_of_getElem? (i := 7) rfl)) (by decide) (by decide)) (g := (mkF m 114 #[.val (.long q0), .second, .val (.long q1), .second, .val (.int p2), .val (.int p3), .val (.int p4), .val (.int x355), .val (.int x357), .val (.int x364), .val (.int x367), .val (.int x370), .val (.int (3 : Int32)), .val (.ref r533), .val (.ref r538), .val (.ref b545), .unset, .unset] [(.ref r538), (.ref b561), (.ref b561)])) rfl (by rw [hml]; rfl) (Steps.refl _) (a := b561) (argsL := [(.ref r538)]) (rest := [(.ref b561)]) (lenOf pd_4 rfl) rfl (by show 2 * 0 + _ ≤ _; exact Nat.le_of_eq rfl) (hb hby at_114) (fun _ _ => ⟨rfl, e561, (by decide : 4 + 0 ≤ _), (by decide : 12 + 0 ≤ _)⟩)
    dsimp only [Pt.U, Pt.locs, Pt.cells, Pt.slots] at X574 l574 y574 z574 st574 hQ574
    subst l574 y574 z574
    obtain ⟨rfl, N574q, K574, f575, f576⟩ := hQ574
    have N574 := Fr.app N555 N574q
    have f577 := f566.keep K574 (ninS ne562 nin0)
    have f578 := f567.keep K574 (ninS ne563 nin0)
    have f579 := f568.keep K574
    have f580 := f569.keep K574 (ninS ne564 nin0)
    have Z581 : n0 ≤ T574.heap.size := Nat.le_trans Z570 K574.1
    obtain ⟨x585, hx585⟩ : ∃ z : Int32, z = (if x355 < x364 then (0 : Int32) else (if x357 < x367 then (0 : Int32) else (if p2 < x370 then (0 : Int32) else (1 : Int32)))) := ⟨_, rfl⟩
    have pre586 : ∀ t, Steps p.tables e below (T574.setTop (mkF m 163 #[.val (.long q0), .second, .val (.long q1), .second, .val (.int p2), .val (.int p3), .val (.int p4), .val (.int x355), .val (.int x357), .val (.int x364), .val (.int x367), .val (.int x370), .val (.int (3 : Int32)), .val (.ref r533), .val (.ref r538), .val (.ref b545), .val (.ref b561), .unset] [(.int x585)])) t → Steps p.tables e below (s₁.setTop (entryFrame m #[(.long q0), (.long q1), (.int p2), (.int p3), (.int p4)] maxLocals)) t := fun t k => by
      refine pre373 t ?_
      show Steps p.tables e below (s₁.setTop (mkF m 71 #[.val (.long q0), .second, .val (.long q1), .second, .val (.int p2), .val (.int p3), .val (.int p4), .val (.int x355), .val (.int x357), .val (.int x364), .val (.int x367), .val (.int x370), .val (.int (3 : Int32)), .unset, .unset, .unset, .unset, .unset] [])) _
      refine XS.iload X0.here hx rfl (hb hby at_71) rfl ?_
      show Steps p.tables e below (s₁.setTop (mkF m 73 #[.val (.long q0), .second, .val (.long q1), .second, .val (.int p2), .val (.int p3), .val (.int p4), .val (.int x355), .val (.int x357), .val (.int x364), .val (.int x367), .val (.int x370), .val (.int (3 : Int32)), .unset, .unset, .unset, .unset, .unset] [(.int (3 : Int32))])) _
      refine XS.iload X0.here hx rfl (hb hby at_73) rfl ?_
      show Steps p.tables e below (s₁.setTop (mkF m 75 #[.val (.long q0), .second, .val (.long q1), .second, .val (.int p2), .val (.int p3), .val (.int p4), .val (.int x355), .val (.int x357), .val (.int x364), .val (.int x367), .val (.int x370), .val (.int (3 : Int32)), .unset, .unset, .unset, .unset, .unset] [(.int x355), (.int (3 : Int32))])) _
      refine XS.iload X0.here hx rfl (hb hby at_75) rfl ?_
      show Steps p.tables e below (s₁.setTop (mkF m 77 #[.val (.long q0), .second, .val (.long q1), .second, .val (.int p2), .val (.int p3), .val (.int p4), .val (.int x355), .val (.int x357), .val (.int x364), .val (.int x367), .val (.int x370), .val (.int (3 : Int32)), .unset, .unset, .unset, .unset, .unset] [(.int x357), (.int x355), (.int (3 : Int32))])) _
      refine XS.iload X0.here hx rfl (hb hby at_77) rfl ?_
      show Steps p.tables e below (s₁.setTop (mkF m 79 #[.val (.long q0), .second, .val (.long q1), .second, .val (.int p2), .val (.int p3), .val (.int p4), .val (.int x355), .val (.int x357), .val (.int x364), .val (.int x367), .val (.int x370), .val (.int (3 : Int32)), .unset, .unset, .unset, .unset, .unset] [(.int p2), (.int x357), (.int x355), (.int (3 : Int32))])) _
      refine st533 _ ?_
      show Steps p.tables e below (T533.setTop (mkF m 82 #[.val (.long q0), .second, .val (.long q1), .second, .val (.int p2), .val (.int p3), .val (.int p4), .val (.int x355), .val (.int x357), .val (.int x364), .val (.int x367), .val (.int x370), .val (.int (3 : Int32)), .unset, .unset, .unset, .unset, .unset] [(.ref r533)])) _
      refine XS.astore X533.here hx rfl (hb hby at_82) rfl rfl (l' := #[.val (.long q0), .second, .val (.long q1), .second, .val (.int p2), .val (.int p3), .val (.int p4), .val (.int x355), .val (.int x357), .val (.int x364), .val (.int x367), .val (.int x370), .val (.int (3 : Int32)), .val (.ref r533), .unset, .unset, .unset, .unset]) rfl ?_
      show Steps p.tables e below (T533.setTop (mkF m 84 #[.val (.long q0), .second, .val (.long q1), .second, .val (.int p2), .val (.int p3), .val (.int p4), .val (.int x355), .val (.int x357), .val (.int x364), .val (.int x367), .val (.int x370), .val (.int (3 : Int32)), .val (.ref r533), .unset, .unset, .unset, .unset] [])) _
      refine XS.iload X533.here hx rfl (hb hby at_84) rfl ?_
      show Steps p.tables e below (T533.setTop (mkF m 86 #[.val (.long q0), .second, .val (.long q1), .second, .val (.int p2), .val (.int p3), .val (.int p4), .val (.int x355), .val (.int x357), .val (.int x364), .val (.int x367), .val (.int x370), .val (.int (3 : Int32)), .val (.ref r533), .unset, .unset, .unset, .unset] [(.int (3 : Int32))])) _
      refine XS.iload X533.here hx rfl (hb hby at_86) rfl ?_
      show Steps p.tables e below (T533.setTop (mkF m 88 #[.val (.long q0), .second, .val (.long q1), .second, .val (.int p2), .val (.int p3), .val (.int p4), .val (.int x355), .val (.int x357), .val (.int x364), .val (.int x367), .val (.int x370), .val (.int (3 : Int32)), .val (.ref r533), .unset, .unset, .unset, .unset] [(.int x364), (.int (3 : Int32))])) _
      refine XS.iload X533.here hx rfl (hb hby at_88) rfl ?_
      show Steps p.tables e below (T533.setTop (mkF m 90 #[.val (.long q0), .second, .val (.long q1), .second, .val (.int p2), .val (.int p3), .val (.int p4), .val (.int x355), .val (.int x357), .val (.int x364), .val (.int x367), .val (.int x370), .val (.int (3 : Int32)), .val (.ref r533), .unset, .unset, .unset, .unset] [(.int x367), (.int x364), (.int (3 : Int32))])) _
      refine XS.iload X533.here hx rfl (hb hby at_90) rfl ?_
      show Steps p.tables e below (T533.setTop (mkF m 92 #[.val (.long q0), .second, .val (.long q1), .second, .val (.int p2), .val (.int p3), .val (.int p4), .val (.int x355), .val (.int x357), .val (.int x364), .val (.int x367), .val (.int x370), .val (.int (3 : Int32)), .val (.ref r533), .unset, .unset, .unset, .unset] [(.int x370), (.int x367), (.int x364), (.int (3 : Int32))])) _
      refine st538 _ ?_
      show Steps p.tables e below (T538.setTop (mkF m 95 #[.val (.long q0), .second, .val (.long q1), .second, .val (.int p2), .val (.int p3), .val (.int p4), .val (.int x355), .val (.int x357), .val (.int x364), .val (.int x367), .val (.int x370), .val (.int (3 : Int32)), .val (.ref r533), .unset, .unset, .unset, .unset] [(.ref r538)])) _
      refine XS.astore X538.here hx rfl (hb hby at_95) rfl rfl (l' := #[.val (.long q0), .second, .val (.long q1), .second, .val (.int p2), .val (.int p3), .val (.int p4), .val (.int x355), .val (.int x357), .val (.int x364), .val (.int x367), .val (.int x370), .val (.int (3 : Int32)), .val (.ref r533), .val (.ref r538), .unset, .unset, .unset]) rfl ?_
      show Steps p.tables e below (T538.setTop (mkF m 97 #[.val (.long q0), .second, .val (.long q1), .second, .val (.int p2), .val (.int p3), .val (.int p4), .val (.int x355), .val (.int x357), .val (.int x364), .val (.int x367), .val (.int x370), .val (.int (3 : Int32)), .val (.ref r533), .val (.ref r538), .unset, .unset, .unset] [])) _
      refine st545 _ ?_
      show Steps p.tables e below (T545.setTop (mkF m 100 #[.val (.long q0), .second, .val (.long q1), .second, .val (.int p2), .val (.int p3), .val (.int p4), .val (.int x355), .val (.int x357), .val (.int x364), .val (.int x367), .val (.int x370), .val (.int (3 : Int32)), .val (.ref r533), .val (.ref r538), .unset, .unset, .unset] [(.ref b545)])) _
      refine XS.dup X545.here hx rfl (hb hby at_100) rfl rfl ?_
      show Steps p.tables e below (T545.setTop (mkF m 101 #[.val (.long q0), .second, .val (.long q1), .second, .val (.int p2), .val (.int p3), .val (.int p4), .val (.int x355), .val (.int x357), .val (.int x364), .val (.int x367), .val (.int x370), .val (.int (3 : Int32)), .val (.ref r533), .val (.ref r538), .unset, .unset, .unset] [(.ref b545), (.ref b545)])) _
      refine XS.aload X545.here hx rfl (hb hby at_101) rfl rfl ?_
      show Steps p.tables e below (T545.setTop (mkF m 103 #[.val (.long q0), .second, .val (.long q1), .second, .val (.int p2), .val (.int p3), .val (.int p4), .val (.int x355), .val (.int x357), .val (.int x364), .val (.int x367), .val (.int x370), .val (.int (3 : Int32)), .val (.ref r533), .val (.ref r538), .unset, .unset, .unset] [(.ref r533), (.ref b545), (.ref b545)])) _
      refine st555.trans ?_
      show Steps p.tables e below (T555.setTop (mkF m 106 #[.val (.long q0), .second, .val (.long q1), .second, .val (.int p2), .val (.int p3), .val (.int p4), .val (.int x355), .val (.int x357), .val (.int x364), .val (.int x367), .val (.int x370), .val (.int (3 : Int32)), .val (.ref r533), .val (.ref r538), .unset, .unset, .unset] [(.ref b545)])) _
      refine XS.astore X555.here hx rfl (hb hby at_106) rfl rfl (l' := #[.val (.long q0), .second, .val (.long q1), .second, .val (.int p2), .val (.int p3), .val (.int p4), .val (.int x355), .val (.int x357), .val (.int x364), .val (.int x367), .val (.int x370), .val (.int (3 : Int32)), .val (.ref r533), .val (.ref r538), .val (.ref b545), .unset, .unset]) rfl ?_
      show Steps p.tables e below (T555.setTop (mkF m 108 #[.val (.long q0), .second, .val (.long q1), .second, .val (.int p2), .val (.int p3), .val (.int p4), .val (.int x355), .val (.int x357), .val (.int x364), .val (.int x367), .val (.int x370), .val (.int (3 : Int32)), .val (.ref r533), .val (.ref r538), .val (.ref b545), .unset, .unset] [])) _
      refine st561 _ ?_
      show Steps p.tables e below (T561.setTop (mkF m 111 #[.val (.long q0), .second, .val (.long q1), .second, .val (.int p2), .val (.int p3), .val (.int p4), .val (.int x355), .val (.int x357), .val (.int x364), .val (.int x367), .val (.int x370), .val (.int (3 : Int32)), .val (.ref r533), .val (.ref r538), .val (.ref b545), .unset, .unset] [(.ref b561)])) _
      refine XS.dup X561.here hx rfl (hb hby at_111) rfl rfl ?_
      show Steps p.tables e below (T561.setTop (mkF m 112 #[.val (.long q0), .second, .val (.long q1), .second, .val (.int p2), .val (.int p3), .val (.int p4), .val (.int x355), .val (.int x357), .val (.int x364), .val (.int x367), .val (.int x370), .val (.int (3 : Int32)), .val (.ref r533), .val (.ref r538), .val (.ref b545), .unset, .unset] [(.ref b561), (.ref b561)])) _
      refine XS.aload X561.here hx rfl (hb hby at_112) rfl rfl ?_
      show Steps p.tables e below (T561.setTop (mkF m 114 #[.val (.long q0), .second, .val (.long q1), .second, .val (.int p2), .val (.int p3), .val (.int p4), .val (.int x355), .val (.int x357), .val (.int x364), .val (.int x367), .val (.int x370), .val (.int (3 : Int32)), .val (.ref r533), .val (.ref r538), .val (.ref b545), .unset, .unset] [(.ref r538), (.ref b561), (.ref b561)])) _
      refine st574.trans ?_
      show Steps p.tables e below (T574.setTop (mkF m 117 #[.val (.long q0), .second, .val (.long q1), .second, .val (.int p2), .val (.int p3), .val (.int p4), .val (.int x355), .val (.int x357), .val (.int x364), .val (.int x367), .val (.int x370), .val (.int (3 : Int32)), .val (.ref r533), .val (.ref r538), .val (.ref b545), .unset, .unset] [(.ref b561)])) _
      refine XS.astore X574.here hx rfl (hb hby at_117) rfl rfl (l' := #[.val (.long q0), .second, .val (.long q1), .second, .val (.int p2), .val (.int p3), .val (.int p4), .val (.int x355), .val (.int x357), .val (.int x364), .val (.int x367), .val (.int x370), .val (.int (3 : Int32)), .val (.ref r533), .val (.ref r538), .val (.ref b545), .val (.ref b561), .unset]) rfl ?_
      show Steps p.tables e below (T574.setTop (mkF m 119 #[.val (.long q0), .second, .val (.long q1), .second, .val (.int p2), .val (.int p3), .val (.int p4), .val (.int x355), .val (.int x357), .val (.int x364), .val (.int x367), .val (.int x370), .val (.int (3 : Int32)), .val (.ref r533), .val (.ref r538), .val (.ref b545), .val (.ref b561), .unset] [])) _
      refine XS.iload X574.here hx rfl (hb hby at_119) rfl ?_
      show Steps p.tables e below (T574.setTop (mkF m 121 #[.val (.long q0), .second, .val (.long q1), .second, .val (.int p2), .val (.int p3), .val (.int p4), .val (.int x355), .val (.int x357), .val (.int x364), .val (.int x367), .val (.int x370), .val (.int (3 : Int32)), .val (.ref r533), .val (.ref r538), .val (.ref b545), .val (.ref b561), .unset] [(.int (3 : Int32))])) _
      refine XS.iconst X574.here hx rfl (hb hby at_121) ?_
      show Steps p.tables e below (T574.setTop (mkF m 122 #[.val (.long q0), .second, .val (.long q1), .second, .val (.int p2), .val (.int p3), .val (.int p4), .val (.int x355), .val (.int x357), .val (.int x364), .val (.int x367), .val (.int x370), .val (.int (3 : Int32)), .val (.ref r533), .val (.ref r538), .val (.ref b545), .val (.ref b561), .unset] [(.int (1 : Int32)), (.int (3 : Int32))])) _
      refine XS.icmpNo X574.here hx rfl (hb hby at_122) rfl (flt (by decide)).1 ?_
      show Steps p.tables e below (T574.setTop (mkF m 125 #[.val (.long q0), .second, .val (.long q1), .second, .val (.int p2), .val (.int p3), .val (.int p4), .val (.int x355), .val (.int x357), .val (.int x364), .val (.int x367), .val (.int x370), .val (.int (3 : Int32)), .val (.ref r533), .val (.ref r538), .val (.ref b545), .val (.ref b561), .unset] [])) _
      refine XS.iload X574.here hx rfl (hb hby at_125) rfl ?_
      show Steps p.tables e below (T574.setTop (mkF m 127 #[.val (.long q0), .second, .val (.long q1), .second, .val (.int p2), .val (.int p3), .val (.int p4), .val (.int x355), .val (.int x357), .val (.int x364), .val (.int x367), .val (.int x370), .val (.int (3 : Int32)), .val (.ref r533), .val (.ref r538), .val (.ref b545), .val (.ref b561), .unset] [(.int x355)])) _
      refine XS.iload X574.here hx rfl (hb hby at_127) rfl ?_
      by_cases c582 : x355 < x364
      ·
        show Steps p.tables e below (T574.setTop (mkF m 129 #[.val (.long q0), .second, .val (.long q1), .second, .val (.int p2), .val (.int p3), .val (.int p4), .val (.int x355), .val (.int x357), .val (.int x364), .val (.int x367), .val (.int x370), .val (.int (3 : Int32)), .val (.ref r533), .val (.ref r538), .val (.ref b545), .val (.ref b561), .unset] [(.int x364), (.int x355)])) _
        refine XS.icmpYes X574.here hx rfl (pc0 := 129) (pc' := 162) rfl (hb hby at_129) rfl (tlt c582).1 (by decide) (by decide) ?_
        show Steps p.tables e below (T574.setTop (mkF m 162 #[.val (.long q0), .second, .val (.long q1), .second, .val (.int p2), .val (.int p3), .val (.int p4), .val (.int x355), .val (.int x357), .val (.int x364), .val (.int x367), .val (.int x370), .val (.int (3 : Int32)), .val (.ref r533), .val (.ref r538), .val (.ref b545), .val (.ref b561), .unset] [])) _
        refine XS.iconst X574.here hx rfl (hb hby at_162) ?_
        rw [show x585 = (0 : Int32) from hx585.trans (by simp only [if_pos c582])] at k
        exact k
      ·
        show Steps p.tables e below (T574.setTop (mkF m 129 #[.val (.long q0), .second, .val (.long q1), .second, .val (.int p2), .val (.int p3), .val (.int p4), .val (.int x355), .val (.int x357), .val (.int x364), .val (.int x367), .val (.int x370), .val (.int (3 : Int32)), .val (.ref r533), .val (.ref r538), .val (.ref b545), .val (.ref b561), .unset] [(.int x364), (.int x355)])) _
        refine XS.icmpNo X574.here hx rfl (hb hby at_129) rfl (flt c582).1 ?_
        show Steps p.tables e below (T574.setTop (mkF m 132 #[.val (.long q0), .second, .val (.long q1), .second, .val (.int p2), .val (.int p3), .val (.int p4), .val (.int x355), .val (.int x357), .val (.int x364), .val (.int x367), .val (.int x370), .val (.int (3 : Int32)), .val (.ref r533), .val (.ref r538), .val (.ref b545), .val (.ref b561), .unset] [])) _
        refine XS.iload X574.here hx rfl (hb hby at_132) rfl ?_
        show Steps p.tables e below (T574.setTop (mkF m 134 #[.val (.long q0), .second, .val (.long q1), .second, .val (.int p2), .val (.int p3), .val (.int p4), .val (.int x355), .val (.int x357), .val (.int x364), .val (.int x367), .val (.int x370), .val (.int (3 : Int32)), .val (.ref r533), .val (.ref r538), .val (.ref b545), .val (.ref b561), .unset] [(.int (3 : Int32))])) _
        refine XS.iconst X574.here hx rfl (hb hby at_134) ?_
        show Steps p.tables e below (T574.setTop (mkF m 135 #[.val (.long q0), .second, .val (.long q1), .second, .val (.int p2), .val (.int p3), .val (.int p4), .val (.int x355), .val (.int x357), .val (.int x364), .val (.int x367), .val (.int x370), .val (.int (3 : Int32)), .val (.ref r533), .val (.ref r538), .val (.ref b545), .val (.ref b561), .unset] [(.int (2 : Int32)), (.int (3 : Int32))])) _
        refine XS.icmpNo X574.here hx rfl (hb hby at_135) rfl (flt (by decide)).1 ?_
        show Steps p.tables e below (T574.setTop (mkF m 138 #[.val (.long q0), .second, .val (.long q1), .second, .val (.int p2), .val (.int p3), .val (.int p4), .val (.int x355), .val (.int x357), .val (.int x364), .val (.int x367), .val (.int x370), .val (.int (3 : Int32)), .val (.ref r533), .val (.ref r538), .val (.ref b545), .val (.ref b561), .unset] [])) _
        refine XS.iload X574.here hx rfl (hb hby at_138) rfl ?_
        show Steps p.tables e below (T574.setTop (mkF m 140 #[.val (.long q0), .second, .val (.long q1), .second, .val (.int p2), .val (.int p3), .val (.int p4), .val (.int x355), .val (.int x357), .val (.int x364), .val (.int x367), .val (.int x370), .val (.int (3 : Int32)), .val (.ref r533), .val (.ref r538), .val (.ref b545), .val (.ref b561), .unset] [(.int x357)])) _
        refine XS.iload X574.here hx rfl (hb hby at_140) rfl ?_
        by_cases c583 : x357 < x367
        ·
          show Steps p.tables e below (T574.setTop (mkF m 142 #[.val (.long q0), .second, .val (.long q1), .second, .val (.int p2), .val (.int p3), .val (.int p4), .val (.int x355), .val (.int x357), .val (.int x364), .val (.int x367), .val (.int x370), .val (.int (3 : Int32)), .val (.ref r533), .val (.ref r538), .val (.ref b545), .val (.ref b561), .unset] [(.int x367), (.int x357)])) _
          refine XS.icmpYes X574.here hx rfl (pc0 := 142) (pc' := 162) rfl (hb hby at_142) rfl (tlt c583).1 (by decide) (by decide) ?_
          show Steps p.tables e below (T574.setTop (mkF m 162 #[.val (.long q0), .second, .val (.long q1), .second, .val (.int p2), .val (.int p3), .val (.int p4), .val (.int x355), .val (.int x357), .val (.int x364), .val (.int x367), .val (.int x370), .val (.int (3 : Int32)), .val (.ref r533), .val (.ref r538), .val (.ref b545), .val (.ref b561), .unset] [])) _
          refine XS.iconst X574.here hx rfl (hb hby at_162) ?_
          rw [show x585 = (0 : Int32) from hx585.trans (by simp only [if_neg c582, if_pos c583])] at k
          exact k
        ·
          show Steps p.tables e below (T574.setTop (mkF m 142 #[.val (.long q0), .second, .val (.long q1), .second, .val (.int p2), .val (.int p3), .val (.int p4), .val (.int x355), .val (.int x357), .val (.int x364), .val (.int x367), .val (.int x370), .val (.int (3 : Int32)), .val (.ref r533), .val (.ref r538), .val (.ref b545), .val (.ref b561), .unset] [(.int x367), (.int x357)])) _
          refine XS.icmpNo X574.here hx rfl (hb hby at_142) rfl (flt c583).1 ?_
          show Steps p.tables e below (T574.setTop (mkF m 145 #[.val (.long q0), .second, .val (.long q1), .second, .val (.int p2), .val (.int p3), .val (.int p4), .val (.int x355), .val (.int x357), .val (.int x364), .val (.int x367), .val (.int x370), .val (.int (3 : Int32)), .val (.ref r533), .val (.ref r538), .val (.ref b545), .val (.ref b561), .unset] [])) _
          refine XS.iload X574.here hx rfl (hb hby at_145) rfl ?_
          show Steps p.tables e below (T574.setTop (mkF m 147 #[.val (.long q0), .second, .val (.long q1), .second, .val (.int p2), .val (.int p3), .val (.int p4), .val (.int x355), .val (.int x357), .val (.int x364), .val (.int x367), .val (.int x370), .val (.int (3 : Int32)), .val (.ref r533), .val (.ref r538), .val (.ref b545), .val (.ref b561), .unset] [(.int (3 : Int32))])) _
          refine XS.iconst X574.here hx rfl (hb hby at_147) ?_
          show Steps p.tables e below (T574.setTop (mkF m 148 #[.val (.long q0), .second, .val (.long q1), .second, .val (.int p2), .val (.int p3), .val (.int p4), .val (.int x355), .val (.int x357), .val (.int x364), .val (.int x367), .val (.int x370), .val (.int (3 : Int32)), .val (.ref r533), .val (.ref r538), .val (.ref b545), .val (.ref b561), .unset] [(.int (3 : Int32)), (.int (3 : Int32))])) _
          refine XS.icmpNo X574.here hx rfl (hb hby at_148) rfl (flt (by decide)).1 ?_
          show Steps p.tables e below (T574.setTop (mkF m 151 #[.val (.long q0), .second, .val (.long q1), .second, .val (.int p2), .val (.int p3), .val (.int p4), .val (.int x355), .val (.int x357), .val (.int x364), .val (.int x367), .val (.int x370), .val (.int (3 : Int32)), .val (.ref r533), .val (.ref r538), .val (.ref b545), .val (.ref b561), .unset] [])) _
          refine XS.iload X574.here hx rfl (hb hby at_151) rfl ?_
          show Steps p.tables e below (T574.setTop (mkF m 153 #[.val (.long q0), .second, .val (.long q1), .second, .val (.int p2), .val (.int p3), .val (.int p4), .val (.int x355), .val (.int x357), .val (.int x364), .val (.int x367), .val (.int x370), .val (.int (3 : Int32)), .val (.ref r533), .val (.ref r538), .val (.ref b545), .val (.ref b561), .unset] [(.int p2)])) _
          refine XS.iload X574.here hx rfl (hb hby at_153) rfl ?_
          by_cases c584 : p2 < x370
          ·
            show Steps p.tables e below (T574.setTop (mkF m 155 #[.val (.long q0), .second, .val (.long q1), .second, .val (.int p2), .val (.int p3), .val (.int p4), .val (.int x355), .val (.int x357), .val (.int x364), .val (.int x367), .val (.int x370), .val (.int (3 : Int32)), .val (.ref r533), .val (.ref r538), .val (.ref b545), .val (.ref b561), .unset] [(.int x370), (.int p2)])) _
            refine XS.icmpYes X574.here hx rfl (pc0 := 155) (pc' := 162) rfl (hb hby at_155) rfl (tlt c584).1 (by decide) (by decide) ?_
            show Steps p.tables e below (T574.setTop (mkF m 162 #[.val (.long q0), .second, .val (.long q1), .second, .val (.int p2), .val (.int p3), .val (.int p4), .val (.int x355), .val (.int x357), .val (.int x364), .val (.int x367), .val (.int x370), .val (.int (3 : Int32)), .val (.ref r533), .val (.ref r538), .val (.ref b545), .val (.ref b561), .unset] [])) _
            refine XS.iconst X574.here hx rfl (hb hby at_162) ?_
            rw [show x585 = (0 : Int32) from hx585.trans (by simp only [if_neg c582, if_neg c583, if_pos c584])] at k
            exact k
          ·
            show Steps p.tables e below (T574.setTop (mkF m 155 #[.val (.long q0), .second, .val (.long q1), .second, .val (.int p2), .val (.int p3), .val (.int p4), .val (.int x355), .val (.int x357), .val (.int x364), .val (.int x367), .val (.int x370), .val (.int (3 : Int32)), .val (.ref r533), .val (.ref r538), .val (.ref b545), .val (.ref b561), .unset] [(.int x370), (.int p2)])) _
            refine XS.icmpNo X574.here hx rfl (hb hby at_155) rfl (flt c584).1 ?_
            show Steps p.tables e below (T574.setTop (mkF m 158 #[.val (.long q0), .second, .val (.long q1), .second, .val (.int p2), .val (.int p3), .val (.int p4), .val (.int x355), .val (.int x357), .val (.int x364), .val (.int x367), .val (.int x370), .val (.int (3 : Int32)), .val (.ref r533), .val (.ref r538), .val (.ref b545), .val (.ref b561), .unset] [])) _
            refine XS.iconst X574.here hx rfl (hb hby at_158) ?_
            show Steps p.tables e below (T574.setTop (mkF m 159 #[.val (.long q0), .second, .val (.long q1), .second, .val (.int p2), .val (.int p3), .val (.int p4), .val (.int x355), .val (.int x357), .val (.int x364), .val (.int x367), .val (.int x370), .val (.int (3 : Int32)), .val (.ref r533), .val (.ref r538), .val (.ref b545), .val (.ref b561), .unset] [(.int (1 : Int32))])) _
            refine XS.goto X574.here hx rfl (pc0 := 159) (pc' := 163) rfl (hb hby at_159) (by decide) (by decide) ?_
            rw [show x585 = (1 : Int32) from hx585.trans (by simp only [if_neg c582, if_neg c583, if_neg c584])] at k
            exact k
    obtain ⟨cq587, kq587, q587a, q587b, q587c⟩ := isOf hZ rfl f579
    obtain ⟨_, _, ⟨T587, L587, k587, n587⟩, -, X587, ⟨Lc587, hQ587, l587, y587, z587⟩, st587⟩ := X574.virtualBack hx (y := (⟨"com/example/enact/enact/net/Marking", "covers", "(Lcom/example/enact/enact/net/Marking;)Z"⟩ : MethodName)) (z := (⟨"com/example/enact/enact/net/Marking", "covers", "(Lcom/example/enact/enact/net/Marking;)Z"⟩ : MethodName)) hown (mvT hZ (hw _ (List.mem_of_getElem? (i := 24) rfl))) (mvT hZ (hw _ (List.mem_of_getElem? (i := 25) rfl))) (notFace_of_selects (args := #[]) (mvT hZ (hw _ (List.mem_of_getElem? (i := 27) rfl)))) (mvT hZ (hw _ (List.mem_of_getElem? (i := 27) rfl))) (mvT hZ (hw _ (List.mem_of_getElem? (i := 26) rfl))) (by decide) (backOf (W := 0) (cv3 l Z aw hw [] b545 b561 r533 kb533 x355 x357 p2 r538 kb538 x364 x367 x370 T574.heap n0 Z581 f580 f577 f576 f578) hZ (hw _ (List.mem_of_getElem? (i := 28) rfl)) (hw _ (List.mem_of_getElem? (i := 7) rfl)) (by decide) (by decide)) q587a q587c (g := (mkF m 169 #[.val (.long q0), .second, .val (.long q1), .second, .val (.int p2), .val (.int p3), .val (.int p4), .val (.int x355), .val (.int x357), .val (.int x364), .val (.int x367), .val (.int x370), .val (.int (3 : Int32)), .val (.ref r533), .val (.ref r538), .val (.ref b545), .val (.ref b561), .val (.int x585)] [(.ref b561), (.ref b545)])) rfl (by rw [hml]; rfl) (Steps.refl _) (argsL := [(.ref b561)]) (rest := []) (lenOf pd_5 rfl) rfl (by show 2 * 0 + _ ≤ _; exact Nat.le_of_eq rfl) (hb hby at_169) (fun _ _ => ⟨rfl, rfl, (by decide : 4 + 0 ≤ _), (by decide : 12 + 0 ≤ _)⟩)
    dsimp only [Pt.U, Pt.locs, Pt.cells, Pt.slots] at X587 l587 y587 z587 st587 hQ587
    subst l587 y587 z587
    obtain ⟨rfl, N587q, e587⟩ := hQ587
    have N587 := Fr.app N574 N587q
    have c588 : (if x355 < x364 then (0 : Int32) else (if x357 < x367 then (0 : Int32) else (if p2 < x370 then (0 : Int32) else (1 : Int32)))) = x585 := by
      exact hx585.symm
    obtain ⟨fs, hr, hrun, hended, hW, hsame⟩ := X587.leave (v := some (.int (1 : Int32))) (fun h => by rw [Bd.returns] at h; cases h)
    refine ⟨_, _, pre586 _ ?_, hrun, hended, _, _, rfl, ?_, ⟨_, rfl⟩, hW, hsame.mono (by decide) (by decide)⟩
    ·
      show Steps p.tables e below (T574.setTop (mkF m 163 #[.val (.long q0), .second, .val (.long q1), .second, .val (.int p2), .val (.int p3), .val (.int p4), .val (.int x355), .val (.int x357), .val (.int x364), .val (.int x367), .val (.int x370), .val (.int (3 : Int32)), .val (.ref r533), .val (.ref r538), .val (.ref b545), .val (.ref b561), .unset] [(.int x585)])) _
      refine XS.istore X574.here hx rfl (hb hby at_163) rfl (l' := #[.val (.long q0), .second, .val (.long q1), .second, .val (.int p2), .val (.int p3), .val (.int p4), .val (.int x355), .val (.int x357), .val (.int x364), .val (.int x367), .val (.int x370), .val (.int (3 : Int32)), .val (.ref r533), .val (.ref r538), .val (.ref b545), .val (.ref b561), .val (.int x585)]) rfl ?_
      show Steps p.tables e below (T574.setTop (mkF m 165 #[.val (.long q0), .second, .val (.long q1), .second, .val (.int p2), .val (.int p3), .val (.int p4), .val (.int x355), .val (.int x357), .val (.int x364), .val (.int x367), .val (.int x370), .val (.int (3 : Int32)), .val (.ref r533), .val (.ref r538), .val (.ref b545), .val (.ref b561), .val (.int x585)] [])) _
      refine XS.aload X574.here hx rfl (hb hby at_165) rfl rfl ?_
      show Steps p.tables e below (T574.setTop (mkF m 167 #[.val (.long q0), .second, .val (.long q1), .second, .val (.int p2), .val (.int p3), .val (.int p4), .val (.int x355), .val (.int x357), .val (.int x364), .val (.int x367), .val (.int x370), .val (.int (3 : Int32)), .val (.ref r533), .val (.ref r538), .val (.ref b545), .val (.ref b561), .val (.int x585)] [(.ref b545)])) _
      refine XS.aload X574.here hx rfl (hb hby at_167) rfl rfl ?_
      show Steps p.tables e below (T574.setTop (mkF m 169 #[.val (.long q0), .second, .val (.long q1), .second, .val (.int p2), .val (.int p3), .val (.int p4), .val (.int x355), .val (.int x357), .val (.int x364), .val (.int x367), .val (.int x370), .val (.int (3 : Int32)), .val (.ref r533), .val (.ref r538), .val (.ref b545), .val (.ref b561), .val (.int x585)] [(.ref b561), (.ref b545)])) _
      refine st587.trans ?_
      show Steps p.tables e below (T587.setTop (mkF m 172 #[.val (.long q0), .second, .val (.long q1), .second, .val (.int p2), .val (.int p3), .val (.int p4), .val (.int x355), .val (.int x357), .val (.int x364), .val (.int x367), .val (.int x370), .val (.int (3 : Int32)), .val (.ref r533), .val (.ref r538), .val (.ref b545), .val (.ref b561), .val (.int x585)] [(.int (if x355 < x364 then (0 : Int32) else (if x357 < x367 then (0 : Int32) else (if p2 < x370 then (0 : Int32) else (1 : Int32)))))])) _
      refine XS.iload X587.here hx rfl (hb hby at_172) rfl ?_
      show Steps p.tables e below (T587.setTop (mkF m 174 #[.val (.long q0), .second, .val (.long q1), .second, .val (.int p2), .val (.int p3), .val (.int p4), .val (.int x355), .val (.int x357), .val (.int x364), .val (.int x367), .val (.int x370), .val (.int (3 : Int32)), .val (.ref r533), .val (.ref r538), .val (.ref b545), .val (.ref b561), .val (.int x585)] [(.int x585), (.int (if x355 < x364 then (0 : Int32) else (if x357 < x367 then (0 : Int32) else (if p2 < x370 then (0 : Int32) else (1 : Int32)))))])) _
      refine XS.icmpNo X587.here hx rfl (hb hby at_174) rfl (teq c588).2 ?_
      show Steps p.tables e below (T587.setTop (mkF m 177 #[.val (.long q0), .second, .val (.long q1), .second, .val (.int p2), .val (.int p3), .val (.int p4), .val (.int x355), .val (.int x357), .val (.int x364), .val (.int x367), .val (.int x370), .val (.int (3 : Int32)), .val (.ref r533), .val (.ref r538), .val (.ref b545), .val (.ref b561), .val (.int x585)] [])) _
      refine XS.iconst X587.here hx rfl (hb hby at_177) ?_
      show Steps p.tables e below (T587.setTop (mkF m 178 #[.val (.long q0), .second, .val (.long q1), .second, .val (.int p2), .val (.int p3), .val (.int p4), .val (.int x355), .val (.int x357), .val (.int x364), .val (.int x367), .val (.int x370), .val (.int (3 : Int32)), .val (.ref r533), .val (.ref r538), .val (.ref b545), .val (.ref b561), .val (.int x585)] [(.int (1 : Int32))])) _
      refine XS.goto X587.here hx rfl (pc0 := 178) (pc' := 182) rfl (hb hby at_178) (by decide) (by decide) ?_
      show Steps p.tables e below (T587.setTop (mkF m 182 #[.val (.long q0), .second, .val (.long q1), .second, .val (.int p2), .val (.int p3), .val (.int p4), .val (.int x355), .val (.int x357), .val (.int x364), .val (.int x367), .val (.int x370), .val (.int (3 : Int32)), .val (.ref r533), .val (.ref r538), .val (.ref b545), .val (.ref b561), .val (.int x585)] [(.int (1 : Int32))])) _
      exact retZ X587 hx Bd.returns (by decide) (hb hby at_182) hr
    ·
      show Q_rm0 Z q0 q1 p2 p3 p4 h0 n0 _ T587.heap _
      rw [e587]
      exact ⟨rfl, N587⟩
set_option maxRecDepth 65536 in
set_option maxHeartbeats 40000000 in
theorem comes_1 {Post : Tables → Env → Array Value → State → Outcome → State → Prop} (hpost : ∀ tb e args s v u, (limb_1_1.after args s (.returned v) u = true ∧ limb_1_2.after args s (.returned v) u = true ∧ True) → FrameEnd s (.returned v) u (Jvm.fieldLocs frame_1_writes args s ++ Jvm.arrayLocs frame_1_arrays args s ++ Jvm.staticLocs frame_1_statics s) 16 128 → Post tb e args s (.returned v) u) :
    ArmFor flags0 classFile x code maxLocals ret World_1 tables_1 room_1 Calls_1 rest_1 Pre_1 Post := by
  intro l hfl _ _ p e ha hc hk s m args below hf hA hF happ hP
  obtain ⟨hcalls, hrest, hpre⟩ := hP
  obtain ⟨-, -, -, hnamed, -, -, -, hat⟩ := (Spec.applies_iff hf).mp happ
  obtain ⟨hg, hn⟩ := and_e (Cond.before_iff.mp (show (Jvm.Cond.and given_1 narrow_1).before args s = true from hpre))
  obtain ⟨g589, g590⟩ := and_e hg
  obtain ⟨g591, g592⟩ := and_e g590
  obtain ⟨g593, g594⟩ := and_e g592
  obtain ⟨g595, g596⟩ := and_e g594
  obtain ⟨g597, g598⟩ := and_e g596
  obtain ⟨w0, w1, w2, w3, w4, rfl⟩ : ∃ w0 w1 w2 w3 w4 : Value, args = #[w0, w1, w2, w3, w4] := by
    have hs : args.size = 5 := by simpa [Cond.value, given_1] using g589
    obtain ⟨L⟩ := args
    match L, hs with
    | [w0, w1, w2, w3, w4], _ => exact ⟨w0, w1, w2, w3, w4, rfl⟩
  have hw := fun d (hd : d ∈ tables_1) => atoms_spec (ws := Jvm.Cond.code x code maxLocals ret :: tables_1) hat d (List.mem_cons_of_mem _ hd)
  have hfit : Fit s := fun {y c} hc i hi => by
    obtain ⟨ha, rfl⟩ := Array.getElem?_eq_some_iff.mp hc
    have q := List.all_eq_true.mp ((Array.all_eq_true_iff_forall_mem.mp hF) _ (Array.getElem_mem ha)) i (List.mem_range.mpr hi)
    simpa [Array.getElem?_eq_getElem hi] using q
  obtain ⟨i0, ei0⟩ := isL_v g591
  obtain rfl : w0 = (.long i0) := Option.some.inj ei0
  obtain ⟨i1, ei1⟩ := isL_v g593
  obtain rfl : w1 = (.long i1) := Option.some.inj ei1
  obtain ⟨i2, ei2⟩ := is_v g595
  obtain rfl : w2 = (.int i2) := Option.some.inj ei2
  obtain ⟨i3, ei3⟩ := is_v g597
  obtain rfl : w3 = (.int i3) := Option.some.inj ei3
  obtain ⟨i4, ei4⟩ := is_v g598
  obtain rfl : w4 = (.int i4) := Option.some.inj ei4
  obtain ⟨n, o, h1, h2, h3, _, L, rfl, ⟨rfl, N⟩, hq⟩ := rm0 l s _ hw tables_1 i0 i1 i2 i3 i4 s.heap s.heap.size (Nat.le_refl _) p e ha hc hk s m _ below hf ((Spec.applies_iff_loose hf).mp happ).1 ⟨rfl, State.Warmed39.refl s, rfl⟩ trivial
  refine ⟨n, _, h1, h2, h3, hpost _ _ _ _ _ _ ⟨Cond.after_iff.mpr rfl, Cond.after_iff.mpr (eq_i res_at (Term.int_eval (1)) rfl), trivial⟩ ⟨hq.1, hq.2.1, (hq.2.2.sift fun y hy => Or.inr (N y hy)).mono (by decide) (by decide)⟩⟩
theorem main_1_1 : Claimed_1_1 := comes_1 fun _ _ _ _ _ _ h hF => ⟨h.1, hF⟩
theorem main_1_2 : Claimed_1_2 := comes_1 fun _ _ _ _ _ _ h hF => ⟨h.2.1, hF⟩
end Jvm.Pilot.@@N@@
namespace Jvm.Pilot.@@N@@
open Jvm Jvm.ClassFile Sem Op Lib Jvm.Free Jvm.Stand Jvm.Pilot.@@N@@.Jvm.D
/-! MADE BY PROGRAM (witnessworld.py) out of the Statement's table words and the real class files: 11 classes; the members and pool entries that the words name. The judged class is class 1, her method 1. -/
namespace start1
open Jvm.ClassFile
def u (s : String) : CpInfo := .utf8 (stringToUtf16 s)
/-- a pool by its gaps: so many unusable entries, then the entry; so many at the end -/
def gap : Nat → List CpInfo → List CpInfo
  | 0, r => r
  | n + 1, r => .unusable :: gap n r
def poolList (es : List (Nat × CpInfo)) (last : Nat) : List CpInfo := es.foldr (fun e r => gap e.1 (e.2 :: r)) (gap last [])
def pool (es : List (Nat × CpInfo)) (last : Nat) : Array CpInfo := ⟨poolList es last⟩
def fileOf (pool : Array CpInfo) (this : Nat) (attrs : Array Attribute := #[]) (ms : Array MethodInfo := #[]) (fl : Nat := 33) (sup : Nat := 0) (ifs : Array Nat := #[]) (fds : Array FieldInfo := #[]) : ClassFile where
  minorVersion := 0
  majorVersion := 65
  constantPool := pool
  accessFlags := fl
  thisClass := this
  superClass := sup
  interfaces := ifs
  fields := fds
  methods := ms
  attributes := attrs
def plain (name : String) (sup : Option ClassId) : Class where
  name := name
  kind := .ordinary
  loader := none
  accessFlags := 33
  super := sup
  interfaces := #[]
  cf := none
  fields := #[]
  methods := #[]
  instanceTypes := #[]
  staticTypes := #[]
  resolved := #[]
  callSites := []
  init := .initialized
  statics := none
  mirror := none

def pool0 : Array CpInfo := pool [(5, u "<init>"), (0, u "()V"), (1, .class_ 10), (1, u "java/lang/Object")] 113

def k0c0 : Code := { maxStack := 0, maxLocals := 1, code := object_method_1_code, exceptionTable := #[], attributes := #[] }
def k0m0 : Method := { name := "<init>", desc := "()V", sig := { parameters := [], returnType := none }, accessFlags := 1, code := some k0c0 }
/-- java/lang/Object -/
def k0 : Class := { plain "java/lang/Object" none with
  accessFlags := 33
  interfaces := #[]
  cf := some (fileOf pool0 8 #[] #[{ accessFlags := 1, nameIndex := 5, descriptorIndex := 6, attributes := #[] }] 33 0 #[] #[])
  fields := #[]
  methods := #[k0m0]
  instanceTypes := #[]
  staticTypes := #[]
  resolved := Array.replicate 124 none
  statics := none }

def pool1 : Array CpInfo := pool [(2, .class_ 4), (1, u "java/lang/Object"), (0, u "<init>"), (0, u "()V"), (0, .methodref 8 9), (0, .class_ 10), (0, .nameAndType 11 12), (0, u "com/example/enact/enact/net/MarkingCoversPinLaw"), (0, u "make"), (0, u "(IIII)[I"), (0, .class_ 14), (0, u "com/example/enact/enact/net/Marking"), (0, .methodref 13 16), (0, .nameAndType 5 17), (0, u "([I)V"), (0, .methodref 13 19), (0, .nameAndType 20 21), (0, u "covers"), (0, u "(Lcom/example/enact/enact/net/Marking;)Z"), (2, u "law"), (0, u "(JJIII)Z")] 5

def k1m0 : Method := { name := "<init>", desc := "()V", sig := { parameters := [], returnType := none }, accessFlags := 1, code := none }
def k1c1 : Code := { maxStack := 4, maxLocals := 18, code := code, exceptionTable := #[], attributes := #[] }
def k1m1 : Method := { name := "law", desc := "(JJIII)Z", sig := { parameters := [.long, .long, .int, .int, .int], returnType := some .boolean }, accessFlags := 9, code := some k1c1 }
def k1c2 : Code := { maxStack := 4, maxLocals := 4, code := method_3_code, exceptionTable := #[], attributes := #[] }
def k1m2 : Method := { name := "make", desc := "(IIII)[I", sig := { parameters := [.int, .int, .int, .int], returnType := some (.array .int) }, accessFlags := 10, code := some k1c2 }
/-- com/example/enact/enact/net/MarkingCoversPinLaw -/
def k1 : Class := { plain "com/example/enact/enact/net/MarkingCoversPinLaw" (some 0) with
  accessFlags := 49
  interfaces := #[]
  cf := some (fileOf pool1 8 #[] #[{ accessFlags := 1, nameIndex := 5, descriptorIndex := 6, attributes := #[] }, { accessFlags := 9, nameIndex := 24, descriptorIndex := 25, attributes := #[] }, { accessFlags := 10, nameIndex := 11, descriptorIndex := 12, attributes := #[] }] 49 2 #[] #[])
  fields := #[]
  methods := #[k1m0, k1m1, k1m2]
  instanceTypes := #[]
  staticTypes := #[]
  resolved := Array.replicate 31 none
  statics := none }

def pool2 : Array CpInfo := pool [(1, .methodref 2 3), (0, .class_ 4), (0, .nameAndType 5 6), (0, u "java/lang/Object"), (0, u "<init>"), (0, u "()V"), (0, .fieldref 8 9), (0, .class_ 10), (0, .nameAndType 11 12), (0, u "com/example/enact/enact/net/Marking"), (0, u "tokens"), (0, u "[I"), (0, .fieldref 8 14), (0, .nameAndType 15 16), (0, u "total"), (0, u "J"), (0, .methodref 18 19), (0, .class_ 20), (0, .nameAndType 21 22), (0, u "java/util/Arrays"), (0, u "hashCode"), (0, u "([I)I"), (0, .fieldref 8 24), (0, .nameAndType 25 26), (0, u "hash"), (0, u "I"), (16, u "([I)V"), (62, u "covers"), (0, u "(Lcom/example/enact/enact/net/Marking;)Z")] 28

def k2c0 : Code := { maxStack := 4, maxLocals := 8, code := prog_29_method_1_code, exceptionTable := #[], attributes := #[] }
def k2m0 : Method := { name := "<init>", desc := "([I)V", sig := { parameters := [(.array .int)], returnType := none }, accessFlags := 0, code := some k2c0 }
def k2c1 : Code := { maxStack := 3, maxLocals := 3, code := prog_29_method_6_code, exceptionTable := #[], attributes := #[] }
def k2m1 : Method := { name := "covers", desc := "(Lcom/example/enact/enact/net/Marking;)Z", sig := { parameters := [(.object "com/example/enact/enact/net/Marking")], returnType := some .boolean }, accessFlags := 1, code := some k2c1 }
/-- com/example/enact/enact/net/Marking -/
def k2 : Class := { plain "com/example/enact/enact/net/Marking" (some 0) with
  accessFlags := 49
  interfaces := #[]
  cf := some (fileOf pool2 8 #[] #[{ accessFlags := 0, nameIndex := 5, descriptorIndex := 43, attributes := #[] }, { accessFlags := 1, nameIndex := 106, descriptorIndex := 107, attributes := #[] }] 49 2 #[] #[{ accessFlags := 18, nameIndex := 11, descriptorIndex := 12, attributes := #[] }, { accessFlags := 18, nameIndex := 15, descriptorIndex := 16, attributes := #[] }, { accessFlags := 18, nameIndex := 25, descriptorIndex := 26, attributes := #[] }])
  fields := #[{ name := "tokens", type := (.array .int), accessFlags := 18, slot := 0, constantValue := 0 }, { name := "total", type := .long, accessFlags := 18, slot := 1, constantValue := 0 }, { name := "hash", type := .int, accessFlags := 18, slot := 2, constantValue := 0 }]
  methods := #[k2m0, k2m1]
  instanceTypes := #[(.array .int), .long, .int]
  staticTypes := #[]
  resolved := Array.replicate 136 none
  statics := none }

def pool3 : Array CpInfo := pool [(2, .class_ 4), (1, u "java/lang/Object"), (0, u "<init>"), (0, u "()V"), (7, .class_ 16), (1, u "java/util/Arrays"), (57, .class_ 76), (1, u "java/util/Arrays$NaturalOrder"), (36, .class_ 115), (1, u "java/util/Arrays$LegacyMergeSort"), (1, u "Z"), (128, .class_ 248), (1, u "jdk/internal/util/ArraysSupport"), (126, .class_ 376), (0, u "java/util/Arrays$ArrayList"), (2, .methodref 246 380), (0, .nameAndType 381 382), (0, u "vectorizedHashCode"), (0, u "(Ljava/lang/Object;IIII)I"), (2, u "hashCode"), (22, u "([I)I"), (36, u "$assertionsDisabled"), (269, u "MIN_ARRAY_SORT_GRAN"), (0, u "I"), (2, u "INSERTIONSORT_THRESHOLD"), (255, .class_ 976), (0, u "java/util/Arrays$ArrayItr")] 52

def k3m0 : Method := { name := "<init>", desc := "()V", sig := { parameters := [], returnType := none }, accessFlags := 2, code := none }
def k3c1 : Code := { maxStack := 5, maxLocals := 1, code := jdk_65_method_150_code, exceptionTable := #[], attributes := #[] }
def k3m1 : Method := { name := "hashCode", desc := "([I)I", sig := { parameters := [(.array .int)], returnType := some .int }, accessFlags := 9, code := some k3c1 }
/-- java/util/Arrays -/
def k3 : Class := { plain "java/util/Arrays" (some 0) with
  accessFlags := 49
  interfaces := #[]
  cf := some (fileOf pool3 14 #[.nestMembers #[975, 375, 113, 74]] #[{ accessFlags := 2, nameIndex := 5, descriptorIndex := 6, attributes := #[] }, { accessFlags := 9, nameIndex := 385, descriptorIndex := 408, attributes := #[] }] 49 2 #[] #[{ accessFlags := 26, nameIndex := 715, descriptorIndex := 716, attributes := #[] }, { accessFlags := 26, nameIndex := 719, descriptorIndex := 716, attributes := #[] }, { accessFlags := 4120, nameIndex := 445, descriptorIndex := 117, attributes := #[] }])
  fields := #[{ name := "MIN_ARRAY_SORT_GRAN", type := .int, accessFlags := 26, slot := 0, constantValue := 0 }, { name := "INSERTIONSORT_THRESHOLD", type := .int, accessFlags := 26, slot := 1, constantValue := 0 }, { name := "$assertionsDisabled", type := .boolean, accessFlags := 4120, slot := 2, constantValue := 0 }]
  methods := #[k3m0, k3m1]
  instanceTypes := #[]
  staticTypes := #[.int, .int, .boolean]
  resolved := Array.replicate 1029 none
  statics := none }

def pool4 : Array CpInfo := pool [(9, u "<init>"), (6, .class_ 18), (1, u "java/lang/Object"), (0, u "()V"), (1, .class_ 23), (1, u "jdk/internal/util/ArraysSupport"), (0, u "LOG2_ARRAY_LONG_INDEX_SCALE"), (0, u "I"), (2, u "U"), (0, u "Ljdk/internal/misc/Unsafe;"), (8, u "BIG_ENDIAN"), (0, u "Z"), (8, u "LOG2_BYTE_BIT_SIZE"), (4, u "LOG2_ARRAY_INT_INDEX_SCALE"), (19, u "hashCode"), (8, .class_ 83), (0, u "[I"), (0, .methodref 21 85), (0, .nameAndType 73 86), (0, u "(I[III)I"), (21, u "JLA"), (0, u "Ljdk/internal/access/JavaLangAccess;"), (11, u "LOG2_ARRAY_BOOLEAN_INDEX_SCALE"), (9, u "LOG2_ARRAY_BYTE_INDEX_SCALE"), (5, u "LOG2_ARRAY_CHAR_INDEX_SCALE"), (5, u "LOG2_ARRAY_SHORT_INDEX_SCALE"), (18, u "LOG2_ARRAY_FLOAT_INDEX_SCALE"), (24, u "LOG2_ARRAY_DOUBLE_INDEX_SCALE"), (89, u "T_BOOLEAN"), (2, u "T_CHAR"), (1, u "T_FLOAT"), (1, u "T_DOUBLE"), (1, u "T_BYTE"), (1, u "T_SHORT"), (1, u "T_INT"), (1, u "T_LONG"), (1, u "SOFT_MAX_ARRAY_LENGTH"), (26, u "vectorizedHashCode"), (0, u "(Ljava/lang/Object;IIII)I")] 55

def k4m0 : Method := { name := "<init>", desc := "()V", sig := { parameters := [], returnType := none }, accessFlags := 2, code := none }
def k4c1 : Code := { maxStack := 4, maxLocals := 5, code := jdk_48_method_4_code, exceptionTable := #[], attributes := #[] }
def k4m1 : Method := { name := "vectorizedHashCode", desc := "(Ljava/lang/Object;IIII)I", sig := { parameters := [(.object "java/lang/Object"), .int, .int, .int, .int], returnType := some .int }, accessFlags := 9, code := some k4c1 }
def k4c2 : Code := { maxStack := 3, maxLocals := 6, code := jdk_48_method_9_code, exceptionTable := #[], attributes := #[] }
def k4m2 : Method := { name := "hashCode", desc := "(I[III)I", sig := { parameters := [.int, (.array .int), .int, .int], returnType := some .int }, accessFlags := 10, code := some k4c2 }
/-- jdk/internal/util/ArraysSupport -/
def k4 : Class := { plain "jdk/internal/util/ArraysSupport" (some 0) with
  accessFlags := 33
  interfaces := #[]
  cf := some (fileOf pool4 21 #[] #[{ accessFlags := 2, nameIndex := 9, descriptorIndex := 19, attributes := #[] }, { accessFlags := 9, nameIndex := 321, descriptorIndex := 322, attributes := #[] }, { accessFlags := 10, nameIndex := 73, descriptorIndex := 86, attributes := #[] }] 33 16 #[] #[{ accessFlags := 24, nameIndex := 28, descriptorIndex := 29, attributes := #[] }, { accessFlags := 26, nameIndex := 38, descriptorIndex := 39, attributes := #[] }, { accessFlags := 25, nameIndex := 121, descriptorIndex := 25, attributes := #[] }, { accessFlags := 25, nameIndex := 131, descriptorIndex := 25, attributes := #[] }, { accessFlags := 25, nameIndex := 137, descriptorIndex := 25, attributes := #[] }, { accessFlags := 25, nameIndex := 143, descriptorIndex := 25, attributes := #[] }, { accessFlags := 25, nameIndex := 53, descriptorIndex := 25, attributes := #[] }, { accessFlags := 25, nameIndex := 24, descriptorIndex := 25, attributes := #[] }, { accessFlags := 25, nameIndex := 162, descriptorIndex := 25, attributes := #[] }, { accessFlags := 25, nameIndex := 187, descriptorIndex := 25, attributes := #[] }, { accessFlags := 26, nameIndex := 48, descriptorIndex := 25, attributes := #[] }, { accessFlags := 25, nameIndex := 277, descriptorIndex := 25, attributes := #[] }, { accessFlags := 25, nameIndex := 280, descriptorIndex := 25, attributes := #[] }, { accessFlags := 25, nameIndex := 282, descriptorIndex := 25, attributes := #[] }, { accessFlags := 25, nameIndex := 284, descriptorIndex := 25, attributes := #[] }, { accessFlags := 25, nameIndex := 286, descriptorIndex := 25, attributes := #[] }, { accessFlags := 25, nameIndex := 288, descriptorIndex := 25, attributes := #[] }, { accessFlags := 25, nameIndex := 290, descriptorIndex := 25, attributes := #[] }, { accessFlags := 25, nameIndex := 292, descriptorIndex := 25, attributes := #[] }, { accessFlags := 26, nameIndex := 108, descriptorIndex := 109, attributes := #[] }, { accessFlags := 25, nameIndex := 294, descriptorIndex := 25, attributes := #[] }])
  fields := #[{ name := "U", type := (.object "jdk/internal/misc/Unsafe"), accessFlags := 24, slot := 0, constantValue := 0 }, { name := "BIG_ENDIAN", type := .boolean, accessFlags := 26, slot := 1, constantValue := 0 }, { name := "LOG2_ARRAY_BOOLEAN_INDEX_SCALE", type := .int, accessFlags := 25, slot := 2, constantValue := 0 }, { name := "LOG2_ARRAY_BYTE_INDEX_SCALE", type := .int, accessFlags := 25, slot := 3, constantValue := 0 }, { name := "LOG2_ARRAY_CHAR_INDEX_SCALE", type := .int, accessFlags := 25, slot := 4, constantValue := 0 }, { name := "LOG2_ARRAY_SHORT_INDEX_SCALE", type := .int, accessFlags := 25, slot := 5, constantValue := 0 }, { name := "LOG2_ARRAY_INT_INDEX_SCALE", type := .int, accessFlags := 25, slot := 6, constantValue := 0 }, { name := "LOG2_ARRAY_LONG_INDEX_SCALE", type := .int, accessFlags := 25, slot := 7, constantValue := 0 }, { name := "LOG2_ARRAY_FLOAT_INDEX_SCALE", type := .int, accessFlags := 25, slot := 8, constantValue := 0 }, { name := "LOG2_ARRAY_DOUBLE_INDEX_SCALE", type := .int, accessFlags := 25, slot := 9, constantValue := 0 }, { name := "LOG2_BYTE_BIT_SIZE", type := .int, accessFlags := 26, slot := 10, constantValue := 0 }, { name := "T_BOOLEAN", type := .int, accessFlags := 25, slot := 11, constantValue := 0 }, { name := "T_CHAR", type := .int, accessFlags := 25, slot := 12, constantValue := 0 }, { name := "T_FLOAT", type := .int, accessFlags := 25, slot := 13, constantValue := 0 }, { name := "T_DOUBLE", type := .int, accessFlags := 25, slot := 14, constantValue := 0 }, { name := "T_BYTE", type := .int, accessFlags := 25, slot := 15, constantValue := 0 }, { name := "T_SHORT", type := .int, accessFlags := 25, slot := 16, constantValue := 0 }, { name := "T_INT", type := .int, accessFlags := 25, slot := 17, constantValue := 0 }, { name := "T_LONG", type := .int, accessFlags := 25, slot := 18, constantValue := 0 }, { name := "JLA", type := (.object "jdk/internal/access/JavaLangAccess"), accessFlags := 26, slot := 19, constantValue := 0 }, { name := "SOFT_MAX_ARRAY_LENGTH", type := .int, accessFlags := 25, slot := 20, constantValue := 0 }]
  methods := #[k4m0, k4m1, k4m2]
  instanceTypes := #[]
  staticTypes := #[(.object "jdk/internal/misc/Unsafe"), .boolean, .int, .int, .int, .int, .int, .int, .int, .int, .int, .int, .int, .int, .int, .int, .int, .int, .int, (.object "jdk/internal/access/JavaLangAccess"), .int]
  resolved := Array.replicate 378 none
  statics := none }

def pool5 : Array CpInfo := pool [(1, u "java/lang/Cloneable"), (0, .class_ 1), (0, u "java/lang/Object"), (0, .class_ 3)] 3

/-- java/lang/Cloneable -/
def k5 : Class := { plain "java/lang/Cloneable" (some 0) with
  accessFlags := 1537
  interfaces := #[]
  cf := some (fileOf pool5 2 #[] #[] 1537 4 #[] #[])
  fields := #[]
  methods := #[]
  instanceTypes := #[]
  staticTypes := #[]
  resolved := Array.replicate 8 none
  statics := none }

def pool6 : Array CpInfo := pool [(1, u "java/io/Serializable"), (0, .class_ 1), (0, u "java/lang/Object"), (0, .class_ 3)] 3

/-- java/io/Serializable -/
def k6 : Class := { plain "java/io/Serializable" (some 0) with
  accessFlags := 1537
  interfaces := #[]
  cf := some (fileOf pool6 2 #[] #[] 1537 4 #[] #[])
  fields := #[]
  methods := #[]
  instanceTypes := #[]
  staticTypes := #[]
  resolved := Array.replicate 8 none
  statics := none }

/-- the primitive byte -/
def k7 : Class := { plain "byte" none with kind := .primitive 'B', accessFlags := 0x411 }
/-- [B -/
def k8 : Class := { plain "[B" (some 0) with kind := .array 7 .byte, interfaces := #[5, 6], accessFlags := 1041 }

/-- the primitive int -/
def k9 : Class := { plain "int" none with kind := .primitive 'I', accessFlags := 0x411 }
/-- [I -/
def k10 : Class := { plain "[I" (some 0) with kind := .array 9 .int, interfaces := #[5, 6], accessFlags := 1041 }

def heap : Heap := #[]
def classes : Array Class := #[k0, k1, k2, k3, k4, k5, k6, k7, k8, k9, k10]
def interned : List (Array UInt16 × Addr) := []
def slotsUsed : Nat := 0
def theMethod : MethodId := ⟨1, 1⟩
def args0 : Array Value := #[.long 5, .long 6, .int 7, .int 8, .int 9]
def aboutOver (below : List Frame) : State where
  vm := { classes := classes, interned := interned.toArray }
  heap := heap
  slotsUsed := slotsUsed
  threads := #[{ frames := .invoking theMethod args0 :: below }]
def below0 : List Frame := [.native { method := ⟨0, 0⟩, args := #[] }]
def about1 : State := aboutOver below0
def p0 : Program := .bare "" "" ""
def e0 : Env := launch0.env 0 0 0
theorem w_frames : about1.frames = Frame.invoking theMethod args0 :: below0 := rfl
set_option maxRecDepth 65536 in
theorem w_args : argsFit about1.vm theMethod args0 = true := by decide +kernel
set_option maxRecDepth 65536 in
theorem w_heap : heapFits about1 = true := by decide +kernel
set_option maxRecDepth 65536 in
theorem w_runnable : about1.curStatus? = some .runnable := by decide +kernel
set_option maxRecDepth 65536 in
theorem w_alone : about1.alone = true := by decide +kernel
set_option maxRecDepth 65536 in
theorem w_named : about1.methodNamed? x = some theMethod := by decide +kernel
set_option maxRecDepth 65536 in
theorem w_hears : about1.hears theMethod below0 = true := by decide +kernel
set_option maxRecDepth 65536 in
theorem w_ripe : about1.ripe theMethod args0 below0 = true := by decide +kernel
theorem w_running : about1.status = .running := rfl
set_option maxRecDepth 65536 in
theorem w_room : about1.hasRoom e0.platform room_1 = true :=
  launch0.hasRoom_least _ room_1 (by decide +kernel) (by decide +kernel) (by decide +kernel) (by decide +kernel) (by decide +kernel) (by decide +kernel)
theorem allAtoms_all (ts : List Jvm.Cond) (a : Array Jvm.Value) (st : Jvm.State) : (allAtoms ts).before a st = ts.all (fun c => c.before a st) := by
  induction ts with
  | nil => rfl
  | cons c t ih =>
    show (Jvm.Cond.and c (allAtoms t)).before a st = _
    rw [Jvm.Cond.before_and, ih, List.all_cons]
def words1 : List Jvm.Cond := Jvm.Cond.code x code maxLocals ret :: tables_1
/-- a 'code' word, met by the world's own term for the bytes: nothing is compared byte by byte -/
theorem code_word {y : MethodName} {bytes : ByteArray} {mx : Nat} {rt : Option FieldType} {a : Array Value} {s : State} {m : MethodId} {meth : Method} {c : Code} (h1 : s.methodNamed? y = some m) (h2 : s.vm.method? m = some meth) (h3 : meth.code = some c) (h4 : c.code = bytes)
    (h5 : (c.maxLocals == mx && c.exceptionTable.isEmpty && decide (c.maxStack ≤ mostOperands) && decide (meth.sig.returnType = rt) && !meth.locks && decide (parseMethodDescriptor y.desc = some meth.sig)) = true) : (Jvm.Cond.code y bytes mx rt).before a s = true := by
  simp only [Bool.and_eq_true, beq_iff_eq, Bool.not_eq_true', decide_eq_true_eq] at h5
  obtain ⟨⟨⟨⟨⟨g1, g2⟩, g3⟩, g4⟩, g5⟩, g6⟩ := h5
  simp [Cond.before, Cond.holds, Cond.value, h1, h2, h3, h4, g1, g2, g3, g4, g5, g6]
def isCode : Jvm.Cond → Bool
  | .code _ _ _ _ => true
  | _ => false
theorem all_split {L : List Jvm.Cond} {P : Jvm.Cond → Bool} (h1 : L.all (fun c => isCode c || P c) = true) (h2 : ∀ c ∈ L.filter isCode, P c = true) : L.all P = true := by
  refine List.all_eq_true.mpr fun c hc => ?_
  have h := List.all_eq_true.mp h1 c hc
  rcases Bool.eq_false_or_eq_true (isCode c) with hi | hi
  · exact h2 c (List.mem_filter.mpr ⟨hc, hi⟩)
  · simpa [hi] using h
set_option maxRecDepth 65536 in
theorem w_c0 : (Jvm.Cond.code x code maxLocals ret).before args0 about1 = true := code_word (m := ⟨1, 1⟩) (meth := k1m1) (c := k1c1) (by decide +kernel) rfl rfl rfl (by decide +kernel)
set_option maxRecDepth 65536 in
theorem w_c1 : (Jvm.Cond.code ({ cls := "com/example/enact/enact/net/MarkingCoversPinLaw", name := "make", desc := "(IIII)[I" } : Jvm.MethodName) method_3_code (4 : Nat) (Option.some (Jvm.ClassFile.FieldType.array Jvm.ClassFile.FieldType.int))).before args0 about1 = true := code_word (m := ⟨1, 2⟩) (meth := k1m2) (c := k1c2) (by decide +kernel) rfl rfl rfl (by decide +kernel)
set_option maxRecDepth 65536 in
theorem w_c2 : (Jvm.Cond.code ({ cls := "com/example/enact/enact/net/Marking", name := "<init>", desc := "([I)V" } : Jvm.MethodName) prog_29_method_1_code (8 : Nat) (Option.none : Option Jvm.ClassFile.FieldType)).before args0 about1 = true := code_word (m := ⟨2, 0⟩) (meth := k2m0) (c := k2c0) (by decide +kernel) rfl rfl rfl (by decide +kernel)
set_option maxRecDepth 65536 in
theorem w_c3 : (Jvm.Cond.code ({ cls := "java/lang/Object", name := "<init>", desc := "()V" } : Jvm.MethodName) object_method_1_code (1 : Nat) (Option.none : Option Jvm.ClassFile.FieldType)).before args0 about1 = true := code_word (m := ⟨0, 0⟩) (meth := k0m0) (c := k0c0) (by decide +kernel) rfl rfl rfl (by decide +kernel)
set_option maxRecDepth 65536 in
theorem w_c4 : (Jvm.Cond.code ({ cls := "java/util/Arrays", name := "hashCode", desc := "([I)I" } : Jvm.MethodName) jdk_65_method_150_code (1 : Nat) (Option.some Jvm.ClassFile.FieldType.int)).before args0 about1 = true := code_word (m := ⟨3, 1⟩) (meth := k3m1) (c := k3c1) (by decide +kernel) rfl rfl rfl (by decide +kernel)
set_option maxRecDepth 65536 in
theorem w_c5 : (Jvm.Cond.code ({ cls := "com/example/enact/enact/net/Marking", name := "covers", desc := "(Lcom/example/enact/enact/net/Marking;)Z" } : Jvm.MethodName) prog_29_method_6_code (3 : Nat) (Option.some Jvm.ClassFile.FieldType.boolean)).before args0 about1 = true := code_word (m := ⟨2, 1⟩) (meth := k2m1) (c := k2c1) (by decide +kernel) rfl rfl rfl (by decide +kernel)
set_option maxRecDepth 65536 in
theorem w_c6 : (Jvm.Cond.code ({ cls := "jdk/internal/util/ArraysSupport", name := "vectorizedHashCode", desc := "(Ljava/lang/Object;IIII)I" } : Jvm.MethodName) jdk_48_method_4_code (5 : Nat) (Option.some Jvm.ClassFile.FieldType.int)).before args0 about1 = true := code_word (m := ⟨4, 1⟩) (meth := k4m1) (c := k4c1) (by decide +kernel) rfl rfl rfl (by decide +kernel)
set_option maxRecDepth 65536 in
theorem w_c7 : (Jvm.Cond.code ({ cls := "jdk/internal/util/ArraysSupport", name := "hashCode", desc := "(I[III)I" } : Jvm.MethodName) jdk_48_method_9_code (6 : Nat) (Option.some Jvm.ClassFile.FieldType.int)).before args0 about1 = true := code_word (m := ⟨4, 2⟩) (meth := k4m2) (c := k4c2) (by decide +kernel) rfl rfl rfl (by decide +kernel)
def codes1 : List Jvm.Cond := [Jvm.Cond.code x code maxLocals ret, Jvm.Cond.code ({ cls := "com/example/enact/enact/net/MarkingCoversPinLaw", name := "make", desc := "(IIII)[I" } : Jvm.MethodName) method_3_code (4 : Nat) (Option.some (Jvm.ClassFile.FieldType.array Jvm.ClassFile.FieldType.int)), Jvm.Cond.code ({ cls := "com/example/enact/enact/net/Marking", name := "<init>", desc := "([I)V" } : Jvm.MethodName) prog_29_method_1_code (8 : Nat) (Option.none : Option Jvm.ClassFile.FieldType), Jvm.Cond.code ({ cls := "java/lang/Object", name := "<init>", desc := "()V" } : Jvm.MethodName) object_method_1_code (1 : Nat) (Option.none : Option Jvm.ClassFile.FieldType), Jvm.Cond.code ({ cls := "java/util/Arrays", name := "hashCode", desc := "([I)I" } : Jvm.MethodName) jdk_65_method_150_code (1 : Nat) (Option.some Jvm.ClassFile.FieldType.int), Jvm.Cond.code ({ cls := "com/example/enact/enact/net/Marking", name := "covers", desc := "(Lcom/example/enact/enact/net/Marking;)Z" } : Jvm.MethodName) prog_29_method_6_code (3 : Nat) (Option.some Jvm.ClassFile.FieldType.boolean), Jvm.Cond.code ({ cls := "jdk/internal/util/ArraysSupport", name := "vectorizedHashCode", desc := "(Ljava/lang/Object;IIII)I" } : Jvm.MethodName) jdk_48_method_4_code (5 : Nat) (Option.some Jvm.ClassFile.FieldType.int), Jvm.Cond.code ({ cls := "jdk/internal/util/ArraysSupport", name := "hashCode", desc := "(I[III)I" } : Jvm.MethodName) jdk_48_method_9_code (6 : Nat) (Option.some Jvm.ClassFile.FieldType.int)]
set_option maxRecDepth 65536 in
theorem codes_eq : words1.filter isCode = codes1 := rfl
theorem w_codes : ∀ c ∈ words1.filter isCode, c.before args0 about1 = true := by
  rw [codes_eq]
  intro c hc
  simp only [codes1, List.mem_cons, List.not_mem_nil, or_false] at hc
  rcases hc with rfl | rfl | rfl | rfl | rfl | rfl | rfl | rfl
  · exact w_c0
  · exact w_c1
  · exact w_c2
  · exact w_c3
  · exact w_c4
  · exact w_c5
  · exact w_c6
  · exact w_c7
set_option maxRecDepth 65536 in
theorem w_t1 : (words1.take 24).all (fun c => isCode c || c.before args0 about1) = true := by decide +kernel
set_option maxRecDepth 65536 in
theorem w_t2 : (words1.drop 24).all (fun c => isCode c || c.before args0 about1) = true := by decide +kernel
theorem w_tables : (allAtoms (Jvm.Cond.code x code maxLocals ret :: tables_1)).before args0 about1 = true := by
  rw [allAtoms_all]
  show words1.all (fun c => c.before args0 about1) = true
  refine all_split ?_ w_codes
  rw [← List.take_append_drop 24 words1, List.all_append, w_t1, w_t2]
  rfl
set_option maxRecDepth 65536 in
theorem w_case : (Jvm.Cond.and given_1 narrow_1).before args0 about1 = true := by decide +kernel
theorem w_applies : (headSpec (Jvm.Cond.code x code maxLocals ret :: tables_1) room_1).applies x e0.platform about1 = true :=
  (Spec.applies_iff w_frames).mpr ⟨w_running, w_runnable, w_alone, w_named, w_hears, w_ripe, w_room, w_tables⟩
theorem atStart : AtStart classFile x code maxLocals ret World_1 tables_1 room_1 Calls_1 rest_1 Pre_1 launch0 p0 e0 about1 theMethod args0 below0 :=
  ⟨lists_1, trivial, launch0.admits_env _ _ _, launch0.least_env, fairChoices_fair.cas, fairChoices_fair.clock, w_frames, w_args, w_heap, w_applies, trivial, trivial, w_case⟩
end start1
theorem witness_1 : WitnessClaimed_1 := ⟨start1.p0, start1.e0, start1.about1, start1.theMethod, start1.args0, start1.below0, start1.atStart⟩
end Jvm.Pilot.@@N@@
