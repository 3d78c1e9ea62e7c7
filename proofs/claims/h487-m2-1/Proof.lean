import JvmDerived
import JvmDerived.Pilot.@@N@@Statement
import JvmDerived.Pilot.@@N@@Code
set_option linter.unusedVariables false
set_option linter.unusedSimpArgs false
namespace Jvm.RoadKit
open Sem ClassFile Op Lib Jvm.Stand Jvm.Free Jvm.LawKit
section New
variable {p : Program} {l : Launch} {e : Env} {R : Room} {s : State} {m : MethodId} {args : Array Value} {below : List Frame} {meth : Method} {c : Code} {T : State} {locs : List Loc} {cells slots : Nat}
theorem retI (X : Stand p l e R s m args below meth c T locs cells slots) (hx : p.tables.exec = Jvm.exec) {pc : Nat} {Ls : Array Slot} {z : Int32} {rest : List Value} (hret : meth.sig.returnType = some .int) (hd : decode c.code pc = .ok (.ireturn, 1)) {fs : List Frame}
    (hl : ∀ (f : JFrame) (acts : List Action), f.method = m → f.locked = none → f.entered = [] → (doReturn e (T.setTop f) acts (some (.int z))).1 = T.setFrames fs) : Steps p.tables e below (T.setTop (mkF m pc Ls (.int z :: rest))) (T.setFrames fs) := by
  have hm' : T.vm.method? m = some meth := X.method'
  have hn : narrow .int (.int z) = .int z := rfl
  show Steps p.tables e below (T.setTop { method := m, pc := pc, locals := Ls, stack := _ :: rest, locked := none }) _
  jvm_step X.here [X.here.top, hx, hd, hm', hret, hn]
  first | (intro acts; rw [hl _ acts rfl rfl rfl]) | rw [hl _ _ rfl rfl rfl]
  exact Steps.refl _
theorem retZ (X : Stand p l e R s m args below meth c T locs cells slots) (hx : p.tables.exec = Jvm.exec) {pc : Nat} {Ls : Array Slot} {z : Int32} {rest : List Value} (hret : meth.sig.returnType = some .boolean) (hz : z &&& 1 = z) (hd : decode c.code pc = .ok (.ireturn, 1)) {fs : List Frame}
    (hl : ∀ (f : JFrame) (acts : List Action), f.method = m → f.locked = none → f.entered = [] → (doReturn e (T.setTop f) acts (some (.int z))).1 = T.setFrames fs) : Steps p.tables e below (T.setTop (mkF m pc Ls (.int z :: rest))) (T.setFrames fs) := by
  have hn : narrow .boolean (.int z) = .int z := by show Value.int (z &&& 1) = _; rw [hz]
  exact retOut X hx hret hn (Or.inl ⟨rfl, Or.inr (Or.inl rfl), z, rfl⟩) hd hl
theorem retJ (X : Stand p l e R s m args below meth c T locs cells slots) (hx : p.tables.exec = Jvm.exec) {pc : Nat} {Ls : Array Slot} {z : Int64} {rest : List Value} (hret : meth.sig.returnType = some .long) (hd : decode c.code pc = .ok (.lreturn, 1)) {fs : List Frame}
    (hl : ∀ (f : JFrame) (acts : List Action), f.method = m → f.locked = none → f.entered = [] → (doReturn e (T.setTop f) acts (some (.long z))).1 = T.setFrames fs) : Steps p.tables e below (T.setTop (mkF m pc Ls (.long z :: rest))) (T.setFrames fs) :=
  retOut X hx hret rfl (Or.inr (Or.inl ⟨rfl, rfl, z, rfl⟩)) hd hl
theorem retA (X : Stand p l e R s m args below meth c T locs cells slots) (hx : p.tables.exec = Jvm.exec) {pc : Nat} {Ls : Array Slot} {a : Addr} {rest : List Value} {t : FieldType} (ht : t.isReference = true) (hn : narrow t (.ref a) = .ref a) (hret : meth.sig.returnType = some t) (hd : decode c.code pc = .ok (.areturn, 1)) {fs : List Frame}
    (hl : ∀ (f : JFrame) (acts : List Action), f.method = m → f.locked = none → f.entered = [] → (doReturn e (T.setTop f) acts (some (.ref a))).1 = T.setFrames fs) : Steps p.tables e below (T.setTop (mkF m pc Ls (.ref a :: rest))) (T.setFrames fs) :=
  retOut X hx hret hn (Or.inr (Or.inr (Or.inr (Or.inr ⟨rfl, ht, rfl⟩)))) hd hl
theorem newPk {Z : State} {a0 : Array Value} {h : Heap} (X : Stand p l e R s m args below meth c T locs cells slots) (hx : p.tables.exec = Jvm.exec) (hZ : Z.Warmed39 s.vm) {aty : ArrayType} (w : (Cond.arrayClass (newarray.typeOf aty)).before a0 Z = true) (eT : T.heap = h) {g : JFrame} (hg : g.method = m)
    (hd : decode c.code g.pc = .ok (.newarray aty, 2)) {n : Int32} {rest : List Value} (hs : g.stack = .int n :: rest) (hn : ¬ n < 0) {cap : Nat} (hcap : n.toNatClampNeg ≤ cap) (hb : cap * 8 ≤ 536870912) (hc : cells + 1 ≤ R.cells) (hl : slots + cap ≤ R.slots) :
    ∃ T' h' cA, Stand p l e R s m args below meth c T' locs (cells + 1) (slots + cap) ∧ T'.heap = h' ∧ Ext h h' ∧ Arr Z h' h.size (newA cA (newarray.typeOf aty) n) (newarray.typeOf aty) ∧ Z.vm.findClass ("[" ++ (newarray.typeOf aty).toString) = some cA ∧
      ∀ target, Steps p.tables e below (T'.setTop { g with pc := g.pc + 2, stack := .ref h.size :: rest }) target → Steps p.tables e below (T.setTop g) target := by
  have hw8 : componentBytes (newarray.typeOf aty) ≤ 8 := by cases aty <;> decide
  obtain ⟨cA, kA, comp, f1, f2, f3, X', st⟩ := X.newarrayPrim hx (mvA hZ w) hg hd hs hn (Nat.le_trans (Nat.mul_le_mul hcap hw8) hb) hc (by omega)
  subst eT
  have f0 : Z.vm.findClass ("[" ++ (newarray.typeOf aty).toString) = some cA := by rw [← hZ.alike.findClass]; exact f1
  obtain ⟨kZ, z1, -⟩ := Vm.findClass_spec f0
  obtain ⟨k', z2, z3⟩ := hZ.alike.2.2 _ _ z1
  have ek : kA = k' := Option.some.inj (f2.symm.trans z2)
  have hq : kZ.kind = .array comp (newarray.typeOf aty) := by rw [← f3, ek, z3]
  refine ⟨_, _, cA, X'.more (Nat.le_refl _) (by omega), rfl, ext_of fun a ha => ?_, ⟨?_, ⟨fun q => by simp [newA], kZ, z1, comp, hq⟩, by simp [newA]⟩, f0, st⟩
  · show (T.heap.push _)[a]? = _
    rw [Array.getElem?_push_lt ha, Array.getElem?_eq_getElem ha]
  · show (T.heap.push _)[T.heap.size]? = _
    simp [newA]
theorem selPriv {s : State} {args : Array Value} {C : String} {y y0 : MethodName} (hsel : (Cond.selects C y0 y0).before args s = true) (hcls : y0.cls = y.cls) (hpriv : s.PrivateAt y) (hinst : (Cond.instanceMethod y).before args s = true) (hy : y.cls ≠ "java/lang/invoke/MethodHandle" ∧ y.cls ≠ "java/lang/invoke/VarHandle") : (Cond.selects y.cls y y).before args s = true := by
  obtain ⟨mk, meth, hnamed, hm, -, -⟩ := Cond.instanceMethod_spec hinst
  have hc := findClass_of_methodNamed hnamed
  obtain ⟨_, _, m2, -, -, q3, -, kP, hkP, hkPi⟩ := Cond.selects_spec hsel
  have h0 := findClass_of_methodNamed q3
  rw [hcls] at h0
  have e : mk.cls = m2.cls := Option.some.inj (hc.symm.trans h0)
  exact selects_self_of_private hc (by rw [e]; exact hkP) hkPi hpriv hinst hy
theorem insA {Z : State} {h : Heap} {a : Addr} {k : ClassId} {ty : FieldType} {z : Int32} {vs : List Value} {d : Value} {K : String} (F : Arv Z h a k ty z vs d) (hk : Z.vm.findClass K = some k) : Ins Z h a K true := by
  obtain ⟨c, A, q, -⟩ := F
  exact ⟨c, k, A.1, hk, by simp [A.plain, q, Vm.assignable_self]⟩
theorem lswHit {g : JFrame} {target : State} (X : Stand p l e R s m args below meth c T locs cells slots) (hx : p.tables.exec = Jvm.exec) (hg : g.method = m) {pc0 pc' : Nat} (hpc : g.pc = pc0) {k : Int32} {rest : List Value} {dflt : Int} {pairs : Array (Int × Int)} {len : Nat}
    (hd : decode c.code g.pc = .ok (.lookupswitch dflt pairs, len)) (hs : g.stack = .int k :: rest) (hsort : (pairs.toList.zip (pairs.toList.drop 1)).all (fun (a, next) => a.1 < next.1) = true) {a off : Int} (hf : pairs.find? (·.1 == k.toInt) = some (a, off)) (ho : 0 ≤ (pc0 : Int) + off) (hp : ((pc0 : Int) + off).toNat = pc')
    (hr : Steps p.tables e below (T.setTop { g with pc := pc', stack := rest }) target) : Steps p.tables e below (T.setTop g) target := by
  subst hpc hp
  exact X.lookupswitchHit hx hg hs hd hsort hf ho _ hr
theorem lswMiss {g : JFrame} {target : State} (X : Stand p l e R s m args below meth c T locs cells slots) (hx : p.tables.exec = Jvm.exec) (hg : g.method = m) {pc0 pc' : Nat} (hpc : g.pc = pc0) {k : Int32} {rest : List Value} {dflt : Int} {pairs : Array (Int × Int)} {len : Nat}
    (hd : decode c.code g.pc = .ok (.lookupswitch dflt pairs, len)) (hs : g.stack = .int k :: rest) (hsort : (pairs.toList.zip (pairs.toList.drop 1)).all (fun (a, next) => a.1 < next.1) = true) (hf : pairs.find? (·.1 == k.toInt) = none) (ho : 0 ≤ (pc0 : Int) + dflt) (hp : ((pc0 : Int) + dflt).toNat = pc')
    (hr : Steps p.tables e below (T.setTop { g with pc := pc', stack := rest }) target) : Steps p.tables e below (T.setTop g) target := by
  subst hpc hp
  exact X.lookupswitchMiss hx hg hs hd hsort hf ho _ hr
end New
end Jvm.RoadKit
namespace Jvm.Pilot.@@N@@
open Jvm Jvm.ClassFile Sem Op Lib Jvm.Free Jvm.Stand Jvm.LawKit Jvm.RoadKit Bundle Jvm.Pilot.@@N@@.Jvm.D
theorem d3_0 : decode jdk_65_method_150_code 0 = .ok (.aload_n 0, 1) := by decide +kernel
theorem d3_1 : decode jdk_65_method_150_code 1 = .ok (.ifnonnull 5, 3) := by decide +kernel
theorem d3_6 : decode jdk_65_method_150_code 6 = .ok (.aload_n 0, 1) := by decide +kernel
theorem d3_7 : decode jdk_65_method_150_code 7 = .ok (.arraylength, 1) := by decide +kernel
theorem d3_8 : decode jdk_65_method_150_code 8 = .ok (.lookupswitch 41 #[(0, 28), (1, 32)], 28) := by decide +kernel
theorem d3_36 : decode jdk_65_method_150_code 36 = .ok (.iconst 1, 1) := by decide +kernel
theorem d3_37 : decode jdk_65_method_150_code 37 = .ok (.goto 22, 3) := by decide +kernel
theorem d3_59 : decode jdk_65_method_150_code 59 = .ok (.ireturn, 1) := by decide +kernel
theorem pn_0 : plainName "java/util/Arrays" = true := by first | (simp [plainName, overriddenIn]; done) | decide +kernel
theorem ef_hh0 (m : MethodId) (a0 : Addr) : entryFrame m #[(.ref a0)] 1 = mkF m 0 #[.val (.ref a0)] [] := by first | (simp [entryFrame, mkF, argsToLocals, Value.category]; done) | rfl
def Q_hh0 (Z : State) (a0 : Addr) (k1 : ClassId) (h0 : Heap) (n0 : Nat) (v : Option Value) (h : Heap) (L : List Loc) : Prop := v = some (.int (1 : Int32)) ∧ Fr n0 L ∧ h = h0
set_option maxRecDepth 65536 in
set_option maxHeartbeats 40000000 in
theorem hh0 (l : Launch) (Z : State) (aw : Array Value) (hw : ∀ d ∈ tables_1, d.before aw Z = true) (ws : List Jvm.Cond) (a0 : Addr) (k1 : ClassId) (h0 : Heap) (n0 : Nat) (Z0 : n0 ≤ h0.size) (V_a0 : Arv Z h0 a0 k1 .int (0 : Int32) [] (.int (0 : Int32))) (kc_a0 : Z.vm.findClass "[I" = some k1) :
    MetFree l (⟨"java/util/Arrays", "hashCode", "([I)I"⟩ : MethodName) (head1 (Jvm.Cond.code (⟨"java/util/Arrays", "hashCode", "([I)I"⟩ : MethodName) jdk_65_method_150_code 1 (some .int) :: ws) ({ frames := 0, cells := 0, slots := 0, locals := 0 } : Room)) (fun a U => a = #[(.ref a0)] ∧ Z.Warmed39 U.vm ∧ U.heap = h0) (fun _ _ _ _ _ => True) (fun _ U o U' => ∃ v L, o = .returned v ∧ Q_hh0 Z a0 k1 h0 n0 v U'.heap L ∧ FrameEnd U o U' L ({ frames := 0, cells := 0, slots := 0, locals := 0 } : Room).cells ({ frames := 0, cells := 0, slots := 0, locals := 0 } : Room).slots) := by
  refine MetFree.of_bodySF (plainFor_of_name pn_0) hisR ?_
  intro p e s m args below meth c s₁ Bd hml0 hP hK
  obtain ⟨rfl, hZ, hh⟩ := hP
  have hx := Bd.exec
  have hby := Bd.bytes
  have hml : c.maxLocals = 1 := hml0
  have hown : s.vm.findClass "java/util/Arrays" = some m.cls := findClass_of_methodNamed Bd.named
  have hnm := (name_of_methodNamed Bd.named Bd.method).1
  have X0 : Stand p l e ({ frames := 0, cells := 0, slots := 0, locals := 0 } : Room) s m #[(.ref a0)] below meth c s₁ [] 0 0 := Stand.of_body Bd
  have e0 : s₁.heap = h0 := by rw [← hh, Bd.state]; rfl
  have N0 := Fr.nil n0
  have pre0 : ∀ t, Steps p.tables e below (s₁.setTop (mkF m 0 #[.val (.ref a0)] [])) t → Steps p.tables e below (s₁.setTop (entryFrame m #[(.ref a0)] 1)) t := fun t k => castTop (ef_hh0 m a0) k
  obtain ⟨cl101, Ar101, q101, S101, N101, H101, G101⟩ := id V_a0
  obtain ⟨fs, hr, hrun, hended, hW, hsame⟩ := X0.leave (v := some (.int (1 : Int32))) (fun h => by rw [Bd.returns] at h; cases h)
  refine ⟨_, _, pre0 _ ?_, hrun, hended, _, _, rfl, ?_, ⟨_, rfl⟩, hW, hsame.mono (by decide) (by decide)⟩
  ·
    show Steps p.tables e below (s₁.setTop (mkF m 0 #[.val (.ref a0)] [])) _
    refine XS.aloadN X0.here hx rfl (hb hby d3_0) rfl rfl ?_
    show Steps p.tables e below (s₁.setTop (mkF m 1 #[.val (.ref a0)] [(.ref a0)])) _
    refine XS.ifnonnullYes X0.here hx rfl (pc0 := 1) (pc' := 6) rfl (hb hby d3_1) rfl (by decide) (by decide) ?_
    show Steps p.tables e below (s₁.setTop (mkF m 6 #[.val (.ref a0)] [])) _
    refine XS.aloadN X0.here hx rfl (hb hby d3_6) rfl rfl ?_
    show Steps p.tables e below (s₁.setTop (mkF m 7 #[.val (.ref a0)] [(.ref a0)])) _
    refine X0.arraylength hx (by rw [e0]; exact Ar101.1) (State.isArrayOf_alike hZ.alike Ar101.2.1) (g := (mkF m 7 #[.val (.ref a0)] [(.ref a0)])) rfl rfl (hb hby d3_7) _ ?_
    rw [len_of S101 N101]
    show Steps p.tables e below (s₁.setTop (mkF m 8 #[.val (.ref a0)] [(.int (0 : Int32))])) _
    refine lswHit X0 hx rfl (pc0 := 8) (pc' := 36) rfl (hb hby d3_8) rfl (by decide) (a := 0) (off := 28) (by decide) (by decide) (by decide) ?_
    show Steps p.tables e below (s₁.setTop (mkF m 36 #[.val (.ref a0)] [])) _
    refine XS.iconst X0.here hx rfl (hb hby d3_36) ?_
    show Steps p.tables e below (s₁.setTop (mkF m 37 #[.val (.ref a0)] [(.int (1 : Int32))])) _
    refine XS.goto X0.here hx rfl (pc0 := 37) (pc' := 59) rfl (hb hby d3_37) (by decide) (by decide) ?_
    show Steps p.tables e below (s₁.setTop (mkF m 59 #[.val (.ref a0)] [(.int (1 : Int32))])) _
    exact retI X0 hx Bd.returns (hb hby d3_59) hr
  ·
    show Q_hh0 Z a0 k1 h0 n0 _ s₁.heap _
    rw [e0]
    exact ⟨rfl, N0, rfl⟩
theorem d1_0 : decode prog_29_method_1_code 0 = .ok (.aload_n 0, 1) := by decide +kernel
theorem d1_1 : decode prog_29_method_1_code 1 = .ok (.invokespecial 1, 3) := by decide +kernel
theorem d1_4 : decode prog_29_method_1_code 4 = .ok (.lconst 0, 1) := by decide +kernel
theorem d1_5 : decode prog_29_method_1_code 5 = .ok (.lstore_n 2, 1) := by decide +kernel
theorem d1_6 : decode prog_29_method_1_code 6 = .ok (.aload_n 1, 1) := by decide +kernel
theorem d1_7 : decode prog_29_method_1_code 7 = .ok (.astore 4, 2) := by decide +kernel
theorem d1_9 : decode prog_29_method_1_code 9 = .ok (.aload 4, 2) := by decide +kernel
theorem d1_11 : decode prog_29_method_1_code 11 = .ok (.arraylength, 1) := by decide +kernel
theorem d1_12 : decode prog_29_method_1_code 12 = .ok (.istore 5, 2) := by decide +kernel
theorem d1_14 : decode prog_29_method_1_code 14 = .ok (.iconst 0, 1) := by decide +kernel
theorem d1_15 : decode prog_29_method_1_code 15 = .ok (.istore 6, 2) := by decide +kernel
theorem d1_17 : decode prog_29_method_1_code 17 = .ok (.iload 6, 2) := by decide +kernel
theorem d1_19 : decode prog_29_method_1_code 19 = .ok (.iload 5, 2) := by decide +kernel
theorem d1_21 : decode prog_29_method_1_code 21 = .ok (.if_icmp .ge 22, 3) := by decide +kernel
theorem d1_43 : decode prog_29_method_1_code 43 = .ok (.aload_n 0, 1) := by decide +kernel
theorem d1_44 : decode prog_29_method_1_code 44 = .ok (.aload_n 1, 1) := by decide +kernel
theorem d1_45 : decode prog_29_method_1_code 45 = .ok (.putfield 7, 3) := by decide +kernel
theorem d1_48 : decode prog_29_method_1_code 48 = .ok (.aload_n 0, 1) := by decide +kernel
theorem d1_49 : decode prog_29_method_1_code 49 = .ok (.lload_n 2, 1) := by decide +kernel
theorem d1_50 : decode prog_29_method_1_code 50 = .ok (.putfield 13, 3) := by decide +kernel
theorem d1_53 : decode prog_29_method_1_code 53 = .ok (.aload_n 0, 1) := by decide +kernel
theorem d1_54 : decode prog_29_method_1_code 54 = .ok (.aload_n 1, 1) := by decide +kernel
theorem pd_0 : parseMethodDescriptor "([I)I" = some ⟨[(.array .int)], some .int⟩ := by decide +kernel
theorem d1_55 : decode prog_29_method_1_code 55 = .ok (.invokestatic 17, 3) := by decide +kernel
theorem d1_58 : decode prog_29_method_1_code 58 = .ok (.putfield 23, 3) := by decide +kernel
theorem d1_61 : decode prog_29_method_1_code 61 = .ok (.return_, 1) := by decide +kernel
theorem pn_1 : plainName "com/example/enact/enact/net/Marking" = true := by first | (simp [plainName, overriddenIn]; done) | decide +kernel
theorem ef_ct0 (m : MethodId) (a0 : Addr) (a1 : Addr) : entryFrame m #[(.ref a0), (.ref a1)] 8 = mkF m 0 #[.val (.ref a0), .val (.ref a1), .unset, .unset, .unset, .unset, .unset, .unset] [] := by first | (simp [entryFrame, mkF, argsToLocals, Value.category]; done) | rfl
def Q_ct0 (Z : State) (a0 : Addr) (a1 : Addr) (k1 : ClassId) (h0 : Heap) (n0 : Nat) (v : Option Value) (h : Heap) (L : List Loc) : Prop := v = none ∧ Fr n0 L ∧ Keep h0 h [a0] ∧ Exa Z h a0 "com/example/enact/enact/net/Marking" ∧ Fld Z h a0 "com/example/enact/enact/net/Marking" "tokens" "[I" (.ref a1)
set_option maxRecDepth 65536 in
set_option maxHeartbeats 40000000 in
theorem ct0 (l : Launch) (Z : State) (aw : Array Value) (hw : ∀ d ∈ tables_1, d.before aw Z = true) (ws : List Jvm.Cond) (a0 : Addr) (a1 : Addr) (k1 : ClassId) (h0 : Heap) (n0 : Nat) (Z0 : n0 ≤ h0.size) (E_a0 : Exa Z h0 a0 "com/example/enact/enact/net/Marking") (F_a0_tokens : Fld Z h0 a0 "com/example/enact/enact/net/Marking" "tokens" "[I" .null) (F_a0_total : Fld Z h0 a0 "com/example/enact/enact/net/Marking" "total" "J" (.long (0 : Int64))) (F_a0_hash : Fld Z h0 a0 "com/example/enact/enact/net/Marking" "hash" "I" (.int (0 : Int32))) (g_a0 : n0 ≤ a0) (V_a1 : Arv Z h0 a1 k1 .int (0 : Int32) [] (.int (0 : Int32))) (kc_a1 : Z.vm.findClass "[I" = some k1) (ne_a0_a1 : a0 ≠ a1) :
    MetFree l (⟨"com/example/enact/enact/net/Marking", "<init>", "([I)V"⟩ : MethodName) (head1 (Jvm.Cond.code (⟨"com/example/enact/enact/net/Marking", "<init>", "([I)V"⟩ : MethodName) prog_29_method_1_code 8 none :: ws) ({ frames := 1, cells := 0, slots := 0, locals := 13 } : Room)) (fun a U => a = #[(.ref a0), (.ref a1)] ∧ Z.Warmed39 U.vm ∧ U.heap = h0) (fun _ _ _ _ _ => True) (fun _ U o U' => ∃ v L, o = .returned v ∧ Q_ct0 Z a0 a1 k1 h0 n0 v U'.heap L ∧ FrameEnd U o U' L ({ frames := 1, cells := 0, slots := 0, locals := 13 } : Room).cells ({ frames := 1, cells := 0, slots := 0, locals := 13 } : Room).slots) := by
  refine MetFree.of_bodySF (plainFor_of_name pn_1) hisR ?_
  intro p e s m args below meth c s₁ Bd hml0 hP hK
  obtain ⟨rfl, hZ, hh⟩ := hP
  have hx := Bd.exec
  have hby := Bd.bytes
  have hml : c.maxLocals = 8 := hml0
  have hown : s.vm.findClass "com/example/enact/enact/net/Marking" = some m.cls := findClass_of_methodNamed Bd.named
  have hnm := (name_of_methodNamed Bd.named Bd.method).1
  have X0 : Stand p l e ({ frames := 1, cells := 0, slots := 0, locals := 13 } : Room) s m #[(.ref a0), (.ref a1)] below meth c s₁ [] 0 0 := Stand.of_body Bd
  have e0 : s₁.heap = h0 := by rw [← hh, Bd.state]; rfl
  have N0 := Fr.nil n0
  have pre0 : ∀ t, Steps p.tables e below (s₁.setTop (mkF m 0 #[.val (.ref a0), .val (.ref a1), .unset, .unset, .unset, .unset, .unset, .unset] [])) t → Steps p.tables e below (s₁.setTop (entryFrame m #[(.ref a0), (.ref a1)] 8)) t := fun t k => castTop (ef_ct0 m a0 a1) k
  have KC0 : Keep h0 h0 [a0] := Keep.refl h0 [a0]
  obtain ⟨T102, X102, e102, st102⟩ := initO X0 hx hZ hown (hw _ (List.mem_of_getElem? (i := 8) rfl)) (hw _ (List.mem_of_getElem? (i := 9) rfl)) (hw _ (List.mem_of_getElem? (i := 10) rfl)) e0 (g := (mkF m 1 #[.val (.ref a0), .val (.ref a1), .unset, .unset, .unset, .unset, .unset, .unset] [(.ref a0)])) rfl (by rw [hml]; rfl) rfl (hb hby d1_1) (by decide) (W := 0) (by show 2 * 0 + _ ≤ _; exact Nat.le_of_eq rfl) (by decide)
  obtain ⟨cl103, Ar103, q103, S103, N103, H103, G103⟩ := id V_a1
  obtain ⟨T104, h104, X104, e104, W104, st104⟩ := putF X102 hx hZ hown (host := "") (Or.inl (hw _ (List.mem_of_getElem? (i := 11) rfl))) Via.refl e102 F_a0_tokens E_a0 (Or.inr ⟨(hw _ (List.mem_of_getElem? (i := 12) rfl)), rfl, hnm⟩) (hw _ (List.mem_of_getElem? (i := 3) rfl)) (ty := (.array .int)) (by decide) rfl rfl (g := (mkF m 45 #[.val (.ref a0), .val (.ref a1), .val (.long (0 : Int64)), .second, .val (.ref a1), .val (.int (0 : Int32)), .val (.int (0 : Int32)), .unset] [(.ref a1), (.ref a0)])) rfl rfl (hb hby d1_45)
  have f105 := E_a0.wr W104
  have f106 := F_a0_total.other W104 (Or.inr (slot_ne (Or.inr (hw _ (List.mem_of_getElem? (i := 14) rfl))) (Or.inr (hw _ (List.mem_of_getElem? (i := 12) rfl))) (by decide) (t := .long) (t' := (.array .int)) (by decide) (by decide)))
  have f107 := F_a0_hash.other W104 (Or.inr (slot_ne (Or.inr (hw _ (List.mem_of_getElem? (i := 20) rfl))) (Or.inr (hw _ (List.mem_of_getElem? (i := 12) rfl))) (by decide) (t := .int) (t' := (.array .int)) (by decide) (by decide)))
  have f108 := V_a1.other W104 (Ne.symm ne_a0_a1)
  have Z109 : n0 ≤ h104.size := Nat.le_trans Z0 (Keep.of_wr W104).1
  have K110 : Keep h0 h104 [a0] := Keep.wr KC0 W104 (Or.inl (List.mem_of_getElem? (i := 0) rfl))
  have N111 := Fr.snoc X104 N0 g_a0
  have f112 : Fld Z h104 a0 "com/example/enact/enact/net/Marking" "tokens" "[I" (.ref a1) := F_a0_tokens.same W104
  obtain ⟨T113, h113, X113, e113, W113, st113⟩ := putF X104 hx hZ hown (host := "") (Or.inl (hw _ (List.mem_of_getElem? (i := 13) rfl))) Via.refl e104 f106 f105 (Or.inr ⟨(hw _ (List.mem_of_getElem? (i := 14) rfl)), rfl, hnm⟩) (hw _ (List.mem_of_getElem? (i := 3) rfl)) (ty := .long) (by decide) rfl rfl (g := (mkF m 50 #[.val (.ref a0), .val (.ref a1), .val (.long (0 : Int64)), .second, .val (.ref a1), .val (.int (0 : Int32)), .val (.int (0 : Int32)), .unset] [(.long (0 : Int64)), (.ref a0)])) rfl rfl (hb hby d1_50)
  have f114 := f105.wr W113
  have f115 := f107.other W113 (Or.inr (slot_ne (Or.inr (hw _ (List.mem_of_getElem? (i := 20) rfl))) (Or.inr (hw _ (List.mem_of_getElem? (i := 14) rfl))) (by decide) (t := .int) (t' := .long) (by decide) (by decide)))
  have f116 := f108.other W113 (Ne.symm ne_a0_a1)
  have f117 := f112.other W113 (Or.inr (slot_ne (Or.inr (hw _ (List.mem_of_getElem? (i := 12) rfl))) (Or.inr (hw _ (List.mem_of_getElem? (i := 14) rfl))) (by decide) (t := (.array .int)) (t' := .long) (by decide) (by decide)))
  have Z118 : n0 ≤ h113.size := Nat.le_trans Z109 (Keep.of_wr W113).1
  have K119 : Keep h0 h113 [a0] := Keep.wr K110 W113 (Or.inl (List.mem_of_getElem? (i := 0) rfl))
  have N120 := Fr.snoc X113 N111 g_a0
  have f121 : Fld Z h113 a0 "com/example/enact/enact/net/Marking" "total" "J" (.long (0 : Int64)) := f106.same W113
  obtain ⟨_, _, ⟨T122, L122, k122, n122⟩, -, X122, ⟨Lc122, hQ122, l122, y122, z122⟩, st122⟩ := Jvm.LawKit.callS X113 hx (y := (⟨"java/util/Arrays", "hashCode", "([I)I"⟩ : MethodName)) hown (mvT hZ (hw _ (List.mem_of_getElem? (i := 15) rfl))) (mvT hZ (hw _ (List.mem_of_getElem? (i := 16) rfl))) (mvT hZ (hw _ (List.mem_of_getElem? (i := 17) rfl))) (mvT hZ (hw _ (List.mem_of_getElem? (i := 18) rfl))) (by decide) (backOf (W := 1) (hh0 l Z aw hw [] a1 k1 h113 n0 Z118 f116 kc_a1) hZ (hw _ (List.mem_of_getElem? (i := 18) rfl)) (hw _ (List.mem_of_getElem? (i := 17) rfl)) (by decide) (by decide)) (g := (mkF m 55 #[.val (.ref a0), .val (.ref a1), .val (.long (0 : Int64)), .second, .val (.ref a1), .val (.int (0 : Int32)), .val (.int (0 : Int32)), .unset] [(.ref a1), (.ref a0)])) rfl (by rw [hml]; rfl) (argsL := [(.ref a1)]) (rest := [(.ref a0)]) (lenOf pd_0 rfl) rfl (by show 2 * 0 + _ ≤ _; exact Nat.le_of_eq rfl) (hb hby d1_55) (fun _ _ => ⟨rfl, e113, (by decide : 0 + 0 ≤ _), (by decide : 0 + 0 ≤ _)⟩)
  dsimp only [Pt.U, Pt.locs, Pt.cells, Pt.slots] at X122 l122 y122 z122 st122 hQ122
  subst l122 y122 z122
  obtain ⟨rfl, N122q, e122⟩ := hQ122
  have N122 := Fr.app N120 N122q
  obtain ⟨T123, h123, X123, e123, W123, st123⟩ := putF X122 hx hZ hown (host := "") (Or.inl (hw _ (List.mem_of_getElem? (i := 19) rfl))) Via.refl e122 f115 f114 (Or.inr ⟨(hw _ (List.mem_of_getElem? (i := 20) rfl)), rfl, hnm⟩) (hw _ (List.mem_of_getElem? (i := 3) rfl)) (ty := .int) (by decide) rfl rfl (g := (mkF m 58 #[.val (.ref a0), .val (.ref a1), .val (.long (0 : Int64)), .second, .val (.ref a1), .val (.int (0 : Int32)), .val (.int (0 : Int32)), .unset] [(.int (1 : Int32)), (.ref a0)])) rfl rfl (hb hby d1_58)
  have f124 := f114.wr W123
  have f125 := f116.other W123 (Ne.symm ne_a0_a1)
  have f126 := f117.other W123 (Or.inr (slot_ne (Or.inr (hw _ (List.mem_of_getElem? (i := 12) rfl))) (Or.inr (hw _ (List.mem_of_getElem? (i := 20) rfl))) (by decide) (t := (.array .int)) (t' := .int) (by decide) (by decide)))
  have f127 := f121.other W123 (Or.inr (slot_ne (Or.inr (hw _ (List.mem_of_getElem? (i := 14) rfl))) (Or.inr (hw _ (List.mem_of_getElem? (i := 20) rfl))) (by decide) (t := .long) (t' := .int) (by decide) (by decide)))
  have Z128 : n0 ≤ h123.size := Nat.le_trans Z118 (Keep.of_wr W123).1
  have K129 : Keep h0 h123 [a0] := Keep.wr K119 W123 (Or.inl (List.mem_of_getElem? (i := 0) rfl))
  have N130 := Fr.snoc X123 N122 g_a0
  have f131 : Fld Z h123 a0 "com/example/enact/enact/net/Marking" "hash" "I" (.int (1 : Int32)) := f115.same W123
  obtain ⟨fs, hr, hrun, hended, hW, hsame⟩ := X123.leave (v := none) (fun _ => rfl)
  refine ⟨_, _, pre0 _ ?_, hrun, hended, _, _, rfl, ?_, ⟨_, rfl⟩, hW, hsame.mono (by decide) (by decide)⟩
  ·
    show Steps p.tables e below (s₁.setTop (mkF m 0 #[.val (.ref a0), .val (.ref a1), .unset, .unset, .unset, .unset, .unset, .unset] [])) _
    refine XS.aloadN X0.here hx rfl (hb hby d1_0) rfl rfl ?_
    show Steps p.tables e below (s₁.setTop (mkF m 1 #[.val (.ref a0), .val (.ref a1), .unset, .unset, .unset, .unset, .unset, .unset] [(.ref a0)])) _
    refine st102 _ ?_
    show Steps p.tables e below (T102.setTop (mkF m 4 #[.val (.ref a0), .val (.ref a1), .unset, .unset, .unset, .unset, .unset, .unset] [])) _
    refine XS.lconst X102.here hx rfl (hb hby d1_4) ?_
    show Steps p.tables e below (T102.setTop (mkF m 5 #[.val (.ref a0), .val (.ref a1), .unset, .unset, .unset, .unset, .unset, .unset] [(.long (0 : Int64))])) _
    refine XS.lstoreN X102.here hx rfl (hb hby d1_5) rfl (l' := #[.val (.ref a0), .val (.ref a1), .val (.long (0 : Int64)), .second, .unset, .unset, .unset, .unset]) rfl ?_
    show Steps p.tables e below (T102.setTop (mkF m 6 #[.val (.ref a0), .val (.ref a1), .val (.long (0 : Int64)), .second, .unset, .unset, .unset, .unset] [])) _
    refine XS.aloadN X102.here hx rfl (hb hby d1_6) rfl rfl ?_
    show Steps p.tables e below (T102.setTop (mkF m 7 #[.val (.ref a0), .val (.ref a1), .val (.long (0 : Int64)), .second, .unset, .unset, .unset, .unset] [(.ref a1)])) _
    refine XS.astore X102.here hx rfl (hb hby d1_7) rfl rfl (l' := #[.val (.ref a0), .val (.ref a1), .val (.long (0 : Int64)), .second, .val (.ref a1), .unset, .unset, .unset]) rfl ?_
    show Steps p.tables e below (T102.setTop (mkF m 9 #[.val (.ref a0), .val (.ref a1), .val (.long (0 : Int64)), .second, .val (.ref a1), .unset, .unset, .unset] [])) _
    refine XS.aload X102.here hx rfl (hb hby d1_9) rfl rfl ?_
    show Steps p.tables e below (T102.setTop (mkF m 11 #[.val (.ref a0), .val (.ref a1), .val (.long (0 : Int64)), .second, .val (.ref a1), .unset, .unset, .unset] [(.ref a1)])) _
    refine X102.arraylength hx (by rw [e102]; exact Ar103.1) (State.isArrayOf_alike hZ.alike Ar103.2.1) (g := (mkF m 11 #[.val (.ref a0), .val (.ref a1), .val (.long (0 : Int64)), .second, .val (.ref a1), .unset, .unset, .unset] [(.ref a1)])) rfl rfl (hb hby d1_11) _ ?_
    rw [len_of S103 N103]
    show Steps p.tables e below (T102.setTop (mkF m 12 #[.val (.ref a0), .val (.ref a1), .val (.long (0 : Int64)), .second, .val (.ref a1), .unset, .unset, .unset] [(.int (0 : Int32))])) _
    refine XS.istore X102.here hx rfl (hb hby d1_12) rfl (l' := #[.val (.ref a0), .val (.ref a1), .val (.long (0 : Int64)), .second, .val (.ref a1), .val (.int (0 : Int32)), .unset, .unset]) rfl ?_
    show Steps p.tables e below (T102.setTop (mkF m 14 #[.val (.ref a0), .val (.ref a1), .val (.long (0 : Int64)), .second, .val (.ref a1), .val (.int (0 : Int32)), .unset, .unset] [])) _
    refine XS.iconst X102.here hx rfl (hb hby d1_14) ?_
    show Steps p.tables e below (T102.setTop (mkF m 15 #[.val (.ref a0), .val (.ref a1), .val (.long (0 : Int64)), .second, .val (.ref a1), .val (.int (0 : Int32)), .unset, .unset] [(.int (0 : Int32))])) _
    refine XS.istore X102.here hx rfl (hb hby d1_15) rfl (l' := #[.val (.ref a0), .val (.ref a1), .val (.long (0 : Int64)), .second, .val (.ref a1), .val (.int (0 : Int32)), .val (.int (0 : Int32)), .unset]) rfl ?_
    show Steps p.tables e below (T102.setTop (mkF m 17 #[.val (.ref a0), .val (.ref a1), .val (.long (0 : Int64)), .second, .val (.ref a1), .val (.int (0 : Int32)), .val (.int (0 : Int32)), .unset] [])) _
    refine XS.iload X102.here hx rfl (hb hby d1_17) rfl ?_
    show Steps p.tables e below (T102.setTop (mkF m 19 #[.val (.ref a0), .val (.ref a1), .val (.long (0 : Int64)), .second, .val (.ref a1), .val (.int (0 : Int32)), .val (.int (0 : Int32)), .unset] [(.int (0 : Int32))])) _
    refine XS.iload X102.here hx rfl (hb hby d1_19) rfl ?_
    show Steps p.tables e below (T102.setTop (mkF m 21 #[.val (.ref a0), .val (.ref a1), .val (.long (0 : Int64)), .second, .val (.ref a1), .val (.int (0 : Int32)), .val (.int (0 : Int32)), .unset] [(.int (0 : Int32)), (.int (0 : Int32))])) _
    refine XS.icmpYes X102.here hx rfl (pc0 := 21) (pc' := 43) rfl (hb hby d1_21) rfl (flt (by decide)).2.1 (by decide) (by decide) ?_
    show Steps p.tables e below (T102.setTop (mkF m 43 #[.val (.ref a0), .val (.ref a1), .val (.long (0 : Int64)), .second, .val (.ref a1), .val (.int (0 : Int32)), .val (.int (0 : Int32)), .unset] [])) _
    refine XS.aloadN X102.here hx rfl (hb hby d1_43) rfl rfl ?_
    show Steps p.tables e below (T102.setTop (mkF m 44 #[.val (.ref a0), .val (.ref a1), .val (.long (0 : Int64)), .second, .val (.ref a1), .val (.int (0 : Int32)), .val (.int (0 : Int32)), .unset] [(.ref a0)])) _
    refine XS.aloadN X102.here hx rfl (hb hby d1_44) rfl rfl ?_
    show Steps p.tables e below (T102.setTop (mkF m 45 #[.val (.ref a0), .val (.ref a1), .val (.long (0 : Int64)), .second, .val (.ref a1), .val (.int (0 : Int32)), .val (.int (0 : Int32)), .unset] [(.ref a1), (.ref a0)])) _
    refine st104 _ ?_
    show Steps p.tables e below (T104.setTop (mkF m 48 #[.val (.ref a0), .val (.ref a1), .val (.long (0 : Int64)), .second, .val (.ref a1), .val (.int (0 : Int32)), .val (.int (0 : Int32)), .unset] [])) _
    refine XS.aloadN X104.here hx rfl (hb hby d1_48) rfl rfl ?_
    show Steps p.tables e below (T104.setTop (mkF m 49 #[.val (.ref a0), .val (.ref a1), .val (.long (0 : Int64)), .second, .val (.ref a1), .val (.int (0 : Int32)), .val (.int (0 : Int32)), .unset] [(.ref a0)])) _
    refine XS.lloadN X104.here hx rfl (hb hby d1_49) rfl ?_
    show Steps p.tables e below (T104.setTop (mkF m 50 #[.val (.ref a0), .val (.ref a1), .val (.long (0 : Int64)), .second, .val (.ref a1), .val (.int (0 : Int32)), .val (.int (0 : Int32)), .unset] [(.long (0 : Int64)), (.ref a0)])) _
    refine st113 _ ?_
    show Steps p.tables e below (T113.setTop (mkF m 53 #[.val (.ref a0), .val (.ref a1), .val (.long (0 : Int64)), .second, .val (.ref a1), .val (.int (0 : Int32)), .val (.int (0 : Int32)), .unset] [])) _
    refine XS.aloadN X113.here hx rfl (hb hby d1_53) rfl rfl ?_
    show Steps p.tables e below (T113.setTop (mkF m 54 #[.val (.ref a0), .val (.ref a1), .val (.long (0 : Int64)), .second, .val (.ref a1), .val (.int (0 : Int32)), .val (.int (0 : Int32)), .unset] [(.ref a0)])) _
    refine XS.aloadN X113.here hx rfl (hb hby d1_54) rfl rfl ?_
    show Steps p.tables e below (T113.setTop (mkF m 55 #[.val (.ref a0), .val (.ref a1), .val (.long (0 : Int64)), .second, .val (.ref a1), .val (.int (0 : Int32)), .val (.int (0 : Int32)), .unset] [(.ref a1), (.ref a0)])) _
    refine st122 _ ?_
    show Steps p.tables e below (T122.setTop (mkF m 58 #[.val (.ref a0), .val (.ref a1), .val (.long (0 : Int64)), .second, .val (.ref a1), .val (.int (0 : Int32)), .val (.int (0 : Int32)), .unset] [(.int (1 : Int32)), (.ref a0)])) _
    refine st123 _ ?_
    show Steps p.tables e below (T123.setTop (mkF m 61 #[.val (.ref a0), .val (.ref a1), .val (.long (0 : Int64)), .second, .val (.ref a1), .val (.int (0 : Int32)), .val (.int (0 : Int32)), .unset] [])) _
    exact X123.returnOut hx Bd.returns (hb hby d1_61) hr
  ·
    show Q_ct0 Z a0 a1 k1 h0 n0 _ T123.heap _
    rw [e123]
    exact ⟨rfl, N130, K129, f124, f126⟩
theorem d3_40 : decode jdk_65_method_150_code 40 = .ok (.bipush 31, 2) := by decide +kernel
theorem d3_42 : decode jdk_65_method_150_code 42 = .ok (.aload_n 0, 1) := by decide +kernel
theorem d3_43 : decode jdk_65_method_150_code 43 = .ok (.iconst 0, 1) := by decide +kernel
theorem d3_44 : decode jdk_65_method_150_code 44 = .ok (.iaload, 1) := by decide +kernel
theorem d3_45 : decode jdk_65_method_150_code 45 = .ok (.iadd, 1) := by decide +kernel
theorem d3_46 : decode jdk_65_method_150_code 46 = .ok (.goto 13, 3) := by decide +kernel
theorem ef_hh1 (m : MethodId) (a0 : Addr) : entryFrame m #[(.ref a0)] 1 = mkF m 0 #[.val (.ref a0)] [] := by first | (simp [entryFrame, mkF, argsToLocals, Value.category]; done) | rfl
def Q_hh1 (Z : State) (a0 : Addr) (k1 : ClassId) (w0 : Int32) (h0 : Heap) (n0 : Nat) (v : Option Value) (h : Heap) (L : List Loc) : Prop := v = some (.int ((31 : Int32) + w0)) ∧ Fr n0 L ∧ h = h0
set_option maxRecDepth 65536 in
set_option maxHeartbeats 40000000 in
theorem hh1 (l : Launch) (Z : State) (aw : Array Value) (hw : ∀ d ∈ tables_1, d.before aw Z = true) (ws : List Jvm.Cond) (a0 : Addr) (k1 : ClassId) (w0 : Int32) (h0 : Heap) (n0 : Nat) (Z0 : n0 ≤ h0.size) (V_a0 : Arv Z h0 a0 k1 .int (1 : Int32) [(.int w0)] (.int (0 : Int32))) (kc_a0 : Z.vm.findClass "[I" = some k1) :
    MetFree l (⟨"java/util/Arrays", "hashCode", "([I)I"⟩ : MethodName) (head1 (Jvm.Cond.code (⟨"java/util/Arrays", "hashCode", "([I)I"⟩ : MethodName) jdk_65_method_150_code 1 (some .int) :: ws) ({ frames := 0, cells := 0, slots := 0, locals := 0 } : Room)) (fun a U => a = #[(.ref a0)] ∧ Z.Warmed39 U.vm ∧ U.heap = h0) (fun _ _ _ _ _ => True) (fun _ U o U' => ∃ v L, o = .returned v ∧ Q_hh1 Z a0 k1 w0 h0 n0 v U'.heap L ∧ FrameEnd U o U' L ({ frames := 0, cells := 0, slots := 0, locals := 0 } : Room).cells ({ frames := 0, cells := 0, slots := 0, locals := 0 } : Room).slots) := by
  refine MetFree.of_bodySF (plainFor_of_name pn_0) hisR ?_
  intro p e s m args below meth c s₁ Bd hml0 hP hK
  obtain ⟨rfl, hZ, hh⟩ := hP
  have hx := Bd.exec
  have hby := Bd.bytes
  have hml : c.maxLocals = 1 := hml0
  have hown : s.vm.findClass "java/util/Arrays" = some m.cls := findClass_of_methodNamed Bd.named
  have hnm := (name_of_methodNamed Bd.named Bd.method).1
  have X0 : Stand p l e ({ frames := 0, cells := 0, slots := 0, locals := 0 } : Room) s m #[(.ref a0)] below meth c s₁ [] 0 0 := Stand.of_body Bd
  have e0 : s₁.heap = h0 := by rw [← hh, Bd.state]; rfl
  have N0 := Fr.nil n0
  have pre0 : ∀ t, Steps p.tables e below (s₁.setTop (mkF m 0 #[.val (.ref a0)] [])) t → Steps p.tables e below (s₁.setTop (entryFrame m #[(.ref a0)] 1)) t := fun t k => castTop (ef_hh1 m a0) k
  obtain ⟨cl132, Ar132, q132, S132, N132, H132, G132⟩ := id V_a0
  obtain ⟨cl133, Ar133, q133, S133, N133, H133, G133⟩ := id V_a0
  have hin133 : ¬ ((0 : Int32) < 0 ∨ cl133.slots.size ≤ ((0 : Int32)).toNatClampNeg) := inb_of S133 ⟨by decide, by decide⟩
  have hat133 : cl133.slots[((0 : Int32)).toNatClampNeg]? = some (.int w0) := Has.at H133 hin133 rfl
  obtain ⟨fs, hr, hrun, hended, hW, hsame⟩ := X0.leave (v := some (.int ((31 : Int32) + w0))) (fun h => by rw [Bd.returns] at h; cases h)
  refine ⟨_, _, pre0 _ ?_, hrun, hended, _, _, rfl, ?_, ⟨_, rfl⟩, hW, hsame.mono (by decide) (by decide)⟩
  ·
    show Steps p.tables e below (s₁.setTop (mkF m 0 #[.val (.ref a0)] [])) _
    refine XS.aloadN X0.here hx rfl (hb hby d3_0) rfl rfl ?_
    show Steps p.tables e below (s₁.setTop (mkF m 1 #[.val (.ref a0)] [(.ref a0)])) _
    refine XS.ifnonnullYes X0.here hx rfl (pc0 := 1) (pc' := 6) rfl (hb hby d3_1) rfl (by decide) (by decide) ?_
    show Steps p.tables e below (s₁.setTop (mkF m 6 #[.val (.ref a0)] [])) _
    refine XS.aloadN X0.here hx rfl (hb hby d3_6) rfl rfl ?_
    show Steps p.tables e below (s₁.setTop (mkF m 7 #[.val (.ref a0)] [(.ref a0)])) _
    refine X0.arraylength hx (by rw [e0]; exact Ar132.1) (State.isArrayOf_alike hZ.alike Ar132.2.1) (g := (mkF m 7 #[.val (.ref a0)] [(.ref a0)])) rfl rfl (hb hby d3_7) _ ?_
    rw [len_of S132 N132]
    show Steps p.tables e below (s₁.setTop (mkF m 8 #[.val (.ref a0)] [(.int (1 : Int32))])) _
    refine lswHit X0 hx rfl (pc0 := 8) (pc' := 40) rfl (hb hby d3_8) rfl (by decide) (a := 1) (off := 32) (by decide) (by decide) (by decide) ?_
    show Steps p.tables e below (s₁.setTop (mkF m 40 #[.val (.ref a0)] [])) _
    refine XS.bipush X0.here hx rfl (hb hby d3_40) ?_
    show Steps p.tables e below (s₁.setTop (mkF m 42 #[.val (.ref a0)] [(.int (31 : Int32))])) _
    refine XS.aloadN X0.here hx rfl (hb hby d3_42) rfl rfl ?_
    show Steps p.tables e below (s₁.setTop (mkF m 43 #[.val (.ref a0)] [(.ref a0), (.int (31 : Int32))])) _
    refine XS.iconst X0.here hx rfl (hb hby d3_43) ?_
    show Steps p.tables e below (s₁.setTop (mkF m 44 #[.val (.ref a0)] [(.int (0 : Int32)), (.ref a0), (.int (31 : Int32))])) _
    refine X0.iaload hx (j := (0 : Int32)) (v := (.int w0)) (by rw [e0]; exact Ar133.1) (State.isArrayOf_alike hZ.alike Ar133.2.1) Ar133.2.2 hin133 hat133 (g := (mkF m 44 #[.val (.ref a0)] [(.int (0 : Int32)), (.ref a0), (.int (31 : Int32))])) rfl rfl (hb hby d3_44) _ ?_
    show Steps p.tables e below (s₁.setTop (mkF m 45 #[.val (.ref a0)] [(.int w0), (.int (31 : Int32))])) _
    refine XS.iadd X0.here hx rfl (hb hby d3_45) rfl ?_
    show Steps p.tables e below (s₁.setTop (mkF m 46 #[.val (.ref a0)] [(.int ((31 : Int32) + w0))])) _
    refine XS.goto X0.here hx rfl (pc0 := 46) (pc' := 59) rfl (hb hby d3_46) (by decide) (by decide) ?_
    show Steps p.tables e below (s₁.setTop (mkF m 59 #[.val (.ref a0)] [(.int ((31 : Int32) + w0))])) _
    exact retI X0 hx Bd.returns (hb hby d3_59) hr
  ·
    show Q_hh1 Z a0 k1 w0 h0 n0 _ s₁.heap _
    rw [e0]
    exact ⟨rfl, N0, rfl⟩
theorem d1_24 : decode prog_29_method_1_code 24 = .ok (.aload 4, 2) := by decide +kernel
theorem d1_26 : decode prog_29_method_1_code 26 = .ok (.iload 6, 2) := by decide +kernel
theorem d1_28 : decode prog_29_method_1_code 28 = .ok (.iaload, 1) := by decide +kernel
theorem d1_29 : decode prog_29_method_1_code 29 = .ok (.istore 7, 2) := by decide +kernel
theorem d1_31 : decode prog_29_method_1_code 31 = .ok (.lload_n 2, 1) := by decide +kernel
theorem d1_32 : decode prog_29_method_1_code 32 = .ok (.iload 7, 2) := by decide +kernel
theorem d1_34 : decode prog_29_method_1_code 34 = .ok (.i2l, 1) := by decide +kernel
theorem d1_35 : decode prog_29_method_1_code 35 = .ok (.ladd, 1) := by decide +kernel
theorem d1_36 : decode prog_29_method_1_code 36 = .ok (.lstore_n 2, 1) := by decide +kernel
theorem d1_37 : decode prog_29_method_1_code 37 = .ok (.iinc 6 1, 3) := by decide +kernel
theorem d1_40 : decode prog_29_method_1_code 40 = .ok (.goto (-23), 3) := by decide +kernel
theorem ef_ct1 (m : MethodId) (a0 : Addr) (a1 : Addr) : entryFrame m #[(.ref a0), (.ref a1)] 8 = mkF m 0 #[.val (.ref a0), .val (.ref a1), .unset, .unset, .unset, .unset, .unset, .unset] [] := by first | (simp [entryFrame, mkF, argsToLocals, Value.category]; done) | rfl
def Q_ct1 (Z : State) (a0 : Addr) (a1 : Addr) (k1 : ClassId) (w0 : Int32) (h0 : Heap) (n0 : Nat) (v : Option Value) (h : Heap) (L : List Loc) : Prop := v = none ∧ Fr n0 L ∧ Keep h0 h [a0] ∧ Exa Z h a0 "com/example/enact/enact/net/Marking" ∧ Fld Z h a0 "com/example/enact/enact/net/Marking" "tokens" "[I" (.ref a1)
set_option maxRecDepth 65536 in
set_option maxHeartbeats 40000000 in
theorem ct1 (l : Launch) (Z : State) (aw : Array Value) (hw : ∀ d ∈ tables_1, d.before aw Z = true) (ws : List Jvm.Cond) (a0 : Addr) (a1 : Addr) (k1 : ClassId) (w0 : Int32) (h0 : Heap) (n0 : Nat) (Z0 : n0 ≤ h0.size) (E_a0 : Exa Z h0 a0 "com/example/enact/enact/net/Marking") (F_a0_tokens : Fld Z h0 a0 "com/example/enact/enact/net/Marking" "tokens" "[I" .null) (F_a0_total : Fld Z h0 a0 "com/example/enact/enact/net/Marking" "total" "J" (.long (0 : Int64))) (F_a0_hash : Fld Z h0 a0 "com/example/enact/enact/net/Marking" "hash" "I" (.int (0 : Int32))) (g_a0 : n0 ≤ a0) (V_a1 : Arv Z h0 a1 k1 .int (1 : Int32) [(.int w0)] (.int (0 : Int32))) (kc_a1 : Z.vm.findClass "[I" = some k1) (ne_a0_a1 : a0 ≠ a1) :
    MetFree l (⟨"com/example/enact/enact/net/Marking", "<init>", "([I)V"⟩ : MethodName) (head1 (Jvm.Cond.code (⟨"com/example/enact/enact/net/Marking", "<init>", "([I)V"⟩ : MethodName) prog_29_method_1_code 8 none :: ws) ({ frames := 1, cells := 0, slots := 0, locals := 13 } : Room)) (fun a U => a = #[(.ref a0), (.ref a1)] ∧ Z.Warmed39 U.vm ∧ U.heap = h0) (fun _ _ _ _ _ => True) (fun _ U o U' => ∃ v L, o = .returned v ∧ Q_ct1 Z a0 a1 k1 w0 h0 n0 v U'.heap L ∧ FrameEnd U o U' L ({ frames := 1, cells := 0, slots := 0, locals := 13 } : Room).cells ({ frames := 1, cells := 0, slots := 0, locals := 13 } : Room).slots) := by
  refine MetFree.of_bodySF (plainFor_of_name pn_1) hisR ?_
  intro p e s m args below meth c s₁ Bd hml0 hP hK
  obtain ⟨rfl, hZ, hh⟩ := hP
  have hx := Bd.exec
  have hby := Bd.bytes
  have hml : c.maxLocals = 8 := hml0
  have hown : s.vm.findClass "com/example/enact/enact/net/Marking" = some m.cls := findClass_of_methodNamed Bd.named
  have hnm := (name_of_methodNamed Bd.named Bd.method).1
  have X0 : Stand p l e ({ frames := 1, cells := 0, slots := 0, locals := 13 } : Room) s m #[(.ref a0), (.ref a1)] below meth c s₁ [] 0 0 := Stand.of_body Bd
  have e0 : s₁.heap = h0 := by rw [← hh, Bd.state]; rfl
  have N0 := Fr.nil n0
  have pre0 : ∀ t, Steps p.tables e below (s₁.setTop (mkF m 0 #[.val (.ref a0), .val (.ref a1), .unset, .unset, .unset, .unset, .unset, .unset] [])) t → Steps p.tables e below (s₁.setTop (entryFrame m #[(.ref a0), (.ref a1)] 8)) t := fun t k => castTop (ef_ct1 m a0 a1) k
  have KC0 : Keep h0 h0 [a0] := Keep.refl h0 [a0]
  obtain ⟨T134, X134, e134, st134⟩ := initO X0 hx hZ hown (hw _ (List.mem_of_getElem? (i := 8) rfl)) (hw _ (List.mem_of_getElem? (i := 9) rfl)) (hw _ (List.mem_of_getElem? (i := 10) rfl)) e0 (g := (mkF m 1 #[.val (.ref a0), .val (.ref a1), .unset, .unset, .unset, .unset, .unset, .unset] [(.ref a0)])) rfl (by rw [hml]; rfl) rfl (hb hby d1_1) (by decide) (W := 0) (by show 2 * 0 + _ ≤ _; exact Nat.le_of_eq rfl) (by decide)
  obtain ⟨cl135, Ar135, q135, S135, N135, H135, G135⟩ := id V_a1
  obtain ⟨cl136, Ar136, q136, S136, N136, H136, G136⟩ := id V_a1
  have hin136 : ¬ ((0 : Int32) < 0 ∨ cl136.slots.size ≤ ((0 : Int32)).toNatClampNeg) := inb_of S136 ⟨by decide, by decide⟩
  have hat136 : cl136.slots[((0 : Int32)).toNatClampNeg]? = some (.int w0) := Has.at H136 hin136 rfl
  obtain ⟨T137, h137, X137, e137, W137, st137⟩ := putF X134 hx hZ hown (host := "") (Or.inl (hw _ (List.mem_of_getElem? (i := 11) rfl))) Via.refl e134 F_a0_tokens E_a0 (Or.inr ⟨(hw _ (List.mem_of_getElem? (i := 12) rfl)), rfl, hnm⟩) (hw _ (List.mem_of_getElem? (i := 3) rfl)) (ty := (.array .int)) (by decide) rfl rfl (g := (mkF m 45 #[.val (.ref a0), .val (.ref a1), .val (.long ((0 : Int64) + (w0.toInt64))), .second, .val (.ref a1), .val (.int (1 : Int32)), .val (.int (1 : Int32)), .val (.int w0)] [(.ref a1), (.ref a0)])) rfl rfl (hb hby d1_45)
  have f138 := E_a0.wr W137
  have f139 := F_a0_total.other W137 (Or.inr (slot_ne (Or.inr (hw _ (List.mem_of_getElem? (i := 14) rfl))) (Or.inr (hw _ (List.mem_of_getElem? (i := 12) rfl))) (by decide) (t := .long) (t' := (.array .int)) (by decide) (by decide)))
  have f140 := F_a0_hash.other W137 (Or.inr (slot_ne (Or.inr (hw _ (List.mem_of_getElem? (i := 20) rfl))) (Or.inr (hw _ (List.mem_of_getElem? (i := 12) rfl))) (by decide) (t := .int) (t' := (.array .int)) (by decide) (by decide)))
  have f141 := V_a1.other W137 (Ne.symm ne_a0_a1)
  have Z142 : n0 ≤ h137.size := Nat.le_trans Z0 (Keep.of_wr W137).1
  have K143 : Keep h0 h137 [a0] := Keep.wr KC0 W137 (Or.inl (List.mem_of_getElem? (i := 0) rfl))
  have N144 := Fr.snoc X137 N0 g_a0
  have f145 : Fld Z h137 a0 "com/example/enact/enact/net/Marking" "tokens" "[I" (.ref a1) := F_a0_tokens.same W137
  obtain ⟨T146, h146, X146, e146, W146, st146⟩ := putF X137 hx hZ hown (host := "") (Or.inl (hw _ (List.mem_of_getElem? (i := 13) rfl))) Via.refl e137 f139 f138 (Or.inr ⟨(hw _ (List.mem_of_getElem? (i := 14) rfl)), rfl, hnm⟩) (hw _ (List.mem_of_getElem? (i := 3) rfl)) (ty := .long) (by decide) rfl rfl (g := (mkF m 50 #[.val (.ref a0), .val (.ref a1), .val (.long ((0 : Int64) + (w0.toInt64))), .second, .val (.ref a1), .val (.int (1 : Int32)), .val (.int (1 : Int32)), .val (.int w0)] [(.long ((0 : Int64) + (w0.toInt64))), (.ref a0)])) rfl rfl (hb hby d1_50)
  have f147 := f138.wr W146
  have f148 := f140.other W146 (Or.inr (slot_ne (Or.inr (hw _ (List.mem_of_getElem? (i := 20) rfl))) (Or.inr (hw _ (List.mem_of_getElem? (i := 14) rfl))) (by decide) (t := .int) (t' := .long) (by decide) (by decide)))
  have f149 := f141.other W146 (Ne.symm ne_a0_a1)
  have f150 := f145.other W146 (Or.inr (slot_ne (Or.inr (hw _ (List.mem_of_getElem? (i := 12) rfl))) (Or.inr (hw _ (List.mem_of_getElem? (i := 14) rfl))) (by decide) (t := (.array .int)) (t' := .long) (by decide) (by decide)))
  have Z151 : n0 ≤ h146.size := Nat.le_trans Z142 (Keep.of_wr W146).1
  have K152 : Keep h0 h146 [a0] := Keep.wr K143 W146 (Or.inl (List.mem_of_getElem? (i := 0) rfl))
  have N153 := Fr.snoc X146 N144 g_a0
  have f154 : Fld Z h146 a0 "com/example/enact/enact/net/Marking" "total" "J" (.long ((0 : Int64) + (w0.toInt64))) := f139.same W146
  obtain ⟨_, _, ⟨T155, L155, k155, n155⟩, -, X155, ⟨Lc155, hQ155, l155, y155, z155⟩, st155⟩ := Jvm.LawKit.callS X146 hx (y := (⟨"java/util/Arrays", "hashCode", "([I)I"⟩ : MethodName)) hown (mvT hZ (hw _ (List.mem_of_getElem? (i := 15) rfl))) (mvT hZ (hw _ (List.mem_of_getElem? (i := 16) rfl))) (mvT hZ (hw _ (List.mem_of_getElem? (i := 17) rfl))) (mvT hZ (hw _ (List.mem_of_getElem? (i := 18) rfl))) (by decide) (backOf (W := 1) (hh1 l Z aw hw [] a1 k1 w0 h146 n0 Z151 f149 kc_a1) hZ (hw _ (List.mem_of_getElem? (i := 18) rfl)) (hw _ (List.mem_of_getElem? (i := 17) rfl)) (by decide) (by decide)) (g := (mkF m 55 #[.val (.ref a0), .val (.ref a1), .val (.long ((0 : Int64) + (w0.toInt64))), .second, .val (.ref a1), .val (.int (1 : Int32)), .val (.int (1 : Int32)), .val (.int w0)] [(.ref a1), (.ref a0)])) rfl (by rw [hml]; rfl) (argsL := [(.ref a1)]) (rest := [(.ref a0)]) (lenOf pd_0 rfl) rfl (by show 2 * 0 + _ ≤ _; exact Nat.le_of_eq rfl) (hb hby d1_55) (fun _ _ => ⟨rfl, e146, (by decide : 0 + 0 ≤ _), (by decide : 0 + 0 ≤ _)⟩)
  dsimp only [Pt.U, Pt.locs, Pt.cells, Pt.slots] at X155 l155 y155 z155 st155 hQ155
  subst l155 y155 z155
  obtain ⟨rfl, N155q, e155⟩ := hQ155
  have N155 := Fr.app N153 N155q
  obtain ⟨T156, h156, X156, e156, W156, st156⟩ := putF X155 hx hZ hown (host := "") (Or.inl (hw _ (List.mem_of_getElem? (i := 19) rfl))) Via.refl e155 f148 f147 (Or.inr ⟨(hw _ (List.mem_of_getElem? (i := 20) rfl)), rfl, hnm⟩) (hw _ (List.mem_of_getElem? (i := 3) rfl)) (ty := .int) (by decide) rfl rfl (g := (mkF m 58 #[.val (.ref a0), .val (.ref a1), .val (.long ((0 : Int64) + (w0.toInt64))), .second, .val (.ref a1), .val (.int (1 : Int32)), .val (.int (1 : Int32)), .val (.int w0)] [(.int ((31 : Int32) + w0)), (.ref a0)])) rfl rfl (hb hby d1_58)
  have f157 := f147.wr W156
  have f158 := f149.other W156 (Ne.symm ne_a0_a1)
  have f159 := f150.other W156 (Or.inr (slot_ne (Or.inr (hw _ (List.mem_of_getElem? (i := 12) rfl))) (Or.inr (hw _ (List.mem_of_getElem? (i := 20) rfl))) (by decide) (t := (.array .int)) (t' := .int) (by decide) (by decide)))
  have f160 := f154.other W156 (Or.inr (slot_ne (Or.inr (hw _ (List.mem_of_getElem? (i := 14) rfl))) (Or.inr (hw _ (List.mem_of_getElem? (i := 20) rfl))) (by decide) (t := .long) (t' := .int) (by decide) (by decide)))
  have Z161 : n0 ≤ h156.size := Nat.le_trans Z151 (Keep.of_wr W156).1
  have K162 : Keep h0 h156 [a0] := Keep.wr K152 W156 (Or.inl (List.mem_of_getElem? (i := 0) rfl))
  have N163 := Fr.snoc X156 N155 g_a0
  have f164 : Fld Z h156 a0 "com/example/enact/enact/net/Marking" "hash" "I" (.int ((31 : Int32) + w0)) := f148.same W156
  obtain ⟨fs, hr, hrun, hended, hW, hsame⟩ := X156.leave (v := none) (fun _ => rfl)
  refine ⟨_, _, pre0 _ ?_, hrun, hended, _, _, rfl, ?_, ⟨_, rfl⟩, hW, hsame.mono (by decide) (by decide)⟩
  ·
    show Steps p.tables e below (s₁.setTop (mkF m 0 #[.val (.ref a0), .val (.ref a1), .unset, .unset, .unset, .unset, .unset, .unset] [])) _
    refine XS.aloadN X0.here hx rfl (hb hby d1_0) rfl rfl ?_
    show Steps p.tables e below (s₁.setTop (mkF m 1 #[.val (.ref a0), .val (.ref a1), .unset, .unset, .unset, .unset, .unset, .unset] [(.ref a0)])) _
    refine st134 _ ?_
    show Steps p.tables e below (T134.setTop (mkF m 4 #[.val (.ref a0), .val (.ref a1), .unset, .unset, .unset, .unset, .unset, .unset] [])) _
    refine XS.lconst X134.here hx rfl (hb hby d1_4) ?_
    show Steps p.tables e below (T134.setTop (mkF m 5 #[.val (.ref a0), .val (.ref a1), .unset, .unset, .unset, .unset, .unset, .unset] [(.long (0 : Int64))])) _
    refine XS.lstoreN X134.here hx rfl (hb hby d1_5) rfl (l' := #[.val (.ref a0), .val (.ref a1), .val (.long (0 : Int64)), .second, .unset, .unset, .unset, .unset]) rfl ?_
    show Steps p.tables e below (T134.setTop (mkF m 6 #[.val (.ref a0), .val (.ref a1), .val (.long (0 : Int64)), .second, .unset, .unset, .unset, .unset] [])) _
    refine XS.aloadN X134.here hx rfl (hb hby d1_6) rfl rfl ?_
    show Steps p.tables e below (T134.setTop (mkF m 7 #[.val (.ref a0), .val (.ref a1), .val (.long (0 : Int64)), .second, .unset, .unset, .unset, .unset] [(.ref a1)])) _
    refine XS.astore X134.here hx rfl (hb hby d1_7) rfl rfl (l' := #[.val (.ref a0), .val (.ref a1), .val (.long (0 : Int64)), .second, .val (.ref a1), .unset, .unset, .unset]) rfl ?_
    show Steps p.tables e below (T134.setTop (mkF m 9 #[.val (.ref a0), .val (.ref a1), .val (.long (0 : Int64)), .second, .val (.ref a1), .unset, .unset, .unset] [])) _
    refine XS.aload X134.here hx rfl (hb hby d1_9) rfl rfl ?_
    show Steps p.tables e below (T134.setTop (mkF m 11 #[.val (.ref a0), .val (.ref a1), .val (.long (0 : Int64)), .second, .val (.ref a1), .unset, .unset, .unset] [(.ref a1)])) _
    refine X134.arraylength hx (by rw [e134]; exact Ar135.1) (State.isArrayOf_alike hZ.alike Ar135.2.1) (g := (mkF m 11 #[.val (.ref a0), .val (.ref a1), .val (.long (0 : Int64)), .second, .val (.ref a1), .unset, .unset, .unset] [(.ref a1)])) rfl rfl (hb hby d1_11) _ ?_
    rw [len_of S135 N135]
    show Steps p.tables e below (T134.setTop (mkF m 12 #[.val (.ref a0), .val (.ref a1), .val (.long (0 : Int64)), .second, .val (.ref a1), .unset, .unset, .unset] [(.int (1 : Int32))])) _
    refine XS.istore X134.here hx rfl (hb hby d1_12) rfl (l' := #[.val (.ref a0), .val (.ref a1), .val (.long (0 : Int64)), .second, .val (.ref a1), .val (.int (1 : Int32)), .unset, .unset]) rfl ?_
    show Steps p.tables e below (T134.setTop (mkF m 14 #[.val (.ref a0), .val (.ref a1), .val (.long (0 : Int64)), .second, .val (.ref a1), .val (.int (1 : Int32)), .unset, .unset] [])) _
    refine XS.iconst X134.here hx rfl (hb hby d1_14) ?_
    show Steps p.tables e below (T134.setTop (mkF m 15 #[.val (.ref a0), .val (.ref a1), .val (.long (0 : Int64)), .second, .val (.ref a1), .val (.int (1 : Int32)), .unset, .unset] [(.int (0 : Int32))])) _
    refine XS.istore X134.here hx rfl (hb hby d1_15) rfl (l' := #[.val (.ref a0), .val (.ref a1), .val (.long (0 : Int64)), .second, .val (.ref a1), .val (.int (1 : Int32)), .val (.int (0 : Int32)), .unset]) rfl ?_
    show Steps p.tables e below (T134.setTop (mkF m 17 #[.val (.ref a0), .val (.ref a1), .val (.long (0 : Int64)), .second, .val (.ref a1), .val (.int (1 : Int32)), .val (.int (0 : Int32)), .unset] [])) _
    refine XS.iload X134.here hx rfl (hb hby d1_17) rfl ?_
    show Steps p.tables e below (T134.setTop (mkF m 19 #[.val (.ref a0), .val (.ref a1), .val (.long (0 : Int64)), .second, .val (.ref a1), .val (.int (1 : Int32)), .val (.int (0 : Int32)), .unset] [(.int (0 : Int32))])) _
    refine XS.iload X134.here hx rfl (hb hby d1_19) rfl ?_
    show Steps p.tables e below (T134.setTop (mkF m 21 #[.val (.ref a0), .val (.ref a1), .val (.long (0 : Int64)), .second, .val (.ref a1), .val (.int (1 : Int32)), .val (.int (0 : Int32)), .unset] [(.int (1 : Int32)), (.int (0 : Int32))])) _
    refine XS.icmpNo X134.here hx rfl (hb hby d1_21) rfl (tlt (by decide)).2.1 ?_
    show Steps p.tables e below (T134.setTop (mkF m 24 #[.val (.ref a0), .val (.ref a1), .val (.long (0 : Int64)), .second, .val (.ref a1), .val (.int (1 : Int32)), .val (.int (0 : Int32)), .unset] [])) _
    refine XS.aload X134.here hx rfl (hb hby d1_24) rfl rfl ?_
    show Steps p.tables e below (T134.setTop (mkF m 26 #[.val (.ref a0), .val (.ref a1), .val (.long (0 : Int64)), .second, .val (.ref a1), .val (.int (1 : Int32)), .val (.int (0 : Int32)), .unset] [(.ref a1)])) _
    refine XS.iload X134.here hx rfl (hb hby d1_26) rfl ?_
    show Steps p.tables e below (T134.setTop (mkF m 28 #[.val (.ref a0), .val (.ref a1), .val (.long (0 : Int64)), .second, .val (.ref a1), .val (.int (1 : Int32)), .val (.int (0 : Int32)), .unset] [(.int (0 : Int32)), (.ref a1)])) _
    refine X134.iaload hx (j := (0 : Int32)) (v := (.int w0)) (by rw [e134]; exact Ar136.1) (State.isArrayOf_alike hZ.alike Ar136.2.1) Ar136.2.2 hin136 hat136 (g := (mkF m 28 #[.val (.ref a0), .val (.ref a1), .val (.long (0 : Int64)), .second, .val (.ref a1), .val (.int (1 : Int32)), .val (.int (0 : Int32)), .unset] [(.int (0 : Int32)), (.ref a1)])) rfl rfl (hb hby d1_28) _ ?_
    show Steps p.tables e below (T134.setTop (mkF m 29 #[.val (.ref a0), .val (.ref a1), .val (.long (0 : Int64)), .second, .val (.ref a1), .val (.int (1 : Int32)), .val (.int (0 : Int32)), .unset] [(.int w0)])) _
    refine XS.istore X134.here hx rfl (hb hby d1_29) rfl (l' := #[.val (.ref a0), .val (.ref a1), .val (.long (0 : Int64)), .second, .val (.ref a1), .val (.int (1 : Int32)), .val (.int (0 : Int32)), .val (.int w0)]) rfl ?_
    show Steps p.tables e below (T134.setTop (mkF m 31 #[.val (.ref a0), .val (.ref a1), .val (.long (0 : Int64)), .second, .val (.ref a1), .val (.int (1 : Int32)), .val (.int (0 : Int32)), .val (.int w0)] [])) _
    refine XS.lloadN X134.here hx rfl (hb hby d1_31) rfl ?_
    show Steps p.tables e below (T134.setTop (mkF m 32 #[.val (.ref a0), .val (.ref a1), .val (.long (0 : Int64)), .second, .val (.ref a1), .val (.int (1 : Int32)), .val (.int (0 : Int32)), .val (.int w0)] [(.long (0 : Int64))])) _
    refine XS.iload X134.here hx rfl (hb hby d1_32) rfl ?_
    show Steps p.tables e below (T134.setTop (mkF m 34 #[.val (.ref a0), .val (.ref a1), .val (.long (0 : Int64)), .second, .val (.ref a1), .val (.int (1 : Int32)), .val (.int (0 : Int32)), .val (.int w0)] [(.int w0), (.long (0 : Int64))])) _
    refine XS.i2l X134.here hx rfl (hb hby d1_34) rfl ?_
    show Steps p.tables e below (T134.setTop (mkF m 35 #[.val (.ref a0), .val (.ref a1), .val (.long (0 : Int64)), .second, .val (.ref a1), .val (.int (1 : Int32)), .val (.int (0 : Int32)), .val (.int w0)] [(.long (w0.toInt64)), (.long (0 : Int64))])) _
    refine XS.ladd X134.here hx rfl (hb hby d1_35) rfl ?_
    show Steps p.tables e below (T134.setTop (mkF m 36 #[.val (.ref a0), .val (.ref a1), .val (.long (0 : Int64)), .second, .val (.ref a1), .val (.int (1 : Int32)), .val (.int (0 : Int32)), .val (.int w0)] [(.long ((0 : Int64) + (w0.toInt64)))])) _
    refine XS.lstoreN X134.here hx rfl (hb hby d1_36) rfl (l' := #[.val (.ref a0), .val (.ref a1), .val (.long ((0 : Int64) + (w0.toInt64))), .second, .val (.ref a1), .val (.int (1 : Int32)), .val (.int (0 : Int32)), .val (.int w0)]) rfl ?_
    show Steps p.tables e below (T134.setTop (mkF m 37 #[.val (.ref a0), .val (.ref a1), .val (.long ((0 : Int64) + (w0.toInt64))), .second, .val (.ref a1), .val (.int (1 : Int32)), .val (.int (0 : Int32)), .val (.int w0)] [])) _
    refine XS.iinc X134.here hx rfl (hb hby d1_37) rfl (l' := #[.val (.ref a0), .val (.ref a1), .val (.long ((0 : Int64) + (w0.toInt64))), .second, .val (.ref a1), .val (.int (1 : Int32)), .val (.int (1 : Int32)), .val (.int w0)]) rfl ?_
    show Steps p.tables e below (T134.setTop (mkF m 40 #[.val (.ref a0), .val (.ref a1), .val (.long ((0 : Int64) + (w0.toInt64))), .second, .val (.ref a1), .val (.int (1 : Int32)), .val (.int (1 : Int32)), .val (.int w0)] [])) _
    refine XS.goto X134.here hx rfl (pc0 := 40) (pc' := 17) rfl (hb hby d1_40) (by decide) (by decide) ?_
    show Steps p.tables e below (T134.setTop (mkF m 17 #[.val (.ref a0), .val (.ref a1), .val (.long ((0 : Int64) + (w0.toInt64))), .second, .val (.ref a1), .val (.int (1 : Int32)), .val (.int (1 : Int32)), .val (.int w0)] [])) _
    refine XS.iload X134.here hx rfl (hb hby d1_17) rfl ?_
    show Steps p.tables e below (T134.setTop (mkF m 19 #[.val (.ref a0), .val (.ref a1), .val (.long ((0 : Int64) + (w0.toInt64))), .second, .val (.ref a1), .val (.int (1 : Int32)), .val (.int (1 : Int32)), .val (.int w0)] [(.int (1 : Int32))])) _
    refine XS.iload X134.here hx rfl (hb hby d1_19) rfl ?_
    show Steps p.tables e below (T134.setTop (mkF m 21 #[.val (.ref a0), .val (.ref a1), .val (.long ((0 : Int64) + (w0.toInt64))), .second, .val (.ref a1), .val (.int (1 : Int32)), .val (.int (1 : Int32)), .val (.int w0)] [(.int (1 : Int32)), (.int (1 : Int32))])) _
    refine XS.icmpYes X134.here hx rfl (pc0 := 21) (pc' := 43) rfl (hb hby d1_21) rfl (flt (by decide)).2.1 (by decide) (by decide) ?_
    show Steps p.tables e below (T134.setTop (mkF m 43 #[.val (.ref a0), .val (.ref a1), .val (.long ((0 : Int64) + (w0.toInt64))), .second, .val (.ref a1), .val (.int (1 : Int32)), .val (.int (1 : Int32)), .val (.int w0)] [])) _
    refine XS.aloadN X134.here hx rfl (hb hby d1_43) rfl rfl ?_
    show Steps p.tables e below (T134.setTop (mkF m 44 #[.val (.ref a0), .val (.ref a1), .val (.long ((0 : Int64) + (w0.toInt64))), .second, .val (.ref a1), .val (.int (1 : Int32)), .val (.int (1 : Int32)), .val (.int w0)] [(.ref a0)])) _
    refine XS.aloadN X134.here hx rfl (hb hby d1_44) rfl rfl ?_
    show Steps p.tables e below (T134.setTop (mkF m 45 #[.val (.ref a0), .val (.ref a1), .val (.long ((0 : Int64) + (w0.toInt64))), .second, .val (.ref a1), .val (.int (1 : Int32)), .val (.int (1 : Int32)), .val (.int w0)] [(.ref a1), (.ref a0)])) _
    refine st137 _ ?_
    show Steps p.tables e below (T137.setTop (mkF m 48 #[.val (.ref a0), .val (.ref a1), .val (.long ((0 : Int64) + (w0.toInt64))), .second, .val (.ref a1), .val (.int (1 : Int32)), .val (.int (1 : Int32)), .val (.int w0)] [])) _
    refine XS.aloadN X137.here hx rfl (hb hby d1_48) rfl rfl ?_
    show Steps p.tables e below (T137.setTop (mkF m 49 #[.val (.ref a0), .val (.ref a1), .val (.long ((0 : Int64) + (w0.toInt64))), .second, .val (.ref a1), .val (.int (1 : Int32)), .val (.int (1 : Int32)), .val (.int w0)] [(.ref a0)])) _
    refine XS.lloadN X137.here hx rfl (hb hby d1_49) rfl ?_
    show Steps p.tables e below (T137.setTop (mkF m 50 #[.val (.ref a0), .val (.ref a1), .val (.long ((0 : Int64) + (w0.toInt64))), .second, .val (.ref a1), .val (.int (1 : Int32)), .val (.int (1 : Int32)), .val (.int w0)] [(.long ((0 : Int64) + (w0.toInt64))), (.ref a0)])) _
    refine st146 _ ?_
    show Steps p.tables e below (T146.setTop (mkF m 53 #[.val (.ref a0), .val (.ref a1), .val (.long ((0 : Int64) + (w0.toInt64))), .second, .val (.ref a1), .val (.int (1 : Int32)), .val (.int (1 : Int32)), .val (.int w0)] [])) _
    refine XS.aloadN X146.here hx rfl (hb hby d1_53) rfl rfl ?_
    show Steps p.tables e below (T146.setTop (mkF m 54 #[.val (.ref a0), .val (.ref a1), .val (.long ((0 : Int64) + (w0.toInt64))), .second, .val (.ref a1), .val (.int (1 : Int32)), .val (.int (1 : Int32)), .val (.int w0)] [(.ref a0)])) _
    refine XS.aloadN X146.here hx rfl (hb hby d1_54) rfl rfl ?_
    show Steps p.tables e below (T146.setTop (mkF m 55 #[.val (.ref a0), .val (.ref a1), .val (.long ((0 : Int64) + (w0.toInt64))), .second, .val (.ref a1), .val (.int (1 : Int32)), .val (.int (1 : Int32)), .val (.int w0)] [(.ref a1), (.ref a0)])) _
    refine st155 _ ?_
    show Steps p.tables e below (T155.setTop (mkF m 58 #[.val (.ref a0), .val (.ref a1), .val (.long ((0 : Int64) + (w0.toInt64))), .second, .val (.ref a1), .val (.int (1 : Int32)), .val (.int (1 : Int32)), .val (.int w0)] [(.int ((31 : Int32) + w0)), (.ref a0)])) _
    refine st156 _ ?_
    show Steps p.tables e below (T156.setTop (mkF m 61 #[.val (.ref a0), .val (.ref a1), .val (.long ((0 : Int64) + (w0.toInt64))), .second, .val (.ref a1), .val (.int (1 : Int32)), .val (.int (1 : Int32)), .val (.int w0)] [])) _
    exact X156.returnOut hx Bd.returns (hb hby d1_61) hr
  ·
    show Q_ct1 Z a0 a1 k1 w0 h0 n0 _ T156.heap _
    rw [e156]
    exact ⟨rfl, N163, K162, f157, f159⟩
theorem d6_0 : decode jdk_48_method_9_code 0 = .ok (.iload_n 2, 1) := by decide +kernel
theorem d6_1 : decode jdk_48_method_9_code 1 = .ok (.iload_n 3, 1) := by decide +kernel
theorem d6_2 : decode jdk_48_method_9_code 2 = .ok (.iadd, 1) := by decide +kernel
theorem d6_3 : decode jdk_48_method_9_code 3 = .ok (.istore 4, 2) := by decide +kernel
theorem d6_5 : decode jdk_48_method_9_code 5 = .ok (.iload_n 2, 1) := by decide +kernel
theorem d6_6 : decode jdk_48_method_9_code 6 = .ok (.istore 5, 2) := by decide +kernel
theorem d6_8 : decode jdk_48_method_9_code 8 = .ok (.iload 5, 2) := by decide +kernel
theorem d6_10 : decode jdk_48_method_9_code 10 = .ok (.iload 4, 2) := by decide +kernel
theorem d6_12 : decode jdk_48_method_9_code 12 = .ok (.if_icmp .ge 19, 3) := by decide +kernel
theorem d6_15 : decode jdk_48_method_9_code 15 = .ok (.bipush 31, 2) := by decide +kernel
theorem d6_17 : decode jdk_48_method_9_code 17 = .ok (.iload_n 0, 1) := by decide +kernel
theorem d6_18 : decode jdk_48_method_9_code 18 = .ok (.imul, 1) := by decide +kernel
theorem d6_19 : decode jdk_48_method_9_code 19 = .ok (.aload_n 1, 1) := by decide +kernel
theorem d6_20 : decode jdk_48_method_9_code 20 = .ok (.iload 5, 2) := by decide +kernel
theorem d6_22 : decode jdk_48_method_9_code 22 = .ok (.iaload, 1) := by decide +kernel
theorem d6_23 : decode jdk_48_method_9_code 23 = .ok (.iadd, 1) := by decide +kernel
theorem d6_24 : decode jdk_48_method_9_code 24 = .ok (.istore_n 0, 1) := by decide +kernel
theorem d6_25 : decode jdk_48_method_9_code 25 = .ok (.iinc 5 1, 3) := by decide +kernel
theorem d6_28 : decode jdk_48_method_9_code 28 = .ok (.goto (-20), 3) := by decide +kernel
theorem d6_31 : decode jdk_48_method_9_code 31 = .ok (.iload_n 0, 1) := by decide +kernel
theorem d6_32 : decode jdk_48_method_9_code 32 = .ok (.ireturn, 1) := by decide +kernel
theorem pn_2 : plainName "jdk/internal/util/ArraysSupport" = true := by first | (simp [plainName, overriddenIn]; done) | decide +kernel
theorem ef_ha2 (m : MethodId) (a1 : Addr) : entryFrame m #[(.int (1 : Int32)), (.ref a1), (.int (0 : Int32)), (.int (2 : Int32))] 6 = mkF m 0 #[.val (.int (1 : Int32)), .val (.ref a1), .val (.int (0 : Int32)), .val (.int (2 : Int32)), .unset, .unset] [] := by first | (simp [entryFrame, mkF, argsToLocals, Value.category]; done) | rfl
def Q_ha2 (Z : State) (a1 : Addr) (k1 : ClassId) (w0 : Int32) (w1 : Int32) (h0 : Heap) (n0 : Nat) (v : Option Value) (h : Heap) (L : List Loc) : Prop := v = some (.int (((31 : Int32) * ((31 : Int32) + w0)) + w1)) ∧ Fr n0 L ∧ h = h0
set_option maxRecDepth 65536 in
set_option maxHeartbeats 40000000 in
theorem ha2 (l : Launch) (Z : State) (aw : Array Value) (hw : ∀ d ∈ tables_1, d.before aw Z = true) (ws : List Jvm.Cond) (a1 : Addr) (k1 : ClassId) (w0 : Int32) (w1 : Int32) (h0 : Heap) (n0 : Nat) (Z0 : n0 ≤ h0.size) (V_a1 : Arv Z h0 a1 k1 .int (2 : Int32) [(.int w0), (.int w1)] (.int (0 : Int32))) :
    MetFree l (⟨"jdk/internal/util/ArraysSupport", "hashCode", "(I[III)I"⟩ : MethodName) (head1 (Jvm.Cond.code (⟨"jdk/internal/util/ArraysSupport", "hashCode", "(I[III)I"⟩ : MethodName) jdk_48_method_9_code 6 (some .int) :: ws) ({ frames := 0, cells := 0, slots := 0, locals := 0 } : Room)) (fun a U => a = #[(.int (1 : Int32)), (.ref a1), (.int (0 : Int32)), (.int (2 : Int32))] ∧ Z.Warmed39 U.vm ∧ U.heap = h0) (fun _ _ _ _ _ => True) (fun _ U o U' => ∃ v L, o = .returned v ∧ Q_ha2 Z a1 k1 w0 w1 h0 n0 v U'.heap L ∧ FrameEnd U o U' L ({ frames := 0, cells := 0, slots := 0, locals := 0 } : Room).cells ({ frames := 0, cells := 0, slots := 0, locals := 0 } : Room).slots) := by
  refine MetFree.of_bodySF (plainFor_of_name pn_2) hisR ?_
  intro p e s m args below meth c s₁ Bd hml0 hP hK
  obtain ⟨rfl, hZ, hh⟩ := hP
  have hx := Bd.exec
  have hby := Bd.bytes
  have hml : c.maxLocals = 6 := hml0
  have hown : s.vm.findClass "jdk/internal/util/ArraysSupport" = some m.cls := findClass_of_methodNamed Bd.named
  have hnm := (name_of_methodNamed Bd.named Bd.method).1
  have X0 : Stand p l e ({ frames := 0, cells := 0, slots := 0, locals := 0 } : Room) s m #[(.int (1 : Int32)), (.ref a1), (.int (0 : Int32)), (.int (2 : Int32))] below meth c s₁ [] 0 0 := Stand.of_body Bd
  have e0 : s₁.heap = h0 := by rw [← hh, Bd.state]; rfl
  have N0 := Fr.nil n0
  have pre0 : ∀ t, Steps p.tables e below (s₁.setTop (mkF m 0 #[.val (.int (1 : Int32)), .val (.ref a1), .val (.int (0 : Int32)), .val (.int (2 : Int32)), .unset, .unset] [])) t → Steps p.tables e below (s₁.setTop (entryFrame m #[(.int (1 : Int32)), (.ref a1), (.int (0 : Int32)), (.int (2 : Int32))] 6)) t := fun t k => castTop (ef_ha2 m a1) k
  obtain ⟨cl165, Ar165, q165, S165, N165, H165, G165⟩ := id V_a1
  have hin165 : ¬ ((0 : Int32) < 0 ∨ cl165.slots.size ≤ ((0 : Int32)).toNatClampNeg) := inb_of S165 ⟨by decide, by decide⟩
  have hat165 : cl165.slots[((0 : Int32)).toNatClampNeg]? = some (.int w0) := Has.at H165 hin165 rfl
  obtain ⟨cl166, Ar166, q166, S166, N166, H166, G166⟩ := id V_a1
  have hin166 : ¬ ((1 : Int32) < 0 ∨ cl166.slots.size ≤ ((1 : Int32)).toNatClampNeg) := inb_of S166 ⟨by decide, by decide⟩
  have hat166 : cl166.slots[((1 : Int32)).toNatClampNeg]? = some (.int w1) := Has.at H166 hin166 rfl
  obtain ⟨fs, hr, hrun, hended, hW, hsame⟩ := X0.leave (v := some (.int (((31 : Int32) * ((31 : Int32) + w0)) + w1))) (fun h => by rw [Bd.returns] at h; cases h)
  refine ⟨_, _, pre0 _ ?_, hrun, hended, _, _, rfl, ?_, ⟨_, rfl⟩, hW, hsame.mono (by decide) (by decide)⟩
  ·
    show Steps p.tables e below (s₁.setTop (mkF m 0 #[.val (.int (1 : Int32)), .val (.ref a1), .val (.int (0 : Int32)), .val (.int (2 : Int32)), .unset, .unset] [])) _
    refine XS.iloadN X0.here hx rfl (hb hby d6_0) rfl ?_
    show Steps p.tables e below (s₁.setTop (mkF m 1 #[.val (.int (1 : Int32)), .val (.ref a1), .val (.int (0 : Int32)), .val (.int (2 : Int32)), .unset, .unset] [(.int (0 : Int32))])) _
    refine XS.iloadN X0.here hx rfl (hb hby d6_1) rfl ?_
    show Steps p.tables e below (s₁.setTop (mkF m 2 #[.val (.int (1 : Int32)), .val (.ref a1), .val (.int (0 : Int32)), .val (.int (2 : Int32)), .unset, .unset] [(.int (2 : Int32)), (.int (0 : Int32))])) _
    refine XS.iadd X0.here hx rfl (hb hby d6_2) rfl ?_
    show Steps p.tables e below (s₁.setTop (mkF m 3 #[.val (.int (1 : Int32)), .val (.ref a1), .val (.int (0 : Int32)), .val (.int (2 : Int32)), .unset, .unset] [(.int (2 : Int32))])) _
    refine XS.istore X0.here hx rfl (hb hby d6_3) rfl (l' := #[.val (.int (1 : Int32)), .val (.ref a1), .val (.int (0 : Int32)), .val (.int (2 : Int32)), .val (.int (2 : Int32)), .unset]) rfl ?_
    show Steps p.tables e below (s₁.setTop (mkF m 5 #[.val (.int (1 : Int32)), .val (.ref a1), .val (.int (0 : Int32)), .val (.int (2 : Int32)), .val (.int (2 : Int32)), .unset] [])) _
    refine XS.iloadN X0.here hx rfl (hb hby d6_5) rfl ?_
    show Steps p.tables e below (s₁.setTop (mkF m 6 #[.val (.int (1 : Int32)), .val (.ref a1), .val (.int (0 : Int32)), .val (.int (2 : Int32)), .val (.int (2 : Int32)), .unset] [(.int (0 : Int32))])) _
    refine XS.istore X0.here hx rfl (hb hby d6_6) rfl (l' := #[.val (.int (1 : Int32)), .val (.ref a1), .val (.int (0 : Int32)), .val (.int (2 : Int32)), .val (.int (2 : Int32)), .val (.int (0 : Int32))]) rfl ?_
    show Steps p.tables e below (s₁.setTop (mkF m 8 #[.val (.int (1 : Int32)), .val (.ref a1), .val (.int (0 : Int32)), .val (.int (2 : Int32)), .val (.int (2 : Int32)), .val (.int (0 : Int32))] [])) _
    refine XS.iload X0.here hx rfl (hb hby d6_8) rfl ?_
    show Steps p.tables e below (s₁.setTop (mkF m 10 #[.val (.int (1 : Int32)), .val (.ref a1), .val (.int (0 : Int32)), .val (.int (2 : Int32)), .val (.int (2 : Int32)), .val (.int (0 : Int32))] [(.int (0 : Int32))])) _
    refine XS.iload X0.here hx rfl (hb hby d6_10) rfl ?_
    show Steps p.tables e below (s₁.setTop (mkF m 12 #[.val (.int (1 : Int32)), .val (.ref a1), .val (.int (0 : Int32)), .val (.int (2 : Int32)), .val (.int (2 : Int32)), .val (.int (0 : Int32))] [(.int (2 : Int32)), (.int (0 : Int32))])) _
    refine XS.icmpNo X0.here hx rfl (hb hby d6_12) rfl (tlt (by decide)).2.1 ?_
    show Steps p.tables e below (s₁.setTop (mkF m 15 #[.val (.int (1 : Int32)), .val (.ref a1), .val (.int (0 : Int32)), .val (.int (2 : Int32)), .val (.int (2 : Int32)), .val (.int (0 : Int32))] [])) _
    refine XS.bipush X0.here hx rfl (hb hby d6_15) ?_
    show Steps p.tables e below (s₁.setTop (mkF m 17 #[.val (.int (1 : Int32)), .val (.ref a1), .val (.int (0 : Int32)), .val (.int (2 : Int32)), .val (.int (2 : Int32)), .val (.int (0 : Int32))] [(.int (31 : Int32))])) _
    refine XS.iloadN X0.here hx rfl (hb hby d6_17) rfl ?_
    show Steps p.tables e below (s₁.setTop (mkF m 18 #[.val (.int (1 : Int32)), .val (.ref a1), .val (.int (0 : Int32)), .val (.int (2 : Int32)), .val (.int (2 : Int32)), .val (.int (0 : Int32))] [(.int (1 : Int32)), (.int (31 : Int32))])) _
    refine XS.imul X0.here hx rfl (hb hby d6_18) rfl ?_
    show Steps p.tables e below (s₁.setTop (mkF m 19 #[.val (.int (1 : Int32)), .val (.ref a1), .val (.int (0 : Int32)), .val (.int (2 : Int32)), .val (.int (2 : Int32)), .val (.int (0 : Int32))] [(.int (31 : Int32))])) _
    refine XS.aloadN X0.here hx rfl (hb hby d6_19) rfl rfl ?_
    show Steps p.tables e below (s₁.setTop (mkF m 20 #[.val (.int (1 : Int32)), .val (.ref a1), .val (.int (0 : Int32)), .val (.int (2 : Int32)), .val (.int (2 : Int32)), .val (.int (0 : Int32))] [(.ref a1), (.int (31 : Int32))])) _
    refine XS.iload X0.here hx rfl (hb hby d6_20) rfl ?_
    show Steps p.tables e below (s₁.setTop (mkF m 22 #[.val (.int (1 : Int32)), .val (.ref a1), .val (.int (0 : Int32)), .val (.int (2 : Int32)), .val (.int (2 : Int32)), .val (.int (0 : Int32))] [(.int (0 : Int32)), (.ref a1), (.int (31 : Int32))])) _
    refine X0.iaload hx (j := (0 : Int32)) (v := (.int w0)) (by rw [e0]; exact Ar165.1) (State.isArrayOf_alike hZ.alike Ar165.2.1) Ar165.2.2 hin165 hat165 (g := (mkF m 22 #[.val (.int (1 : Int32)), .val (.ref a1), .val (.int (0 : Int32)), .val (.int (2 : Int32)), .val (.int (2 : Int32)), .val (.int (0 : Int32))] [(.int (0 : Int32)), (.ref a1), (.int (31 : Int32))])) rfl rfl (hb hby d6_22) _ ?_
    show Steps p.tables e below (s₁.setTop (mkF m 23 #[.val (.int (1 : Int32)), .val (.ref a1), .val (.int (0 : Int32)), .val (.int (2 : Int32)), .val (.int (2 : Int32)), .val (.int (0 : Int32))] [(.int w0), (.int (31 : Int32))])) _
    refine XS.iadd X0.here hx rfl (hb hby d6_23) rfl ?_
    show Steps p.tables e below (s₁.setTop (mkF m 24 #[.val (.int (1 : Int32)), .val (.ref a1), .val (.int (0 : Int32)), .val (.int (2 : Int32)), .val (.int (2 : Int32)), .val (.int (0 : Int32))] [(.int ((31 : Int32) + w0))])) _
    refine XS.istoreN X0.here hx rfl (hb hby d6_24) rfl (l' := #[.val (.int ((31 : Int32) + w0)), .val (.ref a1), .val (.int (0 : Int32)), .val (.int (2 : Int32)), .val (.int (2 : Int32)), .val (.int (0 : Int32))]) rfl ?_
    show Steps p.tables e below (s₁.setTop (mkF m 25 #[.val (.int ((31 : Int32) + w0)), .val (.ref a1), .val (.int (0 : Int32)), .val (.int (2 : Int32)), .val (.int (2 : Int32)), .val (.int (0 : Int32))] [])) _
    refine XS.iinc X0.here hx rfl (hb hby d6_25) rfl (l' := #[.val (.int ((31 : Int32) + w0)), .val (.ref a1), .val (.int (0 : Int32)), .val (.int (2 : Int32)), .val (.int (2 : Int32)), .val (.int (1 : Int32))]) rfl ?_
    show Steps p.tables e below (s₁.setTop (mkF m 28 #[.val (.int ((31 : Int32) + w0)), .val (.ref a1), .val (.int (0 : Int32)), .val (.int (2 : Int32)), .val (.int (2 : Int32)), .val (.int (1 : Int32))] [])) _
    refine XS.goto X0.here hx rfl (pc0 := 28) (pc' := 8) rfl (hb hby d6_28) (by decide) (by decide) ?_
    show Steps p.tables e below (s₁.setTop (mkF m 8 #[.val (.int ((31 : Int32) + w0)), .val (.ref a1), .val (.int (0 : Int32)), .val (.int (2 : Int32)), .val (.int (2 : Int32)), .val (.int (1 : Int32))] [])) _
    refine XS.iload X0.here hx rfl (hb hby d6_8) rfl ?_
    show Steps p.tables e below (s₁.setTop (mkF m 10 #[.val (.int ((31 : Int32) + w0)), .val (.ref a1), .val (.int (0 : Int32)), .val (.int (2 : Int32)), .val (.int (2 : Int32)), .val (.int (1 : Int32))] [(.int (1 : Int32))])) _
    refine XS.iload X0.here hx rfl (hb hby d6_10) rfl ?_
    show Steps p.tables e below (s₁.setTop (mkF m 12 #[.val (.int ((31 : Int32) + w0)), .val (.ref a1), .val (.int (0 : Int32)), .val (.int (2 : Int32)), .val (.int (2 : Int32)), .val (.int (1 : Int32))] [(.int (2 : Int32)), (.int (1 : Int32))])) _
    refine XS.icmpNo X0.here hx rfl (hb hby d6_12) rfl (tlt (by decide)).2.1 ?_
    show Steps p.tables e below (s₁.setTop (mkF m 15 #[.val (.int ((31 : Int32) + w0)), .val (.ref a1), .val (.int (0 : Int32)), .val (.int (2 : Int32)), .val (.int (2 : Int32)), .val (.int (1 : Int32))] [])) _
    refine XS.bipush X0.here hx rfl (hb hby d6_15) ?_
    show Steps p.tables e below (s₁.setTop (mkF m 17 #[.val (.int ((31 : Int32) + w0)), .val (.ref a1), .val (.int (0 : Int32)), .val (.int (2 : Int32)), .val (.int (2 : Int32)), .val (.int (1 : Int32))] [(.int (31 : Int32))])) _
    refine XS.iloadN X0.here hx rfl (hb hby d6_17) rfl ?_
    show Steps p.tables e below (s₁.setTop (mkF m 18 #[.val (.int ((31 : Int32) + w0)), .val (.ref a1), .val (.int (0 : Int32)), .val (.int (2 : Int32)), .val (.int (2 : Int32)), .val (.int (1 : Int32))] [(.int ((31 : Int32) + w0)), (.int (31 : Int32))])) _
    refine XS.imul X0.here hx rfl (hb hby d6_18) rfl ?_
    show Steps p.tables e below (s₁.setTop (mkF m 19 #[.val (.int ((31 : Int32) + w0)), .val (.ref a1), .val (.int (0 : Int32)), .val (.int (2 : Int32)), .val (.int (2 : Int32)), .val (.int (1 : Int32))] [(.int ((31 : Int32) * ((31 : Int32) + w0)))])) _
    refine XS.aloadN X0.here hx rfl (hb hby d6_19) rfl rfl ?_
    show Steps p.tables e below (s₁.setTop (mkF m 20 #[.val (.int ((31 : Int32) + w0)), .val (.ref a1), .val (.int (0 : Int32)), .val (.int (2 : Int32)), .val (.int (2 : Int32)), .val (.int (1 : Int32))] [(.ref a1), (.int ((31 : Int32) * ((31 : Int32) + w0)))])) _
    refine XS.iload X0.here hx rfl (hb hby d6_20) rfl ?_
    show Steps p.tables e below (s₁.setTop (mkF m 22 #[.val (.int ((31 : Int32) + w0)), .val (.ref a1), .val (.int (0 : Int32)), .val (.int (2 : Int32)), .val (.int (2 : Int32)), .val (.int (1 : Int32))] [(.int (1 : Int32)), (.ref a1), (.int ((31 : Int32) * ((31 : Int32) + w0)))])) _
    refine X0.iaload hx (j := (1 : Int32)) (v := (.int w1)) (by rw [e0]; exact Ar166.1) (State.isArrayOf_alike hZ.alike Ar166.2.1) Ar166.2.2 hin166 hat166 (g := (mkF m 22 #[.val (.int ((31 : Int32) + w0)), .val (.ref a1), .val (.int (0 : Int32)), .val (.int (2 : Int32)), .val (.int (2 : Int32)), .val (.int (1 : Int32))] [(.int (1 : Int32)), (.ref a1), (.int ((31 : Int32) * ((31 : Int32) + w0)))])) rfl rfl (hb hby d6_22) _ ?_
    show Steps p.tables e below (s₁.setTop (mkF m 23 #[.val (.int ((31 : Int32) + w0)), .val (.ref a1), .val (.int (0 : Int32)), .val (.int (2 : Int32)), .val (.int (2 : Int32)), .val (.int (1 : Int32))] [(.int w1), (.int ((31 : Int32) * ((31 : Int32) + w0)))])) _
    refine XS.iadd X0.here hx rfl (hb hby d6_23) rfl ?_
    show Steps p.tables e below (s₁.setTop (mkF m 24 #[.val (.int ((31 : Int32) + w0)), .val (.ref a1), .val (.int (0 : Int32)), .val (.int (2 : Int32)), .val (.int (2 : Int32)), .val (.int (1 : Int32))] [(.int (((31 : Int32) * ((31 : Int32) + w0)) + w1))])) _
    refine XS.istoreN X0.here hx rfl (hb hby d6_24) rfl (l' := #[.val (.int (((31 : Int32) * ((31 : Int32) + w0)) + w1)), .val (.ref a1), .val (.int (0 : Int32)), .val (.int (2 : Int32)), .val (.int (2 : Int32)), .val (.int (1 : Int32))]) rfl ?_
    show Steps p.tables e below (s₁.setTop (mkF m 25 #[.val (.int (((31 : Int32) * ((31 : Int32) + w0)) + w1)), .val (.ref a1), .val (.int (0 : Int32)), .val (.int (2 : Int32)), .val (.int (2 : Int32)), .val (.int (1 : Int32))] [])) _
    refine XS.iinc X0.here hx rfl (hb hby d6_25) rfl (l' := #[.val (.int (((31 : Int32) * ((31 : Int32) + w0)) + w1)), .val (.ref a1), .val (.int (0 : Int32)), .val (.int (2 : Int32)), .val (.int (2 : Int32)), .val (.int (2 : Int32))]) rfl ?_
    show Steps p.tables e below (s₁.setTop (mkF m 28 #[.val (.int (((31 : Int32) * ((31 : Int32) + w0)) + w1)), .val (.ref a1), .val (.int (0 : Int32)), .val (.int (2 : Int32)), .val (.int (2 : Int32)), .val (.int (2 : Int32))] [])) _
    refine XS.goto X0.here hx rfl (pc0 := 28) (pc' := 8) rfl (hb hby d6_28) (by decide) (by decide) ?_
    show Steps p.tables e below (s₁.setTop (mkF m 8 #[.val (.int (((31 : Int32) * ((31 : Int32) + w0)) + w1)), .val (.ref a1), .val (.int (0 : Int32)), .val (.int (2 : Int32)), .val (.int (2 : Int32)), .val (.int (2 : Int32))] [])) _
    refine XS.iload X0.here hx rfl (hb hby d6_8) rfl ?_
    show Steps p.tables e below (s₁.setTop (mkF m 10 #[.val (.int (((31 : Int32) * ((31 : Int32) + w0)) + w1)), .val (.ref a1), .val (.int (0 : Int32)), .val (.int (2 : Int32)), .val (.int (2 : Int32)), .val (.int (2 : Int32))] [(.int (2 : Int32))])) _
    refine XS.iload X0.here hx rfl (hb hby d6_10) rfl ?_
    show Steps p.tables e below (s₁.setTop (mkF m 12 #[.val (.int (((31 : Int32) * ((31 : Int32) + w0)) + w1)), .val (.ref a1), .val (.int (0 : Int32)), .val (.int (2 : Int32)), .val (.int (2 : Int32)), .val (.int (2 : Int32))] [(.int (2 : Int32)), (.int (2 : Int32))])) _
    refine XS.icmpYes X0.here hx rfl (pc0 := 12) (pc' := 31) rfl (hb hby d6_12) rfl (flt (by decide)).2.1 (by decide) (by decide) ?_
    show Steps p.tables e below (s₁.setTop (mkF m 31 #[.val (.int (((31 : Int32) * ((31 : Int32) + w0)) + w1)), .val (.ref a1), .val (.int (0 : Int32)), .val (.int (2 : Int32)), .val (.int (2 : Int32)), .val (.int (2 : Int32))] [])) _
    refine XS.iloadN X0.here hx rfl (hb hby d6_31) rfl ?_
    show Steps p.tables e below (s₁.setTop (mkF m 32 #[.val (.int (((31 : Int32) * ((31 : Int32) + w0)) + w1)), .val (.ref a1), .val (.int (0 : Int32)), .val (.int (2 : Int32)), .val (.int (2 : Int32)), .val (.int (2 : Int32))] [(.int (((31 : Int32) * ((31 : Int32) + w0)) + w1))])) _
    exact retI X0 hx Bd.returns (hb hby d6_32) hr
  ·
    show Q_ha2 Z a1 k1 w0 w1 h0 n0 _ s₁.heap _
    rw [e0]
    exact ⟨rfl, N0, rfl⟩
theorem d5_0 : decode jdk_48_method_4_code 0 = .ok (.iload 4, 2) := by decide +kernel
theorem d5_2 : decode jdk_48_method_4_code 2 = .ok (.tableswitch 127 4 10 #[42, 55, 127, 127, 88, 101, 114], 42) := by decide +kernel
theorem d5_116 : decode jdk_48_method_4_code 116 = .ok (.iload_n 3, 1) := by decide +kernel
theorem d5_117 : decode jdk_48_method_4_code 117 = .ok (.aload_n 0, 1) := by decide +kernel
theorem d5_118 : decode jdk_48_method_4_code 118 = .ok (.checkcast 82, 3) := by decide +kernel
theorem d5_121 : decode jdk_48_method_4_code 121 = .ok (.iload_n 1, 1) := by decide +kernel
theorem d5_122 : decode jdk_48_method_4_code 122 = .ok (.iload_n 2, 1) := by decide +kernel
theorem pd_1 : parseMethodDescriptor "(I[III)I" = some ⟨[.int, (.array .int), .int, .int], some .int⟩ := by decide +kernel
theorem d5_123 : decode jdk_48_method_4_code 123 = .ok (.invokestatic 84, 3) := by decide +kernel
theorem d5_126 : decode jdk_48_method_4_code 126 = .ok (.goto 31, 3) := by decide +kernel
theorem d5_157 : decode jdk_48_method_4_code 157 = .ok (.ireturn, 1) := by decide +kernel
theorem ef_hv2 (m : MethodId) (a0 : Addr) : entryFrame m #[(.ref a0), (.int (0 : Int32)), (.int (2 : Int32)), (.int (1 : Int32)), (.int (10 : Int32))] 5 = mkF m 0 #[.val (.ref a0), .val (.int (0 : Int32)), .val (.int (2 : Int32)), .val (.int (1 : Int32)), .val (.int (10 : Int32))] [] := by first | (simp [entryFrame, mkF, argsToLocals, Value.category]; done) | rfl
def Q_hv2 (Z : State) (a0 : Addr) (k1 : ClassId) (w0 : Int32) (w1 : Int32) (h0 : Heap) (n0 : Nat) (v : Option Value) (h : Heap) (L : List Loc) : Prop := v = some (.int (((31 : Int32) * ((31 : Int32) + w0)) + w1)) ∧ Fr n0 L ∧ h = h0
set_option maxRecDepth 65536 in
set_option maxHeartbeats 40000000 in
theorem hv2 (l : Launch) (Z : State) (aw : Array Value) (hw : ∀ d ∈ tables_1, d.before aw Z = true) (ws : List Jvm.Cond) (a0 : Addr) (k1 : ClassId) (w0 : Int32) (w1 : Int32) (h0 : Heap) (n0 : Nat) (Z0 : n0 ≤ h0.size) (V_a0 : Arv Z h0 a0 k1 .int (2 : Int32) [(.int w0), (.int w1)] (.int (0 : Int32))) (kc_a0 : Z.vm.findClass "[I" = some k1) :
    MetFree l (⟨"jdk/internal/util/ArraysSupport", "vectorizedHashCode", "(Ljava/lang/Object;IIII)I"⟩ : MethodName) (head1 (Jvm.Cond.code (⟨"jdk/internal/util/ArraysSupport", "vectorizedHashCode", "(Ljava/lang/Object;IIII)I"⟩ : MethodName) jdk_48_method_4_code 5 (some .int) :: ws) ({ frames := 1, cells := 0, slots := 0, locals := 17 } : Room)) (fun a U => a = #[(.ref a0), (.int (0 : Int32)), (.int (2 : Int32)), (.int (1 : Int32)), (.int (10 : Int32))] ∧ Z.Warmed39 U.vm ∧ U.heap = h0) (fun _ _ _ _ _ => True) (fun _ U o U' => ∃ v L, o = .returned v ∧ Q_hv2 Z a0 k1 w0 w1 h0 n0 v U'.heap L ∧ FrameEnd U o U' L ({ frames := 1, cells := 0, slots := 0, locals := 17 } : Room).cells ({ frames := 1, cells := 0, slots := 0, locals := 17 } : Room).slots) := by
  refine MetFree.of_bodySF (plainFor_of_name pn_2) hisR ?_
  intro p e s m args below meth c s₁ Bd hml0 hP hK
  obtain ⟨rfl, hZ, hh⟩ := hP
  have hx := Bd.exec
  have hby := Bd.bytes
  have hml : c.maxLocals = 5 := hml0
  have hown : s.vm.findClass "jdk/internal/util/ArraysSupport" = some m.cls := findClass_of_methodNamed Bd.named
  have hnm := (name_of_methodNamed Bd.named Bd.method).1
  have X0 : Stand p l e ({ frames := 1, cells := 0, slots := 0, locals := 17 } : Room) s m #[(.ref a0), (.int (0 : Int32)), (.int (2 : Int32)), (.int (1 : Int32)), (.int (10 : Int32))] below meth c s₁ [] 0 0 := Stand.of_body Bd
  have e0 : s₁.heap = h0 := by rw [← hh, Bd.state]; rfl
  have N0 := Fr.nil n0
  have pre0 : ∀ t, Steps p.tables e below (s₁.setTop (mkF m 0 #[.val (.ref a0), .val (.int (0 : Int32)), .val (.int (2 : Int32)), .val (.int (1 : Int32)), .val (.int (10 : Int32))] [])) t → Steps p.tables e below (s₁.setTop (entryFrame m #[(.ref a0), (.int (0 : Int32)), (.int (2 : Int32)), (.int (1 : Int32)), (.int (10 : Int32))] 5)) t := fun t k => castTop (ef_hv2 m a0) k
  obtain ⟨T167, X167, e167, st167⟩ := castY X0 hx hZ hown (hw _ (List.mem_of_getElem? (i := 30) rfl)) e0 (insA V_a0 kc_a0) (g := (mkF m 118 #[.val (.ref a0), .val (.int (0 : Int32)), .val (.int (2 : Int32)), .val (.int (1 : Int32)), .val (.int (10 : Int32))] [(.ref a0), (.int (1 : Int32))])) rfl rfl (hb hby d5_118)
  obtain ⟨_, _, ⟨T168, L168, k168, n168⟩, -, X168, ⟨Lc168, hQ168, l168, y168, z168⟩, st168⟩ := Jvm.LawKit.callS X167 hx (y := (⟨"jdk/internal/util/ArraysSupport", "hashCode", "(I[III)I"⟩ : MethodName)) hown (mvT hZ (hw _ (List.mem_of_getElem? (i := 32) rfl))) (mvT hZ (hw _ (List.mem_of_getElem? (i := 33) rfl))) (mvT hZ (hw _ (List.mem_of_getElem? (i := 28) rfl))) (mvT hZ (hw _ (List.mem_of_getElem? (i := 34) rfl))) (by decide) (backOf (W := 0) (ha2 l Z aw hw [] a0 k1 w0 w1 h0 n0 Z0 V_a0) hZ (hw _ (List.mem_of_getElem? (i := 34) rfl)) (hw _ (List.mem_of_getElem? (i := 28) rfl)) (by decide) (by decide)) (g := (mkF m 123 #[.val (.ref a0), .val (.int (0 : Int32)), .val (.int (2 : Int32)), .val (.int (1 : Int32)), .val (.int (10 : Int32))] [(.int (2 : Int32)), (.int (0 : Int32)), (.ref a0), (.int (1 : Int32))])) rfl (by rw [hml]; rfl) (argsL := [(.int (1 : Int32)), (.ref a0), (.int (0 : Int32)), (.int (2 : Int32))]) (rest := []) (lenOf pd_1 rfl) rfl (by show 2 * 0 + _ ≤ _; exact Nat.le_of_eq rfl) (hb hby d5_123) (fun _ _ => ⟨rfl, e167, (by decide : 0 + 0 ≤ _), (by decide : 0 + 0 ≤ _)⟩)
  dsimp only [Pt.U, Pt.locs, Pt.cells, Pt.slots] at X168 l168 y168 z168 st168 hQ168
  subst l168 y168 z168
  obtain ⟨rfl, N168q, e168⟩ := hQ168
  have N168 := Fr.app N0 N168q
  obtain ⟨fs, hr, hrun, hended, hW, hsame⟩ := X168.leave (v := some (.int (((31 : Int32) * ((31 : Int32) + w0)) + w1))) (fun h => by rw [Bd.returns] at h; cases h)
  refine ⟨_, _, pre0 _ ?_, hrun, hended, _, _, rfl, ?_, ⟨_, rfl⟩, hW, hsame.mono (by decide) (by decide)⟩
  ·
    show Steps p.tables e below (s₁.setTop (mkF m 0 #[.val (.ref a0), .val (.int (0 : Int32)), .val (.int (2 : Int32)), .val (.int (1 : Int32)), .val (.int (10 : Int32))] [])) _
    refine XS.iload X0.here hx rfl (hb hby d5_0) rfl ?_
    show Steps p.tables e below (s₁.setTop (mkF m 2 #[.val (.ref a0), .val (.int (0 : Int32)), .val (.int (2 : Int32)), .val (.int (1 : Int32)), .val (.int (10 : Int32))] [(.int (10 : Int32))])) _
    refine XS.tswIn X0.here hx rfl (pc0 := 2) (pc' := 116) (o := 114) rfl (hb hby d5_2) rfl (by decide) (by decide) (by decide) (by decide) ?_
    show Steps p.tables e below (s₁.setTop (mkF m 116 #[.val (.ref a0), .val (.int (0 : Int32)), .val (.int (2 : Int32)), .val (.int (1 : Int32)), .val (.int (10 : Int32))] [])) _
    refine XS.iloadN X0.here hx rfl (hb hby d5_116) rfl ?_
    show Steps p.tables e below (s₁.setTop (mkF m 117 #[.val (.ref a0), .val (.int (0 : Int32)), .val (.int (2 : Int32)), .val (.int (1 : Int32)), .val (.int (10 : Int32))] [(.int (1 : Int32))])) _
    refine XS.aloadN X0.here hx rfl (hb hby d5_117) rfl rfl ?_
    show Steps p.tables e below (s₁.setTop (mkF m 118 #[.val (.ref a0), .val (.int (0 : Int32)), .val (.int (2 : Int32)), .val (.int (1 : Int32)), .val (.int (10 : Int32))] [(.ref a0), (.int (1 : Int32))])) _
    refine st167 _ ?_
    show Steps p.tables e below (T167.setTop (mkF m 121 #[.val (.ref a0), .val (.int (0 : Int32)), .val (.int (2 : Int32)), .val (.int (1 : Int32)), .val (.int (10 : Int32))] [(.ref a0), (.int (1 : Int32))])) _
    refine XS.iloadN X167.here hx rfl (hb hby d5_121) rfl ?_
    show Steps p.tables e below (T167.setTop (mkF m 122 #[.val (.ref a0), .val (.int (0 : Int32)), .val (.int (2 : Int32)), .val (.int (1 : Int32)), .val (.int (10 : Int32))] [(.int (0 : Int32)), (.ref a0), (.int (1 : Int32))])) _
    refine XS.iloadN X167.here hx rfl (hb hby d5_122) rfl ?_
    show Steps p.tables e below (T167.setTop (mkF m 123 #[.val (.ref a0), .val (.int (0 : Int32)), .val (.int (2 : Int32)), .val (.int (1 : Int32)), .val (.int (10 : Int32))] [(.int (2 : Int32)), (.int (0 : Int32)), (.ref a0), (.int (1 : Int32))])) _
    refine st168 _ ?_
    show Steps p.tables e below (T168.setTop (mkF m 126 #[.val (.ref a0), .val (.int (0 : Int32)), .val (.int (2 : Int32)), .val (.int (1 : Int32)), .val (.int (10 : Int32))] [(.int (((31 : Int32) * ((31 : Int32) + w0)) + w1))])) _
    refine XS.goto X168.here hx rfl (pc0 := 126) (pc' := 157) rfl (hb hby d5_126) (by decide) (by decide) ?_
    show Steps p.tables e below (T168.setTop (mkF m 157 #[.val (.ref a0), .val (.int (0 : Int32)), .val (.int (2 : Int32)), .val (.int (1 : Int32)), .val (.int (10 : Int32))] [(.int (((31 : Int32) * ((31 : Int32) + w0)) + w1))])) _
    exact retI X168 hx Bd.returns (hb hby d5_157) hr
  ·
    show Q_hv2 Z a0 k1 w0 w1 h0 n0 _ T168.heap _
    rw [e168]
    exact ⟨rfl, N168, rfl⟩
theorem d3_49 : decode jdk_65_method_150_code 49 = .ok (.aload_n 0, 1) := by decide +kernel
theorem d3_50 : decode jdk_65_method_150_code 50 = .ok (.iconst 0, 1) := by decide +kernel
theorem d3_51 : decode jdk_65_method_150_code 51 = .ok (.aload_n 0, 1) := by decide +kernel
theorem d3_52 : decode jdk_65_method_150_code 52 = .ok (.arraylength, 1) := by decide +kernel
theorem d3_53 : decode jdk_65_method_150_code 53 = .ok (.iconst 1, 1) := by decide +kernel
theorem d3_54 : decode jdk_65_method_150_code 54 = .ok (.bipush 10, 2) := by decide +kernel
theorem pd_2 : parseMethodDescriptor "(Ljava/lang/Object;IIII)I" = some ⟨[(.object "java/lang/Object"), .int, .int, .int, .int], some .int⟩ := by decide +kernel
theorem d3_56 : decode jdk_65_method_150_code 56 = .ok (.invokestatic 379, 3) := by decide +kernel
theorem ef_hh2 (m : MethodId) (a0 : Addr) : entryFrame m #[(.ref a0)] 1 = mkF m 0 #[.val (.ref a0)] [] := by first | (simp [entryFrame, mkF, argsToLocals, Value.category]; done) | rfl
def Q_hh2 (Z : State) (a0 : Addr) (k1 : ClassId) (w0 : Int32) (w1 : Int32) (h0 : Heap) (n0 : Nat) (v : Option Value) (h : Heap) (L : List Loc) : Prop := v = some (.int (((31 : Int32) * ((31 : Int32) + w0)) + w1)) ∧ Fr n0 L ∧ h = h0
set_option maxRecDepth 65536 in
set_option maxHeartbeats 40000000 in
theorem hh2 (l : Launch) (Z : State) (aw : Array Value) (hw : ∀ d ∈ tables_1, d.before aw Z = true) (ws : List Jvm.Cond) (a0 : Addr) (k1 : ClassId) (w0 : Int32) (w1 : Int32) (h0 : Heap) (n0 : Nat) (Z0 : n0 ≤ h0.size) (V_a0 : Arv Z h0 a0 k1 .int (2 : Int32) [(.int w0), (.int w1)] (.int (0 : Int32))) (kc_a0 : Z.vm.findClass "[I" = some k1) :
    MetFree l (⟨"java/util/Arrays", "hashCode", "([I)I"⟩ : MethodName) (head1 (Jvm.Cond.code (⟨"java/util/Arrays", "hashCode", "([I)I"⟩ : MethodName) jdk_65_method_150_code 1 (some .int) :: ws) ({ frames := 2, cells := 0, slots := 0, locals := 33 } : Room)) (fun a U => a = #[(.ref a0)] ∧ Z.Warmed39 U.vm ∧ U.heap = h0) (fun _ _ _ _ _ => True) (fun _ U o U' => ∃ v L, o = .returned v ∧ Q_hh2 Z a0 k1 w0 w1 h0 n0 v U'.heap L ∧ FrameEnd U o U' L ({ frames := 2, cells := 0, slots := 0, locals := 33 } : Room).cells ({ frames := 2, cells := 0, slots := 0, locals := 33 } : Room).slots) := by
  refine MetFree.of_bodySF (plainFor_of_name pn_0) hisR ?_
  intro p e s m args below meth c s₁ Bd hml0 hP hK
  obtain ⟨rfl, hZ, hh⟩ := hP
  have hx := Bd.exec
  have hby := Bd.bytes
  have hml : c.maxLocals = 1 := hml0
  have hown : s.vm.findClass "java/util/Arrays" = some m.cls := findClass_of_methodNamed Bd.named
  have hnm := (name_of_methodNamed Bd.named Bd.method).1
  have X0 : Stand p l e ({ frames := 2, cells := 0, slots := 0, locals := 33 } : Room) s m #[(.ref a0)] below meth c s₁ [] 0 0 := Stand.of_body Bd
  have e0 : s₁.heap = h0 := by rw [← hh, Bd.state]; rfl
  have N0 := Fr.nil n0
  have pre0 : ∀ t, Steps p.tables e below (s₁.setTop (mkF m 0 #[.val (.ref a0)] [])) t → Steps p.tables e below (s₁.setTop (entryFrame m #[(.ref a0)] 1)) t := fun t k => castTop (ef_hh2 m a0) k
  obtain ⟨cl169, Ar169, q169, S169, N169, H169, G169⟩ := id V_a0
  obtain ⟨cl170, Ar170, q170, S170, N170, H170, G170⟩ := id V_a0
  obtain ⟨_, _, ⟨T171, L171, k171, n171⟩, -, X171, ⟨Lc171, hQ171, l171, y171, z171⟩, st171⟩ := Jvm.LawKit.callS X0 hx (y := (⟨"jdk/internal/util/ArraysSupport", "vectorizedHashCode", "(Ljava/lang/Object;IIII)I"⟩ : MethodName)) hown (mvT hZ (hw _ (List.mem_of_getElem? (i := 26) rfl))) (mvT hZ (hw _ (List.mem_of_getElem? (i := 27) rfl))) (mvT hZ (hw _ (List.mem_of_getElem? (i := 28) rfl))) (mvT hZ (hw _ (List.mem_of_getElem? (i := 29) rfl))) (by decide) (backOf (W := 0) (hv2 l Z aw hw [] a0 k1 w0 w1 h0 n0 Z0 V_a0 kc_a0) hZ (hw _ (List.mem_of_getElem? (i := 29) rfl)) (hw _ (List.mem_of_getElem? (i := 28) rfl)) (by decide) (by decide)) (g := (mkF m 56 #[.val (.ref a0)] [(.int (10 : Int32)), (.int (1 : Int32)), (.int (2 : Int32)), (.int (0 : Int32)), (.ref a0)])) rfl (by rw [hml]; rfl) (argsL := [(.ref a0), (.int (0 : Int32)), (.int (2 : Int32)), (.int (1 : Int32)), (.int (10 : Int32))]) (rest := []) (lenOf pd_2 rfl) rfl (by show 2 * 0 + _ ≤ _; exact Nat.le_of_eq rfl) (hb hby d3_56) (fun _ _ => ⟨rfl, e0, (by decide : 0 + 0 ≤ _), (by decide : 0 + 0 ≤ _)⟩)
  dsimp only [Pt.U, Pt.locs, Pt.cells, Pt.slots] at X171 l171 y171 z171 st171 hQ171
  subst l171 y171 z171
  obtain ⟨rfl, N171q, e171⟩ := hQ171
  have N171 := Fr.app N0 N171q
  obtain ⟨fs, hr, hrun, hended, hW, hsame⟩ := X171.leave (v := some (.int (((31 : Int32) * ((31 : Int32) + w0)) + w1))) (fun h => by rw [Bd.returns] at h; cases h)
  refine ⟨_, _, pre0 _ ?_, hrun, hended, _, _, rfl, ?_, ⟨_, rfl⟩, hW, hsame.mono (by decide) (by decide)⟩
  ·
    show Steps p.tables e below (s₁.setTop (mkF m 0 #[.val (.ref a0)] [])) _
    refine XS.aloadN X0.here hx rfl (hb hby d3_0) rfl rfl ?_
    show Steps p.tables e below (s₁.setTop (mkF m 1 #[.val (.ref a0)] [(.ref a0)])) _
    refine XS.ifnonnullYes X0.here hx rfl (pc0 := 1) (pc' := 6) rfl (hb hby d3_1) rfl (by decide) (by decide) ?_
    show Steps p.tables e below (s₁.setTop (mkF m 6 #[.val (.ref a0)] [])) _
    refine XS.aloadN X0.here hx rfl (hb hby d3_6) rfl rfl ?_
    show Steps p.tables e below (s₁.setTop (mkF m 7 #[.val (.ref a0)] [(.ref a0)])) _
    refine X0.arraylength hx (by rw [e0]; exact Ar169.1) (State.isArrayOf_alike hZ.alike Ar169.2.1) (g := (mkF m 7 #[.val (.ref a0)] [(.ref a0)])) rfl rfl (hb hby d3_7) _ ?_
    rw [len_of S169 N169]
    show Steps p.tables e below (s₁.setTop (mkF m 8 #[.val (.ref a0)] [(.int (2 : Int32))])) _
    refine lswMiss X0 hx rfl (pc0 := 8) (pc' := 49) rfl (hb hby d3_8) rfl (by decide) (by decide) (by decide) (by decide) ?_
    show Steps p.tables e below (s₁.setTop (mkF m 49 #[.val (.ref a0)] [])) _
    refine XS.aloadN X0.here hx rfl (hb hby d3_49) rfl rfl ?_
    show Steps p.tables e below (s₁.setTop (mkF m 50 #[.val (.ref a0)] [(.ref a0)])) _
    refine XS.iconst X0.here hx rfl (hb hby d3_50) ?_
    show Steps p.tables e below (s₁.setTop (mkF m 51 #[.val (.ref a0)] [(.int (0 : Int32)), (.ref a0)])) _
    refine XS.aloadN X0.here hx rfl (hb hby d3_51) rfl rfl ?_
    show Steps p.tables e below (s₁.setTop (mkF m 52 #[.val (.ref a0)] [(.ref a0), (.int (0 : Int32)), (.ref a0)])) _
    refine X0.arraylength hx (by rw [e0]; exact Ar170.1) (State.isArrayOf_alike hZ.alike Ar170.2.1) (g := (mkF m 52 #[.val (.ref a0)] [(.ref a0), (.int (0 : Int32)), (.ref a0)])) rfl rfl (hb hby d3_52) _ ?_
    rw [len_of S170 N170]
    show Steps p.tables e below (s₁.setTop (mkF m 53 #[.val (.ref a0)] [(.int (2 : Int32)), (.int (0 : Int32)), (.ref a0)])) _
    refine XS.iconst X0.here hx rfl (hb hby d3_53) ?_
    show Steps p.tables e below (s₁.setTop (mkF m 54 #[.val (.ref a0)] [(.int (1 : Int32)), (.int (2 : Int32)), (.int (0 : Int32)), (.ref a0)])) _
    refine XS.bipush X0.here hx rfl (hb hby d3_54) ?_
    show Steps p.tables e below (s₁.setTop (mkF m 56 #[.val (.ref a0)] [(.int (10 : Int32)), (.int (1 : Int32)), (.int (2 : Int32)), (.int (0 : Int32)), (.ref a0)])) _
    refine st171 _ ?_
    show Steps p.tables e below (T171.setTop (mkF m 59 #[.val (.ref a0)] [(.int (((31 : Int32) * ((31 : Int32) + w0)) + w1))])) _
    exact retI X171 hx Bd.returns (hb hby d3_59) hr
  ·
    show Q_hh2 Z a0 k1 w0 w1 h0 n0 _ T171.heap _
    rw [e171]
    exact ⟨rfl, N171, rfl⟩
theorem ef_ct2 (m : MethodId) (a0 : Addr) (a1 : Addr) : entryFrame m #[(.ref a0), (.ref a1)] 8 = mkF m 0 #[.val (.ref a0), .val (.ref a1), .unset, .unset, .unset, .unset, .unset, .unset] [] := by first | (simp [entryFrame, mkF, argsToLocals, Value.category]; done) | rfl
def Q_ct2 (Z : State) (a0 : Addr) (a1 : Addr) (k1 : ClassId) (w0 : Int32) (w1 : Int32) (h0 : Heap) (n0 : Nat) (v : Option Value) (h : Heap) (L : List Loc) : Prop := v = none ∧ Fr n0 L ∧ Keep h0 h [a0] ∧ Exa Z h a0 "com/example/enact/enact/net/Marking" ∧ Fld Z h a0 "com/example/enact/enact/net/Marking" "tokens" "[I" (.ref a1)
set_option maxRecDepth 65536 in
set_option maxHeartbeats 40000000 in
theorem ct2 (l : Launch) (Z : State) (aw : Array Value) (hw : ∀ d ∈ tables_1, d.before aw Z = true) (ws : List Jvm.Cond) (a0 : Addr) (a1 : Addr) (k1 : ClassId) (w0 : Int32) (w1 : Int32) (h0 : Heap) (n0 : Nat) (Z0 : n0 ≤ h0.size) (E_a0 : Exa Z h0 a0 "com/example/enact/enact/net/Marking") (F_a0_tokens : Fld Z h0 a0 "com/example/enact/enact/net/Marking" "tokens" "[I" .null) (F_a0_total : Fld Z h0 a0 "com/example/enact/enact/net/Marking" "total" "J" (.long (0 : Int64))) (F_a0_hash : Fld Z h0 a0 "com/example/enact/enact/net/Marking" "hash" "I" (.int (0 : Int32))) (g_a0 : n0 ≤ a0) (V_a1 : Arv Z h0 a1 k1 .int (2 : Int32) [(.int w0), (.int w1)] (.int (0 : Int32))) (kc_a1 : Z.vm.findClass "[I" = some k1) (ne_a0_a1 : a0 ≠ a1) :
    MetFree l (⟨"com/example/enact/enact/net/Marking", "<init>", "([I)V"⟩ : MethodName) (head1 (Jvm.Cond.code (⟨"com/example/enact/enact/net/Marking", "<init>", "([I)V"⟩ : MethodName) prog_29_method_1_code 8 none :: ws) ({ frames := 3, cells := 0, slots := 0, locals := 46 } : Room)) (fun a U => a = #[(.ref a0), (.ref a1)] ∧ Z.Warmed39 U.vm ∧ U.heap = h0) (fun _ _ _ _ _ => True) (fun _ U o U' => ∃ v L, o = .returned v ∧ Q_ct2 Z a0 a1 k1 w0 w1 h0 n0 v U'.heap L ∧ FrameEnd U o U' L ({ frames := 3, cells := 0, slots := 0, locals := 46 } : Room).cells ({ frames := 3, cells := 0, slots := 0, locals := 46 } : Room).slots) := by
  refine MetFree.of_bodySF (plainFor_of_name pn_1) hisR ?_
  intro p e s m args below meth c s₁ Bd hml0 hP hK
  obtain ⟨rfl, hZ, hh⟩ := hP
  have hx := Bd.exec
  have hby := Bd.bytes
  have hml : c.maxLocals = 8 := hml0
  have hown : s.vm.findClass "com/example/enact/enact/net/Marking" = some m.cls := findClass_of_methodNamed Bd.named
  have hnm := (name_of_methodNamed Bd.named Bd.method).1
  have X0 : Stand p l e ({ frames := 3, cells := 0, slots := 0, locals := 46 } : Room) s m #[(.ref a0), (.ref a1)] below meth c s₁ [] 0 0 := Stand.of_body Bd
  have e0 : s₁.heap = h0 := by rw [← hh, Bd.state]; rfl
  have N0 := Fr.nil n0
  have pre0 : ∀ t, Steps p.tables e below (s₁.setTop (mkF m 0 #[.val (.ref a0), .val (.ref a1), .unset, .unset, .unset, .unset, .unset, .unset] [])) t → Steps p.tables e below (s₁.setTop (entryFrame m #[(.ref a0), (.ref a1)] 8)) t := fun t k => castTop (ef_ct2 m a0 a1) k
  have KC0 : Keep h0 h0 [a0] := Keep.refl h0 [a0]
  obtain ⟨T172, X172, e172, st172⟩ := initO X0 hx hZ hown (hw _ (List.mem_of_getElem? (i := 8) rfl)) (hw _ (List.mem_of_getElem? (i := 9) rfl)) (hw _ (List.mem_of_getElem? (i := 10) rfl)) e0 (g := (mkF m 1 #[.val (.ref a0), .val (.ref a1), .unset, .unset, .unset, .unset, .unset, .unset] [(.ref a0)])) rfl (by rw [hml]; rfl) rfl (hb hby d1_1) (by decide) (W := 0) (by show 2 * 0 + _ ≤ _; exact Nat.le_of_eq rfl) (by decide)
  obtain ⟨cl173, Ar173, q173, S173, N173, H173, G173⟩ := id V_a1
  obtain ⟨cl174, Ar174, q174, S174, N174, H174, G174⟩ := id V_a1
  have hin174 : ¬ ((0 : Int32) < 0 ∨ cl174.slots.size ≤ ((0 : Int32)).toNatClampNeg) := inb_of S174 ⟨by decide, by decide⟩
  have hat174 : cl174.slots[((0 : Int32)).toNatClampNeg]? = some (.int w0) := Has.at H174 hin174 rfl
  obtain ⟨cl175, Ar175, q175, S175, N175, H175, G175⟩ := id V_a1
  have hin175 : ¬ ((1 : Int32) < 0 ∨ cl175.slots.size ≤ ((1 : Int32)).toNatClampNeg) := inb_of S175 ⟨by decide, by decide⟩
  have hat175 : cl175.slots[((1 : Int32)).toNatClampNeg]? = some (.int w1) := Has.at H175 hin175 rfl
  obtain ⟨T176, h176, X176, e176, W176, st176⟩ := putF X172 hx hZ hown (host := "") (Or.inl (hw _ (List.mem_of_getElem? (i := 11) rfl))) Via.refl e172 F_a0_tokens E_a0 (Or.inr ⟨(hw _ (List.mem_of_getElem? (i := 12) rfl)), rfl, hnm⟩) (hw _ (List.mem_of_getElem? (i := 3) rfl)) (ty := (.array .int)) (by decide) rfl rfl (g := (mkF m 45 #[.val (.ref a0), .val (.ref a1), .val (.long (((0 : Int64) + (w0.toInt64)) + (w1.toInt64))), .second, .val (.ref a1), .val (.int (2 : Int32)), .val (.int (2 : Int32)), .val (.int w1)] [(.ref a1), (.ref a0)])) rfl rfl (hb hby d1_45)
  have f177 := E_a0.wr W176
  have f178 := F_a0_total.other W176 (Or.inr (slot_ne (Or.inr (hw _ (List.mem_of_getElem? (i := 14) rfl))) (Or.inr (hw _ (List.mem_of_getElem? (i := 12) rfl))) (by decide) (t := .long) (t' := (.array .int)) (by decide) (by decide)))
  have f179 := F_a0_hash.other W176 (Or.inr (slot_ne (Or.inr (hw _ (List.mem_of_getElem? (i := 20) rfl))) (Or.inr (hw _ (List.mem_of_getElem? (i := 12) rfl))) (by decide) (t := .int) (t' := (.array .int)) (by decide) (by decide)))
  have f180 := V_a1.other W176 (Ne.symm ne_a0_a1)
  have Z181 : n0 ≤ h176.size := Nat.le_trans Z0 (Keep.of_wr W176).1
  have K182 : Keep h0 h176 [a0] := Keep.wr KC0 W176 (Or.inl (List.mem_of_getElem? (i := 0) rfl))
  have N183 := Fr.snoc X176 N0 g_a0
  have f184 : Fld Z h176 a0 "com/example/enact/enact/net/Marking" "tokens" "[I" (.ref a1) := F_a0_tokens.same W176
  obtain ⟨T185, h185, X185, e185, W185, st185⟩ := putF X176 hx hZ hown (host := "") (Or.inl (hw _ (List.mem_of_getElem? (i := 13) rfl))) Via.refl e176 f178 f177 (Or.inr ⟨(hw _ (List.mem_of_getElem? (i := 14) rfl)), rfl, hnm⟩) (hw _ (List.mem_of_getElem? (i := 3) rfl)) (ty := .long) (by decide) rfl rfl (g := (mkF m 50 #[.val (.ref a0), .val (.ref a1), .val (.long (((0 : Int64) + (w0.toInt64)) + (w1.toInt64))), .second, .val (.ref a1), .val (.int (2 : Int32)), .val (.int (2 : Int32)), .val (.int w1)] [(.long (((0 : Int64) + (w0.toInt64)) + (w1.toInt64))), (.ref a0)])) rfl rfl (hb hby d1_50)
  have f186 := f177.wr W185
  have f187 := f179.other W185 (Or.inr (slot_ne (Or.inr (hw _ (List.mem_of_getElem? (i := 20) rfl))) (Or.inr (hw _ (List.mem_of_getElem? (i := 14) rfl))) (by decide) (t := .int) (t' := .long) (by decide) (by decide)))
  have f188 := f180.other W185 (Ne.symm ne_a0_a1)
  have f189 := f184.other W185 (Or.inr (slot_ne (Or.inr (hw _ (List.mem_of_getElem? (i := 12) rfl))) (Or.inr (hw _ (List.mem_of_getElem? (i := 14) rfl))) (by decide) (t := (.array .int)) (t' := .long) (by decide) (by decide)))
  have Z190 : n0 ≤ h185.size := Nat.le_trans Z181 (Keep.of_wr W185).1
  have K191 : Keep h0 h185 [a0] := Keep.wr K182 W185 (Or.inl (List.mem_of_getElem? (i := 0) rfl))
  have N192 := Fr.snoc X185 N183 g_a0
  have f193 : Fld Z h185 a0 "com/example/enact/enact/net/Marking" "total" "J" (.long (((0 : Int64) + (w0.toInt64)) + (w1.toInt64))) := f178.same W185
  obtain ⟨_, _, ⟨T194, L194, k194, n194⟩, -, X194, ⟨Lc194, hQ194, l194, y194, z194⟩, st194⟩ := Jvm.LawKit.callS X185 hx (y := (⟨"java/util/Arrays", "hashCode", "([I)I"⟩ : MethodName)) hown (mvT hZ (hw _ (List.mem_of_getElem? (i := 15) rfl))) (mvT hZ (hw _ (List.mem_of_getElem? (i := 16) rfl))) (mvT hZ (hw _ (List.mem_of_getElem? (i := 17) rfl))) (mvT hZ (hw _ (List.mem_of_getElem? (i := 18) rfl))) (by decide) (backOf (W := 1) (hh2 l Z aw hw [] a1 k1 w0 w1 h185 n0 Z190 f188 kc_a1) hZ (hw _ (List.mem_of_getElem? (i := 18) rfl)) (hw _ (List.mem_of_getElem? (i := 17) rfl)) (by decide) (by decide)) (g := (mkF m 55 #[.val (.ref a0), .val (.ref a1), .val (.long (((0 : Int64) + (w0.toInt64)) + (w1.toInt64))), .second, .val (.ref a1), .val (.int (2 : Int32)), .val (.int (2 : Int32)), .val (.int w1)] [(.ref a1), (.ref a0)])) rfl (by rw [hml]; rfl) (argsL := [(.ref a1)]) (rest := [(.ref a0)]) (lenOf pd_0 rfl) rfl (by show 2 * 0 + _ ≤ _; exact Nat.le_of_eq rfl) (hb hby d1_55) (fun _ _ => ⟨rfl, e185, (by decide : 0 + 0 ≤ _), (by decide : 0 + 0 ≤ _)⟩)
  dsimp only [Pt.U, Pt.locs, Pt.cells, Pt.slots] at X194 l194 y194 z194 st194 hQ194
  subst l194 y194 z194
  obtain ⟨rfl, N194q, e194⟩ := hQ194
  have N194 := Fr.app N192 N194q
  obtain ⟨T195, h195, X195, e195, W195, st195⟩ := putF X194 hx hZ hown (host := "") (Or.inl (hw _ (List.mem_of_getElem? (i := 19) rfl))) Via.refl e194 f187 f186 (Or.inr ⟨(hw _ (List.mem_of_getElem? (i := 20) rfl)), rfl, hnm⟩) (hw _ (List.mem_of_getElem? (i := 3) rfl)) (ty := .int) (by decide) rfl rfl (g := (mkF m 58 #[.val (.ref a0), .val (.ref a1), .val (.long (((0 : Int64) + (w0.toInt64)) + (w1.toInt64))), .second, .val (.ref a1), .val (.int (2 : Int32)), .val (.int (2 : Int32)), .val (.int w1)] [(.int (((31 : Int32) * ((31 : Int32) + w0)) + w1)), (.ref a0)])) rfl rfl (hb hby d1_58)
  have f196 := f186.wr W195
  have f197 := f188.other W195 (Ne.symm ne_a0_a1)
  have f198 := f189.other W195 (Or.inr (slot_ne (Or.inr (hw _ (List.mem_of_getElem? (i := 12) rfl))) (Or.inr (hw _ (List.mem_of_getElem? (i := 20) rfl))) (by decide) (t := (.array .int)) (t' := .int) (by decide) (by decide)))
  have f199 := f193.other W195 (Or.inr (slot_ne (Or.inr (hw _ (List.mem_of_getElem? (i := 14) rfl))) (Or.inr (hw _ (List.mem_of_getElem? (i := 20) rfl))) (by decide) (t := .long) (t' := .int) (by decide) (by decide)))
  have Z200 : n0 ≤ h195.size := Nat.le_trans Z190 (Keep.of_wr W195).1
  have K201 : Keep h0 h195 [a0] := Keep.wr K191 W195 (Or.inl (List.mem_of_getElem? (i := 0) rfl))
  have N202 := Fr.snoc X195 N194 g_a0
  have f203 : Fld Z h195 a0 "com/example/enact/enact/net/Marking" "hash" "I" (.int (((31 : Int32) * ((31 : Int32) + w0)) + w1)) := f187.same W195
  obtain ⟨fs, hr, hrun, hended, hW, hsame⟩ := X195.leave (v := none) (fun _ => rfl)
  refine ⟨_, _, pre0 _ ?_, hrun, hended, _, _, rfl, ?_, ⟨_, rfl⟩, hW, hsame.mono (by decide) (by decide)⟩
  ·
    show Steps p.tables e below (s₁.setTop (mkF m 0 #[.val (.ref a0), .val (.ref a1), .unset, .unset, .unset, .unset, .unset, .unset] [])) _
    refine XS.aloadN X0.here hx rfl (hb hby d1_0) rfl rfl ?_
    show Steps p.tables e below (s₁.setTop (mkF m 1 #[.val (.ref a0), .val (.ref a1), .unset, .unset, .unset, .unset, .unset, .unset] [(.ref a0)])) _
    refine st172 _ ?_
    show Steps p.tables e below (T172.setTop (mkF m 4 #[.val (.ref a0), .val (.ref a1), .unset, .unset, .unset, .unset, .unset, .unset] [])) _
    refine XS.lconst X172.here hx rfl (hb hby d1_4) ?_
    show Steps p.tables e below (T172.setTop (mkF m 5 #[.val (.ref a0), .val (.ref a1), .unset, .unset, .unset, .unset, .unset, .unset] [(.long (0 : Int64))])) _
    refine XS.lstoreN X172.here hx rfl (hb hby d1_5) rfl (l' := #[.val (.ref a0), .val (.ref a1), .val (.long (0 : Int64)), .second, .unset, .unset, .unset, .unset]) rfl ?_
    show Steps p.tables e below (T172.setTop (mkF m 6 #[.val (.ref a0), .val (.ref a1), .val (.long (0 : Int64)), .second, .unset, .unset, .unset, .unset] [])) _
    refine XS.aloadN X172.here hx rfl (hb hby d1_6) rfl rfl ?_
    show Steps p.tables e below (T172.setTop (mkF m 7 #[.val (.ref a0), .val (.ref a1), .val (.long (0 : Int64)), .second, .unset, .unset, .unset, .unset] [(.ref a1)])) _
    refine XS.astore X172.here hx rfl (hb hby d1_7) rfl rfl (l' := #[.val (.ref a0), .val (.ref a1), .val (.long (0 : Int64)), .second, .val (.ref a1), .unset, .unset, .unset]) rfl ?_
    show Steps p.tables e below (T172.setTop (mkF m 9 #[.val (.ref a0), .val (.ref a1), .val (.long (0 : Int64)), .second, .val (.ref a1), .unset, .unset, .unset] [])) _
    refine XS.aload X172.here hx rfl (hb hby d1_9) rfl rfl ?_
    show Steps p.tables e below (T172.setTop (mkF m 11 #[.val (.ref a0), .val (.ref a1), .val (.long (0 : Int64)), .second, .val (.ref a1), .unset, .unset, .unset] [(.ref a1)])) _
    refine X172.arraylength hx (by rw [e172]; exact Ar173.1) (State.isArrayOf_alike hZ.alike Ar173.2.1) (g := (mkF m 11 #[.val (.ref a0), .val (.ref a1), .val (.long (0 : Int64)), .second, .val (.ref a1), .unset, .unset, .unset] [(.ref a1)])) rfl rfl (hb hby d1_11) _ ?_
    rw [len_of S173 N173]
    show Steps p.tables e below (T172.setTop (mkF m 12 #[.val (.ref a0), .val (.ref a1), .val (.long (0 : Int64)), .second, .val (.ref a1), .unset, .unset, .unset] [(.int (2 : Int32))])) _
    refine XS.istore X172.here hx rfl (hb hby d1_12) rfl (l' := #[.val (.ref a0), .val (.ref a1), .val (.long (0 : Int64)), .second, .val (.ref a1), .val (.int (2 : Int32)), .unset, .unset]) rfl ?_
    show Steps p.tables e below (T172.setTop (mkF m 14 #[.val (.ref a0), .val (.ref a1), .val (.long (0 : Int64)), .second, .val (.ref a1), .val (.int (2 : Int32)), .unset, .unset] [])) _
    refine XS.iconst X172.here hx rfl (hb hby d1_14) ?_
    show Steps p.tables e below (T172.setTop (mkF m 15 #[.val (.ref a0), .val (.ref a1), .val (.long (0 : Int64)), .second, .val (.ref a1), .val (.int (2 : Int32)), .unset, .unset] [(.int (0 : Int32))])) _
    refine XS.istore X172.here hx rfl (hb hby d1_15) rfl (l' := #[.val (.ref a0), .val (.ref a1), .val (.long (0 : Int64)), .second, .val (.ref a1), .val (.int (2 : Int32)), .val (.int (0 : Int32)), .unset]) rfl ?_
    show Steps p.tables e below (T172.setTop (mkF m 17 #[.val (.ref a0), .val (.ref a1), .val (.long (0 : Int64)), .second, .val (.ref a1), .val (.int (2 : Int32)), .val (.int (0 : Int32)), .unset] [])) _
    refine XS.iload X172.here hx rfl (hb hby d1_17) rfl ?_
    show Steps p.tables e below (T172.setTop (mkF m 19 #[.val (.ref a0), .val (.ref a1), .val (.long (0 : Int64)), .second, .val (.ref a1), .val (.int (2 : Int32)), .val (.int (0 : Int32)), .unset] [(.int (0 : Int32))])) _
    refine XS.iload X172.here hx rfl (hb hby d1_19) rfl ?_
    show Steps p.tables e below (T172.setTop (mkF m 21 #[.val (.ref a0), .val (.ref a1), .val (.long (0 : Int64)), .second, .val (.ref a1), .val (.int (2 : Int32)), .val (.int (0 : Int32)), .unset] [(.int (2 : Int32)), (.int (0 : Int32))])) _
    refine XS.icmpNo X172.here hx rfl (hb hby d1_21) rfl (tlt (by decide)).2.1 ?_
    show Steps p.tables e below (T172.setTop (mkF m 24 #[.val (.ref a0), .val (.ref a1), .val (.long (0 : Int64)), .second, .val (.ref a1), .val (.int (2 : Int32)), .val (.int (0 : Int32)), .unset] [])) _
    refine XS.aload X172.here hx rfl (hb hby d1_24) rfl rfl ?_
    show Steps p.tables e below (T172.setTop (mkF m 26 #[.val (.ref a0), .val (.ref a1), .val (.long (0 : Int64)), .second, .val (.ref a1), .val (.int (2 : Int32)), .val (.int (0 : Int32)), .unset] [(.ref a1)])) _
    refine XS.iload X172.here hx rfl (hb hby d1_26) rfl ?_
    show Steps p.tables e below (T172.setTop (mkF m 28 #[.val (.ref a0), .val (.ref a1), .val (.long (0 : Int64)), .second, .val (.ref a1), .val (.int (2 : Int32)), .val (.int (0 : Int32)), .unset] [(.int (0 : Int32)), (.ref a1)])) _
    refine X172.iaload hx (j := (0 : Int32)) (v := (.int w0)) (by rw [e172]; exact Ar174.1) (State.isArrayOf_alike hZ.alike Ar174.2.1) Ar174.2.2 hin174 hat174 (g := (mkF m 28 #[.val (.ref a0), .val (.ref a1), .val (.long (0 : Int64)), .second, .val (.ref a1), .val (.int (2 : Int32)), .val (.int (0 : Int32)), .unset] [(.int (0 : Int32)), (.ref a1)])) rfl rfl (hb hby d1_28) _ ?_
    show Steps p.tables e below (T172.setTop (mkF m 29 #[.val (.ref a0), .val (.ref a1), .val (.long (0 : Int64)), .second, .val (.ref a1), .val (.int (2 : Int32)), .val (.int (0 : Int32)), .unset] [(.int w0)])) _
    refine XS.istore X172.here hx rfl (hb hby d1_29) rfl (l' := #[.val (.ref a0), .val (.ref a1), .val (.long (0 : Int64)), .second, .val (.ref a1), .val (.int (2 : Int32)), .val (.int (0 : Int32)), .val (.int w0)]) rfl ?_
    show Steps p.tables e below (T172.setTop (mkF m 31 #[.val (.ref a0), .val (.ref a1), .val (.long (0 : Int64)), .second, .val (.ref a1), .val (.int (2 : Int32)), .val (.int (0 : Int32)), .val (.int w0)] [])) _
    refine XS.lloadN X172.here hx rfl (hb hby d1_31) rfl ?_
    show Steps p.tables e below (T172.setTop (mkF m 32 #[.val (.ref a0), .val (.ref a1), .val (.long (0 : Int64)), .second, .val (.ref a1), .val (.int (2 : Int32)), .val (.int (0 : Int32)), .val (.int w0)] [(.long (0 : Int64))])) _
    refine XS.iload X172.here hx rfl (hb hby d1_32) rfl ?_
    show Steps p.tables e below (T172.setTop (mkF m 34 #[.val (.ref a0), .val (.ref a1), .val (.long (0 : Int64)), .second, .val (.ref a1), .val (.int (2 : Int32)), .val (.int (0 : Int32)), .val (.int w0)] [(.int w0), (.long (0 : Int64))])) _
    refine XS.i2l X172.here hx rfl (hb hby d1_34) rfl ?_
    show Steps p.tables e below (T172.setTop (mkF m 35 #[.val (.ref a0), .val (.ref a1), .val (.long (0 : Int64)), .second, .val (.ref a1), .val (.int (2 : Int32)), .val (.int (0 : Int32)), .val (.int w0)] [(.long (w0.toInt64)), (.long (0 : Int64))])) _
    refine XS.ladd X172.here hx rfl (hb hby d1_35) rfl ?_
    show Steps p.tables e below (T172.setTop (mkF m 36 #[.val (.ref a0), .val (.ref a1), .val (.long (0 : Int64)), .second, .val (.ref a1), .val (.int (2 : Int32)), .val (.int (0 : Int32)), .val (.int w0)] [(.long ((0 : Int64) + (w0.toInt64)))])) _
    refine XS.lstoreN X172.here hx rfl (hb hby d1_36) rfl (l' := #[.val (.ref a0), .val (.ref a1), .val (.long ((0 : Int64) + (w0.toInt64))), .second, .val (.ref a1), .val (.int (2 : Int32)), .val (.int (0 : Int32)), .val (.int w0)]) rfl ?_
    show Steps p.tables e below (T172.setTop (mkF m 37 #[.val (.ref a0), .val (.ref a1), .val (.long ((0 : Int64) + (w0.toInt64))), .second, .val (.ref a1), .val (.int (2 : Int32)), .val (.int (0 : Int32)), .val (.int w0)] [])) _
    refine XS.iinc X172.here hx rfl (hb hby d1_37) rfl (l' := #[.val (.ref a0), .val (.ref a1), .val (.long ((0 : Int64) + (w0.toInt64))), .second, .val (.ref a1), .val (.int (2 : Int32)), .val (.int (1 : Int32)), .val (.int w0)]) rfl ?_
    show Steps p.tables e below (T172.setTop (mkF m 40 #[.val (.ref a0), .val (.ref a1), .val (.long ((0 : Int64) + (w0.toInt64))), .second, .val (.ref a1), .val (.int (2 : Int32)), .val (.int (1 : Int32)), .val (.int w0)] [])) _
    refine XS.goto X172.here hx rfl (pc0 := 40) (pc' := 17) rfl (hb hby d1_40) (by decide) (by decide) ?_
    show Steps p.tables e below (T172.setTop (mkF m 17 #[.val (.ref a0), .val (.ref a1), .val (.long ((0 : Int64) + (w0.toInt64))), .second, .val (.ref a1), .val (.int (2 : Int32)), .val (.int (1 : Int32)), .val (.int w0)] [])) _
    refine XS.iload X172.here hx rfl (hb hby d1_17) rfl ?_
    show Steps p.tables e below (T172.setTop (mkF m 19 #[.val (.ref a0), .val (.ref a1), .val (.long ((0 : Int64) + (w0.toInt64))), .second, .val (.ref a1), .val (.int (2 : Int32)), .val (.int (1 : Int32)), .val (.int w0)] [(.int (1 : Int32))])) _
    refine XS.iload X172.here hx rfl (hb hby d1_19) rfl ?_
    show Steps p.tables e below (T172.setTop (mkF m 21 #[.val (.ref a0), .val (.ref a1), .val (.long ((0 : Int64) + (w0.toInt64))), .second, .val (.ref a1), .val (.int (2 : Int32)), .val (.int (1 : Int32)), .val (.int w0)] [(.int (2 : Int32)), (.int (1 : Int32))])) _
    refine XS.icmpNo X172.here hx rfl (hb hby d1_21) rfl (tlt (by decide)).2.1 ?_
    show Steps p.tables e below (T172.setTop (mkF m 24 #[.val (.ref a0), .val (.ref a1), .val (.long ((0 : Int64) + (w0.toInt64))), .second, .val (.ref a1), .val (.int (2 : Int32)), .val (.int (1 : Int32)), .val (.int w0)] [])) _
    refine XS.aload X172.here hx rfl (hb hby d1_24) rfl rfl ?_
    show Steps p.tables e below (T172.setTop (mkF m 26 #[.val (.ref a0), .val (.ref a1), .val (.long ((0 : Int64) + (w0.toInt64))), .second, .val (.ref a1), .val (.int (2 : Int32)), .val (.int (1 : Int32)), .val (.int w0)] [(.ref a1)])) _
    refine XS.iload X172.here hx rfl (hb hby d1_26) rfl ?_
    show Steps p.tables e below (T172.setTop (mkF m 28 #[.val (.ref a0), .val (.ref a1), .val (.long ((0 : Int64) + (w0.toInt64))), .second, .val (.ref a1), .val (.int (2 : Int32)), .val (.int (1 : Int32)), .val (.int w0)] [(.int (1 : Int32)), (.ref a1)])) _
    refine X172.iaload hx (j := (1 : Int32)) (v := (.int w1)) (by rw [e172]; exact Ar175.1) (State.isArrayOf_alike hZ.alike Ar175.2.1) Ar175.2.2 hin175 hat175 (g := (mkF m 28 #[.val (.ref a0), .val (.ref a1), .val (.long ((0 : Int64) + (w0.toInt64))), .second, .val (.ref a1), .val (.int (2 : Int32)), .val (.int (1 : Int32)), .val (.int w0)] [(.int (1 : Int32)), (.ref a1)])) rfl rfl (hb hby d1_28) _ ?_
    show Steps p.tables e below (T172.setTop (mkF m 29 #[.val (.ref a0), .val (.ref a1), .val (.long ((0 : Int64) + (w0.toInt64))), .second, .val (.ref a1), .val (.int (2 : Int32)), .val (.int (1 : Int32)), .val (.int w0)] [(.int w1)])) _
    refine XS.istore X172.here hx rfl (hb hby d1_29) rfl (l' := #[.val (.ref a0), .val (.ref a1), .val (.long ((0 : Int64) + (w0.toInt64))), .second, .val (.ref a1), .val (.int (2 : Int32)), .val (.int (1 : Int32)), .val (.int w1)]) rfl ?_
    show Steps p.tables e below (T172.setTop (mkF m 31 #[.val (.ref a0), .val (.ref a1), .val (.long ((0 : Int64) + (w0.toInt64))), .second, .val (.ref a1), .val (.int (2 : Int32)), .val (.int (1 : Int32)), .val (.int w1)] [])) _
    refine XS.lloadN X172.here hx rfl (hb hby d1_31) rfl ?_
    show Steps p.tables e below (T172.setTop (mkF m 32 #[.val (.ref a0), .val (.ref a1), .val (.long ((0 : Int64) + (w0.toInt64))), .second, .val (.ref a1), .val (.int (2 : Int32)), .val (.int (1 : Int32)), .val (.int w1)] [(.long ((0 : Int64) + (w0.toInt64)))])) _
    refine XS.iload X172.here hx rfl (hb hby d1_32) rfl ?_
    show Steps p.tables e below (T172.setTop (mkF m 34 #[.val (.ref a0), .val (.ref a1), .val (.long ((0 : Int64) + (w0.toInt64))), .second, .val (.ref a1), .val (.int (2 : Int32)), .val (.int (1 : Int32)), .val (.int w1)] [(.int w1), (.long ((0 : Int64) + (w0.toInt64)))])) _
    refine XS.i2l X172.here hx rfl (hb hby d1_34) rfl ?_
    show Steps p.tables e below (T172.setTop (mkF m 35 #[.val (.ref a0), .val (.ref a1), .val (.long ((0 : Int64) + (w0.toInt64))), .second, .val (.ref a1), .val (.int (2 : Int32)), .val (.int (1 : Int32)), .val (.int w1)] [(.long (w1.toInt64)), (.long ((0 : Int64) + (w0.toInt64)))])) _
    refine XS.ladd X172.here hx rfl (hb hby d1_35) rfl ?_
    show Steps p.tables e below (T172.setTop (mkF m 36 #[.val (.ref a0), .val (.ref a1), .val (.long ((0 : Int64) + (w0.toInt64))), .second, .val (.ref a1), .val (.int (2 : Int32)), .val (.int (1 : Int32)), .val (.int w1)] [(.long (((0 : Int64) + (w0.toInt64)) + (w1.toInt64)))])) _
    refine XS.lstoreN X172.here hx rfl (hb hby d1_36) rfl (l' := #[.val (.ref a0), .val (.ref a1), .val (.long (((0 : Int64) + (w0.toInt64)) + (w1.toInt64))), .second, .val (.ref a1), .val (.int (2 : Int32)), .val (.int (1 : Int32)), .val (.int w1)]) rfl ?_
    show Steps p.tables e below (T172.setTop (mkF m 37 #[.val (.ref a0), .val (.ref a1), .val (.long (((0 : Int64) + (w0.toInt64)) + (w1.toInt64))), .second, .val (.ref a1), .val (.int (2 : Int32)), .val (.int (1 : Int32)), .val (.int w1)] [])) _
    refine XS.iinc X172.here hx rfl (hb hby d1_37) rfl (l' := #[.val (.ref a0), .val (.ref a1), .val (.long (((0 : Int64) + (w0.toInt64)) + (w1.toInt64))), .second, .val (.ref a1), .val (.int (2 : Int32)), .val (.int (2 : Int32)), .val (.int w1)]) rfl ?_
    show Steps p.tables e below (T172.setTop (mkF m 40 #[.val (.ref a0), .val (.ref a1), .val (.long (((0 : Int64) + (w0.toInt64)) + (w1.toInt64))), .second, .val (.ref a1), .val (.int (2 : Int32)), .val (.int (2 : Int32)), .val (.int w1)] [])) _
    refine XS.goto X172.here hx rfl (pc0 := 40) (pc' := 17) rfl (hb hby d1_40) (by decide) (by decide) ?_
    show Steps p.tables e below (T172.setTop (mkF m 17 #[.val (.ref a0), .val (.ref a1), .val (.long (((0 : Int64) + (w0.toInt64)) + (w1.toInt64))), .second, .val (.ref a1), .val (.int (2 : Int32)), .val (.int (2 : Int32)), .val (.int w1)] [])) _
    refine XS.iload X172.here hx rfl (hb hby d1_17) rfl ?_
    show Steps p.tables e below (T172.setTop (mkF m 19 #[.val (.ref a0), .val (.ref a1), .val (.long (((0 : Int64) + (w0.toInt64)) + (w1.toInt64))), .second, .val (.ref a1), .val (.int (2 : Int32)), .val (.int (2 : Int32)), .val (.int w1)] [(.int (2 : Int32))])) _
    refine XS.iload X172.here hx rfl (hb hby d1_19) rfl ?_
    show Steps p.tables e below (T172.setTop (mkF m 21 #[.val (.ref a0), .val (.ref a1), .val (.long (((0 : Int64) + (w0.toInt64)) + (w1.toInt64))), .second, .val (.ref a1), .val (.int (2 : Int32)), .val (.int (2 : Int32)), .val (.int w1)] [(.int (2 : Int32)), (.int (2 : Int32))])) _
    refine XS.icmpYes X172.here hx rfl (pc0 := 21) (pc' := 43) rfl (hb hby d1_21) rfl (flt (by decide)).2.1 (by decide) (by decide) ?_
    show Steps p.tables e below (T172.setTop (mkF m 43 #[.val (.ref a0), .val (.ref a1), .val (.long (((0 : Int64) + (w0.toInt64)) + (w1.toInt64))), .second, .val (.ref a1), .val (.int (2 : Int32)), .val (.int (2 : Int32)), .val (.int w1)] [])) _
    refine XS.aloadN X172.here hx rfl (hb hby d1_43) rfl rfl ?_
    show Steps p.tables e below (T172.setTop (mkF m 44 #[.val (.ref a0), .val (.ref a1), .val (.long (((0 : Int64) + (w0.toInt64)) + (w1.toInt64))), .second, .val (.ref a1), .val (.int (2 : Int32)), .val (.int (2 : Int32)), .val (.int w1)] [(.ref a0)])) _
    refine XS.aloadN X172.here hx rfl (hb hby d1_44) rfl rfl ?_
    show Steps p.tables e below (T172.setTop (mkF m 45 #[.val (.ref a0), .val (.ref a1), .val (.long (((0 : Int64) + (w0.toInt64)) + (w1.toInt64))), .second, .val (.ref a1), .val (.int (2 : Int32)), .val (.int (2 : Int32)), .val (.int w1)] [(.ref a1), (.ref a0)])) _
    refine st176 _ ?_
    show Steps p.tables e below (T176.setTop (mkF m 48 #[.val (.ref a0), .val (.ref a1), .val (.long (((0 : Int64) + (w0.toInt64)) + (w1.toInt64))), .second, .val (.ref a1), .val (.int (2 : Int32)), .val (.int (2 : Int32)), .val (.int w1)] [])) _
    refine XS.aloadN X176.here hx rfl (hb hby d1_48) rfl rfl ?_
    show Steps p.tables e below (T176.setTop (mkF m 49 #[.val (.ref a0), .val (.ref a1), .val (.long (((0 : Int64) + (w0.toInt64)) + (w1.toInt64))), .second, .val (.ref a1), .val (.int (2 : Int32)), .val (.int (2 : Int32)), .val (.int w1)] [(.ref a0)])) _
    refine XS.lloadN X176.here hx rfl (hb hby d1_49) rfl ?_
    show Steps p.tables e below (T176.setTop (mkF m 50 #[.val (.ref a0), .val (.ref a1), .val (.long (((0 : Int64) + (w0.toInt64)) + (w1.toInt64))), .second, .val (.ref a1), .val (.int (2 : Int32)), .val (.int (2 : Int32)), .val (.int w1)] [(.long (((0 : Int64) + (w0.toInt64)) + (w1.toInt64))), (.ref a0)])) _
    refine st185 _ ?_
    show Steps p.tables e below (T185.setTop (mkF m 53 #[.val (.ref a0), .val (.ref a1), .val (.long (((0 : Int64) + (w0.toInt64)) + (w1.toInt64))), .second, .val (.ref a1), .val (.int (2 : Int32)), .val (.int (2 : Int32)), .val (.int w1)] [])) _
    refine XS.aloadN X185.here hx rfl (hb hby d1_53) rfl rfl ?_
    show Steps p.tables e below (T185.setTop (mkF m 54 #[.val (.ref a0), .val (.ref a1), .val (.long (((0 : Int64) + (w0.toInt64)) + (w1.toInt64))), .second, .val (.ref a1), .val (.int (2 : Int32)), .val (.int (2 : Int32)), .val (.int w1)] [(.ref a0)])) _
    refine XS.aloadN X185.here hx rfl (hb hby d1_54) rfl rfl ?_
    show Steps p.tables e below (T185.setTop (mkF m 55 #[.val (.ref a0), .val (.ref a1), .val (.long (((0 : Int64) + (w0.toInt64)) + (w1.toInt64))), .second, .val (.ref a1), .val (.int (2 : Int32)), .val (.int (2 : Int32)), .val (.int w1)] [(.ref a1), (.ref a0)])) _
    refine st194 _ ?_
    show Steps p.tables e below (T194.setTop (mkF m 58 #[.val (.ref a0), .val (.ref a1), .val (.long (((0 : Int64) + (w0.toInt64)) + (w1.toInt64))), .second, .val (.ref a1), .val (.int (2 : Int32)), .val (.int (2 : Int32)), .val (.int w1)] [(.int (((31 : Int32) * ((31 : Int32) + w0)) + w1)), (.ref a0)])) _
    refine st195 _ ?_
    show Steps p.tables e below (T195.setTop (mkF m 61 #[.val (.ref a0), .val (.ref a1), .val (.long (((0 : Int64) + (w0.toInt64)) + (w1.toInt64))), .second, .val (.ref a1), .val (.int (2 : Int32)), .val (.int (2 : Int32)), .val (.int w1)] [])) _
    exact X195.returnOut hx Bd.returns (hb hby d1_61) hr
  ·
    show Q_ct2 Z a0 a1 k1 w0 w1 h0 n0 _ T195.heap _
    rw [e195]
    exact ⟨rfl, N202, K201, f196, f198⟩
theorem ef_ha3 (m : MethodId) (a1 : Addr) : entryFrame m #[(.int (1 : Int32)), (.ref a1), (.int (0 : Int32)), (.int (3 : Int32))] 6 = mkF m 0 #[.val (.int (1 : Int32)), .val (.ref a1), .val (.int (0 : Int32)), .val (.int (3 : Int32)), .unset, .unset] [] := by first | (simp [entryFrame, mkF, argsToLocals, Value.category]; done) | rfl
def Q_ha3 (Z : State) (a1 : Addr) (k1 : ClassId) (w0 : Int32) (w1 : Int32) (w2 : Int32) (h0 : Heap) (n0 : Nat) (v : Option Value) (h : Heap) (L : List Loc) : Prop := v = some (.int (((31 : Int32) * (((31 : Int32) * ((31 : Int32) + w0)) + w1)) + w2)) ∧ Fr n0 L ∧ h = h0
set_option maxRecDepth 65536 in
set_option maxHeartbeats 40000000 in
theorem ha3 (l : Launch) (Z : State) (aw : Array Value) (hw : ∀ d ∈ tables_1, d.before aw Z = true) (ws : List Jvm.Cond) (a1 : Addr) (k1 : ClassId) (w0 : Int32) (w1 : Int32) (w2 : Int32) (h0 : Heap) (n0 : Nat) (Z0 : n0 ≤ h0.size) (V_a1 : Arv Z h0 a1 k1 .int (3 : Int32) [(.int w0), (.int w1), (.int w2)] (.int (0 : Int32))) :
    MetFree l (⟨"jdk/internal/util/ArraysSupport", "hashCode", "(I[III)I"⟩ : MethodName) (head1 (Jvm.Cond.code (⟨"jdk/internal/util/ArraysSupport", "hashCode", "(I[III)I"⟩ : MethodName) jdk_48_method_9_code 6 (some .int) :: ws) ({ frames := 0, cells := 0, slots := 0, locals := 0 } : Room)) (fun a U => a = #[(.int (1 : Int32)), (.ref a1), (.int (0 : Int32)), (.int (3 : Int32))] ∧ Z.Warmed39 U.vm ∧ U.heap = h0) (fun _ _ _ _ _ => True) (fun _ U o U' => ∃ v L, o = .returned v ∧ Q_ha3 Z a1 k1 w0 w1 w2 h0 n0 v U'.heap L ∧ FrameEnd U o U' L ({ frames := 0, cells := 0, slots := 0, locals := 0 } : Room).cells ({ frames := 0, cells := 0, slots := 0, locals := 0 } : Room).slots) := by
  refine MetFree.of_bodySF (plainFor_of_name pn_2) hisR ?_
  intro p e s m args below meth c s₁ Bd hml0 hP hK
  obtain ⟨rfl, hZ, hh⟩ := hP
  have hx := Bd.exec
  have hby := Bd.bytes
  have hml : c.maxLocals = 6 := hml0
  have hown : s.vm.findClass "jdk/internal/util/ArraysSupport" = some m.cls := findClass_of_methodNamed Bd.named
  have hnm := (name_of_methodNamed Bd.named Bd.method).1
  have X0 : Stand p l e ({ frames := 0, cells := 0, slots := 0, locals := 0 } : Room) s m #[(.int (1 : Int32)), (.ref a1), (.int (0 : Int32)), (.int (3 : Int32))] below meth c s₁ [] 0 0 := Stand.of_body Bd
  have e0 : s₁.heap = h0 := by rw [← hh, Bd.state]; rfl
  have N0 := Fr.nil n0
  have pre0 : ∀ t, Steps p.tables e below (s₁.setTop (mkF m 0 #[.val (.int (1 : Int32)), .val (.ref a1), .val (.int (0 : Int32)), .val (.int (3 : Int32)), .unset, .unset] [])) t → Steps p.tables e below (s₁.setTop (entryFrame m #[(.int (1 : Int32)), (.ref a1), (.int (0 : Int32)), (.int (3 : Int32))] 6)) t := fun t k => castTop (ef_ha3 m a1) k
  obtain ⟨cl204, Ar204, q204, S204, N204, H204, G204⟩ := id V_a1
  have hin204 : ¬ ((0 : Int32) < 0 ∨ cl204.slots.size ≤ ((0 : Int32)).toNatClampNeg) := inb_of S204 ⟨by decide, by decide⟩
  have hat204 : cl204.slots[((0 : Int32)).toNatClampNeg]? = some (.int w0) := Has.at H204 hin204 rfl
  obtain ⟨cl205, Ar205, q205, S205, N205, H205, G205⟩ := id V_a1
  have hin205 : ¬ ((1 : Int32) < 0 ∨ cl205.slots.size ≤ ((1 : Int32)).toNatClampNeg) := inb_of S205 ⟨by decide, by decide⟩
  have hat205 : cl205.slots[((1 : Int32)).toNatClampNeg]? = some (.int w1) := Has.at H205 hin205 rfl
  obtain ⟨cl206, Ar206, q206, S206, N206, H206, G206⟩ := id V_a1
  have hin206 : ¬ ((2 : Int32) < 0 ∨ cl206.slots.size ≤ ((2 : Int32)).toNatClampNeg) := inb_of S206 ⟨by decide, by decide⟩
  have hat206 : cl206.slots[((2 : Int32)).toNatClampNeg]? = some (.int w2) := Has.at H206 hin206 rfl
  obtain ⟨fs, hr, hrun, hended, hW, hsame⟩ := X0.leave (v := some (.int (((31 : Int32) * (((31 : Int32) * ((31 : Int32) + w0)) + w1)) + w2))) (fun h => by rw [Bd.returns] at h; cases h)
  refine ⟨_, _, pre0 _ ?_, hrun, hended, _, _, rfl, ?_, ⟨_, rfl⟩, hW, hsame.mono (by decide) (by decide)⟩
  ·
    show Steps p.tables e below (s₁.setTop (mkF m 0 #[.val (.int (1 : Int32)), .val (.ref a1), .val (.int (0 : Int32)), .val (.int (3 : Int32)), .unset, .unset] [])) _
    refine XS.iloadN X0.here hx rfl (hb hby d6_0) rfl ?_
    show Steps p.tables e below (s₁.setTop (mkF m 1 #[.val (.int (1 : Int32)), .val (.ref a1), .val (.int (0 : Int32)), .val (.int (3 : Int32)), .unset, .unset] [(.int (0 : Int32))])) _
    refine XS.iloadN X0.here hx rfl (hb hby d6_1) rfl ?_
    show Steps p.tables e below (s₁.setTop (mkF m 2 #[.val (.int (1 : Int32)), .val (.ref a1), .val (.int (0 : Int32)), .val (.int (3 : Int32)), .unset, .unset] [(.int (3 : Int32)), (.int (0 : Int32))])) _
    refine XS.iadd X0.here hx rfl (hb hby d6_2) rfl ?_
    show Steps p.tables e below (s₁.setTop (mkF m 3 #[.val (.int (1 : Int32)), .val (.ref a1), .val (.int (0 : Int32)), .val (.int (3 : Int32)), .unset, .unset] [(.int (3 : Int32))])) _
    refine XS.istore X0.here hx rfl (hb hby d6_3) rfl (l' := #[.val (.int (1 : Int32)), .val (.ref a1), .val (.int (0 : Int32)), .val (.int (3 : Int32)), .val (.int (3 : Int32)), .unset]) rfl ?_
    show Steps p.tables e below (s₁.setTop (mkF m 5 #[.val (.int (1 : Int32)), .val (.ref a1), .val (.int (0 : Int32)), .val (.int (3 : Int32)), .val (.int (3 : Int32)), .unset] [])) _
    refine XS.iloadN X0.here hx rfl (hb hby d6_5) rfl ?_
    show Steps p.tables e below (s₁.setTop (mkF m 6 #[.val (.int (1 : Int32)), .val (.ref a1), .val (.int (0 : Int32)), .val (.int (3 : Int32)), .val (.int (3 : Int32)), .unset] [(.int (0 : Int32))])) _
    refine XS.istore X0.here hx rfl (hb hby d6_6) rfl (l' := #[.val (.int (1 : Int32)), .val (.ref a1), .val (.int (0 : Int32)), .val (.int (3 : Int32)), .val (.int (3 : Int32)), .val (.int (0 : Int32))]) rfl ?_
    show Steps p.tables e below (s₁.setTop (mkF m 8 #[.val (.int (1 : Int32)), .val (.ref a1), .val (.int (0 : Int32)), .val (.int (3 : Int32)), .val (.int (3 : Int32)), .val (.int (0 : Int32))] [])) _
    refine XS.iload X0.here hx rfl (hb hby d6_8) rfl ?_
    show Steps p.tables e below (s₁.setTop (mkF m 10 #[.val (.int (1 : Int32)), .val (.ref a1), .val (.int (0 : Int32)), .val (.int (3 : Int32)), .val (.int (3 : Int32)), .val (.int (0 : Int32))] [(.int (0 : Int32))])) _
    refine XS.iload X0.here hx rfl (hb hby d6_10) rfl ?_
    show Steps p.tables e below (s₁.setTop (mkF m 12 #[.val (.int (1 : Int32)), .val (.ref a1), .val (.int (0 : Int32)), .val (.int (3 : Int32)), .val (.int (3 : Int32)), .val (.int (0 : Int32))] [(.int (3 : Int32)), (.int (0 : Int32))])) _
    refine XS.icmpNo X0.here hx rfl (hb hby d6_12) rfl (tlt (by decide)).2.1 ?_
    show Steps p.tables e below (s₁.setTop (mkF m 15 #[.val (.int (1 : Int32)), .val (.ref a1), .val (.int (0 : Int32)), .val (.int (3 : Int32)), .val (.int (3 : Int32)), .val (.int (0 : Int32))] [])) _
    refine XS.bipush X0.here hx rfl (hb hby d6_15) ?_
    show Steps p.tables e below (s₁.setTop (mkF m 17 #[.val (.int (1 : Int32)), .val (.ref a1), .val (.int (0 : Int32)), .val (.int (3 : Int32)), .val (.int (3 : Int32)), .val (.int (0 : Int32))] [(.int (31 : Int32))])) _
    refine XS.iloadN X0.here hx rfl (hb hby d6_17) rfl ?_
    show Steps p.tables e below (s₁.setTop (mkF m 18 #[.val (.int (1 : Int32)), .val (.ref a1), .val (.int (0 : Int32)), .val (.int (3 : Int32)), .val (.int (3 : Int32)), .val (.int (0 : Int32))] [(.int (1 : Int32)), (.int (31 : Int32))])) _
    refine XS.imul X0.here hx rfl (hb hby d6_18) rfl ?_
    show Steps p.tables e below (s₁.setTop (mkF m 19 #[.val (.int (1 : Int32)), .val (.ref a1), .val (.int (0 : Int32)), .val (.int (3 : Int32)), .val (.int (3 : Int32)), .val (.int (0 : Int32))] [(.int (31 : Int32))])) _
    refine XS.aloadN X0.here hx rfl (hb hby d6_19) rfl rfl ?_
    show Steps p.tables e below (s₁.setTop (mkF m 20 #[.val (.int (1 : Int32)), .val (.ref a1), .val (.int (0 : Int32)), .val (.int (3 : Int32)), .val (.int (3 : Int32)), .val (.int (0 : Int32))] [(.ref a1), (.int (31 : Int32))])) _
    refine XS.iload X0.here hx rfl (hb hby d6_20) rfl ?_
    show Steps p.tables e below (s₁.setTop (mkF m 22 #[.val (.int (1 : Int32)), .val (.ref a1), .val (.int (0 : Int32)), .val (.int (3 : Int32)), .val (.int (3 : Int32)), .val (.int (0 : Int32))] [(.int (0 : Int32)), (.ref a1), (.int (31 : Int32))])) _
    refine X0.iaload hx (j := (0 : Int32)) (v := (.int w0)) (by rw [e0]; exact Ar204.1) (State.isArrayOf_alike hZ.alike Ar204.2.1) Ar204.2.2 hin204 hat204 (g := (mkF m 22 #[.val (.int (1 : Int32)), .val (.ref a1), .val (.int (0 : Int32)), .val (.int (3 : Int32)), .val (.int (3 : Int32)), .val (.int (0 : Int32))] [(.int (0 : Int32)), (.ref a1), (.int (31 : Int32))])) rfl rfl (hb hby d6_22) _ ?_
    show Steps p.tables e below (s₁.setTop (mkF m 23 #[.val (.int (1 : Int32)), .val (.ref a1), .val (.int (0 : Int32)), .val (.int (3 : Int32)), .val (.int (3 : Int32)), .val (.int (0 : Int32))] [(.int w0), (.int (31 : Int32))])) _
    refine XS.iadd X0.here hx rfl (hb hby d6_23) rfl ?_
    show Steps p.tables e below (s₁.setTop (mkF m 24 #[.val (.int (1 : Int32)), .val (.ref a1), .val (.int (0 : Int32)), .val (.int (3 : Int32)), .val (.int (3 : Int32)), .val (.int (0 : Int32))] [(.int ((31 : Int32) + w0))])) _
    refine XS.istoreN X0.here hx rfl (hb hby d6_24) rfl (l' := #[.val (.int ((31 : Int32) + w0)), .val (.ref a1), .val (.int (0 : Int32)), .val (.int (3 : Int32)), .val (.int (3 : Int32)), .val (.int (0 : Int32))]) rfl ?_
    show Steps p.tables e below (s₁.setTop (mkF m 25 #[.val (.int ((31 : Int32) + w0)), .val (.ref a1), .val (.int (0 : Int32)), .val (.int (3 : Int32)), .val (.int (3 : Int32)), .val (.int (0 : Int32))] [])) _
    refine XS.iinc X0.here hx rfl (hb hby d6_25) rfl (l' := #[.val (.int ((31 : Int32) + w0)), .val (.ref a1), .val (.int (0 : Int32)), .val (.int (3 : Int32)), .val (.int (3 : Int32)), .val (.int (1 : Int32))]) rfl ?_
    show Steps p.tables e below (s₁.setTop (mkF m 28 #[.val (.int ((31 : Int32) + w0)), .val (.ref a1), .val (.int (0 : Int32)), .val (.int (3 : Int32)), .val (.int (3 : Int32)), .val (.int (1 : Int32))] [])) _
    refine XS.goto X0.here hx rfl (pc0 := 28) (pc' := 8) rfl (hb hby d6_28) (by decide) (by decide) ?_
    show Steps p.tables e below (s₁.setTop (mkF m 8 #[.val (.int ((31 : Int32) + w0)), .val (.ref a1), .val (.int (0 : Int32)), .val (.int (3 : Int32)), .val (.int (3 : Int32)), .val (.int (1 : Int32))] [])) _
    refine XS.iload X0.here hx rfl (hb hby d6_8) rfl ?_
    show Steps p.tables e below (s₁.setTop (mkF m 10 #[.val (.int ((31 : Int32) + w0)), .val (.ref a1), .val (.int (0 : Int32)), .val (.int (3 : Int32)), .val (.int (3 : Int32)), .val (.int (1 : Int32))] [(.int (1 : Int32))])) _
    refine XS.iload X0.here hx rfl (hb hby d6_10) rfl ?_
    show Steps p.tables e below (s₁.setTop (mkF m 12 #[.val (.int ((31 : Int32) + w0)), .val (.ref a1), .val (.int (0 : Int32)), .val (.int (3 : Int32)), .val (.int (3 : Int32)), .val (.int (1 : Int32))] [(.int (3 : Int32)), (.int (1 : Int32))])) _
    refine XS.icmpNo X0.here hx rfl (hb hby d6_12) rfl (tlt (by decide)).2.1 ?_
    show Steps p.tables e below (s₁.setTop (mkF m 15 #[.val (.int ((31 : Int32) + w0)), .val (.ref a1), .val (.int (0 : Int32)), .val (.int (3 : Int32)), .val (.int (3 : Int32)), .val (.int (1 : Int32))] [])) _
    refine XS.bipush X0.here hx rfl (hb hby d6_15) ?_
    show Steps p.tables e below (s₁.setTop (mkF m 17 #[.val (.int ((31 : Int32) + w0)), .val (.ref a1), .val (.int (0 : Int32)), .val (.int (3 : Int32)), .val (.int (3 : Int32)), .val (.int (1 : Int32))] [(.int (31 : Int32))])) _
    refine XS.iloadN X0.here hx rfl (hb hby d6_17) rfl ?_
    show Steps p.tables e below (s₁.setTop (mkF m 18 #[.val (.int ((31 : Int32) + w0)), .val (.ref a1), .val (.int (0 : Int32)), .val (.int (3 : Int32)), .val (.int (3 : Int32)), .val (.int (1 : Int32))] [(.int ((31 : Int32) + w0)), (.int (31 : Int32))])) _
    refine XS.imul X0.here hx rfl (hb hby d6_18) rfl ?_
    show Steps p.tables e below (s₁.setTop (mkF m 19 #[.val (.int ((31 : Int32) + w0)), .val (.ref a1), .val (.int (0 : Int32)), .val (.int (3 : Int32)), .val (.int (3 : Int32)), .val (.int (1 : Int32))] [(.int ((31 : Int32) * ((31 : Int32) + w0)))])) _
    refine XS.aloadN X0.here hx rfl (hb hby d6_19) rfl rfl ?_
    show Steps p.tables e below (s₁.setTop (mkF m 20 #[.val (.int ((31 : Int32) + w0)), .val (.ref a1), .val (.int (0 : Int32)), .val (.int (3 : Int32)), .val (.int (3 : Int32)), .val (.int (1 : Int32))] [(.ref a1), (.int ((31 : Int32) * ((31 : Int32) + w0)))])) _
    refine XS.iload X0.here hx rfl (hb hby d6_20) rfl ?_
    show Steps p.tables e below (s₁.setTop (mkF m 22 #[.val (.int ((31 : Int32) + w0)), .val (.ref a1), .val (.int (0 : Int32)), .val (.int (3 : Int32)), .val (.int (3 : Int32)), .val (.int (1 : Int32))] [(.int (1 : Int32)), (.ref a1), (.int ((31 : Int32) * ((31 : Int32) + w0)))])) _
    refine X0.iaload hx (j := (1 : Int32)) (v := (.int w1)) (by rw [e0]; exact Ar205.1) (State.isArrayOf_alike hZ.alike Ar205.2.1) Ar205.2.2 hin205 hat205 (g := (mkF m 22 #[.val (.int ((31 : Int32) + w0)), .val (.ref a1), .val (.int (0 : Int32)), .val (.int (3 : Int32)), .val (.int (3 : Int32)), .val (.int (1 : Int32))] [(.int (1 : Int32)), (.ref a1), (.int ((31 : Int32) * ((31 : Int32) + w0)))])) rfl rfl (hb hby d6_22) _ ?_
    show Steps p.tables e below (s₁.setTop (mkF m 23 #[.val (.int ((31 : Int32) + w0)), .val (.ref a1), .val (.int (0 : Int32)), .val (.int (3 : Int32)), .val (.int (3 : Int32)), .val (.int (1 : Int32))] [(.int w1), (.int ((31 : Int32) * ((31 : Int32) + w0)))])) _
    refine XS.iadd X0.here hx rfl (hb hby d6_23) rfl ?_
    show Steps p.tables e below (s₁.setTop (mkF m 24 #[.val (.int ((31 : Int32) + w0)), .val (.ref a1), .val (.int (0 : Int32)), .val (.int (3 : Int32)), .val (.int (3 : Int32)), .val (.int (1 : Int32))] [(.int (((31 : Int32) * ((31 : Int32) + w0)) + w1))])) _
    refine XS.istoreN X0.here hx rfl (hb hby d6_24) rfl (l' := #[.val (.int (((31 : Int32) * ((31 : Int32) + w0)) + w1)), .val (.ref a1), .val (.int (0 : Int32)), .val (.int (3 : Int32)), .val (.int (3 : Int32)), .val (.int (1 : Int32))]) rfl ?_
    show Steps p.tables e below (s₁.setTop (mkF m 25 #[.val (.int (((31 : Int32) * ((31 : Int32) + w0)) + w1)), .val (.ref a1), .val (.int (0 : Int32)), .val (.int (3 : Int32)), .val (.int (3 : Int32)), .val (.int (1 : Int32))] [])) _
    refine XS.iinc X0.here hx rfl (hb hby d6_25) rfl (l' := #[.val (.int (((31 : Int32) * ((31 : Int32) + w0)) + w1)), .val (.ref a1), .val (.int (0 : Int32)), .val (.int (3 : Int32)), .val (.int (3 : Int32)), .val (.int (2 : Int32))]) rfl ?_
    show Steps p.tables e below (s₁.setTop (mkF m 28 #[.val (.int (((31 : Int32) * ((31 : Int32) + w0)) + w1)), .val (.ref a1), .val (.int (0 : Int32)), .val (.int (3 : Int32)), .val (.int (3 : Int32)), .val (.int (2 : Int32))] [])) _
    refine XS.goto X0.here hx rfl (pc0 := 28) (pc' := 8) rfl (hb hby d6_28) (by decide) (by decide) ?_
    show Steps p.tables e below (s₁.setTop (mkF m 8 #[.val (.int (((31 : Int32) * ((31 : Int32) + w0)) + w1)), .val (.ref a1), .val (.int (0 : Int32)), .val (.int (3 : Int32)), .val (.int (3 : Int32)), .val (.int (2 : Int32))] [])) _
    refine XS.iload X0.here hx rfl (hb hby d6_8) rfl ?_
    show Steps p.tables e below (s₁.setTop (mkF m 10 #[.val (.int (((31 : Int32) * ((31 : Int32) + w0)) + w1)), .val (.ref a1), .val (.int (0 : Int32)), .val (.int (3 : Int32)), .val (.int (3 : Int32)), .val (.int (2 : Int32))] [(.int (2 : Int32))])) _
    refine XS.iload X0.here hx rfl (hb hby d6_10) rfl ?_
    show Steps p.tables e below (s₁.setTop (mkF m 12 #[.val (.int (((31 : Int32) * ((31 : Int32) + w0)) + w1)), .val (.ref a1), .val (.int (0 : Int32)), .val (.int (3 : Int32)), .val (.int (3 : Int32)), .val (.int (2 : Int32))] [(.int (3 : Int32)), (.int (2 : Int32))])) _
    refine XS.icmpNo X0.here hx rfl (hb hby d6_12) rfl (tlt (by decide)).2.1 ?_
    show Steps p.tables e below (s₁.setTop (mkF m 15 #[.val (.int (((31 : Int32) * ((31 : Int32) + w0)) + w1)), .val (.ref a1), .val (.int (0 : Int32)), .val (.int (3 : Int32)), .val (.int (3 : Int32)), .val (.int (2 : Int32))] [])) _
    refine XS.bipush X0.here hx rfl (hb hby d6_15) ?_
    show Steps p.tables e below (s₁.setTop (mkF m 17 #[.val (.int (((31 : Int32) * ((31 : Int32) + w0)) + w1)), .val (.ref a1), .val (.int (0 : Int32)), .val (.int (3 : Int32)), .val (.int (3 : Int32)), .val (.int (2 : Int32))] [(.int (31 : Int32))])) _
    refine XS.iloadN X0.here hx rfl (hb hby d6_17) rfl ?_
    show Steps p.tables e below (s₁.setTop (mkF m 18 #[.val (.int (((31 : Int32) * ((31 : Int32) + w0)) + w1)), .val (.ref a1), .val (.int (0 : Int32)), .val (.int (3 : Int32)), .val (.int (3 : Int32)), .val (.int (2 : Int32))] [(.int (((31 : Int32) * ((31 : Int32) + w0)) + w1)), (.int (31 : Int32))])) _
    refine XS.imul X0.here hx rfl (hb hby d6_18) rfl ?_
    show Steps p.tables e below (s₁.setTop (mkF m 19 #[.val (.int (((31 : Int32) * ((31 : Int32) + w0)) + w1)), .val (.ref a1), .val (.int (0 : Int32)), .val (.int (3 : Int32)), .val (.int (3 : Int32)), .val (.int (2 : Int32))] [(.int ((31 : Int32) * (((31 : Int32) * ((31 : Int32) + w0)) + w1)))])) _
    refine XS.aloadN X0.here hx rfl (hb hby d6_19) rfl rfl ?_
    show Steps p.tables e below (s₁.setTop (mkF m 20 #[.val (.int (((31 : Int32) * ((31 : Int32) + w0)) + w1)), .val (.ref a1), .val (.int (0 : Int32)), .val (.int (3 : Int32)), .val (.int (3 : Int32)), .val (.int (2 : Int32))] [(.ref a1), (.int ((31 : Int32) * (((31 : Int32) * ((31 : Int32) + w0)) + w1)))])) _
    refine XS.iload X0.here hx rfl (hb hby d6_20) rfl ?_
    show Steps p.tables e below (s₁.setTop (mkF m 22 #[.val (.int (((31 : Int32) * ((31 : Int32) + w0)) + w1)), .val (.ref a1), .val (.int (0 : Int32)), .val (.int (3 : Int32)), .val (.int (3 : Int32)), .val (.int (2 : Int32))] [(.int (2 : Int32)), (.ref a1), (.int ((31 : Int32) * (((31 : Int32) * ((31 : Int32) + w0)) + w1)))])) _
    refine X0.iaload hx (j := (2 : Int32)) (v := (.int w2)) (by rw [e0]; exact Ar206.1) (State.isArrayOf_alike hZ.alike Ar206.2.1) Ar206.2.2 hin206 hat206 (g := (mkF m 22 #[.val (.int (((31 : Int32) * ((31 : Int32) + w0)) + w1)), .val (.ref a1), .val (.int (0 : Int32)), .val (.int (3 : Int32)), .val (.int (3 : Int32)), .val (.int (2 : Int32))] [(.int (2 : Int32)), (.ref a1), (.int ((31 : Int32) * (((31 : Int32) * ((31 : Int32) + w0)) + w1)))])) rfl rfl (hb hby d6_22) _ ?_
    show Steps p.tables e below (s₁.setTop (mkF m 23 #[.val (.int (((31 : Int32) * ((31 : Int32) + w0)) + w1)), .val (.ref a1), .val (.int (0 : Int32)), .val (.int (3 : Int32)), .val (.int (3 : Int32)), .val (.int (2 : Int32))] [(.int w2), (.int ((31 : Int32) * (((31 : Int32) * ((31 : Int32) + w0)) + w1)))])) _
    refine XS.iadd X0.here hx rfl (hb hby d6_23) rfl ?_
    show Steps p.tables e below (s₁.setTop (mkF m 24 #[.val (.int (((31 : Int32) * ((31 : Int32) + w0)) + w1)), .val (.ref a1), .val (.int (0 : Int32)), .val (.int (3 : Int32)), .val (.int (3 : Int32)), .val (.int (2 : Int32))] [(.int (((31 : Int32) * (((31 : Int32) * ((31 : Int32) + w0)) + w1)) + w2))])) _
    refine XS.istoreN X0.here hx rfl (hb hby d6_24) rfl (l' := #[.val (.int (((31 : Int32) * (((31 : Int32) * ((31 : Int32) + w0)) + w1)) + w2)), .val (.ref a1), .val (.int (0 : Int32)), .val (.int (3 : Int32)), .val (.int (3 : Int32)), .val (.int (2 : Int32))]) rfl ?_
    show Steps p.tables e below (s₁.setTop (mkF m 25 #[.val (.int (((31 : Int32) * (((31 : Int32) * ((31 : Int32) + w0)) + w1)) + w2)), .val (.ref a1), .val (.int (0 : Int32)), .val (.int (3 : Int32)), .val (.int (3 : Int32)), .val (.int (2 : Int32))] [])) _
    refine XS.iinc X0.here hx rfl (hb hby d6_25) rfl (l' := #[.val (.int (((31 : Int32) * (((31 : Int32) * ((31 : Int32) + w0)) + w1)) + w2)), .val (.ref a1), .val (.int (0 : Int32)), .val (.int (3 : Int32)), .val (.int (3 : Int32)), .val (.int (3 : Int32))]) rfl ?_
    show Steps p.tables e below (s₁.setTop (mkF m 28 #[.val (.int (((31 : Int32) * (((31 : Int32) * ((31 : Int32) + w0)) + w1)) + w2)), .val (.ref a1), .val (.int (0 : Int32)), .val (.int (3 : Int32)), .val (.int (3 : Int32)), .val (.int (3 : Int32))] [])) _
    refine XS.goto X0.here hx rfl (pc0 := 28) (pc' := 8) rfl (hb hby d6_28) (by decide) (by decide) ?_
    show Steps p.tables e below (s₁.setTop (mkF m 8 #[.val (.int (((31 : Int32) * (((31 : Int32) * ((31 : Int32) + w0)) + w1)) + w2)), .val (.ref a1), .val (.int (0 : Int32)), .val (.int (3 : Int32)), .val (.int (3 : Int32)), .val (.int (3 : Int32))] [])) _
    refine XS.iload X0.here hx rfl (hb hby d6_8) rfl ?_
    show Steps p.tables e below (s₁.setTop (mkF m 10 #[.val (.int (((31 : Int32) * (((31 : Int32) * ((31 : Int32) + w0)) + w1)) + w2)), .val (.ref a1), .val (.int (0 : Int32)), .val (.int (3 : Int32)), .val (.int (3 : Int32)), .val (.int (3 : Int32))] [(.int (3 : Int32))])) _
    refine XS.iload X0.here hx rfl (hb hby d6_10) rfl ?_
    show Steps p.tables e below (s₁.setTop (mkF m 12 #[.val (.int (((31 : Int32) * (((31 : Int32) * ((31 : Int32) + w0)) + w1)) + w2)), .val (.ref a1), .val (.int (0 : Int32)), .val (.int (3 : Int32)), .val (.int (3 : Int32)), .val (.int (3 : Int32))] [(.int (3 : Int32)), (.int (3 : Int32))])) _
    refine XS.icmpYes X0.here hx rfl (pc0 := 12) (pc' := 31) rfl (hb hby d6_12) rfl (flt (by decide)).2.1 (by decide) (by decide) ?_
    show Steps p.tables e below (s₁.setTop (mkF m 31 #[.val (.int (((31 : Int32) * (((31 : Int32) * ((31 : Int32) + w0)) + w1)) + w2)), .val (.ref a1), .val (.int (0 : Int32)), .val (.int (3 : Int32)), .val (.int (3 : Int32)), .val (.int (3 : Int32))] [])) _
    refine XS.iloadN X0.here hx rfl (hb hby d6_31) rfl ?_
    show Steps p.tables e below (s₁.setTop (mkF m 32 #[.val (.int (((31 : Int32) * (((31 : Int32) * ((31 : Int32) + w0)) + w1)) + w2)), .val (.ref a1), .val (.int (0 : Int32)), .val (.int (3 : Int32)), .val (.int (3 : Int32)), .val (.int (3 : Int32))] [(.int (((31 : Int32) * (((31 : Int32) * ((31 : Int32) + w0)) + w1)) + w2))])) _
    exact retI X0 hx Bd.returns (hb hby d6_32) hr
  ·
    show Q_ha3 Z a1 k1 w0 w1 w2 h0 n0 _ s₁.heap _
    rw [e0]
    exact ⟨rfl, N0, rfl⟩
theorem ef_hv3 (m : MethodId) (a0 : Addr) : entryFrame m #[(.ref a0), (.int (0 : Int32)), (.int (3 : Int32)), (.int (1 : Int32)), (.int (10 : Int32))] 5 = mkF m 0 #[.val (.ref a0), .val (.int (0 : Int32)), .val (.int (3 : Int32)), .val (.int (1 : Int32)), .val (.int (10 : Int32))] [] := by first | (simp [entryFrame, mkF, argsToLocals, Value.category]; done) | rfl
def Q_hv3 (Z : State) (a0 : Addr) (k1 : ClassId) (w0 : Int32) (w1 : Int32) (w2 : Int32) (h0 : Heap) (n0 : Nat) (v : Option Value) (h : Heap) (L : List Loc) : Prop := v = some (.int (((31 : Int32) * (((31 : Int32) * ((31 : Int32) + w0)) + w1)) + w2)) ∧ Fr n0 L ∧ h = h0
set_option maxRecDepth 65536 in
set_option maxHeartbeats 40000000 in
theorem hv3 (l : Launch) (Z : State) (aw : Array Value) (hw : ∀ d ∈ tables_1, d.before aw Z = true) (ws : List Jvm.Cond) (a0 : Addr) (k1 : ClassId) (w0 : Int32) (w1 : Int32) (w2 : Int32) (h0 : Heap) (n0 : Nat) (Z0 : n0 ≤ h0.size) (V_a0 : Arv Z h0 a0 k1 .int (3 : Int32) [(.int w0), (.int w1), (.int w2)] (.int (0 : Int32))) (kc_a0 : Z.vm.findClass "[I" = some k1) :
    MetFree l (⟨"jdk/internal/util/ArraysSupport", "vectorizedHashCode", "(Ljava/lang/Object;IIII)I"⟩ : MethodName) (head1 (Jvm.Cond.code (⟨"jdk/internal/util/ArraysSupport", "vectorizedHashCode", "(Ljava/lang/Object;IIII)I"⟩ : MethodName) jdk_48_method_4_code 5 (some .int) :: ws) ({ frames := 1, cells := 0, slots := 0, locals := 17 } : Room)) (fun a U => a = #[(.ref a0), (.int (0 : Int32)), (.int (3 : Int32)), (.int (1 : Int32)), (.int (10 : Int32))] ∧ Z.Warmed39 U.vm ∧ U.heap = h0) (fun _ _ _ _ _ => True) (fun _ U o U' => ∃ v L, o = .returned v ∧ Q_hv3 Z a0 k1 w0 w1 w2 h0 n0 v U'.heap L ∧ FrameEnd U o U' L ({ frames := 1, cells := 0, slots := 0, locals := 17 } : Room).cells ({ frames := 1, cells := 0, slots := 0, locals := 17 } : Room).slots) := by
  refine MetFree.of_bodySF (plainFor_of_name pn_2) hisR ?_
  intro p e s m args below meth c s₁ Bd hml0 hP hK
  obtain ⟨rfl, hZ, hh⟩ := hP
  have hx := Bd.exec
  have hby := Bd.bytes
  have hml : c.maxLocals = 5 := hml0
  have hown : s.vm.findClass "jdk/internal/util/ArraysSupport" = some m.cls := findClass_of_methodNamed Bd.named
  have hnm := (name_of_methodNamed Bd.named Bd.method).1
  have X0 : Stand p l e ({ frames := 1, cells := 0, slots := 0, locals := 17 } : Room) s m #[(.ref a0), (.int (0 : Int32)), (.int (3 : Int32)), (.int (1 : Int32)), (.int (10 : Int32))] below meth c s₁ [] 0 0 := Stand.of_body Bd
  have e0 : s₁.heap = h0 := by rw [← hh, Bd.state]; rfl
  have N0 := Fr.nil n0
  have pre0 : ∀ t, Steps p.tables e below (s₁.setTop (mkF m 0 #[.val (.ref a0), .val (.int (0 : Int32)), .val (.int (3 : Int32)), .val (.int (1 : Int32)), .val (.int (10 : Int32))] [])) t → Steps p.tables e below (s₁.setTop (entryFrame m #[(.ref a0), (.int (0 : Int32)), (.int (3 : Int32)), (.int (1 : Int32)), (.int (10 : Int32))] 5)) t := fun t k => castTop (ef_hv3 m a0) k
  obtain ⟨T207, X207, e207, st207⟩ := castY X0 hx hZ hown (hw _ (List.mem_of_getElem? (i := 30) rfl)) e0 (insA V_a0 kc_a0) (g := (mkF m 118 #[.val (.ref a0), .val (.int (0 : Int32)), .val (.int (3 : Int32)), .val (.int (1 : Int32)), .val (.int (10 : Int32))] [(.ref a0), (.int (1 : Int32))])) rfl rfl (hb hby d5_118)
  obtain ⟨_, _, ⟨T208, L208, k208, n208⟩, -, X208, ⟨Lc208, hQ208, l208, y208, z208⟩, st208⟩ := Jvm.LawKit.callS X207 hx (y := (⟨"jdk/internal/util/ArraysSupport", "hashCode", "(I[III)I"⟩ : MethodName)) hown (mvT hZ (hw _ (List.mem_of_getElem? (i := 32) rfl))) (mvT hZ (hw _ (List.mem_of_getElem? (i := 33) rfl))) (mvT hZ (hw _ (List.mem_of_getElem? (i := 28) rfl))) (mvT hZ (hw _ (List.mem_of_getElem? (i := 34) rfl))) (by decide) (backOf (W := 0) (ha3 l Z aw hw [] a0 k1 w0 w1 w2 h0 n0 Z0 V_a0) hZ (hw _ (List.mem_of_getElem? (i := 34) rfl)) (hw _ (List.mem_of_getElem? (i := 28) rfl)) (by decide) (by decide)) (g := (mkF m 123 #[.val (.ref a0), .val (.int (0 : Int32)), .val (.int (3 : Int32)), .val (.int (1 : Int32)), .val (.int (10 : Int32))] [(.int (3 : Int32)), (.int (0 : Int32)), (.ref a0), (.int (1 : Int32))])) rfl (by rw [hml]; rfl) (argsL := [(.int (1 : Int32)), (.ref a0), (.int (0 : Int32)), (.int (3 : Int32))]) (rest := []) (lenOf pd_1 rfl) rfl (by show 2 * 0 + _ ≤ _; exact Nat.le_of_eq rfl) (hb hby d5_123) (fun _ _ => ⟨rfl, e207, (by decide : 0 + 0 ≤ _), (by decide : 0 + 0 ≤ _)⟩)
  dsimp only [Pt.U, Pt.locs, Pt.cells, Pt.slots] at X208 l208 y208 z208 st208 hQ208
  subst l208 y208 z208
  obtain ⟨rfl, N208q, e208⟩ := hQ208
  have N208 := Fr.app N0 N208q
  obtain ⟨fs, hr, hrun, hended, hW, hsame⟩ := X208.leave (v := some (.int (((31 : Int32) * (((31 : Int32) * ((31 : Int32) + w0)) + w1)) + w2))) (fun h => by rw [Bd.returns] at h; cases h)
  refine ⟨_, _, pre0 _ ?_, hrun, hended, _, _, rfl, ?_, ⟨_, rfl⟩, hW, hsame.mono (by decide) (by decide)⟩
  ·
    show Steps p.tables e below (s₁.setTop (mkF m 0 #[.val (.ref a0), .val (.int (0 : Int32)), .val (.int (3 : Int32)), .val (.int (1 : Int32)), .val (.int (10 : Int32))] [])) _
    refine XS.iload X0.here hx rfl (hb hby d5_0) rfl ?_
    show Steps p.tables e below (s₁.setTop (mkF m 2 #[.val (.ref a0), .val (.int (0 : Int32)), .val (.int (3 : Int32)), .val (.int (1 : Int32)), .val (.int (10 : Int32))] [(.int (10 : Int32))])) _
    refine XS.tswIn X0.here hx rfl (pc0 := 2) (pc' := 116) (o := 114) rfl (hb hby d5_2) rfl (by decide) (by decide) (by decide) (by decide) ?_
    show Steps p.tables e below (s₁.setTop (mkF m 116 #[.val (.ref a0), .val (.int (0 : Int32)), .val (.int (3 : Int32)), .val (.int (1 : Int32)), .val (.int (10 : Int32))] [])) _
    refine XS.iloadN X0.here hx rfl (hb hby d5_116) rfl ?_
    show Steps p.tables e below (s₁.setTop (mkF m 117 #[.val (.ref a0), .val (.int (0 : Int32)), .val (.int (3 : Int32)), .val (.int (1 : Int32)), .val (.int (10 : Int32))] [(.int (1 : Int32))])) _
    refine XS.aloadN X0.here hx rfl (hb hby d5_117) rfl rfl ?_
    show Steps p.tables e below (s₁.setTop (mkF m 118 #[.val (.ref a0), .val (.int (0 : Int32)), .val (.int (3 : Int32)), .val (.int (1 : Int32)), .val (.int (10 : Int32))] [(.ref a0), (.int (1 : Int32))])) _
    refine st207 _ ?_
    show Steps p.tables e below (T207.setTop (mkF m 121 #[.val (.ref a0), .val (.int (0 : Int32)), .val (.int (3 : Int32)), .val (.int (1 : Int32)), .val (.int (10 : Int32))] [(.ref a0), (.int (1 : Int32))])) _
    refine XS.iloadN X207.here hx rfl (hb hby d5_121) rfl ?_
    show Steps p.tables e below (T207.setTop (mkF m 122 #[.val (.ref a0), .val (.int (0 : Int32)), .val (.int (3 : Int32)), .val (.int (1 : Int32)), .val (.int (10 : Int32))] [(.int (0 : Int32)), (.ref a0), (.int (1 : Int32))])) _
    refine XS.iloadN X207.here hx rfl (hb hby d5_122) rfl ?_
    show Steps p.tables e below (T207.setTop (mkF m 123 #[.val (.ref a0), .val (.int (0 : Int32)), .val (.int (3 : Int32)), .val (.int (1 : Int32)), .val (.int (10 : Int32))] [(.int (3 : Int32)), (.int (0 : Int32)), (.ref a0), (.int (1 : Int32))])) _
    refine st208 _ ?_
    show Steps p.tables e below (T208.setTop (mkF m 126 #[.val (.ref a0), .val (.int (0 : Int32)), .val (.int (3 : Int32)), .val (.int (1 : Int32)), .val (.int (10 : Int32))] [(.int (((31 : Int32) * (((31 : Int32) * ((31 : Int32) + w0)) + w1)) + w2))])) _
    refine XS.goto X208.here hx rfl (pc0 := 126) (pc' := 157) rfl (hb hby d5_126) (by decide) (by decide) ?_
    show Steps p.tables e below (T208.setTop (mkF m 157 #[.val (.ref a0), .val (.int (0 : Int32)), .val (.int (3 : Int32)), .val (.int (1 : Int32)), .val (.int (10 : Int32))] [(.int (((31 : Int32) * (((31 : Int32) * ((31 : Int32) + w0)) + w1)) + w2))])) _
    exact retI X208 hx Bd.returns (hb hby d5_157) hr
  ·
    show Q_hv3 Z a0 k1 w0 w1 w2 h0 n0 _ T208.heap _
    rw [e208]
    exact ⟨rfl, N208, rfl⟩
theorem ef_hh3 (m : MethodId) (a0 : Addr) : entryFrame m #[(.ref a0)] 1 = mkF m 0 #[.val (.ref a0)] [] := by first | (simp [entryFrame, mkF, argsToLocals, Value.category]; done) | rfl
def Q_hh3 (Z : State) (a0 : Addr) (k1 : ClassId) (w0 : Int32) (w1 : Int32) (w2 : Int32) (h0 : Heap) (n0 : Nat) (v : Option Value) (h : Heap) (L : List Loc) : Prop := v = some (.int (((31 : Int32) * (((31 : Int32) * ((31 : Int32) + w0)) + w1)) + w2)) ∧ Fr n0 L ∧ h = h0
set_option maxRecDepth 65536 in
set_option maxHeartbeats 40000000 in
theorem hh3 (l : Launch) (Z : State) (aw : Array Value) (hw : ∀ d ∈ tables_1, d.before aw Z = true) (ws : List Jvm.Cond) (a0 : Addr) (k1 : ClassId) (w0 : Int32) (w1 : Int32) (w2 : Int32) (h0 : Heap) (n0 : Nat) (Z0 : n0 ≤ h0.size) (V_a0 : Arv Z h0 a0 k1 .int (3 : Int32) [(.int w0), (.int w1), (.int w2)] (.int (0 : Int32))) (kc_a0 : Z.vm.findClass "[I" = some k1) :
    MetFree l (⟨"java/util/Arrays", "hashCode", "([I)I"⟩ : MethodName) (head1 (Jvm.Cond.code (⟨"java/util/Arrays", "hashCode", "([I)I"⟩ : MethodName) jdk_65_method_150_code 1 (some .int) :: ws) ({ frames := 2, cells := 0, slots := 0, locals := 33 } : Room)) (fun a U => a = #[(.ref a0)] ∧ Z.Warmed39 U.vm ∧ U.heap = h0) (fun _ _ _ _ _ => True) (fun _ U o U' => ∃ v L, o = .returned v ∧ Q_hh3 Z a0 k1 w0 w1 w2 h0 n0 v U'.heap L ∧ FrameEnd U o U' L ({ frames := 2, cells := 0, slots := 0, locals := 33 } : Room).cells ({ frames := 2, cells := 0, slots := 0, locals := 33 } : Room).slots) := by
  refine MetFree.of_bodySF (plainFor_of_name pn_0) hisR ?_
  intro p e s m args below meth c s₁ Bd hml0 hP hK
  obtain ⟨rfl, hZ, hh⟩ := hP
  have hx := Bd.exec
  have hby := Bd.bytes
  have hml : c.maxLocals = 1 := hml0
  have hown : s.vm.findClass "java/util/Arrays" = some m.cls := findClass_of_methodNamed Bd.named
  have hnm := (name_of_methodNamed Bd.named Bd.method).1
  have X0 : Stand p l e ({ frames := 2, cells := 0, slots := 0, locals := 33 } : Room) s m #[(.ref a0)] below meth c s₁ [] 0 0 := Stand.of_body Bd
  have e0 : s₁.heap = h0 := by rw [← hh, Bd.state]; rfl
  have N0 := Fr.nil n0
  have pre0 : ∀ t, Steps p.tables e below (s₁.setTop (mkF m 0 #[.val (.ref a0)] [])) t → Steps p.tables e below (s₁.setTop (entryFrame m #[(.ref a0)] 1)) t := fun t k => castTop (ef_hh3 m a0) k
  obtain ⟨cl209, Ar209, q209, S209, N209, H209, G209⟩ := id V_a0
  obtain ⟨cl210, Ar210, q210, S210, N210, H210, G210⟩ := id V_a0
  obtain ⟨_, _, ⟨T211, L211, k211, n211⟩, -, X211, ⟨Lc211, hQ211, l211, y211, z211⟩, st211⟩ := Jvm.LawKit.callS X0 hx (y := (⟨"jdk/internal/util/ArraysSupport", "vectorizedHashCode", "(Ljava/lang/Object;IIII)I"⟩ : MethodName)) hown (mvT hZ (hw _ (List.mem_of_getElem? (i := 26) rfl))) (mvT hZ (hw _ (List.mem_of_getElem? (i := 27) rfl))) (mvT hZ (hw _ (List.mem_of_getElem? (i := 28) rfl))) (mvT hZ (hw _ (List.mem_of_getElem? (i := 29) rfl))) (by decide) (backOf (W := 0) (hv3 l Z aw hw [] a0 k1 w0 w1 w2 h0 n0 Z0 V_a0 kc_a0) hZ (hw _ (List.mem_of_getElem? (i := 29) rfl)) (hw _ (List.mem_of_getElem? (i := 28) rfl)) (by decide) (by decide)) (g := (mkF m 56 #[.val (.ref a0)] [(.int (10 : Int32)), (.int (1 : Int32)), (.int (3 : Int32)), (.int (0 : Int32)), (.ref a0)])) rfl (by rw [hml]; rfl) (argsL := [(.ref a0), (.int (0 : Int32)), (.int (3 : Int32)), (.int (1 : Int32)), (.int (10 : Int32))]) (rest := []) (lenOf pd_2 rfl) rfl (by show 2 * 0 + _ ≤ _; exact Nat.le_of_eq rfl) (hb hby d3_56) (fun _ _ => ⟨rfl, e0, (by decide : 0 + 0 ≤ _), (by decide : 0 + 0 ≤ _)⟩)
  dsimp only [Pt.U, Pt.locs, Pt.cells, Pt.slots] at X211 l211 y211 z211 st211 hQ211
  subst l211 y211 z211
  obtain ⟨rfl, N211q, e211⟩ := hQ211
  have N211 := Fr.app N0 N211q
  obtain ⟨fs, hr, hrun, hended, hW, hsame⟩ := X211.leave (v := some (.int (((31 : Int32) * (((31 : Int32) * ((31 : Int32) + w0)) + w1)) + w2))) (fun h => by rw [Bd.returns] at h; cases h)
  refine ⟨_, _, pre0 _ ?_, hrun, hended, _, _, rfl, ?_, ⟨_, rfl⟩, hW, hsame.mono (by decide) (by decide)⟩
  ·
    show Steps p.tables e below (s₁.setTop (mkF m 0 #[.val (.ref a0)] [])) _
    refine XS.aloadN X0.here hx rfl (hb hby d3_0) rfl rfl ?_
    show Steps p.tables e below (s₁.setTop (mkF m 1 #[.val (.ref a0)] [(.ref a0)])) _
    refine XS.ifnonnullYes X0.here hx rfl (pc0 := 1) (pc' := 6) rfl (hb hby d3_1) rfl (by decide) (by decide) ?_
    show Steps p.tables e below (s₁.setTop (mkF m 6 #[.val (.ref a0)] [])) _
    refine XS.aloadN X0.here hx rfl (hb hby d3_6) rfl rfl ?_
    show Steps p.tables e below (s₁.setTop (mkF m 7 #[.val (.ref a0)] [(.ref a0)])) _
    refine X0.arraylength hx (by rw [e0]; exact Ar209.1) (State.isArrayOf_alike hZ.alike Ar209.2.1) (g := (mkF m 7 #[.val (.ref a0)] [(.ref a0)])) rfl rfl (hb hby d3_7) _ ?_
    rw [len_of S209 N209]
    show Steps p.tables e below (s₁.setTop (mkF m 8 #[.val (.ref a0)] [(.int (3 : Int32))])) _
    refine lswMiss X0 hx rfl (pc0 := 8) (pc' := 49) rfl (hb hby d3_8) rfl (by decide) (by decide) (by decide) (by decide) ?_
    show Steps p.tables e below (s₁.setTop (mkF m 49 #[.val (.ref a0)] [])) _
    refine XS.aloadN X0.here hx rfl (hb hby d3_49) rfl rfl ?_
    show Steps p.tables e below (s₁.setTop (mkF m 50 #[.val (.ref a0)] [(.ref a0)])) _
    refine XS.iconst X0.here hx rfl (hb hby d3_50) ?_
    show Steps p.tables e below (s₁.setTop (mkF m 51 #[.val (.ref a0)] [(.int (0 : Int32)), (.ref a0)])) _
    refine XS.aloadN X0.here hx rfl (hb hby d3_51) rfl rfl ?_
    show Steps p.tables e below (s₁.setTop (mkF m 52 #[.val (.ref a0)] [(.ref a0), (.int (0 : Int32)), (.ref a0)])) _
    refine X0.arraylength hx (by rw [e0]; exact Ar210.1) (State.isArrayOf_alike hZ.alike Ar210.2.1) (g := (mkF m 52 #[.val (.ref a0)] [(.ref a0), (.int (0 : Int32)), (.ref a0)])) rfl rfl (hb hby d3_52) _ ?_
    rw [len_of S210 N210]
    show Steps p.tables e below (s₁.setTop (mkF m 53 #[.val (.ref a0)] [(.int (3 : Int32)), (.int (0 : Int32)), (.ref a0)])) _
    refine XS.iconst X0.here hx rfl (hb hby d3_53) ?_
    show Steps p.tables e below (s₁.setTop (mkF m 54 #[.val (.ref a0)] [(.int (1 : Int32)), (.int (3 : Int32)), (.int (0 : Int32)), (.ref a0)])) _
    refine XS.bipush X0.here hx rfl (hb hby d3_54) ?_
    show Steps p.tables e below (s₁.setTop (mkF m 56 #[.val (.ref a0)] [(.int (10 : Int32)), (.int (1 : Int32)), (.int (3 : Int32)), (.int (0 : Int32)), (.ref a0)])) _
    refine st211 _ ?_
    show Steps p.tables e below (T211.setTop (mkF m 59 #[.val (.ref a0)] [(.int (((31 : Int32) * (((31 : Int32) * ((31 : Int32) + w0)) + w1)) + w2))])) _
    exact retI X211 hx Bd.returns (hb hby d3_59) hr
  ·
    show Q_hh3 Z a0 k1 w0 w1 w2 h0 n0 _ T211.heap _
    rw [e211]
    exact ⟨rfl, N211, rfl⟩
theorem ef_ct3 (m : MethodId) (a0 : Addr) (a1 : Addr) : entryFrame m #[(.ref a0), (.ref a1)] 8 = mkF m 0 #[.val (.ref a0), .val (.ref a1), .unset, .unset, .unset, .unset, .unset, .unset] [] := by first | (simp [entryFrame, mkF, argsToLocals, Value.category]; done) | rfl
def Q_ct3 (Z : State) (a0 : Addr) (a1 : Addr) (k1 : ClassId) (w0 : Int32) (w1 : Int32) (w2 : Int32) (h0 : Heap) (n0 : Nat) (v : Option Value) (h : Heap) (L : List Loc) : Prop := v = none ∧ Fr n0 L ∧ Keep h0 h [a0] ∧ Exa Z h a0 "com/example/enact/enact/net/Marking" ∧ Fld Z h a0 "com/example/enact/enact/net/Marking" "tokens" "[I" (.ref a1)
set_option maxRecDepth 65536 in
set_option maxHeartbeats 40000000 in
theorem ct3 (l : Launch) (Z : State) (aw : Array Value) (hw : ∀ d ∈ tables_1, d.before aw Z = true) (ws : List Jvm.Cond) (a0 : Addr) (a1 : Addr) (k1 : ClassId) (w0 : Int32) (w1 : Int32) (w2 : Int32) (h0 : Heap) (n0 : Nat) (Z0 : n0 ≤ h0.size) (E_a0 : Exa Z h0 a0 "com/example/enact/enact/net/Marking") (F_a0_tokens : Fld Z h0 a0 "com/example/enact/enact/net/Marking" "tokens" "[I" .null) (F_a0_total : Fld Z h0 a0 "com/example/enact/enact/net/Marking" "total" "J" (.long (0 : Int64))) (F_a0_hash : Fld Z h0 a0 "com/example/enact/enact/net/Marking" "hash" "I" (.int (0 : Int32))) (g_a0 : n0 ≤ a0) (V_a1 : Arv Z h0 a1 k1 .int (3 : Int32) [(.int w0), (.int w1), (.int w2)] (.int (0 : Int32))) (kc_a1 : Z.vm.findClass "[I" = some k1) (ne_a0_a1 : a0 ≠ a1) :
    MetFree l (⟨"com/example/enact/enact/net/Marking", "<init>", "([I)V"⟩ : MethodName) (head1 (Jvm.Cond.code (⟨"com/example/enact/enact/net/Marking", "<init>", "([I)V"⟩ : MethodName) prog_29_method_1_code 8 none :: ws) ({ frames := 3, cells := 0, slots := 0, locals := 46 } : Room)) (fun a U => a = #[(.ref a0), (.ref a1)] ∧ Z.Warmed39 U.vm ∧ U.heap = h0) (fun _ _ _ _ _ => True) (fun _ U o U' => ∃ v L, o = .returned v ∧ Q_ct3 Z a0 a1 k1 w0 w1 w2 h0 n0 v U'.heap L ∧ FrameEnd U o U' L ({ frames := 3, cells := 0, slots := 0, locals := 46 } : Room).cells ({ frames := 3, cells := 0, slots := 0, locals := 46 } : Room).slots) := by
  refine MetFree.of_bodySF (plainFor_of_name pn_1) hisR ?_
  intro p e s m args below meth c s₁ Bd hml0 hP hK
  obtain ⟨rfl, hZ, hh⟩ := hP
  have hx := Bd.exec
  have hby := Bd.bytes
  have hml : c.maxLocals = 8 := hml0
  have hown : s.vm.findClass "com/example/enact/enact/net/Marking" = some m.cls := findClass_of_methodNamed Bd.named
  have hnm := (name_of_methodNamed Bd.named Bd.method).1
  have X0 : Stand p l e ({ frames := 3, cells := 0, slots := 0, locals := 46 } : Room) s m #[(.ref a0), (.ref a1)] below meth c s₁ [] 0 0 := Stand.of_body Bd
  have e0 : s₁.heap = h0 := by rw [← hh, Bd.state]; rfl
  have N0 := Fr.nil n0
  have pre0 : ∀ t, Steps p.tables e below (s₁.setTop (mkF m 0 #[.val (.ref a0), .val (.ref a1), .unset, .unset, .unset, .unset, .unset, .unset] [])) t → Steps p.tables e below (s₁.setTop (entryFrame m #[(.ref a0), (.ref a1)] 8)) t := fun t k => castTop (ef_ct3 m a0 a1) k
  have KC0 : Keep h0 h0 [a0] := Keep.refl h0 [a0]
  obtain ⟨T212, X212, e212, st212⟩ := initO X0 hx hZ hown (hw _ (List.mem_of_getElem? (i := 8) rfl)) (hw _ (List.mem_of_getElem? (i := 9) rfl)) (hw _ (List.mem_of_getElem? (i := 10) rfl)) e0 (g := (mkF m 1 #[.val (.ref a0), .val (.ref a1), .unset, .unset, .unset, .unset, .unset, .unset] [(.ref a0)])) rfl (by rw [hml]; rfl) rfl (hb hby d1_1) (by decide) (W := 0) (by show 2 * 0 + _ ≤ _; exact Nat.le_of_eq rfl) (by decide)
  obtain ⟨cl213, Ar213, q213, S213, N213, H213, G213⟩ := id V_a1
  obtain ⟨cl214, Ar214, q214, S214, N214, H214, G214⟩ := id V_a1
  have hin214 : ¬ ((0 : Int32) < 0 ∨ cl214.slots.size ≤ ((0 : Int32)).toNatClampNeg) := inb_of S214 ⟨by decide, by decide⟩
  have hat214 : cl214.slots[((0 : Int32)).toNatClampNeg]? = some (.int w0) := Has.at H214 hin214 rfl
  obtain ⟨cl215, Ar215, q215, S215, N215, H215, G215⟩ := id V_a1
  have hin215 : ¬ ((1 : Int32) < 0 ∨ cl215.slots.size ≤ ((1 : Int32)).toNatClampNeg) := inb_of S215 ⟨by decide, by decide⟩
  have hat215 : cl215.slots[((1 : Int32)).toNatClampNeg]? = some (.int w1) := Has.at H215 hin215 rfl
  obtain ⟨cl216, Ar216, q216, S216, N216, H216, G216⟩ := id V_a1
  have hin216 : ¬ ((2 : Int32) < 0 ∨ cl216.slots.size ≤ ((2 : Int32)).toNatClampNeg) := inb_of S216 ⟨by decide, by decide⟩
  have hat216 : cl216.slots[((2 : Int32)).toNatClampNeg]? = some (.int w2) := Has.at H216 hin216 rfl
  obtain ⟨T217, h217, X217, e217, W217, st217⟩ := putF X212 hx hZ hown (host := "") (Or.inl (hw _ (List.mem_of_getElem? (i := 11) rfl))) Via.refl e212 F_a0_tokens E_a0 (Or.inr ⟨(hw _ (List.mem_of_getElem? (i := 12) rfl)), rfl, hnm⟩) (hw _ (List.mem_of_getElem? (i := 3) rfl)) (ty := (.array .int)) (by decide) rfl rfl (g := (mkF m 45 #[.val (.ref a0), .val (.ref a1), .val (.long ((((0 : Int64) + (w0.toInt64)) + (w1.toInt64)) + (w2.toInt64))), .second, .val (.ref a1), .val (.int (3 : Int32)), .val (.int (3 : Int32)), .val (.int w2)] [(.ref a1), (.ref a0)])) rfl rfl (hb hby d1_45)
  have f218 := E_a0.wr W217
  have f219 := F_a0_total.other W217 (Or.inr (slot_ne (Or.inr (hw _ (List.mem_of_getElem? (i := 14) rfl))) (Or.inr (hw _ (List.mem_of_getElem? (i := 12) rfl))) (by decide) (t := .long) (t' := (.array .int)) (by decide) (by decide)))
  have f220 := F_a0_hash.other W217 (Or.inr (slot_ne (Or.inr (hw _ (List.mem_of_getElem? (i := 20) rfl))) (Or.inr (hw _ (List.mem_of_getElem? (i := 12) rfl))) (by decide) (t := .int) (t' := (.array .int)) (by decide) (by decide)))
  have f221 := V_a1.other W217 (Ne.symm ne_a0_a1)
  have Z222 : n0 ≤ h217.size := Nat.le_trans Z0 (Keep.of_wr W217).1
  have K223 : Keep h0 h217 [a0] := Keep.wr KC0 W217 (Or.inl (List.mem_of_getElem? (i := 0) rfl))
  have N224 := Fr.snoc X217 N0 g_a0
  have f225 : Fld Z h217 a0 "com/example/enact/enact/net/Marking" "tokens" "[I" (.ref a1) := F_a0_tokens.same W217
  obtain ⟨T226, h226, X226, e226, W226, st226⟩ := putF X217 hx hZ hown (host := "") (Or.inl (hw _ (List.mem_of_getElem? (i := 13) rfl))) Via.refl e217 f219 f218 (Or.inr ⟨(hw _ (List.mem_of_getElem? (i := 14) rfl)), rfl, hnm⟩) (hw _ (List.mem_of_getElem? (i := 3) rfl)) (ty := .long) (by decide) rfl rfl (g := (mkF m 50 #[.val (.ref a0), .val (.ref a1), .val (.long ((((0 : Int64) + (w0.toInt64)) + (w1.toInt64)) + (w2.toInt64))), .second, .val (.ref a1), .val (.int (3 : Int32)), .val (.int (3 : Int32)), .val (.int w2)] [(.long ((((0 : Int64) + (w0.toInt64)) + (w1.toInt64)) + (w2.toInt64))), (.ref a0)])) rfl rfl (hb hby d1_50)
  have f227 := f218.wr W226
  have f228 := f220.other W226 (Or.inr (slot_ne (Or.inr (hw _ (List.mem_of_getElem? (i := 20) rfl))) (Or.inr (hw _ (List.mem_of_getElem? (i := 14) rfl))) (by decide) (t := .int) (t' := .long) (by decide) (by decide)))
  have f229 := f221.other W226 (Ne.symm ne_a0_a1)
  have f230 := f225.other W226 (Or.inr (slot_ne (Or.inr (hw _ (List.mem_of_getElem? (i := 12) rfl))) (Or.inr (hw _ (List.mem_of_getElem? (i := 14) rfl))) (by decide) (t := (.array .int)) (t' := .long) (by decide) (by decide)))
  have Z231 : n0 ≤ h226.size := Nat.le_trans Z222 (Keep.of_wr W226).1
  have K232 : Keep h0 h226 [a0] := Keep.wr K223 W226 (Or.inl (List.mem_of_getElem? (i := 0) rfl))
  have N233 := Fr.snoc X226 N224 g_a0
  have f234 : Fld Z h226 a0 "com/example/enact/enact/net/Marking" "total" "J" (.long ((((0 : Int64) + (w0.toInt64)) + (w1.toInt64)) + (w2.toInt64))) := f219.same W226
  obtain ⟨_, _, ⟨T235, L235, k235, n235⟩, -, X235, ⟨Lc235, hQ235, l235, y235, z235⟩, st235⟩ := Jvm.LawKit.callS X226 hx (y := (⟨"java/util/Arrays", "hashCode", "([I)I"⟩ : MethodName)) hown (mvT hZ (hw _ (List.mem_of_getElem? (i := 15) rfl))) (mvT hZ (hw _ (List.mem_of_getElem? (i := 16) rfl))) (mvT hZ (hw _ (List.mem_of_getElem? (i := 17) rfl))) (mvT hZ (hw _ (List.mem_of_getElem? (i := 18) rfl))) (by decide) (backOf (W := 1) (hh3 l Z aw hw [] a1 k1 w0 w1 w2 h226 n0 Z231 f229 kc_a1) hZ (hw _ (List.mem_of_getElem? (i := 18) rfl)) (hw _ (List.mem_of_getElem? (i := 17) rfl)) (by decide) (by decide)) (g := (mkF m 55 #[.val (.ref a0), .val (.ref a1), .val (.long ((((0 : Int64) + (w0.toInt64)) + (w1.toInt64)) + (w2.toInt64))), .second, .val (.ref a1), .val (.int (3 : Int32)), .val (.int (3 : Int32)), .val (.int w2)] [(.ref a1), (.ref a0)])) rfl (by rw [hml]; rfl) (argsL := [(.ref a1)]) (rest := [(.ref a0)]) (lenOf pd_0 rfl) rfl (by show 2 * 0 + _ ≤ _; exact Nat.le_of_eq rfl) (hb hby d1_55) (fun _ _ => ⟨rfl, e226, (by decide : 0 + 0 ≤ _), (by decide : 0 + 0 ≤ _)⟩)
  dsimp only [Pt.U, Pt.locs, Pt.cells, Pt.slots] at X235 l235 y235 z235 st235 hQ235
  subst l235 y235 z235
  obtain ⟨rfl, N235q, e235⟩ := hQ235
  have N235 := Fr.app N233 N235q
  obtain ⟨T236, h236, X236, e236, W236, st236⟩ := putF X235 hx hZ hown (host := "") (Or.inl (hw _ (List.mem_of_getElem? (i := 19) rfl))) Via.refl e235 f228 f227 (Or.inr ⟨(hw _ (List.mem_of_getElem? (i := 20) rfl)), rfl, hnm⟩) (hw _ (List.mem_of_getElem? (i := 3) rfl)) (ty := .int) (by decide) rfl rfl (g := (mkF m 58 #[.val (.ref a0), .val (.ref a1), .val (.long ((((0 : Int64) + (w0.toInt64)) + (w1.toInt64)) + (w2.toInt64))), .second, .val (.ref a1), .val (.int (3 : Int32)), .val (.int (3 : Int32)), .val (.int w2)] [(.int (((31 : Int32) * (((31 : Int32) * ((31 : Int32) + w0)) + w1)) + w2)), (.ref a0)])) rfl rfl (hb hby d1_58)
  have f237 := f227.wr W236
  have f238 := f229.other W236 (Ne.symm ne_a0_a1)
  have f239 := f230.other W236 (Or.inr (slot_ne (Or.inr (hw _ (List.mem_of_getElem? (i := 12) rfl))) (Or.inr (hw _ (List.mem_of_getElem? (i := 20) rfl))) (by decide) (t := (.array .int)) (t' := .int) (by decide) (by decide)))
  have f240 := f234.other W236 (Or.inr (slot_ne (Or.inr (hw _ (List.mem_of_getElem? (i := 14) rfl))) (Or.inr (hw _ (List.mem_of_getElem? (i := 20) rfl))) (by decide) (t := .long) (t' := .int) (by decide) (by decide)))
  have Z241 : n0 ≤ h236.size := Nat.le_trans Z231 (Keep.of_wr W236).1
  have K242 : Keep h0 h236 [a0] := Keep.wr K232 W236 (Or.inl (List.mem_of_getElem? (i := 0) rfl))
  have N243 := Fr.snoc X236 N235 g_a0
  have f244 : Fld Z h236 a0 "com/example/enact/enact/net/Marking" "hash" "I" (.int (((31 : Int32) * (((31 : Int32) * ((31 : Int32) + w0)) + w1)) + w2)) := f228.same W236
  obtain ⟨fs, hr, hrun, hended, hW, hsame⟩ := X236.leave (v := none) (fun _ => rfl)
  refine ⟨_, _, pre0 _ ?_, hrun, hended, _, _, rfl, ?_, ⟨_, rfl⟩, hW, hsame.mono (by decide) (by decide)⟩
  ·
    show Steps p.tables e below (s₁.setTop (mkF m 0 #[.val (.ref a0), .val (.ref a1), .unset, .unset, .unset, .unset, .unset, .unset] [])) _
    refine XS.aloadN X0.here hx rfl (hb hby d1_0) rfl rfl ?_
    show Steps p.tables e below (s₁.setTop (mkF m 1 #[.val (.ref a0), .val (.ref a1), .unset, .unset, .unset, .unset, .unset, .unset] [(.ref a0)])) _
    refine st212 _ ?_
    show Steps p.tables e below (T212.setTop (mkF m 4 #[.val (.ref a0), .val (.ref a1), .unset, .unset, .unset, .unset, .unset, .unset] [])) _
    refine XS.lconst X212.here hx rfl (hb hby d1_4) ?_
    show Steps p.tables e below (T212.setTop (mkF m 5 #[.val (.ref a0), .val (.ref a1), .unset, .unset, .unset, .unset, .unset, .unset] [(.long (0 : Int64))])) _
    refine XS.lstoreN X212.here hx rfl (hb hby d1_5) rfl (l' := #[.val (.ref a0), .val (.ref a1), .val (.long (0 : Int64)), .second, .unset, .unset, .unset, .unset]) rfl ?_
    show Steps p.tables e below (T212.setTop (mkF m 6 #[.val (.ref a0), .val (.ref a1), .val (.long (0 : Int64)), .second, .unset, .unset, .unset, .unset] [])) _
    refine XS.aloadN X212.here hx rfl (hb hby d1_6) rfl rfl ?_
    show Steps p.tables e below (T212.setTop (mkF m 7 #[.val (.ref a0), .val (.ref a1), .val (.long (0 : Int64)), .second, .unset, .unset, .unset, .unset] [(.ref a1)])) _
    refine XS.astore X212.here hx rfl (hb hby d1_7) rfl rfl (l' := #[.val (.ref a0), .val (.ref a1), .val (.long (0 : Int64)), .second, .val (.ref a1), .unset, .unset, .unset]) rfl ?_
    show Steps p.tables e below (T212.setTop (mkF m 9 #[.val (.ref a0), .val (.ref a1), .val (.long (0 : Int64)), .second, .val (.ref a1), .unset, .unset, .unset] [])) _
    refine XS.aload X212.here hx rfl (hb hby d1_9) rfl rfl ?_
    show Steps p.tables e below (T212.setTop (mkF m 11 #[.val (.ref a0), .val (.ref a1), .val (.long (0 : Int64)), .second, .val (.ref a1), .unset, .unset, .unset] [(.ref a1)])) _
    refine X212.arraylength hx (by rw [e212]; exact Ar213.1) (State.isArrayOf_alike hZ.alike Ar213.2.1) (g := (mkF m 11 #[.val (.ref a0), .val (.ref a1), .val (.long (0 : Int64)), .second, .val (.ref a1), .unset, .unset, .unset] [(.ref a1)])) rfl rfl (hb hby d1_11) _ ?_
    rw [len_of S213 N213]
    show Steps p.tables e below (T212.setTop (mkF m 12 #[.val (.ref a0), .val (.ref a1), .val (.long (0 : Int64)), .second, .val (.ref a1), .unset, .unset, .unset] [(.int (3 : Int32))])) _
    refine XS.istore X212.here hx rfl (hb hby d1_12) rfl (l' := #[.val (.ref a0), .val (.ref a1), .val (.long (0 : Int64)), .second, .val (.ref a1), .val (.int (3 : Int32)), .unset, .unset]) rfl ?_
    show Steps p.tables e below (T212.setTop (mkF m 14 #[.val (.ref a0), .val (.ref a1), .val (.long (0 : Int64)), .second, .val (.ref a1), .val (.int (3 : Int32)), .unset, .unset] [])) _
    refine XS.iconst X212.here hx rfl (hb hby d1_14) ?_
    show Steps p.tables e below (T212.setTop (mkF m 15 #[.val (.ref a0), .val (.ref a1), .val (.long (0 : Int64)), .second, .val (.ref a1), .val (.int (3 : Int32)), .unset, .unset] [(.int (0 : Int32))])) _
    refine XS.istore X212.here hx rfl (hb hby d1_15) rfl (l' := #[.val (.ref a0), .val (.ref a1), .val (.long (0 : Int64)), .second, .val (.ref a1), .val (.int (3 : Int32)), .val (.int (0 : Int32)), .unset]) rfl ?_
    show Steps p.tables e below (T212.setTop (mkF m 17 #[.val (.ref a0), .val (.ref a1), .val (.long (0 : Int64)), .second, .val (.ref a1), .val (.int (3 : Int32)), .val (.int (0 : Int32)), .unset] [])) _
    refine XS.iload X212.here hx rfl (hb hby d1_17) rfl ?_
    show Steps p.tables e below (T212.setTop (mkF m 19 #[.val (.ref a0), .val (.ref a1), .val (.long (0 : Int64)), .second, .val (.ref a1), .val (.int (3 : Int32)), .val (.int (0 : Int32)), .unset] [(.int (0 : Int32))])) _
    refine XS.iload X212.here hx rfl (hb hby d1_19) rfl ?_
    show Steps p.tables e below (T212.setTop (mkF m 21 #[.val (.ref a0), .val (.ref a1), .val (.long (0 : Int64)), .second, .val (.ref a1), .val (.int (3 : Int32)), .val (.int (0 : Int32)), .unset] [(.int (3 : Int32)), (.int (0 : Int32))])) _
    refine XS.icmpNo X212.here hx rfl (hb hby d1_21) rfl (tlt (by decide)).2.1 ?_
    show Steps p.tables e below (T212.setTop (mkF m 24 #[.val (.ref a0), .val (.ref a1), .val (.long (0 : Int64)), .second, .val (.ref a1), .val (.int (3 : Int32)), .val (.int (0 : Int32)), .unset] [])) _
    refine XS.aload X212.here hx rfl (hb hby d1_24) rfl rfl ?_
    show Steps p.tables e below (T212.setTop (mkF m 26 #[.val (.ref a0), .val (.ref a1), .val (.long (0 : Int64)), .second, .val (.ref a1), .val (.int (3 : Int32)), .val (.int (0 : Int32)), .unset] [(.ref a1)])) _
    refine XS.iload X212.here hx rfl (hb hby d1_26) rfl ?_
    show Steps p.tables e below (T212.setTop (mkF m 28 #[.val (.ref a0), .val (.ref a1), .val (.long (0 : Int64)), .second, .val (.ref a1), .val (.int (3 : Int32)), .val (.int (0 : Int32)), .unset] [(.int (0 : Int32)), (.ref a1)])) _
    refine X212.iaload hx (j := (0 : Int32)) (v := (.int w0)) (by rw [e212]; exact Ar214.1) (State.isArrayOf_alike hZ.alike Ar214.2.1) Ar214.2.2 hin214 hat214 (g := (mkF m 28 #[.val (.ref a0), .val (.ref a1), .val (.long (0 : Int64)), .second, .val (.ref a1), .val (.int (3 : Int32)), .val (.int (0 : Int32)), .unset] [(.int (0 : Int32)), (.ref a1)])) rfl rfl (hb hby d1_28) _ ?_
    show Steps p.tables e below (T212.setTop (mkF m 29 #[.val (.ref a0), .val (.ref a1), .val (.long (0 : Int64)), .second, .val (.ref a1), .val (.int (3 : Int32)), .val (.int (0 : Int32)), .unset] [(.int w0)])) _
    refine XS.istore X212.here hx rfl (hb hby d1_29) rfl (l' := #[.val (.ref a0), .val (.ref a1), .val (.long (0 : Int64)), .second, .val (.ref a1), .val (.int (3 : Int32)), .val (.int (0 : Int32)), .val (.int w0)]) rfl ?_
    show Steps p.tables e below (T212.setTop (mkF m 31 #[.val (.ref a0), .val (.ref a1), .val (.long (0 : Int64)), .second, .val (.ref a1), .val (.int (3 : Int32)), .val (.int (0 : Int32)), .val (.int w0)] [])) _
    refine XS.lloadN X212.here hx rfl (hb hby d1_31) rfl ?_
    show Steps p.tables e below (T212.setTop (mkF m 32 #[.val (.ref a0), .val (.ref a1), .val (.long (0 : Int64)), .second, .val (.ref a1), .val (.int (3 : Int32)), .val (.int (0 : Int32)), .val (.int w0)] [(.long (0 : Int64))])) _
    refine XS.iload X212.here hx rfl (hb hby d1_32) rfl ?_
    show Steps p.tables e below (T212.setTop (mkF m 34 #[.val (.ref a0), .val (.ref a1), .val (.long (0 : Int64)), .second, .val (.ref a1), .val (.int (3 : Int32)), .val (.int (0 : Int32)), .val (.int w0)] [(.int w0), (.long (0 : Int64))])) _
    refine XS.i2l X212.here hx rfl (hb hby d1_34) rfl ?_
    show Steps p.tables e below (T212.setTop (mkF m 35 #[.val (.ref a0), .val (.ref a1), .val (.long (0 : Int64)), .second, .val (.ref a1), .val (.int (3 : Int32)), .val (.int (0 : Int32)), .val (.int w0)] [(.long (w0.toInt64)), (.long (0 : Int64))])) _
    refine XS.ladd X212.here hx rfl (hb hby d1_35) rfl ?_
    show Steps p.tables e below (T212.setTop (mkF m 36 #[.val (.ref a0), .val (.ref a1), .val (.long (0 : Int64)), .second, .val (.ref a1), .val (.int (3 : Int32)), .val (.int (0 : Int32)), .val (.int w0)] [(.long ((0 : Int64) + (w0.toInt64)))])) _
    refine XS.lstoreN X212.here hx rfl (hb hby d1_36) rfl (l' := #[.val (.ref a0), .val (.ref a1), .val (.long ((0 : Int64) + (w0.toInt64))), .second, .val (.ref a1), .val (.int (3 : Int32)), .val (.int (0 : Int32)), .val (.int w0)]) rfl ?_
    show Steps p.tables e below (T212.setTop (mkF m 37 #[.val (.ref a0), .val (.ref a1), .val (.long ((0 : Int64) + (w0.toInt64))), .second, .val (.ref a1), .val (.int (3 : Int32)), .val (.int (0 : Int32)), .val (.int w0)] [])) _
    refine XS.iinc X212.here hx rfl (hb hby d1_37) rfl (l' := #[.val (.ref a0), .val (.ref a1), .val (.long ((0 : Int64) + (w0.toInt64))), .second, .val (.ref a1), .val (.int (3 : Int32)), .val (.int (1 : Int32)), .val (.int w0)]) rfl ?_
    show Steps p.tables e below (T212.setTop (mkF m 40 #[.val (.ref a0), .val (.ref a1), .val (.long ((0 : Int64) + (w0.toInt64))), .second, .val (.ref a1), .val (.int (3 : Int32)), .val (.int (1 : Int32)), .val (.int w0)] [])) _
    refine XS.goto X212.here hx rfl (pc0 := 40) (pc' := 17) rfl (hb hby d1_40) (by decide) (by decide) ?_
    show Steps p.tables e below (T212.setTop (mkF m 17 #[.val (.ref a0), .val (.ref a1), .val (.long ((0 : Int64) + (w0.toInt64))), .second, .val (.ref a1), .val (.int (3 : Int32)), .val (.int (1 : Int32)), .val (.int w0)] [])) _
    refine XS.iload X212.here hx rfl (hb hby d1_17) rfl ?_
    show Steps p.tables e below (T212.setTop (mkF m 19 #[.val (.ref a0), .val (.ref a1), .val (.long ((0 : Int64) + (w0.toInt64))), .second, .val (.ref a1), .val (.int (3 : Int32)), .val (.int (1 : Int32)), .val (.int w0)] [(.int (1 : Int32))])) _
    refine XS.iload X212.here hx rfl (hb hby d1_19) rfl ?_
    show Steps p.tables e below (T212.setTop (mkF m 21 #[.val (.ref a0), .val (.ref a1), .val (.long ((0 : Int64) + (w0.toInt64))), .second, .val (.ref a1), .val (.int (3 : Int32)), .val (.int (1 : Int32)), .val (.int w0)] [(.int (3 : Int32)), (.int (1 : Int32))])) _
    refine XS.icmpNo X212.here hx rfl (hb hby d1_21) rfl (tlt (by decide)).2.1 ?_
    show Steps p.tables e below (T212.setTop (mkF m 24 #[.val (.ref a0), .val (.ref a1), .val (.long ((0 : Int64) + (w0.toInt64))), .second, .val (.ref a1), .val (.int (3 : Int32)), .val (.int (1 : Int32)), .val (.int w0)] [])) _
    refine XS.aload X212.here hx rfl (hb hby d1_24) rfl rfl ?_
    show Steps p.tables e below (T212.setTop (mkF m 26 #[.val (.ref a0), .val (.ref a1), .val (.long ((0 : Int64) + (w0.toInt64))), .second, .val (.ref a1), .val (.int (3 : Int32)), .val (.int (1 : Int32)), .val (.int w0)] [(.ref a1)])) _
    refine XS.iload X212.here hx rfl (hb hby d1_26) rfl ?_
    show Steps p.tables e below (T212.setTop (mkF m 28 #[.val (.ref a0), .val (.ref a1), .val (.long ((0 : Int64) + (w0.toInt64))), .second, .val (.ref a1), .val (.int (3 : Int32)), .val (.int (1 : Int32)), .val (.int w0)] [(.int (1 : Int32)), (.ref a1)])) _
    refine X212.iaload hx (j := (1 : Int32)) (v := (.int w1)) (by rw [e212]; exact Ar215.1) (State.isArrayOf_alike hZ.alike Ar215.2.1) Ar215.2.2 hin215 hat215 (g := (mkF m 28 #[.val (.ref a0), .val (.ref a1), .val (.long ((0 : Int64) + (w0.toInt64))), .second, .val (.ref a1), .val (.int (3 : Int32)), .val (.int (1 : Int32)), .val (.int w0)] [(.int (1 : Int32)), (.ref a1)])) rfl rfl (hb hby d1_28) _ ?_
    show Steps p.tables e below (T212.setTop (mkF m 29 #[.val (.ref a0), .val (.ref a1), .val (.long ((0 : Int64) + (w0.toInt64))), .second, .val (.ref a1), .val (.int (3 : Int32)), .val (.int (1 : Int32)), .val (.int w0)] [(.int w1)])) _
    refine XS.istore X212.here hx rfl (hb hby d1_29) rfl (l' := #[.val (.ref a0), .val (.ref a1), .val (.long ((0 : Int64) + (w0.toInt64))), .second, .val (.ref a1), .val (.int (3 : Int32)), .val (.int (1 : Int32)), .val (.int w1)]) rfl ?_
    show Steps p.tables e below (T212.setTop (mkF m 31 #[.val (.ref a0), .val (.ref a1), .val (.long ((0 : Int64) + (w0.toInt64))), .second, .val (.ref a1), .val (.int (3 : Int32)), .val (.int (1 : Int32)), .val (.int w1)] [])) _
    refine XS.lloadN X212.here hx rfl (hb hby d1_31) rfl ?_
    show Steps p.tables e below (T212.setTop (mkF m 32 #[.val (.ref a0), .val (.ref a1), .val (.long ((0 : Int64) + (w0.toInt64))), .second, .val (.ref a1), .val (.int (3 : Int32)), .val (.int (1 : Int32)), .val (.int w1)] [(.long ((0 : Int64) + (w0.toInt64)))])) _
    refine XS.iload X212.here hx rfl (hb hby d1_32) rfl ?_
    show Steps p.tables e below (T212.setTop (mkF m 34 #[.val (.ref a0), .val (.ref a1), .val (.long ((0 : Int64) + (w0.toInt64))), .second, .val (.ref a1), .val (.int (3 : Int32)), .val (.int (1 : Int32)), .val (.int w1)] [(.int w1), (.long ((0 : Int64) + (w0.toInt64)))])) _
    refine XS.i2l X212.here hx rfl (hb hby d1_34) rfl ?_
    show Steps p.tables e below (T212.setTop (mkF m 35 #[.val (.ref a0), .val (.ref a1), .val (.long ((0 : Int64) + (w0.toInt64))), .second, .val (.ref a1), .val (.int (3 : Int32)), .val (.int (1 : Int32)), .val (.int w1)] [(.long (w1.toInt64)), (.long ((0 : Int64) + (w0.toInt64)))])) _
    refine XS.ladd X212.here hx rfl (hb hby d1_35) rfl ?_
    show Steps p.tables e below (T212.setTop (mkF m 36 #[.val (.ref a0), .val (.ref a1), .val (.long ((0 : Int64) + (w0.toInt64))), .second, .val (.ref a1), .val (.int (3 : Int32)), .val (.int (1 : Int32)), .val (.int w1)] [(.long (((0 : Int64) + (w0.toInt64)) + (w1.toInt64)))])) _
    refine XS.lstoreN X212.here hx rfl (hb hby d1_36) rfl (l' := #[.val (.ref a0), .val (.ref a1), .val (.long (((0 : Int64) + (w0.toInt64)) + (w1.toInt64))), .second, .val (.ref a1), .val (.int (3 : Int32)), .val (.int (1 : Int32)), .val (.int w1)]) rfl ?_
    show Steps p.tables e below (T212.setTop (mkF m 37 #[.val (.ref a0), .val (.ref a1), .val (.long (((0 : Int64) + (w0.toInt64)) + (w1.toInt64))), .second, .val (.ref a1), .val (.int (3 : Int32)), .val (.int (1 : Int32)), .val (.int w1)] [])) _
    refine XS.iinc X212.here hx rfl (hb hby d1_37) rfl (l' := #[.val (.ref a0), .val (.ref a1), .val (.long (((0 : Int64) + (w0.toInt64)) + (w1.toInt64))), .second, .val (.ref a1), .val (.int (3 : Int32)), .val (.int (2 : Int32)), .val (.int w1)]) rfl ?_
    show Steps p.tables e below (T212.setTop (mkF m 40 #[.val (.ref a0), .val (.ref a1), .val (.long (((0 : Int64) + (w0.toInt64)) + (w1.toInt64))), .second, .val (.ref a1), .val (.int (3 : Int32)), .val (.int (2 : Int32)), .val (.int w1)] [])) _
    refine XS.goto X212.here hx rfl (pc0 := 40) (pc' := 17) rfl (hb hby d1_40) (by decide) (by decide) ?_
    show Steps p.tables e below (T212.setTop (mkF m 17 #[.val (.ref a0), .val (.ref a1), .val (.long (((0 : Int64) + (w0.toInt64)) + (w1.toInt64))), .second, .val (.ref a1), .val (.int (3 : Int32)), .val (.int (2 : Int32)), .val (.int w1)] [])) _
    refine XS.iload X212.here hx rfl (hb hby d1_17) rfl ?_
    show Steps p.tables e below (T212.setTop (mkF m 19 #[.val (.ref a0), .val (.ref a1), .val (.long (((0 : Int64) + (w0.toInt64)) + (w1.toInt64))), .second, .val (.ref a1), .val (.int (3 : Int32)), .val (.int (2 : Int32)), .val (.int w1)] [(.int (2 : Int32))])) _
    refine XS.iload X212.here hx rfl (hb hby d1_19) rfl ?_
    show Steps p.tables e below (T212.setTop (mkF m 21 #[.val (.ref a0), .val (.ref a1), .val (.long (((0 : Int64) + (w0.toInt64)) + (w1.toInt64))), .second, .val (.ref a1), .val (.int (3 : Int32)), .val (.int (2 : Int32)), .val (.int w1)] [(.int (3 : Int32)), (.int (2 : Int32))])) _
    refine XS.icmpNo X212.here hx rfl (hb hby d1_21) rfl (tlt (by decide)).2.1 ?_
    show Steps p.tables e below (T212.setTop (mkF m 24 #[.val (.ref a0), .val (.ref a1), .val (.long (((0 : Int64) + (w0.toInt64)) + (w1.toInt64))), .second, .val (.ref a1), .val (.int (3 : Int32)), .val (.int (2 : Int32)), .val (.int w1)] [])) _
    refine XS.aload X212.here hx rfl (hb hby d1_24) rfl rfl ?_
    show Steps p.tables e below (T212.setTop (mkF m 26 #[.val (.ref a0), .val (.ref a1), .val (.long (((0 : Int64) + (w0.toInt64)) + (w1.toInt64))), .second, .val (.ref a1), .val (.int (3 : Int32)), .val (.int (2 : Int32)), .val (.int w1)] [(.ref a1)])) _
    refine XS.iload X212.here hx rfl (hb hby d1_26) rfl ?_
    show Steps p.tables e below (T212.setTop (mkF m 28 #[.val (.ref a0), .val (.ref a1), .val (.long (((0 : Int64) + (w0.toInt64)) + (w1.toInt64))), .second, .val (.ref a1), .val (.int (3 : Int32)), .val (.int (2 : Int32)), .val (.int w1)] [(.int (2 : Int32)), (.ref a1)])) _
    refine X212.iaload hx (j := (2 : Int32)) (v := (.int w2)) (by rw [e212]; exact Ar216.1) (State.isArrayOf_alike hZ.alike Ar216.2.1) Ar216.2.2 hin216 hat216 (g := (mkF m 28 #[.val (.ref a0), .val (.ref a1), .val (.long (((0 : Int64) + (w0.toInt64)) + (w1.toInt64))), .second, .val (.ref a1), .val (.int (3 : Int32)), .val (.int (2 : Int32)), .val (.int w1)] [(.int (2 : Int32)), (.ref a1)])) rfl rfl (hb hby d1_28) _ ?_
    show Steps p.tables e below (T212.setTop (mkF m 29 #[.val (.ref a0), .val (.ref a1), .val (.long (((0 : Int64) + (w0.toInt64)) + (w1.toInt64))), .second, .val (.ref a1), .val (.int (3 : Int32)), .val (.int (2 : Int32)), .val (.int w1)] [(.int w2)])) _
    refine XS.istore X212.here hx rfl (hb hby d1_29) rfl (l' := #[.val (.ref a0), .val (.ref a1), .val (.long (((0 : Int64) + (w0.toInt64)) + (w1.toInt64))), .second, .val (.ref a1), .val (.int (3 : Int32)), .val (.int (2 : Int32)), .val (.int w2)]) rfl ?_
    show Steps p.tables e below (T212.setTop (mkF m 31 #[.val (.ref a0), .val (.ref a1), .val (.long (((0 : Int64) + (w0.toInt64)) + (w1.toInt64))), .second, .val (.ref a1), .val (.int (3 : Int32)), .val (.int (2 : Int32)), .val (.int w2)] [])) _
    refine XS.lloadN X212.here hx rfl (hb hby d1_31) rfl ?_
    show Steps p.tables e below (T212.setTop (mkF m 32 #[.val (.ref a0), .val (.ref a1), .val (.long (((0 : Int64) + (w0.toInt64)) + (w1.toInt64))), .second, .val (.ref a1), .val (.int (3 : Int32)), .val (.int (2 : Int32)), .val (.int w2)] [(.long (((0 : Int64) + (w0.toInt64)) + (w1.toInt64)))])) _
    refine XS.iload X212.here hx rfl (hb hby d1_32) rfl ?_
    show Steps p.tables e below (T212.setTop (mkF m 34 #[.val (.ref a0), .val (.ref a1), .val (.long (((0 : Int64) + (w0.toInt64)) + (w1.toInt64))), .second, .val (.ref a1), .val (.int (3 : Int32)), .val (.int (2 : Int32)), .val (.int w2)] [(.int w2), (.long (((0 : Int64) + (w0.toInt64)) + (w1.toInt64)))])) _
    refine XS.i2l X212.here hx rfl (hb hby d1_34) rfl ?_
    show Steps p.tables e below (T212.setTop (mkF m 35 #[.val (.ref a0), .val (.ref a1), .val (.long (((0 : Int64) + (w0.toInt64)) + (w1.toInt64))), .second, .val (.ref a1), .val (.int (3 : Int32)), .val (.int (2 : Int32)), .val (.int w2)] [(.long (w2.toInt64)), (.long (((0 : Int64) + (w0.toInt64)) + (w1.toInt64)))])) _
    refine XS.ladd X212.here hx rfl (hb hby d1_35) rfl ?_
    show Steps p.tables e below (T212.setTop (mkF m 36 #[.val (.ref a0), .val (.ref a1), .val (.long (((0 : Int64) + (w0.toInt64)) + (w1.toInt64))), .second, .val (.ref a1), .val (.int (3 : Int32)), .val (.int (2 : Int32)), .val (.int w2)] [(.long ((((0 : Int64) + (w0.toInt64)) + (w1.toInt64)) + (w2.toInt64)))])) _
    refine XS.lstoreN X212.here hx rfl (hb hby d1_36) rfl (l' := #[.val (.ref a0), .val (.ref a1), .val (.long ((((0 : Int64) + (w0.toInt64)) + (w1.toInt64)) + (w2.toInt64))), .second, .val (.ref a1), .val (.int (3 : Int32)), .val (.int (2 : Int32)), .val (.int w2)]) rfl ?_
    show Steps p.tables e below (T212.setTop (mkF m 37 #[.val (.ref a0), .val (.ref a1), .val (.long ((((0 : Int64) + (w0.toInt64)) + (w1.toInt64)) + (w2.toInt64))), .second, .val (.ref a1), .val (.int (3 : Int32)), .val (.int (2 : Int32)), .val (.int w2)] [])) _
    refine XS.iinc X212.here hx rfl (hb hby d1_37) rfl (l' := #[.val (.ref a0), .val (.ref a1), .val (.long ((((0 : Int64) + (w0.toInt64)) + (w1.toInt64)) + (w2.toInt64))), .second, .val (.ref a1), .val (.int (3 : Int32)), .val (.int (3 : Int32)), .val (.int w2)]) rfl ?_
    show Steps p.tables e below (T212.setTop (mkF m 40 #[.val (.ref a0), .val (.ref a1), .val (.long ((((0 : Int64) + (w0.toInt64)) + (w1.toInt64)) + (w2.toInt64))), .second, .val (.ref a1), .val (.int (3 : Int32)), .val (.int (3 : Int32)), .val (.int w2)] [])) _
    refine XS.goto X212.here hx rfl (pc0 := 40) (pc' := 17) rfl (hb hby d1_40) (by decide) (by decide) ?_
    show Steps p.tables e below (T212.setTop (mkF m 17 #[.val (.ref a0), .val (.ref a1), .val (.long ((((0 : Int64) + (w0.toInt64)) + (w1.toInt64)) + (w2.toInt64))), .second, .val (.ref a1), .val (.int (3 : Int32)), .val (.int (3 : Int32)), .val (.int w2)] [])) _
    refine XS.iload X212.here hx rfl (hb hby d1_17) rfl ?_
    show Steps p.tables e below (T212.setTop (mkF m 19 #[.val (.ref a0), .val (.ref a1), .val (.long ((((0 : Int64) + (w0.toInt64)) + (w1.toInt64)) + (w2.toInt64))), .second, .val (.ref a1), .val (.int (3 : Int32)), .val (.int (3 : Int32)), .val (.int w2)] [(.int (3 : Int32))])) _
    refine XS.iload X212.here hx rfl (hb hby d1_19) rfl ?_
    show Steps p.tables e below (T212.setTop (mkF m 21 #[.val (.ref a0), .val (.ref a1), .val (.long ((((0 : Int64) + (w0.toInt64)) + (w1.toInt64)) + (w2.toInt64))), .second, .val (.ref a1), .val (.int (3 : Int32)), .val (.int (3 : Int32)), .val (.int w2)] [(.int (3 : Int32)), (.int (3 : Int32))])) _
    refine XS.icmpYes X212.here hx rfl (pc0 := 21) (pc' := 43) rfl (hb hby d1_21) rfl (flt (by decide)).2.1 (by decide) (by decide) ?_
    show Steps p.tables e below (T212.setTop (mkF m 43 #[.val (.ref a0), .val (.ref a1), .val (.long ((((0 : Int64) + (w0.toInt64)) + (w1.toInt64)) + (w2.toInt64))), .second, .val (.ref a1), .val (.int (3 : Int32)), .val (.int (3 : Int32)), .val (.int w2)] [])) _
    refine XS.aloadN X212.here hx rfl (hb hby d1_43) rfl rfl ?_
    show Steps p.tables e below (T212.setTop (mkF m 44 #[.val (.ref a0), .val (.ref a1), .val (.long ((((0 : Int64) + (w0.toInt64)) + (w1.toInt64)) + (w2.toInt64))), .second, .val (.ref a1), .val (.int (3 : Int32)), .val (.int (3 : Int32)), .val (.int w2)] [(.ref a0)])) _
    refine XS.aloadN X212.here hx rfl (hb hby d1_44) rfl rfl ?_
    show Steps p.tables e below (T212.setTop (mkF m 45 #[.val (.ref a0), .val (.ref a1), .val (.long ((((0 : Int64) + (w0.toInt64)) + (w1.toInt64)) + (w2.toInt64))), .second, .val (.ref a1), .val (.int (3 : Int32)), .val (.int (3 : Int32)), .val (.int w2)] [(.ref a1), (.ref a0)])) _
    refine st217 _ ?_
    show Steps p.tables e below (T217.setTop (mkF m 48 #[.val (.ref a0), .val (.ref a1), .val (.long ((((0 : Int64) + (w0.toInt64)) + (w1.toInt64)) + (w2.toInt64))), .second, .val (.ref a1), .val (.int (3 : Int32)), .val (.int (3 : Int32)), .val (.int w2)] [])) _
    refine XS.aloadN X217.here hx rfl (hb hby d1_48) rfl rfl ?_
    show Steps p.tables e below (T217.setTop (mkF m 49 #[.val (.ref a0), .val (.ref a1), .val (.long ((((0 : Int64) + (w0.toInt64)) + (w1.toInt64)) + (w2.toInt64))), .second, .val (.ref a1), .val (.int (3 : Int32)), .val (.int (3 : Int32)), .val (.int w2)] [(.ref a0)])) _
    refine XS.lloadN X217.here hx rfl (hb hby d1_49) rfl ?_
    show Steps p.tables e below (T217.setTop (mkF m 50 #[.val (.ref a0), .val (.ref a1), .val (.long ((((0 : Int64) + (w0.toInt64)) + (w1.toInt64)) + (w2.toInt64))), .second, .val (.ref a1), .val (.int (3 : Int32)), .val (.int (3 : Int32)), .val (.int w2)] [(.long ((((0 : Int64) + (w0.toInt64)) + (w1.toInt64)) + (w2.toInt64))), (.ref a0)])) _
    refine st226 _ ?_
    show Steps p.tables e below (T226.setTop (mkF m 53 #[.val (.ref a0), .val (.ref a1), .val (.long ((((0 : Int64) + (w0.toInt64)) + (w1.toInt64)) + (w2.toInt64))), .second, .val (.ref a1), .val (.int (3 : Int32)), .val (.int (3 : Int32)), .val (.int w2)] [])) _
    refine XS.aloadN X226.here hx rfl (hb hby d1_53) rfl rfl ?_
    show Steps p.tables e below (T226.setTop (mkF m 54 #[.val (.ref a0), .val (.ref a1), .val (.long ((((0 : Int64) + (w0.toInt64)) + (w1.toInt64)) + (w2.toInt64))), .second, .val (.ref a1), .val (.int (3 : Int32)), .val (.int (3 : Int32)), .val (.int w2)] [(.ref a0)])) _
    refine XS.aloadN X226.here hx rfl (hb hby d1_54) rfl rfl ?_
    show Steps p.tables e below (T226.setTop (mkF m 55 #[.val (.ref a0), .val (.ref a1), .val (.long ((((0 : Int64) + (w0.toInt64)) + (w1.toInt64)) + (w2.toInt64))), .second, .val (.ref a1), .val (.int (3 : Int32)), .val (.int (3 : Int32)), .val (.int w2)] [(.ref a1), (.ref a0)])) _
    refine st235 _ ?_
    show Steps p.tables e below (T235.setTop (mkF m 58 #[.val (.ref a0), .val (.ref a1), .val (.long ((((0 : Int64) + (w0.toInt64)) + (w1.toInt64)) + (w2.toInt64))), .second, .val (.ref a1), .val (.int (3 : Int32)), .val (.int (3 : Int32)), .val (.int w2)] [(.int (((31 : Int32) * (((31 : Int32) * ((31 : Int32) + w0)) + w1)) + w2)), (.ref a0)])) _
    refine st236 _ ?_
    show Steps p.tables e below (T236.setTop (mkF m 61 #[.val (.ref a0), .val (.ref a1), .val (.long ((((0 : Int64) + (w0.toInt64)) + (w1.toInt64)) + (w2.toInt64))), .second, .val (.ref a1), .val (.int (3 : Int32)), .val (.int (3 : Int32)), .val (.int w2)] [])) _
    exact X236.returnOut hx Bd.returns (hb hby d1_61) hr
  ·
    show Q_ct3 Z a0 a1 k1 w0 w1 w2 h0 n0 _ T236.heap _
    rw [e236]
    exact ⟨rfl, N243, K242, f237, f239⟩
theorem own_and3 (p : Int32) : p &&& 3 = 0 ∨ p &&& 3 = 1 ∨ p &&& 3 = 2 ∨ p &&& 3 = 3 := by
  have h := c_and p 3 (by decide)
  simp only [← Int32.toInt_inj, Int32.reduceToInt] at *
  omega
theorem d4_0 : decode prog_29_method_7_code 0 = .ok (.aload_n 0, 1) := by decide +kernel
theorem d4_1 : decode prog_29_method_7_code 1 = .ok (.getfield 7, 3) := by decide +kernel
theorem d4_4 : decode prog_29_method_7_code 4 = .ok (.astore_n 1, 1) := by decide +kernel
theorem d4_5 : decode prog_29_method_7_code 5 = .ok (.aload_n 1, 1) := by decide +kernel
theorem d4_6 : decode prog_29_method_7_code 6 = .ok (.arraylength, 1) := by decide +kernel
theorem d4_7 : decode prog_29_method_7_code 7 = .ok (.istore_n 2, 1) := by decide +kernel
theorem d4_8 : decode prog_29_method_7_code 8 = .ok (.iconst 0, 1) := by decide +kernel
theorem d4_9 : decode prog_29_method_7_code 9 = .ok (.istore_n 3, 1) := by decide +kernel
theorem d4_10 : decode prog_29_method_7_code 10 = .ok (.iload_n 3, 1) := by decide +kernel
theorem d4_11 : decode prog_29_method_7_code 11 = .ok (.iload_n 2, 1) := by decide +kernel
theorem d4_12 : decode prog_29_method_7_code 12 = .ok (.if_icmp .ge 22, 3) := by decide +kernel
theorem d4_34 : decode prog_29_method_7_code 34 = .ok (.iconst 1, 1) := by decide +kernel
theorem d4_35 : decode prog_29_method_7_code 35 = .ok (.ireturn, 1) := by decide +kernel
theorem ef_sf0 (m : MethodId) (a0 : Addr) : entryFrame m #[(.ref a0)] 5 = mkF m 0 #[.val (.ref a0), .unset, .unset, .unset, .unset] [] := by first | (simp [entryFrame, mkF, argsToLocals, Value.category]; done) | rfl
def Q_sf0 (Z : State) (a0 : Addr) (a1 : Addr) (k1 : ClassId) (h0 : Heap) (n0 : Nat) (v : Option Value) (h : Heap) (L : List Loc) : Prop := v = some (.int (1 : Int32)) ∧ Fr n0 L ∧ h = h0
set_option maxRecDepth 65536 in
set_option maxHeartbeats 40000000 in
theorem sf0 (l : Launch) (Z : State) (aw : Array Value) (hw : ∀ d ∈ tables_1, d.before aw Z = true) (ws : List Jvm.Cond) (a0 : Addr) (a1 : Addr) (k1 : ClassId) (h0 : Heap) (n0 : Nat) (Z0 : n0 ≤ h0.size) (F_a0_tokens : Fld Z h0 a0 "com/example/enact/enact/net/Marking" "tokens" "[I" (.ref a1)) (V_a1 : Arv Z h0 a1 k1 .int (0 : Int32) [] (.int (0 : Int32))) :
    MetFree l (⟨"com/example/enact/enact/net/Marking", "isSafe", "()Z"⟩ : MethodName) (head1 (Jvm.Cond.code (⟨"com/example/enact/enact/net/Marking", "isSafe", "()Z"⟩ : MethodName) prog_29_method_7_code 5 (some .boolean) :: ws) ({ frames := 0, cells := 0, slots := 0, locals := 0 } : Room)) (fun a U => a = #[(.ref a0)] ∧ Z.Warmed39 U.vm ∧ U.heap = h0) (fun _ _ _ _ _ => True) (fun _ U o U' => ∃ v L, o = .returned v ∧ Q_sf0 Z a0 a1 k1 h0 n0 v U'.heap L ∧ FrameEnd U o U' L ({ frames := 0, cells := 0, slots := 0, locals := 0 } : Room).cells ({ frames := 0, cells := 0, slots := 0, locals := 0 } : Room).slots) := by
  refine MetFree.of_bodySF (plainFor_of_name pn_1) hisR ?_
  intro p e s m args below meth c s₁ Bd hml0 hP hK
  obtain ⟨rfl, hZ, hh⟩ := hP
  have hx := Bd.exec
  have hby := Bd.bytes
  have hml : c.maxLocals = 5 := hml0
  have hown : s.vm.findClass "com/example/enact/enact/net/Marking" = some m.cls := findClass_of_methodNamed Bd.named
  have hnm := (name_of_methodNamed Bd.named Bd.method).1
  have X0 : Stand p l e ({ frames := 0, cells := 0, slots := 0, locals := 0 } : Room) s m #[(.ref a0)] below meth c s₁ [] 0 0 := Stand.of_body Bd
  have e0 : s₁.heap = h0 := by rw [← hh, Bd.state]; rfl
  have N0 := Fr.nil n0
  have pre0 : ∀ t, Steps p.tables e below (s₁.setTop (mkF m 0 #[.val (.ref a0), .unset, .unset, .unset, .unset] [])) t → Steps p.tables e below (s₁.setTop (entryFrame m #[(.ref a0)] 5)) t := fun t k => castTop (ef_sf0 m a0) k
  obtain ⟨T245, X245, e245, st245⟩ := getF X0 hx hZ hown (host := "") (Or.inl (hw _ (List.mem_of_getElem? (i := 11) rfl))) Via.refl e0 F_a0_tokens (g := (mkF m 1 #[.val (.ref a0), .unset, .unset, .unset, .unset] [(.ref a0)])) rfl rfl (hb hby d4_1)
  obtain ⟨cl246, Ar246, q246, S246, N246, H246, G246⟩ := id V_a1
  obtain ⟨fs, hr, hrun, hended, hW, hsame⟩ := X245.leave (v := some (.int (1 : Int32))) (fun h => by rw [Bd.returns] at h; cases h)
  refine ⟨_, _, pre0 _ ?_, hrun, hended, _, _, rfl, ?_, ⟨_, rfl⟩, hW, hsame.mono (by decide) (by decide)⟩
  ·
    show Steps p.tables e below (s₁.setTop (mkF m 0 #[.val (.ref a0), .unset, .unset, .unset, .unset] [])) _
    refine XS.aloadN X0.here hx rfl (hb hby d4_0) rfl rfl ?_
    show Steps p.tables e below (s₁.setTop (mkF m 1 #[.val (.ref a0), .unset, .unset, .unset, .unset] [(.ref a0)])) _
    refine st245 _ ?_
    show Steps p.tables e below (T245.setTop (mkF m 4 #[.val (.ref a0), .unset, .unset, .unset, .unset] [(.ref a1)])) _
    refine XS.astoreN X245.here hx rfl (hb hby d4_4) rfl rfl (l' := #[.val (.ref a0), .val (.ref a1), .unset, .unset, .unset]) rfl ?_
    show Steps p.tables e below (T245.setTop (mkF m 5 #[.val (.ref a0), .val (.ref a1), .unset, .unset, .unset] [])) _
    refine XS.aloadN X245.here hx rfl (hb hby d4_5) rfl rfl ?_
    show Steps p.tables e below (T245.setTop (mkF m 6 #[.val (.ref a0), .val (.ref a1), .unset, .unset, .unset] [(.ref a1)])) _
    refine X245.arraylength hx (by rw [e245]; exact Ar246.1) (State.isArrayOf_alike hZ.alike Ar246.2.1) (g := (mkF m 6 #[.val (.ref a0), .val (.ref a1), .unset, .unset, .unset] [(.ref a1)])) rfl rfl (hb hby d4_6) _ ?_
    rw [len_of S246 N246]
    show Steps p.tables e below (T245.setTop (mkF m 7 #[.val (.ref a0), .val (.ref a1), .unset, .unset, .unset] [(.int (0 : Int32))])) _
    refine XS.istoreN X245.here hx rfl (hb hby d4_7) rfl (l' := #[.val (.ref a0), .val (.ref a1), .val (.int (0 : Int32)), .unset, .unset]) rfl ?_
    show Steps p.tables e below (T245.setTop (mkF m 8 #[.val (.ref a0), .val (.ref a1), .val (.int (0 : Int32)), .unset, .unset] [])) _
    refine XS.iconst X245.here hx rfl (hb hby d4_8) ?_
    show Steps p.tables e below (T245.setTop (mkF m 9 #[.val (.ref a0), .val (.ref a1), .val (.int (0 : Int32)), .unset, .unset] [(.int (0 : Int32))])) _
    refine XS.istoreN X245.here hx rfl (hb hby d4_9) rfl (l' := #[.val (.ref a0), .val (.ref a1), .val (.int (0 : Int32)), .val (.int (0 : Int32)), .unset]) rfl ?_
    show Steps p.tables e below (T245.setTop (mkF m 10 #[.val (.ref a0), .val (.ref a1), .val (.int (0 : Int32)), .val (.int (0 : Int32)), .unset] [])) _
    refine XS.iloadN X245.here hx rfl (hb hby d4_10) rfl ?_
    show Steps p.tables e below (T245.setTop (mkF m 11 #[.val (.ref a0), .val (.ref a1), .val (.int (0 : Int32)), .val (.int (0 : Int32)), .unset] [(.int (0 : Int32))])) _
    refine XS.iloadN X245.here hx rfl (hb hby d4_11) rfl ?_
    show Steps p.tables e below (T245.setTop (mkF m 12 #[.val (.ref a0), .val (.ref a1), .val (.int (0 : Int32)), .val (.int (0 : Int32)), .unset] [(.int (0 : Int32)), (.int (0 : Int32))])) _
    refine XS.icmpYes X245.here hx rfl (pc0 := 12) (pc' := 34) rfl (hb hby d4_12) rfl (flt (by decide)).2.1 (by decide) (by decide) ?_
    show Steps p.tables e below (T245.setTop (mkF m 34 #[.val (.ref a0), .val (.ref a1), .val (.int (0 : Int32)), .val (.int (0 : Int32)), .unset] [])) _
    refine XS.iconst X245.here hx rfl (hb hby d4_34) ?_
    show Steps p.tables e below (T245.setTop (mkF m 35 #[.val (.ref a0), .val (.ref a1), .val (.int (0 : Int32)), .val (.int (0 : Int32)), .unset] [(.int (1 : Int32))])) _
    exact retZ X245 hx Bd.returns (by decide) (hb hby d4_35) hr
  ·
    show Q_sf0 Z a0 a1 k1 h0 n0 _ T245.heap _
    rw [e245]
    exact ⟨rfl, N0, rfl⟩
theorem d4_15 : decode prog_29_method_7_code 15 = .ok (.aload_n 1, 1) := by decide +kernel
theorem d4_16 : decode prog_29_method_7_code 16 = .ok (.iload_n 3, 1) := by decide +kernel
theorem d4_17 : decode prog_29_method_7_code 17 = .ok (.iaload, 1) := by decide +kernel
theorem d4_18 : decode prog_29_method_7_code 18 = .ok (.istore 4, 2) := by decide +kernel
theorem d4_20 : decode prog_29_method_7_code 20 = .ok (.iload 4, 2) := by decide +kernel
theorem d4_22 : decode prog_29_method_7_code 22 = .ok (.iconst 1, 1) := by decide +kernel
theorem d4_23 : decode prog_29_method_7_code 23 = .ok (.if_icmp .le 5, 3) := by decide +kernel
theorem d4_26 : decode prog_29_method_7_code 26 = .ok (.iconst 0, 1) := by decide +kernel
theorem d4_27 : decode prog_29_method_7_code 27 = .ok (.ireturn, 1) := by decide +kernel
theorem d4_28 : decode prog_29_method_7_code 28 = .ok (.iinc 3 1, 3) := by decide +kernel
theorem d4_31 : decode prog_29_method_7_code 31 = .ok (.goto (-21), 3) := by decide +kernel
theorem ef_sf1 (m : MethodId) (a0 : Addr) : entryFrame m #[(.ref a0)] 5 = mkF m 0 #[.val (.ref a0), .unset, .unset, .unset, .unset] [] := by first | (simp [entryFrame, mkF, argsToLocals, Value.category]; done) | rfl
def Q_sf1 (Z : State) (a0 : Addr) (a1 : Addr) (k1 : ClassId) (w0 : Int32) (h0 : Heap) (n0 : Nat) (v : Option Value) (h : Heap) (L : List Loc) : Prop := v = some (.int (if (1 : Int32) < w0 then (0 : Int32) else (1 : Int32))) ∧ Fr n0 L ∧ h = h0
set_option maxRecDepth 65536 in
set_option maxHeartbeats 40000000 in
theorem sf1 (l : Launch) (Z : State) (aw : Array Value) (hw : ∀ d ∈ tables_1, d.before aw Z = true) (ws : List Jvm.Cond) (a0 : Addr) (a1 : Addr) (k1 : ClassId) (w0 : Int32) (h0 : Heap) (n0 : Nat) (Z0 : n0 ≤ h0.size) (F_a0_tokens : Fld Z h0 a0 "com/example/enact/enact/net/Marking" "tokens" "[I" (.ref a1)) (V_a1 : Arv Z h0 a1 k1 .int (1 : Int32) [(.int w0)] (.int (0 : Int32))) :
    MetFree l (⟨"com/example/enact/enact/net/Marking", "isSafe", "()Z"⟩ : MethodName) (head1 (Jvm.Cond.code (⟨"com/example/enact/enact/net/Marking", "isSafe", "()Z"⟩ : MethodName) prog_29_method_7_code 5 (some .boolean) :: ws) ({ frames := 0, cells := 0, slots := 0, locals := 0 } : Room)) (fun a U => a = #[(.ref a0)] ∧ Z.Warmed39 U.vm ∧ U.heap = h0) (fun _ _ _ _ _ => True) (fun _ U o U' => ∃ v L, o = .returned v ∧ Q_sf1 Z a0 a1 k1 w0 h0 n0 v U'.heap L ∧ FrameEnd U o U' L ({ frames := 0, cells := 0, slots := 0, locals := 0 } : Room).cells ({ frames := 0, cells := 0, slots := 0, locals := 0 } : Room).slots) := by
  refine MetFree.of_bodySF (plainFor_of_name pn_1) hisR ?_
  intro p e s m args below meth c s₁ Bd hml0 hP hK
  obtain ⟨rfl, hZ, hh⟩ := hP
  have hx := Bd.exec
  have hby := Bd.bytes
  have hml : c.maxLocals = 5 := hml0
  have hown : s.vm.findClass "com/example/enact/enact/net/Marking" = some m.cls := findClass_of_methodNamed Bd.named
  have hnm := (name_of_methodNamed Bd.named Bd.method).1
  have X0 : Stand p l e ({ frames := 0, cells := 0, slots := 0, locals := 0 } : Room) s m #[(.ref a0)] below meth c s₁ [] 0 0 := Stand.of_body Bd
  have e0 : s₁.heap = h0 := by rw [← hh, Bd.state]; rfl
  have N0 := Fr.nil n0
  have pre0 : ∀ t, Steps p.tables e below (s₁.setTop (mkF m 0 #[.val (.ref a0), .unset, .unset, .unset, .unset] [])) t → Steps p.tables e below (s₁.setTop (entryFrame m #[(.ref a0)] 5)) t := fun t k => castTop (ef_sf1 m a0) k
  obtain ⟨T247, X247, e247, st247⟩ := getF X0 hx hZ hown (host := "") (Or.inl (hw _ (List.mem_of_getElem? (i := 11) rfl))) Via.refl e0 F_a0_tokens (g := (mkF m 1 #[.val (.ref a0), .unset, .unset, .unset, .unset] [(.ref a0)])) rfl rfl (hb hby d4_1)
  obtain ⟨cl248, Ar248, q248, S248, N248, H248, G248⟩ := id V_a1
  obtain ⟨cl249, Ar249, q249, S249, N249, H249, G249⟩ := id V_a1
  have hin249 : ¬ ((0 : Int32) < 0 ∨ cl249.slots.size ≤ ((0 : Int32)).toNatClampNeg) := inb_of S249 ⟨by decide, by decide⟩
  have hat249 : cl249.slots[((0 : Int32)).toNatClampNeg]? = some (.int w0) := Has.at H249 hin249 rfl
  have pre250 : ∀ t, Steps p.tables e below (T247.setTop (mkF m 23 #[.val (.ref a0), .val (.ref a1), .val (.int (1 : Int32)), .val (.int (0 : Int32)), .val (.int w0)] [(.int (1 : Int32)), (.int w0)])) t → Steps p.tables e below (s₁.setTop (entryFrame m #[(.ref a0)] 5)) t := fun t k => by
    refine pre0 t ?_
    show Steps p.tables e below (s₁.setTop (mkF m 0 #[.val (.ref a0), .unset, .unset, .unset, .unset] [])) _
    refine XS.aloadN X0.here hx rfl (hb hby d4_0) rfl rfl ?_
    show Steps p.tables e below (s₁.setTop (mkF m 1 #[.val (.ref a0), .unset, .unset, .unset, .unset] [(.ref a0)])) _
    refine st247 _ ?_
    show Steps p.tables e below (T247.setTop (mkF m 4 #[.val (.ref a0), .unset, .unset, .unset, .unset] [(.ref a1)])) _
    refine XS.astoreN X247.here hx rfl (hb hby d4_4) rfl rfl (l' := #[.val (.ref a0), .val (.ref a1), .unset, .unset, .unset]) rfl ?_
    show Steps p.tables e below (T247.setTop (mkF m 5 #[.val (.ref a0), .val (.ref a1), .unset, .unset, .unset] [])) _
    refine XS.aloadN X247.here hx rfl (hb hby d4_5) rfl rfl ?_
    show Steps p.tables e below (T247.setTop (mkF m 6 #[.val (.ref a0), .val (.ref a1), .unset, .unset, .unset] [(.ref a1)])) _
    refine X247.arraylength hx (by rw [e247]; exact Ar248.1) (State.isArrayOf_alike hZ.alike Ar248.2.1) (g := (mkF m 6 #[.val (.ref a0), .val (.ref a1), .unset, .unset, .unset] [(.ref a1)])) rfl rfl (hb hby d4_6) _ ?_
    rw [len_of S248 N248]
    show Steps p.tables e below (T247.setTop (mkF m 7 #[.val (.ref a0), .val (.ref a1), .unset, .unset, .unset] [(.int (1 : Int32))])) _
    refine XS.istoreN X247.here hx rfl (hb hby d4_7) rfl (l' := #[.val (.ref a0), .val (.ref a1), .val (.int (1 : Int32)), .unset, .unset]) rfl ?_
    show Steps p.tables e below (T247.setTop (mkF m 8 #[.val (.ref a0), .val (.ref a1), .val (.int (1 : Int32)), .unset, .unset] [])) _
    refine XS.iconst X247.here hx rfl (hb hby d4_8) ?_
    show Steps p.tables e below (T247.setTop (mkF m 9 #[.val (.ref a0), .val (.ref a1), .val (.int (1 : Int32)), .unset, .unset] [(.int (0 : Int32))])) _
    refine XS.istoreN X247.here hx rfl (hb hby d4_9) rfl (l' := #[.val (.ref a0), .val (.ref a1), .val (.int (1 : Int32)), .val (.int (0 : Int32)), .unset]) rfl ?_
    show Steps p.tables e below (T247.setTop (mkF m 10 #[.val (.ref a0), .val (.ref a1), .val (.int (1 : Int32)), .val (.int (0 : Int32)), .unset] [])) _
    refine XS.iloadN X247.here hx rfl (hb hby d4_10) rfl ?_
    show Steps p.tables e below (T247.setTop (mkF m 11 #[.val (.ref a0), .val (.ref a1), .val (.int (1 : Int32)), .val (.int (0 : Int32)), .unset] [(.int (0 : Int32))])) _
    refine XS.iloadN X247.here hx rfl (hb hby d4_11) rfl ?_
    show Steps p.tables e below (T247.setTop (mkF m 12 #[.val (.ref a0), .val (.ref a1), .val (.int (1 : Int32)), .val (.int (0 : Int32)), .unset] [(.int (1 : Int32)), (.int (0 : Int32))])) _
    refine XS.icmpNo X247.here hx rfl (hb hby d4_12) rfl (tlt (by decide)).2.1 ?_
    show Steps p.tables e below (T247.setTop (mkF m 15 #[.val (.ref a0), .val (.ref a1), .val (.int (1 : Int32)), .val (.int (0 : Int32)), .unset] [])) _
    refine XS.aloadN X247.here hx rfl (hb hby d4_15) rfl rfl ?_
    show Steps p.tables e below (T247.setTop (mkF m 16 #[.val (.ref a0), .val (.ref a1), .val (.int (1 : Int32)), .val (.int (0 : Int32)), .unset] [(.ref a1)])) _
    refine XS.iloadN X247.here hx rfl (hb hby d4_16) rfl ?_
    show Steps p.tables e below (T247.setTop (mkF m 17 #[.val (.ref a0), .val (.ref a1), .val (.int (1 : Int32)), .val (.int (0 : Int32)), .unset] [(.int (0 : Int32)), (.ref a1)])) _
    refine X247.iaload hx (j := (0 : Int32)) (v := (.int w0)) (by rw [e247]; exact Ar249.1) (State.isArrayOf_alike hZ.alike Ar249.2.1) Ar249.2.2 hin249 hat249 (g := (mkF m 17 #[.val (.ref a0), .val (.ref a1), .val (.int (1 : Int32)), .val (.int (0 : Int32)), .unset] [(.int (0 : Int32)), (.ref a1)])) rfl rfl (hb hby d4_17) _ ?_
    show Steps p.tables e below (T247.setTop (mkF m 18 #[.val (.ref a0), .val (.ref a1), .val (.int (1 : Int32)), .val (.int (0 : Int32)), .unset] [(.int w0)])) _
    refine XS.istore X247.here hx rfl (hb hby d4_18) rfl (l' := #[.val (.ref a0), .val (.ref a1), .val (.int (1 : Int32)), .val (.int (0 : Int32)), .val (.int w0)]) rfl ?_
    show Steps p.tables e below (T247.setTop (mkF m 20 #[.val (.ref a0), .val (.ref a1), .val (.int (1 : Int32)), .val (.int (0 : Int32)), .val (.int w0)] [])) _
    refine XS.iload X247.here hx rfl (hb hby d4_20) rfl ?_
    show Steps p.tables e below (T247.setTop (mkF m 22 #[.val (.ref a0), .val (.ref a1), .val (.int (1 : Int32)), .val (.int (0 : Int32)), .val (.int w0)] [(.int w0)])) _
    refine XS.iconst X247.here hx rfl (hb hby d4_22) ?_
    exact k
  by_cases c251 : (1 : Int32) < w0
  ·
    obtain ⟨fs, hr, hrun, hended, hW, hsame⟩ := X247.leave (v := some (.int (0 : Int32))) (fun h => by rw [Bd.returns] at h; cases h)
    refine ⟨_, _, pre250 _ ?_, hrun, hended, _, _, rfl, ?_, ⟨_, rfl⟩, hW, hsame.mono (by decide) (by decide)⟩
    ·
      show Steps p.tables e below (T247.setTop (mkF m 23 #[.val (.ref a0), .val (.ref a1), .val (.int (1 : Int32)), .val (.int (0 : Int32)), .val (.int w0)] [(.int (1 : Int32)), (.int w0)])) _
      refine XS.icmpNo X247.here hx rfl (hb hby d4_23) rfl (tlt c251).2.2.2 ?_
      show Steps p.tables e below (T247.setTop (mkF m 26 #[.val (.ref a0), .val (.ref a1), .val (.int (1 : Int32)), .val (.int (0 : Int32)), .val (.int w0)] [])) _
      refine XS.iconst X247.here hx rfl (hb hby d4_26) ?_
      show Steps p.tables e below (T247.setTop (mkF m 27 #[.val (.ref a0), .val (.ref a1), .val (.int (1 : Int32)), .val (.int (0 : Int32)), .val (.int w0)] [(.int (0 : Int32))])) _
      exact retZ X247 hx Bd.returns (by decide) (hb hby d4_27) hr
    ·
      show Q_sf1 Z a0 a1 k1 w0 h0 n0 _ T247.heap _
      rw [e247]
      exact ⟨(by simp only [if_pos c251]), N0, rfl⟩
  ·
    obtain ⟨fs, hr, hrun, hended, hW, hsame⟩ := X247.leave (v := some (.int (1 : Int32))) (fun h => by rw [Bd.returns] at h; cases h)
    refine ⟨_, _, pre250 _ ?_, hrun, hended, _, _, rfl, ?_, ⟨_, rfl⟩, hW, hsame.mono (by decide) (by decide)⟩
    ·
      show Steps p.tables e below (T247.setTop (mkF m 23 #[.val (.ref a0), .val (.ref a1), .val (.int (1 : Int32)), .val (.int (0 : Int32)), .val (.int w0)] [(.int (1 : Int32)), (.int w0)])) _
      refine XS.icmpYes X247.here hx rfl (pc0 := 23) (pc' := 28) rfl (hb hby d4_23) rfl (flt c251).2.2.2 (by decide) (by decide) ?_
      show Steps p.tables e below (T247.setTop (mkF m 28 #[.val (.ref a0), .val (.ref a1), .val (.int (1 : Int32)), .val (.int (0 : Int32)), .val (.int w0)] [])) _
      refine XS.iinc X247.here hx rfl (hb hby d4_28) rfl (l' := #[.val (.ref a0), .val (.ref a1), .val (.int (1 : Int32)), .val (.int (1 : Int32)), .val (.int w0)]) rfl ?_
      show Steps p.tables e below (T247.setTop (mkF m 31 #[.val (.ref a0), .val (.ref a1), .val (.int (1 : Int32)), .val (.int (1 : Int32)), .val (.int w0)] [])) _
      refine XS.goto X247.here hx rfl (pc0 := 31) (pc' := 10) rfl (hb hby d4_31) (by decide) (by decide) ?_
      show Steps p.tables e below (T247.setTop (mkF m 10 #[.val (.ref a0), .val (.ref a1), .val (.int (1 : Int32)), .val (.int (1 : Int32)), .val (.int w0)] [])) _
      refine XS.iloadN X247.here hx rfl (hb hby d4_10) rfl ?_
      show Steps p.tables e below (T247.setTop (mkF m 11 #[.val (.ref a0), .val (.ref a1), .val (.int (1 : Int32)), .val (.int (1 : Int32)), .val (.int w0)] [(.int (1 : Int32))])) _
      refine XS.iloadN X247.here hx rfl (hb hby d4_11) rfl ?_
      show Steps p.tables e below (T247.setTop (mkF m 12 #[.val (.ref a0), .val (.ref a1), .val (.int (1 : Int32)), .val (.int (1 : Int32)), .val (.int w0)] [(.int (1 : Int32)), (.int (1 : Int32))])) _
      refine XS.icmpYes X247.here hx rfl (pc0 := 12) (pc' := 34) rfl (hb hby d4_12) rfl (flt (by decide)).2.1 (by decide) (by decide) ?_
      show Steps p.tables e below (T247.setTop (mkF m 34 #[.val (.ref a0), .val (.ref a1), .val (.int (1 : Int32)), .val (.int (1 : Int32)), .val (.int w0)] [])) _
      refine XS.iconst X247.here hx rfl (hb hby d4_34) ?_
      show Steps p.tables e below (T247.setTop (mkF m 35 #[.val (.ref a0), .val (.ref a1), .val (.int (1 : Int32)), .val (.int (1 : Int32)), .val (.int w0)] [(.int (1 : Int32))])) _
      exact retZ X247 hx Bd.returns (by decide) (hb hby d4_35) hr
    ·
      show Q_sf1 Z a0 a1 k1 w0 h0 n0 _ T247.heap _
      rw [e247]
      exact ⟨(by simp only [if_neg c251]), N0, rfl⟩
theorem ef_sf2 (m : MethodId) (a0 : Addr) : entryFrame m #[(.ref a0)] 5 = mkF m 0 #[.val (.ref a0), .unset, .unset, .unset, .unset] [] := by first | (simp [entryFrame, mkF, argsToLocals, Value.category]; done) | rfl
def Q_sf2 (Z : State) (a0 : Addr) (a1 : Addr) (k1 : ClassId) (w0 : Int32) (w1 : Int32) (h0 : Heap) (n0 : Nat) (v : Option Value) (h : Heap) (L : List Loc) : Prop := v = some (.int (if (1 : Int32) < w0 then (0 : Int32) else (if (1 : Int32) < w1 then (0 : Int32) else (1 : Int32)))) ∧ Fr n0 L ∧ h = h0
set_option maxRecDepth 65536 in
set_option maxHeartbeats 40000000 in
theorem sf2 (l : Launch) (Z : State) (aw : Array Value) (hw : ∀ d ∈ tables_1, d.before aw Z = true) (ws : List Jvm.Cond) (a0 : Addr) (a1 : Addr) (k1 : ClassId) (w0 : Int32) (w1 : Int32) (h0 : Heap) (n0 : Nat) (Z0 : n0 ≤ h0.size) (F_a0_tokens : Fld Z h0 a0 "com/example/enact/enact/net/Marking" "tokens" "[I" (.ref a1)) (V_a1 : Arv Z h0 a1 k1 .int (2 : Int32) [(.int w0), (.int w1)] (.int (0 : Int32))) :
    MetFree l (⟨"com/example/enact/enact/net/Marking", "isSafe", "()Z"⟩ : MethodName) (head1 (Jvm.Cond.code (⟨"com/example/enact/enact/net/Marking", "isSafe", "()Z"⟩ : MethodName) prog_29_method_7_code 5 (some .boolean) :: ws) ({ frames := 0, cells := 0, slots := 0, locals := 0 } : Room)) (fun a U => a = #[(.ref a0)] ∧ Z.Warmed39 U.vm ∧ U.heap = h0) (fun _ _ _ _ _ => True) (fun _ U o U' => ∃ v L, o = .returned v ∧ Q_sf2 Z a0 a1 k1 w0 w1 h0 n0 v U'.heap L ∧ FrameEnd U o U' L ({ frames := 0, cells := 0, slots := 0, locals := 0 } : Room).cells ({ frames := 0, cells := 0, slots := 0, locals := 0 } : Room).slots) := by
  refine MetFree.of_bodySF (plainFor_of_name pn_1) hisR ?_
  intro p e s m args below meth c s₁ Bd hml0 hP hK
  obtain ⟨rfl, hZ, hh⟩ := hP
  have hx := Bd.exec
  have hby := Bd.bytes
  have hml : c.maxLocals = 5 := hml0
  have hown : s.vm.findClass "com/example/enact/enact/net/Marking" = some m.cls := findClass_of_methodNamed Bd.named
  have hnm := (name_of_methodNamed Bd.named Bd.method).1
  have X0 : Stand p l e ({ frames := 0, cells := 0, slots := 0, locals := 0 } : Room) s m #[(.ref a0)] below meth c s₁ [] 0 0 := Stand.of_body Bd
  have e0 : s₁.heap = h0 := by rw [← hh, Bd.state]; rfl
  have N0 := Fr.nil n0
  have pre0 : ∀ t, Steps p.tables e below (s₁.setTop (mkF m 0 #[.val (.ref a0), .unset, .unset, .unset, .unset] [])) t → Steps p.tables e below (s₁.setTop (entryFrame m #[(.ref a0)] 5)) t := fun t k => castTop (ef_sf2 m a0) k
  obtain ⟨T252, X252, e252, st252⟩ := getF X0 hx hZ hown (host := "") (Or.inl (hw _ (List.mem_of_getElem? (i := 11) rfl))) Via.refl e0 F_a0_tokens (g := (mkF m 1 #[.val (.ref a0), .unset, .unset, .unset, .unset] [(.ref a0)])) rfl rfl (hb hby d4_1)
  obtain ⟨cl253, Ar253, q253, S253, N253, H253, G253⟩ := id V_a1
  obtain ⟨cl254, Ar254, q254, S254, N254, H254, G254⟩ := id V_a1
  have hin254 : ¬ ((0 : Int32) < 0 ∨ cl254.slots.size ≤ ((0 : Int32)).toNatClampNeg) := inb_of S254 ⟨by decide, by decide⟩
  have hat254 : cl254.slots[((0 : Int32)).toNatClampNeg]? = some (.int w0) := Has.at H254 hin254 rfl
  have pre255 : ∀ t, Steps p.tables e below (T252.setTop (mkF m 23 #[.val (.ref a0), .val (.ref a1), .val (.int (2 : Int32)), .val (.int (0 : Int32)), .val (.int w0)] [(.int (1 : Int32)), (.int w0)])) t → Steps p.tables e below (s₁.setTop (entryFrame m #[(.ref a0)] 5)) t := fun t k => by
    refine pre0 t ?_
    show Steps p.tables e below (s₁.setTop (mkF m 0 #[.val (.ref a0), .unset, .unset, .unset, .unset] [])) _
    refine XS.aloadN X0.here hx rfl (hb hby d4_0) rfl rfl ?_
    show Steps p.tables e below (s₁.setTop (mkF m 1 #[.val (.ref a0), .unset, .unset, .unset, .unset] [(.ref a0)])) _
    refine st252 _ ?_
    show Steps p.tables e below (T252.setTop (mkF m 4 #[.val (.ref a0), .unset, .unset, .unset, .unset] [(.ref a1)])) _
    refine XS.astoreN X252.here hx rfl (hb hby d4_4) rfl rfl (l' := #[.val (.ref a0), .val (.ref a1), .unset, .unset, .unset]) rfl ?_
    show Steps p.tables e below (T252.setTop (mkF m 5 #[.val (.ref a0), .val (.ref a1), .unset, .unset, .unset] [])) _
    refine XS.aloadN X252.here hx rfl (hb hby d4_5) rfl rfl ?_
    show Steps p.tables e below (T252.setTop (mkF m 6 #[.val (.ref a0), .val (.ref a1), .unset, .unset, .unset] [(.ref a1)])) _
    refine X252.arraylength hx (by rw [e252]; exact Ar253.1) (State.isArrayOf_alike hZ.alike Ar253.2.1) (g := (mkF m 6 #[.val (.ref a0), .val (.ref a1), .unset, .unset, .unset] [(.ref a1)])) rfl rfl (hb hby d4_6) _ ?_
    rw [len_of S253 N253]
    show Steps p.tables e below (T252.setTop (mkF m 7 #[.val (.ref a0), .val (.ref a1), .unset, .unset, .unset] [(.int (2 : Int32))])) _
    refine XS.istoreN X252.here hx rfl (hb hby d4_7) rfl (l' := #[.val (.ref a0), .val (.ref a1), .val (.int (2 : Int32)), .unset, .unset]) rfl ?_
    show Steps p.tables e below (T252.setTop (mkF m 8 #[.val (.ref a0), .val (.ref a1), .val (.int (2 : Int32)), .unset, .unset] [])) _
    refine XS.iconst X252.here hx rfl (hb hby d4_8) ?_
    show Steps p.tables e below (T252.setTop (mkF m 9 #[.val (.ref a0), .val (.ref a1), .val (.int (2 : Int32)), .unset, .unset] [(.int (0 : Int32))])) _
    refine XS.istoreN X252.here hx rfl (hb hby d4_9) rfl (l' := #[.val (.ref a0), .val (.ref a1), .val (.int (2 : Int32)), .val (.int (0 : Int32)), .unset]) rfl ?_
    show Steps p.tables e below (T252.setTop (mkF m 10 #[.val (.ref a0), .val (.ref a1), .val (.int (2 : Int32)), .val (.int (0 : Int32)), .unset] [])) _
    refine XS.iloadN X252.here hx rfl (hb hby d4_10) rfl ?_
    show Steps p.tables e below (T252.setTop (mkF m 11 #[.val (.ref a0), .val (.ref a1), .val (.int (2 : Int32)), .val (.int (0 : Int32)), .unset] [(.int (0 : Int32))])) _
    refine XS.iloadN X252.here hx rfl (hb hby d4_11) rfl ?_
    show Steps p.tables e below (T252.setTop (mkF m 12 #[.val (.ref a0), .val (.ref a1), .val (.int (2 : Int32)), .val (.int (0 : Int32)), .unset] [(.int (2 : Int32)), (.int (0 : Int32))])) _
    refine XS.icmpNo X252.here hx rfl (hb hby d4_12) rfl (tlt (by decide)).2.1 ?_
    show Steps p.tables e below (T252.setTop (mkF m 15 #[.val (.ref a0), .val (.ref a1), .val (.int (2 : Int32)), .val (.int (0 : Int32)), .unset] [])) _
    refine XS.aloadN X252.here hx rfl (hb hby d4_15) rfl rfl ?_
    show Steps p.tables e below (T252.setTop (mkF m 16 #[.val (.ref a0), .val (.ref a1), .val (.int (2 : Int32)), .val (.int (0 : Int32)), .unset] [(.ref a1)])) _
    refine XS.iloadN X252.here hx rfl (hb hby d4_16) rfl ?_
    show Steps p.tables e below (T252.setTop (mkF m 17 #[.val (.ref a0), .val (.ref a1), .val (.int (2 : Int32)), .val (.int (0 : Int32)), .unset] [(.int (0 : Int32)), (.ref a1)])) _
    refine X252.iaload hx (j := (0 : Int32)) (v := (.int w0)) (by rw [e252]; exact Ar254.1) (State.isArrayOf_alike hZ.alike Ar254.2.1) Ar254.2.2 hin254 hat254 (g := (mkF m 17 #[.val (.ref a0), .val (.ref a1), .val (.int (2 : Int32)), .val (.int (0 : Int32)), .unset] [(.int (0 : Int32)), (.ref a1)])) rfl rfl (hb hby d4_17) _ ?_
    show Steps p.tables e below (T252.setTop (mkF m 18 #[.val (.ref a0), .val (.ref a1), .val (.int (2 : Int32)), .val (.int (0 : Int32)), .unset] [(.int w0)])) _
    refine XS.istore X252.here hx rfl (hb hby d4_18) rfl (l' := #[.val (.ref a0), .val (.ref a1), .val (.int (2 : Int32)), .val (.int (0 : Int32)), .val (.int w0)]) rfl ?_
    show Steps p.tables e below (T252.setTop (mkF m 20 #[.val (.ref a0), .val (.ref a1), .val (.int (2 : Int32)), .val (.int (0 : Int32)), .val (.int w0)] [])) _
    refine XS.iload X252.here hx rfl (hb hby d4_20) rfl ?_
    show Steps p.tables e below (T252.setTop (mkF m 22 #[.val (.ref a0), .val (.ref a1), .val (.int (2 : Int32)), .val (.int (0 : Int32)), .val (.int w0)] [(.int w0)])) _
    refine XS.iconst X252.here hx rfl (hb hby d4_22) ?_
    exact k
  by_cases c256 : (1 : Int32) < w0
  ·
    obtain ⟨fs, hr, hrun, hended, hW, hsame⟩ := X252.leave (v := some (.int (0 : Int32))) (fun h => by rw [Bd.returns] at h; cases h)
    refine ⟨_, _, pre255 _ ?_, hrun, hended, _, _, rfl, ?_, ⟨_, rfl⟩, hW, hsame.mono (by decide) (by decide)⟩
    ·
      show Steps p.tables e below (T252.setTop (mkF m 23 #[.val (.ref a0), .val (.ref a1), .val (.int (2 : Int32)), .val (.int (0 : Int32)), .val (.int w0)] [(.int (1 : Int32)), (.int w0)])) _
      refine XS.icmpNo X252.here hx rfl (hb hby d4_23) rfl (tlt c256).2.2.2 ?_
      show Steps p.tables e below (T252.setTop (mkF m 26 #[.val (.ref a0), .val (.ref a1), .val (.int (2 : Int32)), .val (.int (0 : Int32)), .val (.int w0)] [])) _
      refine XS.iconst X252.here hx rfl (hb hby d4_26) ?_
      show Steps p.tables e below (T252.setTop (mkF m 27 #[.val (.ref a0), .val (.ref a1), .val (.int (2 : Int32)), .val (.int (0 : Int32)), .val (.int w0)] [(.int (0 : Int32))])) _
      exact retZ X252 hx Bd.returns (by decide) (hb hby d4_27) hr
    ·
      show Q_sf2 Z a0 a1 k1 w0 w1 h0 n0 _ T252.heap _
      rw [e252]
      exact ⟨(by simp only [if_pos c256]), N0, rfl⟩
  ·
    obtain ⟨cl257, Ar257, q257, S257, N257, H257, G257⟩ := id V_a1
    have hin257 : ¬ ((1 : Int32) < 0 ∨ cl257.slots.size ≤ ((1 : Int32)).toNatClampNeg) := inb_of S257 ⟨by decide, by decide⟩
    have hat257 : cl257.slots[((1 : Int32)).toNatClampNeg]? = some (.int w1) := Has.at H257 hin257 rfl
    have pre258 : ∀ t, Steps p.tables e below (T252.setTop (mkF m 23 #[.val (.ref a0), .val (.ref a1), .val (.int (2 : Int32)), .val (.int (1 : Int32)), .val (.int w1)] [(.int (1 : Int32)), (.int w1)])) t → Steps p.tables e below (s₁.setTop (entryFrame m #[(.ref a0)] 5)) t := fun t k => by
      refine pre255 t ?_
      show Steps p.tables e below (T252.setTop (mkF m 23 #[.val (.ref a0), .val (.ref a1), .val (.int (2 : Int32)), .val (.int (0 : Int32)), .val (.int w0)] [(.int (1 : Int32)), (.int w0)])) _
      refine XS.icmpYes X252.here hx rfl (pc0 := 23) (pc' := 28) rfl (hb hby d4_23) rfl (flt c256).2.2.2 (by decide) (by decide) ?_
      show Steps p.tables e below (T252.setTop (mkF m 28 #[.val (.ref a0), .val (.ref a1), .val (.int (2 : Int32)), .val (.int (0 : Int32)), .val (.int w0)] [])) _
      refine XS.iinc X252.here hx rfl (hb hby d4_28) rfl (l' := #[.val (.ref a0), .val (.ref a1), .val (.int (2 : Int32)), .val (.int (1 : Int32)), .val (.int w0)]) rfl ?_
      show Steps p.tables e below (T252.setTop (mkF m 31 #[.val (.ref a0), .val (.ref a1), .val (.int (2 : Int32)), .val (.int (1 : Int32)), .val (.int w0)] [])) _
      refine XS.goto X252.here hx rfl (pc0 := 31) (pc' := 10) rfl (hb hby d4_31) (by decide) (by decide) ?_
      show Steps p.tables e below (T252.setTop (mkF m 10 #[.val (.ref a0), .val (.ref a1), .val (.int (2 : Int32)), .val (.int (1 : Int32)), .val (.int w0)] [])) _
      refine XS.iloadN X252.here hx rfl (hb hby d4_10) rfl ?_
      show Steps p.tables e below (T252.setTop (mkF m 11 #[.val (.ref a0), .val (.ref a1), .val (.int (2 : Int32)), .val (.int (1 : Int32)), .val (.int w0)] [(.int (1 : Int32))])) _
      refine XS.iloadN X252.here hx rfl (hb hby d4_11) rfl ?_
      show Steps p.tables e below (T252.setTop (mkF m 12 #[.val (.ref a0), .val (.ref a1), .val (.int (2 : Int32)), .val (.int (1 : Int32)), .val (.int w0)] [(.int (2 : Int32)), (.int (1 : Int32))])) _
      refine XS.icmpNo X252.here hx rfl (hb hby d4_12) rfl (tlt (by decide)).2.1 ?_
      show Steps p.tables e below (T252.setTop (mkF m 15 #[.val (.ref a0), .val (.ref a1), .val (.int (2 : Int32)), .val (.int (1 : Int32)), .val (.int w0)] [])) _
      refine XS.aloadN X252.here hx rfl (hb hby d4_15) rfl rfl ?_
      show Steps p.tables e below (T252.setTop (mkF m 16 #[.val (.ref a0), .val (.ref a1), .val (.int (2 : Int32)), .val (.int (1 : Int32)), .val (.int w0)] [(.ref a1)])) _
      refine XS.iloadN X252.here hx rfl (hb hby d4_16) rfl ?_
      show Steps p.tables e below (T252.setTop (mkF m 17 #[.val (.ref a0), .val (.ref a1), .val (.int (2 : Int32)), .val (.int (1 : Int32)), .val (.int w0)] [(.int (1 : Int32)), (.ref a1)])) _
      refine X252.iaload hx (j := (1 : Int32)) (v := (.int w1)) (by rw [e252]; exact Ar257.1) (State.isArrayOf_alike hZ.alike Ar257.2.1) Ar257.2.2 hin257 hat257 (g := (mkF m 17 #[.val (.ref a0), .val (.ref a1), .val (.int (2 : Int32)), .val (.int (1 : Int32)), .val (.int w0)] [(.int (1 : Int32)), (.ref a1)])) rfl rfl (hb hby d4_17) _ ?_
      show Steps p.tables e below (T252.setTop (mkF m 18 #[.val (.ref a0), .val (.ref a1), .val (.int (2 : Int32)), .val (.int (1 : Int32)), .val (.int w0)] [(.int w1)])) _
      refine XS.istore X252.here hx rfl (hb hby d4_18) rfl (l' := #[.val (.ref a0), .val (.ref a1), .val (.int (2 : Int32)), .val (.int (1 : Int32)), .val (.int w1)]) rfl ?_
      show Steps p.tables e below (T252.setTop (mkF m 20 #[.val (.ref a0), .val (.ref a1), .val (.int (2 : Int32)), .val (.int (1 : Int32)), .val (.int w1)] [])) _
      refine XS.iload X252.here hx rfl (hb hby d4_20) rfl ?_
      show Steps p.tables e below (T252.setTop (mkF m 22 #[.val (.ref a0), .val (.ref a1), .val (.int (2 : Int32)), .val (.int (1 : Int32)), .val (.int w1)] [(.int w1)])) _
      refine XS.iconst X252.here hx rfl (hb hby d4_22) ?_
      exact k
    by_cases c259 : (1 : Int32) < w1
    ·
      obtain ⟨fs, hr, hrun, hended, hW, hsame⟩ := X252.leave (v := some (.int (0 : Int32))) (fun h => by rw [Bd.returns] at h; cases h)
      refine ⟨_, _, pre258 _ ?_, hrun, hended, _, _, rfl, ?_, ⟨_, rfl⟩, hW, hsame.mono (by decide) (by decide)⟩
      ·
        show Steps p.tables e below (T252.setTop (mkF m 23 #[.val (.ref a0), .val (.ref a1), .val (.int (2 : Int32)), .val (.int (1 : Int32)), .val (.int w1)] [(.int (1 : Int32)), (.int w1)])) _
        refine XS.icmpNo X252.here hx rfl (hb hby d4_23) rfl (tlt c259).2.2.2 ?_
        show Steps p.tables e below (T252.setTop (mkF m 26 #[.val (.ref a0), .val (.ref a1), .val (.int (2 : Int32)), .val (.int (1 : Int32)), .val (.int w1)] [])) _
        refine XS.iconst X252.here hx rfl (hb hby d4_26) ?_
        show Steps p.tables e below (T252.setTop (mkF m 27 #[.val (.ref a0), .val (.ref a1), .val (.int (2 : Int32)), .val (.int (1 : Int32)), .val (.int w1)] [(.int (0 : Int32))])) _
        exact retZ X252 hx Bd.returns (by decide) (hb hby d4_27) hr
      ·
        show Q_sf2 Z a0 a1 k1 w0 w1 h0 n0 _ T252.heap _
        rw [e252]
        exact ⟨(by simp only [if_neg c256, if_pos c259]), N0, rfl⟩
    ·
      obtain ⟨fs, hr, hrun, hended, hW, hsame⟩ := X252.leave (v := some (.int (1 : Int32))) (fun h => by rw [Bd.returns] at h; cases h)
      refine ⟨_, _, pre258 _ ?_, hrun, hended, _, _, rfl, ?_, ⟨_, rfl⟩, hW, hsame.mono (by decide) (by decide)⟩
      ·
        show Steps p.tables e below (T252.setTop (mkF m 23 #[.val (.ref a0), .val (.ref a1), .val (.int (2 : Int32)), .val (.int (1 : Int32)), .val (.int w1)] [(.int (1 : Int32)), (.int w1)])) _
        refine XS.icmpYes X252.here hx rfl (pc0 := 23) (pc' := 28) rfl (hb hby d4_23) rfl (flt c259).2.2.2 (by decide) (by decide) ?_
        show Steps p.tables e below (T252.setTop (mkF m 28 #[.val (.ref a0), .val (.ref a1), .val (.int (2 : Int32)), .val (.int (1 : Int32)), .val (.int w1)] [])) _
        refine XS.iinc X252.here hx rfl (hb hby d4_28) rfl (l' := #[.val (.ref a0), .val (.ref a1), .val (.int (2 : Int32)), .val (.int (2 : Int32)), .val (.int w1)]) rfl ?_
        show Steps p.tables e below (T252.setTop (mkF m 31 #[.val (.ref a0), .val (.ref a1), .val (.int (2 : Int32)), .val (.int (2 : Int32)), .val (.int w1)] [])) _
        refine XS.goto X252.here hx rfl (pc0 := 31) (pc' := 10) rfl (hb hby d4_31) (by decide) (by decide) ?_
        show Steps p.tables e below (T252.setTop (mkF m 10 #[.val (.ref a0), .val (.ref a1), .val (.int (2 : Int32)), .val (.int (2 : Int32)), .val (.int w1)] [])) _
        refine XS.iloadN X252.here hx rfl (hb hby d4_10) rfl ?_
        show Steps p.tables e below (T252.setTop (mkF m 11 #[.val (.ref a0), .val (.ref a1), .val (.int (2 : Int32)), .val (.int (2 : Int32)), .val (.int w1)] [(.int (2 : Int32))])) _
        refine XS.iloadN X252.here hx rfl (hb hby d4_11) rfl ?_
        show Steps p.tables e below (T252.setTop (mkF m 12 #[.val (.ref a0), .val (.ref a1), .val (.int (2 : Int32)), .val (.int (2 : Int32)), .val (.int w1)] [(.int (2 : Int32)), (.int (2 : Int32))])) _
        refine XS.icmpYes X252.here hx rfl (pc0 := 12) (pc' := 34) rfl (hb hby d4_12) rfl (flt (by decide)).2.1 (by decide) (by decide) ?_
        show Steps p.tables e below (T252.setTop (mkF m 34 #[.val (.ref a0), .val (.ref a1), .val (.int (2 : Int32)), .val (.int (2 : Int32)), .val (.int w1)] [])) _
        refine XS.iconst X252.here hx rfl (hb hby d4_34) ?_
        show Steps p.tables e below (T252.setTop (mkF m 35 #[.val (.ref a0), .val (.ref a1), .val (.int (2 : Int32)), .val (.int (2 : Int32)), .val (.int w1)] [(.int (1 : Int32))])) _
        exact retZ X252 hx Bd.returns (by decide) (hb hby d4_35) hr
      ·
        show Q_sf2 Z a0 a1 k1 w0 w1 h0 n0 _ T252.heap _
        rw [e252]
        exact ⟨(by simp only [if_neg c256, if_neg c259]), N0, rfl⟩
theorem ef_sf3 (m : MethodId) (a0 : Addr) : entryFrame m #[(.ref a0)] 5 = mkF m 0 #[.val (.ref a0), .unset, .unset, .unset, .unset] [] := by first | (simp [entryFrame, mkF, argsToLocals, Value.category]; done) | rfl
def Q_sf3 (Z : State) (a0 : Addr) (a1 : Addr) (k1 : ClassId) (w0 : Int32) (w1 : Int32) (w2 : Int32) (h0 : Heap) (n0 : Nat) (v : Option Value) (h : Heap) (L : List Loc) : Prop := v = some (.int (if (1 : Int32) < w0 then (0 : Int32) else (if (1 : Int32) < w1 then (0 : Int32) else (if (1 : Int32) < w2 then (0 : Int32) else (1 : Int32))))) ∧ Fr n0 L ∧ h = h0
set_option maxRecDepth 65536 in
set_option maxHeartbeats 40000000 in
theorem sf3 (l : Launch) (Z : State) (aw : Array Value) (hw : ∀ d ∈ tables_1, d.before aw Z = true) (ws : List Jvm.Cond) (a0 : Addr) (a1 : Addr) (k1 : ClassId) (w0 : Int32) (w1 : Int32) (w2 : Int32) (h0 : Heap) (n0 : Nat) (Z0 : n0 ≤ h0.size) (F_a0_tokens : Fld Z h0 a0 "com/example/enact/enact/net/Marking" "tokens" "[I" (.ref a1)) (V_a1 : Arv Z h0 a1 k1 .int (3 : Int32) [(.int w0), (.int w1), (.int w2)] (.int (0 : Int32))) :
    MetFree l (⟨"com/example/enact/enact/net/Marking", "isSafe", "()Z"⟩ : MethodName) (head1 (Jvm.Cond.code (⟨"com/example/enact/enact/net/Marking", "isSafe", "()Z"⟩ : MethodName) prog_29_method_7_code 5 (some .boolean) :: ws) ({ frames := 0, cells := 0, slots := 0, locals := 0 } : Room)) (fun a U => a = #[(.ref a0)] ∧ Z.Warmed39 U.vm ∧ U.heap = h0) (fun _ _ _ _ _ => True) (fun _ U o U' => ∃ v L, o = .returned v ∧ Q_sf3 Z a0 a1 k1 w0 w1 w2 h0 n0 v U'.heap L ∧ FrameEnd U o U' L ({ frames := 0, cells := 0, slots := 0, locals := 0 } : Room).cells ({ frames := 0, cells := 0, slots := 0, locals := 0 } : Room).slots) := by
  refine MetFree.of_bodySF (plainFor_of_name pn_1) hisR ?_
  intro p e s m args below meth c s₁ Bd hml0 hP hK
  obtain ⟨rfl, hZ, hh⟩ := hP
  have hx := Bd.exec
  have hby := Bd.bytes
  have hml : c.maxLocals = 5 := hml0
  have hown : s.vm.findClass "com/example/enact/enact/net/Marking" = some m.cls := findClass_of_methodNamed Bd.named
  have hnm := (name_of_methodNamed Bd.named Bd.method).1
  have X0 : Stand p l e ({ frames := 0, cells := 0, slots := 0, locals := 0 } : Room) s m #[(.ref a0)] below meth c s₁ [] 0 0 := Stand.of_body Bd
  have e0 : s₁.heap = h0 := by rw [← hh, Bd.state]; rfl
  have N0 := Fr.nil n0
  have pre0 : ∀ t, Steps p.tables e below (s₁.setTop (mkF m 0 #[.val (.ref a0), .unset, .unset, .unset, .unset] [])) t → Steps p.tables e below (s₁.setTop (entryFrame m #[(.ref a0)] 5)) t := fun t k => castTop (ef_sf3 m a0) k
  obtain ⟨T260, X260, e260, st260⟩ := getF X0 hx hZ hown (host := "") (Or.inl (hw _ (List.mem_of_getElem? (i := 11) rfl))) Via.refl e0 F_a0_tokens (g := (mkF m 1 #[.val (.ref a0), .unset, .unset, .unset, .unset] [(.ref a0)])) rfl rfl (hb hby d4_1)
  obtain ⟨cl261, Ar261, q261, S261, N261, H261, G261⟩ := id V_a1
  obtain ⟨cl262, Ar262, q262, S262, N262, H262, G262⟩ := id V_a1
  have hin262 : ¬ ((0 : Int32) < 0 ∨ cl262.slots.size ≤ ((0 : Int32)).toNatClampNeg) := inb_of S262 ⟨by decide, by decide⟩
  have hat262 : cl262.slots[((0 : Int32)).toNatClampNeg]? = some (.int w0) := Has.at H262 hin262 rfl
  have pre263 : ∀ t, Steps p.tables e below (T260.setTop (mkF m 23 #[.val (.ref a0), .val (.ref a1), .val (.int (3 : Int32)), .val (.int (0 : Int32)), .val (.int w0)] [(.int (1 : Int32)), (.int w0)])) t → Steps p.tables e below (s₁.setTop (entryFrame m #[(.ref a0)] 5)) t := fun t k => by
    refine pre0 t ?_
    show Steps p.tables e below (s₁.setTop (mkF m 0 #[.val (.ref a0), .unset, .unset, .unset, .unset] [])) _
    refine XS.aloadN X0.here hx rfl (hb hby d4_0) rfl rfl ?_
    show Steps p.tables e below (s₁.setTop (mkF m 1 #[.val (.ref a0), .unset, .unset, .unset, .unset] [(.ref a0)])) _
    refine st260 _ ?_
    show Steps p.tables e below (T260.setTop (mkF m 4 #[.val (.ref a0), .unset, .unset, .unset, .unset] [(.ref a1)])) _
    refine XS.astoreN X260.here hx rfl (hb hby d4_4) rfl rfl (l' := #[.val (.ref a0), .val (.ref a1), .unset, .unset, .unset]) rfl ?_
    show Steps p.tables e below (T260.setTop (mkF m 5 #[.val (.ref a0), .val (.ref a1), .unset, .unset, .unset] [])) _
    refine XS.aloadN X260.here hx rfl (hb hby d4_5) rfl rfl ?_
    show Steps p.tables e below (T260.setTop (mkF m 6 #[.val (.ref a0), .val (.ref a1), .unset, .unset, .unset] [(.ref a1)])) _
    refine X260.arraylength hx (by rw [e260]; exact Ar261.1) (State.isArrayOf_alike hZ.alike Ar261.2.1) (g := (mkF m 6 #[.val (.ref a0), .val (.ref a1), .unset, .unset, .unset] [(.ref a1)])) rfl rfl (hb hby d4_6) _ ?_
    rw [len_of S261 N261]
    show Steps p.tables e below (T260.setTop (mkF m 7 #[.val (.ref a0), .val (.ref a1), .unset, .unset, .unset] [(.int (3 : Int32))])) _
    refine XS.istoreN X260.here hx rfl (hb hby d4_7) rfl (l' := #[.val (.ref a0), .val (.ref a1), .val (.int (3 : Int32)), .unset, .unset]) rfl ?_
    show Steps p.tables e below (T260.setTop (mkF m 8 #[.val (.ref a0), .val (.ref a1), .val (.int (3 : Int32)), .unset, .unset] [])) _
    refine XS.iconst X260.here hx rfl (hb hby d4_8) ?_
    show Steps p.tables e below (T260.setTop (mkF m 9 #[.val (.ref a0), .val (.ref a1), .val (.int (3 : Int32)), .unset, .unset] [(.int (0 : Int32))])) _
    refine XS.istoreN X260.here hx rfl (hb hby d4_9) rfl (l' := #[.val (.ref a0), .val (.ref a1), .val (.int (3 : Int32)), .val (.int (0 : Int32)), .unset]) rfl ?_
    show Steps p.tables e below (T260.setTop (mkF m 10 #[.val (.ref a0), .val (.ref a1), .val (.int (3 : Int32)), .val (.int (0 : Int32)), .unset] [])) _
    refine XS.iloadN X260.here hx rfl (hb hby d4_10) rfl ?_
    show Steps p.tables e below (T260.setTop (mkF m 11 #[.val (.ref a0), .val (.ref a1), .val (.int (3 : Int32)), .val (.int (0 : Int32)), .unset] [(.int (0 : Int32))])) _
    refine XS.iloadN X260.here hx rfl (hb hby d4_11) rfl ?_
    show Steps p.tables e below (T260.setTop (mkF m 12 #[.val (.ref a0), .val (.ref a1), .val (.int (3 : Int32)), .val (.int (0 : Int32)), .unset] [(.int (3 : Int32)), (.int (0 : Int32))])) _
    refine XS.icmpNo X260.here hx rfl (hb hby d4_12) rfl (tlt (by decide)).2.1 ?_
    show Steps p.tables e below (T260.setTop (mkF m 15 #[.val (.ref a0), .val (.ref a1), .val (.int (3 : Int32)), .val (.int (0 : Int32)), .unset] [])) _
    refine XS.aloadN X260.here hx rfl (hb hby d4_15) rfl rfl ?_
    show Steps p.tables e below (T260.setTop (mkF m 16 #[.val (.ref a0), .val (.ref a1), .val (.int (3 : Int32)), .val (.int (0 : Int32)), .unset] [(.ref a1)])) _
    refine XS.iloadN X260.here hx rfl (hb hby d4_16) rfl ?_
    show Steps p.tables e below (T260.setTop (mkF m 17 #[.val (.ref a0), .val (.ref a1), .val (.int (3 : Int32)), .val (.int (0 : Int32)), .unset] [(.int (0 : Int32)), (.ref a1)])) _
    refine X260.iaload hx (j := (0 : Int32)) (v := (.int w0)) (by rw [e260]; exact Ar262.1) (State.isArrayOf_alike hZ.alike Ar262.2.1) Ar262.2.2 hin262 hat262 (g := (mkF m 17 #[.val (.ref a0), .val (.ref a1), .val (.int (3 : Int32)), .val (.int (0 : Int32)), .unset] [(.int (0 : Int32)), (.ref a1)])) rfl rfl (hb hby d4_17) _ ?_
    show Steps p.tables e below (T260.setTop (mkF m 18 #[.val (.ref a0), .val (.ref a1), .val (.int (3 : Int32)), .val (.int (0 : Int32)), .unset] [(.int w0)])) _
    refine XS.istore X260.here hx rfl (hb hby d4_18) rfl (l' := #[.val (.ref a0), .val (.ref a1), .val (.int (3 : Int32)), .val (.int (0 : Int32)), .val (.int w0)]) rfl ?_
    show Steps p.tables e below (T260.setTop (mkF m 20 #[.val (.ref a0), .val (.ref a1), .val (.int (3 : Int32)), .val (.int (0 : Int32)), .val (.int w0)] [])) _
    refine XS.iload X260.here hx rfl (hb hby d4_20) rfl ?_
    show Steps p.tables e below (T260.setTop (mkF m 22 #[.val (.ref a0), .val (.ref a1), .val (.int (3 : Int32)), .val (.int (0 : Int32)), .val (.int w0)] [(.int w0)])) _
    refine XS.iconst X260.here hx rfl (hb hby d4_22) ?_
    exact k
  by_cases c264 : (1 : Int32) < w0
  ·
    obtain ⟨fs, hr, hrun, hended, hW, hsame⟩ := X260.leave (v := some (.int (0 : Int32))) (fun h => by rw [Bd.returns] at h; cases h)
    refine ⟨_, _, pre263 _ ?_, hrun, hended, _, _, rfl, ?_, ⟨_, rfl⟩, hW, hsame.mono (by decide) (by decide)⟩
    ·
      show Steps p.tables e below (T260.setTop (mkF m 23 #[.val (.ref a0), .val (.ref a1), .val (.int (3 : Int32)), .val (.int (0 : Int32)), .val (.int w0)] [(.int (1 : Int32)), (.int w0)])) _
      refine XS.icmpNo X260.here hx rfl (hb hby d4_23) rfl (tlt c264).2.2.2 ?_
      show Steps p.tables e below (T260.setTop (mkF m 26 #[.val (.ref a0), .val (.ref a1), .val (.int (3 : Int32)), .val (.int (0 : Int32)), .val (.int w0)] [])) _
      refine XS.iconst X260.here hx rfl (hb hby d4_26) ?_
      show Steps p.tables e below (T260.setTop (mkF m 27 #[.val (.ref a0), .val (.ref a1), .val (.int (3 : Int32)), .val (.int (0 : Int32)), .val (.int w0)] [(.int (0 : Int32))])) _
      exact retZ X260 hx Bd.returns (by decide) (hb hby d4_27) hr
    ·
      show Q_sf3 Z a0 a1 k1 w0 w1 w2 h0 n0 _ T260.heap _
      rw [e260]
      exact ⟨(by simp only [if_pos c264]), N0, rfl⟩
  ·
    obtain ⟨cl265, Ar265, q265, S265, N265, H265, G265⟩ := id V_a1
    have hin265 : ¬ ((1 : Int32) < 0 ∨ cl265.slots.size ≤ ((1 : Int32)).toNatClampNeg) := inb_of S265 ⟨by decide, by decide⟩
    have hat265 : cl265.slots[((1 : Int32)).toNatClampNeg]? = some (.int w1) := Has.at H265 hin265 rfl
    have pre266 : ∀ t, Steps p.tables e below (T260.setTop (mkF m 23 #[.val (.ref a0), .val (.ref a1), .val (.int (3 : Int32)), .val (.int (1 : Int32)), .val (.int w1)] [(.int (1 : Int32)), (.int w1)])) t → Steps p.tables e below (s₁.setTop (entryFrame m #[(.ref a0)] 5)) t := fun t k => by
      refine pre263 t ?_
      show Steps p.tables e below (T260.setTop (mkF m 23 #[.val (.ref a0), .val (.ref a1), .val (.int (3 : Int32)), .val (.int (0 : Int32)), .val (.int w0)] [(.int (1 : Int32)), (.int w0)])) _
      refine XS.icmpYes X260.here hx rfl (pc0 := 23) (pc' := 28) rfl (hb hby d4_23) rfl (flt c264).2.2.2 (by decide) (by decide) ?_
      show Steps p.tables e below (T260.setTop (mkF m 28 #[.val (.ref a0), .val (.ref a1), .val (.int (3 : Int32)), .val (.int (0 : Int32)), .val (.int w0)] [])) _
      refine XS.iinc X260.here hx rfl (hb hby d4_28) rfl (l' := #[.val (.ref a0), .val (.ref a1), .val (.int (3 : Int32)), .val (.int (1 : Int32)), .val (.int w0)]) rfl ?_
      show Steps p.tables e below (T260.setTop (mkF m 31 #[.val (.ref a0), .val (.ref a1), .val (.int (3 : Int32)), .val (.int (1 : Int32)), .val (.int w0)] [])) _
      refine XS.goto X260.here hx rfl (pc0 := 31) (pc' := 10) rfl (hb hby d4_31) (by decide) (by decide) ?_
      show Steps p.tables e below (T260.setTop (mkF m 10 #[.val (.ref a0), .val (.ref a1), .val (.int (3 : Int32)), .val (.int (1 : Int32)), .val (.int w0)] [])) _
      refine XS.iloadN X260.here hx rfl (hb hby d4_10) rfl ?_
      show Steps p.tables e below (T260.setTop (mkF m 11 #[.val (.ref a0), .val (.ref a1), .val (.int (3 : Int32)), .val (.int (1 : Int32)), .val (.int w0)] [(.int (1 : Int32))])) _
      refine XS.iloadN X260.here hx rfl (hb hby d4_11) rfl ?_
      show Steps p.tables e below (T260.setTop (mkF m 12 #[.val (.ref a0), .val (.ref a1), .val (.int (3 : Int32)), .val (.int (1 : Int32)), .val (.int w0)] [(.int (3 : Int32)), (.int (1 : Int32))])) _
      refine XS.icmpNo X260.here hx rfl (hb hby d4_12) rfl (tlt (by decide)).2.1 ?_
      show Steps p.tables e below (T260.setTop (mkF m 15 #[.val (.ref a0), .val (.ref a1), .val (.int (3 : Int32)), .val (.int (1 : Int32)), .val (.int w0)] [])) _
      refine XS.aloadN X260.here hx rfl (hb hby d4_15) rfl rfl ?_
      show Steps p.tables e below (T260.setTop (mkF m 16 #[.val (.ref a0), .val (.ref a1), .val (.int (3 : Int32)), .val (.int (1 : Int32)), .val (.int w0)] [(.ref a1)])) _
      refine XS.iloadN X260.here hx rfl (hb hby d4_16) rfl ?_
      show Steps p.tables e below (T260.setTop (mkF m 17 #[.val (.ref a0), .val (.ref a1), .val (.int (3 : Int32)), .val (.int (1 : Int32)), .val (.int w0)] [(.int (1 : Int32)), (.ref a1)])) _
      refine X260.iaload hx (j := (1 : Int32)) (v := (.int w1)) (by rw [e260]; exact Ar265.1) (State.isArrayOf_alike hZ.alike Ar265.2.1) Ar265.2.2 hin265 hat265 (g := (mkF m 17 #[.val (.ref a0), .val (.ref a1), .val (.int (3 : Int32)), .val (.int (1 : Int32)), .val (.int w0)] [(.int (1 : Int32)), (.ref a1)])) rfl rfl (hb hby d4_17) _ ?_
      show Steps p.tables e below (T260.setTop (mkF m 18 #[.val (.ref a0), .val (.ref a1), .val (.int (3 : Int32)), .val (.int (1 : Int32)), .val (.int w0)] [(.int w1)])) _
      refine XS.istore X260.here hx rfl (hb hby d4_18) rfl (l' := #[.val (.ref a0), .val (.ref a1), .val (.int (3 : Int32)), .val (.int (1 : Int32)), .val (.int w1)]) rfl ?_
      show Steps p.tables e below (T260.setTop (mkF m 20 #[.val (.ref a0), .val (.ref a1), .val (.int (3 : Int32)), .val (.int (1 : Int32)), .val (.int w1)] [])) _
      refine XS.iload X260.here hx rfl (hb hby d4_20) rfl ?_
      show Steps p.tables e below (T260.setTop (mkF m 22 #[.val (.ref a0), .val (.ref a1), .val (.int (3 : Int32)), .val (.int (1 : Int32)), .val (.int w1)] [(.int w1)])) _
      refine XS.iconst X260.here hx rfl (hb hby d4_22) ?_
      exact k
    by_cases c267 : (1 : Int32) < w1
    ·
      obtain ⟨fs, hr, hrun, hended, hW, hsame⟩ := X260.leave (v := some (.int (0 : Int32))) (fun h => by rw [Bd.returns] at h; cases h)
      refine ⟨_, _, pre266 _ ?_, hrun, hended, _, _, rfl, ?_, ⟨_, rfl⟩, hW, hsame.mono (by decide) (by decide)⟩
      ·
        show Steps p.tables e below (T260.setTop (mkF m 23 #[.val (.ref a0), .val (.ref a1), .val (.int (3 : Int32)), .val (.int (1 : Int32)), .val (.int w1)] [(.int (1 : Int32)), (.int w1)])) _
        refine XS.icmpNo X260.here hx rfl (hb hby d4_23) rfl (tlt c267).2.2.2 ?_
        show Steps p.tables e below (T260.setTop (mkF m 26 #[.val (.ref a0), .val (.ref a1), .val (.int (3 : Int32)), .val (.int (1 : Int32)), .val (.int w1)] [])) _
        refine XS.iconst X260.here hx rfl (hb hby d4_26) ?_
        show Steps p.tables e below (T260.setTop (mkF m 27 #[.val (.ref a0), .val (.ref a1), .val (.int (3 : Int32)), .val (.int (1 : Int32)), .val (.int w1)] [(.int (0 : Int32))])) _
        exact retZ X260 hx Bd.returns (by decide) (hb hby d4_27) hr
      ·
        show Q_sf3 Z a0 a1 k1 w0 w1 w2 h0 n0 _ T260.heap _
        rw [e260]
        exact ⟨(by simp only [if_neg c264, if_pos c267]), N0, rfl⟩
    ·
      obtain ⟨cl268, Ar268, q268, S268, N268, H268, G268⟩ := id V_a1
      have hin268 : ¬ ((2 : Int32) < 0 ∨ cl268.slots.size ≤ ((2 : Int32)).toNatClampNeg) := inb_of S268 ⟨by decide, by decide⟩
      have hat268 : cl268.slots[((2 : Int32)).toNatClampNeg]? = some (.int w2) := Has.at H268 hin268 rfl
      have pre269 : ∀ t, Steps p.tables e below (T260.setTop (mkF m 23 #[.val (.ref a0), .val (.ref a1), .val (.int (3 : Int32)), .val (.int (2 : Int32)), .val (.int w2)] [(.int (1 : Int32)), (.int w2)])) t → Steps p.tables e below (s₁.setTop (entryFrame m #[(.ref a0)] 5)) t := fun t k => by
        refine pre266 t ?_
        show Steps p.tables e below (T260.setTop (mkF m 23 #[.val (.ref a0), .val (.ref a1), .val (.int (3 : Int32)), .val (.int (1 : Int32)), .val (.int w1)] [(.int (1 : Int32)), (.int w1)])) _
        refine XS.icmpYes X260.here hx rfl (pc0 := 23) (pc' := 28) rfl (hb hby d4_23) rfl (flt c267).2.2.2 (by decide) (by decide) ?_
        show Steps p.tables e below (T260.setTop (mkF m 28 #[.val (.ref a0), .val (.ref a1), .val (.int (3 : Int32)), .val (.int (1 : Int32)), .val (.int w1)] [])) _
        refine XS.iinc X260.here hx rfl (hb hby d4_28) rfl (l' := #[.val (.ref a0), .val (.ref a1), .val (.int (3 : Int32)), .val (.int (2 : Int32)), .val (.int w1)]) rfl ?_
        show Steps p.tables e below (T260.setTop (mkF m 31 #[.val (.ref a0), .val (.ref a1), .val (.int (3 : Int32)), .val (.int (2 : Int32)), .val (.int w1)] [])) _
        refine XS.goto X260.here hx rfl (pc0 := 31) (pc' := 10) rfl (hb hby d4_31) (by decide) (by decide) ?_
        show Steps p.tables e below (T260.setTop (mkF m 10 #[.val (.ref a0), .val (.ref a1), .val (.int (3 : Int32)), .val (.int (2 : Int32)), .val (.int w1)] [])) _
        refine XS.iloadN X260.here hx rfl (hb hby d4_10) rfl ?_
        show Steps p.tables e below (T260.setTop (mkF m 11 #[.val (.ref a0), .val (.ref a1), .val (.int (3 : Int32)), .val (.int (2 : Int32)), .val (.int w1)] [(.int (2 : Int32))])) _
        refine XS.iloadN X260.here hx rfl (hb hby d4_11) rfl ?_
        show Steps p.tables e below (T260.setTop (mkF m 12 #[.val (.ref a0), .val (.ref a1), .val (.int (3 : Int32)), .val (.int (2 : Int32)), .val (.int w1)] [(.int (3 : Int32)), (.int (2 : Int32))])) _
        refine XS.icmpNo X260.here hx rfl (hb hby d4_12) rfl (tlt (by decide)).2.1 ?_
        show Steps p.tables e below (T260.setTop (mkF m 15 #[.val (.ref a0), .val (.ref a1), .val (.int (3 : Int32)), .val (.int (2 : Int32)), .val (.int w1)] [])) _
        refine XS.aloadN X260.here hx rfl (hb hby d4_15) rfl rfl ?_
        show Steps p.tables e below (T260.setTop (mkF m 16 #[.val (.ref a0), .val (.ref a1), .val (.int (3 : Int32)), .val (.int (2 : Int32)), .val (.int w1)] [(.ref a1)])) _
        refine XS.iloadN X260.here hx rfl (hb hby d4_16) rfl ?_
        show Steps p.tables e below (T260.setTop (mkF m 17 #[.val (.ref a0), .val (.ref a1), .val (.int (3 : Int32)), .val (.int (2 : Int32)), .val (.int w1)] [(.int (2 : Int32)), (.ref a1)])) _
        refine X260.iaload hx (j := (2 : Int32)) (v := (.int w2)) (by rw [e260]; exact Ar268.1) (State.isArrayOf_alike hZ.alike Ar268.2.1) Ar268.2.2 hin268 hat268 (g := (mkF m 17 #[.val (.ref a0), .val (.ref a1), .val (.int (3 : Int32)), .val (.int (2 : Int32)), .val (.int w1)] [(.int (2 : Int32)), (.ref a1)])) rfl rfl (hb hby d4_17) _ ?_
        show Steps p.tables e below (T260.setTop (mkF m 18 #[.val (.ref a0), .val (.ref a1), .val (.int (3 : Int32)), .val (.int (2 : Int32)), .val (.int w1)] [(.int w2)])) _
        refine XS.istore X260.here hx rfl (hb hby d4_18) rfl (l' := #[.val (.ref a0), .val (.ref a1), .val (.int (3 : Int32)), .val (.int (2 : Int32)), .val (.int w2)]) rfl ?_
        show Steps p.tables e below (T260.setTop (mkF m 20 #[.val (.ref a0), .val (.ref a1), .val (.int (3 : Int32)), .val (.int (2 : Int32)), .val (.int w2)] [])) _
        refine XS.iload X260.here hx rfl (hb hby d4_20) rfl ?_
        show Steps p.tables e below (T260.setTop (mkF m 22 #[.val (.ref a0), .val (.ref a1), .val (.int (3 : Int32)), .val (.int (2 : Int32)), .val (.int w2)] [(.int w2)])) _
        refine XS.iconst X260.here hx rfl (hb hby d4_22) ?_
        exact k
      by_cases c270 : (1 : Int32) < w2
      ·
        obtain ⟨fs, hr, hrun, hended, hW, hsame⟩ := X260.leave (v := some (.int (0 : Int32))) (fun h => by rw [Bd.returns] at h; cases h)
        refine ⟨_, _, pre269 _ ?_, hrun, hended, _, _, rfl, ?_, ⟨_, rfl⟩, hW, hsame.mono (by decide) (by decide)⟩
        ·
          show Steps p.tables e below (T260.setTop (mkF m 23 #[.val (.ref a0), .val (.ref a1), .val (.int (3 : Int32)), .val (.int (2 : Int32)), .val (.int w2)] [(.int (1 : Int32)), (.int w2)])) _
          refine XS.icmpNo X260.here hx rfl (hb hby d4_23) rfl (tlt c270).2.2.2 ?_
          show Steps p.tables e below (T260.setTop (mkF m 26 #[.val (.ref a0), .val (.ref a1), .val (.int (3 : Int32)), .val (.int (2 : Int32)), .val (.int w2)] [])) _
          refine XS.iconst X260.here hx rfl (hb hby d4_26) ?_
          show Steps p.tables e below (T260.setTop (mkF m 27 #[.val (.ref a0), .val (.ref a1), .val (.int (3 : Int32)), .val (.int (2 : Int32)), .val (.int w2)] [(.int (0 : Int32))])) _
          exact retZ X260 hx Bd.returns (by decide) (hb hby d4_27) hr
        ·
          show Q_sf3 Z a0 a1 k1 w0 w1 w2 h0 n0 _ T260.heap _
          rw [e260]
          exact ⟨(by simp only [if_neg c264, if_neg c267, if_pos c270]), N0, rfl⟩
      ·
        obtain ⟨fs, hr, hrun, hended, hW, hsame⟩ := X260.leave (v := some (.int (1 : Int32))) (fun h => by rw [Bd.returns] at h; cases h)
        refine ⟨_, _, pre269 _ ?_, hrun, hended, _, _, rfl, ?_, ⟨_, rfl⟩, hW, hsame.mono (by decide) (by decide)⟩
        ·
          show Steps p.tables e below (T260.setTop (mkF m 23 #[.val (.ref a0), .val (.ref a1), .val (.int (3 : Int32)), .val (.int (2 : Int32)), .val (.int w2)] [(.int (1 : Int32)), (.int w2)])) _
          refine XS.icmpYes X260.here hx rfl (pc0 := 23) (pc' := 28) rfl (hb hby d4_23) rfl (flt c270).2.2.2 (by decide) (by decide) ?_
          show Steps p.tables e below (T260.setTop (mkF m 28 #[.val (.ref a0), .val (.ref a1), .val (.int (3 : Int32)), .val (.int (2 : Int32)), .val (.int w2)] [])) _
          refine XS.iinc X260.here hx rfl (hb hby d4_28) rfl (l' := #[.val (.ref a0), .val (.ref a1), .val (.int (3 : Int32)), .val (.int (3 : Int32)), .val (.int w2)]) rfl ?_
          show Steps p.tables e below (T260.setTop (mkF m 31 #[.val (.ref a0), .val (.ref a1), .val (.int (3 : Int32)), .val (.int (3 : Int32)), .val (.int w2)] [])) _
          refine XS.goto X260.here hx rfl (pc0 := 31) (pc' := 10) rfl (hb hby d4_31) (by decide) (by decide) ?_
          show Steps p.tables e below (T260.setTop (mkF m 10 #[.val (.ref a0), .val (.ref a1), .val (.int (3 : Int32)), .val (.int (3 : Int32)), .val (.int w2)] [])) _
          refine XS.iloadN X260.here hx rfl (hb hby d4_10) rfl ?_
          show Steps p.tables e below (T260.setTop (mkF m 11 #[.val (.ref a0), .val (.ref a1), .val (.int (3 : Int32)), .val (.int (3 : Int32)), .val (.int w2)] [(.int (3 : Int32))])) _
          refine XS.iloadN X260.here hx rfl (hb hby d4_11) rfl ?_
          show Steps p.tables e below (T260.setTop (mkF m 12 #[.val (.ref a0), .val (.ref a1), .val (.int (3 : Int32)), .val (.int (3 : Int32)), .val (.int w2)] [(.int (3 : Int32)), (.int (3 : Int32))])) _
          refine XS.icmpYes X260.here hx rfl (pc0 := 12) (pc' := 34) rfl (hb hby d4_12) rfl (flt (by decide)).2.1 (by decide) (by decide) ?_
          show Steps p.tables e below (T260.setTop (mkF m 34 #[.val (.ref a0), .val (.ref a1), .val (.int (3 : Int32)), .val (.int (3 : Int32)), .val (.int w2)] [])) _
          refine XS.iconst X260.here hx rfl (hb hby d4_34) ?_
          show Steps p.tables e below (T260.setTop (mkF m 35 #[.val (.ref a0), .val (.ref a1), .val (.int (3 : Int32)), .val (.int (3 : Int32)), .val (.int w2)] [(.int (1 : Int32))])) _
          exact retZ X260 hx Bd.returns (by decide) (hb hby d4_35) hr
        ·
          show Q_sf3 Z a0 a1 k1 w0 w1 w2 h0 n0 _ T260.heap _
          rw [e260]
          exact ⟨(by simp only [if_neg c264, if_neg c267, if_neg c270]), N0, rfl⟩
theorem pd_3 : parseMethodDescriptor "([I)V" = some ⟨[(.array .int)], none⟩ := by decide +kernel
theorem pd_4 : parseMethodDescriptor "()Z" = some ⟨[], some .boolean⟩ := by decide +kernel
theorem pn_3 : plainName "com/example/enact/enact/net/MarkingIsSafePinLaw" = true := by first | (simp [plainName, overriddenIn]; done) | decide +kernel
theorem ef_rm0 (m : MethodId) (p0 : Int32) (p1 : Int32) (p2 : Int32) (p3 : Int32) : entryFrame m #[(.int p0), (.int p1), (.int p2), (.int p3)] maxLocals = mkF m 0 #[.val (.int p0), .val (.int p1), .val (.int p2), .val (.int p3), .unset, .unset, .unset, .unset, .unset, .unset, .unset] [] := by first | (simp [entryFrame, mkF, argsToLocals, Value.category, maxLocals]; done) | rfl
def Q_rm0 (Z : State) (p0 : Int32) (p1 : Int32) (p2 : Int32) (p3 : Int32) (h0 : Heap) (n0 : Nat) (v : Option Value) (h : Heap) (L : List Loc) : Prop := v = some (.int (1 : Int32)) ∧ Fr n0 L
set_option maxRecDepth 65536 in
set_option maxHeartbeats 40000000 in
theorem rm0 (l : Launch) (Z : State) (aw : Array Value) (hw : ∀ d ∈ tables_1, d.before aw Z = true) (ws : List Jvm.Cond) (p0 : Int32) (p1 : Int32) (p2 : Int32) (p3 : Int32) (h0 : Heap) (n0 : Nat) (Z0 : n0 ≤ h0.size) :
    MetFree l x (head1 (Jvm.Cond.code x code maxLocals ret :: ws) room_1) (fun a U => a = #[(.int p0), (.int p1), (.int p2), (.int p3)] ∧ Z.Warmed39 U.vm ∧ U.heap = h0) (fun _ _ _ _ _ => True) (fun _ U o U' => ∃ v L, o = .returned v ∧ Q_rm0 Z p0 p1 p2 p3 h0 n0 v U'.heap L ∧ FrameEnd U o U' L room_1.cells room_1.slots) := by
  refine MetFree.of_bodySF (plainFor_of_name pn_3) hisR ?_
  intro p e s m args below meth c s₁ Bd hml0 hP hK
  obtain ⟨rfl, hZ, hh⟩ := hP
  have hx := Bd.exec
  have hby := Bd.bytes
  have hml : c.maxLocals = 11 := hml0
  have hown : s.vm.findClass "com/example/enact/enact/net/MarkingIsSafePinLaw" = some m.cls := findClass_of_methodNamed Bd.named
  have hnm := (name_of_methodNamed Bd.named Bd.method).1
  have X0 : Stand p l e room_1 s m #[(.int p0), (.int p1), (.int p2), (.int p3)] below meth c s₁ [] 0 0 := Stand.of_body Bd
  have e0 : s₁.heap = h0 := by rw [← hh, Bd.state]; rfl
  have N0 := Fr.nil n0
  have pre0 : ∀ t, Steps p.tables e below (s₁.setTop (mkF m 0 #[.val (.int p0), .val (.int p1), .val (.int p2), .val (.int p3), .unset, .unset, .unset, .unset, .unset, .unset, .unset] [])) t → Steps p.tables e below (s₁.setTop (entryFrame m #[(.int p0), (.int p1), (.int p2), (.int p3)] maxLocals)) t := fun t k => castTop (ef_rm0 m p0 p1 p2 p3) k
  obtain ⟨x271, hx271⟩ : ∃ z : Int32, z = (p0 &&& (3 : Int32)) := ⟨_, rfl⟩
  have pre272 : ∀ t, Steps p.tables e below (s₁.setTop (mkF m 5 #[.val (.int p0), .val (.int p1), .val (.int p2), .val (.int p3), .val (.int x271), .unset, .unset, .unset, .unset, .unset, .unset] [])) t → Steps p.tables e below (s₁.setTop (entryFrame m #[(.int p0), (.int p1), (.int p2), (.int p3)] maxLocals)) t := fun t k => by
    refine pre0 t ?_
    show Steps p.tables e below (s₁.setTop (mkF m 0 #[.val (.int p0), .val (.int p1), .val (.int p2), .val (.int p3), .unset, .unset, .unset, .unset, .unset, .unset, .unset] [])) _
    refine XS.iloadN X0.here hx rfl (hb hby at_0) rfl ?_
    show Steps p.tables e below (s₁.setTop (mkF m 1 #[.val (.int p0), .val (.int p1), .val (.int p2), .val (.int p3), .unset, .unset, .unset, .unset, .unset, .unset, .unset] [(.int p0)])) _
    refine XS.iconst X0.here hx rfl (hb hby at_1) ?_
    show Steps p.tables e below (s₁.setTop (mkF m 2 #[.val (.int p0), .val (.int p1), .val (.int p2), .val (.int p3), .unset, .unset, .unset, .unset, .unset, .unset, .unset] [(.int (3 : Int32)), (.int p0)])) _
    refine XS.iand X0.here hx rfl (hb hby at_2) rfl ?_
    show Steps p.tables e below (s₁.setTop (mkF m 3 #[.val (.int p0), .val (.int p1), .val (.int p2), .val (.int p3), .unset, .unset, .unset, .unset, .unset, .unset, .unset] [(.int (p0 &&& (3 : Int32)))])) _
    refine XS.istore X0.here hx rfl (hb hby at_3) rfl (l' := #[.val (.int p0), .val (.int p1), .val (.int p2), .val (.int p3), .val (.int (p0 &&& (3 : Int32))), .unset, .unset, .unset, .unset, .unset, .unset]) rfl ?_
    subst hx271
    exact k
  rcases own_and3 p0 with q | q | q | q
  ·
    obtain rfl : x271 = (0 : Int32) := hx271.trans q
    obtain ⟨x273, hx273⟩ : ∃ z : Int32, z = (p1 &&& (2147483647 : Int32)) := ⟨_, rfl⟩
    have pre274 : ∀ t, Steps p.tables e below (s₁.setTop (mkF m 11 #[.val (.int p0), .val (.int p1), .val (.int p2), .val (.int p3), .val (.int (0 : Int32)), .val (.int x273), .unset, .unset, .unset, .unset, .unset] [])) t → Steps p.tables e below (s₁.setTop (entryFrame m #[(.int p0), (.int p1), (.int p2), (.int p3)] maxLocals)) t := fun t k => by
      refine pre272 t ?_
      show Steps p.tables e below (s₁.setTop (mkF m 5 #[.val (.int p0), .val (.int p1), .val (.int p2), .val (.int p3), .val (.int (0 : Int32)), .unset, .unset, .unset, .unset, .unset, .unset] [])) _
      refine XS.iloadN X0.here hx rfl (hb hby at_5) rfl ?_
      show Steps p.tables e below (s₁.setTop (mkF m 6 #[.val (.int p0), .val (.int p1), .val (.int p2), .val (.int p3), .val (.int (0 : Int32)), .unset, .unset, .unset, .unset, .unset, .unset] [(.int p1)])) _
      refine X0.ldcInt hx hown (mvT hZ (hw _ (List.mem_of_getElem? (i := 0) rfl))) (g := (mkF m 6 #[.val (.int p0), .val (.int p1), .val (.int p2), .val (.int p3), .val (.int (0 : Int32)), .unset, .unset, .unset, .unset, .unset, .unset] [(.int p1)])) rfl (hb hby at_6) _ ?_
      show Steps p.tables e below (s₁.setTop (mkF m 8 #[.val (.int p0), .val (.int p1), .val (.int p2), .val (.int p3), .val (.int (0 : Int32)), .unset, .unset, .unset, .unset, .unset, .unset] [(.int (2147483647 : Int32)), (.int p1)])) _
      refine XS.iand X0.here hx rfl (hb hby at_8) rfl ?_
      show Steps p.tables e below (s₁.setTop (mkF m 9 #[.val (.int p0), .val (.int p1), .val (.int p2), .val (.int p3), .val (.int (0 : Int32)), .unset, .unset, .unset, .unset, .unset, .unset] [(.int (p1 &&& (2147483647 : Int32)))])) _
      refine XS.istore X0.here hx rfl (hb hby at_9) rfl (l' := #[.val (.int p0), .val (.int p1), .val (.int p2), .val (.int p3), .val (.int (0 : Int32)), .val (.int (p1 &&& (2147483647 : Int32))), .unset, .unset, .unset, .unset, .unset]) rfl ?_
      subst hx273
      exact k
    obtain ⟨x275, hx275⟩ : ∃ z : Int32, z = (p2 &&& (2147483647 : Int32)) := ⟨_, rfl⟩
    have pre276 : ∀ t, Steps p.tables e below (s₁.setTop (mkF m 17 #[.val (.int p0), .val (.int p1), .val (.int p2), .val (.int p3), .val (.int (0 : Int32)), .val (.int x273), .val (.int x275), .unset, .unset, .unset, .unset] [])) t → Steps p.tables e below (s₁.setTop (entryFrame m #[(.int p0), (.int p1), (.int p2), (.int p3)] maxLocals)) t := fun t k => by
      refine pre274 t ?_
      show Steps p.tables e below (s₁.setTop (mkF m 11 #[.val (.int p0), .val (.int p1), .val (.int p2), .val (.int p3), .val (.int (0 : Int32)), .val (.int x273), .unset, .unset, .unset, .unset, .unset] [])) _
      refine XS.iloadN X0.here hx rfl (hb hby at_11) rfl ?_
      show Steps p.tables e below (s₁.setTop (mkF m 12 #[.val (.int p0), .val (.int p1), .val (.int p2), .val (.int p3), .val (.int (0 : Int32)), .val (.int x273), .unset, .unset, .unset, .unset, .unset] [(.int p2)])) _
      refine X0.ldcInt hx hown (mvT hZ (hw _ (List.mem_of_getElem? (i := 0) rfl))) (g := (mkF m 12 #[.val (.int p0), .val (.int p1), .val (.int p2), .val (.int p3), .val (.int (0 : Int32)), .val (.int x273), .unset, .unset, .unset, .unset, .unset] [(.int p2)])) rfl (hb hby at_12) _ ?_
      show Steps p.tables e below (s₁.setTop (mkF m 14 #[.val (.int p0), .val (.int p1), .val (.int p2), .val (.int p3), .val (.int (0 : Int32)), .val (.int x273), .unset, .unset, .unset, .unset, .unset] [(.int (2147483647 : Int32)), (.int p2)])) _
      refine XS.iand X0.here hx rfl (hb hby at_14) rfl ?_
      show Steps p.tables e below (s₁.setTop (mkF m 15 #[.val (.int p0), .val (.int p1), .val (.int p2), .val (.int p3), .val (.int (0 : Int32)), .val (.int x273), .unset, .unset, .unset, .unset, .unset] [(.int (p2 &&& (2147483647 : Int32)))])) _
      refine XS.istore X0.here hx rfl (hb hby at_15) rfl (l' := #[.val (.int p0), .val (.int p1), .val (.int p2), .val (.int p3), .val (.int (0 : Int32)), .val (.int x273), .val (.int (p2 &&& (2147483647 : Int32))), .unset, .unset, .unset, .unset]) rfl ?_
      subst hx275
      exact k
    obtain ⟨x277, hx277⟩ : ∃ z : Int32, z = (p3 &&& (2147483647 : Int32)) := ⟨_, rfl⟩
    have pre278 : ∀ t, Steps p.tables e below (s₁.setTop (mkF m 23 #[.val (.int p0), .val (.int p1), .val (.int p2), .val (.int p3), .val (.int (0 : Int32)), .val (.int x273), .val (.int x275), .val (.int x277), .unset, .unset, .unset] [])) t → Steps p.tables e below (s₁.setTop (entryFrame m #[(.int p0), (.int p1), (.int p2), (.int p3)] maxLocals)) t := fun t k => by
      refine pre276 t ?_
      show Steps p.tables e below (s₁.setTop (mkF m 17 #[.val (.int p0), .val (.int p1), .val (.int p2), .val (.int p3), .val (.int (0 : Int32)), .val (.int x273), .val (.int x275), .unset, .unset, .unset, .unset] [])) _
      refine XS.iloadN X0.here hx rfl (hb hby at_17) rfl ?_
      show Steps p.tables e below (s₁.setTop (mkF m 18 #[.val (.int p0), .val (.int p1), .val (.int p2), .val (.int p3), .val (.int (0 : Int32)), .val (.int x273), .val (.int x275), .unset, .unset, .unset, .unset] [(.int p3)])) _
      refine X0.ldcInt hx hown (mvT hZ (hw _ (List.mem_of_getElem? (i := 0) rfl))) (g := (mkF m 18 #[.val (.int p0), .val (.int p1), .val (.int p2), .val (.int p3), .val (.int (0 : Int32)), .val (.int x273), .val (.int x275), .unset, .unset, .unset, .unset] [(.int p3)])) rfl (hb hby at_18) _ ?_
      show Steps p.tables e below (s₁.setTop (mkF m 20 #[.val (.int p0), .val (.int p1), .val (.int p2), .val (.int p3), .val (.int (0 : Int32)), .val (.int x273), .val (.int x275), .unset, .unset, .unset, .unset] [(.int (2147483647 : Int32)), (.int p3)])) _
      refine XS.iand X0.here hx rfl (hb hby at_20) rfl ?_
      show Steps p.tables e below (s₁.setTop (mkF m 21 #[.val (.int p0), .val (.int p1), .val (.int p2), .val (.int p3), .val (.int (0 : Int32)), .val (.int x273), .val (.int x275), .unset, .unset, .unset, .unset] [(.int (p3 &&& (2147483647 : Int32)))])) _
      refine XS.istore X0.here hx rfl (hb hby at_21) rfl (l' := #[.val (.int p0), .val (.int p1), .val (.int p2), .val (.int p3), .val (.int (0 : Int32)), .val (.int x273), .val (.int x275), .val (.int (p3 &&& (2147483647 : Int32))), .unset, .unset, .unset]) rfl ?_
      subst hx277
      exact k
    obtain ⟨T279, h279, k279, X279, e279, E279, A279, kc279, st279⟩ := newPk X0 hx hZ (hw _ (List.mem_of_getElem? (i := 1) rfl)) e0 (g := (mkF m 25 #[.val (.int p0), .val (.int p1), .val (.int p2), .val (.int p3), .val (.int (0 : Int32)), .val (.int x273), .val (.int x275), .val (.int x277), .unset, .unset, .unset] [(.int (0 : Int32))])) rfl (hb hby at_25) rfl (by decide) (cap := 0) (by decide) (by decide) (by decide) (by decide)
    obtain ⟨b279, g279⟩ : ∃ z, z = h0.size := ⟨_, rfl⟩
    rw [← g279] at A279 st279
    have gn280 : n0 ≤ b279 := Nat.le_trans Z0 (Nat.le_of_eq g279.symm)
    have Z281 : n0 ≤ h279.size := Nat.le_trans Z0 E279.1
    have f282 : Arv Z h279 b279 k279 .int (0 : Int32) [] (.int (0 : Int32)) := Arv.new A279 (by decide)
    obtain ⟨T283, h283, X283, e283, E283, A283, D283, -, st283⟩ := newO X279 hx hZ hown (hw _ (List.mem_of_getElem? (i := 2) rfl)) (hw _ (List.mem_of_getElem? (i := 3) rfl)) (hw _ (List.mem_of_getElem? (i := 4) rfl)) e279 (g := (mkF m 64 #[.val (.int p0), .val (.int p1), .val (.int p2), .val (.int p3), .val (.int (0 : Int32)), .val (.int x273), .val (.int x275), .val (.int x277), .val (.ref b279), .unset, .unset] [])) rfl (hb hby at_64) (by decide) (by decide)
    obtain ⟨b283, g283⟩ : ∃ z, z = h279.size := ⟨_, rfl⟩
    rw [← g283] at A283 D283 st283
    have ne284 : b279 ≠ b283 := Nat.ne_of_lt (Nat.lt_of_lt_of_le f282.lt (Nat.le_of_eq g283.symm))
    have gn285 : n0 ≤ b283 := Nat.le_trans Z281 (Nat.le_of_eq g283.symm)
    have f286 := f282.ext E283
    have Z287 : n0 ≤ h283.size := Nat.le_trans Z281 E283.1
    have f288 : Fld Z h283 b283 "com/example/enact/enact/net/Marking" "tokens" "[I" .null := D283 (Or.inr (hw _ (List.mem_of_getElem? (i := 12) rfl))) (ty := (.array .int)) (by decide)
    have f289 : Fld Z h283 b283 "com/example/enact/enact/net/Marking" "total" "J" (.long (0 : Int64)) := D283 (Or.inr (hw _ (List.mem_of_getElem? (i := 14) rfl))) (ty := .long) (by decide)
    have f290 : Fld Z h283 b283 "com/example/enact/enact/net/Marking" "hash" "I" (.int (0 : Int32)) := D283 (Or.inr (hw _ (List.mem_of_getElem? (i := 20) rfl))) (ty := .int) (by decide)
    obtain ⟨_, _, ⟨T291, L291, k291, n291⟩, -, X291, ⟨Lc291, hQ291, l291, y291, z291⟩, st291⟩ := X283.specialBack hx (y := (⟨"com/example/enact/enact/net/Marking", "<init>", "([I)V"⟩ : MethodName)) rfl hown (mvT hZ (hw _ (List.mem_of_getElem? (i := 5) rfl))) (mvT hZ (hw _ (List.mem_of_getElem? (i := 6) rfl))) (mvT hZ (hw _ (List.mem_of_getElem? (i := 7) rfl))) (by decide) (backOf (W := 1) (ct0 l Z aw hw [] b283 b279 k279 h283 n0 Z287 A283 f288 f289 f290 gn285 f286 kc279 (Ne.symm ne284)) hZ (hw _ (List.mem_of_getElem? (i := 7) rfl)) (hw _ (List.mem_of_getElem? (i := 4) rfl)) (by decide) (by decide)) (g := (mkF m 70 #[.val (.int p0), .val (.int p1), .val (.int p2), .val (.int p3), .val (.int (0 : Int32)), .val (.int x273), .val (.int x275), .val (.int x277), .val (.ref b279), .unset, .unset] [(.ref b279), (.ref b283), (.ref b283)])) rfl (by rw [hml]; rfl) (Steps.refl _) (a := b283) (argsL := [(.ref b279)]) (rest := [(.ref b283)]) (lenOf pd_3 rfl) rfl (by show 2 * 0 + _ ≤ _; exact Nat.le_of_eq rfl) (hb hby at_70) (fun _ _ => ⟨rfl, e283, (by decide : 2 + 0 ≤ _), (by decide : 3 + 0 ≤ _)⟩)
    dsimp only [Pt.U, Pt.locs, Pt.cells, Pt.slots] at X291 l291 y291 z291 st291 hQ291
    subst l291 y291 z291
    obtain ⟨rfl, N291q, K291, f292, f293⟩ := hQ291
    have N291 := Fr.app N0 N291q
    have f294 := f286.keep K291 (ninS ne284 nin0)
    have Z295 : n0 ≤ T291.heap.size := Nat.le_trans Z287 K291.1
    obtain ⟨cq296, kq296, q296a, q296b, q296c⟩ := isOf hZ rfl f292
    obtain ⟨_, _, ⟨T296, L296, k296, n296⟩, -, X296, ⟨Lc296, hQ296, l296, y296, z296⟩, st296⟩ := X291.virtualBack hx (y := (⟨"com/example/enact/enact/net/Marking", "isSafe", "()Z"⟩ : MethodName)) (z := (⟨"com/example/enact/enact/net/Marking", "isSafe", "()Z"⟩ : MethodName)) hown (mvT hZ (hw _ (List.mem_of_getElem? (i := 21) rfl))) (mvT hZ (hw _ (List.mem_of_getElem? (i := 22) rfl))) (notFace_of_selects (args := #[]) (mvT hZ (hw _ (List.mem_of_getElem? (i := 24) rfl)))) (mvT hZ (hw _ (List.mem_of_getElem? (i := 24) rfl))) (mvT hZ (hw _ (List.mem_of_getElem? (i := 23) rfl))) (by decide) (backOf (W := 0) (sf0 l Z aw hw [] b283 b279 k279 T291.heap n0 Z295 f293 f294) hZ (hw _ (List.mem_of_getElem? (i := 25) rfl)) (hw _ (List.mem_of_getElem? (i := 4) rfl)) (by decide) (by decide)) q296a q296c (g := (mkF m 120 #[.val (.int p0), .val (.int p1), .val (.int p2), .val (.int p3), .val (.int (0 : Int32)), .val (.int x273), .val (.int x275), .val (.int x277), .val (.ref b279), .val (.ref b283), .val (.int (1 : Int32))] [(.ref b283)])) rfl (by rw [hml]; rfl) (Steps.refl _) (argsL := []) (rest := []) (lenOf pd_4 rfl) rfl (by show 2 * 0 + _ ≤ _; exact Nat.le_of_eq rfl) (hb hby at_120) (fun _ _ => ⟨rfl, rfl, (by decide : 2 + 0 ≤ _), (by decide : 3 + 0 ≤ _)⟩)
    dsimp only [Pt.U, Pt.locs, Pt.cells, Pt.slots] at X296 l296 y296 z296 st296 hQ296
    subst l296 y296 z296
    obtain ⟨rfl, N296q, e296⟩ := hQ296
    have N296 := Fr.app N291 N296q
    obtain ⟨fs, hr, hrun, hended, hW, hsame⟩ := X296.leave (v := some (.int (1 : Int32))) (fun h => by rw [Bd.returns] at h; cases h)
    refine ⟨_, _, pre278 _ ?_, hrun, hended, _, _, rfl, ?_, ⟨_, rfl⟩, hW, hsame.mono (by decide) (by decide)⟩
    ·
      show Steps p.tables e below (s₁.setTop (mkF m 23 #[.val (.int p0), .val (.int p1), .val (.int p2), .val (.int p3), .val (.int (0 : Int32)), .val (.int x273), .val (.int x275), .val (.int x277), .unset, .unset, .unset] [])) _
      refine XS.iload X0.here hx rfl (hb hby at_23) rfl ?_
      show Steps p.tables e below (s₁.setTop (mkF m 25 #[.val (.int p0), .val (.int p1), .val (.int p2), .val (.int p3), .val (.int (0 : Int32)), .val (.int x273), .val (.int x275), .val (.int x277), .unset, .unset, .unset] [(.int (0 : Int32))])) _
      refine st279 _ ?_
      show Steps p.tables e below (T279.setTop (mkF m 27 #[.val (.int p0), .val (.int p1), .val (.int p2), .val (.int p3), .val (.int (0 : Int32)), .val (.int x273), .val (.int x275), .val (.int x277), .unset, .unset, .unset] [(.ref b279)])) _
      refine XS.astore X279.here hx rfl (hb hby at_27) rfl rfl (l' := #[.val (.int p0), .val (.int p1), .val (.int p2), .val (.int p3), .val (.int (0 : Int32)), .val (.int x273), .val (.int x275), .val (.int x277), .val (.ref b279), .unset, .unset]) rfl ?_
      show Steps p.tables e below (T279.setTop (mkF m 29 #[.val (.int p0), .val (.int p1), .val (.int p2), .val (.int p3), .val (.int (0 : Int32)), .val (.int x273), .val (.int x275), .val (.int x277), .val (.ref b279), .unset, .unset] [])) _
      refine XS.iload X279.here hx rfl (hb hby at_29) rfl ?_
      show Steps p.tables e below (T279.setTop (mkF m 31 #[.val (.int p0), .val (.int p1), .val (.int p2), .val (.int p3), .val (.int (0 : Int32)), .val (.int x273), .val (.int x275), .val (.int x277), .val (.ref b279), .unset, .unset] [(.int (0 : Int32))])) _
      refine XS.ifYes X279.here hx rfl (pc0 := 31) (pc' := 40) rfl (hb hby at_31) rfl ((if0 _ _).trans (flt (by decide)).2.2.2) (by decide) (by decide) ?_
      show Steps p.tables e below (T279.setTop (mkF m 40 #[.val (.int p0), .val (.int p1), .val (.int p2), .val (.int p3), .val (.int (0 : Int32)), .val (.int x273), .val (.int x275), .val (.int x277), .val (.ref b279), .unset, .unset] [])) _
      refine XS.iload X279.here hx rfl (hb hby at_40) rfl ?_
      show Steps p.tables e below (T279.setTop (mkF m 42 #[.val (.int p0), .val (.int p1), .val (.int p2), .val (.int p3), .val (.int (0 : Int32)), .val (.int x273), .val (.int x275), .val (.int x277), .val (.ref b279), .unset, .unset] [(.int (0 : Int32))])) _
      refine XS.iconst X279.here hx rfl (hb hby at_42) ?_
      show Steps p.tables e below (T279.setTop (mkF m 43 #[.val (.int p0), .val (.int p1), .val (.int p2), .val (.int p3), .val (.int (0 : Int32)), .val (.int x273), .val (.int x275), .val (.int x277), .val (.ref b279), .unset, .unset] [(.int (1 : Int32)), (.int (0 : Int32))])) _
      refine XS.icmpYes X279.here hx rfl (pc0 := 43) (pc' := 52) rfl (hb hby at_43) rfl (flt (by decide)).2.2.2 (by decide) (by decide) ?_
      show Steps p.tables e below (T279.setTop (mkF m 52 #[.val (.int p0), .val (.int p1), .val (.int p2), .val (.int p3), .val (.int (0 : Int32)), .val (.int x273), .val (.int x275), .val (.int x277), .val (.ref b279), .unset, .unset] [])) _
      refine XS.iload X279.here hx rfl (hb hby at_52) rfl ?_
      show Steps p.tables e below (T279.setTop (mkF m 54 #[.val (.int p0), .val (.int p1), .val (.int p2), .val (.int p3), .val (.int (0 : Int32)), .val (.int x273), .val (.int x275), .val (.int x277), .val (.ref b279), .unset, .unset] [(.int (0 : Int32))])) _
      refine XS.iconst X279.here hx rfl (hb hby at_54) ?_
      show Steps p.tables e below (T279.setTop (mkF m 55 #[.val (.int p0), .val (.int p1), .val (.int p2), .val (.int p3), .val (.int (0 : Int32)), .val (.int x273), .val (.int x275), .val (.int x277), .val (.ref b279), .unset, .unset] [(.int (2 : Int32)), (.int (0 : Int32))])) _
      refine XS.icmpYes X279.here hx rfl (pc0 := 55) (pc' := 64) rfl (hb hby at_55) rfl (flt (by decide)).2.2.2 (by decide) (by decide) ?_
      show Steps p.tables e below (T279.setTop (mkF m 64 #[.val (.int p0), .val (.int p1), .val (.int p2), .val (.int p3), .val (.int (0 : Int32)), .val (.int x273), .val (.int x275), .val (.int x277), .val (.ref b279), .unset, .unset] [])) _
      refine st283 _ ?_
      show Steps p.tables e below (T283.setTop (mkF m 67 #[.val (.int p0), .val (.int p1), .val (.int p2), .val (.int p3), .val (.int (0 : Int32)), .val (.int x273), .val (.int x275), .val (.int x277), .val (.ref b279), .unset, .unset] [(.ref b283)])) _
      refine XS.dup X283.here hx rfl (hb hby at_67) rfl rfl ?_
      show Steps p.tables e below (T283.setTop (mkF m 68 #[.val (.int p0), .val (.int p1), .val (.int p2), .val (.int p3), .val (.int (0 : Int32)), .val (.int x273), .val (.int x275), .val (.int x277), .val (.ref b279), .unset, .unset] [(.ref b283), (.ref b283)])) _
      refine XS.aload X283.here hx rfl (hb hby at_68) rfl rfl ?_
      show Steps p.tables e below (T283.setTop (mkF m 70 #[.val (.int p0), .val (.int p1), .val (.int p2), .val (.int p3), .val (.int (0 : Int32)), .val (.int x273), .val (.int x275), .val (.int x277), .val (.ref b279), .unset, .unset] [(.ref b279), (.ref b283), (.ref b283)])) _
      refine st291.trans ?_
      show Steps p.tables e below (T291.setTop (mkF m 73 #[.val (.int p0), .val (.int p1), .val (.int p2), .val (.int p3), .val (.int (0 : Int32)), .val (.int x273), .val (.int x275), .val (.int x277), .val (.ref b279), .unset, .unset] [(.ref b283)])) _
      refine XS.astore X291.here hx rfl (hb hby at_73) rfl rfl (l' := #[.val (.int p0), .val (.int p1), .val (.int p2), .val (.int p3), .val (.int (0 : Int32)), .val (.int x273), .val (.int x275), .val (.int x277), .val (.ref b279), .val (.ref b283), .unset]) rfl ?_
      show Steps p.tables e below (T291.setTop (mkF m 75 #[.val (.int p0), .val (.int p1), .val (.int p2), .val (.int p3), .val (.int (0 : Int32)), .val (.int x273), .val (.int x275), .val (.int x277), .val (.ref b279), .val (.ref b283), .unset] [])) _
      refine XS.iload X291.here hx rfl (hb hby at_75) rfl ?_
      show Steps p.tables e below (T291.setTop (mkF m 77 #[.val (.int p0), .val (.int p1), .val (.int p2), .val (.int p3), .val (.int (0 : Int32)), .val (.int x273), .val (.int x275), .val (.int x277), .val (.ref b279), .val (.ref b283), .unset] [(.int (0 : Int32))])) _
      refine XS.iconst X291.here hx rfl (hb hby at_77) ?_
      show Steps p.tables e below (T291.setTop (mkF m 78 #[.val (.int p0), .val (.int p1), .val (.int p2), .val (.int p3), .val (.int (0 : Int32)), .val (.int x273), .val (.int x275), .val (.int x277), .val (.ref b279), .val (.ref b283), .unset] [(.int (1 : Int32)), (.int (0 : Int32))])) _
      refine XS.icmpYes X291.here hx rfl (pc0 := 78) (pc' := 87) rfl (hb hby at_78) rfl (tlt (by decide)).1 (by decide) (by decide) ?_
      show Steps p.tables e below (T291.setTop (mkF m 87 #[.val (.int p0), .val (.int p1), .val (.int p2), .val (.int p3), .val (.int (0 : Int32)), .val (.int x273), .val (.int x275), .val (.int x277), .val (.ref b279), .val (.ref b283), .unset] [])) _
      refine XS.iload X291.here hx rfl (hb hby at_87) rfl ?_
      show Steps p.tables e below (T291.setTop (mkF m 89 #[.val (.int p0), .val (.int p1), .val (.int p2), .val (.int p3), .val (.int (0 : Int32)), .val (.int x273), .val (.int x275), .val (.int x277), .val (.ref b279), .val (.ref b283), .unset] [(.int (0 : Int32))])) _
      refine XS.iconst X291.here hx rfl (hb hby at_89) ?_
      show Steps p.tables e below (T291.setTop (mkF m 90 #[.val (.int p0), .val (.int p1), .val (.int p2), .val (.int p3), .val (.int (0 : Int32)), .val (.int x273), .val (.int x275), .val (.int x277), .val (.ref b279), .val (.ref b283), .unset] [(.int (2 : Int32)), (.int (0 : Int32))])) _
      refine XS.icmpYes X291.here hx rfl (pc0 := 90) (pc' := 99) rfl (hb hby at_90) rfl (tlt (by decide)).1 (by decide) (by decide) ?_
      show Steps p.tables e below (T291.setTop (mkF m 99 #[.val (.int p0), .val (.int p1), .val (.int p2), .val (.int p3), .val (.int (0 : Int32)), .val (.int x273), .val (.int x275), .val (.int x277), .val (.ref b279), .val (.ref b283), .unset] [])) _
      refine XS.iload X291.here hx rfl (hb hby at_99) rfl ?_
      show Steps p.tables e below (T291.setTop (mkF m 101 #[.val (.int p0), .val (.int p1), .val (.int p2), .val (.int p3), .val (.int (0 : Int32)), .val (.int x273), .val (.int x275), .val (.int x277), .val (.ref b279), .val (.ref b283), .unset] [(.int (0 : Int32))])) _
      refine XS.iconst X291.here hx rfl (hb hby at_101) ?_
      show Steps p.tables e below (T291.setTop (mkF m 102 #[.val (.int p0), .val (.int p1), .val (.int p2), .val (.int p3), .val (.int (0 : Int32)), .val (.int x273), .val (.int x275), .val (.int x277), .val (.ref b279), .val (.ref b283), .unset] [(.int (3 : Int32)), (.int (0 : Int32))])) _
      refine XS.icmpYes X291.here hx rfl (pc0 := 102) (pc' := 111) rfl (hb hby at_102) rfl (tlt (by decide)).1 (by decide) (by decide) ?_
      show Steps p.tables e below (T291.setTop (mkF m 111 #[.val (.int p0), .val (.int p1), .val (.int p2), .val (.int p3), .val (.int (0 : Int32)), .val (.int x273), .val (.int x275), .val (.int x277), .val (.ref b279), .val (.ref b283), .unset] [])) _
      refine XS.iconst X291.here hx rfl (hb hby at_111) ?_
      show Steps p.tables e below (T291.setTop (mkF m 112 #[.val (.int p0), .val (.int p1), .val (.int p2), .val (.int p3), .val (.int (0 : Int32)), .val (.int x273), .val (.int x275), .val (.int x277), .val (.ref b279), .val (.ref b283), .unset] [(.int (1 : Int32))])) _
      refine XS.goto X291.here hx rfl (pc0 := 112) (pc' := 116) rfl (hb hby at_112) (by decide) (by decide) ?_
      show Steps p.tables e below (T291.setTop (mkF m 116 #[.val (.int p0), .val (.int p1), .val (.int p2), .val (.int p3), .val (.int (0 : Int32)), .val (.int x273), .val (.int x275), .val (.int x277), .val (.ref b279), .val (.ref b283), .unset] [(.int (1 : Int32))])) _
      refine XS.istore X291.here hx rfl (hb hby at_116) rfl (l' := #[.val (.int p0), .val (.int p1), .val (.int p2), .val (.int p3), .val (.int (0 : Int32)), .val (.int x273), .val (.int x275), .val (.int x277), .val (.ref b279), .val (.ref b283), .val (.int (1 : Int32))]) rfl ?_
      show Steps p.tables e below (T291.setTop (mkF m 118 #[.val (.int p0), .val (.int p1), .val (.int p2), .val (.int p3), .val (.int (0 : Int32)), .val (.int x273), .val (.int x275), .val (.int x277), .val (.ref b279), .val (.ref b283), .val (.int (1 : Int32))] [])) _
      refine XS.aload X291.here hx rfl (hb hby at_118) rfl rfl ?_
      show Steps p.tables e below (T291.setTop (mkF m 120 #[.val (.int p0), .val (.int p1), .val (.int p2), .val (.int p3), .val (.int (0 : Int32)), .val (.int x273), .val (.int x275), .val (.int x277), .val (.ref b279), .val (.ref b283), .val (.int (1 : Int32))] [(.ref b283)])) _
      refine st296.trans ?_
      show Steps p.tables e below (T296.setTop (mkF m 123 #[.val (.int p0), .val (.int p1), .val (.int p2), .val (.int p3), .val (.int (0 : Int32)), .val (.int x273), .val (.int x275), .val (.int x277), .val (.ref b279), .val (.ref b283), .val (.int (1 : Int32))] [(.int (1 : Int32))])) _
      refine XS.iload X296.here hx rfl (hb hby at_123) rfl ?_
      show Steps p.tables e below (T296.setTop (mkF m 125 #[.val (.int p0), .val (.int p1), .val (.int p2), .val (.int p3), .val (.int (0 : Int32)), .val (.int x273), .val (.int x275), .val (.int x277), .val (.ref b279), .val (.ref b283), .val (.int (1 : Int32))] [(.int (1 : Int32)), (.int (1 : Int32))])) _
      refine XS.icmpNo X296.here hx rfl (hb hby at_125) rfl (teq rfl).2 ?_
      show Steps p.tables e below (T296.setTop (mkF m 128 #[.val (.int p0), .val (.int p1), .val (.int p2), .val (.int p3), .val (.int (0 : Int32)), .val (.int x273), .val (.int x275), .val (.int x277), .val (.ref b279), .val (.ref b283), .val (.int (1 : Int32))] [])) _
      refine XS.iconst X296.here hx rfl (hb hby at_128) ?_
      show Steps p.tables e below (T296.setTop (mkF m 129 #[.val (.int p0), .val (.int p1), .val (.int p2), .val (.int p3), .val (.int (0 : Int32)), .val (.int x273), .val (.int x275), .val (.int x277), .val (.ref b279), .val (.ref b283), .val (.int (1 : Int32))] [(.int (1 : Int32))])) _
      refine XS.goto X296.here hx rfl (pc0 := 129) (pc' := 133) rfl (hb hby at_129) (by decide) (by decide) ?_
      show Steps p.tables e below (T296.setTop (mkF m 133 #[.val (.int p0), .val (.int p1), .val (.int p2), .val (.int p3), .val (.int (0 : Int32)), .val (.int x273), .val (.int x275), .val (.int x277), .val (.ref b279), .val (.ref b283), .val (.int (1 : Int32))] [(.int (1 : Int32))])) _
      exact retZ X296 hx Bd.returns (by decide) (hb hby at_133) hr
    ·
      show Q_rm0 Z p0 p1 p2 p3 h0 n0 _ T296.heap _
      rw [e296]
      exact ⟨rfl, N296⟩
  ·
    obtain rfl : x271 = (1 : Int32) := hx271.trans q
    obtain ⟨x297, hx297⟩ : ∃ z : Int32, z = (p1 &&& (2147483647 : Int32)) := ⟨_, rfl⟩
    have pre298 : ∀ t, Steps p.tables e below (s₁.setTop (mkF m 11 #[.val (.int p0), .val (.int p1), .val (.int p2), .val (.int p3), .val (.int (1 : Int32)), .val (.int x297), .unset, .unset, .unset, .unset, .unset] [])) t → Steps p.tables e below (s₁.setTop (entryFrame m #[(.int p0), (.int p1), (.int p2), (.int p3)] maxLocals)) t := fun t k => by
      refine pre272 t ?_
      show Steps p.tables e below (s₁.setTop (mkF m 5 #[.val (.int p0), .val (.int p1), .val (.int p2), .val (.int p3), .val (.int (1 : Int32)), .unset, .unset, .unset, .unset, .unset, .unset] [])) _
      refine XS.iloadN X0.here hx rfl (hb hby at_5) rfl ?_
      show Steps p.tables e below (s₁.setTop (mkF m 6 #[.val (.int p0), .val (.int p1), .val (.int p2), .val (.int p3), .val (.int (1 : Int32)), .unset, .unset, .unset, .unset, .unset, .unset] [(.int p1)])) _
      refine X0.ldcInt hx hown (mvT hZ (hw _ (List.mem_of_getElem? (i := 0) rfl))) (g := (mkF m 6 #[.val (.int p0), .val (.int p1), .val (.int p2), .val (.int p3), .val (.int (1 : Int32)), .unset, .unset, .unset, .unset, .unset, .unset] [(.int p1)])) rfl (hb hby at_6) _ ?_
      show Steps p.tables e below (s₁.setTop (mkF m 8 #[.val (.int p0), .val (.int p1), .val (.int p2), .val (.int p3), .val (.int (1 : Int32)), .unset, .unset, .unset, .unset, .unset, .unset] [(.int (2147483647 : Int32)), (.int p1)])) _
      refine XS.iand X0.here hx rfl (hb hby at_8) rfl ?_
      show Steps p.tables e below (s₁.setTop (mkF m 9 #[.val (.int p0), .val (.int p1), .val (.int p2), .val (.int p3), .val (.int (1 : Int32)), .unset, .unset, .unset, .unset, .unset, .unset] [(.int (p1 &&& (2147483647 : Int32)))])) _
      refine XS.istore X0.here hx rfl (hb hby at_9) rfl (l' := #[.val (.int p0), .val (.int p1), .val (.int p2), .val (.int p3), .val (.int (1 : Int32)), .val (.int (p1 &&& (2147483647 : Int32))), .unset, .unset, .unset, .unset, .unset]) rfl ?_
      subst hx297
      exact k
    obtain ⟨x299, hx299⟩ : ∃ z : Int32, z = (p2 &&& (2147483647 : Int32)) := ⟨_, rfl⟩
    have pre300 : ∀ t, Steps p.tables e below (s₁.setTop (mkF m 17 #[.val (.int p0), .val (.int p1), .val (.int p2), .val (.int p3), .val (.int (1 : Int32)), .val (.int x297), .val (.int x299), .unset, .unset, .unset, .unset] [])) t → Steps p.tables e below (s₁.setTop (entryFrame m #[(.int p0), (.int p1), (.int p2), (.int p3)] maxLocals)) t := fun t k => by
      refine pre298 t ?_
      show Steps p.tables e below (s₁.setTop (mkF m 11 #[.val (.int p0), .val (.int p1), .val (.int p2), .val (.int p3), .val (.int (1 : Int32)), .val (.int x297), .unset, .unset, .unset, .unset, .unset] [])) _
      refine XS.iloadN X0.here hx rfl (hb hby at_11) rfl ?_
      show Steps p.tables e below (s₁.setTop (mkF m 12 #[.val (.int p0), .val (.int p1), .val (.int p2), .val (.int p3), .val (.int (1 : Int32)), .val (.int x297), .unset, .unset, .unset, .unset, .unset] [(.int p2)])) _
      refine X0.ldcInt hx hown (mvT hZ (hw _ (List.mem_of_getElem? (i := 0) rfl))) (g := (mkF m 12 #[.val (.int p0), .val (.int p1), .val (.int p2), .val (.int p3), .val (.int (1 : Int32)), .val (.int x297), .unset, .unset, .unset, .unset, .unset] [(.int p2)])) rfl (hb hby at_12) _ ?_
      show Steps p.tables e below (s₁.setTop (mkF m 14 #[.val (.int p0), .val (.int p1), .val (.int p2), .val (.int p3), .val (.int (1 : Int32)), .val (.int x297), .unset, .unset, .unset, .unset, .unset] [(.int (2147483647 : Int32)), (.int p2)])) _
      refine XS.iand X0.here hx rfl (hb hby at_14) rfl ?_
      show Steps p.tables e below (s₁.setTop (mkF m 15 #[.val (.int p0), .val (.int p1), .val (.int p2), .val (.int p3), .val (.int (1 : Int32)), .val (.int x297), .unset, .unset, .unset, .unset, .unset] [(.int (p2 &&& (2147483647 : Int32)))])) _
      refine XS.istore X0.here hx rfl (hb hby at_15) rfl (l' := #[.val (.int p0), .val (.int p1), .val (.int p2), .val (.int p3), .val (.int (1 : Int32)), .val (.int x297), .val (.int (p2 &&& (2147483647 : Int32))), .unset, .unset, .unset, .unset]) rfl ?_
      subst hx299
      exact k
    obtain ⟨x301, hx301⟩ : ∃ z : Int32, z = (p3 &&& (2147483647 : Int32)) := ⟨_, rfl⟩
    have pre302 : ∀ t, Steps p.tables e below (s₁.setTop (mkF m 23 #[.val (.int p0), .val (.int p1), .val (.int p2), .val (.int p3), .val (.int (1 : Int32)), .val (.int x297), .val (.int x299), .val (.int x301), .unset, .unset, .unset] [])) t → Steps p.tables e below (s₁.setTop (entryFrame m #[(.int p0), (.int p1), (.int p2), (.int p3)] maxLocals)) t := fun t k => by
      refine pre300 t ?_
      show Steps p.tables e below (s₁.setTop (mkF m 17 #[.val (.int p0), .val (.int p1), .val (.int p2), .val (.int p3), .val (.int (1 : Int32)), .val (.int x297), .val (.int x299), .unset, .unset, .unset, .unset] [])) _
      refine XS.iloadN X0.here hx rfl (hb hby at_17) rfl ?_
      show Steps p.tables e below (s₁.setTop (mkF m 18 #[.val (.int p0), .val (.int p1), .val (.int p2), .val (.int p3), .val (.int (1 : Int32)), .val (.int x297), .val (.int x299), .unset, .unset, .unset, .unset] [(.int p3)])) _
      refine X0.ldcInt hx hown (mvT hZ (hw _ (List.mem_of_getElem? (i := 0) rfl))) (g := (mkF m 18 #[.val (.int p0), .val (.int p1), .val (.int p2), .val (.int p3), .val (.int (1 : Int32)), .val (.int x297), .val (.int x299), .unset, .unset, .unset, .unset] [(.int p3)])) rfl (hb hby at_18) _ ?_
      show Steps p.tables e below (s₁.setTop (mkF m 20 #[.val (.int p0), .val (.int p1), .val (.int p2), .val (.int p3), .val (.int (1 : Int32)), .val (.int x297), .val (.int x299), .unset, .unset, .unset, .unset] [(.int (2147483647 : Int32)), (.int p3)])) _
      refine XS.iand X0.here hx rfl (hb hby at_20) rfl ?_
      show Steps p.tables e below (s₁.setTop (mkF m 21 #[.val (.int p0), .val (.int p1), .val (.int p2), .val (.int p3), .val (.int (1 : Int32)), .val (.int x297), .val (.int x299), .unset, .unset, .unset, .unset] [(.int (p3 &&& (2147483647 : Int32)))])) _
      refine XS.istore X0.here hx rfl (hb hby at_21) rfl (l' := #[.val (.int p0), .val (.int p1), .val (.int p2), .val (.int p3), .val (.int (1 : Int32)), .val (.int x297), .val (.int x299), .val (.int (p3 &&& (2147483647 : Int32))), .unset, .unset, .unset]) rfl ?_
      subst hx301
      exact k
    obtain ⟨T303, h303, k303, X303, e303, E303, A303, kc303, st303⟩ := newPk X0 hx hZ (hw _ (List.mem_of_getElem? (i := 1) rfl)) e0 (g := (mkF m 25 #[.val (.int p0), .val (.int p1), .val (.int p2), .val (.int p3), .val (.int (1 : Int32)), .val (.int x297), .val (.int x299), .val (.int x301), .unset, .unset, .unset] [(.int (1 : Int32))])) rfl (hb hby at_25) rfl (by decide) (cap := 1) (by decide) (by decide) (by decide) (by decide)
    obtain ⟨b303, g303⟩ : ∃ z, z = h0.size := ⟨_, rfl⟩
    rw [← g303] at A303 st303
    have gn304 : n0 ≤ b303 := Nat.le_trans Z0 (Nat.le_of_eq g303.symm)
    have Z305 : n0 ≤ h303.size := Nat.le_trans Z0 E303.1
    have f306 : Arv Z h303 b303 k303 .int (1 : Int32) [(.int (0 : Int32))] (.int (0 : Int32)) := (Arv.new A303 (by decide)).pad (pad_rep [] (.int (0 : Int32)) 1)
    obtain ⟨cl307, Ar307, q307, S307, N307, H307, G307⟩ := id f306
    have hin307 : ¬ ((0 : Int32) < 0 ∨ cl307.slots.size ≤ ((0 : Int32)).toNatClampNeg) := inb_of S307 ⟨by decide, by decide⟩
    obtain ⟨T307, h307, X307, e307, W307, st307⟩ := stI X303 hx hZ e303 Ar307 (j := (0 : Int32)) hin307 (g := (mkF m 39 #[.val (.int p0), .val (.int p1), .val (.int p2), .val (.int p3), .val (.int (1 : Int32)), .val (.int x297), .val (.int x299), .val (.int x301), .val (.ref b303), .unset, .unset] [(.int x297), (.int (0 : Int32)), (.ref b303)])) rfl rfl (hb hby at_39)
    have Z308 : n0 ≤ h307.size := Nat.le_trans Z305 (Keep.of_wr W307).1
    have N309 := Fr.snoc X307 N0 gn304
    have f310 : Arv Z h307 b303 k303 .int (1 : Int32) [(.int x297)] (.int (0 : Int32)) := Arv.set Ar307 q307 S307 N307 H307 G307 rfl W307 0 rfl (Nat.le_of_ble_eq_true rfl)
    obtain ⟨T311, h311, X311, e311, E311, A311, D311, -, st311⟩ := newO X307 hx hZ hown (hw _ (List.mem_of_getElem? (i := 2) rfl)) (hw _ (List.mem_of_getElem? (i := 3) rfl)) (hw _ (List.mem_of_getElem? (i := 4) rfl)) e307 (g := (mkF m 64 #[.val (.int p0), .val (.int p1), .val (.int p2), .val (.int p3), .val (.int (1 : Int32)), .val (.int x297), .val (.int x299), .val (.int x301), .val (.ref b303), .unset, .unset] [])) rfl (hb hby at_64) (by decide) (by decide)
    obtain ⟨b311, g311⟩ : ∃ z, z = h307.size := ⟨_, rfl⟩
    rw [← g311] at A311 D311 st311
    have ne312 : b303 ≠ b311 := Nat.ne_of_lt (Nat.lt_of_lt_of_le f310.lt (Nat.le_of_eq g311.symm))
    have gn313 : n0 ≤ b311 := Nat.le_trans Z308 (Nat.le_of_eq g311.symm)
    have f314 := f310.ext E311
    have Z315 : n0 ≤ h311.size := Nat.le_trans Z308 E311.1
    have f316 : Fld Z h311 b311 "com/example/enact/enact/net/Marking" "tokens" "[I" .null := D311 (Or.inr (hw _ (List.mem_of_getElem? (i := 12) rfl))) (ty := (.array .int)) (by decide)
    have f317 : Fld Z h311 b311 "com/example/enact/enact/net/Marking" "total" "J" (.long (0 : Int64)) := D311 (Or.inr (hw _ (List.mem_of_getElem? (i := 14) rfl))) (ty := .long) (by decide)
    have f318 : Fld Z h311 b311 "com/example/enact/enact/net/Marking" "hash" "I" (.int (0 : Int32)) := D311 (Or.inr (hw _ (List.mem_of_getElem? (i := 20) rfl))) (ty := .int) (by decide)
    obtain ⟨_, _, ⟨T319, L319, k319, n319⟩, -, X319, ⟨Lc319, hQ319, l319, y319, z319⟩, st319⟩ := X311.specialBack hx (y := (⟨"com/example/enact/enact/net/Marking", "<init>", "([I)V"⟩ : MethodName)) rfl hown (mvT hZ (hw _ (List.mem_of_getElem? (i := 5) rfl))) (mvT hZ (hw _ (List.mem_of_getElem? (i := 6) rfl))) (mvT hZ (hw _ (List.mem_of_getElem? (i := 7) rfl))) (by decide) (backOf (W := 1) (ct1 l Z aw hw [] b311 b303 k303 x297 h311 n0 Z315 A311 f316 f317 f318 gn313 f314 kc303 (Ne.symm ne312)) hZ (hw _ (List.mem_of_getElem? (i := 7) rfl)) (hw _ (List.mem_of_getElem? (i := 4) rfl)) (by decide) (by decide)) (g := (mkF m 70 #[.val (.int p0), .val (.int p1), .val (.int p2), .val (.int p3), .val (.int (1 : Int32)), .val (.int x297), .val (.int x299), .val (.int x301), .val (.ref b303), .unset, .unset] [(.ref b303), (.ref b311), (.ref b311)])) rfl (by rw [hml]; rfl) (Steps.refl _) (a := b311) (argsL := [(.ref b303)]) (rest := [(.ref b311)]) (lenOf pd_3 rfl) rfl (by show 2 * 0 + _ ≤ _; exact Nat.le_of_eq rfl) (hb hby at_70) (fun _ _ => ⟨rfl, e311, (by decide : 2 + 0 ≤ _), (by decide : 4 + 0 ≤ _)⟩)
    dsimp only [Pt.U, Pt.locs, Pt.cells, Pt.slots] at X319 l319 y319 z319 st319 hQ319
    subst l319 y319 z319
    obtain ⟨rfl, N319q, K319, f320, f321⟩ := hQ319
    have N319 := Fr.app N309 N319q
    have f322 := f314.keep K319 (ninS ne312 nin0)
    have Z323 : n0 ≤ T319.heap.size := Nat.le_trans Z315 K319.1
    obtain ⟨x325, hx325⟩ : ∃ z : Int32, z = (if (1 : Int32) < x297 then (0 : Int32) else (1 : Int32)) := ⟨_, rfl⟩
    have pre326 : ∀ t, Steps p.tables e below (T319.setTop (mkF m 116 #[.val (.int p0), .val (.int p1), .val (.int p2), .val (.int p3), .val (.int (1 : Int32)), .val (.int x297), .val (.int x299), .val (.int x301), .val (.ref b303), .val (.ref b311), .unset] [(.int x325)])) t → Steps p.tables e below (s₁.setTop (entryFrame m #[(.int p0), (.int p1), (.int p2), (.int p3)] maxLocals)) t := fun t k => by
      refine pre302 t ?_
      show Steps p.tables e below (s₁.setTop (mkF m 23 #[.val (.int p0), .val (.int p1), .val (.int p2), .val (.int p3), .val (.int (1 : Int32)), .val (.int x297), .val (.int x299), .val (.int x301), .unset, .unset, .unset] [])) _
      refine XS.iload X0.here hx rfl (hb hby at_23) rfl ?_
      show Steps p.tables e below (s₁.setTop (mkF m 25 #[.val (.int p0), .val (.int p1), .val (.int p2), .val (.int p3), .val (.int (1 : Int32)), .val (.int x297), .val (.int x299), .val (.int x301), .unset, .unset, .unset] [(.int (1 : Int32))])) _
      refine st303 _ ?_
      show Steps p.tables e below (T303.setTop (mkF m 27 #[.val (.int p0), .val (.int p1), .val (.int p2), .val (.int p3), .val (.int (1 : Int32)), .val (.int x297), .val (.int x299), .val (.int x301), .unset, .unset, .unset] [(.ref b303)])) _
      refine XS.astore X303.here hx rfl (hb hby at_27) rfl rfl (l' := #[.val (.int p0), .val (.int p1), .val (.int p2), .val (.int p3), .val (.int (1 : Int32)), .val (.int x297), .val (.int x299), .val (.int x301), .val (.ref b303), .unset, .unset]) rfl ?_
      show Steps p.tables e below (T303.setTop (mkF m 29 #[.val (.int p0), .val (.int p1), .val (.int p2), .val (.int p3), .val (.int (1 : Int32)), .val (.int x297), .val (.int x299), .val (.int x301), .val (.ref b303), .unset, .unset] [])) _
      refine XS.iload X303.here hx rfl (hb hby at_29) rfl ?_
      show Steps p.tables e below (T303.setTop (mkF m 31 #[.val (.int p0), .val (.int p1), .val (.int p2), .val (.int p3), .val (.int (1 : Int32)), .val (.int x297), .val (.int x299), .val (.int x301), .val (.ref b303), .unset, .unset] [(.int (1 : Int32))])) _
      refine XS.ifNo X303.here hx rfl (hb hby at_31) rfl ((if0 _ _).trans (tlt (by decide)).2.2.2) ?_
      show Steps p.tables e below (T303.setTop (mkF m 34 #[.val (.int p0), .val (.int p1), .val (.int p2), .val (.int p3), .val (.int (1 : Int32)), .val (.int x297), .val (.int x299), .val (.int x301), .val (.ref b303), .unset, .unset] [])) _
      refine XS.aload X303.here hx rfl (hb hby at_34) rfl rfl ?_
      show Steps p.tables e below (T303.setTop (mkF m 36 #[.val (.int p0), .val (.int p1), .val (.int p2), .val (.int p3), .val (.int (1 : Int32)), .val (.int x297), .val (.int x299), .val (.int x301), .val (.ref b303), .unset, .unset] [(.ref b303)])) _
      refine XS.iconst X303.here hx rfl (hb hby at_36) ?_
      show Steps p.tables e below (T303.setTop (mkF m 37 #[.val (.int p0), .val (.int p1), .val (.int p2), .val (.int p3), .val (.int (1 : Int32)), .val (.int x297), .val (.int x299), .val (.int x301), .val (.ref b303), .unset, .unset] [(.int (0 : Int32)), (.ref b303)])) _
      refine XS.iload X303.here hx rfl (hb hby at_37) rfl ?_
      show Steps p.tables e below (T303.setTop (mkF m 39 #[.val (.int p0), .val (.int p1), .val (.int p2), .val (.int p3), .val (.int (1 : Int32)), .val (.int x297), .val (.int x299), .val (.int x301), .val (.ref b303), .unset, .unset] [(.int x297), (.int (0 : Int32)), (.ref b303)])) _
      refine st307 _ ?_
      show Steps p.tables e below (T307.setTop (mkF m 40 #[.val (.int p0), .val (.int p1), .val (.int p2), .val (.int p3), .val (.int (1 : Int32)), .val (.int x297), .val (.int x299), .val (.int x301), .val (.ref b303), .unset, .unset] [])) _
      refine XS.iload X307.here hx rfl (hb hby at_40) rfl ?_
      show Steps p.tables e below (T307.setTop (mkF m 42 #[.val (.int p0), .val (.int p1), .val (.int p2), .val (.int p3), .val (.int (1 : Int32)), .val (.int x297), .val (.int x299), .val (.int x301), .val (.ref b303), .unset, .unset] [(.int (1 : Int32))])) _
      refine XS.iconst X307.here hx rfl (hb hby at_42) ?_
      show Steps p.tables e below (T307.setTop (mkF m 43 #[.val (.int p0), .val (.int p1), .val (.int p2), .val (.int p3), .val (.int (1 : Int32)), .val (.int x297), .val (.int x299), .val (.int x301), .val (.ref b303), .unset, .unset] [(.int (1 : Int32)), (.int (1 : Int32))])) _
      refine XS.icmpYes X307.here hx rfl (pc0 := 43) (pc' := 52) rfl (hb hby at_43) rfl (flt (by decide)).2.2.2 (by decide) (by decide) ?_
      show Steps p.tables e below (T307.setTop (mkF m 52 #[.val (.int p0), .val (.int p1), .val (.int p2), .val (.int p3), .val (.int (1 : Int32)), .val (.int x297), .val (.int x299), .val (.int x301), .val (.ref b303), .unset, .unset] [])) _
      refine XS.iload X307.here hx rfl (hb hby at_52) rfl ?_
      show Steps p.tables e below (T307.setTop (mkF m 54 #[.val (.int p0), .val (.int p1), .val (.int p2), .val (.int p3), .val (.int (1 : Int32)), .val (.int x297), .val (.int x299), .val (.int x301), .val (.ref b303), .unset, .unset] [(.int (1 : Int32))])) _
      refine XS.iconst X307.here hx rfl (hb hby at_54) ?_
      show Steps p.tables e below (T307.setTop (mkF m 55 #[.val (.int p0), .val (.int p1), .val (.int p2), .val (.int p3), .val (.int (1 : Int32)), .val (.int x297), .val (.int x299), .val (.int x301), .val (.ref b303), .unset, .unset] [(.int (2 : Int32)), (.int (1 : Int32))])) _
      refine XS.icmpYes X307.here hx rfl (pc0 := 55) (pc' := 64) rfl (hb hby at_55) rfl (flt (by decide)).2.2.2 (by decide) (by decide) ?_
      show Steps p.tables e below (T307.setTop (mkF m 64 #[.val (.int p0), .val (.int p1), .val (.int p2), .val (.int p3), .val (.int (1 : Int32)), .val (.int x297), .val (.int x299), .val (.int x301), .val (.ref b303), .unset, .unset] [])) _
      refine st311 _ ?_
      show Steps p.tables e below (T311.setTop (mkF m 67 #[.val (.int p0), .val (.int p1), .val (.int p2), .val (.int p3), .val (.int (1 : Int32)), .val (.int x297), .val (.int x299), .val (.int x301), .val (.ref b303), .unset, .unset] [(.ref b311)])) _
      refine XS.dup X311.here hx rfl (hb hby at_67) rfl rfl ?_
      show Steps p.tables e below (T311.setTop (mkF m 68 #[.val (.int p0), .val (.int p1), .val (.int p2), .val (.int p3), .val (.int (1 : Int32)), .val (.int x297), .val (.int x299), .val (.int x301), .val (.ref b303), .unset, .unset] [(.ref b311), (.ref b311)])) _
      refine XS.aload X311.here hx rfl (hb hby at_68) rfl rfl ?_
      show Steps p.tables e below (T311.setTop (mkF m 70 #[.val (.int p0), .val (.int p1), .val (.int p2), .val (.int p3), .val (.int (1 : Int32)), .val (.int x297), .val (.int x299), .val (.int x301), .val (.ref b303), .unset, .unset] [(.ref b303), (.ref b311), (.ref b311)])) _
      refine st319.trans ?_
      show Steps p.tables e below (T319.setTop (mkF m 73 #[.val (.int p0), .val (.int p1), .val (.int p2), .val (.int p3), .val (.int (1 : Int32)), .val (.int x297), .val (.int x299), .val (.int x301), .val (.ref b303), .unset, .unset] [(.ref b311)])) _
      refine XS.astore X319.here hx rfl (hb hby at_73) rfl rfl (l' := #[.val (.int p0), .val (.int p1), .val (.int p2), .val (.int p3), .val (.int (1 : Int32)), .val (.int x297), .val (.int x299), .val (.int x301), .val (.ref b303), .val (.ref b311), .unset]) rfl ?_
      show Steps p.tables e below (T319.setTop (mkF m 75 #[.val (.int p0), .val (.int p1), .val (.int p2), .val (.int p3), .val (.int (1 : Int32)), .val (.int x297), .val (.int x299), .val (.int x301), .val (.ref b303), .val (.ref b311), .unset] [])) _
      refine XS.iload X319.here hx rfl (hb hby at_75) rfl ?_
      show Steps p.tables e below (T319.setTop (mkF m 77 #[.val (.int p0), .val (.int p1), .val (.int p2), .val (.int p3), .val (.int (1 : Int32)), .val (.int x297), .val (.int x299), .val (.int x301), .val (.ref b303), .val (.ref b311), .unset] [(.int (1 : Int32))])) _
      refine XS.iconst X319.here hx rfl (hb hby at_77) ?_
      show Steps p.tables e below (T319.setTop (mkF m 78 #[.val (.int p0), .val (.int p1), .val (.int p2), .val (.int p3), .val (.int (1 : Int32)), .val (.int x297), .val (.int x299), .val (.int x301), .val (.ref b303), .val (.ref b311), .unset] [(.int (1 : Int32)), (.int (1 : Int32))])) _
      refine XS.icmpNo X319.here hx rfl (hb hby at_78) rfl (flt (by decide)).1 ?_
      show Steps p.tables e below (T319.setTop (mkF m 81 #[.val (.int p0), .val (.int p1), .val (.int p2), .val (.int p3), .val (.int (1 : Int32)), .val (.int x297), .val (.int x299), .val (.int x301), .val (.ref b303), .val (.ref b311), .unset] [])) _
      refine XS.iload X319.here hx rfl (hb hby at_81) rfl ?_
      show Steps p.tables e below (T319.setTop (mkF m 83 #[.val (.int p0), .val (.int p1), .val (.int p2), .val (.int p3), .val (.int (1 : Int32)), .val (.int x297), .val (.int x299), .val (.int x301), .val (.ref b303), .val (.ref b311), .unset] [(.int x297)])) _
      refine XS.iconst X319.here hx rfl (hb hby at_83) ?_
      by_cases c324 : (1 : Int32) < x297
      ·
        show Steps p.tables e below (T319.setTop (mkF m 84 #[.val (.int p0), .val (.int p1), .val (.int p2), .val (.int p3), .val (.int (1 : Int32)), .val (.int x297), .val (.int x299), .val (.int x301), .val (.ref b303), .val (.ref b311), .unset] [(.int (1 : Int32)), (.int x297)])) _
        refine XS.icmpYes X319.here hx rfl (pc0 := 84) (pc' := 115) rfl (hb hby at_84) rfl (tlt c324).2.2.1 (by decide) (by decide) ?_
        show Steps p.tables e below (T319.setTop (mkF m 115 #[.val (.int p0), .val (.int p1), .val (.int p2), .val (.int p3), .val (.int (1 : Int32)), .val (.int x297), .val (.int x299), .val (.int x301), .val (.ref b303), .val (.ref b311), .unset] [])) _
        refine XS.iconst X319.here hx rfl (hb hby at_115) ?_
        rw [show x325 = (0 : Int32) from hx325.trans (by simp only [if_pos c324])] at k
        exact k
      ·
        show Steps p.tables e below (T319.setTop (mkF m 84 #[.val (.int p0), .val (.int p1), .val (.int p2), .val (.int p3), .val (.int (1 : Int32)), .val (.int x297), .val (.int x299), .val (.int x301), .val (.ref b303), .val (.ref b311), .unset] [(.int (1 : Int32)), (.int x297)])) _
        refine XS.icmpNo X319.here hx rfl (hb hby at_84) rfl (flt c324).2.2.1 ?_
        show Steps p.tables e below (T319.setTop (mkF m 87 #[.val (.int p0), .val (.int p1), .val (.int p2), .val (.int p3), .val (.int (1 : Int32)), .val (.int x297), .val (.int x299), .val (.int x301), .val (.ref b303), .val (.ref b311), .unset] [])) _
        refine XS.iload X319.here hx rfl (hb hby at_87) rfl ?_
        show Steps p.tables e below (T319.setTop (mkF m 89 #[.val (.int p0), .val (.int p1), .val (.int p2), .val (.int p3), .val (.int (1 : Int32)), .val (.int x297), .val (.int x299), .val (.int x301), .val (.ref b303), .val (.ref b311), .unset] [(.int (1 : Int32))])) _
        refine XS.iconst X319.here hx rfl (hb hby at_89) ?_
        show Steps p.tables e below (T319.setTop (mkF m 90 #[.val (.int p0), .val (.int p1), .val (.int p2), .val (.int p3), .val (.int (1 : Int32)), .val (.int x297), .val (.int x299), .val (.int x301), .val (.ref b303), .val (.ref b311), .unset] [(.int (2 : Int32)), (.int (1 : Int32))])) _
        refine XS.icmpYes X319.here hx rfl (pc0 := 90) (pc' := 99) rfl (hb hby at_90) rfl (tlt (by decide)).1 (by decide) (by decide) ?_
        show Steps p.tables e below (T319.setTop (mkF m 99 #[.val (.int p0), .val (.int p1), .val (.int p2), .val (.int p3), .val (.int (1 : Int32)), .val (.int x297), .val (.int x299), .val (.int x301), .val (.ref b303), .val (.ref b311), .unset] [])) _
        refine XS.iload X319.here hx rfl (hb hby at_99) rfl ?_
        show Steps p.tables e below (T319.setTop (mkF m 101 #[.val (.int p0), .val (.int p1), .val (.int p2), .val (.int p3), .val (.int (1 : Int32)), .val (.int x297), .val (.int x299), .val (.int x301), .val (.ref b303), .val (.ref b311), .unset] [(.int (1 : Int32))])) _
        refine XS.iconst X319.here hx rfl (hb hby at_101) ?_
        show Steps p.tables e below (T319.setTop (mkF m 102 #[.val (.int p0), .val (.int p1), .val (.int p2), .val (.int p3), .val (.int (1 : Int32)), .val (.int x297), .val (.int x299), .val (.int x301), .val (.ref b303), .val (.ref b311), .unset] [(.int (3 : Int32)), (.int (1 : Int32))])) _
        refine XS.icmpYes X319.here hx rfl (pc0 := 102) (pc' := 111) rfl (hb hby at_102) rfl (tlt (by decide)).1 (by decide) (by decide) ?_
        show Steps p.tables e below (T319.setTop (mkF m 111 #[.val (.int p0), .val (.int p1), .val (.int p2), .val (.int p3), .val (.int (1 : Int32)), .val (.int x297), .val (.int x299), .val (.int x301), .val (.ref b303), .val (.ref b311), .unset] [])) _
        refine XS.iconst X319.here hx rfl (hb hby at_111) ?_
        show Steps p.tables e below (T319.setTop (mkF m 112 #[.val (.int p0), .val (.int p1), .val (.int p2), .val (.int p3), .val (.int (1 : Int32)), .val (.int x297), .val (.int x299), .val (.int x301), .val (.ref b303), .val (.ref b311), .unset] [(.int (1 : Int32))])) _
        refine XS.goto X319.here hx rfl (pc0 := 112) (pc' := 116) rfl (hb hby at_112) (by decide) (by decide) ?_
        rw [show x325 = (1 : Int32) from hx325.trans (by simp only [if_neg c324])] at k
        exact k
    obtain ⟨cq327, kq327, q327a, q327b, q327c⟩ := isOf hZ rfl f320
    obtain ⟨_, _, ⟨T327, L327, k327, n327⟩, -, X327, ⟨Lc327, hQ327, l327, y327, z327⟩, st327⟩ := X319.virtualBack hx (y := (⟨"com/example/enact/enact/net/Marking", "isSafe", "()Z"⟩ : MethodName)) (z := (⟨"com/example/enact/enact/net/Marking", "isSafe", "()Z"⟩ : MethodName)) hown (mvT hZ (hw _ (List.mem_of_getElem? (i := 21) rfl))) (mvT hZ (hw _ (List.mem_of_getElem? (i := 22) rfl))) (notFace_of_selects (args := #[]) (mvT hZ (hw _ (List.mem_of_getElem? (i := 24) rfl)))) (mvT hZ (hw _ (List.mem_of_getElem? (i := 24) rfl))) (mvT hZ (hw _ (List.mem_of_getElem? (i := 23) rfl))) (by decide) (backOf (W := 0) (sf1 l Z aw hw [] b311 b303 k303 x297 T319.heap n0 Z323 f321 f322) hZ (hw _ (List.mem_of_getElem? (i := 25) rfl)) (hw _ (List.mem_of_getElem? (i := 4) rfl)) (by decide) (by decide)) q327a q327c (g := (mkF m 120 #[.val (.int p0), .val (.int p1), .val (.int p2), .val (.int p3), .val (.int (1 : Int32)), .val (.int x297), .val (.int x299), .val (.int x301), .val (.ref b303), .val (.ref b311), .val (.int x325)] [(.ref b311)])) rfl (by rw [hml]; rfl) (Steps.refl _) (argsL := []) (rest := []) (lenOf pd_4 rfl) rfl (by show 2 * 0 + _ ≤ _; exact Nat.le_of_eq rfl) (hb hby at_120) (fun _ _ => ⟨rfl, rfl, (by decide : 2 + 0 ≤ _), (by decide : 4 + 0 ≤ _)⟩)
    dsimp only [Pt.U, Pt.locs, Pt.cells, Pt.slots] at X327 l327 y327 z327 st327 hQ327
    subst l327 y327 z327
    obtain ⟨rfl, N327q, e327⟩ := hQ327
    have N327 := Fr.app N319 N327q
    have c328 : (if (1 : Int32) < x297 then (0 : Int32) else (1 : Int32)) = x325 := by
      exact hx325.symm
    obtain ⟨fs, hr, hrun, hended, hW, hsame⟩ := X327.leave (v := some (.int (1 : Int32))) (fun h => by rw [Bd.returns] at h; cases h)
    refine ⟨_, _, pre326 _ ?_, hrun, hended, _, _, rfl, ?_, ⟨_, rfl⟩, hW, hsame.mono (by decide) (by decide)⟩
    ·
      show Steps p.tables e below (T319.setTop (mkF m 116 #[.val (.int p0), .val (.int p1), .val (.int p2), .val (.int p3), .val (.int (1 : Int32)), .val (.int x297), .val (.int x299), .val (.int x301), .val (.ref b303), .val (.ref b311), .unset] [(.int x325)])) _
      refine XS.istore X319.here hx rfl (hb hby at_116) rfl (l' := #[.val (.int p0), .val (.int p1), .val (.int p2), .val (.int p3), .val (.int (1 : Int32)), .val (.int x297), .val (.int x299), .val (.int x301), .val (.ref b303), .val (.ref b311), .val (.int x325)]) rfl ?_
      show Steps p.tables e below (T319.setTop (mkF m 118 #[.val (.int p0), .val (.int p1), .val (.int p2), .val (.int p3), .val (.int (1 : Int32)), .val (.int x297), .val (.int x299), .val (.int x301), .val (.ref b303), .val (.ref b311), .val (.int x325)] [])) _
      refine XS.aload X319.here hx rfl (hb hby at_118) rfl rfl ?_
      show Steps p.tables e below (T319.setTop (mkF m 120 #[.val (.int p0), .val (.int p1), .val (.int p2), .val (.int p3), .val (.int (1 : Int32)), .val (.int x297), .val (.int x299), .val (.int x301), .val (.ref b303), .val (.ref b311), .val (.int x325)] [(.ref b311)])) _
      refine st327.trans ?_
      show Steps p.tables e below (T327.setTop (mkF m 123 #[.val (.int p0), .val (.int p1), .val (.int p2), .val (.int p3), .val (.int (1 : Int32)), .val (.int x297), .val (.int x299), .val (.int x301), .val (.ref b303), .val (.ref b311), .val (.int x325)] [(.int (if (1 : Int32) < x297 then (0 : Int32) else (1 : Int32)))])) _
      refine XS.iload X327.here hx rfl (hb hby at_123) rfl ?_
      show Steps p.tables e below (T327.setTop (mkF m 125 #[.val (.int p0), .val (.int p1), .val (.int p2), .val (.int p3), .val (.int (1 : Int32)), .val (.int x297), .val (.int x299), .val (.int x301), .val (.ref b303), .val (.ref b311), .val (.int x325)] [(.int x325), (.int (if (1 : Int32) < x297 then (0 : Int32) else (1 : Int32)))])) _
      refine XS.icmpNo X327.here hx rfl (hb hby at_125) rfl (teq c328).2 ?_
      show Steps p.tables e below (T327.setTop (mkF m 128 #[.val (.int p0), .val (.int p1), .val (.int p2), .val (.int p3), .val (.int (1 : Int32)), .val (.int x297), .val (.int x299), .val (.int x301), .val (.ref b303), .val (.ref b311), .val (.int x325)] [])) _
      refine XS.iconst X327.here hx rfl (hb hby at_128) ?_
      show Steps p.tables e below (T327.setTop (mkF m 129 #[.val (.int p0), .val (.int p1), .val (.int p2), .val (.int p3), .val (.int (1 : Int32)), .val (.int x297), .val (.int x299), .val (.int x301), .val (.ref b303), .val (.ref b311), .val (.int x325)] [(.int (1 : Int32))])) _
      refine XS.goto X327.here hx rfl (pc0 := 129) (pc' := 133) rfl (hb hby at_129) (by decide) (by decide) ?_
      show Steps p.tables e below (T327.setTop (mkF m 133 #[.val (.int p0), .val (.int p1), .val (.int p2), .val (.int p3), .val (.int (1 : Int32)), .val (.int x297), .val (.int x299), .val (.int x301), .val (.ref b303), .val (.ref b311), .val (.int x325)] [(.int (1 : Int32))])) _
      exact retZ X327 hx Bd.returns (by decide) (hb hby at_133) hr
    ·
      show Q_rm0 Z p0 p1 p2 p3 h0 n0 _ T327.heap _
      rw [e327]
      exact ⟨rfl, N327⟩
  ·
    obtain rfl : x271 = (2 : Int32) := hx271.trans q
    obtain ⟨x329, hx329⟩ : ∃ z : Int32, z = (p1 &&& (2147483647 : Int32)) := ⟨_, rfl⟩
    have pre330 : ∀ t, Steps p.tables e below (s₁.setTop (mkF m 11 #[.val (.int p0), .val (.int p1), .val (.int p2), .val (.int p3), .val (.int (2 : Int32)), .val (.int x329), .unset, .unset, .unset, .unset, .unset] [])) t → Steps p.tables e below (s₁.setTop (entryFrame m #[(.int p0), (.int p1), (.int p2), (.int p3)] maxLocals)) t := fun t k => by
      refine pre272 t ?_
      show Steps p.tables e below (s₁.setTop (mkF m 5 #[.val (.int p0), .val (.int p1), .val (.int p2), .val (.int p3), .val (.int (2 : Int32)), .unset, .unset, .unset, .unset, .unset, .unset] [])) _
      refine XS.iloadN X0.here hx rfl (hb hby at_5) rfl ?_
      show Steps p.tables e below (s₁.setTop (mkF m 6 #[.val (.int p0), .val (.int p1), .val (.int p2), .val (.int p3), .val (.int (2 : Int32)), .unset, .unset, .unset, .unset, .unset, .unset] [(.int p1)])) _
      refine X0.ldcInt hx hown (mvT hZ (hw _ (List.mem_of_getElem? (i := 0) rfl))) (g := (mkF m 6 #[.val (.int p0), .val (.int p1), .val (.int p2), .val (.int p3), .val (.int (2 : Int32)), .unset, .unset, .unset, .unset, .unset, .unset] [(.int p1)])) rfl (hb hby at_6) _ ?_
      show Steps p.tables e below (s₁.setTop (mkF m 8 #[.val (.int p0), .val (.int p1), .val (.int p2), .val (.int p3), .val (.int (2 : Int32)), .unset, .unset, .unset, .unset, .unset, .unset] [(.int (2147483647 : Int32)), (.int p1)])) _
      refine XS.iand X0.here hx rfl (hb hby at_8) rfl ?_
      show Steps p.tables e below (s₁.setTop (mkF m 9 #[.val (.int p0), .val (.int p1), .val (.int p2), .val (.int p3), .val (.int (2 : Int32)), .unset, .unset, .unset, .unset, .unset, .unset] [(.int (p1 &&& (2147483647 : Int32)))])) _
      refine XS.istore X0.here hx rfl (hb hby at_9) rfl (l' := #[.val (.int p0), .val (.int p1), .val (.int p2), .val (.int p3), .val (.int (2 : Int32)), .val (.int (p1 &&& (2147483647 : Int32))), .unset, .unset, .unset, .unset, .unset]) rfl ?_
      subst hx329
      exact k
    obtain ⟨x331, hx331⟩ : ∃ z : Int32, z = (p2 &&& (2147483647 : Int32)) := ⟨_, rfl⟩
    have pre332 : ∀ t, Steps p.tables e below (s₁.setTop (mkF m 17 #[.val (.int p0), .val (.int p1), .val (.int p2), .val (.int p3), .val (.int (2 : Int32)), .val (.int x329), .val (.int x331), .unset, .unset, .unset, .unset] [])) t → Steps p.tables e below (s₁.setTop (entryFrame m #[(.int p0), (.int p1), (.int p2), (.int p3)] maxLocals)) t := fun t k => by
      refine pre330 t ?_
      show Steps p.tables e below (s₁.setTop (mkF m 11 #[.val (.int p0), .val (.int p1), .val (.int p2), .val (.int p3), .val (.int (2 : Int32)), .val (.int x329), .unset, .unset, .unset, .unset, .unset] [])) _
      refine XS.iloadN X0.here hx rfl (hb hby at_11) rfl ?_
      show Steps p.tables e below (s₁.setTop (mkF m 12 #[.val (.int p0), .val (.int p1), .val (.int p2), .val (.int p3), .val (.int (2 : Int32)), .val (.int x329), .unset, .unset, .unset, .unset, .unset] [(.int p2)])) _
      refine X0.ldcInt hx hown (mvT hZ (hw _ (List.mem_of_getElem? (i := 0) rfl))) (g := (mkF m 12 #[.val (.int p0), .val (.int p1), .val (.int p2), .val (.int p3), .val (.int (2 : Int32)), .val (.int x329), .unset, .unset, .unset, .unset, .unset] [(.int p2)])) rfl (hb hby at_12) _ ?_
      show Steps p.tables e below (s₁.setTop (mkF m 14 #[.val (.int p0), .val (.int p1), .val (.int p2), .val (.int p3), .val (.int (2 : Int32)), .val (.int x329), .unset, .unset, .unset, .unset, .unset] [(.int (2147483647 : Int32)), (.int p2)])) _
      refine XS.iand X0.here hx rfl (hb hby at_14) rfl ?_
      show Steps p.tables e below (s₁.setTop (mkF m 15 #[.val (.int p0), .val (.int p1), .val (.int p2), .val (.int p3), .val (.int (2 : Int32)), .val (.int x329), .unset, .unset, .unset, .unset, .unset] [(.int (p2 &&& (2147483647 : Int32)))])) _
      refine XS.istore X0.here hx rfl (hb hby at_15) rfl (l' := #[.val (.int p0), .val (.int p1), .val (.int p2), .val (.int p3), .val (.int (2 : Int32)), .val (.int x329), .val (.int (p2 &&& (2147483647 : Int32))), .unset, .unset, .unset, .unset]) rfl ?_
      subst hx331
      exact k
    obtain ⟨x333, hx333⟩ : ∃ z : Int32, z = (p3 &&& (2147483647 : Int32)) := ⟨_, rfl⟩
    have pre334 : ∀ t, Steps p.tables e below (s₁.setTop (mkF m 23 #[.val (.int p0), .val (.int p1), .val (.int p2), .val (.int p3), .val (.int (2 : Int32)), .val (.int x329), .val (.int x331), .val (.int x333), .unset, .unset, .unset] [])) t → Steps p.tables e below (s₁.setTop (entryFrame m #[(.int p0), (.int p1), (.int p2), (.int p3)] maxLocals)) t := fun t k => by
      refine pre332 t ?_
      show Steps p.tables e below (s₁.setTop (mkF m 17 #[.val (.int p0), .val (.int p1), .val (.int p2), .val (.int p3), .val (.int (2 : Int32)), .val (.int x329), .val (.int x331), .unset, .unset, .unset, .unset] [])) _
      refine XS.iloadN X0.here hx rfl (hb hby at_17) rfl ?_
      show Steps p.tables e below (s₁.setTop (mkF m 18 #[.val (.int p0), .val (.int p1), .val (.int p2), .val (.int p3), .val (.int (2 : Int32)), .val (.int x329), .val (.int x331), .unset, .unset, .unset, .unset] [(.int p3)])) _
      refine X0.ldcInt hx hown (mvT hZ (hw _ (List.mem_of_getElem? (i := 0) rfl))) (g := (mkF m 18 #[.val (.int p0), .val (.int p1), .val (.int p2), .val (.int p3), .val (.int (2 : Int32)), .val (.int x329), .val (.int x331), .unset, .unset, .unset, .unset] [(.int p3)])) rfl (hb hby at_18) _ ?_
      show Steps p.tables e below (s₁.setTop (mkF m 20 #[.val (.int p0), .val (.int p1), .val (.int p2), .val (.int p3), .val (.int (2 : Int32)), .val (.int x329), .val (.int x331), .unset, .unset, .unset, .unset] [(.int (2147483647 : Int32)), (.int p3)])) _
      refine XS.iand X0.here hx rfl (hb hby at_20) rfl ?_
      show Steps p.tables e below (s₁.setTop (mkF m 21 #[.val (.int p0), .val (.int p1), .val (.int p2), .val (.int p3), .val (.int (2 : Int32)), .val (.int x329), .val (.int x331), .unset, .unset, .unset, .unset] [(.int (p3 &&& (2147483647 : Int32)))])) _
      refine XS.istore X0.here hx rfl (hb hby at_21) rfl (l' := #[.val (.int p0), .val (.int p1), .val (.int p2), .val (.int p3), .val (.int (2 : Int32)), .val (.int x329), .val (.int x331), .val (.int (p3 &&& (2147483647 : Int32))), .unset, .unset, .unset]) rfl ?_
      subst hx333
      exact k
    obtain ⟨T335, h335, k335, X335, e335, E335, A335, kc335, st335⟩ := newPk X0 hx hZ (hw _ (List.mem_of_getElem? (i := 1) rfl)) e0 (g := (mkF m 25 #[.val (.int p0), .val (.int p1), .val (.int p2), .val (.int p3), .val (.int (2 : Int32)), .val (.int x329), .val (.int x331), .val (.int x333), .unset, .unset, .unset] [(.int (2 : Int32))])) rfl (hb hby at_25) rfl (by decide) (cap := 2) (by decide) (by decide) (by decide) (by decide)
    obtain ⟨b335, g335⟩ : ∃ z, z = h0.size := ⟨_, rfl⟩
    rw [← g335] at A335 st335
    have gn336 : n0 ≤ b335 := Nat.le_trans Z0 (Nat.le_of_eq g335.symm)
    have Z337 : n0 ≤ h335.size := Nat.le_trans Z0 E335.1
    have f338 : Arv Z h335 b335 k335 .int (2 : Int32) [(.int (0 : Int32)), (.int (0 : Int32))] (.int (0 : Int32)) := (Arv.new A335 (by decide)).pad (pad_rep [] (.int (0 : Int32)) 2)
    obtain ⟨cl339, Ar339, q339, S339, N339, H339, G339⟩ := id f338
    have hin339 : ¬ ((0 : Int32) < 0 ∨ cl339.slots.size ≤ ((0 : Int32)).toNatClampNeg) := inb_of S339 ⟨by decide, by decide⟩
    obtain ⟨T339, h339, X339, e339, W339, st339⟩ := stI X335 hx hZ e335 Ar339 (j := (0 : Int32)) hin339 (g := (mkF m 39 #[.val (.int p0), .val (.int p1), .val (.int p2), .val (.int p3), .val (.int (2 : Int32)), .val (.int x329), .val (.int x331), .val (.int x333), .val (.ref b335), .unset, .unset] [(.int x329), (.int (0 : Int32)), (.ref b335)])) rfl rfl (hb hby at_39)
    have Z340 : n0 ≤ h339.size := Nat.le_trans Z337 (Keep.of_wr W339).1
    have N341 := Fr.snoc X339 N0 gn336
    have f342 : Arv Z h339 b335 k335 .int (2 : Int32) [(.int x329), (.int (0 : Int32))] (.int (0 : Int32)) := Arv.set Ar339 q339 S339 N339 H339 G339 rfl W339 0 rfl (Nat.le_of_ble_eq_true rfl)
    obtain ⟨cl343, Ar343, q343, S343, N343, H343, G343⟩ := id f342
    have hin343 : ¬ ((1 : Int32) < 0 ∨ cl343.slots.size ≤ ((1 : Int32)).toNatClampNeg) := inb_of S343 ⟨by decide, by decide⟩
    obtain ⟨T343, h343, X343, e343, W343, st343⟩ := stI X339 hx hZ e339 Ar343 (j := (1 : Int32)) hin343 (g := (mkF m 51 #[.val (.int p0), .val (.int p1), .val (.int p2), .val (.int p3), .val (.int (2 : Int32)), .val (.int x329), .val (.int x331), .val (.int x333), .val (.ref b335), .unset, .unset] [(.int x331), (.int (1 : Int32)), (.ref b335)])) rfl rfl (hb hby at_51)
    have Z344 : n0 ≤ h343.size := Nat.le_trans Z340 (Keep.of_wr W343).1
    have N345 := Fr.snoc X343 N341 gn336
    have f346 : Arv Z h343 b335 k335 .int (2 : Int32) [(.int x329), (.int x331)] (.int (0 : Int32)) := Arv.set Ar343 q343 S343 N343 H343 G343 rfl W343 1 rfl (Nat.le_of_ble_eq_true rfl)
    obtain ⟨T347, h347, X347, e347, E347, A347, D347, -, st347⟩ := newO X343 hx hZ hown (hw _ (List.mem_of_getElem? (i := 2) rfl)) (hw _ (List.mem_of_getElem? (i := 3) rfl)) (hw _ (List.mem_of_getElem? (i := 4) rfl)) e343 (g := (mkF m 64 #[.val (.int p0), .val (.int p1), .val (.int p2), .val (.int p3), .val (.int (2 : Int32)), .val (.int x329), .val (.int x331), .val (.int x333), .val (.ref b335), .unset, .unset] [])) rfl (hb hby at_64) (by decide) (by decide)
    obtain ⟨b347, g347⟩ : ∃ z, z = h343.size := ⟨_, rfl⟩
    rw [← g347] at A347 D347 st347
    have ne348 : b335 ≠ b347 := Nat.ne_of_lt (Nat.lt_of_lt_of_le f346.lt (Nat.le_of_eq g347.symm))
    have gn349 : n0 ≤ b347 := Nat.le_trans Z344 (Nat.le_of_eq g347.symm)
    have f350 := f346.ext E347
    have Z351 : n0 ≤ h347.size := Nat.le_trans Z344 E347.1
    have f352 : Fld Z h347 b347 "com/example/enact/enact/net/Marking" "tokens" "[I" .null := D347 (Or.inr (hw _ (List.mem_of_getElem? (i := 12) rfl))) (ty := (.array .int)) (by decide)
    have f353 : Fld Z h347 b347 "com/example/enact/enact/net/Marking" "total" "J" (.long (0 : Int64)) := D347 (Or.inr (hw _ (List.mem_of_getElem? (i := 14) rfl))) (ty := .long) (by decide)
    have f354 : Fld Z h347 b347 "com/example/enact/enact/net/Marking" "hash" "I" (.int (0 : Int32)) := D347 (Or.inr (hw _ (List.mem_of_getElem? (i := 20) rfl))) (ty := .int) (by decide)
    obtain ⟨_, _, ⟨T355, L355, k355, n355⟩, -, X355, ⟨Lc355, hQ355, l355, y355, z355⟩, st355⟩ := X347.specialBack hx (y := (⟨"com/example/enact/enact/net/Marking", "<init>", "([I)V"⟩ : MethodName)) rfl hown (mvT hZ (hw _ (List.mem_of_getElem? (i := 5) rfl))) (mvT hZ (hw _ (List.mem_of_getElem? (i := 6) rfl))) (mvT hZ (hw _ (List.mem_of_getElem? (i := 7) rfl))) (by decide) (backOf (W := 1) (ct2 l Z aw hw [] b347 b335 k335 x329 x331 h347 n0 Z351 A347 f352 f353 f354 gn349 f350 kc335 (Ne.symm ne348)) hZ (hw _ (List.mem_of_getElem? (i := 7) rfl)) (hw _ (List.mem_of_getElem? (i := 4) rfl)) (by decide) (by decide)) (g := (mkF m 70 #[.val (.int p0), .val (.int p1), .val (.int p2), .val (.int p3), .val (.int (2 : Int32)), .val (.int x329), .val (.int x331), .val (.int x333), .val (.ref b335), .unset, .unset] [(.ref b335), (.ref b347), (.ref b347)])) rfl (by rw [hml]; rfl) (Steps.refl _) (a := b347) (argsL := [(.ref b335)]) (rest := [(.ref b347)]) (lenOf pd_3 rfl) rfl (by show 2 * 0 + _ ≤ _; exact Nat.le_of_eq rfl) (hb hby at_70) (fun _ _ => ⟨rfl, e347, (by decide : 2 + 0 ≤ _), (by decide : 5 + 0 ≤ _)⟩)
    dsimp only [Pt.U, Pt.locs, Pt.cells, Pt.slots] at X355 l355 y355 z355 st355 hQ355
    subst l355 y355 z355
    obtain ⟨rfl, N355q, K355, f356, f357⟩ := hQ355
    have N355 := Fr.app N345 N355q
    have f358 := f350.keep K355 (ninS ne348 nin0)
    have Z359 : n0 ≤ T355.heap.size := Nat.le_trans Z351 K355.1
    obtain ⟨x362, hx362⟩ : ∃ z : Int32, z = (if (1 : Int32) < x329 then (0 : Int32) else (if (1 : Int32) < x331 then (0 : Int32) else (1 : Int32))) := ⟨_, rfl⟩
    have pre363 : ∀ t, Steps p.tables e below (T355.setTop (mkF m 116 #[.val (.int p0), .val (.int p1), .val (.int p2), .val (.int p3), .val (.int (2 : Int32)), .val (.int x329), .val (.int x331), .val (.int x333), .val (.ref b335), .val (.ref b347), .unset] [(.int x362)])) t → Steps p.tables e below (s₁.setTop (entryFrame m #[(.int p0), (.int p1), (.int p2), (.int p3)] maxLocals)) t := fun t k => by
      refine pre334 t ?_
      show Steps p.tables e below (s₁.setTop (mkF m 23 #[.val (.int p0), .val (.int p1), .val (.int p2), .val (.int p3), .val (.int (2 : Int32)), .val (.int x329), .val (.int x331), .val (.int x333), .unset, .unset, .unset] [])) _
      refine XS.iload X0.here hx rfl (hb hby at_23) rfl ?_
      show Steps p.tables e below (s₁.setTop (mkF m 25 #[.val (.int p0), .val (.int p1), .val (.int p2), .val (.int p3), .val (.int (2 : Int32)), .val (.int x329), .val (.int x331), .val (.int x333), .unset, .unset, .unset] [(.int (2 : Int32))])) _
      refine st335 _ ?_
      show Steps p.tables e below (T335.setTop (mkF m 27 #[.val (.int p0), .val (.int p1), .val (.int p2), .val (.int p3), .val (.int (2 : Int32)), .val (.int x329), .val (.int x331), .val (.int x333), .unset, .unset, .unset] [(.ref b335)])) _
      refine XS.astore X335.here hx rfl (hb hby at_27) rfl rfl (l' := #[.val (.int p0), .val (.int p1), .val (.int p2), .val (.int p3), .val (.int (2 : Int32)), .val (.int x329), .val (.int x331), .val (.int x333), .val (.ref b335), .unset, .unset]) rfl ?_
      show Steps p.tables e below (T335.setTop (mkF m 29 #[.val (.int p0), .val (.int p1), .val (.int p2), .val (.int p3), .val (.int (2 : Int32)), .val (.int x329), .val (.int x331), .val (.int x333), .val (.ref b335), .unset, .unset] [])) _
      refine XS.iload X335.here hx rfl (hb hby at_29) rfl ?_
      show Steps p.tables e below (T335.setTop (mkF m 31 #[.val (.int p0), .val (.int p1), .val (.int p2), .val (.int p3), .val (.int (2 : Int32)), .val (.int x329), .val (.int x331), .val (.int x333), .val (.ref b335), .unset, .unset] [(.int (2 : Int32))])) _
      refine XS.ifNo X335.here hx rfl (hb hby at_31) rfl ((if0 _ _).trans (tlt (by decide)).2.2.2) ?_
      show Steps p.tables e below (T335.setTop (mkF m 34 #[.val (.int p0), .val (.int p1), .val (.int p2), .val (.int p3), .val (.int (2 : Int32)), .val (.int x329), .val (.int x331), .val (.int x333), .val (.ref b335), .unset, .unset] [])) _
      refine XS.aload X335.here hx rfl (hb hby at_34) rfl rfl ?_
      show Steps p.tables e below (T335.setTop (mkF m 36 #[.val (.int p0), .val (.int p1), .val (.int p2), .val (.int p3), .val (.int (2 : Int32)), .val (.int x329), .val (.int x331), .val (.int x333), .val (.ref b335), .unset, .unset] [(.ref b335)])) _
      refine XS.iconst X335.here hx rfl (hb hby at_36) ?_
      show Steps p.tables e below (T335.setTop (mkF m 37 #[.val (.int p0), .val (.int p1), .val (.int p2), .val (.int p3), .val (.int (2 : Int32)), .val (.int x329), .val (.int x331), .val (.int x333), .val (.ref b335), .unset, .unset] [(.int (0 : Int32)), (.ref b335)])) _
      refine XS.iload X335.here hx rfl (hb hby at_37) rfl ?_
      show Steps p.tables e below (T335.setTop (mkF m 39 #[.val (.int p0), .val (.int p1), .val (.int p2), .val (.int p3), .val (.int (2 : Int32)), .val (.int x329), .val (.int x331), .val (.int x333), .val (.ref b335), .unset, .unset] [(.int x329), (.int (0 : Int32)), (.ref b335)])) _
      refine st339 _ ?_
      show Steps p.tables e below (T339.setTop (mkF m 40 #[.val (.int p0), .val (.int p1), .val (.int p2), .val (.int p3), .val (.int (2 : Int32)), .val (.int x329), .val (.int x331), .val (.int x333), .val (.ref b335), .unset, .unset] [])) _
      refine XS.iload X339.here hx rfl (hb hby at_40) rfl ?_
      show Steps p.tables e below (T339.setTop (mkF m 42 #[.val (.int p0), .val (.int p1), .val (.int p2), .val (.int p3), .val (.int (2 : Int32)), .val (.int x329), .val (.int x331), .val (.int x333), .val (.ref b335), .unset, .unset] [(.int (2 : Int32))])) _
      refine XS.iconst X339.here hx rfl (hb hby at_42) ?_
      show Steps p.tables e below (T339.setTop (mkF m 43 #[.val (.int p0), .val (.int p1), .val (.int p2), .val (.int p3), .val (.int (2 : Int32)), .val (.int x329), .val (.int x331), .val (.int x333), .val (.ref b335), .unset, .unset] [(.int (1 : Int32)), (.int (2 : Int32))])) _
      refine XS.icmpNo X339.here hx rfl (hb hby at_43) rfl (tlt (by decide)).2.2.2 ?_
      show Steps p.tables e below (T339.setTop (mkF m 46 #[.val (.int p0), .val (.int p1), .val (.int p2), .val (.int p3), .val (.int (2 : Int32)), .val (.int x329), .val (.int x331), .val (.int x333), .val (.ref b335), .unset, .unset] [])) _
      refine XS.aload X339.here hx rfl (hb hby at_46) rfl rfl ?_
      show Steps p.tables e below (T339.setTop (mkF m 48 #[.val (.int p0), .val (.int p1), .val (.int p2), .val (.int p3), .val (.int (2 : Int32)), .val (.int x329), .val (.int x331), .val (.int x333), .val (.ref b335), .unset, .unset] [(.ref b335)])) _
      refine XS.iconst X339.here hx rfl (hb hby at_48) ?_
      show Steps p.tables e below (T339.setTop (mkF m 49 #[.val (.int p0), .val (.int p1), .val (.int p2), .val (.int p3), .val (.int (2 : Int32)), .val (.int x329), .val (.int x331), .val (.int x333), .val (.ref b335), .unset, .unset] [(.int (1 : Int32)), (.ref b335)])) _
      refine XS.iload X339.here hx rfl (hb hby at_49) rfl ?_
      show Steps p.tables e below (T339.setTop (mkF m 51 #[.val (.int p0), .val (.int p1), .val (.int p2), .val (.int p3), .val (.int (2 : Int32)), .val (.int x329), .val (.int x331), .val (.int x333), .val (.ref b335), .unset, .unset] [(.int x331), (.int (1 : Int32)), (.ref b335)])) _
      refine st343 _ ?_
      show Steps p.tables e below (T343.setTop (mkF m 52 #[.val (.int p0), .val (.int p1), .val (.int p2), .val (.int p3), .val (.int (2 : Int32)), .val (.int x329), .val (.int x331), .val (.int x333), .val (.ref b335), .unset, .unset] [])) _
      refine XS.iload X343.here hx rfl (hb hby at_52) rfl ?_
      show Steps p.tables e below (T343.setTop (mkF m 54 #[.val (.int p0), .val (.int p1), .val (.int p2), .val (.int p3), .val (.int (2 : Int32)), .val (.int x329), .val (.int x331), .val (.int x333), .val (.ref b335), .unset, .unset] [(.int (2 : Int32))])) _
      refine XS.iconst X343.here hx rfl (hb hby at_54) ?_
      show Steps p.tables e below (T343.setTop (mkF m 55 #[.val (.int p0), .val (.int p1), .val (.int p2), .val (.int p3), .val (.int (2 : Int32)), .val (.int x329), .val (.int x331), .val (.int x333), .val (.ref b335), .unset, .unset] [(.int (2 : Int32)), (.int (2 : Int32))])) _
      refine XS.icmpYes X343.here hx rfl (pc0 := 55) (pc' := 64) rfl (hb hby at_55) rfl (flt (by decide)).2.2.2 (by decide) (by decide) ?_
      show Steps p.tables e below (T343.setTop (mkF m 64 #[.val (.int p0), .val (.int p1), .val (.int p2), .val (.int p3), .val (.int (2 : Int32)), .val (.int x329), .val (.int x331), .val (.int x333), .val (.ref b335), .unset, .unset] [])) _
      refine st347 _ ?_
      show Steps p.tables e below (T347.setTop (mkF m 67 #[.val (.int p0), .val (.int p1), .val (.int p2), .val (.int p3), .val (.int (2 : Int32)), .val (.int x329), .val (.int x331), .val (.int x333), .val (.ref b335), .unset, .unset] [(.ref b347)])) _
      refine XS.dup X347.here hx rfl (hb hby at_67) rfl rfl ?_
      show Steps p.tables e below (T347.setTop (mkF m 68 #[.val (.int p0), .val (.int p1), .val (.int p2), .val (.int p3), .val (.int (2 : Int32)), .val (.int x329), .val (.int x331), .val (.int x333), .val (.ref b335), .unset, .unset] [(.ref b347), (.ref b347)])) _
      refine XS.aload X347.here hx rfl (hb hby at_68) rfl rfl ?_
      show Steps p.tables e below (T347.setTop (mkF m 70 #[.val (.int p0), .val (.int p1), .val (.int p2), .val (.int p3), .val (.int (2 : Int32)), .val (.int x329), .val (.int x331), .val (.int x333), .val (.ref b335), .unset, .unset] [(.ref b335), (.ref b347), (.ref b347)])) _
      refine st355.trans ?_
      show Steps p.tables e below (T355.setTop (mkF m 73 #[.val (.int p0), .val (.int p1), .val (.int p2), .val (.int p3), .val (.int (2 : Int32)), .val (.int x329), .val (.int x331), .val (.int x333), .val (.ref b335), .unset, .unset] [(.ref b347)])) _
      refine XS.astore X355.here hx rfl (hb hby at_73) rfl rfl (l' := #[.val (.int p0), .val (.int p1), .val (.int p2), .val (.int p3), .val (.int (2 : Int32)), .val (.int x329), .val (.int x331), .val (.int x333), .val (.ref b335), .val (.ref b347), .unset]) rfl ?_
      show Steps p.tables e below (T355.setTop (mkF m 75 #[.val (.int p0), .val (.int p1), .val (.int p2), .val (.int p3), .val (.int (2 : Int32)), .val (.int x329), .val (.int x331), .val (.int x333), .val (.ref b335), .val (.ref b347), .unset] [])) _
      refine XS.iload X355.here hx rfl (hb hby at_75) rfl ?_
      show Steps p.tables e below (T355.setTop (mkF m 77 #[.val (.int p0), .val (.int p1), .val (.int p2), .val (.int p3), .val (.int (2 : Int32)), .val (.int x329), .val (.int x331), .val (.int x333), .val (.ref b335), .val (.ref b347), .unset] [(.int (2 : Int32))])) _
      refine XS.iconst X355.here hx rfl (hb hby at_77) ?_
      show Steps p.tables e below (T355.setTop (mkF m 78 #[.val (.int p0), .val (.int p1), .val (.int p2), .val (.int p3), .val (.int (2 : Int32)), .val (.int x329), .val (.int x331), .val (.int x333), .val (.ref b335), .val (.ref b347), .unset] [(.int (1 : Int32)), (.int (2 : Int32))])) _
      refine XS.icmpNo X355.here hx rfl (hb hby at_78) rfl (flt (by decide)).1 ?_
      show Steps p.tables e below (T355.setTop (mkF m 81 #[.val (.int p0), .val (.int p1), .val (.int p2), .val (.int p3), .val (.int (2 : Int32)), .val (.int x329), .val (.int x331), .val (.int x333), .val (.ref b335), .val (.ref b347), .unset] [])) _
      refine XS.iload X355.here hx rfl (hb hby at_81) rfl ?_
      show Steps p.tables e below (T355.setTop (mkF m 83 #[.val (.int p0), .val (.int p1), .val (.int p2), .val (.int p3), .val (.int (2 : Int32)), .val (.int x329), .val (.int x331), .val (.int x333), .val (.ref b335), .val (.ref b347), .unset] [(.int x329)])) _
      refine XS.iconst X355.here hx rfl (hb hby at_83) ?_
      by_cases c360 : (1 : Int32) < x329
      ·
        show Steps p.tables e below (T355.setTop (mkF m 84 #[.val (.int p0), .val (.int p1), .val (.int p2), .val (.int p3), .val (.int (2 : Int32)), .val (.int x329), .val (.int x331), .val (.int x333), .val (.ref b335), .val (.ref b347), .unset] [(.int (1 : Int32)), (.int x329)])) _
        refine XS.icmpYes X355.here hx rfl (pc0 := 84) (pc' := 115) rfl (hb hby at_84) rfl (tlt c360).2.2.1 (by decide) (by decide) ?_
        show Steps p.tables e below (T355.setTop (mkF m 115 #[.val (.int p0), .val (.int p1), .val (.int p2), .val (.int p3), .val (.int (2 : Int32)), .val (.int x329), .val (.int x331), .val (.int x333), .val (.ref b335), .val (.ref b347), .unset] [])) _
        refine XS.iconst X355.here hx rfl (hb hby at_115) ?_
        rw [show x362 = (0 : Int32) from hx362.trans (by simp only [if_pos c360])] at k
        exact k
      ·
        show Steps p.tables e below (T355.setTop (mkF m 84 #[.val (.int p0), .val (.int p1), .val (.int p2), .val (.int p3), .val (.int (2 : Int32)), .val (.int x329), .val (.int x331), .val (.int x333), .val (.ref b335), .val (.ref b347), .unset] [(.int (1 : Int32)), (.int x329)])) _
        refine XS.icmpNo X355.here hx rfl (hb hby at_84) rfl (flt c360).2.2.1 ?_
        show Steps p.tables e below (T355.setTop (mkF m 87 #[.val (.int p0), .val (.int p1), .val (.int p2), .val (.int p3), .val (.int (2 : Int32)), .val (.int x329), .val (.int x331), .val (.int x333), .val (.ref b335), .val (.ref b347), .unset] [])) _
        refine XS.iload X355.here hx rfl (hb hby at_87) rfl ?_
        show Steps p.tables e below (T355.setTop (mkF m 89 #[.val (.int p0), .val (.int p1), .val (.int p2), .val (.int p3), .val (.int (2 : Int32)), .val (.int x329), .val (.int x331), .val (.int x333), .val (.ref b335), .val (.ref b347), .unset] [(.int (2 : Int32))])) _
        refine XS.iconst X355.here hx rfl (hb hby at_89) ?_
        show Steps p.tables e below (T355.setTop (mkF m 90 #[.val (.int p0), .val (.int p1), .val (.int p2), .val (.int p3), .val (.int (2 : Int32)), .val (.int x329), .val (.int x331), .val (.int x333), .val (.ref b335), .val (.ref b347), .unset] [(.int (2 : Int32)), (.int (2 : Int32))])) _
        refine XS.icmpNo X355.here hx rfl (hb hby at_90) rfl (flt (by decide)).1 ?_
        show Steps p.tables e below (T355.setTop (mkF m 93 #[.val (.int p0), .val (.int p1), .val (.int p2), .val (.int p3), .val (.int (2 : Int32)), .val (.int x329), .val (.int x331), .val (.int x333), .val (.ref b335), .val (.ref b347), .unset] [])) _
        refine XS.iload X355.here hx rfl (hb hby at_93) rfl ?_
        show Steps p.tables e below (T355.setTop (mkF m 95 #[.val (.int p0), .val (.int p1), .val (.int p2), .val (.int p3), .val (.int (2 : Int32)), .val (.int x329), .val (.int x331), .val (.int x333), .val (.ref b335), .val (.ref b347), .unset] [(.int x331)])) _
        refine XS.iconst X355.here hx rfl (hb hby at_95) ?_
        by_cases c361 : (1 : Int32) < x331
        ·
          show Steps p.tables e below (T355.setTop (mkF m 96 #[.val (.int p0), .val (.int p1), .val (.int p2), .val (.int p3), .val (.int (2 : Int32)), .val (.int x329), .val (.int x331), .val (.int x333), .val (.ref b335), .val (.ref b347), .unset] [(.int (1 : Int32)), (.int x331)])) _
          refine XS.icmpYes X355.here hx rfl (pc0 := 96) (pc' := 115) rfl (hb hby at_96) rfl (tlt c361).2.2.1 (by decide) (by decide) ?_
          show Steps p.tables e below (T355.setTop (mkF m 115 #[.val (.int p0), .val (.int p1), .val (.int p2), .val (.int p3), .val (.int (2 : Int32)), .val (.int x329), .val (.int x331), .val (.int x333), .val (.ref b335), .val (.ref b347), .unset] [])) _
          refine XS.iconst X355.here hx rfl (hb hby at_115) ?_
          rw [show x362 = (0 : Int32) from hx362.trans (by simp only [if_neg c360, if_pos c361])] at k
          exact k
        ·
          show Steps p.tables e below (T355.setTop (mkF m 96 #[.val (.int p0), .val (.int p1), .val (.int p2), .val (.int p3), .val (.int (2 : Int32)), .val (.int x329), .val (.int x331), .val (.int x333), .val (.ref b335), .val (.ref b347), .unset] [(.int (1 : Int32)), (.int x331)])) _
          refine XS.icmpNo X355.here hx rfl (hb hby at_96) rfl (flt c361).2.2.1 ?_
          show Steps p.tables e below (T355.setTop (mkF m 99 #[.val (.int p0), .val (.int p1), .val (.int p2), .val (.int p3), .val (.int (2 : Int32)), .val (.int x329), .val (.int x331), .val (.int x333), .val (.ref b335), .val (.ref b347), .unset] [])) _
          refine XS.iload X355.here hx rfl (hb hby at_99) rfl ?_
          show Steps p.tables e below (T355.setTop (mkF m 101 #[.val (.int p0), .val (.int p1), .val (.int p2), .val (.int p3), .val (.int (2 : Int32)), .val (.int x329), .val (.int x331), .val (.int x333), .val (.ref b335), .val (.ref b347), .unset] [(.int (2 : Int32))])) _
          refine XS.iconst X355.here hx rfl (hb hby at_101) ?_
          show Steps p.tables e below (T355.setTop (mkF m 102 #[.val (.int p0), .val (.int p1), .val (.int p2), .val (.int p3), .val (.int (2 : Int32)), .val (.int x329), .val (.int x331), .val (.int x333), .val (.ref b335), .val (.ref b347), .unset] [(.int (3 : Int32)), (.int (2 : Int32))])) _
          refine XS.icmpYes X355.here hx rfl (pc0 := 102) (pc' := 111) rfl (hb hby at_102) rfl (tlt (by decide)).1 (by decide) (by decide) ?_
          show Steps p.tables e below (T355.setTop (mkF m 111 #[.val (.int p0), .val (.int p1), .val (.int p2), .val (.int p3), .val (.int (2 : Int32)), .val (.int x329), .val (.int x331), .val (.int x333), .val (.ref b335), .val (.ref b347), .unset] [])) _
          refine XS.iconst X355.here hx rfl (hb hby at_111) ?_
          show Steps p.tables e below (T355.setTop (mkF m 112 #[.val (.int p0), .val (.int p1), .val (.int p2), .val (.int p3), .val (.int (2 : Int32)), .val (.int x329), .val (.int x331), .val (.int x333), .val (.ref b335), .val (.ref b347), .unset] [(.int (1 : Int32))])) _
          refine XS.goto X355.here hx rfl (pc0 := 112) (pc' := 116) rfl (hb hby at_112) (by decide) (by decide) ?_
          rw [show x362 = (1 : Int32) from hx362.trans (by simp only [if_neg c360, if_neg c361])] at k
          exact k
    obtain ⟨cq364, kq364, q364a, q364b, q364c⟩ := isOf hZ rfl f356
    obtain ⟨_, _, ⟨T364, L364, k364, n364⟩, -, X364, ⟨Lc364, hQ364, l364, y364, z364⟩, st364⟩ := X355.virtualBack hx (y := (⟨"com/example/enact/enact/net/Marking", "isSafe", "()Z"⟩ : MethodName)) (z := (⟨"com/example/enact/enact/net/Marking", "isSafe", "()Z"⟩ : MethodName)) hown (mvT hZ (hw _ (List.mem_of_getElem? (i := 21) rfl))) (mvT hZ (hw _ (List.mem_of_getElem? (i := 22) rfl))) (notFace_of_selects (args := #[]) (mvT hZ (hw _ (List.mem_of_getElem? (i := 24) rfl)))) (mvT hZ (hw _ (List.mem_of_getElem? (i := 24) rfl))) (mvT hZ (hw _ (List.mem_of_getElem? (i := 23) rfl))) (by decide) (backOf (W := 0) (sf2 l Z aw hw [] b347 b335 k335 x329 x331 T355.heap n0 Z359 f357 f358) hZ (hw _ (List.mem_of_getElem? (i := 25) rfl)) (hw _ (List.mem_of_getElem? (i := 4) rfl)) (by decide) (by decide)) q364a q364c (g := (mkF m 120 #[.val (.int p0), .val (.int p1), .val (.int p2), .val (.int p3), .val (.int (2 : Int32)), .val (.int x329), .val (.int x331), .val (.int x333), .val (.ref b335), .val (.ref b347), .val (.int x362)] [(.ref b347)])) rfl (by rw [hml]; rfl) (Steps.refl _) (argsL := []) (rest := []) (lenOf pd_4 rfl) rfl (by show 2 * 0 + _ ≤ _; exact Nat.le_of_eq rfl) (hb hby at_120) (fun _ _ => ⟨rfl, rfl, (by decide : 2 + 0 ≤ _), (by decide : 5 + 0 ≤ _)⟩)
    dsimp only [Pt.U, Pt.locs, Pt.cells, Pt.slots] at X364 l364 y364 z364 st364 hQ364
    subst l364 y364 z364
    obtain ⟨rfl, N364q, e364⟩ := hQ364
    have N364 := Fr.app N355 N364q
    have c365 : (if (1 : Int32) < x329 then (0 : Int32) else (if (1 : Int32) < x331 then (0 : Int32) else (1 : Int32))) = x362 := by
      exact hx362.symm
    obtain ⟨fs, hr, hrun, hended, hW, hsame⟩ := X364.leave (v := some (.int (1 : Int32))) (fun h => by rw [Bd.returns] at h; cases h)
    refine ⟨_, _, pre363 _ ?_, hrun, hended, _, _, rfl, ?_, ⟨_, rfl⟩, hW, hsame.mono (by decide) (by decide)⟩
    ·
      show Steps p.tables e below (T355.setTop (mkF m 116 #[.val (.int p0), .val (.int p1), .val (.int p2), .val (.int p3), .val (.int (2 : Int32)), .val (.int x329), .val (.int x331), .val (.int x333), .val (.ref b335), .val (.ref b347), .unset] [(.int x362)])) _
      refine XS.istore X355.here hx rfl (hb hby at_116) rfl (l' := #[.val (.int p0), .val (.int p1), .val (.int p2), .val (.int p3), .val (.int (2 : Int32)), .val (.int x329), .val (.int x331), .val (.int x333), .val (.ref b335), .val (.ref b347), .val (.int x362)]) rfl ?_
      show Steps p.tables e below (T355.setTop (mkF m 118 #[.val (.int p0), .val (.int p1), .val (.int p2), .val (.int p3), .val (.int (2 : Int32)), .val (.int x329), .val (.int x331), .val (.int x333), .val (.ref b335), .val (.ref b347), .val (.int x362)] [])) _
      refine XS.aload X355.here hx rfl (hb hby at_118) rfl rfl ?_
      show Steps p.tables e below (T355.setTop (mkF m 120 #[.val (.int p0), .val (.int p1), .val (.int p2), .val (.int p3), .val (.int (2 : Int32)), .val (.int x329), .val (.int x331), .val (.int x333), .val (.ref b335), .val (.ref b347), .val (.int x362)] [(.ref b347)])) _
      refine st364.trans ?_
      show Steps p.tables e below (T364.setTop (mkF m 123 #[.val (.int p0), .val (.int p1), .val (.int p2), .val (.int p3), .val (.int (2 : Int32)), .val (.int x329), .val (.int x331), .val (.int x333), .val (.ref b335), .val (.ref b347), .val (.int x362)] [(.int (if (1 : Int32) < x329 then (0 : Int32) else (if (1 : Int32) < x331 then (0 : Int32) else (1 : Int32))))])) _
      refine XS.iload X364.here hx rfl (hb hby at_123) rfl ?_
      show Steps p.tables e below (T364.setTop (mkF m 125 #[.val (.int p0), .val (.int p1), .val (.int p2), .val (.int p3), .val (.int (2 : Int32)), .val (.int x329), .val (.int x331), .val (.int x333), .val (.ref b335), .val (.ref b347), .val (.int x362)] [(.int x362), (.int (if (1 : Int32) < x329 then (0 : Int32) else (if (1 : Int32) < x331 then (0 : Int32) else (1 : Int32))))])) _
      refine XS.icmpNo X364.here hx rfl (hb hby at_125) rfl (teq c365).2 ?_
      show Steps p.tables e below (T364.setTop (mkF m 128 #[.val (.int p0), .val (.int p1), .val (.int p2), .val (.int p3), .val (.int (2 : Int32)), .val (.int x329), .val (.int x331), .val (.int x333), .val (.ref b335), .val (.ref b347), .val (.int x362)] [])) _
      refine XS.iconst X364.here hx rfl (hb hby at_128) ?_
      show Steps p.tables e below (T364.setTop (mkF m 129 #[.val (.int p0), .val (.int p1), .val (.int p2), .val (.int p3), .val (.int (2 : Int32)), .val (.int x329), .val (.int x331), .val (.int x333), .val (.ref b335), .val (.ref b347), .val (.int x362)] [(.int (1 : Int32))])) _
      refine XS.goto X364.here hx rfl (pc0 := 129) (pc' := 133) rfl (hb hby at_129) (by decide) (by decide) ?_
      show Steps p.tables e below (T364.setTop (mkF m 133 #[.val (.int p0), .val (.int p1), .val (.int p2), .val (.int p3), .val (.int (2 : Int32)), .val (.int x329), .val (.int x331), .val (.int x333), .val (.ref b335), .val (.ref b347), .val (.int x362)] [(.int (1 : Int32))])) _
      exact retZ X364 hx Bd.returns (by decide) (hb hby at_133) hr
    ·
      show Q_rm0 Z p0 p1 p2 p3 h0 n0 _ T364.heap _
      rw [e364]
      exact ⟨rfl, N364⟩
  ·
    obtain rfl : x271 = (3 : Int32) := hx271.trans q
    obtain ⟨x366, hx366⟩ : ∃ z : Int32, z = (p1 &&& (2147483647 : Int32)) := ⟨_, rfl⟩
    have pre367 : ∀ t, Steps p.tables e below (s₁.setTop (mkF m 11 #[.val (.int p0), .val (.int p1), .val (.int p2), .val (.int p3), .val (.int (3 : Int32)), .val (.int x366), .unset, .unset, .unset, .unset, .unset] [])) t → Steps p.tables e below (s₁.setTop (entryFrame m #[(.int p0), (.int p1), (.int p2), (.int p3)] maxLocals)) t := fun t k => by
      refine pre272 t ?_
      show Steps p.tables e below (s₁.setTop (mkF m 5 #[.val (.int p0), .val (.int p1), .val (.int p2), .val (.int p3), .val (.int (3 : Int32)), .unset, .unset, .unset, .unset, .unset, .unset] [])) _
      refine XS.iloadN X0.here hx rfl (hb hby at_5) rfl ?_
      show Steps p.tables e below (s₁.setTop (mkF m 6 #[.val (.int p0), .val (.int p1), .val (.int p2), .val (.int p3), .val (.int (3 : Int32)), .unset, .unset, .unset, .unset, .unset, .unset] [(.int p1)])) _
      refine X0.ldcInt hx hown (mvT hZ (hw _ (List.mem_of_getElem? (i := 0) rfl))) (g := (mkF m 6 #[.val (.int p0), .val (.int p1), .val (.int p2), .val (.int p3), .val (.int (3 : Int32)), .unset, .unset, .unset, .unset, .unset, .unset] [(.int p1)])) rfl (hb hby at_6) _ ?_
      show Steps p.tables e below (s₁.setTop (mkF m 8 #[.val (.int p0), .val (.int p1), .val (.int p2), .val (.int p3), .val (.int (3 : Int32)), .unset, .unset, .unset, .unset, .unset, .unset] [(.int (2147483647 : Int32)), (.int p1)])) _
      refine XS.iand X0.here hx rfl (hb hby at_8) rfl ?_
      show Steps p.tables e below (s₁.setTop (mkF m 9 #[.val (.int p0), .val (.int p1), .val (.int p2), .val (.int p3), .val (.int (3 : Int32)), .unset, .unset, .unset, .unset, .unset, .unset] [(.int (p1 &&& (2147483647 : Int32)))])) _
      refine XS.istore X0.here hx rfl (hb hby at_9) rfl (l' := #[.val (.int p0), .val (.int p1), .val (.int p2), .val (.int p3), .val (.int (3 : Int32)), .val (.int (p1 &&& (2147483647 : Int32))), .unset, .unset, .unset, .unset, .unset]) rfl ?_
      subst hx366
      exact k
    obtain ⟨x368, hx368⟩ : ∃ z : Int32, z = (p2 &&& (2147483647 : Int32)) := ⟨_, rfl⟩
    have pre369 : ∀ t, Steps p.tables e below (s₁.setTop (mkF m 17 #[.val (.int p0), .val (.int p1), .val (.int p2), .val (.int p3), .val (.int (3 : Int32)), .val (.int x366), .val (.int x368), .unset, .unset, .unset, .unset] [])) t → Steps p.tables e below (s₁.setTop (entryFrame m #[(.int p0), (.int p1), (.int p2), (.int p3)] maxLocals)) t := fun t k => by
      refine pre367 t ?_
      show Steps p.tables e below (s₁.setTop (mkF m 11 #[.val (.int p0), .val (.int p1), .val (.int p2), .val (.int p3), .val (.int (3 : Int32)), .val (.int x366), .unset, .unset, .unset, .unset, .unset] [])) _
      refine XS.iloadN X0.here hx rfl (hb hby at_11) rfl ?_
      show Steps p.tables e below (s₁.setTop (mkF m 12 #[.val (.int p0), .val (.int p1), .val (.int p2), .val (.int p3), .val (.int (3 : Int32)), .val (.int x366), .unset, .unset, .unset, .unset, .unset] [(.int p2)])) _
      refine X0.ldcInt hx hown (mvT hZ (hw _ (List.mem_of_getElem? (i := 0) rfl))) (g := (mkF m 12 #[.val (.int p0), .val (.int p1), .val (.int p2), .val (.int p3), .val (.int (3 : Int32)), .val (.int x366), .unset, .unset, .unset, .unset, .unset] [(.int p2)])) rfl (hb hby at_12) _ ?_
      show Steps p.tables e below (s₁.setTop (mkF m 14 #[.val (.int p0), .val (.int p1), .val (.int p2), .val (.int p3), .val (.int (3 : Int32)), .val (.int x366), .unset, .unset, .unset, .unset, .unset] [(.int (2147483647 : Int32)), (.int p2)])) _
      refine XS.iand X0.here hx rfl (hb hby at_14) rfl ?_
      show Steps p.tables e below (s₁.setTop (mkF m 15 #[.val (.int p0), .val (.int p1), .val (.int p2), .val (.int p3), .val (.int (3 : Int32)), .val (.int x366), .unset, .unset, .unset, .unset, .unset] [(.int (p2 &&& (2147483647 : Int32)))])) _
      refine XS.istore X0.here hx rfl (hb hby at_15) rfl (l' := #[.val (.int p0), .val (.int p1), .val (.int p2), .val (.int p3), .val (.int (3 : Int32)), .val (.int x366), .val (.int (p2 &&& (2147483647 : Int32))), .unset, .unset, .unset, .unset]) rfl ?_
      subst hx368
      exact k
    obtain ⟨x370, hx370⟩ : ∃ z : Int32, z = (p3 &&& (2147483647 : Int32)) := ⟨_, rfl⟩
    have pre371 : ∀ t, Steps p.tables e below (s₁.setTop (mkF m 23 #[.val (.int p0), .val (.int p1), .val (.int p2), .val (.int p3), .val (.int (3 : Int32)), .val (.int x366), .val (.int x368), .val (.int x370), .unset, .unset, .unset] [])) t → Steps p.tables e below (s₁.setTop (entryFrame m #[(.int p0), (.int p1), (.int p2), (.int p3)] maxLocals)) t := fun t k => by
      refine pre369 t ?_
      show Steps p.tables e below (s₁.setTop (mkF m 17 #[.val (.int p0), .val (.int p1), .val (.int p2), .val (.int p3), .val (.int (3 : Int32)), .val (.int x366), .val (.int x368), .unset, .unset, .unset, .unset] [])) _
      refine XS.iloadN X0.here hx rfl (hb hby at_17) rfl ?_
      show Steps p.tables e below (s₁.setTop (mkF m 18 #[.val (.int p0), .val (.int p1), .val (.int p2), .val (.int p3), .val (.int (3 : Int32)), .val (.int x366), .val (.int x368), .unset, .unset, .unset, .unset] [(.int p3)])) _
      refine X0.ldcInt hx hown (mvT hZ (hw _ (List.mem_of_getElem? (i := 0) rfl))) (g := (mkF m 18 #[.val (.int p0), .val (.int p1), .val (.int p2), .val (.int p3), .val (.int (3 : Int32)), .val (.int x366), .val (.int x368), .unset, .unset, .unset, .unset] [(.int p3)])) rfl (hb hby at_18) _ ?_
      show Steps p.tables e below (s₁.setTop (mkF m 20 #[.val (.int p0), .val (.int p1), .val (.int p2), .val (.int p3), .val (.int (3 : Int32)), .val (.int x366), .val (.int x368), .unset, .unset, .unset, .unset] [(.int (2147483647 : Int32)), (.int p3)])) _
      refine XS.iand X0.here hx rfl (hb hby at_20) rfl ?_
      show Steps p.tables e below (s₁.setTop (mkF m 21 #[.val (.int p0), .val (.int p1), .val (.int p2), .val (.int p3), .val (.int (3 : Int32)), .val (.int x366), .val (.int x368), .unset, .unset, .unset, .unset] [(.int (p3 &&& (2147483647 : Int32)))])) _
      refine XS.istore X0.here hx rfl (hb hby at_21) rfl (l' := #[.val (.int p0), .val (.int p1), .val (.int p2), .val (.int p3), .val (.int (3 : Int32)), .val (.int x366), .val (.int x368), .val (.int (p3 &&& (2147483647 : Int32))), .unset, .unset, .unset]) rfl ?_
      subst hx370
      exact k
    obtain ⟨T372, h372, k372, X372, e372, E372, A372, kc372, st372⟩ := newPk X0 hx hZ (hw _ (List.mem_of_getElem? (i := 1) rfl)) e0 (g := (mkF m 25 #[.val (.int p0), .val (.int p1), .val (.int p2), .val (.int p3), .val (.int (3 : Int32)), .val (.int x366), .val (.int x368), .val (.int x370), .unset, .unset, .unset] [(.int (3 : Int32))])) rfl (hb hby at_25) rfl (by decide) (cap := 3) (by decide) (by decide) (by decide) (by decide)
    obtain ⟨b372, g372⟩ : ∃ z, z = h0.size := ⟨_, rfl⟩
    rw [← g372] at A372 st372
    have gn373 : n0 ≤ b372 := Nat.le_trans Z0 (Nat.le_of_eq g372.symm)
    have Z374 : n0 ≤ h372.size := Nat.le_trans Z0 E372.1
    have f375 : Arv Z h372 b372 k372 .int (3 : Int32) [(.int (0 : Int32)), (.int (0 : Int32)), (.int (0 : Int32))] (.int (0 : Int32)) := (Arv.new A372 (by decide)).pad (pad_rep [] (.int (0 : Int32)) 3)
    obtain ⟨cl376, Ar376, q376, S376, N376, H376, G376⟩ := id f375
    have hin376 : ¬ ((0 : Int32) < 0 ∨ cl376.slots.size ≤ ((0 : Int32)).toNatClampNeg) := inb_of S376 ⟨by decide, by decide⟩
    obtain ⟨T376, h376, X376, e376, W376, st376⟩ := stI X372 hx hZ e372 Ar376 (j := (0 : Int32)) hin376 (g := (mkF m 39 #[.val (.int p0), .val (.int p1), .val (.int p2), .val (.int p3), .val (.int (3 : Int32)), .val (.int x366), .val (.int x368), .val (.int x370), .val (.ref b372), .unset, .unset] [(.int x366), (.int (0 : Int32)), (.ref b372)])) rfl rfl (hb hby at_39)
    have Z377 : n0 ≤ h376.size := Nat.le_trans Z374 (Keep.of_wr W376).1
    have N378 := Fr.snoc X376 N0 gn373
    have f379 : Arv Z h376 b372 k372 .int (3 : Int32) [(.int x366), (.int (0 : Int32)), (.int (0 : Int32))] (.int (0 : Int32)) := Arv.set Ar376 q376 S376 N376 H376 G376 rfl W376 0 rfl (Nat.le_of_ble_eq_true rfl)
    obtain ⟨cl380, Ar380, q380, S380, N380, H380, G380⟩ := id f379
    have hin380 : ¬ ((1 : Int32) < 0 ∨ cl380.slots.size ≤ ((1 : Int32)).toNatClampNeg) := inb_of S380 ⟨by decide, by decide⟩
    obtain ⟨T380, h380, X380, e380, W380, st380⟩ := stI X376 hx hZ e376 Ar380 (j := (1 : Int32)) hin380 (g := (mkF m 51 #[.val (.int p0), .val (.int p1), .val (.int p2), .val (.int p3), .val (.int (3 : Int32)), .val (.int x366), .val (.int x368), .val (.int x370), .val (.ref b372), .unset, .unset] [(.int x368), (.int (1 : Int32)), (.ref b372)])) rfl rfl (hb hby at_51)
    have Z381 : n0 ≤ h380.size := Nat.le_trans Z377 (Keep.of_wr W380).1
    have N382 := Fr.snoc X380 N378 gn373
    have f383 : Arv Z h380 b372 k372 .int (3 : Int32) [(.int x366), (.int x368), (.int (0 : Int32))] (.int (0 : Int32)) := Arv.set Ar380 q380 S380 N380 H380 G380 rfl W380 1 rfl (Nat.le_of_ble_eq_true rfl)
    obtain ⟨cl384, Ar384, q384, S384, N384, H384, G384⟩ := id f383
    have hin384 : ¬ ((2 : Int32) < 0 ∨ cl384.slots.size ≤ ((2 : Int32)).toNatClampNeg) := inb_of S384 ⟨by decide, by decide⟩
    obtain ⟨T384, h384, X384, e384, W384, st384⟩ := stI X380 hx hZ e380 Ar384 (j := (2 : Int32)) hin384 (g := (mkF m 63 #[.val (.int p0), .val (.int p1), .val (.int p2), .val (.int p3), .val (.int (3 : Int32)), .val (.int x366), .val (.int x368), .val (.int x370), .val (.ref b372), .unset, .unset] [(.int x370), (.int (2 : Int32)), (.ref b372)])) rfl rfl (hb hby at_63)
    have Z385 : n0 ≤ h384.size := Nat.le_trans Z381 (Keep.of_wr W384).1
    have N386 := Fr.snoc X384 N382 gn373
    have f387 : Arv Z h384 b372 k372 .int (3 : Int32) [(.int x366), (.int x368), (.int x370)] (.int (0 : Int32)) := Arv.set Ar384 q384 S384 N384 H384 G384 rfl W384 2 rfl (Nat.le_of_ble_eq_true rfl)
    obtain ⟨T388, h388, X388, e388, E388, A388, D388, -, st388⟩ := newO X384 hx hZ hown (hw _ (List.mem_of_getElem? (i := 2) rfl)) (hw _ (List.mem_of_getElem? (i := 3) rfl)) (hw _ (List.mem_of_getElem? (i := 4) rfl)) e384 (g := (mkF m 64 #[.val (.int p0), .val (.int p1), .val (.int p2), .val (.int p3), .val (.int (3 : Int32)), .val (.int x366), .val (.int x368), .val (.int x370), .val (.ref b372), .unset, .unset] [])) rfl (hb hby at_64) (by decide) (by decide)
    obtain ⟨b388, g388⟩ : ∃ z, z = h384.size := ⟨_, rfl⟩
    rw [← g388] at A388 D388 st388
    have ne389 : b372 ≠ b388 := Nat.ne_of_lt (Nat.lt_of_lt_of_le f387.lt (Nat.le_of_eq g388.symm))
    have gn390 : n0 ≤ b388 := Nat.le_trans Z385 (Nat.le_of_eq g388.symm)
    have f391 := f387.ext E388
    have Z392 : n0 ≤ h388.size := Nat.le_trans Z385 E388.1
    have f393 : Fld Z h388 b388 "com/example/enact/enact/net/Marking" "tokens" "[I" .null := D388 (Or.inr (hw _ (List.mem_of_getElem? (i := 12) rfl))) (ty := (.array .int)) (by decide)
    have f394 : Fld Z h388 b388 "com/example/enact/enact/net/Marking" "total" "J" (.long (0 : Int64)) := D388 (Or.inr (hw _ (List.mem_of_getElem? (i := 14) rfl))) (ty := .long) (by decide)
    have f395 : Fld Z h388 b388 "com/example/enact/enact/net/Marking" "hash" "I" (.int (0 : Int32)) := D388 (Or.inr (hw _ (List.mem_of_getElem? (i := 20) rfl))) (ty := .int) (by decide)
    obtain ⟨_, _, ⟨T396, L396, k396, n396⟩, -, X396, ⟨Lc396, hQ396, l396, y396, z396⟩, st396⟩ := X388.specialBack hx (y := (⟨"com/example/enact/enact/net/Marking", "<init>", "([I)V"⟩ : MethodName)) rfl hown (mvT hZ (hw _ (List.mem_of_getElem? (i := 5) rfl))) (mvT hZ (hw _ (List.mem_of_getElem? (i := 6) rfl))) (mvT hZ (hw _ (List.mem_of_getElem? (i := 7) rfl))) (by decide) (backOf (W := 1) (ct3 l Z aw hw [] b388 b372 k372 x366 x368 x370 h388 n0 Z392 A388 f393 f394 f395 gn390 f391 kc372 (Ne.symm ne389)) hZ (hw _ (List.mem_of_getElem? (i := 7) rfl)) (hw _ (List.mem_of_getElem? (i := 4) rfl)) (by decide) (by decide)) (g := (mkF m 70 #[.val (.int p0), .val (.int p1), .val (.int p2), .val (.int p3), .val (.int (3 : Int32)), .val (.int x366), .val (.int x368), .val (.int x370), .val (.ref b372), .unset, .unset] [(.ref b372), (.ref b388), (.ref b388)])) rfl (by rw [hml]; rfl) (Steps.refl _) (a := b388) (argsL := [(.ref b372)]) (rest := [(.ref b388)]) (lenOf pd_3 rfl) rfl (by show 2 * 0 + _ ≤ _; exact Nat.le_of_eq rfl) (hb hby at_70) (fun _ _ => ⟨rfl, e388, (by decide : 2 + 0 ≤ _), (by decide : 6 + 0 ≤ _)⟩)
    dsimp only [Pt.U, Pt.locs, Pt.cells, Pt.slots] at X396 l396 y396 z396 st396 hQ396
    subst l396 y396 z396
    obtain ⟨rfl, N396q, K396, f397, f398⟩ := hQ396
    have N396 := Fr.app N386 N396q
    have f399 := f391.keep K396 (ninS ne389 nin0)
    have Z400 : n0 ≤ T396.heap.size := Nat.le_trans Z392 K396.1
    obtain ⟨x404, hx404⟩ : ∃ z : Int32, z = (if (1 : Int32) < x366 then (0 : Int32) else (if (1 : Int32) < x368 then (0 : Int32) else (if (1 : Int32) < x370 then (0 : Int32) else (1 : Int32)))) := ⟨_, rfl⟩
    have pre405 : ∀ t, Steps p.tables e below (T396.setTop (mkF m 116 #[.val (.int p0), .val (.int p1), .val (.int p2), .val (.int p3), .val (.int (3 : Int32)), .val (.int x366), .val (.int x368), .val (.int x370), .val (.ref b372), .val (.ref b388), .unset] [(.int x404)])) t → Steps p.tables e below (s₁.setTop (entryFrame m #[(.int p0), (.int p1), (.int p2), (.int p3)] maxLocals)) t := fun t k => by
      refine pre371 t ?_
      show Steps p.tables e below (s₁.setTop (mkF m 23 #[.val (.int p0), .val (.int p1), .val (.int p2), .val (.int p3), .val (.int (3 : Int32)), .val (.int x366), .val (.int x368), .val (.int x370), .unset, .unset, .unset] [])) _
      refine XS.iload X0.here hx rfl (hb hby at_23) rfl ?_
      show Steps p.tables e below (s₁.setTop (mkF m 25 #[.val (.int p0), .val (.int p1), .val (.int p2), .val (.int p3), .val (.int (3 : Int32)), .val (.int x366), .val (.int x368), .val (.int x370), .unset, .unset, .unset] [(.int (3 : Int32))])) _
      refine st372 _ ?_
      show Steps p.tables e below (T372.setTop (mkF m 27 #[.val (.int p0), .val (.int p1), .val (.int p2), .val (.int p3), .val (.int (3 : Int32)), .val (.int x366), .val (.int x368), .val (.int x370), .unset, .unset, .unset] [(.ref b372)])) _
      refine XS.astore X372.here hx rfl (hb hby at_27) rfl rfl (l' := #[.val (.int p0), .val (.int p1), .val (.int p2), .val (.int p3), .val (.int (3 : Int32)), .val (.int x366), .val (.int x368), .val (.int x370), .val (.ref b372), .unset, .unset]) rfl ?_
      show Steps p.tables e below (T372.setTop (mkF m 29 #[.val (.int p0), .val (.int p1), .val (.int p2), .val (.int p3), .val (.int (3 : Int32)), .val (.int x366), .val (.int x368), .val (.int x370), .val (.ref b372), .unset, .unset] [])) _
      refine XS.iload X372.here hx rfl (hb hby at_29) rfl ?_
      show Steps p.tables e below (T372.setTop (mkF m 31 #[.val (.int p0), .val (.int p1), .val (.int p2), .val (.int p3), .val (.int (3 : Int32)), .val (.int x366), .val (.int x368), .val (.int x370), .val (.ref b372), .unset, .unset] [(.int (3 : Int32))])) _
      refine XS.ifNo X372.here hx rfl (hb hby at_31) rfl ((if0 _ _).trans (tlt (by decide)).2.2.2) ?_
      show Steps p.tables e below (T372.setTop (mkF m 34 #[.val (.int p0), .val (.int p1), .val (.int p2), .val (.int p3), .val (.int (3 : Int32)), .val (.int x366), .val (.int x368), .val (.int x370), .val (.ref b372), .unset, .unset] [])) _
      refine XS.aload X372.here hx rfl (hb hby at_34) rfl rfl ?_
      show Steps p.tables e below (T372.setTop (mkF m 36 #[.val (.int p0), .val (.int p1), .val (.int p2), .val (.int p3), .val (.int (3 : Int32)), .val (.int x366), .val (.int x368), .val (.int x370), .val (.ref b372), .unset, .unset] [(.ref b372)])) _
      refine XS.iconst X372.here hx rfl (hb hby at_36) ?_
      show Steps p.tables e below (T372.setTop (mkF m 37 #[.val (.int p0), .val (.int p1), .val (.int p2), .val (.int p3), .val (.int (3 : Int32)), .val (.int x366), .val (.int x368), .val (.int x370), .val (.ref b372), .unset, .unset] [(.int (0 : Int32)), (.ref b372)])) _
      refine XS.iload X372.here hx rfl (hb hby at_37) rfl ?_
      show Steps p.tables e below (T372.setTop (mkF m 39 #[.val (.int p0), .val (.int p1), .val (.int p2), .val (.int p3), .val (.int (3 : Int32)), .val (.int x366), .val (.int x368), .val (.int x370), .val (.ref b372), .unset, .unset] [(.int x366), (.int (0 : Int32)), (.ref b372)])) _
      refine st376 _ ?_
      show Steps p.tables e below (T376.setTop (mkF m 40 #[.val (.int p0), .val (.int p1), .val (.int p2), .val (.int p3), .val (.int (3 : Int32)), .val (.int x366), .val (.int x368), .val (.int x370), .val (.ref b372), .unset, .unset] [])) _
      refine XS.iload X376.here hx rfl (hb hby at_40) rfl ?_
      show Steps p.tables e below (T376.setTop (mkF m 42 #[.val (.int p0), .val (.int p1), .val (.int p2), .val (.int p3), .val (.int (3 : Int32)), .val (.int x366), .val (.int x368), .val (.int x370), .val (.ref b372), .unset, .unset] [(.int (3 : Int32))])) _
      refine XS.iconst X376.here hx rfl (hb hby at_42) ?_
      show Steps p.tables e below (T376.setTop (mkF m 43 #[.val (.int p0), .val (.int p1), .val (.int p2), .val (.int p3), .val (.int (3 : Int32)), .val (.int x366), .val (.int x368), .val (.int x370), .val (.ref b372), .unset, .unset] [(.int (1 : Int32)), (.int (3 : Int32))])) _
      refine XS.icmpNo X376.here hx rfl (hb hby at_43) rfl (tlt (by decide)).2.2.2 ?_
      show Steps p.tables e below (T376.setTop (mkF m 46 #[.val (.int p0), .val (.int p1), .val (.int p2), .val (.int p3), .val (.int (3 : Int32)), .val (.int x366), .val (.int x368), .val (.int x370), .val (.ref b372), .unset, .unset] [])) _
      refine XS.aload X376.here hx rfl (hb hby at_46) rfl rfl ?_
      show Steps p.tables e below (T376.setTop (mkF m 48 #[.val (.int p0), .val (.int p1), .val (.int p2), .val (.int p3), .val (.int (3 : Int32)), .val (.int x366), .val (.int x368), .val (.int x370), .val (.ref b372), .unset, .unset] [(.ref b372)])) _
      refine XS.iconst X376.here hx rfl (hb hby at_48) ?_
      show Steps p.tables e below (T376.setTop (mkF m 49 #[.val (.int p0), .val (.int p1), .val (.int p2), .val (.int p3), .val (.int (3 : Int32)), .val (.int x366), .val (.int x368), .val (.int x370), .val (.ref b372), .unset, .unset] [(.int (1 : Int32)), (.ref b372)])) _
      refine XS.iload X376.here hx rfl (hb hby at_49) rfl ?_
      show Steps p.tables e below (T376.setTop (mkF m 51 #[.val (.int p0), .val (.int p1), .val (.int p2), .val (.int p3), .val (.int (3 : Int32)), .val (.int x366), .val (.int x368), .val (.int x370), .val (.ref b372), .unset, .unset] [(.int x368), (.int (1 : Int32)), (.ref b372)])) _
      refine st380 _ ?_
      show Steps p.tables e below (T380.setTop (mkF m 52 #[.val (.int p0), .val (.int p1), .val (.int p2), .val (.int p3), .val (.int (3 : Int32)), .val (.int x366), .val (.int x368), .val (.int x370), .val (.ref b372), .unset, .unset] [])) _
      refine XS.iload X380.here hx rfl (hb hby at_52) rfl ?_
      show Steps p.tables e below (T380.setTop (mkF m 54 #[.val (.int p0), .val (.int p1), .val (.int p2), .val (.int p3), .val (.int (3 : Int32)), .val (.int x366), .val (.int x368), .val (.int x370), .val (.ref b372), .unset, .unset] [(.int (3 : Int32))])) _
      refine XS.iconst X380.here hx rfl (hb hby at_54) ?_
      show Steps p.tables e below (T380.setTop (mkF m 55 #[.val (.int p0), .val (.int p1), .val (.int p2), .val (.int p3), .val (.int (3 : Int32)), .val (.int x366), .val (.int x368), .val (.int x370), .val (.ref b372), .unset, .unset] [(.int (2 : Int32)), (.int (3 : Int32))])) _
      refine XS.icmpNo X380.here hx rfl (hb hby at_55) rfl (tlt (by decide)).2.2.2 ?_
      show Steps p.tables e below (T380.setTop (mkF m 58 #[.val (.int p0), .val (.int p1), .val (.int p2), .val (.int p3), .val (.int (3 : Int32)), .val (.int x366), .val (.int x368), .val (.int x370), .val (.ref b372), .unset, .unset] [])) _
      refine XS.aload X380.here hx rfl (hb hby at_58) rfl rfl ?_
      show Steps p.tables e below (T380.setTop (mkF m 60 #[.val (.int p0), .val (.int p1), .val (.int p2), .val (.int p3), .val (.int (3 : Int32)), .val (.int x366), .val (.int x368), .val (.int x370), .val (.ref b372), .unset, .unset] [(.ref b372)])) _
      refine XS.iconst X380.here hx rfl (hb hby at_60) ?_
      show Steps p.tables e below (T380.setTop (mkF m 61 #[.val (.int p0), .val (.int p1), .val (.int p2), .val (.int p3), .val (.int (3 : Int32)), .val (.int x366), .val (.int x368), .val (.int x370), .val (.ref b372), .unset, .unset] [(.int (2 : Int32)), (.ref b372)])) _
      refine XS.iload X380.here hx rfl (hb hby at_61) rfl ?_
      show Steps p.tables e below (T380.setTop (mkF m 63 #[.val (.int p0), .val (.int p1), .val (.int p2), .val (.int p3), .val (.int (3 : Int32)), .val (.int x366), .val (.int x368), .val (.int x370), .val (.ref b372), .unset, .unset] [(.int x370), (.int (2 : Int32)), (.ref b372)])) _
      refine st384 _ ?_
      show Steps p.tables e below (T384.setTop (mkF m 64 #[.val (.int p0), .val (.int p1), .val (.int p2), .val (.int p3), .val (.int (3 : Int32)), .val (.int x366), .val (.int x368), .val (.int x370), .val (.ref b372), .unset, .unset] [])) _
      refine st388 _ ?_
      show Steps p.tables e below (T388.setTop (mkF m 67 #[.val (.int p0), .val (.int p1), .val (.int p2), .val (.int p3), .val (.int (3 : Int32)), .val (.int x366), .val (.int x368), .val (.int x370), .val (.ref b372), .unset, .unset] [(.ref b388)])) _
      refine XS.dup X388.here hx rfl (hb hby at_67) rfl rfl ?_
      show Steps p.tables e below (T388.setTop (mkF m 68 #[.val (.int p0), .val (.int p1), .val (.int p2), .val (.int p3), .val (.int (3 : Int32)), .val (.int x366), .val (.int x368), .val (.int x370), .val (.ref b372), .unset, .unset] [(.ref b388), (.ref b388)])) _
      refine XS.aload X388.here hx rfl (hb hby at_68) rfl rfl ?_
      show Steps p.tables e below (T388.setTop (mkF m 70 #[.val (.int p0), .val (.int p1), .val (.int p2), .val (.int p3), .val (.int (3 : Int32)), .val (.int x366), .val (.int x368), .val (.int x370), .val (.ref b372), .unset, .unset] [(.ref b372), (.ref b388), (.ref b388)])) _
      refine st396.trans ?_
      show Steps p.tables e below (T396.setTop (mkF m 73 #[.val (.int p0), .val (.int p1), .val (.int p2), .val (.int p3), .val (.int (3 : Int32)), .val (.int x366), .val (.int x368), .val (.int x370), .val (.ref b372), .unset, .unset] [(.ref b388)])) _
      refine XS.astore X396.here hx rfl (hb hby at_73) rfl rfl (l' := #[.val (.int p0), .val (.int p1), .val (.int p2), .val (.int p3), .val (.int (3 : Int32)), .val (.int x366), .val (.int x368), .val (.int x370), .val (.ref b372), .val (.ref b388), .unset]) rfl ?_
      show Steps p.tables e below (T396.setTop (mkF m 75 #[.val (.int p0), .val (.int p1), .val (.int p2), .val (.int p3), .val (.int (3 : Int32)), .val (.int x366), .val (.int x368), .val (.int x370), .val (.ref b372), .val (.ref b388), .unset] [])) _
      refine XS.iload X396.here hx rfl (hb hby at_75) rfl ?_
      show Steps p.tables e below (T396.setTop (mkF m 77 #[.val (.int p0), .val (.int p1), .val (.int p2), .val (.int p3), .val (.int (3 : Int32)), .val (.int x366), .val (.int x368), .val (.int x370), .val (.ref b372), .val (.ref b388), .unset] [(.int (3 : Int32))])) _
      refine XS.iconst X396.here hx rfl (hb hby at_77) ?_
      show Steps p.tables e below (T396.setTop (mkF m 78 #[.val (.int p0), .val (.int p1), .val (.int p2), .val (.int p3), .val (.int (3 : Int32)), .val (.int x366), .val (.int x368), .val (.int x370), .val (.ref b372), .val (.ref b388), .unset] [(.int (1 : Int32)), (.int (3 : Int32))])) _
      refine XS.icmpNo X396.here hx rfl (hb hby at_78) rfl (flt (by decide)).1 ?_
      show Steps p.tables e below (T396.setTop (mkF m 81 #[.val (.int p0), .val (.int p1), .val (.int p2), .val (.int p3), .val (.int (3 : Int32)), .val (.int x366), .val (.int x368), .val (.int x370), .val (.ref b372), .val (.ref b388), .unset] [])) _
      refine XS.iload X396.here hx rfl (hb hby at_81) rfl ?_
      show Steps p.tables e below (T396.setTop (mkF m 83 #[.val (.int p0), .val (.int p1), .val (.int p2), .val (.int p3), .val (.int (3 : Int32)), .val (.int x366), .val (.int x368), .val (.int x370), .val (.ref b372), .val (.ref b388), .unset] [(.int x366)])) _
      refine XS.iconst X396.here hx rfl (hb hby at_83) ?_
      by_cases c401 : (1 : Int32) < x366
      ·
        show Steps p.tables e below (T396.setTop (mkF m 84 #[.val (.int p0), .val (.int p1), .val (.int p2), .val (.int p3), .val (.int (3 : Int32)), .val (.int x366), .val (.int x368), .val (.int x370), .val (.ref b372), .val (.ref b388), .unset] [(.int (1 : Int32)), (.int x366)])) _
        refine XS.icmpYes X396.here hx rfl (pc0 := 84) (pc' := 115) rfl (hb hby at_84) rfl (tlt c401).2.2.1 (by decide) (by decide) ?_
        show Steps p.tables e below (T396.setTop (mkF m 115 #[.val (.int p0), .val (.int p1), .val (.int p2), .val (.int p3), .val (.int (3 : Int32)), .val (.int x366), .val (.int x368), .val (.int x370), .val (.ref b372), .val (.ref b388), .unset] [])) _
        refine XS.iconst X396.here hx rfl (hb hby at_115) ?_
        rw [show x404 = (0 : Int32) from hx404.trans (by simp only [if_pos c401])] at k
        exact k
      ·
        show Steps p.tables e below (T396.setTop (mkF m 84 #[.val (.int p0), .val (.int p1), .val (.int p2), .val (.int p3), .val (.int (3 : Int32)), .val (.int x366), .val (.int x368), .val (.int x370), .val (.ref b372), .val (.ref b388), .unset] [(.int (1 : Int32)), (.int x366)])) _
        refine XS.icmpNo X396.here hx rfl (hb hby at_84) rfl (flt c401).2.2.1 ?_
        show Steps p.tables e below (T396.setTop (mkF m 87 #[.val (.int p0), .val (.int p1), .val (.int p2), .val (.int p3), .val (.int (3 : Int32)), .val (.int x366), .val (.int x368), .val (.int x370), .val (.ref b372), .val (.ref b388), .unset] [])) _
        refine XS.iload X396.here hx rfl (hb hby at_87) rfl ?_
        show Steps p.tables e below (T396.setTop (mkF m 89 #[.val (.int p0), .val (.int p1), .val (.int p2), .val (.int p3), .val (.int (3 : Int32)), .val (.int x366), .val (.int x368), .val (.int x370), .val (.ref b372), .val (.ref b388), .unset] [(.int (3 : Int32))])) _
        refine XS.iconst X396.here hx rfl (hb hby at_89) ?_
        show Steps p.tables e below (T396.setTop (mkF m 90 #[.val (.int p0), .val (.int p1), .val (.int p2), .val (.int p3), .val (.int (3 : Int32)), .val (.int x366), .val (.int x368), .val (.int x370), .val (.ref b372), .val (.ref b388), .unset] [(.int (2 : Int32)), (.int (3 : Int32))])) _
        refine XS.icmpNo X396.here hx rfl (hb hby at_90) rfl (flt (by decide)).1 ?_
        show Steps p.tables e below (T396.setTop (mkF m 93 #[.val (.int p0), .val (.int p1), .val (.int p2), .val (.int p3), .val (.int (3 : Int32)), .val (.int x366), .val (.int x368), .val (.int x370), .val (.ref b372), .val (.ref b388), .unset] [])) _
        refine XS.iload X396.here hx rfl (hb hby at_93) rfl ?_
        show Steps p.tables e below (T396.setTop (mkF m 95 #[.val (.int p0), .val (.int p1), .val (.int p2), .val (.int p3), .val (.int (3 : Int32)), .val (.int x366), .val (.int x368), .val (.int x370), .val (.ref b372), .val (.ref b388), .unset] [(.int x368)])) _
        refine XS.iconst X396.here hx rfl (hb hby at_95) ?_
        by_cases c402 : (1 : Int32) < x368
        ·
          show Steps p.tables e below (T396.setTop (mkF m 96 #[.val (.int p0), .val (.int p1), .val (.int p2), .val (.int p3), .val (.int (3 : Int32)), .val (.int x366), .val (.int x368), .val (.int x370), .val (.ref b372), .val (.ref b388), .unset] [(.int (1 : Int32)), (.int x368)])) _
          refine XS.icmpYes X396.here hx rfl (pc0 := 96) (pc' := 115) rfl (hb hby at_96) rfl (tlt c402).2.2.1 (by decide) (by decide) ?_
          show Steps p.tables e below (T396.setTop (mkF m 115 #[.val (.int p0), .val (.int p1), .val (.int p2), .val (.int p3), .val (.int (3 : Int32)), .val (.int x366), .val (.int x368), .val (.int x370), .val (.ref b372), .val (.ref b388), .unset] [])) _
          refine XS.iconst X396.here hx rfl (hb hby at_115) ?_
          rw [show x404 = (0 : Int32) from hx404.trans (by simp only [if_neg c401, if_pos c402])] at k
          exact k
        ·
          show Steps p.tables e below (T396.setTop (mkF m 96 #[.val (.int p0), .val (.int p1), .val (.int p2), .val (.int p3), .val (.int (3 : Int32)), .val (.int x366), .val (.int x368), .val (.int x370), .val (.ref b372), .val (.ref b388), .unset] [(.int (1 : Int32)), (.int x368)])) _
          refine XS.icmpNo X396.here hx rfl (hb hby at_96) rfl (flt c402).2.2.1 ?_
          show Steps p.tables e below (T396.setTop (mkF m 99 #[.val (.int p0), .val (.int p1), .val (.int p2), .val (.int p3), .val (.int (3 : Int32)), .val (.int x366), .val (.int x368), .val (.int x370), .val (.ref b372), .val (.ref b388), .unset] [])) _
          refine XS.iload X396.here hx rfl (hb hby at_99) rfl ?_
          show Steps p.tables e below (T396.setTop (mkF m 101 #[.val (.int p0), .val (.int p1), .val (.int p2), .val (.int p3), .val (.int (3 : Int32)), .val (.int x366), .val (.int x368), .val (.int x370), .val (.ref b372), .val (.ref b388), .unset] [(.int (3 : Int32))])) _
          refine XS.iconst X396.here hx rfl (hb hby at_101) ?_
          show Steps p.tables e below (T396.setTop (mkF m 102 #[.val (.int p0), .val (.int p1), .val (.int p2), .val (.int p3), .val (.int (3 : Int32)), .val (.int x366), .val (.int x368), .val (.int x370), .val (.ref b372), .val (.ref b388), .unset] [(.int (3 : Int32)), (.int (3 : Int32))])) _
          refine XS.icmpNo X396.here hx rfl (hb hby at_102) rfl (flt (by decide)).1 ?_
          show Steps p.tables e below (T396.setTop (mkF m 105 #[.val (.int p0), .val (.int p1), .val (.int p2), .val (.int p3), .val (.int (3 : Int32)), .val (.int x366), .val (.int x368), .val (.int x370), .val (.ref b372), .val (.ref b388), .unset] [])) _
          refine XS.iload X396.here hx rfl (hb hby at_105) rfl ?_
          show Steps p.tables e below (T396.setTop (mkF m 107 #[.val (.int p0), .val (.int p1), .val (.int p2), .val (.int p3), .val (.int (3 : Int32)), .val (.int x366), .val (.int x368), .val (.int x370), .val (.ref b372), .val (.ref b388), .unset] [(.int x370)])) _
          refine XS.iconst X396.here hx rfl (hb hby at_107) ?_
          by_cases c403 : (1 : Int32) < x370
          ·
            show Steps p.tables e below (T396.setTop (mkF m 108 #[.val (.int p0), .val (.int p1), .val (.int p2), .val (.int p3), .val (.int (3 : Int32)), .val (.int x366), .val (.int x368), .val (.int x370), .val (.ref b372), .val (.ref b388), .unset] [(.int (1 : Int32)), (.int x370)])) _
            refine XS.icmpYes X396.here hx rfl (pc0 := 108) (pc' := 115) rfl (hb hby at_108) rfl (tlt c403).2.2.1 (by decide) (by decide) ?_
            show Steps p.tables e below (T396.setTop (mkF m 115 #[.val (.int p0), .val (.int p1), .val (.int p2), .val (.int p3), .val (.int (3 : Int32)), .val (.int x366), .val (.int x368), .val (.int x370), .val (.ref b372), .val (.ref b388), .unset] [])) _
            refine XS.iconst X396.here hx rfl (hb hby at_115) ?_
            rw [show x404 = (0 : Int32) from hx404.trans (by simp only [if_neg c401, if_neg c402, if_pos c403])] at k
            exact k
          ·
            show Steps p.tables e below (T396.setTop (mkF m 108 #[.val (.int p0), .val (.int p1), .val (.int p2), .val (.int p3), .val (.int (3 : Int32)), .val (.int x366), .val (.int x368), .val (.int x370), .val (.ref b372), .val (.ref b388), .unset] [(.int (1 : Int32)), (.int x370)])) _
            refine XS.icmpNo X396.here hx rfl (hb hby at_108) rfl (flt c403).2.2.1 ?_
            show Steps p.tables e below (T396.setTop (mkF m 111 #[.val (.int p0), .val (.int p1), .val (.int p2), .val (.int p3), .val (.int (3 : Int32)), .val (.int x366), .val (.int x368), .val (.int x370), .val (.ref b372), .val (.ref b388), .unset] [])) _
            refine XS.iconst X396.here hx rfl (hb hby at_111) ?_
            show Steps p.tables e below (T396.setTop (mkF m 112 #[.val (.int p0), .val (.int p1), .val (.int p2), .val (.int p3), .val (.int (3 : Int32)), .val (.int x366), .val (.int x368), .val (.int x370), .val (.ref b372), .val (.ref b388), .unset] [(.int (1 : Int32))])) _
            refine XS.goto X396.here hx rfl (pc0 := 112) (pc' := 116) rfl (hb hby at_112) (by decide) (by decide) ?_
            rw [show x404 = (1 : Int32) from hx404.trans (by simp only [if_neg c401, if_neg c402, if_neg c403])] at k
            exact k
    obtain ⟨cq406, kq406, q406a, q406b, q406c⟩ := isOf hZ rfl f397
    obtain ⟨_, _, ⟨T406, L406, k406, n406⟩, -, X406, ⟨Lc406, hQ406, l406, y406, z406⟩, st406⟩ := X396.virtualBack hx (y := (⟨"com/example/enact/enact/net/Marking", "isSafe", "()Z"⟩ : MethodName)) (z := (⟨"com/example/enact/enact/net/Marking", "isSafe", "()Z"⟩ : MethodName)) hown (mvT hZ (hw _ (List.mem_of_getElem? (i := 21) rfl))) (mvT hZ (hw _ (List.mem_of_getElem? (i := 22) rfl))) (notFace_of_selects (args := #[]) (mvT hZ (hw _ (List.mem_of_getElem? (i := 24) rfl)))) (mvT hZ (hw _ (List.mem_of_getElem? (i := 24) rfl))) (mvT hZ (hw _ (List.mem_of_getElem? (i := 23) rfl))) (by decide) (backOf (W := 0) (sf3 l Z aw hw [] b388 b372 k372 x366 x368 x370 T396.heap n0 Z400 f398 f399) hZ (hw _ (List.mem_of_getElem? (i := 25) rfl)) (hw _ (List.mem_of_getElem? (i := 4) rfl)) (by decide) (by decide)) q406a q406c (g := (mkF m 120 #[.val (.int p0), .val (.int p1), .val (.int p2), .val (.int p3), .val (.int (3 : Int32)), .val (.int x366), .val (.int x368), .val (.int x370), .val (.ref b372), .val (.ref b388), .val (.int x404)] [(.ref b388)])) rfl (by rw [hml]; rfl) (Steps.refl _) (argsL := []) (rest := []) (lenOf pd_4 rfl) rfl (by show 2 * 0 + _ ≤ _; exact Nat.le_of_eq rfl) (hb hby at_120) (fun _ _ => ⟨rfl, rfl, (by decide : 2 + 0 ≤ _), (by decide : 6 + 0 ≤ _)⟩)
    dsimp only [Pt.U, Pt.locs, Pt.cells, Pt.slots] at X406 l406 y406 z406 st406 hQ406
    subst l406 y406 z406
    obtain ⟨rfl, N406q, e406⟩ := hQ406
    have N406 := Fr.app N396 N406q
    have c407 : (if (1 : Int32) < x366 then (0 : Int32) else (if (1 : Int32) < x368 then (0 : Int32) else (if (1 : Int32) < x370 then (0 : Int32) else (1 : Int32)))) = x404 := by
      exact hx404.symm
    obtain ⟨fs, hr, hrun, hended, hW, hsame⟩ := X406.leave (v := some (.int (1 : Int32))) (fun h => by rw [Bd.returns] at h; cases h)
    refine ⟨_, _, pre405 _ ?_, hrun, hended, _, _, rfl, ?_, ⟨_, rfl⟩, hW, hsame.mono (by decide) (by decide)⟩
    ·
      show Steps p.tables e below (T396.setTop (mkF m 116 #[.val (.int p0), .val (.int p1), .val (.int p2), .val (.int p3), .val (.int (3 : Int32)), .val (.int x366), .val (.int x368), .val (.int x370), .val (.ref b372), .val (.ref b388), .unset] [(.int x404)])) _
      refine XS.istore X396.here hx rfl (hb hby at_116) rfl (l' := #[.val (.int p0), .val (.int p1), .val (.int p2), .val (.int p3), .val (.int (3 : Int32)), .val (.int x366), .val (.int x368), .val (.int x370), .val (.ref b372), .val (.ref b388), .val (.int x404)]) rfl ?_
      show Steps p.tables e below (T396.setTop (mkF m 118 #[.val (.int p0), .val (.int p1), .val (.int p2), .val (.int p3), .val (.int (3 : Int32)), .val (.int x366), .val (.int x368), .val (.int x370), .val (.ref b372), .val (.ref b388), .val (.int x404)] [])) _
      refine XS.aload X396.here hx rfl (hb hby at_118) rfl rfl ?_
      show Steps p.tables e below (T396.setTop (mkF m 120 #[.val (.int p0), .val (.int p1), .val (.int p2), .val (.int p3), .val (.int (3 : Int32)), .val (.int x366), .val (.int x368), .val (.int x370), .val (.ref b372), .val (.ref b388), .val (.int x404)] [(.ref b388)])) _
      refine st406.trans ?_
      show Steps p.tables e below (T406.setTop (mkF m 123 #[.val (.int p0), .val (.int p1), .val (.int p2), .val (.int p3), .val (.int (3 : Int32)), .val (.int x366), .val (.int x368), .val (.int x370), .val (.ref b372), .val (.ref b388), .val (.int x404)] [(.int (if (1 : Int32) < x366 then (0 : Int32) else (if (1 : Int32) < x368 then (0 : Int32) else (if (1 : Int32) < x370 then (0 : Int32) else (1 : Int32)))))])) _
      refine XS.iload X406.here hx rfl (hb hby at_123) rfl ?_
      show Steps p.tables e below (T406.setTop (mkF m 125 #[.val (.int p0), .val (.int p1), .val (.int p2), .val (.int p3), .val (.int (3 : Int32)), .val (.int x366), .val (.int x368), .val (.int x370), .val (.ref b372), .val (.ref b388), .val (.int x404)] [(.int x404), (.int (if (1 : Int32) < x366 then (0 : Int32) else (if (1 : Int32) < x368 then (0 : Int32) else (if (1 : Int32) < x370 then (0 : Int32) else (1 : Int32)))))])) _
      refine XS.icmpNo X406.here hx rfl (hb hby at_125) rfl (teq c407).2 ?_
      show Steps p.tables e below (T406.setTop (mkF m 128 #[.val (.int p0), .val (.int p1), .val (.int p2), .val (.int p3), .val (.int (3 : Int32)), .val (.int x366), .val (.int x368), .val (.int x370), .val (.ref b372), .val (.ref b388), .val (.int x404)] [])) _
      refine XS.iconst X406.here hx rfl (hb hby at_128) ?_
      show Steps p.tables e below (T406.setTop (mkF m 129 #[.val (.int p0), .val (.int p1), .val (.int p2), .val (.int p3), .val (.int (3 : Int32)), .val (.int x366), .val (.int x368), .val (.int x370), .val (.ref b372), .val (.ref b388), .val (.int x404)] [(.int (1 : Int32))])) _
      refine XS.goto X406.here hx rfl (pc0 := 129) (pc' := 133) rfl (hb hby at_129) (by decide) (by decide) ?_
      show Steps p.tables e below (T406.setTop (mkF m 133 #[.val (.int p0), .val (.int p1), .val (.int p2), .val (.int p3), .val (.int (3 : Int32)), .val (.int x366), .val (.int x368), .val (.int x370), .val (.ref b372), .val (.ref b388), .val (.int x404)] [(.int (1 : Int32))])) _
      exact retZ X406 hx Bd.returns (by decide) (hb hby at_133) hr
    ·
      show Q_rm0 Z p0 p1 p2 p3 h0 n0 _ T406.heap _
      rw [e406]
      exact ⟨rfl, N406⟩
set_option maxRecDepth 65536 in
set_option maxHeartbeats 40000000 in
theorem comes_1 {Post : Tables → Env → Array Value → State → Outcome → State → Prop} (hpost : ∀ tb e args s v u, (limb_1_1.after args s (.returned v) u = true ∧ limb_1_2.after args s (.returned v) u = true ∧ True) → FrameEnd s (.returned v) u (Jvm.fieldLocs frame_1_writes args s ++ Jvm.arrayLocs frame_1_arrays args s ++ Jvm.staticLocs frame_1_statics s) 16 128 → Post tb e args s (.returned v) u) :
    ArmFor flags0 classFile x code maxLocals ret World_1 tables_1 room_1 Calls_1 rest_1 Pre_1 Post := by
  intro l hfl _ _ p e ha hc hk s m args below hf hA hF happ hP
  obtain ⟨hcalls, hrest, hpre⟩ := hP
  obtain ⟨-, -, -, hnamed, -, -, -, hat⟩ := (Spec.applies_iff hf).mp happ
  obtain ⟨hg, hn⟩ := and_e (Cond.before_iff.mp (show (Jvm.Cond.and given_1 narrow_1).before args s = true from hpre))
  obtain ⟨g408, g409⟩ := and_e hg
  obtain ⟨g410, g411⟩ := and_e g409
  obtain ⟨g412, g413⟩ := and_e g411
  obtain ⟨g414, g415⟩ := and_e g413
  obtain ⟨w0, w1, w2, w3, rfl⟩ : ∃ w0 w1 w2 w3 : Value, args = #[w0, w1, w2, w3] := by
    have hs : args.size = 4 := by simpa [Cond.value, given_1] using g408
    obtain ⟨L⟩ := args
    match L, hs with
    | [w0, w1, w2, w3], _ => exact ⟨w0, w1, w2, w3, rfl⟩
  have hw := fun d (hd : d ∈ tables_1) => atoms_spec (ws := Jvm.Cond.code x code maxLocals ret :: tables_1) hat d (List.mem_cons_of_mem _ hd)
  have hfit : Fit s := fun {y c} hc i hi => by
    obtain ⟨ha, rfl⟩ := Array.getElem?_eq_some_iff.mp hc
    have q := List.all_eq_true.mp ((Array.all_eq_true_iff_forall_mem.mp hF) _ (Array.getElem_mem ha)) i (List.mem_range.mpr hi)
    simpa [Array.getElem?_eq_getElem hi] using q
  obtain ⟨i0, ei0⟩ := is_v g410
  obtain rfl : w0 = (.int i0) := Option.some.inj ei0
  obtain ⟨i1, ei1⟩ := is_v g412
  obtain rfl : w1 = (.int i1) := Option.some.inj ei1
  obtain ⟨i2, ei2⟩ := is_v g414
  obtain rfl : w2 = (.int i2) := Option.some.inj ei2
  obtain ⟨i3, ei3⟩ := is_v g415
  obtain rfl : w3 = (.int i3) := Option.some.inj ei3
  obtain ⟨n, o, h1, h2, h3, _, L, rfl, ⟨rfl, N⟩, hq⟩ := rm0 l s _ hw tables_1 i0 i1 i2 i3 s.heap s.heap.size (Nat.le_refl _) p e ha hc hk s m _ below hf ((Spec.applies_iff_loose hf).mp happ).1 ⟨rfl, State.Warmed39.refl s, rfl⟩ trivial
  refine ⟨n, _, h1, h2, h3, hpost _ _ _ _ _ _ ⟨Cond.after_iff.mpr rfl, Cond.after_iff.mpr (eq_i res_at (Term.int_eval (1)) rfl), trivial⟩ ⟨hq.1, hq.2.1, (hq.2.2.sift fun y hy => Or.inr (N y hy)).mono (by decide) (by decide)⟩⟩
theorem main_1_1 : Claimed_1_1 := comes_1 fun _ _ _ _ _ _ h hF => ⟨h.1, hF⟩
theorem main_1_2 : Claimed_1_2 := comes_1 fun _ _ _ _ _ _ h hF => ⟨h.2.1, hF⟩
end Jvm.Pilot.@@N@@
namespace Jvm.Pilot.@@N@@
open Jvm Jvm.ClassFile Sem Op Lib Jvm.Free Jvm.Stand Jvm.Pilot.@@N@@.Jvm.D
/-! MADE BY PROGRAM (witnessworld.py) out of the Statement's table words and the real class files: 11 classes; the members and pool entries that the words name. The judged class is class 1, her method 1. -/
namespace start1
open Jvm.ClassFile
def u (s : String) : CpInfo := .utf8 (stringToUtf16 s)
/-- a pool by its gaps: so many unusable entries, then the entry; so many at the end -/
def gap : Nat → List CpInfo → List CpInfo
  | 0, r => r
  | n + 1, r => .unusable :: gap n r
def poolList (es : List (Nat × CpInfo)) (last : Nat) : List CpInfo := es.foldr (fun e r => gap e.1 (e.2 :: r)) (gap last [])
def pool (es : List (Nat × CpInfo)) (last : Nat) : Array CpInfo := ⟨poolList es last⟩
def fileOf (pool : Array CpInfo) (this : Nat) (attrs : Array Attribute := #[]) (ms : Array MethodInfo := #[]) (fl : Nat := 33) (sup : Nat := 0) (ifs : Array Nat := #[]) (fds : Array FieldInfo := #[]) : ClassFile where
  minorVersion := 0
  majorVersion := 65
  constantPool := pool
  accessFlags := fl
  thisClass := this
  superClass := sup
  interfaces := ifs
  fields := fds
  methods := ms
  attributes := attrs
def plain (name : String) (sup : Option ClassId) : Class where
  name := name
  kind := .ordinary
  loader := none
  accessFlags := 33
  super := sup
  interfaces := #[]
  cf := none
  fields := #[]
  methods := #[]
  instanceTypes := #[]
  staticTypes := #[]
  resolved := #[]
  callSites := []
  init := .initialized
  statics := none
  mirror := none

def pool0 : Array CpInfo := pool [(5, u "<init>"), (0, u "()V"), (1, .class_ 10), (1, u "java/lang/Object")] 113

def k0c0 : Code := { maxStack := 0, maxLocals := 1, code := object_method_1_code, exceptionTable := #[], attributes := #[] }
def k0m0 : Method := { name := "<init>", desc := "()V", sig := { parameters := [], returnType := none }, accessFlags := 1, code := some k0c0 }
/-- java/lang/Object -/
def k0 : Class := { plain "java/lang/Object" none with
  accessFlags := 33
  interfaces := #[]
  cf := some (fileOf pool0 8 #[] #[{ accessFlags := 1, nameIndex := 5, descriptorIndex := 6, attributes := #[] }] 33 0 #[] #[])
  fields := #[]
  methods := #[k0m0]
  instanceTypes := #[]
  staticTypes := #[]
  resolved := Array.replicate 124 none
  statics := none }

def pool1 : Array CpInfo := pool [(2, .class_ 4), (1, u "java/lang/Object"), (0, u "<init>"), (0, u "()V"), (0, .integer 2147483647), (0, .class_ 9), (0, u "com/example/enact/enact/net/Marking"), (0, .methodref 8 11), (0, .nameAndType 5 12), (0, u "([I)V"), (0, .methodref 8 14), (0, .nameAndType 15 16), (0, u "isSafe"), (0, u "()Z"), (0, .class_ 18), (0, u "com/example/enact/enact/net/MarkingIsSafePinLaw"), (2, u "law"), (0, u "(IIII)Z")] 5

def k1m0 : Method := { name := "<init>", desc := "()V", sig := { parameters := [], returnType := none }, accessFlags := 1, code := none }
def k1c1 : Code := { maxStack := 3, maxLocals := 11, code := code, exceptionTable := #[], attributes := #[] }
def k1m1 : Method := { name := "law", desc := "(IIII)Z", sig := { parameters := [.int, .int, .int, .int], returnType := some .boolean }, accessFlags := 9, code := some k1c1 }
/-- com/example/enact/enact/net/MarkingIsSafePinLaw -/
def k1 : Class := { plain "com/example/enact/enact/net/MarkingIsSafePinLaw" (some 0) with
  accessFlags := 49
  interfaces := #[]
  cf := some (fileOf pool1 17 #[] #[{ accessFlags := 1, nameIndex := 5, descriptorIndex := 6, attributes := #[] }, { accessFlags := 9, nameIndex := 21, descriptorIndex := 22, attributes := #[] }] 49 2 #[] #[])
  fields := #[]
  methods := #[k1m0, k1m1]
  instanceTypes := #[]
  staticTypes := #[]
  resolved := Array.replicate 28 none
  statics := none }

def pool2 : Array CpInfo := pool [(1, .methodref 2 3), (0, .class_ 4), (0, .nameAndType 5 6), (0, u "java/lang/Object"), (0, u "<init>"), (0, u "()V"), (0, .fieldref 8 9), (0, .class_ 10), (0, .nameAndType 11 12), (0, u "com/example/enact/enact/net/Marking"), (0, u "tokens"), (0, u "[I"), (0, .fieldref 8 14), (0, .nameAndType 15 16), (0, u "total"), (0, u "J"), (0, .methodref 18 19), (0, .class_ 20), (0, .nameAndType 21 22), (0, u "java/util/Arrays"), (0, u "hashCode"), (0, u "([I)I"), (0, .fieldref 8 24), (0, .nameAndType 25 26), (0, u "hash"), (0, u "I"), (16, u "([I)V"), (64, u "isSafe"), (0, u "()Z")] 26

def k2c0 : Code := { maxStack := 4, maxLocals := 8, code := prog_29_method_1_code, exceptionTable := #[], attributes := #[] }
def k2m0 : Method := { name := "<init>", desc := "([I)V", sig := { parameters := [(.array .int)], returnType := none }, accessFlags := 0, code := some k2c0 }
def k2c1 : Code := { maxStack := 2, maxLocals := 5, code := prog_29_method_7_code, exceptionTable := #[], attributes := #[] }
def k2m1 : Method := { name := "isSafe", desc := "()Z", sig := { parameters := [], returnType := some .boolean }, accessFlags := 1, code := some k2c1 }
/-- com/example/enact/enact/net/Marking -/
def k2 : Class := { plain "com/example/enact/enact/net/Marking" (some 0) with
  accessFlags := 49
  interfaces := #[]
  cf := some (fileOf pool2 8 #[] #[{ accessFlags := 0, nameIndex := 5, descriptorIndex := 43, attributes := #[] }, { accessFlags := 1, nameIndex := 108, descriptorIndex := 109, attributes := #[] }] 49 2 #[] #[{ accessFlags := 18, nameIndex := 11, descriptorIndex := 12, attributes := #[] }, { accessFlags := 18, nameIndex := 15, descriptorIndex := 16, attributes := #[] }, { accessFlags := 18, nameIndex := 25, descriptorIndex := 26, attributes := #[] }])
  fields := #[{ name := "tokens", type := (.array .int), accessFlags := 18, slot := 0, constantValue := 0 }, { name := "total", type := .long, accessFlags := 18, slot := 1, constantValue := 0 }, { name := "hash", type := .int, accessFlags := 18, slot := 2, constantValue := 0 }]
  methods := #[k2m0, k2m1]
  instanceTypes := #[(.array .int), .long, .int]
  staticTypes := #[]
  resolved := Array.replicate 136 none
  statics := none }

def pool3 : Array CpInfo := pool [(2, .class_ 4), (1, u "java/lang/Object"), (0, u "<init>"), (0, u "()V"), (7, .class_ 16), (1, u "java/util/Arrays"), (57, .class_ 76), (1, u "java/util/Arrays$NaturalOrder"), (36, .class_ 115), (1, u "java/util/Arrays$LegacyMergeSort"), (1, u "Z"), (128, .class_ 248), (1, u "jdk/internal/util/ArraysSupport"), (126, .class_ 376), (0, u "java/util/Arrays$ArrayList"), (2, .methodref 246 380), (0, .nameAndType 381 382), (0, u "vectorizedHashCode"), (0, u "(Ljava/lang/Object;IIII)I"), (2, u "hashCode"), (22, u "([I)I"), (36, u "$assertionsDisabled"), (269, u "MIN_ARRAY_SORT_GRAN"), (0, u "I"), (2, u "INSERTIONSORT_THRESHOLD"), (255, .class_ 976), (0, u "java/util/Arrays$ArrayItr")] 52

def k3m0 : Method := { name := "<init>", desc := "()V", sig := { parameters := [], returnType := none }, accessFlags := 2, code := none }
def k3c1 : Code := { maxStack := 5, maxLocals := 1, code := jdk_65_method_150_code, exceptionTable := #[], attributes := #[] }
def k3m1 : Method := { name := "hashCode", desc := "([I)I", sig := { parameters := [(.array .int)], returnType := some .int }, accessFlags := 9, code := some k3c1 }
/-- java/util/Arrays -/
def k3 : Class := { plain "java/util/Arrays" (some 0) with
  accessFlags := 49
  interfaces := #[]
  cf := some (fileOf pool3 14 #[.nestMembers #[975, 375, 113, 74]] #[{ accessFlags := 2, nameIndex := 5, descriptorIndex := 6, attributes := #[] }, { accessFlags := 9, nameIndex := 385, descriptorIndex := 408, attributes := #[] }] 49 2 #[] #[{ accessFlags := 26, nameIndex := 715, descriptorIndex := 716, attributes := #[] }, { accessFlags := 26, nameIndex := 719, descriptorIndex := 716, attributes := #[] }, { accessFlags := 4120, nameIndex := 445, descriptorIndex := 117, attributes := #[] }])
  fields := #[{ name := "MIN_ARRAY_SORT_GRAN", type := .int, accessFlags := 26, slot := 0, constantValue := 0 }, { name := "INSERTIONSORT_THRESHOLD", type := .int, accessFlags := 26, slot := 1, constantValue := 0 }, { name := "$assertionsDisabled", type := .boolean, accessFlags := 4120, slot := 2, constantValue := 0 }]
  methods := #[k3m0, k3m1]
  instanceTypes := #[]
  staticTypes := #[.int, .int, .boolean]
  resolved := Array.replicate 1029 none
  statics := none }

def pool4 : Array CpInfo := pool [(9, u "<init>"), (6, .class_ 18), (1, u "java/lang/Object"), (0, u "()V"), (1, .class_ 23), (1, u "jdk/internal/util/ArraysSupport"), (0, u "LOG2_ARRAY_LONG_INDEX_SCALE"), (0, u "I"), (2, u "U"), (0, u "Ljdk/internal/misc/Unsafe;"), (8, u "BIG_ENDIAN"), (0, u "Z"), (8, u "LOG2_BYTE_BIT_SIZE"), (4, u "LOG2_ARRAY_INT_INDEX_SCALE"), (19, u "hashCode"), (8, .class_ 83), (0, u "[I"), (0, .methodref 21 85), (0, .nameAndType 73 86), (0, u "(I[III)I"), (21, u "JLA"), (0, u "Ljdk/internal/access/JavaLangAccess;"), (11, u "LOG2_ARRAY_BOOLEAN_INDEX_SCALE"), (9, u "LOG2_ARRAY_BYTE_INDEX_SCALE"), (5, u "LOG2_ARRAY_CHAR_INDEX_SCALE"), (5, u "LOG2_ARRAY_SHORT_INDEX_SCALE"), (18, u "LOG2_ARRAY_FLOAT_INDEX_SCALE"), (24, u "LOG2_ARRAY_DOUBLE_INDEX_SCALE"), (89, u "T_BOOLEAN"), (2, u "T_CHAR"), (1, u "T_FLOAT"), (1, u "T_DOUBLE"), (1, u "T_BYTE"), (1, u "T_SHORT"), (1, u "T_INT"), (1, u "T_LONG"), (1, u "SOFT_MAX_ARRAY_LENGTH"), (26, u "vectorizedHashCode"), (0, u "(Ljava/lang/Object;IIII)I")] 55

def k4m0 : Method := { name := "<init>", desc := "()V", sig := { parameters := [], returnType := none }, accessFlags := 2, code := none }
def k4c1 : Code := { maxStack := 4, maxLocals := 5, code := jdk_48_method_4_code, exceptionTable := #[], attributes := #[] }
def k4m1 : Method := { name := "vectorizedHashCode", desc := "(Ljava/lang/Object;IIII)I", sig := { parameters := [(.object "java/lang/Object"), .int, .int, .int, .int], returnType := some .int }, accessFlags := 9, code := some k4c1 }
def k4c2 : Code := { maxStack := 3, maxLocals := 6, code := jdk_48_method_9_code, exceptionTable := #[], attributes := #[] }
def k4m2 : Method := { name := "hashCode", desc := "(I[III)I", sig := { parameters := [.int, (.array .int), .int, .int], returnType := some .int }, accessFlags := 10, code := some k4c2 }
/-- jdk/internal/util/ArraysSupport -/
def k4 : Class := { plain "jdk/internal/util/ArraysSupport" (some 0) with
  accessFlags := 33
  interfaces := #[]
  cf := some (fileOf pool4 21 #[] #[{ accessFlags := 2, nameIndex := 9, descriptorIndex := 19, attributes := #[] }, { accessFlags := 9, nameIndex := 321, descriptorIndex := 322, attributes := #[] }, { accessFlags := 10, nameIndex := 73, descriptorIndex := 86, attributes := #[] }] 33 16 #[] #[{ accessFlags := 24, nameIndex := 28, descriptorIndex := 29, attributes := #[] }, { accessFlags := 26, nameIndex := 38, descriptorIndex := 39, attributes := #[] }, { accessFlags := 25, nameIndex := 121, descriptorIndex := 25, attributes := #[] }, { accessFlags := 25, nameIndex := 131, descriptorIndex := 25, attributes := #[] }, { accessFlags := 25, nameIndex := 137, descriptorIndex := 25, attributes := #[] }, { accessFlags := 25, nameIndex := 143, descriptorIndex := 25, attributes := #[] }, { accessFlags := 25, nameIndex := 53, descriptorIndex := 25, attributes := #[] }, { accessFlags := 25, nameIndex := 24, descriptorIndex := 25, attributes := #[] }, { accessFlags := 25, nameIndex := 162, descriptorIndex := 25, attributes := #[] }, { accessFlags := 25, nameIndex := 187, descriptorIndex := 25, attributes := #[] }, { accessFlags := 26, nameIndex := 48, descriptorIndex := 25, attributes := #[] }, { accessFlags := 25, nameIndex := 277, descriptorIndex := 25, attributes := #[] }, { accessFlags := 25, nameIndex := 280, descriptorIndex := 25, attributes := #[] }, { accessFlags := 25, nameIndex := 282, descriptorIndex := 25, attributes := #[] }, { accessFlags := 25, nameIndex := 284, descriptorIndex := 25, attributes := #[] }, { accessFlags := 25, nameIndex := 286, descriptorIndex := 25, attributes := #[] }, { accessFlags := 25, nameIndex := 288, descriptorIndex := 25, attributes := #[] }, { accessFlags := 25, nameIndex := 290, descriptorIndex := 25, attributes := #[] }, { accessFlags := 25, nameIndex := 292, descriptorIndex := 25, attributes := #[] }, { accessFlags := 26, nameIndex := 108, descriptorIndex := 109, attributes := #[] }, { accessFlags := 25, nameIndex := 294, descriptorIndex := 25, attributes := #[] }])
  fields := #[{ name := "U", type := (.object "jdk/internal/misc/Unsafe"), accessFlags := 24, slot := 0, constantValue := 0 }, { name := "BIG_ENDIAN", type := .boolean, accessFlags := 26, slot := 1, constantValue := 0 }, { name := "LOG2_ARRAY_BOOLEAN_INDEX_SCALE", type := .int, accessFlags := 25, slot := 2, constantValue := 0 }, { name := "LOG2_ARRAY_BYTE_INDEX_SCALE", type := .int, accessFlags := 25, slot := 3, constantValue := 0 }, { name := "LOG2_ARRAY_CHAR_INDEX_SCALE", type := .int, accessFlags := 25, slot := 4, constantValue := 0 }, { name := "LOG2_ARRAY_SHORT_INDEX_SCALE", type := .int, accessFlags := 25, slot := 5, constantValue := 0 }, { name := "LOG2_ARRAY_INT_INDEX_SCALE", type := .int, accessFlags := 25, slot := 6, constantValue := 0 }, { name := "LOG2_ARRAY_LONG_INDEX_SCALE", type := .int, accessFlags := 25, slot := 7, constantValue := 0 }, { name := "LOG2_ARRAY_FLOAT_INDEX_SCALE", type := .int, accessFlags := 25, slot := 8, constantValue := 0 }, { name := "LOG2_ARRAY_DOUBLE_INDEX_SCALE", type := .int, accessFlags := 25, slot := 9, constantValue := 0 }, { name := "LOG2_BYTE_BIT_SIZE", type := .int, accessFlags := 26, slot := 10, constantValue := 0 }, { name := "T_BOOLEAN", type := .int, accessFlags := 25, slot := 11, constantValue := 0 }, { name := "T_CHAR", type := .int, accessFlags := 25, slot := 12, constantValue := 0 }, { name := "T_FLOAT", type := .int, accessFlags := 25, slot := 13, constantValue := 0 }, { name := "T_DOUBLE", type := .int, accessFlags := 25, slot := 14, constantValue := 0 }, { name := "T_BYTE", type := .int, accessFlags := 25, slot := 15, constantValue := 0 }, { name := "T_SHORT", type := .int, accessFlags := 25, slot := 16, constantValue := 0 }, { name := "T_INT", type := .int, accessFlags := 25, slot := 17, constantValue := 0 }, { name := "T_LONG", type := .int, accessFlags := 25, slot := 18, constantValue := 0 }, { name := "JLA", type := (.object "jdk/internal/access/JavaLangAccess"), accessFlags := 26, slot := 19, constantValue := 0 }, { name := "SOFT_MAX_ARRAY_LENGTH", type := .int, accessFlags := 25, slot := 20, constantValue := 0 }]
  methods := #[k4m0, k4m1, k4m2]
  instanceTypes := #[]
  staticTypes := #[(.object "jdk/internal/misc/Unsafe"), .boolean, .int, .int, .int, .int, .int, .int, .int, .int, .int, .int, .int, .int, .int, .int, .int, .int, .int, (.object "jdk/internal/access/JavaLangAccess"), .int]
  resolved := Array.replicate 378 none
  statics := none }

def pool5 : Array CpInfo := pool [(1, u "java/lang/Cloneable"), (0, .class_ 1), (0, u "java/lang/Object"), (0, .class_ 3)] 3

/-- java/lang/Cloneable -/
def k5 : Class := { plain "java/lang/Cloneable" (some 0) with
  accessFlags := 1537
  interfaces := #[]
  cf := some (fileOf pool5 2 #[] #[] 1537 4 #[] #[])
  fields := #[]
  methods := #[]
  instanceTypes := #[]
  staticTypes := #[]
  resolved := Array.replicate 8 none
  statics := none }

def pool6 : Array CpInfo := pool [(1, u "java/io/Serializable"), (0, .class_ 1), (0, u "java/lang/Object"), (0, .class_ 3)] 3

/-- java/io/Serializable -/
def k6 : Class := { plain "java/io/Serializable" (some 0) with
  accessFlags := 1537
  interfaces := #[]
  cf := some (fileOf pool6 2 #[] #[] 1537 4 #[] #[])
  fields := #[]
  methods := #[]
  instanceTypes := #[]
  staticTypes := #[]
  resolved := Array.replicate 8 none
  statics := none }

/-- the primitive byte -/
def k7 : Class := { plain "byte" none with kind := .primitive 'B', accessFlags := 0x411 }
/-- [B -/
def k8 : Class := { plain "[B" (some 0) with kind := .array 7 .byte, interfaces := #[5, 6], accessFlags := 1041 }

/-- the primitive int -/
def k9 : Class := { plain "int" none with kind := .primitive 'I', accessFlags := 0x411 }
/-- [I -/
def k10 : Class := { plain "[I" (some 0) with kind := .array 9 .int, interfaces := #[5, 6], accessFlags := 1041 }

def heap : Heap := #[]
def classes : Array Class := #[k0, k1, k2, k3, k4, k5, k6, k7, k8, k9, k10]
def interned : List (Array UInt16 × Addr) := []
def slotsUsed : Nat := 0
def theMethod : MethodId := ⟨1, 1⟩
def args0 : Array Value := #[.int 5, .int 6, .int 7, .int 8]
def aboutOver (below : List Frame) : State where
  vm := { classes := classes, interned := interned.toArray }
  heap := heap
  slotsUsed := slotsUsed
  threads := #[{ frames := .invoking theMethod args0 :: below }]
def below0 : List Frame := [.native { method := ⟨0, 0⟩, args := #[] }]
def about1 : State := aboutOver below0
def p0 : Program := .bare "" "" ""
def e0 : Env := launch0.env 0 0 0
theorem w_frames : about1.frames = Frame.invoking theMethod args0 :: below0 := rfl
set_option maxRecDepth 65536 in
theorem w_args : argsFit about1.vm theMethod args0 = true := by decide +kernel
set_option maxRecDepth 65536 in
theorem w_heap : heapFits about1 = true := by decide +kernel
set_option maxRecDepth 65536 in
theorem w_runnable : about1.curStatus? = some .runnable := by decide +kernel
set_option maxRecDepth 65536 in
theorem w_alone : about1.alone = true := by decide +kernel
set_option maxRecDepth 65536 in
theorem w_named : about1.methodNamed? x = some theMethod := by decide +kernel
set_option maxRecDepth 65536 in
theorem w_hears : about1.hears theMethod below0 = true := by decide +kernel
set_option maxRecDepth 65536 in
theorem w_ripe : about1.ripe theMethod args0 below0 = true := by decide +kernel
theorem w_running : about1.status = .running := rfl
set_option maxRecDepth 65536 in
theorem w_room : about1.hasRoom e0.platform room_1 = true :=
  launch0.hasRoom_least _ room_1 (by decide +kernel) (by decide +kernel) (by decide +kernel) (by decide +kernel) (by decide +kernel) (by decide +kernel)
theorem allAtoms_all (ts : List Jvm.Cond) (a : Array Jvm.Value) (st : Jvm.State) : (allAtoms ts).before a st = ts.all (fun c => c.before a st) := by
  induction ts with
  | nil => rfl
  | cons c t ih =>
    show (Jvm.Cond.and c (allAtoms t)).before a st = _
    rw [Jvm.Cond.before_and, ih, List.all_cons]
def words1 : List Jvm.Cond := Jvm.Cond.code x code maxLocals ret :: tables_1
/-- a 'code' word, met by the world's own term for the bytes: nothing is compared byte by byte -/
theorem code_word {y : MethodName} {bytes : ByteArray} {mx : Nat} {rt : Option FieldType} {a : Array Value} {s : State} {m : MethodId} {meth : Method} {c : Code} (h1 : s.methodNamed? y = some m) (h2 : s.vm.method? m = some meth) (h3 : meth.code = some c) (h4 : c.code = bytes)
    (h5 : (c.maxLocals == mx && c.exceptionTable.isEmpty && decide (c.maxStack ≤ mostOperands) && decide (meth.sig.returnType = rt) && !meth.locks && decide (parseMethodDescriptor y.desc = some meth.sig)) = true) : (Jvm.Cond.code y bytes mx rt).before a s = true := by
  simp only [Bool.and_eq_true, beq_iff_eq, Bool.not_eq_true', decide_eq_true_eq] at h5
  obtain ⟨⟨⟨⟨⟨g1, g2⟩, g3⟩, g4⟩, g5⟩, g6⟩ := h5
  simp [Cond.before, Cond.holds, Cond.value, h1, h2, h3, h4, g1, g2, g3, g4, g5, g6]
def isCode : Jvm.Cond → Bool
  | .code _ _ _ _ => true
  | _ => false
theorem all_split {L : List Jvm.Cond} {P : Jvm.Cond → Bool} (h1 : L.all (fun c => isCode c || P c) = true) (h2 : ∀ c ∈ L.filter isCode, P c = true) : L.all P = true := by
  refine List.all_eq_true.mpr fun c hc => ?_
  have h := List.all_eq_true.mp h1 c hc
  rcases Bool.eq_false_or_eq_true (isCode c) with hi | hi
  · exact h2 c (List.mem_filter.mpr ⟨hc, hi⟩)
  · simpa [hi] using h
set_option maxRecDepth 65536 in
theorem w_c0 : (Jvm.Cond.code x code maxLocals ret).before args0 about1 = true := code_word (m := ⟨1, 1⟩) (meth := k1m1) (c := k1c1) (by decide +kernel) rfl rfl rfl (by decide +kernel)
set_option maxRecDepth 65536 in
theorem w_c1 : (Jvm.Cond.code ({ cls := "com/example/enact/enact/net/Marking", name := "<init>", desc := "([I)V" } : Jvm.MethodName) prog_29_method_1_code (8 : Nat) (Option.none : Option Jvm.ClassFile.FieldType)).before args0 about1 = true := code_word (m := ⟨2, 0⟩) (meth := k2m0) (c := k2c0) (by decide +kernel) rfl rfl rfl (by decide +kernel)
set_option maxRecDepth 65536 in
theorem w_c2 : (Jvm.Cond.code ({ cls := "java/lang/Object", name := "<init>", desc := "()V" } : Jvm.MethodName) object_method_1_code (1 : Nat) (Option.none : Option Jvm.ClassFile.FieldType)).before args0 about1 = true := code_word (m := ⟨0, 0⟩) (meth := k0m0) (c := k0c0) (by decide +kernel) rfl rfl rfl (by decide +kernel)
set_option maxRecDepth 65536 in
theorem w_c3 : (Jvm.Cond.code ({ cls := "java/util/Arrays", name := "hashCode", desc := "([I)I" } : Jvm.MethodName) jdk_65_method_150_code (1 : Nat) (Option.some Jvm.ClassFile.FieldType.int)).before args0 about1 = true := code_word (m := ⟨3, 1⟩) (meth := k3m1) (c := k3c1) (by decide +kernel) rfl rfl rfl (by decide +kernel)
set_option maxRecDepth 65536 in
theorem w_c4 : (Jvm.Cond.code ({ cls := "com/example/enact/enact/net/Marking", name := "isSafe", desc := "()Z" } : Jvm.MethodName) prog_29_method_7_code (5 : Nat) (Option.some Jvm.ClassFile.FieldType.boolean)).before args0 about1 = true := code_word (m := ⟨2, 1⟩) (meth := k2m1) (c := k2c1) (by decide +kernel) rfl rfl rfl (by decide +kernel)
set_option maxRecDepth 65536 in
theorem w_c5 : (Jvm.Cond.code ({ cls := "jdk/internal/util/ArraysSupport", name := "vectorizedHashCode", desc := "(Ljava/lang/Object;IIII)I" } : Jvm.MethodName) jdk_48_method_4_code (5 : Nat) (Option.some Jvm.ClassFile.FieldType.int)).before args0 about1 = true := code_word (m := ⟨4, 1⟩) (meth := k4m1) (c := k4c1) (by decide +kernel) rfl rfl rfl (by decide +kernel)
set_option maxRecDepth 65536 in
theorem w_c6 : (Jvm.Cond.code ({ cls := "jdk/internal/util/ArraysSupport", name := "hashCode", desc := "(I[III)I" } : Jvm.MethodName) jdk_48_method_9_code (6 : Nat) (Option.some Jvm.ClassFile.FieldType.int)).before args0 about1 = true := code_word (m := ⟨4, 2⟩) (meth := k4m2) (c := k4c2) (by decide +kernel) rfl rfl rfl (by decide +kernel)
def codes1 : List Jvm.Cond := [Jvm.Cond.code x code maxLocals ret, Jvm.Cond.code ({ cls := "com/example/enact/enact/net/Marking", name := "<init>", desc := "([I)V" } : Jvm.MethodName) prog_29_method_1_code (8 : Nat) (Option.none : Option Jvm.ClassFile.FieldType), Jvm.Cond.code ({ cls := "java/lang/Object", name := "<init>", desc := "()V" } : Jvm.MethodName) object_method_1_code (1 : Nat) (Option.none : Option Jvm.ClassFile.FieldType), Jvm.Cond.code ({ cls := "java/util/Arrays", name := "hashCode", desc := "([I)I" } : Jvm.MethodName) jdk_65_method_150_code (1 : Nat) (Option.some Jvm.ClassFile.FieldType.int), Jvm.Cond.code ({ cls := "com/example/enact/enact/net/Marking", name := "isSafe", desc := "()Z" } : Jvm.MethodName) prog_29_method_7_code (5 : Nat) (Option.some Jvm.ClassFile.FieldType.boolean), Jvm.Cond.code ({ cls := "jdk/internal/util/ArraysSupport", name := "vectorizedHashCode", desc := "(Ljava/lang/Object;IIII)I" } : Jvm.MethodName) jdk_48_method_4_code (5 : Nat) (Option.some Jvm.ClassFile.FieldType.int), Jvm.Cond.code ({ cls := "jdk/internal/util/ArraysSupport", name := "hashCode", desc := "(I[III)I" } : Jvm.MethodName) jdk_48_method_9_code (6 : Nat) (Option.some Jvm.ClassFile.FieldType.int)]
set_option maxRecDepth 65536 in
theorem codes_eq : words1.filter isCode = codes1 := rfl
theorem w_codes : ∀ c ∈ words1.filter isCode, c.before args0 about1 = true := by
  rw [codes_eq]
  intro c hc
  simp only [codes1, List.mem_cons, List.not_mem_nil, or_false] at hc
  rcases hc with rfl | rfl | rfl | rfl | rfl | rfl | rfl
  · exact w_c0
  · exact w_c1
  · exact w_c2
  · exact w_c3
  · exact w_c4
  · exact w_c5
  · exact w_c6
set_option maxRecDepth 65536 in
theorem w_t1 : (words1.take 24).all (fun c => isCode c || c.before args0 about1) = true := by decide +kernel
set_option maxRecDepth 65536 in
theorem w_t2 : (words1.drop 24).all (fun c => isCode c || c.before args0 about1) = true := by decide +kernel
theorem w_tables : (allAtoms (Jvm.Cond.code x code maxLocals ret :: tables_1)).before args0 about1 = true := by
  rw [allAtoms_all]
  show words1.all (fun c => c.before args0 about1) = true
  refine all_split ?_ w_codes
  rw [← List.take_append_drop 24 words1, List.all_append, w_t1, w_t2]
  rfl
set_option maxRecDepth 65536 in
theorem w_case : (Jvm.Cond.and given_1 narrow_1).before args0 about1 = true := by decide +kernel
theorem w_applies : (headSpec (Jvm.Cond.code x code maxLocals ret :: tables_1) room_1).applies x e0.platform about1 = true :=
  (Spec.applies_iff w_frames).mpr ⟨w_running, w_runnable, w_alone, w_named, w_hears, w_ripe, w_room, w_tables⟩
theorem atStart : AtStart classFile x code maxLocals ret World_1 tables_1 room_1 Calls_1 rest_1 Pre_1 launch0 p0 e0 about1 theMethod args0 below0 :=
  ⟨lists_1, trivial, launch0.admits_env _ _ _, launch0.least_env, fairChoices_fair.cas, fairChoices_fair.clock, w_frames, w_args, w_heap, w_applies, trivial, trivial, w_case⟩
end start1
theorem witness_1 : WitnessClaimed_1 := ⟨start1.p0, start1.e0, start1.about1, start1.theMethod, start1.args0, start1.below0, start1.atStart⟩
end Jvm.Pilot.@@N@@
