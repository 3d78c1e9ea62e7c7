import JvmDerived
import JvmDerived.Pilot.@@N@@Statement
import JvmDerived.Pilot.@@N@@Code
set_option linter.unusedVariables false
set_option linter.unusedSimpArgs false
namespace Jvm.RoadKit
open Sem ClassFile Op Lib Jvm.Stand Jvm.Free Jvm.LawKit
section New
variable {p : Program} {l : Launch} {e : Env} {R : Room} {s : State} {m : MethodId} {args : Array Value} {below : List Frame} {meth : Method} {c : Code} {T : State} {locs : List Loc} {cells slots : Nat}
theorem retI (X : Stand p l e R s m args below meth c T locs cells slots) (hx : p.tables.exec = Jvm.exec) {pc : Nat} {Ls : Array Slot} {z : Int32} {rest : List Value} (hret : meth.sig.returnType = some .int) (hd : decode c.code pc = .ok (.ireturn, 1)) {fs : List Frame}
    (hl : ∀ (f : JFrame) (acts : List Action), f.method = m → f.locked = none → f.entered = [] → (doReturn e (T.setTop f) acts (some (.int z))).1 = T.setFrames fs) : Steps p.tables e below (T.setTop (mkF m pc Ls (.int z :: rest))) (T.setFrames fs) := by
  have hm' : T.vm.method? m = some meth := X.method'
  have hn : narrow .int (.int z) = .int z := rfl
  show Steps p.tables e below (T.setTop { method := m, pc := pc, locals := Ls, stack := _ :: rest, locked := none }) _
  jvm_step X.here [X.here.top, hx, hd, hm', hret, hn]
  first | (intro acts; rw [hl _ acts rfl rfl rfl]) | rw [hl _ _ rfl rfl rfl]
  exact Steps.refl _
theorem retZ (X : Stand p l e R s m args below meth c T locs cells slots) (hx : p.tables.exec = Jvm.exec) {pc : Nat} {Ls : Array Slot} {z : Int32} {rest : List Value} (hret : meth.sig.returnType = some .boolean) (hz : z &&& 1 = z) (hd : decode c.code pc = .ok (.ireturn, 1)) {fs : List Frame}
    (hl : ∀ (f : JFrame) (acts : List Action), f.method = m → f.locked = none → f.entered = [] → (doReturn e (T.setTop f) acts (some (.int z))).1 = T.setFrames fs) : Steps p.tables e below (T.setTop (mkF m pc Ls (.int z :: rest))) (T.setFrames fs) := by
  have hn : narrow .boolean (.int z) = .int z := by show Value.int (z &&& 1) = _; rw [hz]
  exact retOut X hx hret hn (Or.inl ⟨rfl, Or.inr (Or.inl rfl), z, rfl⟩) hd hl
theorem retJ (X : Stand p l e R s m args below meth c T locs cells slots) (hx : p.tables.exec = Jvm.exec) {pc : Nat} {Ls : Array Slot} {z : Int64} {rest : List Value} (hret : meth.sig.returnType = some .long) (hd : decode c.code pc = .ok (.lreturn, 1)) {fs : List Frame}
    (hl : ∀ (f : JFrame) (acts : List Action), f.method = m → f.locked = none → f.entered = [] → (doReturn e (T.setTop f) acts (some (.long z))).1 = T.setFrames fs) : Steps p.tables e below (T.setTop (mkF m pc Ls (.long z :: rest))) (T.setFrames fs) :=
  retOut X hx hret rfl (Or.inr (Or.inl ⟨rfl, rfl, z, rfl⟩)) hd hl
theorem retA (X : Stand p l e R s m args below meth c T locs cells slots) (hx : p.tables.exec = Jvm.exec) {pc : Nat} {Ls : Array Slot} {a : Addr} {rest : List Value} {t : FieldType} (ht : t.isReference = true) (hn : narrow t (.ref a) = .ref a) (hret : meth.sig.returnType = some t) (hd : decode c.code pc = .ok (.areturn, 1)) {fs : List Frame}
    (hl : ∀ (f : JFrame) (acts : List Action), f.method = m → f.locked = none → f.entered = [] → (doReturn e (T.setTop f) acts (some (.ref a))).1 = T.setFrames fs) : Steps p.tables e below (T.setTop (mkF m pc Ls (.ref a :: rest))) (T.setFrames fs) :=
  retOut X hx hret hn (Or.inr (Or.inr (Or.inr (Or.inr ⟨rfl, ht, rfl⟩)))) hd hl
theorem newPk {Z : State} {a0 : Array Value} {h : Heap} (X : Stand p l e R s m args below meth c T locs cells slots) (hx : p.tables.exec = Jvm.exec) (hZ : Z.Warmed39 s.vm) {aty : ArrayType} (w : (Cond.arrayClass (newarray.typeOf aty)).before a0 Z = true) (eT : T.heap = h) {g : JFrame} (hg : g.method = m)
    (hd : decode c.code g.pc = .ok (.newarray aty, 2)) {n : Int32} {rest : List Value} (hs : g.stack = .int n :: rest) (hn : ¬ n < 0) {cap : Nat} (hcap : n.toNatClampNeg ≤ cap) (hb : cap * 8 ≤ 536870912) (hc : cells + 1 ≤ R.cells) (hl : slots + cap ≤ R.slots) :
    ∃ T' h' cA, Stand p l e R s m args below meth c T' locs (cells + 1) (slots + cap) ∧ T'.heap = h' ∧ Ext h h' ∧ Arr Z h' h.size (newA cA (newarray.typeOf aty) n) (newarray.typeOf aty) ∧ Z.vm.findClass ("[" ++ (newarray.typeOf aty).toString) = some cA ∧
      ∀ target, Steps p.tables e below (T'.setTop { g with pc := g.pc + 2, stack := .ref h.size :: rest }) target → Steps p.tables e below (T.setTop g) target := by
  have hw8 : componentBytes (newarray.typeOf aty) ≤ 8 := by cases aty <;> decide
  obtain ⟨cA, kA, comp, f1, f2, f3, X', st⟩ := X.newarrayPrim hx (mvA hZ w) hg hd hs hn (Nat.le_trans (Nat.mul_le_mul hcap hw8) hb) hc (by omega)
  subst eT
  have f0 : Z.vm.findClass ("[" ++ (newarray.typeOf aty).toString) = some cA := by rw [← hZ.alike.findClass]; exact f1
  obtain ⟨kZ, z1, -⟩ := Vm.findClass_spec f0
  obtain ⟨k', z2, z3⟩ := hZ.alike.2.2 _ _ z1
  have ek : kA = k' := Option.some.inj (f2.symm.trans z2)
  have hq : kZ.kind = .array comp (newarray.typeOf aty) := by rw [← f3, ek, z3]
  refine ⟨_, _, cA, X'.more (Nat.le_refl _) (by omega), rfl, ext_of fun a ha => ?_, ⟨?_, ⟨fun q => by simp [newA], kZ, z1, comp, hq⟩, by simp [newA]⟩, f0, st⟩
  · show (T.heap.push _)[a]? = _
    rw [Array.getElem?_push_lt ha, Array.getElem?_eq_getElem ha]
  · show (T.heap.push _)[T.heap.size]? = _
    simp [newA]
theorem selPriv {s : State} {args : Array Value} {C : String} {y y0 : MethodName} (hsel : (Cond.selects C y0 y0).before args s = true) (hcls : y0.cls = y.cls) (hpriv : s.PrivateAt y) (hinst : (Cond.instanceMethod y).before args s = true) (hy : y.cls ≠ "java/lang/invoke/MethodHandle" ∧ y.cls ≠ "java/lang/invoke/VarHandle") : (Cond.selects y.cls y y).before args s = true := by
  obtain ⟨mk, meth, hnamed, hm, -, -⟩ := Cond.instanceMethod_spec hinst
  have hc := findClass_of_methodNamed hnamed
  obtain ⟨_, _, m2, -, -, q3, -, kP, hkP, hkPi⟩ := Cond.selects_spec hsel
  have h0 := findClass_of_methodNamed q3
  rw [hcls] at h0
  have e : mk.cls = m2.cls := Option.some.inj (hc.symm.trans h0)
  exact selects_self_of_private hc (by rw [e]; exact hkP) hkPi hpriv hinst hy
theorem insA {Z : State} {h : Heap} {a : Addr} {k : ClassId} {ty : FieldType} {z : Int32} {vs : List Value} {d : Value} {K : String} (F : Arv Z h a k ty z vs d) (hk : Z.vm.findClass K = some k) : Ins Z h a K true := by
  obtain ⟨c, A, q, -⟩ := F
  exact ⟨c, k, A.1, hk, by simp [A.plain, q, Vm.assignable_self]⟩
theorem lswHit {g : JFrame} {target : State} (X : Stand p l e R s m args below meth c T locs cells slots) (hx : p.tables.exec = Jvm.exec) (hg : g.method = m) {pc0 pc' : Nat} (hpc : g.pc = pc0) {k : Int32} {rest : List Value} {dflt : Int} {pairs : Array (Int × Int)} {len : Nat}
    (hd : decode c.code g.pc = .ok (.lookupswitch dflt pairs, len)) (hs : g.stack = .int k :: rest) (hsort : (pairs.toList.zip (pairs.toList.drop 1)).all (fun (a, next) => a.1 < next.1) = true) {a off : Int} (hf : pairs.find? (·.1 == k.toInt) = some (a, off)) (ho : 0 ≤ (pc0 : Int) + off) (hp : ((pc0 : Int) + off).toNat = pc')
    (hr : Steps p.tables e below (T.setTop { g with pc := pc', stack := rest }) target) : Steps p.tables e below (T.setTop g) target := by
  subst hpc hp
  exact X.lookupswitchHit hx hg hs hd hsort hf ho _ hr
theorem lswMiss {g : JFrame} {target : State} (X : Stand p l e R s m args below meth c T locs cells slots) (hx : p.tables.exec = Jvm.exec) (hg : g.method = m) {pc0 pc' : Nat} (hpc : g.pc = pc0) {k : Int32} {rest : List Value} {dflt : Int} {pairs : Array (Int × Int)} {len : Nat}
    (hd : decode c.code g.pc = .ok (.lookupswitch dflt pairs, len)) (hs : g.stack = .int k :: rest) (hsort : (pairs.toList.zip (pairs.toList.drop 1)).all (fun (a, next) => a.1 < next.1) = true) (hf : pairs.find? (·.1 == k.toInt) = none) (ho : 0 ≤ (pc0 : Int) + dflt) (hp : ((pc0 : Int) + dflt).toNat = pc')
    (hr : Steps p.tables e below (T.setTop { g with pc := pc', stack := rest }) target) : Steps p.tables e below (T.setTop g) target := by
  subst hpc hp
  exact X.lookupswitchMiss hx hg hs hd hsort hf ho _ hr
end New
end Jvm.RoadKit
namespace Jvm.Pilot.@@N@@
open Jvm Jvm.ClassFile Sem Op Lib Jvm.Free Jvm.Stand Jvm.LawKit Jvm.RoadKit Bundle Jvm.Pilot.@@N@@.Jvm.D
theorem d4_0 : decode prog_26_method_10_code 0 = .ok (.lload_n 1, 1) := by decide +kernel
theorem d4_1 : decode prog_26_method_10_code 1 = .ok (.lconst 1, 1) := by decide +kernel
theorem d4_2 : decode prog_26_method_10_code 2 = .ok (.lcmp, 1) := by decide +kernel
theorem d4_3 : decode prog_26_method_10_code 3 = .ok (.ifCond .lt 11, 3) := by decide +kernel
theorem d4_6 : decode prog_26_method_10_code 6 = .ok (.lload_n 1, 1) := by decide +kernel
theorem d4_7 : decode prog_26_method_10_code 7 = .ok (.ldc2_w 66, 3) := by decide +kernel
theorem d4_10 : decode prog_26_method_10_code 10 = .ok (.lcmp, 1) := by decide +kernel
theorem d4_11 : decode prog_26_method_10_code 11 = .ok (.ifCond .le 18, 3) := by decide +kernel
theorem d4_29 : decode prog_26_method_10_code 29 = .ok (.return_, 1) := by decide +kernel
theorem pn_0 : plainName "com/example/windo/windo/model/Rule" = true := by first | (simp [plainName, overriddenIn]; done) | decide +kernel
theorem ef_rm4 (m : MethodId) (a0 : Addr) (q1 : Int64) : entryFrame m #[(.ref a0), (.long q1)] 3 = mkF m 0 #[.val (.ref a0), .val (.long q1), .second] [] := by first | (simp [entryFrame, mkF, argsToLocals, Value.category]; done) | rfl
def Q_rm4 (Z : State) (a0 : Addr) (q1 : Int64) (h0 : Heap) (n0 : Nat) (v : Option Value) (h : Heap) (L : List Loc) : Prop := v = none ∧ Fr n0 L ∧ h = h0
set_option maxRecDepth 65536 in
set_option maxHeartbeats 40000000 in
theorem rm4 (l : Launch) (Z : State) (aw : Array Value) (hw : ∀ d ∈ tables_1, d.before aw Z = true) (ws : List Jvm.Cond) (a0 : Addr) (q1 : Int64) (h0 : Heap) (n0 : Nat) (Z0 : n0 ≤ h0.size) (hw1 : ¬ (q1 < (1 : Int64))) (hw2 : ¬ ((9007199254740991 : Int64) < q1)) :
    MetFree l (⟨"com/example/windo/windo/model/Rule", "checkMillis", "(Ljava/lang/String;J)V"⟩ : MethodName) (head1 (Jvm.Cond.code (⟨"com/example/windo/windo/model/Rule", "checkMillis", "(Ljava/lang/String;J)V"⟩ : MethodName) prog_26_method_10_code 3 none :: ws) ({ frames := 0, cells := 0, slots := 0, locals := 0 } : Room)) (fun a U => a = #[(.ref a0), (.long q1)] ∧ Z.Warmed39 U.vm ∧ U.heap = h0) (fun _ _ _ _ _ => True) (fun _ U o U' => ∃ v L, o = .returned v ∧ Q_rm4 Z a0 q1 h0 n0 v U'.heap L ∧ FrameEnd U o U' L ({ frames := 0, cells := 0, slots := 0, locals := 0 } : Room).cells ({ frames := 0, cells := 0, slots := 0, locals := 0 } : Room).slots) := by
  refine MetFree.of_bodySF (plainFor_of_name pn_0) hisR ?_
  intro p e s m args below meth c s₁ Bd hml0 hP hK
  obtain ⟨rfl, hZ, hh⟩ := hP
  have hx := Bd.exec
  have hby := Bd.bytes
  have hml : c.maxLocals = 3 := hml0
  have hown : s.vm.findClass "com/example/windo/windo/model/Rule" = some m.cls := findClass_of_methodNamed Bd.named
  have hnm := (name_of_methodNamed Bd.named Bd.method).1
  have X0 : Stand p l e ({ frames := 0, cells := 0, slots := 0, locals := 0 } : Room) s m #[(.ref a0), (.long q1)] below meth c s₁ [] 0 0 := Stand.of_body Bd
  have e0 : s₁.heap = h0 := by rw [← hh, Bd.state]; rfl
  have N0 := Fr.nil n0
  have pre0 : ∀ t, Steps p.tables e below (s₁.setTop (mkF m 0 #[.val (.ref a0), .val (.long q1), .second] [])) t → Steps p.tables e below (s₁.setTop (entryFrame m #[(.ref a0), (.long q1)] 3)) t := fun t k => castTop (ef_rm4 m a0 q1) k
  have c101 : ¬ (q1 < (1 : Int64)) := by
    exact hw1
  have c102 : ¬ ((9007199254740991 : Int64) < q1) := by
    exact hw2
  obtain ⟨fs, hr, hrun, hended, hW, hsame⟩ := X0.leave (v := none) (fun _ => rfl)
  refine ⟨_, _, pre0 _ ?_, hrun, hended, _, _, rfl, ?_, ⟨_, rfl⟩, hW, hsame.mono (by decide) (by decide)⟩
  ·
    show Steps p.tables e below (s₁.setTop (mkF m 0 #[.val (.ref a0), .val (.long q1), .second] [])) _
    refine XS.lloadN X0.here hx rfl (hb hby d4_0) rfl ?_
    show Steps p.tables e below (s₁.setTop (mkF m 1 #[.val (.ref a0), .val (.long q1), .second] [(.long q1)])) _
    refine XS.lconst X0.here hx rfl (hb hby d4_1) ?_
    show Steps p.tables e below (s₁.setTop (mkF m 2 #[.val (.ref a0), .val (.long q1), .second] [(.long (1 : Int64)), (.long q1)])) _
    refine XS.lcmp X0.here hx rfl (hb hby d4_2) rfl ?_
    show Steps p.tables e below (s₁.setTop (mkF m 3 #[.val (.ref a0), .val (.long q1), .second] [(.int (lcmpW q1 (1 : Int64)))])) _
    refine XS.ifNo X0.here hx rfl (hb hby d4_3) rfl ((if0 _ _).trans (flt (fun q => c101 ((lw_lt _ _).mp q))).1) ?_
    show Steps p.tables e below (s₁.setTop (mkF m 6 #[.val (.ref a0), .val (.long q1), .second] [])) _
    refine XS.lloadN X0.here hx rfl (hb hby d4_6) rfl ?_
    show Steps p.tables e below (s₁.setTop (mkF m 7 #[.val (.ref a0), .val (.long q1), .second] [(.long q1)])) _
    refine X0.ldc2Long hx hown (mvT hZ (hw _ (List.mem_of_getElem? (i := 28) rfl))) (g := (mkF m 7 #[.val (.ref a0), .val (.long q1), .second] [(.long q1)])) rfl (hb hby d4_7) _ ?_
    show Steps p.tables e below (s₁.setTop (mkF m 10 #[.val (.ref a0), .val (.long q1), .second] [(.long (9007199254740991 : Int64)), (.long q1)])) _
    refine XS.lcmp X0.here hx rfl (hb hby d4_10) rfl ?_
    show Steps p.tables e below (s₁.setTop (mkF m 11 #[.val (.ref a0), .val (.long q1), .second] [(.int (lcmpW q1 (9007199254740991 : Int64)))])) _
    refine XS.ifYes X0.here hx rfl (pc0 := 11) (pc' := 29) rfl (hb hby d4_11) rfl ((if0 _ _).trans (flt (fun q => c102 ((lw_gt _ _).mp q))).2.2.2) (by decide) (by decide) ?_
    show Steps p.tables e below (s₁.setTop (mkF m 29 #[.val (.ref a0), .val (.long q1), .second] [])) _
    exact X0.returnOut hx Bd.returns (hb hby d4_29) hr
  ·
    show Q_rm4 Z a0 q1 h0 n0 _ s₁.heap _
    rw [e0]
    exact ⟨rfl, N0, rfl⟩
theorem own_wS {Z : State} {a0 : Array Value} (hw : ∀ d ∈ tables_1, d.before a0 Z = true) : ∀ a ∈ Bundle.stringAtoms, a.before a0 Z = true := fun d hd => by
  simp only [Bundle.stringAtoms, List.mem_cons, List.not_mem_nil, or_false] at hd
  rcases hd with rfl | rfl | rfl | rfl | rfl | rfl | rfl
  · exact (hw _ (List.mem_of_getElem? (i := 18) rfl))
  · exact (hw _ (List.mem_of_getElem? (i := 19) rfl))
  · exact (hw _ (List.mem_of_getElem? (i := 20) rfl))
  · exact (hw _ (List.mem_of_getElem? (i := 21) rfl))
  · exact (hw _ (List.mem_of_getElem? (i := 22) rfl))
  · exact (hw _ (List.mem_of_getElem? (i := 23) rfl))
  · exact (hw _ (List.mem_of_getElem? (i := 24) rfl))
theorem d3_0 : decode prog_26_method_8_code 0 = .ok (.ldc 53, 2) := by decide +kernel
theorem d3_2 : decode prog_26_method_8_code 2 = .ok (.lload_n 0, 1) := by decide +kernel
theorem pd_0 : parseMethodDescriptor "(Ljava/lang/String;J)V" = some ⟨[(.object "java/lang/String"), .long], none⟩ := by decide +kernel
theorem d3_3 : decode prog_26_method_8_code 3 = .ok (.invokestatic 55, 3) := by decide +kernel
theorem d3_6 : decode prog_26_method_8_code 6 = .ok (.return_, 1) := by decide +kernel
theorem ef_rm3 (m : MethodId) (q0 : Int64) : entryFrame m #[(.long q0)] 2 = mkF m 0 #[.val (.long q0), .second] [] := by first | (simp [entryFrame, mkF, argsToLocals, Value.category]; done) | rfl
def Q_rm3 (Z : State) (q0 : Int64) (h0 : Heap) (n0 : Nat) (v : Option Value) (h : Heap) (L : List Loc) : Prop := v = none ∧ Fr n0 L ∧ Keep h0 h []
set_option maxRecDepth 65536 in
set_option maxHeartbeats 40000000 in
theorem rm3 (l : Launch) (Z : State) (aw : Array Value) (hw : ∀ d ∈ tables_1, d.before aw Z = true) (ws : List Jvm.Cond) (q0 : Int64) (h0 : Heap) (n0 : Nat) (Z0 : n0 ≤ h0.size) (hw1 : ¬ (q0 < (1 : Int64))) (hw2 : ¬ ((9007199254740991 : Int64) < q0)) :
    MetFree l (⟨"com/example/windo/windo/model/Rule", "checkWindow", "(J)V"⟩ : MethodName) (head1 (Jvm.Cond.code (⟨"com/example/windo/windo/model/Rule", "checkWindow", "(J)V"⟩ : MethodName) prog_26_method_8_code 2 none :: ws) ({ frames := 1, cells := 2, slots := 52, locals := 14 } : Room)) (fun a U => a = #[(.long q0)] ∧ Z.Warmed39 U.vm ∧ U.heap = h0) (fun _ _ _ _ _ => True) (fun _ U o U' => ∃ v L, o = .returned v ∧ Q_rm3 Z q0 h0 n0 v U'.heap L ∧ ReturnedEndW U o U' L ({ frames := 1, cells := 2, slots := 52, locals := 14 } : Room).cells ({ frames := 1, cells := 2, slots := 52, locals := 14 } : Room).slots) := by
  refine MetFree.of_bodySF (plainFor_of_name pn_0) hisR ?_
  intro p e s m args below meth c s₁ Bd hml0 hP hK
  obtain ⟨rfl, hZ, hh⟩ := hP
  have hx := Bd.exec
  have hby := Bd.bytes
  have hml : c.maxLocals = 2 := hml0
  have hown : s.vm.findClass "com/example/windo/windo/model/Rule" = some m.cls := findClass_of_methodNamed Bd.named
  have hnm := (name_of_methodNamed Bd.named Bd.method).1
  have X0 : Stand p l e ({ frames := 1, cells := 2, slots := 52, locals := 14 } : Room) s m #[(.long q0)] below meth c s₁ [] 0 0 := Stand.of_body Bd
  have e0 : s₁.heap = h0 := by rw [← hh, Bd.state]; rfl
  have N0 := Fr.nil n0
  have pre0 : ∀ t, Steps p.tables e below (s₁.setTop (mkF m 0 #[.val (.long q0), .second] [])) t → Steps p.tables e below (s₁.setTop (entryFrame m #[(.long q0)] 2)) t := fun t k => castTop (ef_rm3 m q0) k
  have KC0 : Keep h0 h0 [] := Keep.refl h0 []
  have hS0 : s.Since s.vm h0.size := (State.WarmedH.refl s).since _
  have hk0 : h0.size ≤ h0.size := Nat.le_refl _
  obtain ⟨a103, T103, h103, k103, X103, e103, E103, hS103, hk103, hZ103, hown103, st103⟩ := ldcS (vm0 := s.vm) X0 hx hZ hown (hw _ (List.mem_of_getElem? (i := 17) rfl)) (own_wS hw) e0 hS0 hk0 (g := (mkF m 0 #[.val (.long q0), .second] [])) rfl (hb hby d3_0) (n := 48) (by decide) (by decide) (by decide) (by decide)
  have Z104 : n0 ≤ h103.size := Nat.le_trans Z0 E103.1
  have K105 : Keep h0 h103 [] := Keep.ext KC0 E103
  obtain ⟨_, _, ⟨T106, L106, k106, n106⟩, -, X106, ⟨Lc106, hQ106, l106, y106, z106⟩, st106⟩ := Jvm.LawKit.callS X103 hx (y := (⟨"com/example/windo/windo/model/Rule", "checkMillis", "(Ljava/lang/String;J)V"⟩ : MethodName)) hown103 (mvT hZ103 (hw _ (List.mem_of_getElem? (i := 25) rfl))) (mvT hZ103 (hw _ (List.mem_of_getElem? (i := 26) rfl))) (mvT hZ103 (hw _ (List.mem_of_getElem? (i := 15) rfl))) (mvT hZ103 (hw _ (List.mem_of_getElem? (i := 27) rfl))) (by decide) (backOf (W := 0) (rm4 l Z aw hw [] a103 q0 h103 n0 Z104 hw1 hw2) hZ103 (hw _ (List.mem_of_getElem? (i := 27) rfl)) (hw _ (List.mem_of_getElem? (i := 15) rfl)) (by decide) (by decide)) (g := (mkF m 3 #[.val (.long q0), .second] [(.long q0), (.ref a103)])) rfl (by rw [hml]; rfl) (argsL := [(.ref a103), (.long q0)]) (rest := []) (lenOf pd_0 rfl) rfl (by show 2 * 0 + _ ≤ _; exact Nat.le_of_eq rfl) (hb hby d3_3) (fun _ _ => ⟨rfl, e103, (by decide : 2 + 0 ≤ _), (by decide : 52 + 0 ≤ _)⟩)
  dsimp only [Pt.U, Pt.locs, Pt.cells, Pt.slots] at X106 l106 y106 z106 st106 hQ106
  subst l106 y106 z106
  obtain ⟨rfl, N106q, e106⟩ := hQ106
  have N106 := Fr.app N0 N106q
  obtain ⟨fs, hr, hrun, hended, hEW⟩ := Stand.leaveW X106 hS103 (by rw [e106]; exact hk103) (v := none) (fun _ => rfl)
  refine ⟨_, _, pre0 _ ?_, hrun, hended, _, _, rfl, ?_, hEW.1, hEW.2.1, hEW.2.2.1, hEW.2.2.2.mono (by decide) (by decide)⟩
  ·
    show Steps p.tables e below (s₁.setTop (mkF m 0 #[.val (.long q0), .second] [])) _
    refine st103 _ ?_
    show Steps p.tables e below (T103.setTop (mkF m 2 #[.val (.long q0), .second] [(.ref a103)])) _
    refine XS.lloadN X103.here hx rfl (hb hby d3_2) rfl ?_
    show Steps p.tables e below (T103.setTop (mkF m 3 #[.val (.long q0), .second] [(.long q0), (.ref a103)])) _
    refine st106 _ ?_
    show Steps p.tables e below (T106.setTop (mkF m 6 #[.val (.long q0), .second] [])) _
    exact X106.returnOut hx Bd.returns (hb hby d3_6) hr
  ·
    show Q_rm3 Z q0 h0 n0 _ T106.heap _
    rw [e106]
    exact ⟨rfl, N106, K105⟩
theorem d1_0 : decode prog_30_method_1_code 0 = .ok (.aload_n 0, 1) := by decide +kernel
theorem d1_1 : decode prog_30_method_1_code 1 = .ok (.invokespecial 5, 3) := by decide +kernel
theorem d1_4 : decode prog_30_method_1_code 4 = .ok (.lload_n 1, 1) := by decide +kernel
theorem pd_1 : parseMethodDescriptor "(J)V" = some ⟨[.long], none⟩ := by decide +kernel
theorem d1_5 : decode prog_30_method_1_code 5 = .ok (.invokestatic 11, 3) := by decide +kernel
theorem d1_8 : decode prog_30_method_1_code 8 = .ok (.lload_n 3, 1) := by decide +kernel
theorem d1_9 : decode prog_30_method_1_code 9 = .ok (.lconst 1, 1) := by decide +kernel
theorem d1_10 : decode prog_30_method_1_code 10 = .ok (.lcmp, 1) := by decide +kernel
theorem d1_11 : decode prog_30_method_1_code 11 = .ok (.ifCond .ge 17, 3) := by decide +kernel
theorem d1_28 : decode prog_30_method_1_code 28 = .ok (.lload_n 1, 1) := by decide +kernel
theorem d1_29 : decode prog_30_method_1_code 29 = .ok (.ldc2_w 24, 3) := by decide +kernel
theorem d1_32 : decode prog_30_method_1_code 32 = .ok (.ladd, 1) := by decide +kernel
theorem d1_33 : decode prog_30_method_1_code 33 = .ok (.ldc2_w 26, 3) := by decide +kernel
theorem d1_36 : decode prog_30_method_1_code 36 = .ok (.ldiv, 1) := by decide +kernel
theorem d1_37 : decode prog_30_method_1_code 37 = .ok (.lstore 7, 2) := by decide +kernel
theorem d1_39 : decode prog_30_method_1_code 39 = .ok (.ldc2_w 28, 3) := by decide +kernel
theorem d1_42 : decode prog_30_method_1_code 42 = .ok (.lstore 9, 2) := by decide +kernel
theorem d1_44 : decode prog_30_method_1_code 44 = .ok (.lload 5, 2) := by decide +kernel
theorem d1_46 : decode prog_30_method_1_code 46 = .ok (.lload 7, 2) := by decide +kernel
theorem d1_48 : decode prog_30_method_1_code 48 = .ok (.lcmp, 1) := by decide +kernel
theorem d1_49 : decode prog_30_method_1_code 49 = .ok (.ifCond .lt 11, 3) := by decide +kernel
theorem d1_52 : decode prog_30_method_1_code 52 = .ok (.lload 5, 2) := by decide +kernel
theorem d1_54 : decode prog_30_method_1_code 54 = .ok (.lload 9, 2) := by decide +kernel
theorem d1_56 : decode prog_30_method_1_code 56 = .ok (.lcmp, 1) := by decide +kernel
theorem d1_57 : decode prog_30_method_1_code 57 = .ok (.ifCond .le 23, 3) := by decide +kernel
theorem d1_80 : decode prog_30_method_1_code 80 = .ok (.aload_n 0, 1) := by decide +kernel
theorem d1_81 : decode prog_30_method_1_code 81 = .ok (.lload_n 1, 1) := by decide +kernel
theorem d1_82 : decode prog_30_method_1_code 82 = .ok (.putfield 33, 3) := by decide +kernel
theorem d1_85 : decode prog_30_method_1_code 85 = .ok (.aload_n 0, 1) := by decide +kernel
theorem d1_86 : decode prog_30_method_1_code 86 = .ok (.lload_n 3, 1) := by decide +kernel
theorem d1_87 : decode prog_30_method_1_code 87 = .ok (.putfield 39, 3) := by decide +kernel
theorem d1_90 : decode prog_30_method_1_code 90 = .ok (.aload_n 0, 1) := by decide +kernel
theorem d1_91 : decode prog_30_method_1_code 91 = .ok (.lload 5, 2) := by decide +kernel
theorem d1_93 : decode prog_30_method_1_code 93 = .ok (.putfield 42, 3) := by decide +kernel
theorem d1_96 : decode prog_30_method_1_code 96 = .ok (.return_, 1) := by decide +kernel
theorem pn_1 : plainName "com/example/windo/windo/model/StormCount$Values" = true := by first | (simp [plainName, overriddenIn]; done) | decide +kernel
theorem ef_rm1 (m : MethodId) (a0 : Addr) (q1 : Int64) (q2 : Int64) (q3 : Int64) : entryFrame m #[(.ref a0), (.long q1), (.long q2), (.long q3)] 11 = mkF m 0 #[.val (.ref a0), .val (.long q1), .second, .val (.long q2), .second, .val (.long q3), .second, .unset, .unset, .unset, .unset] [] := by first | (simp [entryFrame, mkF, argsToLocals, Value.category]; done) | rfl
def Q_rm1 (Z : State) (a0 : Addr) (q1 : Int64) (q2 : Int64) (q3 : Int64) (h0 : Heap) (n0 : Nat) (v : Option Value) (h : Heap) (L : List Loc) : Prop := v = none ∧ Fr n0 L ∧ Keep h0 h [a0] ∧ Exa Z h a0 "com/example/windo/windo/model/StormCount$Values" ∧ Fld Z h a0 "com/example/windo/windo/model/StormCount$Values" "threshold" "J" (.long q2)
set_option maxRecDepth 65536 in
set_option maxHeartbeats 40000000 in
theorem rm1 (l : Launch) (Z : State) (aw : Array Value) (hw : ∀ d ∈ tables_1, d.before aw Z = true) (ws : List Jvm.Cond) (a0 : Addr) (q1 : Int64) (q2 : Int64) (q3 : Int64) (h0 : Heap) (n0 : Nat) (Z0 : n0 ≤ h0.size) (E_a0 : Exa Z h0 a0 "com/example/windo/windo/model/StormCount$Values") (F_a0_windowMillis : Fld Z h0 a0 "com/example/windo/windo/model/StormCount$Values" "windowMillis" "J" (.long (0 : Int64))) (F_a0_threshold : Fld Z h0 a0 "com/example/windo/windo/model/StormCount$Values" "threshold" "J" (.long (0 : Int64))) (F_a0_idleExpirySeconds : Fld Z h0 a0 "com/example/windo/windo/model/StormCount$Values" "idleExpirySeconds" "J" (.long (0 : Int64))) (g_a0 : n0 ≤ a0) (hw1 : ¬ (q1 < (1 : Int64))) (hw2 : ¬ ((9007199254740991 : Int64) < q1)) (ht : ¬ (q2 < (1 : Int64))) (hi1 : ¬ (q3 < ((q1 + (999 : Int64)) / (1000 : Int64)))) (hi2 : ¬ ((9007199254740 : Int64) < q3)) :
    MetFree l (⟨"com/example/windo/windo/model/StormCount$Values", "<init>", "(JJJ)V"⟩ : MethodName) (head1 (Jvm.Cond.code (⟨"com/example/windo/windo/model/StormCount$Values", "<init>", "(JJJ)V"⟩ : MethodName) prog_30_method_1_code 11 none :: ws) ({ frames := 2, cells := 2, slots := 52, locals := 27 } : Room)) (fun a U => a = #[(.ref a0), (.long q1), (.long q2), (.long q3)] ∧ Z.Warmed39 U.vm ∧ U.heap = h0) (fun _ _ _ _ _ => True) (fun _ U o U' => ∃ v L, o = .returned v ∧ Q_rm1 Z a0 q1 q2 q3 h0 n0 v U'.heap L ∧ ReturnedEndW U o U' L ({ frames := 2, cells := 2, slots := 52, locals := 27 } : Room).cells ({ frames := 2, cells := 2, slots := 52, locals := 27 } : Room).slots) := by
  refine MetFree.of_bodySF (plainFor_of_name pn_1) hisR ?_
  intro p e s m args below meth c s₁ Bd hml0 hP hK
  obtain ⟨rfl, hZ, hh⟩ := hP
  have hx := Bd.exec
  have hby := Bd.bytes
  have hml : c.maxLocals = 11 := hml0
  have hown : s.vm.findClass "com/example/windo/windo/model/StormCount$Values" = some m.cls := findClass_of_methodNamed Bd.named
  have hnm := (name_of_methodNamed Bd.named Bd.method).1
  have X0 : Stand p l e ({ frames := 2, cells := 2, slots := 52, locals := 27 } : Room) s m #[(.ref a0), (.long q1), (.long q2), (.long q3)] below meth c s₁ [] 0 0 := Stand.of_body Bd
  have e0 : s₁.heap = h0 := by rw [← hh, Bd.state]; rfl
  have N0 := Fr.nil n0
  have pre0 : ∀ t, Steps p.tables e below (s₁.setTop (mkF m 0 #[.val (.ref a0), .val (.long q1), .second, .val (.long q2), .second, .val (.long q3), .second, .unset, .unset, .unset, .unset] [])) t → Steps p.tables e below (s₁.setTop (entryFrame m #[(.ref a0), (.long q1), (.long q2), (.long q3)] 11)) t := fun t k => castTop (ef_rm1 m a0 q1 q2 q3) k
  have KC0 : Keep h0 h0 [a0] := Keep.refl h0 [a0]
  have hS0 : s.Since s.vm h0.size := (State.WarmedH.refl s).since _
  have hk0 : h0.size ≤ h0.size := Nat.le_refl _
  obtain ⟨T107, X107, e107, st107⟩ := initO X0 hx hZ hown (hw _ (List.mem_of_getElem? (i := 10) rfl)) (hw _ (List.mem_of_getElem? (i := 11) rfl)) (hw _ (List.mem_of_getElem? (i := 12) rfl)) e0 (g := (mkF m 1 #[.val (.ref a0), .val (.long q1), .second, .val (.long q2), .second, .val (.long q3), .second, .unset, .unset, .unset, .unset] [(.ref a0)])) rfl (by rw [hml]; rfl) rfl (hb hby d1_1) (by decide) (W := 0) (by show 2 * 0 + _ ≤ _; exact Nat.le_of_eq rfl) (by decide)
  obtain ⟨_, _, ⟨T108, L108, k108, n108⟩, -, Xq108, hSq108, gq108, ⟨Lc108, hQ108, l108, y108, z108⟩, st108⟩ := callSS X107 hx (y := (⟨"com/example/windo/windo/model/Rule", "checkWindow", "(J)V"⟩ : MethodName)) hown (mvT hZ (hw _ (List.mem_of_getElem? (i := 13) rfl))) (mvT hZ (hw _ (List.mem_of_getElem? (i := 14) rfl))) (mvT hZ (hw _ (List.mem_of_getElem? (i := 15) rfl))) (mvT hZ (hw _ (List.mem_of_getElem? (i := 16) rfl))) (by decide) (backOfS (W := 0) (rm3 l Z aw hw [] q1 h0 n0 Z0 hw1 hw2) hZ (hw _ (List.mem_of_getElem? (i := 16) rfl)) (hw _ (List.mem_of_getElem? (i := 15) rfl)) (by decide) (by decide)) (g := (mkF m 5 #[.val (.ref a0), .val (.long q1), .second, .val (.long q2), .second, .val (.long q3), .second, .unset, .unset, .unset, .unset] [(.long q1)])) rfl (by rw [hml]; rfl) (argsL := [(.long q1)]) (rest := []) (lenOf pd_1 rfl) rfl (by show 2 * 0 + _ ≤ _; exact Nat.le_of_eq rfl) (hb hby d1_5) (fun _ _ => ⟨rfl, e107, (by decide : 0 + 2 ≤ _), (by decide : 0 + 52 ≤ _)⟩)
  dsimp only [Pt.U, Pt.locs, Pt.cells, Pt.slots] at Xq108 hSq108 gq108 l108 y108 z108 st108 hQ108
  subst l108 y108 z108
  obtain ⟨X108, hS108, hZ108, hown108⟩ := rebS (vm0 := s.vm) hS0 (by rw [e107]; exact hk0 : _ ≤ T107.heap.size) Xq108 hSq108 gq108 hZ hown
  have hk108 : T108.heap.size ≤ T108.heap.size := Nat.le_refl _
  obtain ⟨rfl, N108q, K108⟩ := hQ108
  have N108 := Fr.app N0 N108q
  have f109 := E_a0.keep K108
  have f110 := F_a0_windowMillis.keep K108 nin0
  have f111 := F_a0_threshold.keep K108 nin0
  have f112 := F_a0_idleExpirySeconds.keep K108 nin0
  have Z113 : n0 ≤ T108.heap.size := Nat.le_trans Z0 K108.1
  have K114 : Keep h0 T108.heap [a0] := Keep.trans KC0 K108 all0
  have c115 : ¬ (q2 < (1 : Int64)) := by
    exact ht
  have c116 : ¬ (q3 < ((q1 + (999 : Int64)) / (1000 : Int64))) := by
    exact hi1
  have c117 : ¬ ((9007199254740 : Int64) < q3) := by
    exact hi2
  obtain ⟨T118, h118, X118, e118, W118, st118⟩ := putF X108 hx hZ108 hown108 (host := "") (Or.inl (hw _ (List.mem_of_getElem? (i := 32) rfl))) Via.refl rfl f110 f109 (Or.inr ⟨(hw _ (List.mem_of_getElem? (i := 33) rfl)), rfl, hnm⟩) (hw _ (List.mem_of_getElem? (i := 5) rfl)) (ty := .long) (by decide) rfl rfl (g := (mkF m 82 #[.val (.ref a0), .val (.long q1), .second, .val (.long q2), .second, .val (.long q3), .second, .val (.long ((q1 + (999 : Int64)) / (1000 : Int64))), .second, .val (.long (9007199254740 : Int64)), .second] [(.long q1), (.ref a0)])) rfl rfl (hb hby d1_82)
  have f119 := f109.wr W118
  have f120 := f111.other W118 (Or.inr (slot_ne (Or.inr (hw _ (List.mem_of_getElem? (i := 35) rfl))) (Or.inr (hw _ (List.mem_of_getElem? (i := 33) rfl))) (by decide) (t := .long) (t' := .long) (by decide) (by decide)))
  have f121 := f112.other W118 (Or.inr (slot_ne (Or.inr (hw _ (List.mem_of_getElem? (i := 37) rfl))) (Or.inr (hw _ (List.mem_of_getElem? (i := 33) rfl))) (by decide) (t := .long) (t' := .long) (by decide) (by decide)))
  have Z122 : n0 ≤ h118.size := Nat.le_trans Z113 (Keep.of_wr W118).1
  have hk123 := Nat.le_trans hk108 (Keep.of_wr W118).1
  have K124 : Keep h0 h118 [a0] := Keep.wr K114 W118 (Or.inl (List.mem_of_getElem? (i := 0) rfl))
  have N125 := Fr.snoc X118 N108 g_a0
  have f126 : Fld Z h118 a0 "com/example/windo/windo/model/StormCount$Values" "windowMillis" "J" (.long q1) := f110.same W118
  obtain ⟨T127, h127, X127, e127, W127, st127⟩ := putF X118 hx hZ108 hown108 (host := "") (Or.inl (hw _ (List.mem_of_getElem? (i := 34) rfl))) Via.refl e118 f120 f119 (Or.inr ⟨(hw _ (List.mem_of_getElem? (i := 35) rfl)), rfl, hnm⟩) (hw _ (List.mem_of_getElem? (i := 5) rfl)) (ty := .long) (by decide) rfl rfl (g := (mkF m 87 #[.val (.ref a0), .val (.long q1), .second, .val (.long q2), .second, .val (.long q3), .second, .val (.long ((q1 + (999 : Int64)) / (1000 : Int64))), .second, .val (.long (9007199254740 : Int64)), .second] [(.long q2), (.ref a0)])) rfl rfl (hb hby d1_87)
  have f128 := f119.wr W127
  have f129 := f121.other W127 (Or.inr (slot_ne (Or.inr (hw _ (List.mem_of_getElem? (i := 37) rfl))) (Or.inr (hw _ (List.mem_of_getElem? (i := 35) rfl))) (by decide) (t := .long) (t' := .long) (by decide) (by decide)))
  have f130 := f126.other W127 (Or.inr (slot_ne (Or.inr (hw _ (List.mem_of_getElem? (i := 33) rfl))) (Or.inr (hw _ (List.mem_of_getElem? (i := 35) rfl))) (by decide) (t := .long) (t' := .long) (by decide) (by decide)))
  have Z131 : n0 ≤ h127.size := Nat.le_trans Z122 (Keep.of_wr W127).1
  have hk132 := Nat.le_trans hk123 (Keep.of_wr W127).1
  have K133 : Keep h0 h127 [a0] := Keep.wr K124 W127 (Or.inl (List.mem_of_getElem? (i := 0) rfl))
  have N134 := Fr.snoc X127 N125 g_a0
  have f135 : Fld Z h127 a0 "com/example/windo/windo/model/StormCount$Values" "threshold" "J" (.long q2) := f120.same W127
  obtain ⟨T136, h136, X136, e136, W136, st136⟩ := putF X127 hx hZ108 hown108 (host := "") (Or.inl (hw _ (List.mem_of_getElem? (i := 36) rfl))) Via.refl e127 f129 f128 (Or.inr ⟨(hw _ (List.mem_of_getElem? (i := 37) rfl)), rfl, hnm⟩) (hw _ (List.mem_of_getElem? (i := 5) rfl)) (ty := .long) (by decide) rfl rfl (g := (mkF m 93 #[.val (.ref a0), .val (.long q1), .second, .val (.long q2), .second, .val (.long q3), .second, .val (.long ((q1 + (999 : Int64)) / (1000 : Int64))), .second, .val (.long (9007199254740 : Int64)), .second] [(.long q3), (.ref a0)])) rfl rfl (hb hby d1_93)
  have f137 := f128.wr W136
  have f138 := f130.other W136 (Or.inr (slot_ne (Or.inr (hw _ (List.mem_of_getElem? (i := 33) rfl))) (Or.inr (hw _ (List.mem_of_getElem? (i := 37) rfl))) (by decide) (t := .long) (t' := .long) (by decide) (by decide)))
  have f139 := f135.other W136 (Or.inr (slot_ne (Or.inr (hw _ (List.mem_of_getElem? (i := 35) rfl))) (Or.inr (hw _ (List.mem_of_getElem? (i := 37) rfl))) (by decide) (t := .long) (t' := .long) (by decide) (by decide)))
  have Z140 : n0 ≤ h136.size := Nat.le_trans Z131 (Keep.of_wr W136).1
  have hk141 := Nat.le_trans hk132 (Keep.of_wr W136).1
  have K142 : Keep h0 h136 [a0] := Keep.wr K133 W136 (Or.inl (List.mem_of_getElem? (i := 0) rfl))
  have N143 := Fr.snoc X136 N134 g_a0
  have f144 : Fld Z h136 a0 "com/example/windo/windo/model/StormCount$Values" "idleExpirySeconds" "J" (.long q3) := f129.same W136
  obtain ⟨fs, hr, hrun, hended, hEW⟩ := Stand.leaveW X136 hS108 (by rw [e136]; exact hk141) (v := none) (fun _ => rfl)
  refine ⟨_, _, pre0 _ ?_, hrun, hended, _, _, rfl, ?_, hEW.1, hEW.2.1, hEW.2.2.1, hEW.2.2.2.mono (by decide) (by decide)⟩
  ·
    show Steps p.tables e below (s₁.setTop (mkF m 0 #[.val (.ref a0), .val (.long q1), .second, .val (.long q2), .second, .val (.long q3), .second, .unset, .unset, .unset, .unset] [])) _
    refine XS.aloadN X0.here hx rfl (hb hby d1_0) rfl rfl ?_
    show Steps p.tables e below (s₁.setTop (mkF m 1 #[.val (.ref a0), .val (.long q1), .second, .val (.long q2), .second, .val (.long q3), .second, .unset, .unset, .unset, .unset] [(.ref a0)])) _
    refine st107 _ ?_
    show Steps p.tables e below (T107.setTop (mkF m 4 #[.val (.ref a0), .val (.long q1), .second, .val (.long q2), .second, .val (.long q3), .second, .unset, .unset, .unset, .unset] [])) _
    refine XS.lloadN X107.here hx rfl (hb hby d1_4) rfl ?_
    show Steps p.tables e below (T107.setTop (mkF m 5 #[.val (.ref a0), .val (.long q1), .second, .val (.long q2), .second, .val (.long q3), .second, .unset, .unset, .unset, .unset] [(.long q1)])) _
    refine st108.trans ?_
    show Steps p.tables e below (T108.setTop (mkF m 8 #[.val (.ref a0), .val (.long q1), .second, .val (.long q2), .second, .val (.long q3), .second, .unset, .unset, .unset, .unset] [])) _
    refine XS.lloadN X108.here hx rfl (hb hby d1_8) rfl ?_
    show Steps p.tables e below (T108.setTop (mkF m 9 #[.val (.ref a0), .val (.long q1), .second, .val (.long q2), .second, .val (.long q3), .second, .unset, .unset, .unset, .unset] [(.long q2)])) _
    refine XS.lconst X108.here hx rfl (hb hby d1_9) ?_
    show Steps p.tables e below (T108.setTop (mkF m 10 #[.val (.ref a0), .val (.long q1), .second, .val (.long q2), .second, .val (.long q3), .second, .unset, .unset, .unset, .unset] [(.long (1 : Int64)), (.long q2)])) _
    refine XS.lcmp X108.here hx rfl (hb hby d1_10) rfl ?_
    show Steps p.tables e below (T108.setTop (mkF m 11 #[.val (.ref a0), .val (.long q1), .second, .val (.long q2), .second, .val (.long q3), .second, .unset, .unset, .unset, .unset] [(.int (lcmpW q2 (1 : Int64)))])) _
    refine XS.ifYes X108.here hx rfl (pc0 := 11) (pc' := 28) rfl (hb hby d1_11) rfl ((if0 _ _).trans (flt (fun q => c115 ((lw_lt _ _).mp q))).2.1) (by decide) (by decide) ?_
    show Steps p.tables e below (T108.setTop (mkF m 28 #[.val (.ref a0), .val (.long q1), .second, .val (.long q2), .second, .val (.long q3), .second, .unset, .unset, .unset, .unset] [])) _
    refine XS.lloadN X108.here hx rfl (hb hby d1_28) rfl ?_
    show Steps p.tables e below (T108.setTop (mkF m 29 #[.val (.ref a0), .val (.long q1), .second, .val (.long q2), .second, .val (.long q3), .second, .unset, .unset, .unset, .unset] [(.long q1)])) _
    refine X108.ldc2Long hx hown108 (mvT hZ108 (hw _ (List.mem_of_getElem? (i := 29) rfl))) (g := (mkF m 29 #[.val (.ref a0), .val (.long q1), .second, .val (.long q2), .second, .val (.long q3), .second, .unset, .unset, .unset, .unset] [(.long q1)])) rfl (hb hby d1_29) _ ?_
    show Steps p.tables e below (T108.setTop (mkF m 32 #[.val (.ref a0), .val (.long q1), .second, .val (.long q2), .second, .val (.long q3), .second, .unset, .unset, .unset, .unset] [(.long (999 : Int64)), (.long q1)])) _
    refine XS.ladd X108.here hx rfl (hb hby d1_32) rfl ?_
    show Steps p.tables e below (T108.setTop (mkF m 33 #[.val (.ref a0), .val (.long q1), .second, .val (.long q2), .second, .val (.long q3), .second, .unset, .unset, .unset, .unset] [(.long (q1 + (999 : Int64)))])) _
    refine X108.ldc2Long hx hown108 (mvT hZ108 (hw _ (List.mem_of_getElem? (i := 30) rfl))) (g := (mkF m 33 #[.val (.ref a0), .val (.long q1), .second, .val (.long q2), .second, .val (.long q3), .second, .unset, .unset, .unset, .unset] [(.long (q1 + (999 : Int64)))])) rfl (hb hby d1_33) _ ?_
    show Steps p.tables e below (T108.setTop (mkF m 36 #[.val (.ref a0), .val (.long q1), .second, .val (.long q2), .second, .val (.long q3), .second, .unset, .unset, .unset, .unset] [(.long (1000 : Int64)), (.long (q1 + (999 : Int64)))])) _
    refine XS.ldiv X108.here hx rfl (hb hby d1_36) rfl (by decide) ?_
    show Steps p.tables e below (T108.setTop (mkF m 37 #[.val (.ref a0), .val (.long q1), .second, .val (.long q2), .second, .val (.long q3), .second, .unset, .unset, .unset, .unset] [(.long ((q1 + (999 : Int64)) / (1000 : Int64)))])) _
    refine XS.lstore X108.here hx rfl (hb hby d1_37) rfl (l' := #[.val (.ref a0), .val (.long q1), .second, .val (.long q2), .second, .val (.long q3), .second, .val (.long ((q1 + (999 : Int64)) / (1000 : Int64))), .second, .unset, .unset]) rfl ?_
    show Steps p.tables e below (T108.setTop (mkF m 39 #[.val (.ref a0), .val (.long q1), .second, .val (.long q2), .second, .val (.long q3), .second, .val (.long ((q1 + (999 : Int64)) / (1000 : Int64))), .second, .unset, .unset] [])) _
    refine X108.ldc2Long hx hown108 (mvT hZ108 (hw _ (List.mem_of_getElem? (i := 31) rfl))) (g := (mkF m 39 #[.val (.ref a0), .val (.long q1), .second, .val (.long q2), .second, .val (.long q3), .second, .val (.long ((q1 + (999 : Int64)) / (1000 : Int64))), .second, .unset, .unset] [])) rfl (hb hby d1_39) _ ?_
    show Steps p.tables e below (T108.setTop (mkF m 42 #[.val (.ref a0), .val (.long q1), .second, .val (.long q2), .second, .val (.long q3), .second, .val (.long ((q1 + (999 : Int64)) / (1000 : Int64))), .second, .unset, .unset] [(.long (9007199254740 : Int64))])) _
    refine XS.lstore X108.here hx rfl (hb hby d1_42) rfl (l' := #[.val (.ref a0), .val (.long q1), .second, .val (.long q2), .second, .val (.long q3), .second, .val (.long ((q1 + (999 : Int64)) / (1000 : Int64))), .second, .val (.long (9007199254740 : Int64)), .second]) rfl ?_
    show Steps p.tables e below (T108.setTop (mkF m 44 #[.val (.ref a0), .val (.long q1), .second, .val (.long q2), .second, .val (.long q3), .second, .val (.long ((q1 + (999 : Int64)) / (1000 : Int64))), .second, .val (.long (9007199254740 : Int64)), .second] [])) _
    refine XS.lload X108.here hx rfl (hb hby d1_44) rfl ?_
    show Steps p.tables e below (T108.setTop (mkF m 46 #[.val (.ref a0), .val (.long q1), .second, .val (.long q2), .second, .val (.long q3), .second, .val (.long ((q1 + (999 : Int64)) / (1000 : Int64))), .second, .val (.long (9007199254740 : Int64)), .second] [(.long q3)])) _
    refine XS.lload X108.here hx rfl (hb hby d1_46) rfl ?_
    show Steps p.tables e below (T108.setTop (mkF m 48 #[.val (.ref a0), .val (.long q1), .second, .val (.long q2), .second, .val (.long q3), .second, .val (.long ((q1 + (999 : Int64)) / (1000 : Int64))), .second, .val (.long (9007199254740 : Int64)), .second] [(.long ((q1 + (999 : Int64)) / (1000 : Int64))), (.long q3)])) _
    refine XS.lcmp X108.here hx rfl (hb hby d1_48) rfl ?_
    show Steps p.tables e below (T108.setTop (mkF m 49 #[.val (.ref a0), .val (.long q1), .second, .val (.long q2), .second, .val (.long q3), .second, .val (.long ((q1 + (999 : Int64)) / (1000 : Int64))), .second, .val (.long (9007199254740 : Int64)), .second] [(.int (lcmpW q3 ((q1 + (999 : Int64)) / (1000 : Int64))))])) _
    refine XS.ifNo X108.here hx rfl (hb hby d1_49) rfl ((if0 _ _).trans (flt (fun q => c116 ((lw_lt _ _).mp q))).1) ?_
    show Steps p.tables e below (T108.setTop (mkF m 52 #[.val (.ref a0), .val (.long q1), .second, .val (.long q2), .second, .val (.long q3), .second, .val (.long ((q1 + (999 : Int64)) / (1000 : Int64))), .second, .val (.long (9007199254740 : Int64)), .second] [])) _
    refine XS.lload X108.here hx rfl (hb hby d1_52) rfl ?_
    show Steps p.tables e below (T108.setTop (mkF m 54 #[.val (.ref a0), .val (.long q1), .second, .val (.long q2), .second, .val (.long q3), .second, .val (.long ((q1 + (999 : Int64)) / (1000 : Int64))), .second, .val (.long (9007199254740 : Int64)), .second] [(.long q3)])) _
    refine XS.lload X108.here hx rfl (hb hby d1_54) rfl ?_
    show Steps p.tables e below (T108.setTop (mkF m 56 #[.val (.ref a0), .val (.long q1), .second, .val (.long q2), .second, .val (.long q3), .second, .val (.long ((q1 + (999 : Int64)) / (1000 : Int64))), .second, .val (.long (9007199254740 : Int64)), .second] [(.long (9007199254740 : Int64)), (.long q3)])) _
    refine XS.lcmp X108.here hx rfl (hb hby d1_56) rfl ?_
    show Steps p.tables e below (T108.setTop (mkF m 57 #[.val (.ref a0), .val (.long q1), .second, .val (.long q2), .second, .val (.long q3), .second, .val (.long ((q1 + (999 : Int64)) / (1000 : Int64))), .second, .val (.long (9007199254740 : Int64)), .second] [(.int (lcmpW q3 (9007199254740 : Int64)))])) _
    refine XS.ifYes X108.here hx rfl (pc0 := 57) (pc' := 80) rfl (hb hby d1_57) rfl ((if0 _ _).trans (flt (fun q => c117 ((lw_gt _ _).mp q))).2.2.2) (by decide) (by decide) ?_
    show Steps p.tables e below (T108.setTop (mkF m 80 #[.val (.ref a0), .val (.long q1), .second, .val (.long q2), .second, .val (.long q3), .second, .val (.long ((q1 + (999 : Int64)) / (1000 : Int64))), .second, .val (.long (9007199254740 : Int64)), .second] [])) _
    refine XS.aloadN X108.here hx rfl (hb hby d1_80) rfl rfl ?_
    show Steps p.tables e below (T108.setTop (mkF m 81 #[.val (.ref a0), .val (.long q1), .second, .val (.long q2), .second, .val (.long q3), .second, .val (.long ((q1 + (999 : Int64)) / (1000 : Int64))), .second, .val (.long (9007199254740 : Int64)), .second] [(.ref a0)])) _
    refine XS.lloadN X108.here hx rfl (hb hby d1_81) rfl ?_
    show Steps p.tables e below (T108.setTop (mkF m 82 #[.val (.ref a0), .val (.long q1), .second, .val (.long q2), .second, .val (.long q3), .second, .val (.long ((q1 + (999 : Int64)) / (1000 : Int64))), .second, .val (.long (9007199254740 : Int64)), .second] [(.long q1), (.ref a0)])) _
    refine st118 _ ?_
    show Steps p.tables e below (T118.setTop (mkF m 85 #[.val (.ref a0), .val (.long q1), .second, .val (.long q2), .second, .val (.long q3), .second, .val (.long ((q1 + (999 : Int64)) / (1000 : Int64))), .second, .val (.long (9007199254740 : Int64)), .second] [])) _
    refine XS.aloadN X118.here hx rfl (hb hby d1_85) rfl rfl ?_
    show Steps p.tables e below (T118.setTop (mkF m 86 #[.val (.ref a0), .val (.long q1), .second, .val (.long q2), .second, .val (.long q3), .second, .val (.long ((q1 + (999 : Int64)) / (1000 : Int64))), .second, .val (.long (9007199254740 : Int64)), .second] [(.ref a0)])) _
    refine XS.lloadN X118.here hx rfl (hb hby d1_86) rfl ?_
    show Steps p.tables e below (T118.setTop (mkF m 87 #[.val (.ref a0), .val (.long q1), .second, .val (.long q2), .second, .val (.long q3), .second, .val (.long ((q1 + (999 : Int64)) / (1000 : Int64))), .second, .val (.long (9007199254740 : Int64)), .second] [(.long q2), (.ref a0)])) _
    refine st127 _ ?_
    show Steps p.tables e below (T127.setTop (mkF m 90 #[.val (.ref a0), .val (.long q1), .second, .val (.long q2), .second, .val (.long q3), .second, .val (.long ((q1 + (999 : Int64)) / (1000 : Int64))), .second, .val (.long (9007199254740 : Int64)), .second] [])) _
    refine XS.aloadN X127.here hx rfl (hb hby d1_90) rfl rfl ?_
    show Steps p.tables e below (T127.setTop (mkF m 91 #[.val (.ref a0), .val (.long q1), .second, .val (.long q2), .second, .val (.long q3), .second, .val (.long ((q1 + (999 : Int64)) / (1000 : Int64))), .second, .val (.long (9007199254740 : Int64)), .second] [(.ref a0)])) _
    refine XS.lload X127.here hx rfl (hb hby d1_91) rfl ?_
    show Steps p.tables e below (T127.setTop (mkF m 93 #[.val (.ref a0), .val (.long q1), .second, .val (.long q2), .second, .val (.long q3), .second, .val (.long ((q1 + (999 : Int64)) / (1000 : Int64))), .second, .val (.long (9007199254740 : Int64)), .second] [(.long q3), (.ref a0)])) _
    refine st136 _ ?_
    show Steps p.tables e below (T136.setTop (mkF m 96 #[.val (.ref a0), .val (.long q1), .second, .val (.long q2), .second, .val (.long q3), .second, .val (.long ((q1 + (999 : Int64)) / (1000 : Int64))), .second, .val (.long (9007199254740 : Int64)), .second] [])) _
    exact X136.returnOut hx Bd.returns (hb hby d1_96) hr
  ·
    show Q_rm1 Z a0 q1 q2 q3 h0 n0 _ T136.heap _
    rw [e136]
    exact ⟨rfl, N143, K142, f137, f139⟩
theorem d5_0 : decode prog_30_method_5_code 0 = .ok (.lload_n 1, 1) := by decide +kernel
theorem d5_1 : decode prog_30_method_5_code 1 = .ok (.aload_n 0, 1) := by decide +kernel
theorem d5_2 : decode prog_30_method_5_code 2 = .ok (.getfield 39, 3) := by decide +kernel
theorem d5_5 : decode prog_30_method_5_code 5 = .ok (.lcmp, 1) := by decide +kernel
theorem d5_6 : decode prog_30_method_5_code 6 = .ok (.ifCond .le 7, 3) := by decide +kernel
theorem d5_9 : decode prog_30_method_5_code 9 = .ok (.iconst 1, 1) := by decide +kernel
theorem d5_10 : decode prog_30_method_5_code 10 = .ok (.goto 4, 3) := by decide +kernel
theorem d5_14 : decode prog_30_method_5_code 14 = .ok (.ireturn, 1) := by decide +kernel
theorem d5_13 : decode prog_30_method_5_code 13 = .ok (.iconst 0, 1) := by decide +kernel
theorem ef_rm5 (m : MethodId) (a0 : Addr) (q1 : Int64) : entryFrame m #[(.ref a0), (.long q1)] 3 = mkF m 0 #[.val (.ref a0), .val (.long q1), .second] [] := by first | (simp [entryFrame, mkF, argsToLocals, Value.category]; done) | rfl
def Q_rm5 (Z : State) (a0 : Addr) (q1 : Int64) (w : Int64) (h0 : Heap) (n0 : Nat) (v : Option Value) (h : Heap) (L : List Loc) : Prop := v = some (.int (if w < q1 then (1 : Int32) else (0 : Int32))) ∧ Fr n0 L ∧ h = h0
set_option maxRecDepth 65536 in
set_option maxHeartbeats 40000000 in
theorem rm5 (l : Launch) (Z : State) (aw : Array Value) (hw : ∀ d ∈ tables_1, d.before aw Z = true) (ws : List Jvm.Cond) (a0 : Addr) (q1 : Int64) (w : Int64) (h0 : Heap) (n0 : Nat) (Z0 : n0 ≤ h0.size) (F_a0_threshold : Fld Z h0 a0 "com/example/windo/windo/model/StormCount$Values" "threshold" "J" (.long w)) :
    MetFree l (⟨"com/example/windo/windo/model/StormCount$Values", "isStorm", "(J)Z"⟩ : MethodName) (head1 (Jvm.Cond.code (⟨"com/example/windo/windo/model/StormCount$Values", "isStorm", "(J)Z"⟩ : MethodName) prog_30_method_5_code 3 (some .boolean) :: ws) ({ frames := 0, cells := 0, slots := 0, locals := 0 } : Room)) (fun a U => a = #[(.ref a0), (.long q1)] ∧ Z.Warmed39 U.vm ∧ U.heap = h0) (fun _ _ _ _ _ => True) (fun _ U o U' => ∃ v L, o = .returned v ∧ Q_rm5 Z a0 q1 w h0 n0 v U'.heap L ∧ FrameEnd U o U' L ({ frames := 0, cells := 0, slots := 0, locals := 0 } : Room).cells ({ frames := 0, cells := 0, slots := 0, locals := 0 } : Room).slots) := by
  refine MetFree.of_bodySF (plainFor_of_name pn_1) hisR ?_
  intro p e s m args below meth c s₁ Bd hml0 hP hK
  obtain ⟨rfl, hZ, hh⟩ := hP
  have hx := Bd.exec
  have hby := Bd.bytes
  have hml : c.maxLocals = 3 := hml0
  have hown : s.vm.findClass "com/example/windo/windo/model/StormCount$Values" = some m.cls := findClass_of_methodNamed Bd.named
  have hnm := (name_of_methodNamed Bd.named Bd.method).1
  have X0 : Stand p l e ({ frames := 0, cells := 0, slots := 0, locals := 0 } : Room) s m #[(.ref a0), (.long q1)] below meth c s₁ [] 0 0 := Stand.of_body Bd
  have e0 : s₁.heap = h0 := by rw [← hh, Bd.state]; rfl
  have N0 := Fr.nil n0
  have pre0 : ∀ t, Steps p.tables e below (s₁.setTop (mkF m 0 #[.val (.ref a0), .val (.long q1), .second] [])) t → Steps p.tables e below (s₁.setTop (entryFrame m #[(.ref a0), (.long q1)] 3)) t := fun t k => castTop (ef_rm5 m a0 q1) k
  obtain ⟨T145, X145, e145, st145⟩ := getF X0 hx hZ hown (host := "") (Or.inl (hw _ (List.mem_of_getElem? (i := 34) rfl))) Via.refl e0 F_a0_threshold (g := (mkF m 2 #[.val (.ref a0), .val (.long q1), .second] [(.ref a0), (.long q1)])) rfl rfl (hb hby d5_2)
  have pre146 : ∀ t, Steps p.tables e below (T145.setTop (mkF m 6 #[.val (.ref a0), .val (.long q1), .second] [(.int (lcmpW q1 w))])) t → Steps p.tables e below (s₁.setTop (entryFrame m #[(.ref a0), (.long q1)] 3)) t := fun t k => by
    refine pre0 t ?_
    show Steps p.tables e below (s₁.setTop (mkF m 0 #[.val (.ref a0), .val (.long q1), .second] [])) _
    refine XS.lloadN X0.here hx rfl (hb hby d5_0) rfl ?_
    show Steps p.tables e below (s₁.setTop (mkF m 1 #[.val (.ref a0), .val (.long q1), .second] [(.long q1)])) _
    refine XS.aloadN X0.here hx rfl (hb hby d5_1) rfl rfl ?_
    show Steps p.tables e below (s₁.setTop (mkF m 2 #[.val (.ref a0), .val (.long q1), .second] [(.ref a0), (.long q1)])) _
    refine st145 _ ?_
    show Steps p.tables e below (T145.setTop (mkF m 5 #[.val (.ref a0), .val (.long q1), .second] [(.long w), (.long q1)])) _
    refine XS.lcmp X145.here hx rfl (hb hby d5_5) rfl ?_
    exact k
  by_cases c147 : w < q1
  ·
    obtain ⟨fs, hr, hrun, hended, hW, hsame⟩ := X145.leave (v := some (.int (1 : Int32))) (fun h => by rw [Bd.returns] at h; cases h)
    refine ⟨_, _, pre146 _ ?_, hrun, hended, _, _, rfl, ?_, ⟨_, rfl⟩, hW, hsame.mono (by decide) (by decide)⟩
    ·
      show Steps p.tables e below (T145.setTop (mkF m 6 #[.val (.ref a0), .val (.long q1), .second] [(.int (lcmpW q1 w))])) _
      refine XS.ifNo X145.here hx rfl (hb hby d5_6) rfl ((if0 _ _).trans (tlt ((lw_gt _ _).mpr c147)).2.2.2) ?_
      show Steps p.tables e below (T145.setTop (mkF m 9 #[.val (.ref a0), .val (.long q1), .second] [])) _
      refine XS.iconst X145.here hx rfl (hb hby d5_9) ?_
      show Steps p.tables e below (T145.setTop (mkF m 10 #[.val (.ref a0), .val (.long q1), .second] [(.int (1 : Int32))])) _
      refine XS.goto X145.here hx rfl (pc0 := 10) (pc' := 14) rfl (hb hby d5_10) (by decide) (by decide) ?_
      show Steps p.tables e below (T145.setTop (mkF m 14 #[.val (.ref a0), .val (.long q1), .second] [(.int (1 : Int32))])) _
      exact retZ X145 hx Bd.returns (by decide) (hb hby d5_14) hr
    ·
      show Q_rm5 Z a0 q1 w h0 n0 _ T145.heap _
      rw [e145]
      exact ⟨(by simp only [if_pos c147]), N0, rfl⟩
  ·
    obtain ⟨fs, hr, hrun, hended, hW, hsame⟩ := X145.leave (v := some (.int (0 : Int32))) (fun h => by rw [Bd.returns] at h; cases h)
    refine ⟨_, _, pre146 _ ?_, hrun, hended, _, _, rfl, ?_, ⟨_, rfl⟩, hW, hsame.mono (by decide) (by decide)⟩
    ·
      show Steps p.tables e below (T145.setTop (mkF m 6 #[.val (.ref a0), .val (.long q1), .second] [(.int (lcmpW q1 w))])) _
      refine XS.ifYes X145.here hx rfl (pc0 := 6) (pc' := 13) rfl (hb hby d5_6) rfl ((if0 _ _).trans (flt (fun q => c147 ((lw_gt _ _).mp q))).2.2.2) (by decide) (by decide) ?_
      show Steps p.tables e below (T145.setTop (mkF m 13 #[.val (.ref a0), .val (.long q1), .second] [])) _
      refine XS.iconst X145.here hx rfl (hb hby d5_13) ?_
      show Steps p.tables e below (T145.setTop (mkF m 14 #[.val (.ref a0), .val (.long q1), .second] [(.int (0 : Int32))])) _
      exact retZ X145 hx Bd.returns (by decide) (hb hby d5_14) hr
    ·
      show Q_rm5 Z a0 q1 w h0 n0 _ T145.heap _
      rw [e145]
      exact ⟨(by simp only [if_neg c147]), N0, rfl⟩
theorem own_w {p w : Int64} (h : w = (((p &&& (9223372036854775807 : Int64)) - ((p &&& (9223372036854775807 : Int64)) / (9007199254740000 : Int64)) * (9007199254740000 : Int64)) + (1 : Int64))) : 1 ≤ w.toInt ∧ w.toInt ≤ 9007199254740000 := by
  have a := c_maskL p 9223372036854775807 63 (by decide) (by decide)
  have r := (c_lrem (p &&& 9223372036854775807) 9007199254740000 9007199254740000 (by decide)).1 (by rw [a]; omega)
  have s := c_ladd ((p &&& 9223372036854775807) - ((p &&& 9223372036854775807) / 9007199254740000) * 9007199254740000) 1
  rw [← h, r] at s
  have rw' := rng64 w
  rw [show (1 : Int64).toInt = 1 by decide] at s
  omega
theorem own_s {w s : Int64} (h1 : 1 ≤ w.toInt) (h2 : w.toInt ≤ 9007199254740000) (h : s = ((w + (999 : Int64)) / (1000 : Int64))) : 1 ≤ s.toInt ∧ s.toInt ≤ 9007199254740 := by
  have a := c_ladd w 999
  rw [show (999 : Int64).toInt = 999 by decide] at a
  have ra := rng64 (w + 999)
  have d := (c_ldiv (w + 999) 1000 1000 (by decide) (by decide)).1 (by omega)
  rw [h, d]
  omega
theorem own_i {p s i : Int64} (h1 : 1 ≤ s.toInt) (h2 : s.toInt ≤ 9007199254740) (h : i = (s + ((p &&& (9223372036854775807 : Int64)) - ((p &&& (9223372036854775807 : Int64)) / (((9007199254740 : Int64) - s) + (1 : Int64))) * (((9007199254740 : Int64) - s) + (1 : Int64))))) : ¬ (i < s) ∧ ¬ ((9007199254740 : Int64) < i) := by
  have b := c_lsub 9007199254740 s
  have rb := rng64 (9007199254740 - s)
  have c := c_ladd (9007199254740 - s) 1
  have rc := rng64 (9007199254740 - s + 1)
  rw [show (9007199254740 : Int64).toInt = 9007199254740 by decide] at b
  rw [show (1 : Int64).toInt = 1 by decide] at c
  have ec : (9007199254740 - s + 1).toInt = 9007199254741 - s.toInt := by omega
  have a := c_maskL p 9223372036854775807 63 (by decide) (by decide)
  have r := (c_lrem (p &&& 9223372036854775807) (9007199254740 - s + 1) (9007199254741 - s.toInt) ec).1 (by rw [a]; omega)
  have m1 := Int.emod_nonneg (p &&& 9223372036854775807).toInt (show 9007199254741 - s.toInt ≠ 0 by omega)
  have m2 := Int.emod_lt_of_pos (p &&& 9223372036854775807).toInt (show 0 < 9007199254741 - s.toInt by omega)
  have t := c_ladd s ((p &&& 9223372036854775807) - (p &&& 9223372036854775807) / (9007199254740 - s + 1) * (9007199254740 - s + 1))
  rw [← h, r] at t
  have ri := rng64 i
  rw [Int64.lt_iff_toInt_lt, Int64.lt_iff_toInt_lt, show (9007199254740 : Int64).toInt = 9007199254740 by decide]
  generalize (p &&& 9223372036854775807).toInt % (9007199254741 - s.toInt) = z at *
  omega
theorem own_t {y t : Int64} (h : t = (if y < (1 : Int64) then (1 : Int64) else y)) : 1 ≤ t.toInt := by
  subst h
  split
  · decide
  · rename_i q
    rw [Int64.lt_iff_toInt_lt, show (1 : Int64).toInt = 1 by decide] at q
    omega
theorem own_lt1 {w : Int64} (h : 1 ≤ w.toInt) : ¬ (w < (1 : Int64)) := by
  rw [Int64.lt_iff_toInt_lt, show (1 : Int64).toInt = 1 by decide]; omega
theorem own_big {w : Int64} (h : w.toInt ≤ 9007199254740000) : ¬ ((9007199254740991 : Int64) < w) := by
  rw [Int64.lt_iff_toInt_lt, show (9007199254740991 : Int64).toInt = 9007199254740991 by decide]; omega
theorem own_pred {t : Int64} (h : 1 ≤ t.toInt) : ¬ (t < (t - (1 : Int64))) := by
  have a := c_lsub t 1
  have r := rng64 (t - 1)
  have r' := rng64 t
  rw [show (1 : Int64).toInt = 1 by decide] at a
  rw [Int64.lt_iff_toInt_lt]; omega
theorem own_succ {t : Int64} (h : ¬ (t = (9223372036854775807 : Int64))) : t < (t + (1 : Int64)) := by
  have a := c_ladd t 1
  have r := rng64 (t + 1)
  have r' := rng64 t
  rw [show (1 : Int64).toInt = 1 by decide] at a
  rw [← Int64.toInt_inj, show ((9223372036854775807 : Int64)).toInt = 9223372036854775807 by decide] at h
  rw [Int64.lt_iff_toInt_lt]; omega
theorem own_min {t : Int64} : ¬ (t < (-9223372036854775808 : Int64)) := by
  have r' := rng64 t
  rw [Int64.lt_iff_toInt_lt, show ((-9223372036854775808 : Int64)).toInt = -9223372036854775808 by decide]; omega
theorem own_d {s : Int64} (h2 : s.toInt ≤ 9007199254740) : (((9007199254740 : Int64) - s) + (1 : Int64)) ≠ 0 := fun e => by
  have r := rng64 s
  have b := c_lsub 9007199254740 s
  have rb := rng64 (9007199254740 - s)
  have c := c_ladd (9007199254740 - s) 1
  rw [e, Int64.toInt_zero, show (1 : Int64).toInt = 1 by decide] at c
  rw [show (9007199254740 : Int64).toInt = 9007199254740 by decide] at b
  omega
theorem pd_2 : parseMethodDescriptor "(JJJ)V" = some ⟨[.long, .long, .long], none⟩ := by decide +kernel
theorem pd_3 : parseMethodDescriptor "(J)Z" = some ⟨[.long], some .boolean⟩ := by decide +kernel
theorem pn_2 : plainName "com/example/windo/windo/model/ValuesIsStormPinLaw" = true := by first | (simp [plainName, overriddenIn]; done) | decide +kernel
theorem ef_rm0 (m : MethodId) (q0 : Int64) (q1 : Int64) (q2 : Int64) (q3 : Int64) : entryFrame m #[(.long q0), (.long q1), (.long q2), (.long q3)] maxLocals = mkF m 0 #[.val (.long q0), .second, .val (.long q1), .second, .val (.long q2), .second, .val (.long q3), .second, .unset, .unset, .unset, .unset, .unset, .unset, .unset, .unset, .unset, .unset, .unset, .unset, .unset, .unset, .unset, .unset] [] := by first | (simp [entryFrame, mkF, argsToLocals, Value.category, maxLocals]; done) | rfl
def Q_rm0 (Z : State) (q0 : Int64) (q1 : Int64) (q2 : Int64) (q3 : Int64) (h0 : Heap) (n0 : Nat) (v : Option Value) (h : Heap) (L : List Loc) : Prop := v = some (.int (1 : Int32)) ∧ Fr n0 L
set_option maxRecDepth 65536 in
set_option maxHeartbeats 40000000 in
theorem rm0 (l : Launch) (Z : State) (aw : Array Value) (hw : ∀ d ∈ tables_1, d.before aw Z = true) (ws : List Jvm.Cond) (q0 : Int64) (q1 : Int64) (q2 : Int64) (q3 : Int64) (h0 : Heap) (n0 : Nat) (Z0 : n0 ≤ h0.size) :
    MetFree l x (head1 (Jvm.Cond.code x code maxLocals ret :: ws) room_1) (fun a U => a = #[(.long q0), (.long q1), (.long q2), (.long q3)] ∧ Z.Warmed39 U.vm ∧ U.heap = h0) (fun _ _ _ _ _ => True) (fun _ U o U' => ∃ v L, o = .returned v ∧ Q_rm0 Z q0 q1 q2 q3 h0 n0 v U'.heap L ∧ ReturnedEndW U o U' L room_1.cells room_1.slots) := by
  refine MetFree.of_bodySF (plainFor_of_name pn_2) hisR ?_
  intro p e s m args below meth c s₁ Bd hml0 hP hK
  obtain ⟨rfl, hZ, hh⟩ := hP
  have hx := Bd.exec
  have hby := Bd.bytes
  have hml : c.maxLocals = 24 := hml0
  have hown : s.vm.findClass "com/example/windo/windo/model/ValuesIsStormPinLaw" = some m.cls := findClass_of_methodNamed Bd.named
  have hnm := (name_of_methodNamed Bd.named Bd.method).1
  have X0 : Stand p l e room_1 s m #[(.long q0), (.long q1), (.long q2), (.long q3)] below meth c s₁ [] 0 0 := Stand.of_body Bd
  have e0 : s₁.heap = h0 := by rw [← hh, Bd.state]; rfl
  have N0 := Fr.nil n0
  have pre0 : ∀ t, Steps p.tables e below (s₁.setTop (mkF m 0 #[.val (.long q0), .second, .val (.long q1), .second, .val (.long q2), .second, .val (.long q3), .second, .unset, .unset, .unset, .unset, .unset, .unset, .unset, .unset, .unset, .unset, .unset, .unset, .unset, .unset, .unset, .unset] [])) t → Steps p.tables e below (s₁.setTop (entryFrame m #[(.long q0), (.long q1), (.long q2), (.long q3)] maxLocals)) t := fun t k => castTop (ef_rm0 m q0 q1 q2 q3) k
  have hS0 : s.Since s.vm h0.size := (State.WarmedH.refl s).since _
  have hk0 : h0.size ≤ h0.size := Nat.le_refl _
  obtain ⟨x148, hx148⟩ : ∃ z : Int64, z = (((q0 &&& (9223372036854775807 : Int64)) - ((q0 &&& (9223372036854775807 : Int64)) / (9007199254740000 : Int64)) * (9007199254740000 : Int64)) + (1 : Int64)) := ⟨_, rfl⟩
  have pre149 : ∀ t, Steps p.tables e below (s₁.setTop (mkF m 21 #[.val (.long q0), .second, .val (.long q1), .second, .val (.long q2), .second, .val (.long q3), .second, .val (.long (9007199254740 : Int64)), .second, .val (.long x148), .second, .unset, .unset, .unset, .unset, .unset, .unset, .unset, .unset, .unset, .unset, .unset, .unset] [])) t → Steps p.tables e below (s₁.setTop (entryFrame m #[(.long q0), (.long q1), (.long q2), (.long q3)] maxLocals)) t := fun t k => by
    refine pre0 t ?_
    show Steps p.tables e below (s₁.setTop (mkF m 0 #[.val (.long q0), .second, .val (.long q1), .second, .val (.long q2), .second, .val (.long q3), .second, .unset, .unset, .unset, .unset, .unset, .unset, .unset, .unset, .unset, .unset, .unset, .unset, .unset, .unset, .unset, .unset] [])) _
    refine X0.ldc2Long hx hown (mvT hZ (hw _ (List.mem_of_getElem? (i := 0) rfl))) (g := (mkF m 0 #[.val (.long q0), .second, .val (.long q1), .second, .val (.long q2), .second, .val (.long q3), .second, .unset, .unset, .unset, .unset, .unset, .unset, .unset, .unset, .unset, .unset, .unset, .unset, .unset, .unset, .unset, .unset] [])) rfl (hb hby at_0) _ ?_
    show Steps p.tables e below (s₁.setTop (mkF m 3 #[.val (.long q0), .second, .val (.long q1), .second, .val (.long q2), .second, .val (.long q3), .second, .unset, .unset, .unset, .unset, .unset, .unset, .unset, .unset, .unset, .unset, .unset, .unset, .unset, .unset, .unset, .unset] [(.long (9007199254740 : Int64))])) _
    refine XS.lstore X0.here hx rfl (hb hby at_3) rfl (l' := #[.val (.long q0), .second, .val (.long q1), .second, .val (.long q2), .second, .val (.long q3), .second, .val (.long (9007199254740 : Int64)), .second, .unset, .unset, .unset, .unset, .unset, .unset, .unset, .unset, .unset, .unset, .unset, .unset, .unset, .unset]) rfl ?_
    show Steps p.tables e below (s₁.setTop (mkF m 5 #[.val (.long q0), .second, .val (.long q1), .second, .val (.long q2), .second, .val (.long q3), .second, .val (.long (9007199254740 : Int64)), .second, .unset, .unset, .unset, .unset, .unset, .unset, .unset, .unset, .unset, .unset, .unset, .unset, .unset, .unset] [])) _
    refine XS.lloadN X0.here hx rfl (hb hby at_5) rfl ?_
    show Steps p.tables e below (s₁.setTop (mkF m 6 #[.val (.long q0), .second, .val (.long q1), .second, .val (.long q2), .second, .val (.long q3), .second, .val (.long (9007199254740 : Int64)), .second, .unset, .unset, .unset, .unset, .unset, .unset, .unset, .unset, .unset, .unset, .unset, .unset, .unset, .unset] [(.long q0)])) _
    refine X0.ldc2Long hx hown (mvT hZ (hw _ (List.mem_of_getElem? (i := 1) rfl))) (g := (mkF m 6 #[.val (.long q0), .second, .val (.long q1), .second, .val (.long q2), .second, .val (.long q3), .second, .val (.long (9007199254740 : Int64)), .second, .unset, .unset, .unset, .unset, .unset, .unset, .unset, .unset, .unset, .unset, .unset, .unset, .unset, .unset] [(.long q0)])) rfl (hb hby at_6) _ ?_
    show Steps p.tables e below (s₁.setTop (mkF m 9 #[.val (.long q0), .second, .val (.long q1), .second, .val (.long q2), .second, .val (.long q3), .second, .val (.long (9007199254740 : Int64)), .second, .unset, .unset, .unset, .unset, .unset, .unset, .unset, .unset, .unset, .unset, .unset, .unset, .unset, .unset] [(.long (9223372036854775807 : Int64)), (.long q0)])) _
    refine XS.land X0.here hx rfl (hb hby at_9) rfl ?_
    show Steps p.tables e below (s₁.setTop (mkF m 10 #[.val (.long q0), .second, .val (.long q1), .second, .val (.long q2), .second, .val (.long q3), .second, .val (.long (9007199254740 : Int64)), .second, .unset, .unset, .unset, .unset, .unset, .unset, .unset, .unset, .unset, .unset, .unset, .unset, .unset, .unset] [(.long (q0 &&& (9223372036854775807 : Int64)))])) _
    refine XS.lload X0.here hx rfl (hb hby at_10) rfl ?_
    show Steps p.tables e below (s₁.setTop (mkF m 12 #[.val (.long q0), .second, .val (.long q1), .second, .val (.long q2), .second, .val (.long q3), .second, .val (.long (9007199254740 : Int64)), .second, .unset, .unset, .unset, .unset, .unset, .unset, .unset, .unset, .unset, .unset, .unset, .unset, .unset, .unset] [(.long (9007199254740 : Int64)), (.long (q0 &&& (9223372036854775807 : Int64)))])) _
    refine X0.ldc2Long hx hown (mvT hZ (hw _ (List.mem_of_getElem? (i := 2) rfl))) (g := (mkF m 12 #[.val (.long q0), .second, .val (.long q1), .second, .val (.long q2), .second, .val (.long q3), .second, .val (.long (9007199254740 : Int64)), .second, .unset, .unset, .unset, .unset, .unset, .unset, .unset, .unset, .unset, .unset, .unset, .unset, .unset, .unset] [(.long (9007199254740 : Int64)), (.long (q0 &&& (9223372036854775807 : Int64)))])) rfl (hb hby at_12) _ ?_
    show Steps p.tables e below (s₁.setTop (mkF m 15 #[.val (.long q0), .second, .val (.long q1), .second, .val (.long q2), .second, .val (.long q3), .second, .val (.long (9007199254740 : Int64)), .second, .unset, .unset, .unset, .unset, .unset, .unset, .unset, .unset, .unset, .unset, .unset, .unset, .unset, .unset] [(.long (1000 : Int64)), (.long (9007199254740 : Int64)), (.long (q0 &&& (9223372036854775807 : Int64)))])) _
    refine XS.lmul X0.here hx rfl (hb hby at_15) rfl ?_
    show Steps p.tables e below (s₁.setTop (mkF m 16 #[.val (.long q0), .second, .val (.long q1), .second, .val (.long q2), .second, .val (.long q3), .second, .val (.long (9007199254740 : Int64)), .second, .unset, .unset, .unset, .unset, .unset, .unset, .unset, .unset, .unset, .unset, .unset, .unset, .unset, .unset] [(.long (9007199254740000 : Int64)), (.long (q0 &&& (9223372036854775807 : Int64)))])) _
    refine XS.lrem X0.here hx rfl (hb hby at_16) rfl (by decide) ?_
    show Steps p.tables e below (s₁.setTop (mkF m 17 #[.val (.long q0), .second, .val (.long q1), .second, .val (.long q2), .second, .val (.long q3), .second, .val (.long (9007199254740 : Int64)), .second, .unset, .unset, .unset, .unset, .unset, .unset, .unset, .unset, .unset, .unset, .unset, .unset, .unset, .unset] [(.long ((q0 &&& (9223372036854775807 : Int64)) - ((q0 &&& (9223372036854775807 : Int64)) / (9007199254740000 : Int64)) * (9007199254740000 : Int64)))])) _
    refine XS.lconst X0.here hx rfl (hb hby at_17) ?_
    show Steps p.tables e below (s₁.setTop (mkF m 18 #[.val (.long q0), .second, .val (.long q1), .second, .val (.long q2), .second, .val (.long q3), .second, .val (.long (9007199254740 : Int64)), .second, .unset, .unset, .unset, .unset, .unset, .unset, .unset, .unset, .unset, .unset, .unset, .unset, .unset, .unset] [(.long (1 : Int64)), (.long ((q0 &&& (9223372036854775807 : Int64)) - ((q0 &&& (9223372036854775807 : Int64)) / (9007199254740000 : Int64)) * (9007199254740000 : Int64)))])) _
    refine XS.ladd X0.here hx rfl (hb hby at_18) rfl ?_
    show Steps p.tables e below (s₁.setTop (mkF m 19 #[.val (.long q0), .second, .val (.long q1), .second, .val (.long q2), .second, .val (.long q3), .second, .val (.long (9007199254740 : Int64)), .second, .unset, .unset, .unset, .unset, .unset, .unset, .unset, .unset, .unset, .unset, .unset, .unset, .unset, .unset] [(.long (((q0 &&& (9223372036854775807 : Int64)) - ((q0 &&& (9223372036854775807 : Int64)) / (9007199254740000 : Int64)) * (9007199254740000 : Int64)) + (1 : Int64)))])) _
    refine XS.lstore X0.here hx rfl (hb hby at_19) rfl (l' := #[.val (.long q0), .second, .val (.long q1), .second, .val (.long q2), .second, .val (.long q3), .second, .val (.long (9007199254740 : Int64)), .second, .val (.long (((q0 &&& (9223372036854775807 : Int64)) - ((q0 &&& (9223372036854775807 : Int64)) / (9007199254740000 : Int64)) * (9007199254740000 : Int64)) + (1 : Int64))), .second, .unset, .unset, .unset, .unset, .unset, .unset, .unset, .unset, .unset, .unset, .unset, .unset]) rfl ?_
    subst hx148
    exact k
  obtain ⟨x150, hx150⟩ : ∃ z : Int64, z = (q1 &&& (9223372036854775807 : Int64)) := ⟨_, rfl⟩
  have pre151 : ∀ t, Steps p.tables e below (s₁.setTop (mkF m 28 #[.val (.long q0), .second, .val (.long q1), .second, .val (.long q2), .second, .val (.long q3), .second, .val (.long (9007199254740 : Int64)), .second, .val (.long x148), .second, .val (.long x150), .second, .unset, .unset, .unset, .unset, .unset, .unset, .unset, .unset, .unset, .unset] [])) t → Steps p.tables e below (s₁.setTop (entryFrame m #[(.long q0), (.long q1), (.long q2), (.long q3)] maxLocals)) t := fun t k => by
    refine pre149 t ?_
    show Steps p.tables e below (s₁.setTop (mkF m 21 #[.val (.long q0), .second, .val (.long q1), .second, .val (.long q2), .second, .val (.long q3), .second, .val (.long (9007199254740 : Int64)), .second, .val (.long x148), .second, .unset, .unset, .unset, .unset, .unset, .unset, .unset, .unset, .unset, .unset, .unset, .unset] [])) _
    refine XS.lloadN X0.here hx rfl (hb hby at_21) rfl ?_
    show Steps p.tables e below (s₁.setTop (mkF m 22 #[.val (.long q0), .second, .val (.long q1), .second, .val (.long q2), .second, .val (.long q3), .second, .val (.long (9007199254740 : Int64)), .second, .val (.long x148), .second, .unset, .unset, .unset, .unset, .unset, .unset, .unset, .unset, .unset, .unset, .unset, .unset] [(.long q1)])) _
    refine X0.ldc2Long hx hown (mvT hZ (hw _ (List.mem_of_getElem? (i := 1) rfl))) (g := (mkF m 22 #[.val (.long q0), .second, .val (.long q1), .second, .val (.long q2), .second, .val (.long q3), .second, .val (.long (9007199254740 : Int64)), .second, .val (.long x148), .second, .unset, .unset, .unset, .unset, .unset, .unset, .unset, .unset, .unset, .unset, .unset, .unset] [(.long q1)])) rfl (hb hby at_22) _ ?_
    show Steps p.tables e below (s₁.setTop (mkF m 25 #[.val (.long q0), .second, .val (.long q1), .second, .val (.long q2), .second, .val (.long q3), .second, .val (.long (9007199254740 : Int64)), .second, .val (.long x148), .second, .unset, .unset, .unset, .unset, .unset, .unset, .unset, .unset, .unset, .unset, .unset, .unset] [(.long (9223372036854775807 : Int64)), (.long q1)])) _
    refine XS.land X0.here hx rfl (hb hby at_25) rfl ?_
    show Steps p.tables e below (s₁.setTop (mkF m 26 #[.val (.long q0), .second, .val (.long q1), .second, .val (.long q2), .second, .val (.long q3), .second, .val (.long (9007199254740 : Int64)), .second, .val (.long x148), .second, .unset, .unset, .unset, .unset, .unset, .unset, .unset, .unset, .unset, .unset, .unset, .unset] [(.long (q1 &&& (9223372036854775807 : Int64)))])) _
    refine XS.lstore X0.here hx rfl (hb hby at_26) rfl (l' := #[.val (.long q0), .second, .val (.long q1), .second, .val (.long q2), .second, .val (.long q3), .second, .val (.long (9007199254740 : Int64)), .second, .val (.long x148), .second, .val (.long (q1 &&& (9223372036854775807 : Int64))), .second, .unset, .unset, .unset, .unset, .unset, .unset, .unset, .unset, .unset, .unset]) rfl ?_
    subst hx150
    exact k
  obtain ⟨x153, hx153⟩ : ∃ z : Int64, z = (if x150 < (1 : Int64) then (1 : Int64) else x150) := ⟨_, rfl⟩
  have pre154 : ∀ t, Steps p.tables e below (s₁.setTop (mkF m 38 #[.val (.long q0), .second, .val (.long q1), .second, .val (.long q2), .second, .val (.long q3), .second, .val (.long (9007199254740 : Int64)), .second, .val (.long x148), .second, .val (.long x153), .second, .unset, .unset, .unset, .unset, .unset, .unset, .unset, .unset, .unset, .unset] [])) t → Steps p.tables e below (s₁.setTop (entryFrame m #[(.long q0), (.long q1), (.long q2), (.long q3)] maxLocals)) t := fun t k => by
    refine pre151 t ?_
    show Steps p.tables e below (s₁.setTop (mkF m 28 #[.val (.long q0), .second, .val (.long q1), .second, .val (.long q2), .second, .val (.long q3), .second, .val (.long (9007199254740 : Int64)), .second, .val (.long x148), .second, .val (.long x150), .second, .unset, .unset, .unset, .unset, .unset, .unset, .unset, .unset, .unset, .unset] [])) _
    refine XS.lload X0.here hx rfl (hb hby at_28) rfl ?_
    show Steps p.tables e below (s₁.setTop (mkF m 30 #[.val (.long q0), .second, .val (.long q1), .second, .val (.long q2), .second, .val (.long q3), .second, .val (.long (9007199254740 : Int64)), .second, .val (.long x148), .second, .val (.long x150), .second, .unset, .unset, .unset, .unset, .unset, .unset, .unset, .unset, .unset, .unset] [(.long x150)])) _
    refine XS.lconst X0.here hx rfl (hb hby at_30) ?_
    show Steps p.tables e below (s₁.setTop (mkF m 31 #[.val (.long q0), .second, .val (.long q1), .second, .val (.long q2), .second, .val (.long q3), .second, .val (.long (9007199254740 : Int64)), .second, .val (.long x148), .second, .val (.long x150), .second, .unset, .unset, .unset, .unset, .unset, .unset, .unset, .unset, .unset, .unset] [(.long (1 : Int64)), (.long x150)])) _
    refine XS.lcmp X0.here hx rfl (hb hby at_31) rfl ?_
    by_cases c152 : x150 < (1 : Int64)
    ·
      show Steps p.tables e below (s₁.setTop (mkF m 32 #[.val (.long q0), .second, .val (.long q1), .second, .val (.long q2), .second, .val (.long q3), .second, .val (.long (9007199254740 : Int64)), .second, .val (.long x148), .second, .val (.long x150), .second, .unset, .unset, .unset, .unset, .unset, .unset, .unset, .unset, .unset, .unset] [(.int (lcmpW x150 (1 : Int64)))])) _
      refine XS.ifNo X0.here hx rfl (hb hby at_32) rfl ((if0 _ _).trans (tlt ((lw_lt _ _).mpr c152)).2.1) ?_
      show Steps p.tables e below (s₁.setTop (mkF m 35 #[.val (.long q0), .second, .val (.long q1), .second, .val (.long q2), .second, .val (.long q3), .second, .val (.long (9007199254740 : Int64)), .second, .val (.long x148), .second, .val (.long x150), .second, .unset, .unset, .unset, .unset, .unset, .unset, .unset, .unset, .unset, .unset] [])) _
      refine XS.lconst X0.here hx rfl (hb hby at_35) ?_
      show Steps p.tables e below (s₁.setTop (mkF m 36 #[.val (.long q0), .second, .val (.long q1), .second, .val (.long q2), .second, .val (.long q3), .second, .val (.long (9007199254740 : Int64)), .second, .val (.long x148), .second, .val (.long x150), .second, .unset, .unset, .unset, .unset, .unset, .unset, .unset, .unset, .unset, .unset] [(.long (1 : Int64))])) _
      refine XS.lstore X0.here hx rfl (hb hby at_36) rfl (l' := #[.val (.long q0), .second, .val (.long q1), .second, .val (.long q2), .second, .val (.long q3), .second, .val (.long (9007199254740 : Int64)), .second, .val (.long x148), .second, .val (.long (1 : Int64)), .second, .unset, .unset, .unset, .unset, .unset, .unset, .unset, .unset, .unset, .unset]) rfl ?_
      rw [show x153 = (1 : Int64) from hx153.trans (by simp only [if_pos c152])] at k
      exact k
    ·
      show Steps p.tables e below (s₁.setTop (mkF m 32 #[.val (.long q0), .second, .val (.long q1), .second, .val (.long q2), .second, .val (.long q3), .second, .val (.long (9007199254740 : Int64)), .second, .val (.long x148), .second, .val (.long x150), .second, .unset, .unset, .unset, .unset, .unset, .unset, .unset, .unset, .unset, .unset] [(.int (lcmpW x150 (1 : Int64)))])) _
      refine XS.ifYes X0.here hx rfl (pc0 := 32) (pc' := 38) rfl (hb hby at_32) rfl ((if0 _ _).trans (flt (fun q => c152 ((lw_lt _ _).mp q))).2.1) (by decide) (by decide) ?_
      rw [show x153 = x150 from hx153.trans (by simp only [if_neg c152])] at k
      exact k
  obtain ⟨x155, hx155⟩ : ∃ z : Int64, z = ((x148 + (999 : Int64)) / (1000 : Int64)) := ⟨_, rfl⟩
  have pre156 : ∀ t, Steps p.tables e below (s₁.setTop (mkF m 50 #[.val (.long q0), .second, .val (.long q1), .second, .val (.long q2), .second, .val (.long q3), .second, .val (.long (9007199254740 : Int64)), .second, .val (.long x148), .second, .val (.long x153), .second, .val (.long x155), .second, .unset, .unset, .unset, .unset, .unset, .unset, .unset, .unset] [])) t → Steps p.tables e below (s₁.setTop (entryFrame m #[(.long q0), (.long q1), (.long q2), (.long q3)] maxLocals)) t := fun t k => by
    refine pre154 t ?_
    show Steps p.tables e below (s₁.setTop (mkF m 38 #[.val (.long q0), .second, .val (.long q1), .second, .val (.long q2), .second, .val (.long q3), .second, .val (.long (9007199254740 : Int64)), .second, .val (.long x148), .second, .val (.long x153), .second, .unset, .unset, .unset, .unset, .unset, .unset, .unset, .unset, .unset, .unset] [])) _
    refine XS.lload X0.here hx rfl (hb hby at_38) rfl ?_
    show Steps p.tables e below (s₁.setTop (mkF m 40 #[.val (.long q0), .second, .val (.long q1), .second, .val (.long q2), .second, .val (.long q3), .second, .val (.long (9007199254740 : Int64)), .second, .val (.long x148), .second, .val (.long x153), .second, .unset, .unset, .unset, .unset, .unset, .unset, .unset, .unset, .unset, .unset] [(.long x148)])) _
    refine X0.ldc2Long hx hown (mvT hZ (hw _ (List.mem_of_getElem? (i := 3) rfl))) (g := (mkF m 40 #[.val (.long q0), .second, .val (.long q1), .second, .val (.long q2), .second, .val (.long q3), .second, .val (.long (9007199254740 : Int64)), .second, .val (.long x148), .second, .val (.long x153), .second, .unset, .unset, .unset, .unset, .unset, .unset, .unset, .unset, .unset, .unset] [(.long x148)])) rfl (hb hby at_40) _ ?_
    show Steps p.tables e below (s₁.setTop (mkF m 43 #[.val (.long q0), .second, .val (.long q1), .second, .val (.long q2), .second, .val (.long q3), .second, .val (.long (9007199254740 : Int64)), .second, .val (.long x148), .second, .val (.long x153), .second, .unset, .unset, .unset, .unset, .unset, .unset, .unset, .unset, .unset, .unset] [(.long (999 : Int64)), (.long x148)])) _
    refine XS.ladd X0.here hx rfl (hb hby at_43) rfl ?_
    show Steps p.tables e below (s₁.setTop (mkF m 44 #[.val (.long q0), .second, .val (.long q1), .second, .val (.long q2), .second, .val (.long q3), .second, .val (.long (9007199254740 : Int64)), .second, .val (.long x148), .second, .val (.long x153), .second, .unset, .unset, .unset, .unset, .unset, .unset, .unset, .unset, .unset, .unset] [(.long (x148 + (999 : Int64)))])) _
    refine X0.ldc2Long hx hown (mvT hZ (hw _ (List.mem_of_getElem? (i := 2) rfl))) (g := (mkF m 44 #[.val (.long q0), .second, .val (.long q1), .second, .val (.long q2), .second, .val (.long q3), .second, .val (.long (9007199254740 : Int64)), .second, .val (.long x148), .second, .val (.long x153), .second, .unset, .unset, .unset, .unset, .unset, .unset, .unset, .unset, .unset, .unset] [(.long (x148 + (999 : Int64)))])) rfl (hb hby at_44) _ ?_
    show Steps p.tables e below (s₁.setTop (mkF m 47 #[.val (.long q0), .second, .val (.long q1), .second, .val (.long q2), .second, .val (.long q3), .second, .val (.long (9007199254740 : Int64)), .second, .val (.long x148), .second, .val (.long x153), .second, .unset, .unset, .unset, .unset, .unset, .unset, .unset, .unset, .unset, .unset] [(.long (1000 : Int64)), (.long (x148 + (999 : Int64)))])) _
    refine XS.ldiv X0.here hx rfl (hb hby at_47) rfl (by decide) ?_
    show Steps p.tables e below (s₁.setTop (mkF m 48 #[.val (.long q0), .second, .val (.long q1), .second, .val (.long q2), .second, .val (.long q3), .second, .val (.long (9007199254740 : Int64)), .second, .val (.long x148), .second, .val (.long x153), .second, .unset, .unset, .unset, .unset, .unset, .unset, .unset, .unset, .unset, .unset] [(.long ((x148 + (999 : Int64)) / (1000 : Int64)))])) _
    refine XS.lstore X0.here hx rfl (hb hby at_48) rfl (l' := #[.val (.long q0), .second, .val (.long q1), .second, .val (.long q2), .second, .val (.long q3), .second, .val (.long (9007199254740 : Int64)), .second, .val (.long x148), .second, .val (.long x153), .second, .val (.long ((x148 + (999 : Int64)) / (1000 : Int64))), .second, .unset, .unset, .unset, .unset, .unset, .unset, .unset, .unset]) rfl ?_
    subst hx155
    exact k
  obtain ⟨x157, hx157⟩ : ∃ z : Int64, z = (x155 + ((q2 &&& (9223372036854775807 : Int64)) - ((q2 &&& (9223372036854775807 : Int64)) / (((9007199254740 : Int64) - x155) + (1 : Int64))) * (((9007199254740 : Int64) - x155) + (1 : Int64)))) := ⟨_, rfl⟩
  have pre158 : ∀ t, Steps p.tables e below (s₁.setTop (mkF m 69 #[.val (.long q0), .second, .val (.long q1), .second, .val (.long q2), .second, .val (.long q3), .second, .val (.long (9007199254740 : Int64)), .second, .val (.long x148), .second, .val (.long x153), .second, .val (.long x155), .second, .val (.long x157), .second, .unset, .unset, .unset, .unset, .unset, .unset] [])) t → Steps p.tables e below (s₁.setTop (entryFrame m #[(.long q0), (.long q1), (.long q2), (.long q3)] maxLocals)) t := fun t k => by
    refine pre156 t ?_
    show Steps p.tables e below (s₁.setTop (mkF m 50 #[.val (.long q0), .second, .val (.long q1), .second, .val (.long q2), .second, .val (.long q3), .second, .val (.long (9007199254740 : Int64)), .second, .val (.long x148), .second, .val (.long x153), .second, .val (.long x155), .second, .unset, .unset, .unset, .unset, .unset, .unset, .unset, .unset] [])) _
    refine XS.lload X0.here hx rfl (hb hby at_50) rfl ?_
    show Steps p.tables e below (s₁.setTop (mkF m 52 #[.val (.long q0), .second, .val (.long q1), .second, .val (.long q2), .second, .val (.long q3), .second, .val (.long (9007199254740 : Int64)), .second, .val (.long x148), .second, .val (.long x153), .second, .val (.long x155), .second, .unset, .unset, .unset, .unset, .unset, .unset, .unset, .unset] [(.long x155)])) _
    refine XS.lload X0.here hx rfl (hb hby at_52) rfl ?_
    show Steps p.tables e below (s₁.setTop (mkF m 54 #[.val (.long q0), .second, .val (.long q1), .second, .val (.long q2), .second, .val (.long q3), .second, .val (.long (9007199254740 : Int64)), .second, .val (.long x148), .second, .val (.long x153), .second, .val (.long x155), .second, .unset, .unset, .unset, .unset, .unset, .unset, .unset, .unset] [(.long q2), (.long x155)])) _
    refine X0.ldc2Long hx hown (mvT hZ (hw _ (List.mem_of_getElem? (i := 1) rfl))) (g := (mkF m 54 #[.val (.long q0), .second, .val (.long q1), .second, .val (.long q2), .second, .val (.long q3), .second, .val (.long (9007199254740 : Int64)), .second, .val (.long x148), .second, .val (.long x153), .second, .val (.long x155), .second, .unset, .unset, .unset, .unset, .unset, .unset, .unset, .unset] [(.long q2), (.long x155)])) rfl (hb hby at_54) _ ?_
    show Steps p.tables e below (s₁.setTop (mkF m 57 #[.val (.long q0), .second, .val (.long q1), .second, .val (.long q2), .second, .val (.long q3), .second, .val (.long (9007199254740 : Int64)), .second, .val (.long x148), .second, .val (.long x153), .second, .val (.long x155), .second, .unset, .unset, .unset, .unset, .unset, .unset, .unset, .unset] [(.long (9223372036854775807 : Int64)), (.long q2), (.long x155)])) _
    refine XS.land X0.here hx rfl (hb hby at_57) rfl ?_
    show Steps p.tables e below (s₁.setTop (mkF m 58 #[.val (.long q0), .second, .val (.long q1), .second, .val (.long q2), .second, .val (.long q3), .second, .val (.long (9007199254740 : Int64)), .second, .val (.long x148), .second, .val (.long x153), .second, .val (.long x155), .second, .unset, .unset, .unset, .unset, .unset, .unset, .unset, .unset] [(.long (q2 &&& (9223372036854775807 : Int64))), (.long x155)])) _
    refine XS.lload X0.here hx rfl (hb hby at_58) rfl ?_
    show Steps p.tables e below (s₁.setTop (mkF m 60 #[.val (.long q0), .second, .val (.long q1), .second, .val (.long q2), .second, .val (.long q3), .second, .val (.long (9007199254740 : Int64)), .second, .val (.long x148), .second, .val (.long x153), .second, .val (.long x155), .second, .unset, .unset, .unset, .unset, .unset, .unset, .unset, .unset] [(.long (9007199254740 : Int64)), (.long (q2 &&& (9223372036854775807 : Int64))), (.long x155)])) _
    refine XS.lload X0.here hx rfl (hb hby at_60) rfl ?_
    show Steps p.tables e below (s₁.setTop (mkF m 62 #[.val (.long q0), .second, .val (.long q1), .second, .val (.long q2), .second, .val (.long q3), .second, .val (.long (9007199254740 : Int64)), .second, .val (.long x148), .second, .val (.long x153), .second, .val (.long x155), .second, .unset, .unset, .unset, .unset, .unset, .unset, .unset, .unset] [(.long x155), (.long (9007199254740 : Int64)), (.long (q2 &&& (9223372036854775807 : Int64))), (.long x155)])) _
    refine XS.lsub X0.here hx rfl (hb hby at_62) rfl ?_
    show Steps p.tables e below (s₁.setTop (mkF m 63 #[.val (.long q0), .second, .val (.long q1), .second, .val (.long q2), .second, .val (.long q3), .second, .val (.long (9007199254740 : Int64)), .second, .val (.long x148), .second, .val (.long x153), .second, .val (.long x155), .second, .unset, .unset, .unset, .unset, .unset, .unset, .unset, .unset] [(.long ((9007199254740 : Int64) - x155)), (.long (q2 &&& (9223372036854775807 : Int64))), (.long x155)])) _
    refine XS.lconst X0.here hx rfl (hb hby at_63) ?_
    show Steps p.tables e below (s₁.setTop (mkF m 64 #[.val (.long q0), .second, .val (.long q1), .second, .val (.long q2), .second, .val (.long q3), .second, .val (.long (9007199254740 : Int64)), .second, .val (.long x148), .second, .val (.long x153), .second, .val (.long x155), .second, .unset, .unset, .unset, .unset, .unset, .unset, .unset, .unset] [(.long (1 : Int64)), (.long ((9007199254740 : Int64) - x155)), (.long (q2 &&& (9223372036854775807 : Int64))), (.long x155)])) _
    refine XS.ladd X0.here hx rfl (hb hby at_64) rfl ?_
    show Steps p.tables e below (s₁.setTop (mkF m 65 #[.val (.long q0), .second, .val (.long q1), .second, .val (.long q2), .second, .val (.long q3), .second, .val (.long (9007199254740 : Int64)), .second, .val (.long x148), .second, .val (.long x153), .second, .val (.long x155), .second, .unset, .unset, .unset, .unset, .unset, .unset, .unset, .unset] [(.long (((9007199254740 : Int64) - x155) + (1 : Int64))), (.long (q2 &&& (9223372036854775807 : Int64))), (.long x155)])) _
    refine XS.lrem X0.here hx rfl (hb hby at_65) rfl (own_d (own_s (own_w hx148).1 (own_w hx148).2 hx155).2) ?_
    show Steps p.tables e below (s₁.setTop (mkF m 66 #[.val (.long q0), .second, .val (.long q1), .second, .val (.long q2), .second, .val (.long q3), .second, .val (.long (9007199254740 : Int64)), .second, .val (.long x148), .second, .val (.long x153), .second, .val (.long x155), .second, .unset, .unset, .unset, .unset, .unset, .unset, .unset, .unset] [(.long ((q2 &&& (9223372036854775807 : Int64)) - ((q2 &&& (9223372036854775807 : Int64)) / (((9007199254740 : Int64) - x155) + (1 : Int64))) * (((9007199254740 : Int64) - x155) + (1 : Int64)))), (.long x155)])) _
    refine XS.ladd X0.here hx rfl (hb hby at_66) rfl ?_
    show Steps p.tables e below (s₁.setTop (mkF m 67 #[.val (.long q0), .second, .val (.long q1), .second, .val (.long q2), .second, .val (.long q3), .second, .val (.long (9007199254740 : Int64)), .second, .val (.long x148), .second, .val (.long x153), .second, .val (.long x155), .second, .unset, .unset, .unset, .unset, .unset, .unset, .unset, .unset] [(.long (x155 + ((q2 &&& (9223372036854775807 : Int64)) - ((q2 &&& (9223372036854775807 : Int64)) / (((9007199254740 : Int64) - x155) + (1 : Int64))) * (((9007199254740 : Int64) - x155) + (1 : Int64)))))])) _
    refine XS.lstore X0.here hx rfl (hb hby at_67) rfl (l' := #[.val (.long q0), .second, .val (.long q1), .second, .val (.long q2), .second, .val (.long q3), .second, .val (.long (9007199254740 : Int64)), .second, .val (.long x148), .second, .val (.long x153), .second, .val (.long x155), .second, .val (.long (x155 + ((q2 &&& (9223372036854775807 : Int64)) - ((q2 &&& (9223372036854775807 : Int64)) / (((9007199254740 : Int64) - x155) + (1 : Int64))) * (((9007199254740 : Int64) - x155) + (1 : Int64))))), .second, .unset, .unset, .unset, .unset, .unset, .unset]) rfl ?_
    subst hx157
    exact k
  obtain ⟨T159, h159, X159, e159, E159, A159, D159, -, st159⟩ := newO X0 hx hZ hown (hw _ (List.mem_of_getElem? (i := 4) rfl)) (hw _ (List.mem_of_getElem? (i := 5) rfl)) (hw _ (List.mem_of_getElem? (i := 6) rfl)) e0 (g := (mkF m 69 #[.val (.long q0), .second, .val (.long q1), .second, .val (.long q2), .second, .val (.long q3), .second, .val (.long (9007199254740 : Int64)), .second, .val (.long x148), .second, .val (.long x153), .second, .val (.long x155), .second, .val (.long x157), .second, .unset, .unset, .unset, .unset, .unset, .unset] [])) rfl (hb hby at_69) (by decide) (by decide)
  obtain ⟨b159, g159⟩ : ∃ z, z = h0.size := ⟨_, rfl⟩
  rw [← g159] at A159 D159 st159
  have gn160 : n0 ≤ b159 := Nat.le_trans Z0 (Nat.le_of_eq g159.symm)
  have Z161 : n0 ≤ h159.size := Nat.le_trans Z0 E159.1
  have hk162 := Nat.le_trans hk0 E159.1
  have f163 : Fld Z h159 b159 "com/example/windo/windo/model/StormCount$Values" "windowMillis" "J" (.long (0 : Int64)) := D159 (Or.inr (hw _ (List.mem_of_getElem? (i := 33) rfl))) (ty := .long) (by decide)
  have f164 : Fld Z h159 b159 "com/example/windo/windo/model/StormCount$Values" "threshold" "J" (.long (0 : Int64)) := D159 (Or.inr (hw _ (List.mem_of_getElem? (i := 35) rfl))) (ty := .long) (by decide)
  have f165 : Fld Z h159 b159 "com/example/windo/windo/model/StormCount$Values" "idleExpirySeconds" "J" (.long (0 : Int64)) := D159 (Or.inr (hw _ (List.mem_of_getElem? (i := 37) rfl))) (ty := .long) (by decide)
  obtain ⟨_, _, ⟨T166, L166, k166, n166⟩, -, Xq166, hSq166, gq166, ⟨Lc166, hQ166, l166, y166, z166⟩, st166⟩ := X159.specialBackS hx (y := (⟨"com/example/windo/windo/model/StormCount$Values", "<init>", "(JJJ)V"⟩ : MethodName)) rfl hown (mvT hZ (hw _ (List.mem_of_getElem? (i := 7) rfl))) (mvT hZ (hw _ (List.mem_of_getElem? (i := 8) rfl))) (mvT hZ (hw _ (List.mem_of_getElem? (i := 9) rfl))) (by decide) (backOfS (W := 1) (rm1 l Z aw hw [] b159 x148 x153 x157 h159 n0 Z161 A159 f163 f164 f165 gn160 (own_lt1 (own_w hx148).1) (own_big (own_w hx148).2) (own_lt1 (own_t hx153)) (by rw [← hx155]; exact (own_i (own_s (own_w hx148).1 (own_w hx148).2 hx155).1 (own_s (own_w hx148).1 (own_w hx148).2 hx155).2 hx157).1) (own_i (own_s (own_w hx148).1 (own_w hx148).2 hx155).1 (own_s (own_w hx148).1 (own_w hx148).2 hx155).2 hx157).2) hZ (hw _ (List.mem_of_getElem? (i := 9) rfl)) (hw _ (List.mem_of_getElem? (i := 6) rfl)) (by decide) (by decide)) (g := (mkF m 79 #[.val (.long q0), .second, .val (.long q1), .second, .val (.long q2), .second, .val (.long q3), .second, .val (.long (9007199254740 : Int64)), .second, .val (.long x148), .second, .val (.long x153), .second, .val (.long x155), .second, .val (.long x157), .second, .unset, .unset, .unset, .unset, .unset, .unset] [(.long x157), (.long x153), (.long x148), (.ref b159), (.ref b159)])) rfl (by rw [hml]; rfl) (Steps.refl _) (a := b159) (argsL := [(.long x148), (.long x153), (.long x157)]) (rest := [(.ref b159)]) (lenOf pd_2 rfl) rfl (by show 2 * 0 + _ ≤ _; exact Nat.le_of_eq rfl) (hb hby at_79) (fun _ _ => ⟨rfl, e159, (by decide : 1 + 2 ≤ _), (by decide : 3 + 52 ≤ _)⟩)
  dsimp only [Pt.U, Pt.locs, Pt.cells, Pt.slots] at Xq166 hSq166 gq166 l166 y166 z166 st166 hQ166
  subst l166 y166 z166
  obtain ⟨X166, hS166, hZ166, hown166⟩ := rebS (vm0 := s.vm) hS0 (by rw [e159]; exact hk162 : _ ≤ T159.heap.size) Xq166 hSq166 gq166 hZ hown
  have hk166 : T166.heap.size ≤ T166.heap.size := Nat.le_refl _
  obtain ⟨rfl, N166q, K166, f167, f168⟩ := hQ166
  have N166 := Fr.app N0 N166q
  have Z169 : n0 ≤ T166.heap.size := Nat.le_trans Z161 K166.1
  obtain ⟨cq170, kq170, q170a, q170b, q170c⟩ := isOf hZ166 rfl f167
  obtain ⟨_, _, ⟨T170, L170, k170, n170⟩, -, X170, ⟨Lc170, hQ170, l170, y170, z170⟩, st170⟩ := X166.virtualBack hx (y := (⟨"com/example/windo/windo/model/StormCount$Values", "isStorm", "(J)Z"⟩ : MethodName)) (z := (⟨"com/example/windo/windo/model/StormCount$Values", "isStorm", "(J)Z"⟩ : MethodName)) hown166 (mvT hZ166 (hw _ (List.mem_of_getElem? (i := 38) rfl))) (mvT hZ166 (hw _ (List.mem_of_getElem? (i := 39) rfl))) (notFace_of_selects (args := #[]) (mvT hZ166 (hw _ (List.mem_of_getElem? (i := 41) rfl)))) (mvT hZ166 (hw _ (List.mem_of_getElem? (i := 41) rfl))) (mvT hZ166 (hw _ (List.mem_of_getElem? (i := 40) rfl))) (by decide) (backOf (W := 0) (rm5 l Z aw hw [] b159 q3 x153 T166.heap n0 Z169 f168) hZ166 (hw _ (List.mem_of_getElem? (i := 42) rfl)) (hw _ (List.mem_of_getElem? (i := 6) rfl)) (by decide) (by decide)) q170a q170c (g := (mkF m 88 #[.val (.long q0), .second, .val (.long q1), .second, .val (.long q2), .second, .val (.long q3), .second, .val (.long (9007199254740 : Int64)), .second, .val (.long x148), .second, .val (.long x153), .second, .val (.long x155), .second, .val (.long x157), .second, .val (.ref b159), .unset, .unset, .unset, .unset, .unset] [(.long q3), (.ref b159)])) rfl (by rw [hml]; rfl) (Steps.refl _) (argsL := [(.long q3)]) (rest := []) (lenOf pd_3 rfl) rfl (by show 2 * 0 + _ ≤ _; exact Nat.le_of_eq rfl) (hb hby at_88) (fun _ _ => ⟨rfl, rfl, (by decide : 3 + 0 ≤ _), (by decide : 55 + 0 ≤ _)⟩)
  dsimp only [Pt.U, Pt.locs, Pt.cells, Pt.slots] at X170 l170 y170 z170 st170 hQ170
  subst l170 y170 z170
  obtain ⟨rfl, N170q, e170⟩ := hQ170
  have N170 := Fr.app N166 N170q
  obtain ⟨x172, hx172⟩ : ∃ z : Int32, z = (if x153 < q3 then (1 : Int32) else (0 : Int32)) := ⟨_, rfl⟩
  have pre173 : ∀ t, Steps p.tables e below (T170.setTop (mkF m 104 #[.val (.long q0), .second, .val (.long q1), .second, .val (.long q2), .second, .val (.long q3), .second, .val (.long (9007199254740 : Int64)), .second, .val (.long x148), .second, .val (.long x153), .second, .val (.long x155), .second, .val (.long x157), .second, .val (.ref b159), .unset, .unset, .unset, .unset, .unset] [(.int x172), (.int (if x153 < q3 then (1 : Int32) else (0 : Int32)))])) t → Steps p.tables e below (s₁.setTop (entryFrame m #[(.long q0), (.long q1), (.long q2), (.long q3)] maxLocals)) t := fun t k => by
    refine pre158 t ?_
    show Steps p.tables e below (s₁.setTop (mkF m 69 #[.val (.long q0), .second, .val (.long q1), .second, .val (.long q2), .second, .val (.long q3), .second, .val (.long (9007199254740 : Int64)), .second, .val (.long x148), .second, .val (.long x153), .second, .val (.long x155), .second, .val (.long x157), .second, .unset, .unset, .unset, .unset, .unset, .unset] [])) _
    refine st159 _ ?_
    show Steps p.tables e below (T159.setTop (mkF m 72 #[.val (.long q0), .second, .val (.long q1), .second, .val (.long q2), .second, .val (.long q3), .second, .val (.long (9007199254740 : Int64)), .second, .val (.long x148), .second, .val (.long x153), .second, .val (.long x155), .second, .val (.long x157), .second, .unset, .unset, .unset, .unset, .unset, .unset] [(.ref b159)])) _
    refine XS.dup X159.here hx rfl (hb hby at_72) rfl rfl ?_
    show Steps p.tables e below (T159.setTop (mkF m 73 #[.val (.long q0), .second, .val (.long q1), .second, .val (.long q2), .second, .val (.long q3), .second, .val (.long (9007199254740 : Int64)), .second, .val (.long x148), .second, .val (.long x153), .second, .val (.long x155), .second, .val (.long x157), .second, .unset, .unset, .unset, .unset, .unset, .unset] [(.ref b159), (.ref b159)])) _
    refine XS.lload X159.here hx rfl (hb hby at_73) rfl ?_
    show Steps p.tables e below (T159.setTop (mkF m 75 #[.val (.long q0), .second, .val (.long q1), .second, .val (.long q2), .second, .val (.long q3), .second, .val (.long (9007199254740 : Int64)), .second, .val (.long x148), .second, .val (.long x153), .second, .val (.long x155), .second, .val (.long x157), .second, .unset, .unset, .unset, .unset, .unset, .unset] [(.long x148), (.ref b159), (.ref b159)])) _
    refine XS.lload X159.here hx rfl (hb hby at_75) rfl ?_
    show Steps p.tables e below (T159.setTop (mkF m 77 #[.val (.long q0), .second, .val (.long q1), .second, .val (.long q2), .second, .val (.long q3), .second, .val (.long (9007199254740 : Int64)), .second, .val (.long x148), .second, .val (.long x153), .second, .val (.long x155), .second, .val (.long x157), .second, .unset, .unset, .unset, .unset, .unset, .unset] [(.long x153), (.long x148), (.ref b159), (.ref b159)])) _
    refine XS.lload X159.here hx rfl (hb hby at_77) rfl ?_
    show Steps p.tables e below (T159.setTop (mkF m 79 #[.val (.long q0), .second, .val (.long q1), .second, .val (.long q2), .second, .val (.long q3), .second, .val (.long (9007199254740 : Int64)), .second, .val (.long x148), .second, .val (.long x153), .second, .val (.long x155), .second, .val (.long x157), .second, .unset, .unset, .unset, .unset, .unset, .unset] [(.long x157), (.long x153), (.long x148), (.ref b159), (.ref b159)])) _
    refine st166.trans ?_
    show Steps p.tables e below (T166.setTop (mkF m 82 #[.val (.long q0), .second, .val (.long q1), .second, .val (.long q2), .second, .val (.long q3), .second, .val (.long (9007199254740 : Int64)), .second, .val (.long x148), .second, .val (.long x153), .second, .val (.long x155), .second, .val (.long x157), .second, .unset, .unset, .unset, .unset, .unset, .unset] [(.ref b159)])) _
    refine XS.astore X166.here hx rfl (hb hby at_82) rfl rfl (l' := #[.val (.long q0), .second, .val (.long q1), .second, .val (.long q2), .second, .val (.long q3), .second, .val (.long (9007199254740 : Int64)), .second, .val (.long x148), .second, .val (.long x153), .second, .val (.long x155), .second, .val (.long x157), .second, .val (.ref b159), .unset, .unset, .unset, .unset, .unset]) rfl ?_
    show Steps p.tables e below (T166.setTop (mkF m 84 #[.val (.long q0), .second, .val (.long q1), .second, .val (.long q2), .second, .val (.long q3), .second, .val (.long (9007199254740 : Int64)), .second, .val (.long x148), .second, .val (.long x153), .second, .val (.long x155), .second, .val (.long x157), .second, .val (.ref b159), .unset, .unset, .unset, .unset, .unset] [])) _
    refine XS.aload X166.here hx rfl (hb hby at_84) rfl rfl ?_
    show Steps p.tables e below (T166.setTop (mkF m 86 #[.val (.long q0), .second, .val (.long q1), .second, .val (.long q2), .second, .val (.long q3), .second, .val (.long (9007199254740 : Int64)), .second, .val (.long x148), .second, .val (.long x153), .second, .val (.long x155), .second, .val (.long x157), .second, .val (.ref b159), .unset, .unset, .unset, .unset, .unset] [(.ref b159)])) _
    refine XS.lload X166.here hx rfl (hb hby at_86) rfl ?_
    show Steps p.tables e below (T166.setTop (mkF m 88 #[.val (.long q0), .second, .val (.long q1), .second, .val (.long q2), .second, .val (.long q3), .second, .val (.long (9007199254740 : Int64)), .second, .val (.long x148), .second, .val (.long x153), .second, .val (.long x155), .second, .val (.long x157), .second, .val (.ref b159), .unset, .unset, .unset, .unset, .unset] [(.long q3), (.ref b159)])) _
    refine st170.trans ?_
    show Steps p.tables e below (T170.setTop (mkF m 91 #[.val (.long q0), .second, .val (.long q1), .second, .val (.long q2), .second, .val (.long q3), .second, .val (.long (9007199254740 : Int64)), .second, .val (.long x148), .second, .val (.long x153), .second, .val (.long x155), .second, .val (.long x157), .second, .val (.ref b159), .unset, .unset, .unset, .unset, .unset] [(.int (if x153 < q3 then (1 : Int32) else (0 : Int32)))])) _
    refine XS.lload X170.here hx rfl (hb hby at_91) rfl ?_
    show Steps p.tables e below (T170.setTop (mkF m 93 #[.val (.long q0), .second, .val (.long q1), .second, .val (.long q2), .second, .val (.long q3), .second, .val (.long (9007199254740 : Int64)), .second, .val (.long x148), .second, .val (.long x153), .second, .val (.long x155), .second, .val (.long x157), .second, .val (.ref b159), .unset, .unset, .unset, .unset, .unset] [(.long q3), (.int (if x153 < q3 then (1 : Int32) else (0 : Int32)))])) _
    refine XS.lload X170.here hx rfl (hb hby at_93) rfl ?_
    show Steps p.tables e below (T170.setTop (mkF m 95 #[.val (.long q0), .second, .val (.long q1), .second, .val (.long q2), .second, .val (.long q3), .second, .val (.long (9007199254740 : Int64)), .second, .val (.long x148), .second, .val (.long x153), .second, .val (.long x155), .second, .val (.long x157), .second, .val (.ref b159), .unset, .unset, .unset, .unset, .unset] [(.long x153), (.long q3), (.int (if x153 < q3 then (1 : Int32) else (0 : Int32)))])) _
    refine XS.lcmp X170.here hx rfl (hb hby at_95) rfl ?_
    by_cases c171 : x153 < q3
    ·
      show Steps p.tables e below (T170.setTop (mkF m 96 #[.val (.long q0), .second, .val (.long q1), .second, .val (.long q2), .second, .val (.long q3), .second, .val (.long (9007199254740 : Int64)), .second, .val (.long x148), .second, .val (.long x153), .second, .val (.long x155), .second, .val (.long x157), .second, .val (.ref b159), .unset, .unset, .unset, .unset, .unset] [(.int (lcmpW q3 x153)), (.int (if x153 < q3 then (1 : Int32) else (0 : Int32)))])) _
      refine XS.ifNo X170.here hx rfl (hb hby at_96) rfl ((if0 _ _).trans (tlt ((lw_gt _ _).mpr c171)).2.2.2) ?_
      show Steps p.tables e below (T170.setTop (mkF m 99 #[.val (.long q0), .second, .val (.long q1), .second, .val (.long q2), .second, .val (.long q3), .second, .val (.long (9007199254740 : Int64)), .second, .val (.long x148), .second, .val (.long x153), .second, .val (.long x155), .second, .val (.long x157), .second, .val (.ref b159), .unset, .unset, .unset, .unset, .unset] [(.int (if x153 < q3 then (1 : Int32) else (0 : Int32)))])) _
      refine XS.iconst X170.here hx rfl (hb hby at_99) ?_
      show Steps p.tables e below (T170.setTop (mkF m 100 #[.val (.long q0), .second, .val (.long q1), .second, .val (.long q2), .second, .val (.long q3), .second, .val (.long (9007199254740 : Int64)), .second, .val (.long x148), .second, .val (.long x153), .second, .val (.long x155), .second, .val (.long x157), .second, .val (.ref b159), .unset, .unset, .unset, .unset, .unset] [(.int (1 : Int32)), (.int (if x153 < q3 then (1 : Int32) else (0 : Int32)))])) _
      refine XS.goto X170.here hx rfl (pc0 := 100) (pc' := 104) rfl (hb hby at_100) (by decide) (by decide) ?_
      rw [show x172 = (1 : Int32) from hx172.trans (by simp only [if_pos c171])] at k
      exact k
    ·
      show Steps p.tables e below (T170.setTop (mkF m 96 #[.val (.long q0), .second, .val (.long q1), .second, .val (.long q2), .second, .val (.long q3), .second, .val (.long (9007199254740 : Int64)), .second, .val (.long x148), .second, .val (.long x153), .second, .val (.long x155), .second, .val (.long x157), .second, .val (.ref b159), .unset, .unset, .unset, .unset, .unset] [(.int (lcmpW q3 x153)), (.int (if x153 < q3 then (1 : Int32) else (0 : Int32)))])) _
      refine XS.ifYes X170.here hx rfl (pc0 := 96) (pc' := 103) rfl (hb hby at_96) rfl ((if0 _ _).trans (flt (fun q => c171 ((lw_gt _ _).mp q))).2.2.2) (by decide) (by decide) ?_
      show Steps p.tables e below (T170.setTop (mkF m 103 #[.val (.long q0), .second, .val (.long q1), .second, .val (.long q2), .second, .val (.long q3), .second, .val (.long (9007199254740 : Int64)), .second, .val (.long x148), .second, .val (.long x153), .second, .val (.long x155), .second, .val (.long x157), .second, .val (.ref b159), .unset, .unset, .unset, .unset, .unset] [(.int (if x153 < q3 then (1 : Int32) else (0 : Int32)))])) _
      refine XS.iconst X170.here hx rfl (hb hby at_103) ?_
      rw [show x172 = (0 : Int32) from hx172.trans (by simp only [if_neg c171])] at k
      exact k
  have c174 : (if x153 < q3 then (1 : Int32) else (0 : Int32)) = x172 := by
    exact hx172.symm
  obtain ⟨cq175, kq175, q175a, q175b, q175c⟩ := isOf hZ166 e170 f167
  obtain ⟨_, _, ⟨T175, L175, k175, n175⟩, -, X175, ⟨Lc175, hQ175, l175, y175, z175⟩, st175⟩ := X170.virtualBack hx (y := (⟨"com/example/windo/windo/model/StormCount$Values", "isStorm", "(J)Z"⟩ : MethodName)) (z := (⟨"com/example/windo/windo/model/StormCount$Values", "isStorm", "(J)Z"⟩ : MethodName)) hown166 (mvT hZ166 (hw _ (List.mem_of_getElem? (i := 38) rfl))) (mvT hZ166 (hw _ (List.mem_of_getElem? (i := 39) rfl))) (notFace_of_selects (args := #[]) (mvT hZ166 (hw _ (List.mem_of_getElem? (i := 41) rfl)))) (mvT hZ166 (hw _ (List.mem_of_getElem? (i := 41) rfl))) (mvT hZ166 (hw _ (List.mem_of_getElem? (i := 40) rfl))) (by decide) (backOf (W := 0) (rm5 l Z aw hw [] b159 x153 x153 T166.heap n0 Z169 f168) hZ166 (hw _ (List.mem_of_getElem? (i := 42) rfl)) (hw _ (List.mem_of_getElem? (i := 6) rfl)) (by decide) (by decide)) q175a q175c (g := (mkF m 118 #[.val (.long q0), .second, .val (.long q1), .second, .val (.long q2), .second, .val (.long q3), .second, .val (.long (9007199254740 : Int64)), .second, .val (.long x148), .second, .val (.long x153), .second, .val (.long x155), .second, .val (.long x157), .second, .val (.ref b159), .val (.int (1 : Int32)), .unset, .unset, .unset, .unset] [(.long x153), (.ref b159)])) rfl (by rw [hml]; rfl) (Steps.refl _) (argsL := [(.long x153)]) (rest := []) (lenOf pd_3 rfl) rfl (by show 2 * 0 + _ ≤ _; exact Nat.le_of_eq rfl) (hb hby at_118) (fun _ _ => ⟨rfl, e170, (by decide : 3 + 0 ≤ _), (by decide : 55 + 0 ≤ _)⟩)
  dsimp only [Pt.U, Pt.locs, Pt.cells, Pt.slots] at X175 l175 y175 z175 st175 hQ175
  subst l175 y175 z175
  obtain ⟨rfl, N175q, e175⟩ := hQ175
  have N175 := Fr.app N170 N175q
  obtain ⟨x176, hx176⟩ : ∃ z : Int32, z = (if x153 < x153 then (1 : Int32) else (0 : Int32)) := ⟨_, rfl⟩
  have pre177 : ∀ t, Steps p.tables e below (T175.setTop (mkF m 121 #[.val (.long q0), .second, .val (.long q1), .second, .val (.long q2), .second, .val (.long q3), .second, .val (.long (9007199254740 : Int64)), .second, .val (.long x148), .second, .val (.long x153), .second, .val (.long x155), .second, .val (.long x157), .second, .val (.ref b159), .val (.int (1 : Int32)), .unset, .unset, .unset, .unset] [(.int x176)])) t → Steps p.tables e below (s₁.setTop (entryFrame m #[(.long q0), (.long q1), (.long q2), (.long q3)] maxLocals)) t := fun t k => by
    refine pre173 t ?_
    show Steps p.tables e below (T170.setTop (mkF m 104 #[.val (.long q0), .second, .val (.long q1), .second, .val (.long q2), .second, .val (.long q3), .second, .val (.long (9007199254740 : Int64)), .second, .val (.long x148), .second, .val (.long x153), .second, .val (.long x155), .second, .val (.long x157), .second, .val (.ref b159), .unset, .unset, .unset, .unset, .unset] [(.int x172), (.int (if x153 < q3 then (1 : Int32) else (0 : Int32)))])) _
    refine XS.icmpNo X170.here hx rfl (hb hby at_104) rfl (teq c174).2 ?_
    show Steps p.tables e below (T170.setTop (mkF m 107 #[.val (.long q0), .second, .val (.long q1), .second, .val (.long q2), .second, .val (.long q3), .second, .val (.long (9007199254740 : Int64)), .second, .val (.long x148), .second, .val (.long x153), .second, .val (.long x155), .second, .val (.long x157), .second, .val (.ref b159), .unset, .unset, .unset, .unset, .unset] [])) _
    refine XS.iconst X170.here hx rfl (hb hby at_107) ?_
    show Steps p.tables e below (T170.setTop (mkF m 108 #[.val (.long q0), .second, .val (.long q1), .second, .val (.long q2), .second, .val (.long q3), .second, .val (.long (9007199254740 : Int64)), .second, .val (.long x148), .second, .val (.long x153), .second, .val (.long x155), .second, .val (.long x157), .second, .val (.ref b159), .unset, .unset, .unset, .unset, .unset] [(.int (1 : Int32))])) _
    refine XS.goto X170.here hx rfl (pc0 := 108) (pc' := 112) rfl (hb hby at_108) (by decide) (by decide) ?_
    show Steps p.tables e below (T170.setTop (mkF m 112 #[.val (.long q0), .second, .val (.long q1), .second, .val (.long q2), .second, .val (.long q3), .second, .val (.long (9007199254740 : Int64)), .second, .val (.long x148), .second, .val (.long x153), .second, .val (.long x155), .second, .val (.long x157), .second, .val (.ref b159), .unset, .unset, .unset, .unset, .unset] [(.int (1 : Int32))])) _
    refine XS.istore X170.here hx rfl (hb hby at_112) rfl (l' := #[.val (.long q0), .second, .val (.long q1), .second, .val (.long q2), .second, .val (.long q3), .second, .val (.long (9007199254740 : Int64)), .second, .val (.long x148), .second, .val (.long x153), .second, .val (.long x155), .second, .val (.long x157), .second, .val (.ref b159), .val (.int (1 : Int32)), .unset, .unset, .unset, .unset]) rfl ?_
    show Steps p.tables e below (T170.setTop (mkF m 114 #[.val (.long q0), .second, .val (.long q1), .second, .val (.long q2), .second, .val (.long q3), .second, .val (.long (9007199254740 : Int64)), .second, .val (.long x148), .second, .val (.long x153), .second, .val (.long x155), .second, .val (.long x157), .second, .val (.ref b159), .val (.int (1 : Int32)), .unset, .unset, .unset, .unset] [])) _
    refine XS.aload X170.here hx rfl (hb hby at_114) rfl rfl ?_
    show Steps p.tables e below (T170.setTop (mkF m 116 #[.val (.long q0), .second, .val (.long q1), .second, .val (.long q2), .second, .val (.long q3), .second, .val (.long (9007199254740 : Int64)), .second, .val (.long x148), .second, .val (.long x153), .second, .val (.long x155), .second, .val (.long x157), .second, .val (.ref b159), .val (.int (1 : Int32)), .unset, .unset, .unset, .unset] [(.ref b159)])) _
    refine XS.lload X170.here hx rfl (hb hby at_116) rfl ?_
    show Steps p.tables e below (T170.setTop (mkF m 118 #[.val (.long q0), .second, .val (.long q1), .second, .val (.long q2), .second, .val (.long q3), .second, .val (.long (9007199254740 : Int64)), .second, .val (.long x148), .second, .val (.long x153), .second, .val (.long x155), .second, .val (.long x157), .second, .val (.ref b159), .val (.int (1 : Int32)), .unset, .unset, .unset, .unset] [(.long x153), (.ref b159)])) _
    refine st175.trans ?_
    subst hx176
    exact k
  obtain rfl : x176 = (0 : Int32) := by
    rw [hx176]; exact if_neg Int64.lt_irrefl
  obtain ⟨cq178, kq178, q178a, q178b, q178c⟩ := isOf hZ166 e175 f167
  obtain ⟨_, _, ⟨T178, L178, k178, n178⟩, -, X178, ⟨Lc178, hQ178, l178, y178, z178⟩, st178⟩ := X175.virtualBack hx (y := (⟨"com/example/windo/windo/model/StormCount$Values", "isStorm", "(J)Z"⟩ : MethodName)) (z := (⟨"com/example/windo/windo/model/StormCount$Values", "isStorm", "(J)Z"⟩ : MethodName)) hown166 (mvT hZ166 (hw _ (List.mem_of_getElem? (i := 38) rfl))) (mvT hZ166 (hw _ (List.mem_of_getElem? (i := 39) rfl))) (notFace_of_selects (args := #[]) (mvT hZ166 (hw _ (List.mem_of_getElem? (i := 41) rfl)))) (mvT hZ166 (hw _ (List.mem_of_getElem? (i := 41) rfl))) (mvT hZ166 (hw _ (List.mem_of_getElem? (i := 40) rfl))) (by decide) (backOf (W := 0) (rm5 l Z aw hw [] b159 (x153 - (1 : Int64)) x153 T166.heap n0 Z169 f168) hZ166 (hw _ (List.mem_of_getElem? (i := 42) rfl)) (hw _ (List.mem_of_getElem? (i := 6) rfl)) (by decide) (by decide)) q178a q178c (g := (mkF m 137 #[.val (.long q0), .second, .val (.long q1), .second, .val (.long q2), .second, .val (.long q3), .second, .val (.long (9007199254740 : Int64)), .second, .val (.long x148), .second, .val (.long x153), .second, .val (.long x155), .second, .val (.long x157), .second, .val (.ref b159), .val (.int (1 : Int32)), .val (.int (1 : Int32)), .unset, .unset, .unset] [(.long (x153 - (1 : Int64))), (.ref b159)])) rfl (by rw [hml]; rfl) (Steps.refl _) (argsL := [(.long (x153 - (1 : Int64)))]) (rest := []) (lenOf pd_3 rfl) rfl (by show 2 * 0 + _ ≤ _; exact Nat.le_of_eq rfl) (hb hby at_137) (fun _ _ => ⟨rfl, e175, (by decide : 3 + 0 ≤ _), (by decide : 55 + 0 ≤ _)⟩)
  dsimp only [Pt.U, Pt.locs, Pt.cells, Pt.slots] at X178 l178 y178 z178 st178 hQ178
  subst l178 y178 z178
  obtain ⟨rfl, N178q, e178⟩ := hQ178
  have N178 := Fr.app N175 N178q
  obtain ⟨x179, hx179⟩ : ∃ z : Int32, z = (if x153 < (x153 - (1 : Int64)) then (1 : Int32) else (0 : Int32)) := ⟨_, rfl⟩
  have pre180 : ∀ t, Steps p.tables e below (T178.setTop (mkF m 140 #[.val (.long q0), .second, .val (.long q1), .second, .val (.long q2), .second, .val (.long q3), .second, .val (.long (9007199254740 : Int64)), .second, .val (.long x148), .second, .val (.long x153), .second, .val (.long x155), .second, .val (.long x157), .second, .val (.ref b159), .val (.int (1 : Int32)), .val (.int (1 : Int32)), .unset, .unset, .unset] [(.int x179)])) t → Steps p.tables e below (s₁.setTop (entryFrame m #[(.long q0), (.long q1), (.long q2), (.long q3)] maxLocals)) t := fun t k => by
    refine pre177 t ?_
    show Steps p.tables e below (T175.setTop (mkF m 121 #[.val (.long q0), .second, .val (.long q1), .second, .val (.long q2), .second, .val (.long q3), .second, .val (.long (9007199254740 : Int64)), .second, .val (.long x148), .second, .val (.long x153), .second, .val (.long x155), .second, .val (.long x157), .second, .val (.ref b159), .val (.int (1 : Int32)), .unset, .unset, .unset, .unset] [(.int (0 : Int32))])) _
    refine XS.ifNo X175.here hx rfl (hb hby at_121) rfl ((if0 _ _).trans (teq rfl).2) ?_
    show Steps p.tables e below (T175.setTop (mkF m 124 #[.val (.long q0), .second, .val (.long q1), .second, .val (.long q2), .second, .val (.long q3), .second, .val (.long (9007199254740 : Int64)), .second, .val (.long x148), .second, .val (.long x153), .second, .val (.long x155), .second, .val (.long x157), .second, .val (.ref b159), .val (.int (1 : Int32)), .unset, .unset, .unset, .unset] [])) _
    refine XS.iconst X175.here hx rfl (hb hby at_124) ?_
    show Steps p.tables e below (T175.setTop (mkF m 125 #[.val (.long q0), .second, .val (.long q1), .second, .val (.long q2), .second, .val (.long q3), .second, .val (.long (9007199254740 : Int64)), .second, .val (.long x148), .second, .val (.long x153), .second, .val (.long x155), .second, .val (.long x157), .second, .val (.ref b159), .val (.int (1 : Int32)), .unset, .unset, .unset, .unset] [(.int (1 : Int32))])) _
    refine XS.goto X175.here hx rfl (pc0 := 125) (pc' := 129) rfl (hb hby at_125) (by decide) (by decide) ?_
    show Steps p.tables e below (T175.setTop (mkF m 129 #[.val (.long q0), .second, .val (.long q1), .second, .val (.long q2), .second, .val (.long q3), .second, .val (.long (9007199254740 : Int64)), .second, .val (.long x148), .second, .val (.long x153), .second, .val (.long x155), .second, .val (.long x157), .second, .val (.ref b159), .val (.int (1 : Int32)), .unset, .unset, .unset, .unset] [(.int (1 : Int32))])) _
    refine XS.istore X175.here hx rfl (hb hby at_129) rfl (l' := #[.val (.long q0), .second, .val (.long q1), .second, .val (.long q2), .second, .val (.long q3), .second, .val (.long (9007199254740 : Int64)), .second, .val (.long x148), .second, .val (.long x153), .second, .val (.long x155), .second, .val (.long x157), .second, .val (.ref b159), .val (.int (1 : Int32)), .val (.int (1 : Int32)), .unset, .unset, .unset]) rfl ?_
    show Steps p.tables e below (T175.setTop (mkF m 131 #[.val (.long q0), .second, .val (.long q1), .second, .val (.long q2), .second, .val (.long q3), .second, .val (.long (9007199254740 : Int64)), .second, .val (.long x148), .second, .val (.long x153), .second, .val (.long x155), .second, .val (.long x157), .second, .val (.ref b159), .val (.int (1 : Int32)), .val (.int (1 : Int32)), .unset, .unset, .unset] [])) _
    refine XS.aload X175.here hx rfl (hb hby at_131) rfl rfl ?_
    show Steps p.tables e below (T175.setTop (mkF m 133 #[.val (.long q0), .second, .val (.long q1), .second, .val (.long q2), .second, .val (.long q3), .second, .val (.long (9007199254740 : Int64)), .second, .val (.long x148), .second, .val (.long x153), .second, .val (.long x155), .second, .val (.long x157), .second, .val (.ref b159), .val (.int (1 : Int32)), .val (.int (1 : Int32)), .unset, .unset, .unset] [(.ref b159)])) _
    refine XS.lload X175.here hx rfl (hb hby at_133) rfl ?_
    show Steps p.tables e below (T175.setTop (mkF m 135 #[.val (.long q0), .second, .val (.long q1), .second, .val (.long q2), .second, .val (.long q3), .second, .val (.long (9007199254740 : Int64)), .second, .val (.long x148), .second, .val (.long x153), .second, .val (.long x155), .second, .val (.long x157), .second, .val (.ref b159), .val (.int (1 : Int32)), .val (.int (1 : Int32)), .unset, .unset, .unset] [(.long x153), (.ref b159)])) _
    refine XS.lconst X175.here hx rfl (hb hby at_135) ?_
    show Steps p.tables e below (T175.setTop (mkF m 136 #[.val (.long q0), .second, .val (.long q1), .second, .val (.long q2), .second, .val (.long q3), .second, .val (.long (9007199254740 : Int64)), .second, .val (.long x148), .second, .val (.long x153), .second, .val (.long x155), .second, .val (.long x157), .second, .val (.ref b159), .val (.int (1 : Int32)), .val (.int (1 : Int32)), .unset, .unset, .unset] [(.long (1 : Int64)), (.long x153), (.ref b159)])) _
    refine XS.lsub X175.here hx rfl (hb hby at_136) rfl ?_
    show Steps p.tables e below (T175.setTop (mkF m 137 #[.val (.long q0), .second, .val (.long q1), .second, .val (.long q2), .second, .val (.long q3), .second, .val (.long (9007199254740 : Int64)), .second, .val (.long x148), .second, .val (.long x153), .second, .val (.long x155), .second, .val (.long x157), .second, .val (.ref b159), .val (.int (1 : Int32)), .val (.int (1 : Int32)), .unset, .unset, .unset] [(.long (x153 - (1 : Int64))), (.ref b159)])) _
    refine st178.trans ?_
    subst hx179
    exact k
  obtain rfl : x179 = (0 : Int32) := by
    rw [hx179]; exact if_neg (own_pred (own_t hx153))
  have pre181 : ∀ t, Steps p.tables e below (T178.setTop (mkF m 156 #[.val (.long q0), .second, .val (.long q1), .second, .val (.long q2), .second, .val (.long q3), .second, .val (.long (9007199254740 : Int64)), .second, .val (.long x148), .second, .val (.long x153), .second, .val (.long x155), .second, .val (.long x157), .second, .val (.ref b159), .val (.int (1 : Int32)), .val (.int (1 : Int32)), .val (.int (1 : Int32)), .unset, .unset] [(.int (lcmpW x153 (9223372036854775807 : Int64)))])) t → Steps p.tables e below (s₁.setTop (entryFrame m #[(.long q0), (.long q1), (.long q2), (.long q3)] maxLocals)) t := fun t k => by
    refine pre180 t ?_
    show Steps p.tables e below (T178.setTop (mkF m 140 #[.val (.long q0), .second, .val (.long q1), .second, .val (.long q2), .second, .val (.long q3), .second, .val (.long (9007199254740 : Int64)), .second, .val (.long x148), .second, .val (.long x153), .second, .val (.long x155), .second, .val (.long x157), .second, .val (.ref b159), .val (.int (1 : Int32)), .val (.int (1 : Int32)), .unset, .unset, .unset] [(.int (0 : Int32))])) _
    refine XS.ifNo X178.here hx rfl (hb hby at_140) rfl ((if0 _ _).trans (teq rfl).2) ?_
    show Steps p.tables e below (T178.setTop (mkF m 143 #[.val (.long q0), .second, .val (.long q1), .second, .val (.long q2), .second, .val (.long q3), .second, .val (.long (9007199254740 : Int64)), .second, .val (.long x148), .second, .val (.long x153), .second, .val (.long x155), .second, .val (.long x157), .second, .val (.ref b159), .val (.int (1 : Int32)), .val (.int (1 : Int32)), .unset, .unset, .unset] [])) _
    refine XS.iconst X178.here hx rfl (hb hby at_143) ?_
    show Steps p.tables e below (T178.setTop (mkF m 144 #[.val (.long q0), .second, .val (.long q1), .second, .val (.long q2), .second, .val (.long q3), .second, .val (.long (9007199254740 : Int64)), .second, .val (.long x148), .second, .val (.long x153), .second, .val (.long x155), .second, .val (.long x157), .second, .val (.ref b159), .val (.int (1 : Int32)), .val (.int (1 : Int32)), .unset, .unset, .unset] [(.int (1 : Int32))])) _
    refine XS.goto X178.here hx rfl (pc0 := 144) (pc' := 148) rfl (hb hby at_144) (by decide) (by decide) ?_
    show Steps p.tables e below (T178.setTop (mkF m 148 #[.val (.long q0), .second, .val (.long q1), .second, .val (.long q2), .second, .val (.long q3), .second, .val (.long (9007199254740 : Int64)), .second, .val (.long x148), .second, .val (.long x153), .second, .val (.long x155), .second, .val (.long x157), .second, .val (.ref b159), .val (.int (1 : Int32)), .val (.int (1 : Int32)), .unset, .unset, .unset] [(.int (1 : Int32))])) _
    refine XS.istore X178.here hx rfl (hb hby at_148) rfl (l' := #[.val (.long q0), .second, .val (.long q1), .second, .val (.long q2), .second, .val (.long q3), .second, .val (.long (9007199254740 : Int64)), .second, .val (.long x148), .second, .val (.long x153), .second, .val (.long x155), .second, .val (.long x157), .second, .val (.ref b159), .val (.int (1 : Int32)), .val (.int (1 : Int32)), .val (.int (1 : Int32)), .unset, .unset]) rfl ?_
    show Steps p.tables e below (T178.setTop (mkF m 150 #[.val (.long q0), .second, .val (.long q1), .second, .val (.long q2), .second, .val (.long q3), .second, .val (.long (9007199254740 : Int64)), .second, .val (.long x148), .second, .val (.long x153), .second, .val (.long x155), .second, .val (.long x157), .second, .val (.ref b159), .val (.int (1 : Int32)), .val (.int (1 : Int32)), .val (.int (1 : Int32)), .unset, .unset] [])) _
    refine XS.lload X178.here hx rfl (hb hby at_150) rfl ?_
    show Steps p.tables e below (T178.setTop (mkF m 152 #[.val (.long q0), .second, .val (.long q1), .second, .val (.long q2), .second, .val (.long q3), .second, .val (.long (9007199254740 : Int64)), .second, .val (.long x148), .second, .val (.long x153), .second, .val (.long x155), .second, .val (.long x157), .second, .val (.ref b159), .val (.int (1 : Int32)), .val (.int (1 : Int32)), .val (.int (1 : Int32)), .unset, .unset] [(.long x153)])) _
    refine X178.ldc2Long hx hown166 (mvT hZ166 (hw _ (List.mem_of_getElem? (i := 1) rfl))) (g := (mkF m 152 #[.val (.long q0), .second, .val (.long q1), .second, .val (.long q2), .second, .val (.long q3), .second, .val (.long (9007199254740 : Int64)), .second, .val (.long x148), .second, .val (.long x153), .second, .val (.long x155), .second, .val (.long x157), .second, .val (.ref b159), .val (.int (1 : Int32)), .val (.int (1 : Int32)), .val (.int (1 : Int32)), .unset, .unset] [(.long x153)])) rfl (hb hby at_152) _ ?_
    show Steps p.tables e below (T178.setTop (mkF m 155 #[.val (.long q0), .second, .val (.long q1), .second, .val (.long q2), .second, .val (.long q3), .second, .val (.long (9007199254740 : Int64)), .second, .val (.long x148), .second, .val (.long x153), .second, .val (.long x155), .second, .val (.long x157), .second, .val (.ref b159), .val (.int (1 : Int32)), .val (.int (1 : Int32)), .val (.int (1 : Int32)), .unset, .unset] [(.long (9223372036854775807 : Int64)), (.long x153)])) _
    refine XS.lcmp X178.here hx rfl (hb hby at_155) rfl ?_
    exact k
  by_cases c182 : x153 = (9223372036854775807 : Int64)
  ·
    obtain ⟨cq183, kq183, q183a, q183b, q183c⟩ := isOf hZ166 e178 f167
    obtain ⟨_, _, ⟨T183, L183, k183, n183⟩, -, X183, ⟨Lc183, hQ183, l183, y183, z183⟩, st183⟩ := X178.virtualBack hx (y := (⟨"com/example/windo/windo/model/StormCount$Values", "isStorm", "(J)Z"⟩ : MethodName)) (z := (⟨"com/example/windo/windo/model/StormCount$Values", "isStorm", "(J)Z"⟩ : MethodName)) hown166 (mvT hZ166 (hw _ (List.mem_of_getElem? (i := 38) rfl))) (mvT hZ166 (hw _ (List.mem_of_getElem? (i := 39) rfl))) (notFace_of_selects (args := #[]) (mvT hZ166 (hw _ (List.mem_of_getElem? (i := 41) rfl)))) (mvT hZ166 (hw _ (List.mem_of_getElem? (i := 41) rfl))) (mvT hZ166 (hw _ (List.mem_of_getElem? (i := 40) rfl))) (by decide) (backOf (W := 0) (rm5 l Z aw hw [] b159 (-9223372036854775808 : Int64) x153 T166.heap n0 Z169 f168) hZ166 (hw _ (List.mem_of_getElem? (i := 42) rfl)) (hw _ (List.mem_of_getElem? (i := 6) rfl)) (by decide) (by decide)) q183a q183c (g := (mkF m 183 #[.val (.long q0), .second, .val (.long q1), .second, .val (.long q2), .second, .val (.long q3), .second, .val (.long (9007199254740 : Int64)), .second, .val (.long x148), .second, .val (.long x153), .second, .val (.long x155), .second, .val (.long x157), .second, .val (.ref b159), .val (.int (1 : Int32)), .val (.int (1 : Int32)), .val (.int (1 : Int32)), .val (.int (1 : Int32)), .unset] [(.long (-9223372036854775808 : Int64)), (.ref b159)])) rfl (by rw [hml]; rfl) (Steps.refl _) (argsL := [(.long (-9223372036854775808 : Int64))]) (rest := []) (lenOf pd_3 rfl) rfl (by show 2 * 0 + _ ≤ _; exact Nat.le_of_eq rfl) (hb hby at_183) (fun _ _ => ⟨rfl, e178, (by decide : 3 + 0 ≤ _), (by decide : 55 + 0 ≤ _)⟩)
    dsimp only [Pt.U, Pt.locs, Pt.cells, Pt.slots] at X183 l183 y183 z183 st183 hQ183
    subst l183 y183 z183
    obtain ⟨rfl, N183q, e183⟩ := hQ183
    have N183 := Fr.app N178 N183q
    obtain ⟨x184, hx184⟩ : ∃ z : Int32, z = (if x153 < (-9223372036854775808 : Int64) then (1 : Int32) else (0 : Int32)) := ⟨_, rfl⟩
    have pre185 : ∀ t, Steps p.tables e below (T183.setTop (mkF m 186 #[.val (.long q0), .second, .val (.long q1), .second, .val (.long q2), .second, .val (.long q3), .second, .val (.long (9007199254740 : Int64)), .second, .val (.long x148), .second, .val (.long x153), .second, .val (.long x155), .second, .val (.long x157), .second, .val (.ref b159), .val (.int (1 : Int32)), .val (.int (1 : Int32)), .val (.int (1 : Int32)), .val (.int (1 : Int32)), .unset] [(.int x184)])) t → Steps p.tables e below (s₁.setTop (entryFrame m #[(.long q0), (.long q1), (.long q2), (.long q3)] maxLocals)) t := fun t k => by
      refine pre181 t ?_
      show Steps p.tables e below (T178.setTop (mkF m 156 #[.val (.long q0), .second, .val (.long q1), .second, .val (.long q2), .second, .val (.long q3), .second, .val (.long (9007199254740 : Int64)), .second, .val (.long x148), .second, .val (.long x153), .second, .val (.long x155), .second, .val (.long x157), .second, .val (.ref b159), .val (.int (1 : Int32)), .val (.int (1 : Int32)), .val (.int (1 : Int32)), .unset, .unset] [(.int (lcmpW x153 (9223372036854775807 : Int64)))])) _
      refine XS.ifYes X178.here hx rfl (pc0 := 156) (pc' := 171) rfl (hb hby at_156) rfl ((if0 _ _).trans (teq ((lw_eq _ _).mpr c182)).1) (by decide) (by decide) ?_
      show Steps p.tables e below (T178.setTop (mkF m 171 #[.val (.long q0), .second, .val (.long q1), .second, .val (.long q2), .second, .val (.long q3), .second, .val (.long (9007199254740 : Int64)), .second, .val (.long x148), .second, .val (.long x153), .second, .val (.long x155), .second, .val (.long x157), .second, .val (.ref b159), .val (.int (1 : Int32)), .val (.int (1 : Int32)), .val (.int (1 : Int32)), .unset, .unset] [])) _
      refine XS.iconst X178.here hx rfl (hb hby at_171) ?_
      show Steps p.tables e below (T178.setTop (mkF m 172 #[.val (.long q0), .second, .val (.long q1), .second, .val (.long q2), .second, .val (.long q3), .second, .val (.long (9007199254740 : Int64)), .second, .val (.long x148), .second, .val (.long x153), .second, .val (.long x155), .second, .val (.long x157), .second, .val (.ref b159), .val (.int (1 : Int32)), .val (.int (1 : Int32)), .val (.int (1 : Int32)), .unset, .unset] [(.int (1 : Int32))])) _
      refine XS.goto X178.here hx rfl (pc0 := 172) (pc' := 176) rfl (hb hby at_172) (by decide) (by decide) ?_
      show Steps p.tables e below (T178.setTop (mkF m 176 #[.val (.long q0), .second, .val (.long q1), .second, .val (.long q2), .second, .val (.long q3), .second, .val (.long (9007199254740 : Int64)), .second, .val (.long x148), .second, .val (.long x153), .second, .val (.long x155), .second, .val (.long x157), .second, .val (.ref b159), .val (.int (1 : Int32)), .val (.int (1 : Int32)), .val (.int (1 : Int32)), .unset, .unset] [(.int (1 : Int32))])) _
      refine XS.istore X178.here hx rfl (hb hby at_176) rfl (l' := #[.val (.long q0), .second, .val (.long q1), .second, .val (.long q2), .second, .val (.long q3), .second, .val (.long (9007199254740 : Int64)), .second, .val (.long x148), .second, .val (.long x153), .second, .val (.long x155), .second, .val (.long x157), .second, .val (.ref b159), .val (.int (1 : Int32)), .val (.int (1 : Int32)), .val (.int (1 : Int32)), .val (.int (1 : Int32)), .unset]) rfl ?_
      show Steps p.tables e below (T178.setTop (mkF m 178 #[.val (.long q0), .second, .val (.long q1), .second, .val (.long q2), .second, .val (.long q3), .second, .val (.long (9007199254740 : Int64)), .second, .val (.long x148), .second, .val (.long x153), .second, .val (.long x155), .second, .val (.long x157), .second, .val (.ref b159), .val (.int (1 : Int32)), .val (.int (1 : Int32)), .val (.int (1 : Int32)), .val (.int (1 : Int32)), .unset] [])) _
      refine XS.aload X178.here hx rfl (hb hby at_178) rfl rfl ?_
      show Steps p.tables e below (T178.setTop (mkF m 180 #[.val (.long q0), .second, .val (.long q1), .second, .val (.long q2), .second, .val (.long q3), .second, .val (.long (9007199254740 : Int64)), .second, .val (.long x148), .second, .val (.long x153), .second, .val (.long x155), .second, .val (.long x157), .second, .val (.ref b159), .val (.int (1 : Int32)), .val (.int (1 : Int32)), .val (.int (1 : Int32)), .val (.int (1 : Int32)), .unset] [(.ref b159)])) _
      refine X178.ldc2Long hx hown166 (mvT hZ166 (hw _ (List.mem_of_getElem? (i := 43) rfl))) (g := (mkF m 180 #[.val (.long q0), .second, .val (.long q1), .second, .val (.long q2), .second, .val (.long q3), .second, .val (.long (9007199254740 : Int64)), .second, .val (.long x148), .second, .val (.long x153), .second, .val (.long x155), .second, .val (.long x157), .second, .val (.ref b159), .val (.int (1 : Int32)), .val (.int (1 : Int32)), .val (.int (1 : Int32)), .val (.int (1 : Int32)), .unset] [(.ref b159)])) rfl (hb hby at_180) _ ?_
      show Steps p.tables e below (T178.setTop (mkF m 183 #[.val (.long q0), .second, .val (.long q1), .second, .val (.long q2), .second, .val (.long q3), .second, .val (.long (9007199254740 : Int64)), .second, .val (.long x148), .second, .val (.long x153), .second, .val (.long x155), .second, .val (.long x157), .second, .val (.ref b159), .val (.int (1 : Int32)), .val (.int (1 : Int32)), .val (.int (1 : Int32)), .val (.int (1 : Int32)), .unset] [(.long (-9223372036854775808 : Int64)), (.ref b159)])) _
      refine st183.trans ?_
      subst hx184
      exact k
    obtain rfl : x184 = (0 : Int32) := by
      rw [hx184]; exact if_neg own_min
    obtain ⟨fs, hr, hrun, hended, hEW⟩ := Stand.leaveW X183 hS166 (by rw [e183]; exact hk166) (v := some (.int (1 : Int32))) (fun h => by rw [Bd.returns] at h; cases h)
    refine ⟨_, _, pre185 _ ?_, hrun, hended, _, _, rfl, ?_, hEW.1, hEW.2.1, hEW.2.2.1, hEW.2.2.2.mono (by decide) (by decide)⟩
    ·
      show Steps p.tables e below (T183.setTop (mkF m 186 #[.val (.long q0), .second, .val (.long q1), .second, .val (.long q2), .second, .val (.long q3), .second, .val (.long (9007199254740 : Int64)), .second, .val (.long x148), .second, .val (.long x153), .second, .val (.long x155), .second, .val (.long x157), .second, .val (.ref b159), .val (.int (1 : Int32)), .val (.int (1 : Int32)), .val (.int (1 : Int32)), .val (.int (1 : Int32)), .unset] [(.int (0 : Int32))])) _
      refine XS.ifNo X183.here hx rfl (hb hby at_186) rfl ((if0 _ _).trans (teq rfl).2) ?_
      show Steps p.tables e below (T183.setTop (mkF m 189 #[.val (.long q0), .second, .val (.long q1), .second, .val (.long q2), .second, .val (.long q3), .second, .val (.long (9007199254740 : Int64)), .second, .val (.long x148), .second, .val (.long x153), .second, .val (.long x155), .second, .val (.long x157), .second, .val (.ref b159), .val (.int (1 : Int32)), .val (.int (1 : Int32)), .val (.int (1 : Int32)), .val (.int (1 : Int32)), .unset] [])) _
      refine XS.iconst X183.here hx rfl (hb hby at_189) ?_
      show Steps p.tables e below (T183.setTop (mkF m 190 #[.val (.long q0), .second, .val (.long q1), .second, .val (.long q2), .second, .val (.long q3), .second, .val (.long (9007199254740 : Int64)), .second, .val (.long x148), .second, .val (.long x153), .second, .val (.long x155), .second, .val (.long x157), .second, .val (.ref b159), .val (.int (1 : Int32)), .val (.int (1 : Int32)), .val (.int (1 : Int32)), .val (.int (1 : Int32)), .unset] [(.int (1 : Int32))])) _
      refine XS.goto X183.here hx rfl (pc0 := 190) (pc' := 194) rfl (hb hby at_190) (by decide) (by decide) ?_
      show Steps p.tables e below (T183.setTop (mkF m 194 #[.val (.long q0), .second, .val (.long q1), .second, .val (.long q2), .second, .val (.long q3), .second, .val (.long (9007199254740 : Int64)), .second, .val (.long x148), .second, .val (.long x153), .second, .val (.long x155), .second, .val (.long x157), .second, .val (.ref b159), .val (.int (1 : Int32)), .val (.int (1 : Int32)), .val (.int (1 : Int32)), .val (.int (1 : Int32)), .unset] [(.int (1 : Int32))])) _
      refine XS.istore X183.here hx rfl (hb hby at_194) rfl (l' := #[.val (.long q0), .second, .val (.long q1), .second, .val (.long q2), .second, .val (.long q3), .second, .val (.long (9007199254740 : Int64)), .second, .val (.long x148), .second, .val (.long x153), .second, .val (.long x155), .second, .val (.long x157), .second, .val (.ref b159), .val (.int (1 : Int32)), .val (.int (1 : Int32)), .val (.int (1 : Int32)), .val (.int (1 : Int32)), .val (.int (1 : Int32))]) rfl ?_
      show Steps p.tables e below (T183.setTop (mkF m 196 #[.val (.long q0), .second, .val (.long q1), .second, .val (.long q2), .second, .val (.long q3), .second, .val (.long (9007199254740 : Int64)), .second, .val (.long x148), .second, .val (.long x153), .second, .val (.long x155), .second, .val (.long x157), .second, .val (.ref b159), .val (.int (1 : Int32)), .val (.int (1 : Int32)), .val (.int (1 : Int32)), .val (.int (1 : Int32)), .val (.int (1 : Int32))] [])) _
      refine XS.iload X183.here hx rfl (hb hby at_196) rfl ?_
      show Steps p.tables e below (T183.setTop (mkF m 198 #[.val (.long q0), .second, .val (.long q1), .second, .val (.long q2), .second, .val (.long q3), .second, .val (.long (9007199254740 : Int64)), .second, .val (.long x148), .second, .val (.long x153), .second, .val (.long x155), .second, .val (.long x157), .second, .val (.ref b159), .val (.int (1 : Int32)), .val (.int (1 : Int32)), .val (.int (1 : Int32)), .val (.int (1 : Int32)), .val (.int (1 : Int32))] [(.int (1 : Int32))])) _
      refine XS.ifNo X183.here hx rfl (hb hby at_198) rfl ((if0 _ _).trans (feq (by decide)).1) ?_
      show Steps p.tables e below (T183.setTop (mkF m 201 #[.val (.long q0), .second, .val (.long q1), .second, .val (.long q2), .second, .val (.long q3), .second, .val (.long (9007199254740 : Int64)), .second, .val (.long x148), .second, .val (.long x153), .second, .val (.long x155), .second, .val (.long x157), .second, .val (.ref b159), .val (.int (1 : Int32)), .val (.int (1 : Int32)), .val (.int (1 : Int32)), .val (.int (1 : Int32)), .val (.int (1 : Int32))] [])) _
      refine XS.iload X183.here hx rfl (hb hby at_201) rfl ?_
      show Steps p.tables e below (T183.setTop (mkF m 203 #[.val (.long q0), .second, .val (.long q1), .second, .val (.long q2), .second, .val (.long q3), .second, .val (.long (9007199254740 : Int64)), .second, .val (.long x148), .second, .val (.long x153), .second, .val (.long x155), .second, .val (.long x157), .second, .val (.ref b159), .val (.int (1 : Int32)), .val (.int (1 : Int32)), .val (.int (1 : Int32)), .val (.int (1 : Int32)), .val (.int (1 : Int32))] [(.int (1 : Int32))])) _
      refine XS.ifNo X183.here hx rfl (hb hby at_203) rfl ((if0 _ _).trans (feq (by decide)).1) ?_
      show Steps p.tables e below (T183.setTop (mkF m 206 #[.val (.long q0), .second, .val (.long q1), .second, .val (.long q2), .second, .val (.long q3), .second, .val (.long (9007199254740 : Int64)), .second, .val (.long x148), .second, .val (.long x153), .second, .val (.long x155), .second, .val (.long x157), .second, .val (.ref b159), .val (.int (1 : Int32)), .val (.int (1 : Int32)), .val (.int (1 : Int32)), .val (.int (1 : Int32)), .val (.int (1 : Int32))] [])) _
      refine XS.iload X183.here hx rfl (hb hby at_206) rfl ?_
      show Steps p.tables e below (T183.setTop (mkF m 208 #[.val (.long q0), .second, .val (.long q1), .second, .val (.long q2), .second, .val (.long q3), .second, .val (.long (9007199254740 : Int64)), .second, .val (.long x148), .second, .val (.long x153), .second, .val (.long x155), .second, .val (.long x157), .second, .val (.ref b159), .val (.int (1 : Int32)), .val (.int (1 : Int32)), .val (.int (1 : Int32)), .val (.int (1 : Int32)), .val (.int (1 : Int32))] [(.int (1 : Int32))])) _
      refine XS.ifNo X183.here hx rfl (hb hby at_208) rfl ((if0 _ _).trans (feq (by decide)).1) ?_
      show Steps p.tables e below (T183.setTop (mkF m 211 #[.val (.long q0), .second, .val (.long q1), .second, .val (.long q2), .second, .val (.long q3), .second, .val (.long (9007199254740 : Int64)), .second, .val (.long x148), .second, .val (.long x153), .second, .val (.long x155), .second, .val (.long x157), .second, .val (.ref b159), .val (.int (1 : Int32)), .val (.int (1 : Int32)), .val (.int (1 : Int32)), .val (.int (1 : Int32)), .val (.int (1 : Int32))] [])) _
      refine XS.iload X183.here hx rfl (hb hby at_211) rfl ?_
      show Steps p.tables e below (T183.setTop (mkF m 213 #[.val (.long q0), .second, .val (.long q1), .second, .val (.long q2), .second, .val (.long q3), .second, .val (.long (9007199254740 : Int64)), .second, .val (.long x148), .second, .val (.long x153), .second, .val (.long x155), .second, .val (.long x157), .second, .val (.ref b159), .val (.int (1 : Int32)), .val (.int (1 : Int32)), .val (.int (1 : Int32)), .val (.int (1 : Int32)), .val (.int (1 : Int32))] [(.int (1 : Int32))])) _
      refine XS.ifNo X183.here hx rfl (hb hby at_213) rfl ((if0 _ _).trans (feq (by decide)).1) ?_
      show Steps p.tables e below (T183.setTop (mkF m 216 #[.val (.long q0), .second, .val (.long q1), .second, .val (.long q2), .second, .val (.long q3), .second, .val (.long (9007199254740 : Int64)), .second, .val (.long x148), .second, .val (.long x153), .second, .val (.long x155), .second, .val (.long x157), .second, .val (.ref b159), .val (.int (1 : Int32)), .val (.int (1 : Int32)), .val (.int (1 : Int32)), .val (.int (1 : Int32)), .val (.int (1 : Int32))] [])) _
      refine XS.iload X183.here hx rfl (hb hby at_216) rfl ?_
      show Steps p.tables e below (T183.setTop (mkF m 218 #[.val (.long q0), .second, .val (.long q1), .second, .val (.long q2), .second, .val (.long q3), .second, .val (.long (9007199254740 : Int64)), .second, .val (.long x148), .second, .val (.long x153), .second, .val (.long x155), .second, .val (.long x157), .second, .val (.ref b159), .val (.int (1 : Int32)), .val (.int (1 : Int32)), .val (.int (1 : Int32)), .val (.int (1 : Int32)), .val (.int (1 : Int32))] [(.int (1 : Int32))])) _
      refine XS.ifNo X183.here hx rfl (hb hby at_218) rfl ((if0 _ _).trans (feq (by decide)).1) ?_
      show Steps p.tables e below (T183.setTop (mkF m 221 #[.val (.long q0), .second, .val (.long q1), .second, .val (.long q2), .second, .val (.long q3), .second, .val (.long (9007199254740 : Int64)), .second, .val (.long x148), .second, .val (.long x153), .second, .val (.long x155), .second, .val (.long x157), .second, .val (.ref b159), .val (.int (1 : Int32)), .val (.int (1 : Int32)), .val (.int (1 : Int32)), .val (.int (1 : Int32)), .val (.int (1 : Int32))] [])) _
      refine XS.iconst X183.here hx rfl (hb hby at_221) ?_
      show Steps p.tables e below (T183.setTop (mkF m 222 #[.val (.long q0), .second, .val (.long q1), .second, .val (.long q2), .second, .val (.long q3), .second, .val (.long (9007199254740 : Int64)), .second, .val (.long x148), .second, .val (.long x153), .second, .val (.long x155), .second, .val (.long x157), .second, .val (.ref b159), .val (.int (1 : Int32)), .val (.int (1 : Int32)), .val (.int (1 : Int32)), .val (.int (1 : Int32)), .val (.int (1 : Int32))] [(.int (1 : Int32))])) _
      refine XS.goto X183.here hx rfl (pc0 := 222) (pc' := 226) rfl (hb hby at_222) (by decide) (by decide) ?_
      show Steps p.tables e below (T183.setTop (mkF m 226 #[.val (.long q0), .second, .val (.long q1), .second, .val (.long q2), .second, .val (.long q3), .second, .val (.long (9007199254740 : Int64)), .second, .val (.long x148), .second, .val (.long x153), .second, .val (.long x155), .second, .val (.long x157), .second, .val (.ref b159), .val (.int (1 : Int32)), .val (.int (1 : Int32)), .val (.int (1 : Int32)), .val (.int (1 : Int32)), .val (.int (1 : Int32))] [(.int (1 : Int32))])) _
      exact retZ X183 hx Bd.returns (by decide) (hb hby at_226) hr
    ·
      show Q_rm0 Z q0 q1 q2 q3 h0 n0 _ T183.heap _
      rw [e183]
      exact ⟨rfl, N183⟩
  ·
    obtain ⟨cq186, kq186, q186a, q186b, q186c⟩ := isOf hZ166 e178 f167
    obtain ⟨_, _, ⟨T186, L186, k186, n186⟩, -, X186, ⟨Lc186, hQ186, l186, y186, z186⟩, st186⟩ := X178.virtualBack hx (y := (⟨"com/example/windo/windo/model/StormCount$Values", "isStorm", "(J)Z"⟩ : MethodName)) (z := (⟨"com/example/windo/windo/model/StormCount$Values", "isStorm", "(J)Z"⟩ : MethodName)) hown166 (mvT hZ166 (hw _ (List.mem_of_getElem? (i := 38) rfl))) (mvT hZ166 (hw _ (List.mem_of_getElem? (i := 39) rfl))) (notFace_of_selects (args := #[]) (mvT hZ166 (hw _ (List.mem_of_getElem? (i := 41) rfl)))) (mvT hZ166 (hw _ (List.mem_of_getElem? (i := 41) rfl))) (mvT hZ166 (hw _ (List.mem_of_getElem? (i := 40) rfl))) (by decide) (backOf (W := 0) (rm5 l Z aw hw [] b159 (x153 + (1 : Int64)) x153 T166.heap n0 Z169 f168) hZ166 (hw _ (List.mem_of_getElem? (i := 42) rfl)) (hw _ (List.mem_of_getElem? (i := 6) rfl)) (by decide) (by decide)) q186a q186c (g := (mkF m 165 #[.val (.long q0), .second, .val (.long q1), .second, .val (.long q2), .second, .val (.long q3), .second, .val (.long (9007199254740 : Int64)), .second, .val (.long x148), .second, .val (.long x153), .second, .val (.long x155), .second, .val (.long x157), .second, .val (.ref b159), .val (.int (1 : Int32)), .val (.int (1 : Int32)), .val (.int (1 : Int32)), .unset, .unset] [(.long (x153 + (1 : Int64))), (.ref b159)])) rfl (by rw [hml]; rfl) (Steps.refl _) (argsL := [(.long (x153 + (1 : Int64)))]) (rest := []) (lenOf pd_3 rfl) rfl (by show 2 * 0 + _ ≤ _; exact Nat.le_of_eq rfl) (hb hby at_165) (fun _ _ => ⟨rfl, e178, (by decide : 3 + 0 ≤ _), (by decide : 55 + 0 ≤ _)⟩)
    dsimp only [Pt.U, Pt.locs, Pt.cells, Pt.slots] at X186 l186 y186 z186 st186 hQ186
    subst l186 y186 z186
    obtain ⟨rfl, N186q, e186⟩ := hQ186
    have N186 := Fr.app N178 N186q
    obtain ⟨x187, hx187⟩ : ∃ z : Int32, z = (if x153 < (x153 + (1 : Int64)) then (1 : Int32) else (0 : Int32)) := ⟨_, rfl⟩
    have pre188 : ∀ t, Steps p.tables e below (T186.setTop (mkF m 168 #[.val (.long q0), .second, .val (.long q1), .second, .val (.long q2), .second, .val (.long q3), .second, .val (.long (9007199254740 : Int64)), .second, .val (.long x148), .second, .val (.long x153), .second, .val (.long x155), .second, .val (.long x157), .second, .val (.ref b159), .val (.int (1 : Int32)), .val (.int (1 : Int32)), .val (.int (1 : Int32)), .unset, .unset] [(.int x187)])) t → Steps p.tables e below (s₁.setTop (entryFrame m #[(.long q0), (.long q1), (.long q2), (.long q3)] maxLocals)) t := fun t k => by
      refine pre181 t ?_
      show Steps p.tables e below (T178.setTop (mkF m 156 #[.val (.long q0), .second, .val (.long q1), .second, .val (.long q2), .second, .val (.long q3), .second, .val (.long (9007199254740 : Int64)), .second, .val (.long x148), .second, .val (.long x153), .second, .val (.long x155), .second, .val (.long x157), .second, .val (.ref b159), .val (.int (1 : Int32)), .val (.int (1 : Int32)), .val (.int (1 : Int32)), .unset, .unset] [(.int (lcmpW x153 (9223372036854775807 : Int64)))])) _
      refine XS.ifNo X178.here hx rfl (hb hby at_156) rfl ((if0 _ _).trans (feq (fun q => c182 ((lw_eq _ _).mp q))).1) ?_
      show Steps p.tables e below (T178.setTop (mkF m 159 #[.val (.long q0), .second, .val (.long q1), .second, .val (.long q2), .second, .val (.long q3), .second, .val (.long (9007199254740 : Int64)), .second, .val (.long x148), .second, .val (.long x153), .second, .val (.long x155), .second, .val (.long x157), .second, .val (.ref b159), .val (.int (1 : Int32)), .val (.int (1 : Int32)), .val (.int (1 : Int32)), .unset, .unset] [])) _
      refine XS.aload X178.here hx rfl (hb hby at_159) rfl rfl ?_
      show Steps p.tables e below (T178.setTop (mkF m 161 #[.val (.long q0), .second, .val (.long q1), .second, .val (.long q2), .second, .val (.long q3), .second, .val (.long (9007199254740 : Int64)), .second, .val (.long x148), .second, .val (.long x153), .second, .val (.long x155), .second, .val (.long x157), .second, .val (.ref b159), .val (.int (1 : Int32)), .val (.int (1 : Int32)), .val (.int (1 : Int32)), .unset, .unset] [(.ref b159)])) _
      refine XS.lload X178.here hx rfl (hb hby at_161) rfl ?_
      show Steps p.tables e below (T178.setTop (mkF m 163 #[.val (.long q0), .second, .val (.long q1), .second, .val (.long q2), .second, .val (.long q3), .second, .val (.long (9007199254740 : Int64)), .second, .val (.long x148), .second, .val (.long x153), .second, .val (.long x155), .second, .val (.long x157), .second, .val (.ref b159), .val (.int (1 : Int32)), .val (.int (1 : Int32)), .val (.int (1 : Int32)), .unset, .unset] [(.long x153), (.ref b159)])) _
      refine XS.lconst X178.here hx rfl (hb hby at_163) ?_
      show Steps p.tables e below (T178.setTop (mkF m 164 #[.val (.long q0), .second, .val (.long q1), .second, .val (.long q2), .second, .val (.long q3), .second, .val (.long (9007199254740 : Int64)), .second, .val (.long x148), .second, .val (.long x153), .second, .val (.long x155), .second, .val (.long x157), .second, .val (.ref b159), .val (.int (1 : Int32)), .val (.int (1 : Int32)), .val (.int (1 : Int32)), .unset, .unset] [(.long (1 : Int64)), (.long x153), (.ref b159)])) _
      refine XS.ladd X178.here hx rfl (hb hby at_164) rfl ?_
      show Steps p.tables e below (T178.setTop (mkF m 165 #[.val (.long q0), .second, .val (.long q1), .second, .val (.long q2), .second, .val (.long q3), .second, .val (.long (9007199254740 : Int64)), .second, .val (.long x148), .second, .val (.long x153), .second, .val (.long x155), .second, .val (.long x157), .second, .val (.ref b159), .val (.int (1 : Int32)), .val (.int (1 : Int32)), .val (.int (1 : Int32)), .unset, .unset] [(.long (x153 + (1 : Int64))), (.ref b159)])) _
      refine st186.trans ?_
      subst hx187
      exact k
    obtain rfl : x187 = (1 : Int32) := by
      rw [hx187]; exact if_pos (own_succ c182)
    obtain ⟨cq189, kq189, q189a, q189b, q189c⟩ := isOf hZ166 e186 f167
    obtain ⟨_, _, ⟨T189, L189, k189, n189⟩, -, X189, ⟨Lc189, hQ189, l189, y189, z189⟩, st189⟩ := X186.virtualBack hx (y := (⟨"com/example/windo/windo/model/StormCount$Values", "isStorm", "(J)Z"⟩ : MethodName)) (z := (⟨"com/example/windo/windo/model/StormCount$Values", "isStorm", "(J)Z"⟩ : MethodName)) hown166 (mvT hZ166 (hw _ (List.mem_of_getElem? (i := 38) rfl))) (mvT hZ166 (hw _ (List.mem_of_getElem? (i := 39) rfl))) (notFace_of_selects (args := #[]) (mvT hZ166 (hw _ (List.mem_of_getElem? (i := 41) rfl)))) (mvT hZ166 (hw _ (List.mem_of_getElem? (i := 41) rfl))) (mvT hZ166 (hw _ (List.mem_of_getElem? (i := 40) rfl))) (by decide) (backOf (W := 0) (rm5 l Z aw hw [] b159 (-9223372036854775808 : Int64) x153 T166.heap n0 Z169 f168) hZ166 (hw _ (List.mem_of_getElem? (i := 42) rfl)) (hw _ (List.mem_of_getElem? (i := 6) rfl)) (by decide) (by decide)) q189a q189c (g := (mkF m 183 #[.val (.long q0), .second, .val (.long q1), .second, .val (.long q2), .second, .val (.long q3), .second, .val (.long (9007199254740 : Int64)), .second, .val (.long x148), .second, .val (.long x153), .second, .val (.long x155), .second, .val (.long x157), .second, .val (.ref b159), .val (.int (1 : Int32)), .val (.int (1 : Int32)), .val (.int (1 : Int32)), .val (.int (1 : Int32)), .unset] [(.long (-9223372036854775808 : Int64)), (.ref b159)])) rfl (by rw [hml]; rfl) (Steps.refl _) (argsL := [(.long (-9223372036854775808 : Int64))]) (rest := []) (lenOf pd_3 rfl) rfl (by show 2 * 0 + _ ≤ _; exact Nat.le_of_eq rfl) (hb hby at_183) (fun _ _ => ⟨rfl, e186, (by decide : 3 + 0 ≤ _), (by decide : 55 + 0 ≤ _)⟩)
    dsimp only [Pt.U, Pt.locs, Pt.cells, Pt.slots] at X189 l189 y189 z189 st189 hQ189
    subst l189 y189 z189
    obtain ⟨rfl, N189q, e189⟩ := hQ189
    have N189 := Fr.app N186 N189q
    obtain ⟨x190, hx190⟩ : ∃ z : Int32, z = (if x153 < (-9223372036854775808 : Int64) then (1 : Int32) else (0 : Int32)) := ⟨_, rfl⟩
    have pre191 : ∀ t, Steps p.tables e below (T189.setTop (mkF m 186 #[.val (.long q0), .second, .val (.long q1), .second, .val (.long q2), .second, .val (.long q3), .second, .val (.long (9007199254740 : Int64)), .second, .val (.long x148), .second, .val (.long x153), .second, .val (.long x155), .second, .val (.long x157), .second, .val (.ref b159), .val (.int (1 : Int32)), .val (.int (1 : Int32)), .val (.int (1 : Int32)), .val (.int (1 : Int32)), .unset] [(.int x190)])) t → Steps p.tables e below (s₁.setTop (entryFrame m #[(.long q0), (.long q1), (.long q2), (.long q3)] maxLocals)) t := fun t k => by
      refine pre188 t ?_
      show Steps p.tables e below (T186.setTop (mkF m 168 #[.val (.long q0), .second, .val (.long q1), .second, .val (.long q2), .second, .val (.long q3), .second, .val (.long (9007199254740 : Int64)), .second, .val (.long x148), .second, .val (.long x153), .second, .val (.long x155), .second, .val (.long x157), .second, .val (.ref b159), .val (.int (1 : Int32)), .val (.int (1 : Int32)), .val (.int (1 : Int32)), .unset, .unset] [(.int (1 : Int32))])) _
      refine XS.ifNo X186.here hx rfl (hb hby at_168) rfl ((if0 _ _).trans (feq (by decide)).1) ?_
      show Steps p.tables e below (T186.setTop (mkF m 171 #[.val (.long q0), .second, .val (.long q1), .second, .val (.long q2), .second, .val (.long q3), .second, .val (.long (9007199254740 : Int64)), .second, .val (.long x148), .second, .val (.long x153), .second, .val (.long x155), .second, .val (.long x157), .second, .val (.ref b159), .val (.int (1 : Int32)), .val (.int (1 : Int32)), .val (.int (1 : Int32)), .unset, .unset] [])) _
      refine XS.iconst X186.here hx rfl (hb hby at_171) ?_
      show Steps p.tables e below (T186.setTop (mkF m 172 #[.val (.long q0), .second, .val (.long q1), .second, .val (.long q2), .second, .val (.long q3), .second, .val (.long (9007199254740 : Int64)), .second, .val (.long x148), .second, .val (.long x153), .second, .val (.long x155), .second, .val (.long x157), .second, .val (.ref b159), .val (.int (1 : Int32)), .val (.int (1 : Int32)), .val (.int (1 : Int32)), .unset, .unset] [(.int (1 : Int32))])) _
      refine XS.goto X186.here hx rfl (pc0 := 172) (pc' := 176) rfl (hb hby at_172) (by decide) (by decide) ?_
      show Steps p.tables e below (T186.setTop (mkF m 176 #[.val (.long q0), .second, .val (.long q1), .second, .val (.long q2), .second, .val (.long q3), .second, .val (.long (9007199254740 : Int64)), .second, .val (.long x148), .second, .val (.long x153), .second, .val (.long x155), .second, .val (.long x157), .second, .val (.ref b159), .val (.int (1 : Int32)), .val (.int (1 : Int32)), .val (.int (1 : Int32)), .unset, .unset] [(.int (1 : Int32))])) _
      refine XS.istore X186.here hx rfl (hb hby at_176) rfl (l' := #[.val (.long q0), .second, .val (.long q1), .second, .val (.long q2), .second, .val (.long q3), .second, .val (.long (9007199254740 : Int64)), .second, .val (.long x148), .second, .val (.long x153), .second, .val (.long x155), .second, .val (.long x157), .second, .val (.ref b159), .val (.int (1 : Int32)), .val (.int (1 : Int32)), .val (.int (1 : Int32)), .val (.int (1 : Int32)), .unset]) rfl ?_
      show Steps p.tables e below (T186.setTop (mkF m 178 #[.val (.long q0), .second, .val (.long q1), .second, .val (.long q2), .second, .val (.long q3), .second, .val (.long (9007199254740 : Int64)), .second, .val (.long x148), .second, .val (.long x153), .second, .val (.long x155), .second, .val (.long x157), .second, .val (.ref b159), .val (.int (1 : Int32)), .val (.int (1 : Int32)), .val (.int (1 : Int32)), .val (.int (1 : Int32)), .unset] [])) _
      refine XS.aload X186.here hx rfl (hb hby at_178) rfl rfl ?_
      show Steps p.tables e below (T186.setTop (mkF m 180 #[.val (.long q0), .second, .val (.long q1), .second, .val (.long q2), .second, .val (.long q3), .second, .val (.long (9007199254740 : Int64)), .second, .val (.long x148), .second, .val (.long x153), .second, .val (.long x155), .second, .val (.long x157), .second, .val (.ref b159), .val (.int (1 : Int32)), .val (.int (1 : Int32)), .val (.int (1 : Int32)), .val (.int (1 : Int32)), .unset] [(.ref b159)])) _
      refine X186.ldc2Long hx hown166 (mvT hZ166 (hw _ (List.mem_of_getElem? (i := 43) rfl))) (g := (mkF m 180 #[.val (.long q0), .second, .val (.long q1), .second, .val (.long q2), .second, .val (.long q3), .second, .val (.long (9007199254740 : Int64)), .second, .val (.long x148), .second, .val (.long x153), .second, .val (.long x155), .second, .val (.long x157), .second, .val (.ref b159), .val (.int (1 : Int32)), .val (.int (1 : Int32)), .val (.int (1 : Int32)), .val (.int (1 : Int32)), .unset] [(.ref b159)])) rfl (hb hby at_180) _ ?_
      show Steps p.tables e below (T186.setTop (mkF m 183 #[.val (.long q0), .second, .val (.long q1), .second, .val (.long q2), .second, .val (.long q3), .second, .val (.long (9007199254740 : Int64)), .second, .val (.long x148), .second, .val (.long x153), .second, .val (.long x155), .second, .val (.long x157), .second, .val (.ref b159), .val (.int (1 : Int32)), .val (.int (1 : Int32)), .val (.int (1 : Int32)), .val (.int (1 : Int32)), .unset] [(.long (-9223372036854775808 : Int64)), (.ref b159)])) _
      refine st189.trans ?_
      subst hx190
      exact k
    obtain rfl : x190 = (0 : Int32) := by
      rw [hx190]; exact if_neg own_min
    obtain ⟨fs, hr, hrun, hended, hEW⟩ := Stand.leaveW X189 hS166 (by rw [e189]; exact hk166) (v := some (.int (1 : Int32))) (fun h => by rw [Bd.returns] at h; cases h)
    refine ⟨_, _, pre191 _ ?_, hrun, hended, _, _, rfl, ?_, hEW.1, hEW.2.1, hEW.2.2.1, hEW.2.2.2.mono (by decide) (by decide)⟩
    ·
      show Steps p.tables e below (T189.setTop (mkF m 186 #[.val (.long q0), .second, .val (.long q1), .second, .val (.long q2), .second, .val (.long q3), .second, .val (.long (9007199254740 : Int64)), .second, .val (.long x148), .second, .val (.long x153), .second, .val (.long x155), .second, .val (.long x157), .second, .val (.ref b159), .val (.int (1 : Int32)), .val (.int (1 : Int32)), .val (.int (1 : Int32)), .val (.int (1 : Int32)), .unset] [(.int (0 : Int32))])) _
      refine XS.ifNo X189.here hx rfl (hb hby at_186) rfl ((if0 _ _).trans (teq rfl).2) ?_
      show Steps p.tables e below (T189.setTop (mkF m 189 #[.val (.long q0), .second, .val (.long q1), .second, .val (.long q2), .second, .val (.long q3), .second, .val (.long (9007199254740 : Int64)), .second, .val (.long x148), .second, .val (.long x153), .second, .val (.long x155), .second, .val (.long x157), .second, .val (.ref b159), .val (.int (1 : Int32)), .val (.int (1 : Int32)), .val (.int (1 : Int32)), .val (.int (1 : Int32)), .unset] [])) _
      refine XS.iconst X189.here hx rfl (hb hby at_189) ?_
      show Steps p.tables e below (T189.setTop (mkF m 190 #[.val (.long q0), .second, .val (.long q1), .second, .val (.long q2), .second, .val (.long q3), .second, .val (.long (9007199254740 : Int64)), .second, .val (.long x148), .second, .val (.long x153), .second, .val (.long x155), .second, .val (.long x157), .second, .val (.ref b159), .val (.int (1 : Int32)), .val (.int (1 : Int32)), .val (.int (1 : Int32)), .val (.int (1 : Int32)), .unset] [(.int (1 : Int32))])) _
      refine XS.goto X189.here hx rfl (pc0 := 190) (pc' := 194) rfl (hb hby at_190) (by decide) (by decide) ?_
      show Steps p.tables e below (T189.setTop (mkF m 194 #[.val (.long q0), .second, .val (.long q1), .second, .val (.long q2), .second, .val (.long q3), .second, .val (.long (9007199254740 : Int64)), .second, .val (.long x148), .second, .val (.long x153), .second, .val (.long x155), .second, .val (.long x157), .second, .val (.ref b159), .val (.int (1 : Int32)), .val (.int (1 : Int32)), .val (.int (1 : Int32)), .val (.int (1 : Int32)), .unset] [(.int (1 : Int32))])) _
      refine XS.istore X189.here hx rfl (hb hby at_194) rfl (l' := #[.val (.long q0), .second, .val (.long q1), .second, .val (.long q2), .second, .val (.long q3), .second, .val (.long (9007199254740 : Int64)), .second, .val (.long x148), .second, .val (.long x153), .second, .val (.long x155), .second, .val (.long x157), .second, .val (.ref b159), .val (.int (1 : Int32)), .val (.int (1 : Int32)), .val (.int (1 : Int32)), .val (.int (1 : Int32)), .val (.int (1 : Int32))]) rfl ?_
      show Steps p.tables e below (T189.setTop (mkF m 196 #[.val (.long q0), .second, .val (.long q1), .second, .val (.long q2), .second, .val (.long q3), .second, .val (.long (9007199254740 : Int64)), .second, .val (.long x148), .second, .val (.long x153), .second, .val (.long x155), .second, .val (.long x157), .second, .val (.ref b159), .val (.int (1 : Int32)), .val (.int (1 : Int32)), .val (.int (1 : Int32)), .val (.int (1 : Int32)), .val (.int (1 : Int32))] [])) _
      refine XS.iload X189.here hx rfl (hb hby at_196) rfl ?_
      show Steps p.tables e below (T189.setTop (mkF m 198 #[.val (.long q0), .second, .val (.long q1), .second, .val (.long q2), .second, .val (.long q3), .second, .val (.long (9007199254740 : Int64)), .second, .val (.long x148), .second, .val (.long x153), .second, .val (.long x155), .second, .val (.long x157), .second, .val (.ref b159), .val (.int (1 : Int32)), .val (.int (1 : Int32)), .val (.int (1 : Int32)), .val (.int (1 : Int32)), .val (.int (1 : Int32))] [(.int (1 : Int32))])) _
      refine XS.ifNo X189.here hx rfl (hb hby at_198) rfl ((if0 _ _).trans (feq (by decide)).1) ?_
      show Steps p.tables e below (T189.setTop (mkF m 201 #[.val (.long q0), .second, .val (.long q1), .second, .val (.long q2), .second, .val (.long q3), .second, .val (.long (9007199254740 : Int64)), .second, .val (.long x148), .second, .val (.long x153), .second, .val (.long x155), .second, .val (.long x157), .second, .val (.ref b159), .val (.int (1 : Int32)), .val (.int (1 : Int32)), .val (.int (1 : Int32)), .val (.int (1 : Int32)), .val (.int (1 : Int32))] [])) _
      refine XS.iload X189.here hx rfl (hb hby at_201) rfl ?_
      show Steps p.tables e below (T189.setTop (mkF m 203 #[.val (.long q0), .second, .val (.long q1), .second, .val (.long q2), .second, .val (.long q3), .second, .val (.long (9007199254740 : Int64)), .second, .val (.long x148), .second, .val (.long x153), .second, .val (.long x155), .second, .val (.long x157), .second, .val (.ref b159), .val (.int (1 : Int32)), .val (.int (1 : Int32)), .val (.int (1 : Int32)), .val (.int (1 : Int32)), .val (.int (1 : Int32))] [(.int (1 : Int32))])) _
      refine XS.ifNo X189.here hx rfl (hb hby at_203) rfl ((if0 _ _).trans (feq (by decide)).1) ?_
      show Steps p.tables e below (T189.setTop (mkF m 206 #[.val (.long q0), .second, .val (.long q1), .second, .val (.long q2), .second, .val (.long q3), .second, .val (.long (9007199254740 : Int64)), .second, .val (.long x148), .second, .val (.long x153), .second, .val (.long x155), .second, .val (.long x157), .second, .val (.ref b159), .val (.int (1 : Int32)), .val (.int (1 : Int32)), .val (.int (1 : Int32)), .val (.int (1 : Int32)), .val (.int (1 : Int32))] [])) _
      refine XS.iload X189.here hx rfl (hb hby at_206) rfl ?_
      show Steps p.tables e below (T189.setTop (mkF m 208 #[.val (.long q0), .second, .val (.long q1), .second, .val (.long q2), .second, .val (.long q3), .second, .val (.long (9007199254740 : Int64)), .second, .val (.long x148), .second, .val (.long x153), .second, .val (.long x155), .second, .val (.long x157), .second, .val (.ref b159), .val (.int (1 : Int32)), .val (.int (1 : Int32)), .val (.int (1 : Int32)), .val (.int (1 : Int32)), .val (.int (1 : Int32))] [(.int (1 : Int32))])) _
      refine XS.ifNo X189.here hx rfl (hb hby at_208) rfl ((if0 _ _).trans (feq (by decide)).1) ?_
      show Steps p.tables e below (T189.setTop (mkF m 211 #[.val (.long q0), .second, .val (.long q1), .second, .val (.long q2), .second, .val (.long q3), .second, .val (.long (9007199254740 : Int64)), .second, .val (.long x148), .second, .val (.long x153), .second, .val (.long x155), .second, .val (.long x157), .second, .val (.ref b159), .val (.int (1 : Int32)), .val (.int (1 : Int32)), .val (.int (1 : Int32)), .val (.int (1 : Int32)), .val (.int (1 : Int32))] [])) _
      refine XS.iload X189.here hx rfl (hb hby at_211) rfl ?_
      show Steps p.tables e below (T189.setTop (mkF m 213 #[.val (.long q0), .second, .val (.long q1), .second, .val (.long q2), .second, .val (.long q3), .second, .val (.long (9007199254740 : Int64)), .second, .val (.long x148), .second, .val (.long x153), .second, .val (.long x155), .second, .val (.long x157), .second, .val (.ref b159), .val (.int (1 : Int32)), .val (.int (1 : Int32)), .val (.int (1 : Int32)), .val (.int (1 : Int32)), .val (.int (1 : Int32))] [(.int (1 : Int32))])) _
      refine XS.ifNo X189.here hx rfl (hb hby at_213) rfl ((if0 _ _).trans (feq (by decide)).1) ?_
      show Steps p.tables e below (T189.setTop (mkF m 216 #[.val (.long q0), .second, .val (.long q1), .second, .val (.long q2), .second, .val (.long q3), .second, .val (.long (9007199254740 : Int64)), .second, .val (.long x148), .second, .val (.long x153), .second, .val (.long x155), .second, .val (.long x157), .second, .val (.ref b159), .val (.int (1 : Int32)), .val (.int (1 : Int32)), .val (.int (1 : Int32)), .val (.int (1 : Int32)), .val (.int (1 : Int32))] [])) _
      refine XS.iload X189.here hx rfl (hb hby at_216) rfl ?_
      show Steps p.tables e below (T189.setTop (mkF m 218 #[.val (.long q0), .second, .val (.long q1), .second, .val (.long q2), .second, .val (.long q3), .second, .val (.long (9007199254740 : Int64)), .second, .val (.long x148), .second, .val (.long x153), .second, .val (.long x155), .second, .val (.long x157), .second, .val (.ref b159), .val (.int (1 : Int32)), .val (.int (1 : Int32)), .val (.int (1 : Int32)), .val (.int (1 : Int32)), .val (.int (1 : Int32))] [(.int (1 : Int32))])) _
      refine XS.ifNo X189.here hx rfl (hb hby at_218) rfl ((if0 _ _).trans (feq (by decide)).1) ?_
      show Steps p.tables e below (T189.setTop (mkF m 221 #[.val (.long q0), .second, .val (.long q1), .second, .val (.long q2), .second, .val (.long q3), .second, .val (.long (9007199254740 : Int64)), .second, .val (.long x148), .second, .val (.long x153), .second, .val (.long x155), .second, .val (.long x157), .second, .val (.ref b159), .val (.int (1 : Int32)), .val (.int (1 : Int32)), .val (.int (1 : Int32)), .val (.int (1 : Int32)), .val (.int (1 : Int32))] [])) _
      refine XS.iconst X189.here hx rfl (hb hby at_221) ?_
      show Steps p.tables e below (T189.setTop (mkF m 222 #[.val (.long q0), .second, .val (.long q1), .second, .val (.long q2), .second, .val (.long q3), .second, .val (.long (9007199254740 : Int64)), .second, .val (.long x148), .second, .val (.long x153), .second, .val (.long x155), .second, .val (.long x157), .second, .val (.ref b159), .val (.int (1 : Int32)), .val (.int (1 : Int32)), .val (.int (1 : Int32)), .val (.int (1 : Int32)), .val (.int (1 : Int32))] [(.int (1 : Int32))])) _
      refine XS.goto X189.here hx rfl (pc0 := 222) (pc' := 226) rfl (hb hby at_222) (by decide) (by decide) ?_
      show Steps p.tables e below (T189.setTop (mkF m 226 #[.val (.long q0), .second, .val (.long q1), .second, .val (.long q2), .second, .val (.long q3), .second, .val (.long (9007199254740 : Int64)), .second, .val (.long x148), .second, .val (.long x153), .second, .val (.long x155), .second, .val (.long x157), .second, .val (.ref b159), .val (.int (1 : Int32)), .val (.int (1 : Int32)), .val (.int (1 : Int32)), .val (.int (1 : Int32)), .val (.int (1 : Int32))] [(.int (1 : Int32))])) _
      exact retZ X189 hx Bd.returns (by decide) (hb hby at_226) hr
    ·
      show Q_rm0 Z q0 q1 q2 q3 h0 n0 _ T189.heap _
      rw [e189]
      exact ⟨rfl, N189⟩
set_option maxRecDepth 65536 in
set_option maxHeartbeats 40000000 in
theorem comes_1 {Post : Tables → Env → Array Value → State → Outcome → State → Prop} (hpost : ∀ tb e args s v u, (limb_1_1.after args s (.returned v) u = true ∧ limb_1_2.after args s (.returned v) u = true ∧ True) → ReturnedEndW s (.returned v) u (Jvm.fieldLocs frame_1_writes args s ++ Jvm.arrayLocs frame_1_arrays args s ++ Jvm.staticLocs frame_1_statics s) 16 1152 → Post tb e args s (.returned v) u) :
    ArmFor flags0 classFile x code maxLocals ret World_1 tables_1 room_1 Calls_1 rest_1 Pre_1 Post := by
  intro l hfl _ _ p e ha hc hk s m args below hf hA hF happ hP
  obtain ⟨hcalls, hrest, hpre⟩ := hP
  obtain ⟨-, -, -, hnamed, -, -, -, hat⟩ := (Spec.applies_iff hf).mp happ
  obtain ⟨hg, hn⟩ := and_e (Cond.before_iff.mp (show (Jvm.Cond.and given_1 narrow_1).before args s = true from hpre))
  obtain ⟨g192, g193⟩ := and_e hg
  obtain ⟨g194, g195⟩ := and_e g193
  obtain ⟨g196, g197⟩ := and_e g195
  obtain ⟨g198, g199⟩ := and_e g197
  obtain ⟨w0, w1, w2, w3, rfl⟩ : ∃ w0 w1 w2 w3 : Value, args = #[w0, w1, w2, w3] := by
    have hs : args.size = 4 := by simpa [Cond.value, given_1] using g192
    obtain ⟨L⟩ := args
    match L, hs with
    | [w0, w1, w2, w3], _ => exact ⟨w0, w1, w2, w3, rfl⟩
  have hw := fun d (hd : d ∈ tables_1) => atoms_spec (ws := Jvm.Cond.code x code maxLocals ret :: tables_1) hat d (List.mem_cons_of_mem _ hd)
  have hfit : Fit s := fun {y c} hc i hi => by
    obtain ⟨ha, rfl⟩ := Array.getElem?_eq_some_iff.mp hc
    have q := List.all_eq_true.mp ((Array.all_eq_true_iff_forall_mem.mp hF) _ (Array.getElem_mem ha)) i (List.mem_range.mpr hi)
    simpa [Array.getElem?_eq_getElem hi] using q
  obtain ⟨i0, ei0⟩ := isL_v g194
  obtain rfl : w0 = (.long i0) := Option.some.inj ei0
  obtain ⟨i1, ei1⟩ := isL_v g196
  obtain rfl : w1 = (.long i1) := Option.some.inj ei1
  obtain ⟨i2, ei2⟩ := isL_v g198
  obtain rfl : w2 = (.long i2) := Option.some.inj ei2
  obtain ⟨i3, ei3⟩ := isL_v g199
  obtain rfl : w3 = (.long i3) := Option.some.inj ei3
  obtain ⟨n, o, h1, h2, h3, _, L, rfl, ⟨rfl, N⟩, hq⟩ := rm0 l s _ hw tables_1 i0 i1 i2 i3 s.heap s.heap.size (Nat.le_refl _) p e ha hc hk s m _ below hf ((Spec.applies_iff_loose hf).mp happ).1 ⟨rfl, State.Warmed39.refl s, rfl⟩ trivial
  refine ⟨n, _, h1, h2, h3, hpost _ _ _ _ _ _ ⟨Cond.after_iff.mpr rfl, Cond.after_iff.mpr (eq_i res_at (Term.int_eval (1)) rfl), trivial⟩ ⟨hq.1, hq.2.1, hq.2.2.1, (hq.2.2.2.sift fun y hy => Or.inr (N y hy)).mono (by decide) (by decide)⟩⟩
theorem main_1_1 : Claimed_1_1 := comes_1 fun _ _ _ _ _ _ h hF => ⟨h.1, hF⟩
theorem main_1_2 : Claimed_1_2 := comes_1 fun _ _ _ _ _ _ h hF => ⟨h.2.1, hF⟩
end Jvm.Pilot.@@N@@
namespace Jvm.Pilot.@@N@@
open Jvm Jvm.ClassFile Sem Op Lib Jvm.Free Jvm.Stand Jvm.Pilot.@@N@@.Jvm.D
/-! MADE BY PROGRAM (witnessworld.py) out of the Statement's table words and the real class files: 15 classes; the members and pool entries that the words name. The judged class is class 1, her method 1. -/
namespace start1
open Jvm.ClassFile
def u (s : String) : CpInfo := .utf8 (stringToUtf16 s)
/-- a pool by its gaps: so many unusable entries, then the entry; so many at the end -/
def gap : Nat → List CpInfo → List CpInfo
  | 0, r => r
  | n + 1, r => .unusable :: gap n r
def poolList (es : List (Nat × CpInfo)) (last : Nat) : List CpInfo := es.foldr (fun e r => gap e.1 (e.2 :: r)) (gap last [])
def pool (es : List (Nat × CpInfo)) (last : Nat) : Array CpInfo := ⟨poolList es last⟩
def fileOf (pool : Array CpInfo) (this : Nat) (attrs : Array Attribute := #[]) (ms : Array MethodInfo := #[]) (fl : Nat := 33) (sup : Nat := 0) (ifs : Array Nat := #[]) (fds : Array FieldInfo := #[]) : ClassFile where
  minorVersion := 0
  majorVersion := 65
  constantPool := pool
  accessFlags := fl
  thisClass := this
  superClass := sup
  interfaces := ifs
  fields := fds
  methods := ms
  attributes := attrs
def plain (name : String) (sup : Option ClassId) : Class where
  name := name
  kind := .ordinary
  loader := none
  accessFlags := 33
  super := sup
  interfaces := #[]
  cf := none
  fields := #[]
  methods := #[]
  instanceTypes := #[]
  staticTypes := #[]
  resolved := #[]
  callSites := []
  init := .initialized
  statics := none
  mirror := none

def pool0 : Array CpInfo := pool [(5, u "<init>"), (0, u "()V"), (1, .class_ 10), (1, u "java/lang/Object")] 113

def k0c0 : Code := { maxStack := 0, maxLocals := 1, code := object_method_1_code, exceptionTable := #[], attributes := #[] }
def k0m0 : Method := { name := "<init>", desc := "()V", sig := { parameters := [], returnType := none }, accessFlags := 1, code := some k0c0 }
/-- java/lang/Object -/
def k0 : Class := { plain "java/lang/Object" none with
  accessFlags := 33
  interfaces := #[]
  cf := some (fileOf pool0 8 #[] #[{ accessFlags := 1, nameIndex := 5, descriptorIndex := 6, attributes := #[] }] 33 0 #[] #[])
  fields := #[]
  methods := #[k0m0]
  instanceTypes := #[]
  staticTypes := #[]
  resolved := Array.replicate 124 none
  statics := none }

def pool1 : Array CpInfo := pool [(2, .class_ 4), (1, u "java/lang/Object"), (0, u "<init>"), (0, u "()V"), (0, .long 9007199254740), (3, .long 9223372036854775807), (1, .long 1000), (1, .long 999), (1, .class_ 18), (0, u "com/example/windo/windo/model/StormCount$Values"), (0, .methodref 17 20), (0, .nameAndType 5 21), (0, u "(JJJ)V"), (0, .methodref 17 23), (0, .nameAndType 24 25), (0, u "isStorm"), (0, u "(J)Z"), (0, .long 9223372036854775808), (1, .class_ 29), (0, u "com/example/windo/windo/model/ValuesIsStormPinLaw"), (2, u "law"), (0, u "(JJJJ)Z")] 7

def k1m0 : Method := { name := "<init>", desc := "()V", sig := { parameters := [], returnType := none }, accessFlags := 1, code := none }
def k1c1 : Code := { maxStack := 8, maxLocals := 24, code := code, exceptionTable := #[], attributes := #[] }
def k1m1 : Method := { name := "law", desc := "(JJJJ)Z", sig := { parameters := [.long, .long, .long, .long], returnType := some .boolean }, accessFlags := 9, code := some k1c1 }
/-- com/example/windo/windo/model/ValuesIsStormPinLaw -/
def k1 : Class := { plain "com/example/windo/windo/model/ValuesIsStormPinLaw" (some 0) with
  accessFlags := 49
  interfaces := #[]
  cf := some (fileOf pool1 28 #[] #[{ accessFlags := 1, nameIndex := 5, descriptorIndex := 6, attributes := #[] }, { accessFlags := 9, nameIndex := 32, descriptorIndex := 33, attributes := #[] }] 49 2 #[] #[])
  fields := #[]
  methods := #[k1m0, k1m1]
  instanceTypes := #[]
  staticTypes := #[]
  resolved := Array.replicate 41 none
  statics := none }

def pool2 : Array CpInfo := pool [(1, .class_ 2), (0, u "com/example/windo/windo/model/StormCount"), (0, .class_ 4), (0, u "com/example/windo/windo/model/Rule"), (0, .methodref 6 7), (0, .class_ 8), (0, .nameAndType 9 10), (0, u "java/lang/Object"), (0, u "<init>"), (0, u "()V"), (0, .methodref 3 12), (0, .nameAndType 13 14), (0, u "checkWindow"), (0, u "(J)V"), (9, .long 999), (1, .long 1000), (1, .long 9007199254740), (4, .fieldref 34 35), (0, .class_ 36), (0, .nameAndType 37 38), (0, u "com/example/windo/windo/model/StormCount$Values"), (0, u "windowMillis"), (0, u "J"), (0, .fieldref 34 40), (0, .nameAndType 41 38), (0, u "threshold"), (0, .fieldref 34 43), (0, .nameAndType 44 38), (0, u "idleExpirySeconds"), (0, u "(JJJ)V"), (7, u "isStorm"), (0, u "(J)Z")] 21

def k2c0 : Code := { maxStack := 10, maxLocals := 11, code := prog_30_method_1_code, exceptionTable := #[], attributes := #[] }
def k2m0 : Method := { name := "<init>", desc := "(JJJ)V", sig := { parameters := [.long, .long, .long], returnType := none }, accessFlags := 0, code := some k2c0 }
def k2c1 : Code := { maxStack := 4, maxLocals := 3, code := prog_30_method_5_code, exceptionTable := #[], attributes := #[] }
def k2m1 : Method := { name := "isStorm", desc := "(J)Z", sig := { parameters := [.long], returnType := some .boolean }, accessFlags := 1, code := some k2c1 }
/-- com/example/windo/windo/model/StormCount$Values -/
def k2 : Class := { plain "com/example/windo/windo/model/StormCount$Values" (some 0) with
  accessFlags := 33
  interfaces := #[]
  cf := some (fileOf pool2 34 #[.nestHost 1] #[{ accessFlags := 0, nameIndex := 9, descriptorIndex := 45, attributes := #[] }, { accessFlags := 1, nameIndex := 53, descriptorIndex := 54, attributes := #[] }] 33 6 #[] #[{ accessFlags := 18, nameIndex := 37, descriptorIndex := 38, attributes := #[] }, { accessFlags := 18, nameIndex := 41, descriptorIndex := 38, attributes := #[] }, { accessFlags := 18, nameIndex := 44, descriptorIndex := 38, attributes := #[] }])
  fields := #[{ name := "windowMillis", type := .long, accessFlags := 18, slot := 0, constantValue := 0 }, { name := "threshold", type := .long, accessFlags := 18, slot := 1, constantValue := 0 }, { name := "idleExpirySeconds", type := .long, accessFlags := 18, slot := 2, constantValue := 0 }]
  methods := #[k2m0, k2m1]
  instanceTypes := #[.long, .long, .long]
  staticTypes := #[]
  resolved := Array.replicate 76 none
  statics := none }

def pool3 : Array CpInfo := pool [(2, .class_ 4), (1, u "java/lang/Object"), (3, u "name"), (22, .class_ 33), (1, u "com/example/windo/windo/model/Rule"), (3, u "keyPrefix"), (2, u "Ljava/lang/String;"), (3, u "failurePolicy"), (4, u "Lcom/example/windo/windo/model/FailurePolicy;"), (3, .string 54), (0, u "windowMillis"), (0, .methodref 31 56), (0, .nameAndType 57 58), (0, u "checkMillis"), (0, u "(Ljava/lang/String;J)V"), (7, .long 9007199254740991), (4, u "MAX_MILLIS"), (0, u "J"), (1, u "EXPIRY_MARGIN_MILLIS"), (2, u "WINDOW_MILLIS"), (15, u "checkWindow"), (0, u "(J)V")] 23

def k3c0 : Code := { maxStack := 3, maxLocals := 2, code := prog_26_method_8_code, exceptionTable := #[], attributes := #[] }
def k3m0 : Method := { name := "checkWindow", desc := "(J)V", sig := { parameters := [.long], returnType := none }, accessFlags := 8, code := some k3c0 }
def k3c1 : Code := { maxStack := 5, maxLocals := 3, code := prog_26_method_10_code, exceptionTable := #[], attributes := #[] }
def k3m1 : Method := { name := "checkMillis", desc := "(Ljava/lang/String;J)V", sig := { parameters := [(.object "java/lang/String"), .long], returnType := none }, accessFlags := 8, code := some k3c1 }
/-- com/example/windo/windo/model/Rule -/
def k3 : Class := { plain "com/example/windo/windo/model/Rule" (some 0) with
  accessFlags := 1057
  interfaces := #[]
  cf := some (fileOf pool3 31 #[] #[{ accessFlags := 8, nameIndex := 93, descriptorIndex := 94, attributes := #[] }, { accessFlags := 8, nameIndex := 57, descriptorIndex := 58, attributes := #[] }] 1057 2 #[] #[{ accessFlags := 25, nameIndex := 71, descriptorIndex := 72, attributes := #[] }, { accessFlags := 25, nameIndex := 74, descriptorIndex := 72, attributes := #[] }, { accessFlags := 24, nameIndex := 77, descriptorIndex := 40, attributes := #[] }, { accessFlags := 18, nameIndex := 8, descriptorIndex := 40, attributes := #[] }, { accessFlags := 18, nameIndex := 37, descriptorIndex := 40, attributes := #[] }, { accessFlags := 18, nameIndex := 44, descriptorIndex := 49, attributes := #[] }])
  fields := #[{ name := "MAX_MILLIS", type := .long, accessFlags := 25, slot := 0, constantValue := 0 }, { name := "EXPIRY_MARGIN_MILLIS", type := .long, accessFlags := 25, slot := 1, constantValue := 0 }, { name := "WINDOW_MILLIS", type := (.object "java/lang/String"), accessFlags := 24, slot := 2, constantValue := 0 }, { name := "name", type := (.object "java/lang/String"), accessFlags := 18, slot := 0, constantValue := 0 }, { name := "keyPrefix", type := (.object "java/lang/String"), accessFlags := 18, slot := 1, constantValue := 0 }, { name := "failurePolicy", type := (.object "com/example/windo/windo/model/FailurePolicy"), accessFlags := 18, slot := 2, constantValue := 0 }]
  methods := #[k3m0, k3m1]
  instanceTypes := #[(.object "java/lang/String"), (.object "java/lang/String"), (.object "com/example/windo/windo/model/FailurePolicy")]
  staticTypes := #[.long, .long, (.object "java/lang/String")]
  resolved := Array.replicate 118 none
  statics := none }

def pool4 : Array CpInfo := pool [(1, .class_ 2), (0, u "java/io/Serializable"), (0, .class_ 4), (0, u "java/lang/Object")] 2

/-- java/io/Serializable -/
def k4 : Class := { plain "java/io/Serializable" (some 0) with
  accessFlags := 1537
  interfaces := #[]
  cf := some (fileOf pool4 1 #[] #[] 1537 3 #[] #[])
  fields := #[]
  methods := #[]
  instanceTypes := #[]
  staticTypes := #[]
  resolved := Array.replicate 7 none
  statics := none }

def pool5 : Array CpInfo := pool [(1, .class_ 2), (0, u "java/lang/Comparable"), (0, .class_ 4), (0, u "java/lang/Object")] 7

/-- java/lang/Comparable -/
def k5 : Class := { plain "java/lang/Comparable" (some 0) with
  accessFlags := 1537
  interfaces := #[]
  cf := some (fileOf pool5 1 #[] #[] 1537 3 #[] #[])
  fields := #[]
  methods := #[]
  instanceTypes := #[]
  staticTypes := #[]
  resolved := Array.replicate 12 none
  statics := none }

def pool6 : Array CpInfo := pool [(2, .class_ 4), (1, u "java/lang/CharSequence"), (42, .class_ 48), (0, u "java/lang/CharSequence$1CodePointIterator"), (10, .class_ 60), (0, u "java/lang/CharSequence$1CharIterator"), (5, .class_ 67), (0, u "java/lang/Object")] 63

/-- java/lang/CharSequence -/
def k6 : Class := { plain "java/lang/CharSequence" (some 0) with
  accessFlags := 1537
  interfaces := #[]
  cf := some (fileOf pool6 2 #[.nestMembers #[47, 59]] #[] 1537 66 #[] #[])
  fields := #[]
  methods := #[]
  instanceTypes := #[]
  staticTypes := #[]
  resolved := Array.replicate 131 none
  statics := none }

def pool7 : Array CpInfo := pool [(1, .class_ 2), (0, u "java/lang/constant/Constable"), (0, .class_ 4), (0, u "java/lang/Object")] 6

/-- java/lang/constant/Constable -/
def k7 : Class := { plain "java/lang/constant/Constable" (some 0) with
  accessFlags := 1537
  interfaces := #[]
  cf := some (fileOf pool7 1 #[] #[] 1537 3 #[] #[])
  fields := #[]
  methods := #[]
  instanceTypes := #[]
  staticTypes := #[]
  resolved := Array.replicate 11 none
  statics := none }

def pool8 : Array CpInfo := pool [(1, .class_ 2), (0, u "java/lang/constant/ConstantDesc"), (0, .class_ 4), (0, u "java/lang/Object")] 32

/-- java/lang/constant/ConstantDesc -/
def k8 : Class := { plain "java/lang/constant/ConstantDesc" (some 0) with
  accessFlags := 1537
  interfaces := #[]
  cf := some (fileOf pool8 1 #[] #[] 1537 3 #[] #[])
  fields := #[]
  methods := #[]
  instanceTypes := #[]
  staticTypes := #[]
  resolved := Array.replicate 37 none
  statics := none }

def pool9 : Array CpInfo := pool [(2, .class_ 4), (1, u "java/lang/Object"), (0, u "<init>"), (0, u "()V"), (3, .class_ 12), (1, u "java/lang/String"), (0, u "value"), (0, u "[B"), (2, u "coder"), (0, u "B"), (2, u "hash"), (0, u "I"), (2, u "hashIsZero"), (0, u "Z"), (13, u "COMPACT_STRINGS"), (534, .class_ 576), (0, u "java/lang/CharSequence"), (22, u "CASE_INSENSITIVE_ORDER"), (0, u "Ljava/util/Comparator;"), (500, u "serialPersistentFields"), (0, u "[Ljava/io/ObjectStreamField;"), (0, .class_ 1104), (0, u "java/lang/String$CaseInsensitiveComparator"), (1, .class_ 1107), (0, u "java/io/Serializable"), (0, .class_ 1109), (0, u "java/lang/Comparable"), (0, .class_ 1111), (0, u "java/lang/constant/Constable"), (0, .class_ 1113), (0, u "java/lang/constant/ConstantDesc"), (2, u "serialVersionUID"), (0, u "J"), (3, u "REPL"), (0, u "C"), (2, u "LATIN1"), (1, u "UTF16")] 323

def k9m0 : Method := { name := "<init>", desc := "()V", sig := { parameters := [], returnType := none }, accessFlags := 1, code := none }
/-- java/lang/String -/
def k9 : Class := { plain "java/lang/String" (some 0) with
  accessFlags := 49
  interfaces := #[4, 5, 6, 7, 8]
  cf := some (fileOf pool9 10 #[.nestMembers #[1103]] #[{ accessFlags := 1, nameIndex := 5, descriptorIndex := 6, attributes := #[] }] 49 2 #[1106, 1108, 575, 1110, 1112] #[{ accessFlags := 18, nameIndex := 13, descriptorIndex := 14, attributes := #[] }, { accessFlags := 18, nameIndex := 17, descriptorIndex := 18, attributes := #[] }, { accessFlags := 2, nameIndex := 21, descriptorIndex := 22, attributes := #[] }, { accessFlags := 2, nameIndex := 25, descriptorIndex := 26, attributes := #[] }, { accessFlags := 26, nameIndex := 1116, descriptorIndex := 1117, attributes := #[] }, { accessFlags := 24, nameIndex := 40, descriptorIndex := 26, attributes := #[] }, { accessFlags := 26, nameIndex := 1101, descriptorIndex := 1102, attributes := #[] }, { accessFlags := 26, nameIndex := 1121, descriptorIndex := 1122, attributes := #[] }, { accessFlags := 25, nameIndex := 599, descriptorIndex := 600, attributes := #[] }, { accessFlags := 24, nameIndex := 1125, descriptorIndex := 18, attributes := #[] }, { accessFlags := 24, nameIndex := 1127, descriptorIndex := 18, attributes := #[] }])
  fields := #[{ name := "value", type := (.array .byte), accessFlags := 18, slot := 0, constantValue := 0 }, { name := "coder", type := .byte, accessFlags := 18, slot := 1, constantValue := 0 }, { name := "hash", type := .int, accessFlags := 2, slot := 2, constantValue := 0 }, { name := "hashIsZero", type := .boolean, accessFlags := 2, slot := 3, constantValue := 0 }, { name := "serialVersionUID", type := .long, accessFlags := 26, slot := 0, constantValue := 0 }, { name := "COMPACT_STRINGS", type := .boolean, accessFlags := 24, slot := 1, constantValue := 0 }, { name := "serialPersistentFields", type := (.array (.object "java/io/ObjectStreamField")), accessFlags := 26, slot := 2, constantValue := 0 }, { name := "REPL", type := .char, accessFlags := 26, slot := 3, constantValue := 0 }, { name := "CASE_INSENSITIVE_ORDER", type := (.object "java/util/Comparator"), accessFlags := 25, slot := 4, constantValue := 0 }, { name := "LATIN1", type := .byte, accessFlags := 24, slot := 5, constantValue := 0 }, { name := "UTF16", type := .byte, accessFlags := 24, slot := 6, constantValue := 0 }]
  methods := #[k9m0]
  instanceTypes := #[(.array .byte), .byte, .int, .boolean]
  staticTypes := #[.long, .boolean, (.array (.object "java/io/ObjectStreamField")), .char, (.object "java/util/Comparator"), .byte, .byte]
  resolved := Array.replicate 1451 none
  statics := none }

def pool10 : Array CpInfo := pool [(1, u "java/lang/Cloneable"), (0, .class_ 1), (0, u "java/lang/Object"), (0, .class_ 3)] 3

/-- java/lang/Cloneable -/
def k10 : Class := { plain "java/lang/Cloneable" (some 0) with
  accessFlags := 1537
  interfaces := #[]
  cf := some (fileOf pool10 2 #[] #[] 1537 4 #[] #[])
  fields := #[]
  methods := #[]
  instanceTypes := #[]
  staticTypes := #[]
  resolved := Array.replicate 8 none
  statics := none }

/-- the primitive byte -/
def k11 : Class := { plain "byte" none with kind := .primitive 'B', accessFlags := 0x411 }
/-- [B -/
def k12 : Class := { plain "[B" (some 0) with kind := .array 11 .byte, interfaces := #[10, 4], accessFlags := 1041 }

/-- the primitive int -/
def k13 : Class := { plain "int" none with kind := .primitive 'I', accessFlags := 0x411 }
/-- [I -/
def k14 : Class := { plain "[I" (some 0) with kind := .array 13 .int, interfaces := #[10, 4], accessFlags := 1041 }

def heap : Heap := #[]
def classes : Array Class := #[k0, k1, k2, k3, k4, k5, k6, k7, k8, k9, k10, k11, k12, k13, k14]
def interned : List (Array UInt16 × Addr) := []
def slotsUsed : Nat := 0
def theMethod : MethodId := ⟨1, 1⟩
def args0 : Array Value := #[.long 5, .long 6, .long 7, .long 8]
def aboutOver (below : List Frame) : State where
  vm := { classes := classes, interned := interned.toArray }
  heap := heap
  slotsUsed := slotsUsed
  threads := #[{ frames := .invoking theMethod args0 :: below }]
def below0 : List Frame := [.native { method := ⟨0, 0⟩, args := #[] }]
def about1 : State := aboutOver below0
def p0 : Program := .bare "" "" ""
def e0 : Env := launch0.env 0 0 0
theorem w_frames : about1.frames = Frame.invoking theMethod args0 :: below0 := rfl
set_option maxRecDepth 65536 in
theorem w_args : argsFit about1.vm theMethod args0 = true := by decide +kernel
set_option maxRecDepth 65536 in
theorem w_heap : heapFits about1 = true := by decide +kernel
set_option maxRecDepth 65536 in
theorem w_runnable : about1.curStatus? = some .runnable := by decide +kernel
set_option maxRecDepth 65536 in
theorem w_alone : about1.alone = true := by decide +kernel
set_option maxRecDepth 65536 in
theorem w_named : about1.methodNamed? x = some theMethod := by decide +kernel
set_option maxRecDepth 65536 in
theorem w_hears : about1.hears theMethod below0 = true := by decide +kernel
set_option maxRecDepth 65536 in
theorem w_ripe : about1.ripe theMethod args0 below0 = true := by decide +kernel
theorem w_running : about1.status = .running := rfl
set_option maxRecDepth 65536 in
theorem w_room : about1.hasRoom e0.platform room_1 = true :=
  launch0.hasRoom_least _ room_1 (by decide +kernel) (by decide +kernel) (by decide +kernel) (by decide +kernel) (by decide +kernel) (by decide +kernel)
theorem allAtoms_all (ts : List Jvm.Cond) (a : Array Jvm.Value) (st : Jvm.State) : (allAtoms ts).before a st = ts.all (fun c => c.before a st) := by
  induction ts with
  | nil => rfl
  | cons c t ih =>
    show (Jvm.Cond.and c (allAtoms t)).before a st = _
    rw [Jvm.Cond.before_and, ih, List.all_cons]
def words1 : List Jvm.Cond := Jvm.Cond.code x code maxLocals ret :: tables_1
/-- a 'code' word, met by the world's own term for the bytes: nothing is compared byte by byte -/
theorem code_word {y : MethodName} {bytes : ByteArray} {mx : Nat} {rt : Option FieldType} {a : Array Value} {s : State} {m : MethodId} {meth : Method} {c : Code} (h1 : s.methodNamed? y = some m) (h2 : s.vm.method? m = some meth) (h3 : meth.code = some c) (h4 : c.code = bytes)
    (h5 : (c.maxLocals == mx && c.exceptionTable.isEmpty && decide (c.maxStack ≤ mostOperands) && decide (meth.sig.returnType = rt) && !meth.locks && decide (parseMethodDescriptor y.desc = some meth.sig)) = true) : (Jvm.Cond.code y bytes mx rt).before a s = true := by
  simp only [Bool.and_eq_true, beq_iff_eq, Bool.not_eq_true', decide_eq_true_eq] at h5
  obtain ⟨⟨⟨⟨⟨g1, g2⟩, g3⟩, g4⟩, g5⟩, g6⟩ := h5
  simp [Cond.before, Cond.holds, Cond.value, h1, h2, h3, h4, g1, g2, g3, g4, g5, g6]
def isCode : Jvm.Cond → Bool
  | .code _ _ _ _ => true
  | _ => false
theorem all_split {L : List Jvm.Cond} {P : Jvm.Cond → Bool} (h1 : L.all (fun c => isCode c || P c) = true) (h2 : ∀ c ∈ L.filter isCode, P c = true) : L.all P = true := by
  refine List.all_eq_true.mpr fun c hc => ?_
  have h := List.all_eq_true.mp h1 c hc
  rcases Bool.eq_false_or_eq_true (isCode c) with hi | hi
  · exact h2 c (List.mem_filter.mpr ⟨hc, hi⟩)
  · simpa [hi] using h
set_option maxRecDepth 65536 in
theorem w_c0 : (Jvm.Cond.code x code maxLocals ret).before args0 about1 = true := code_word (m := ⟨1, 1⟩) (meth := k1m1) (c := k1c1) (by decide +kernel) rfl rfl rfl (by decide +kernel)
set_option maxRecDepth 65536 in
theorem w_c1 : (Jvm.Cond.code ({ cls := "com/example/windo/windo/model/StormCount$Values", name := "<init>", desc := "(JJJ)V" } : Jvm.MethodName) prog_30_method_1_code (11 : Nat) (Option.none : Option Jvm.ClassFile.FieldType)).before args0 about1 = true := code_word (m := ⟨2, 0⟩) (meth := k2m0) (c := k2c0) (by decide +kernel) rfl rfl rfl (by decide +kernel)
set_option maxRecDepth 65536 in
theorem w_c2 : (Jvm.Cond.code ({ cls := "java/lang/Object", name := "<init>", desc := "()V" } : Jvm.MethodName) object_method_1_code (1 : Nat) (Option.none : Option Jvm.ClassFile.FieldType)).before args0 about1 = true := code_word (m := ⟨0, 0⟩) (meth := k0m0) (c := k0c0) (by decide +kernel) rfl rfl rfl (by decide +kernel)
set_option maxRecDepth 65536 in
theorem w_c3 : (Jvm.Cond.code ({ cls := "com/example/windo/windo/model/Rule", name := "checkWindow", desc := "(J)V" } : Jvm.MethodName) prog_26_method_8_code (2 : Nat) (Option.none : Option Jvm.ClassFile.FieldType)).before args0 about1 = true := code_word (m := ⟨3, 0⟩) (meth := k3m0) (c := k3c0) (by decide +kernel) rfl rfl rfl (by decide +kernel)
set_option maxRecDepth 65536 in
theorem w_c4 : (Jvm.Cond.code ({ cls := "com/example/windo/windo/model/Rule", name := "checkMillis", desc := "(Ljava/lang/String;J)V" } : Jvm.MethodName) prog_26_method_10_code (3 : Nat) (Option.none : Option Jvm.ClassFile.FieldType)).before args0 about1 = true := code_word (m := ⟨3, 1⟩) (meth := k3m1) (c := k3c1) (by decide +kernel) rfl rfl rfl (by decide +kernel)
set_option maxRecDepth 65536 in
theorem w_c5 : (Jvm.Cond.code ({ cls := "com/example/windo/windo/model/StormCount$Values", name := "isStorm", desc := "(J)Z" } : Jvm.MethodName) prog_30_method_5_code (3 : Nat) (Option.some Jvm.ClassFile.FieldType.boolean)).before args0 about1 = true := code_word (m := ⟨2, 1⟩) (meth := k2m1) (c := k2c1) (by decide +kernel) rfl rfl rfl (by decide +kernel)
def codes1 : List Jvm.Cond := [Jvm.Cond.code x code maxLocals ret, Jvm.Cond.code ({ cls := "com/example/windo/windo/model/StormCount$Values", name := "<init>", desc := "(JJJ)V" } : Jvm.MethodName) prog_30_method_1_code (11 : Nat) (Option.none : Option Jvm.ClassFile.FieldType), Jvm.Cond.code ({ cls := "java/lang/Object", name := "<init>", desc := "()V" } : Jvm.MethodName) object_method_1_code (1 : Nat) (Option.none : Option Jvm.ClassFile.FieldType), Jvm.Cond.code ({ cls := "com/example/windo/windo/model/Rule", name := "checkWindow", desc := "(J)V" } : Jvm.MethodName) prog_26_method_8_code (2 : Nat) (Option.none : Option Jvm.ClassFile.FieldType), Jvm.Cond.code ({ cls := "com/example/windo/windo/model/Rule", name := "checkMillis", desc := "(Ljava/lang/String;J)V" } : Jvm.MethodName) prog_26_method_10_code (3 : Nat) (Option.none : Option Jvm.ClassFile.FieldType), Jvm.Cond.code ({ cls := "com/example/windo/windo/model/StormCount$Values", name := "isStorm", desc := "(J)Z" } : Jvm.MethodName) prog_30_method_5_code (3 : Nat) (Option.some Jvm.ClassFile.FieldType.boolean)]
set_option maxRecDepth 65536 in
theorem codes_eq : words1.filter isCode = codes1 := rfl
theorem w_codes : ∀ c ∈ words1.filter isCode, c.before args0 about1 = true := by
  rw [codes_eq]
  intro c hc
  simp only [codes1, List.mem_cons, List.not_mem_nil, or_false] at hc
  rcases hc with rfl | rfl | rfl | rfl | rfl | rfl
  · exact w_c0
  · exact w_c1
  · exact w_c2
  · exact w_c3
  · exact w_c4
  · exact w_c5
set_option maxRecDepth 65536 in
theorem w_t1 : (words1.take 24).all (fun c => isCode c || c.before args0 about1) = true := by decide +kernel
set_option maxRecDepth 65536 in
theorem w_t2 : (words1.drop 24).all (fun c => isCode c || c.before args0 about1) = true := by decide +kernel
theorem w_tables : (allAtoms (Jvm.Cond.code x code maxLocals ret :: tables_1)).before args0 about1 = true := by
  rw [allAtoms_all]
  show words1.all (fun c => c.before args0 about1) = true
  refine all_split ?_ w_codes
  rw [← List.take_append_drop 24 words1, List.all_append, w_t1, w_t2]
  rfl
set_option maxRecDepth 65536 in
theorem w_case : (Jvm.Cond.and given_1 narrow_1).before args0 about1 = true := by decide +kernel
theorem w_applies : (headSpec (Jvm.Cond.code x code maxLocals ret :: tables_1) room_1).applies x e0.platform about1 = true :=
  (Spec.applies_iff w_frames).mpr ⟨w_running, w_runnable, w_alone, w_named, w_hears, w_ripe, w_room, w_tables⟩
theorem atStart : AtStart classFile x code maxLocals ret World_1 tables_1 room_1 Calls_1 rest_1 Pre_1 launch0 p0 e0 about1 theMethod args0 below0 :=
  ⟨lists_1, trivial, launch0.admits_env _ _ _, launch0.least_env, fairChoices_fair.cas, fairChoices_fair.clock, w_frames, w_args, w_heap, w_applies, trivial, trivial, w_case⟩
end start1
theorem witness_1 : WitnessClaimed_1 := ⟨start1.p0, start1.e0, start1.about1, start1.theMethod, start1.args0, start1.below0, start1.atStart⟩
end Jvm.Pilot.@@N@@
